import JvmDerived
import JvmDerived.Pilot.@@N@@Statement
import JvmDerived.Pilot.@@N@@Code
set_option linter.unusedVariables false
set_option linter.unusedSimpArgs false
namespace Jvm.Pilot.@@N@@
open Jvm Jvm.ClassFile Sem Op Lib Jvm.Free Jvm.Stand Jvm.LawKit Jvm.RoadKit Bundle Jvm.Pilot.@@N@@.Jvm.D
section Own
variable {p : Program} {l : Launch} {e : Env} {R : Room} {s : State} {m : MethodId} {args : Array Value} {below : List Frame} {meth : Method} {c : Code} {T : State} {locs : List Loc} {cells slots : Nat} {P : Option Value → Heap → List Loc → Prop} {kk nn : Nat}
/-- from U a run comes to an end at which P holds, within kk cells and nn slots -/
def Go (p : Program) (e : Env) (below : List Frame) (s : State) (P : Option Value → Heap → List Loc → Prop) (kk nn : Nat) (U : State) : Prop :=
  ∃ s₂ o, Steps p.tables e below U s₂ ∧ s₂.status = .running ∧ Ended s₂ below o ∧ ∃ v L, o = .returned v ∧ P v s₂.heap L ∧ FrameEnd s o s₂ L kk nn
theorem Go.pull {U V : State} (h : ∀ t, Steps p.tables e below V t → Steps p.tables e below U t) (g : Go p e below s P kk nn V) : Go p e below s P kk nn U := by
  obtain ⟨s2, o, h1, h2⟩ := g
  exact ⟨s2, o, h _ h1, h2⟩
theorem Go.fin (X : Stand p l e R s m args below meth c T locs cells slots) {f : JFrame} {v : Option Value} (hlk : meth.locks = false) (hv : meth.sig.returnType = none → v = none)
    (hs : ∀ fs, (∀ (f : JFrame) (acts : List Action), f.method = m → f.locked = none → f.entered = [] → (doReturn e (T.setTop f) acts v).1 = T.setFrames fs) → Steps p.tables e below (T.setTop f) (T.setFrames fs))
    (hP : P v T.heap locs) (hk : cells ≤ kk) (hn : slots ≤ nn) : Go p e below s P kk nn (T.setTop f) := by
  obtain ⟨fs, hr, hrun, hended, hW, hsame⟩ := X.leave (v := v) hv hlk
  exact ⟨_, _, hs fs hr, hrun, hended, _, _, rfl, hP, ⟨_, rfl⟩, hW, hsame.mono hk hn⟩
theorem Go.retN (X : Stand p l e R s m args below meth c T locs cells slots) (hx : p.tables.exec = Jvm.exec) (hlk : meth.locks = false) {pc : Nat} {Ls : Array Slot} {z : Int32} {t : FieldType} {rest : List Value} (hret : meth.sig.returnType = some t) (ht : t = .boolean ∨ t = .byte ∨ t = .char ∨ t = .short)
    (hd : decode c.code pc = .ok (.ireturn, 1)) (hP : P (some (.int (nar t z))) T.heap locs) (hk : cells ≤ kk) (hn : slots ≤ nn) : Go p e below s P kk nn (T.setTop (mkF m pc Ls (.int z :: rest))) :=
  Go.fin X hlk (fun h => by rw [hret] at h; cases h) (fun fs hr => RoadKit.retN X hx hret ht hd hr) hP hk hn
theorem Go.retI (X : Stand p l e R s m args below meth c T locs cells slots) (hx : p.tables.exec = Jvm.exec) (hlk : meth.locks = false) {pc : Nat} {Ls : Array Slot} {z : Int32} {rest : List Value} (hret : meth.sig.returnType = some .int)
    (hd : decode c.code pc = .ok (.ireturn, 1)) (hP : P (some (.int z)) T.heap locs) (hk : cells ≤ kk) (hn : slots ≤ nn) : Go p e below s P kk nn (T.setTop (mkF m pc Ls (.int z :: rest))) :=
  Go.fin X hlk (fun h => by rw [hret] at h; cases h) (fun fs hr => retOut X hx hret rfl (Or.inl ⟨rfl, Or.inl rfl, z, rfl⟩) hd hr) hP hk hn
theorem Go.retJ (X : Stand p l e R s m args below meth c T locs cells slots) (hx : p.tables.exec = Jvm.exec) (hlk : meth.locks = false) {pc : Nat} {Ls : Array Slot} {z : Int64} {rest : List Value} (hret : meth.sig.returnType = some .long)
    (hd : decode c.code pc = .ok (.lreturn, 1)) (hP : P (some (.long z)) T.heap locs) (hk : cells ≤ kk) (hn : slots ≤ nn) : Go p e below s P kk nn (T.setTop (mkF m pc Ls (.long z :: rest))) :=
  Go.fin X hlk (fun h => by rw [hret] at h; cases h) (fun fs hr => retOut X hx hret rfl (Or.inr (Or.inl ⟨rfl, rfl, z, rfl⟩)) hd hr) hP hk hn
theorem Go.retR (X : Stand p l e R s m args below meth c T locs cells slots) (hx : p.tables.exec = Jvm.exec) (hlk : meth.locks = false) {pc : Nat} {Ls : Array Slot} {w : Value} {t : FieldType} {rest : List Value} (hret : meth.sig.returnType = some t) (hna : narrow t w = w) (ht : t.isReference = true) (hw : w.isRef = true)
    (hd : decode c.code pc = .ok (.areturn, 1)) (hP : P (some w) T.heap locs) (hk : cells ≤ kk) (hn : slots ≤ nn) : Go p e below s P kk nn (T.setTop (mkF m pc Ls (w :: rest))) :=
  Go.fin X hlk (fun h => by rw [hret] at h; cases h) (fun fs hr => retOut X hx hret hna (Or.inr (Or.inr (Or.inr (Or.inr ⟨rfl, ht, hw⟩)))) hd hr) hP hk hn
theorem Go.ret0 (X : Stand p l e R s m args below meth c T locs cells slots) (hx : p.tables.exec = Jvm.exec) (hlk : meth.locks = false) {pc : Nat} {Ls : Array Slot} (hret : meth.sig.returnType = none)
    (hd : decode c.code pc = .ok (.return_, 1)) (hP : P none T.heap locs) (hk : cells ≤ kk) (hn : slots ≤ nn) : Go p e below s P kk nn (T.setTop (mkF m pc Ls [])) :=
  Go.fin X hlk (fun _ => rfl) (fun fs hr => X.returnOut hx hret hd hr) hP hk hn
theorem own_lsw {tb : Tables} [Ours tb] {e : Env} {below : List Frame} {T target : State} {m : MethodId} {c : Code} {g : JFrame} (h : At T m c below) (hx : tb.exec = Jvm.exec) (hg : g.method = m) {dflt : Int} {prs : Array (Int × Int)} {len : Nat} {o : Int} {pc0 pc' : Nat} (hpc : g.pc = pc0)
    (hd : decode c.code g.pc = .ok (.lookupswitch dflt prs, len)) {i : Int32} {rest : List Value} (hs : g.stack = .int i :: rest) (hord : (prs.toList.zip (prs.toList.drop 1)).all (fun (a, next) => a.1 < next.1) = true) (hoff : lookupswitch.offset prs.toList dflt i.toInt = o)
    (ho : 0 ≤ (pc0 : Int) + o) (hp : ((pc0 : Int) + o).toNat = pc') (hr : Steps tb e below (T.setTop { g with pc := pc', stack := rest }) target) : Steps tb e below (T.setTop g) target := by
  subst hg hpc hp hoff
  jvm_step h [h.top, hx, hd, hs, ho, lookupswitch.wp_chain]
  exact ⟨by simpa using hord, hr⟩
theorem own_eq_i {t : Term} {n : Int32} {first : State} {o : Option Outcome} {idx : List Nat} (h : (Cond.eq t (.int n)).value args first o s idx = some true) : t.eval args first o idx s = some (.int n) := by
  obtain ⟨x, y, e1, e2, k1, k2⟩ := cmp_v (Or.inl h)
  cases (Term.int_eval n).symm.trans e2
  obtain ⟨z, rfl⟩ : ∃ z, x = .int z := k2
  rw [e1, gotT (Cond.eq_ints e1 e2) h]
theorem own_eq_l {t : Term} {n : Int64} {first : State} {o : Option Outcome} {idx : List Nat} (h : (Cond.eq t (.long n)).value args first o s idx = some true) : t.eval args first o idx s = some (.long n) := by
  obtain ⟨x, y, e1, e2, k1, k2⟩ := cmp_v (Or.inl h)
  have e3 : (Term.long n).eval args first o idx s = some (.long n) := rfl
  cases e3.symm.trans e2
  obtain ⟨z, rfl⟩ : ∃ z, x = .long z := k2
  rw [e1, gotT (eq_L e1 e2) h]
theorem own_eq_r {t u : Term} {a : Addr} {first : State} {o : Option Outcome} {idx : List Nat} (hu : u.eval args first o idx s = some (.ref a)) (h : (Cond.eq t u).value args first o s idx = some true) : t.eval args first o idx s = some (.ref a) := by
  obtain ⟨x, y, e1, e2, k1, k2⟩ := cmp_v (Or.inl h)
  cases hu.symm.trans e2
  have k3 : (Value.ref a).isRef = true ∧ x.isRef = true := k2
  rw [e1, gotT (eq_R e1 e2 k3.2 rfl) h]
theorem own_sta_keep {Z : State} {h h' : Heap} {C n d : String} {w : Value} {ws : List Addr} (F : Sta Z h C n d w) (K : Keep h h' ws) (q : ∀ x ∈ ws, ∃ c : Cell, h[x]? = some c ∧ ∀ q, c.vm ≠ .statics q) : Sta Z h' C n d w := by
  obtain ⟨cf, i, k, f, st, cell, h1, h2, h3, h4, h5, h6, h7⟩ := F
  refine ⟨cf, i, k, f, st, cell, h1, h2, h3, h4, K.2.1 st cell h5 (fun hm => ?_), h6, h7⟩
  obtain ⟨c, hc, hq⟩ := q st hm
  cases h5.symm.trans hc
  cases hv : cell.vm with
  | statics r => exact hq r hv
  | _ => rw [hv] at h6; cases h6
end Own
theorem pd_0 : parseMethodDescriptor "(I)Lcom/example/facl/facl/Rights;" = some ⟨[.int], some (.object "com/example/facl/facl/Rights")⟩ := by decide +kernel
theorem pd_1 : parseMethodDescriptor "(III)Z" = some ⟨[.int, .int, .int], some .boolean⟩ := by decide +kernel
theorem pd_2 : parseMethodDescriptor "(Lcom/example/facl/facl/Rights;)Z" = some ⟨[(.object "com/example/facl/facl/Rights")], some .boolean⟩ := by decide +kernel
def own_cov (pa pb pc' : Int32) : Int32 := if (pb &&& pc') = 0 then 1 else if (pa &&& pc') = 0 then 0 else 1
def own_inc (pa pb : Int32) : Int32 := if (pa &&& pb) = pb then 1 else 0
theorem own_and7 (x : Int32) {v : Int32} (h : (x &&& (7 : Int32)) = v) : v = 0 ∨ v = 1 ∨ v = 2 ∨ v = 3 ∨ v = 4 ∨ v = 5 ∨ v = 6 ∨ v = 7 := by
  subst h
  have h1 : (x &&& (7 : Int32)).toInt = x.toInt % (2 ^ 3 : Nat) := c_mask x 7 3 (by decide) (by decide)
  have h2 : x.toInt % (2 ^ 3 : Nat) = 0 ∨ x.toInt % (2 ^ 3 : Nat) = 1 ∨ x.toInt % (2 ^ 3 : Nat) = 2 ∨ x.toInt % (2 ^ 3 : Nat) = 3 ∨ x.toInt % (2 ^ 3 : Nat) = 4 ∨ x.toInt % (2 ^ 3 : Nat) = 5 ∨ x.toInt % (2 ^ 3 : Nat) = 6 ∨ x.toInt % (2 ^ 3 : Nat) = 7 := by omega
  rcases h2 with h2 | h2 | h2 | h2 | h2 | h2 | h2 | h2
  · exact (Or.inl (Int32.toInt_inj.mp (by rw [h1, h2] <;> rfl)))
  · exact (Or.inr (Or.inl (Int32.toInt_inj.mp (by rw [h1, h2] <;> rfl))))
  · exact (Or.inr (Or.inr (Or.inl (Int32.toInt_inj.mp (by rw [h1, h2] <;> rfl)))))
  · exact (Or.inr (Or.inr (Or.inr (Or.inl (Int32.toInt_inj.mp (by rw [h1, h2] <;> rfl))))))
  · exact (Or.inr (Or.inr (Or.inr (Or.inr (Or.inl (Int32.toInt_inj.mp (by rw [h1, h2] <;> rfl)))))))
  · exact (Or.inr (Or.inr (Or.inr (Or.inr (Or.inr (Or.inl (Int32.toInt_inj.mp (by rw [h1, h2] <;> rfl))))))))
  · exact (Or.inr (Or.inr (Or.inr (Or.inr (Or.inr (Or.inr (Or.inl (Int32.toInt_inj.mp (by rw [h1, h2] <;> rfl)))))))))
  · exact (Or.inr (Or.inr (Or.inr (Or.inr (Or.inr (Or.inr (Or.inr (Int32.toInt_inj.mp (by rw [h1, h2] <;> rfl)))))))))
theorem own_law {a b : Int32} (ha : a = 0 ∨ a = 1 ∨ a = 2 ∨ a = 3 ∨ a = 4 ∨ a = 5 ∨ a = 6 ∨ a = 7) (hb : b = 0 ∨ b = 1 ∨ b = 2 ∨ b = 3 ∨ b = 4 ∨ b = 5 ∨ b = 6 ∨ b = 7) : own_inc a b = if own_cov a b 4 = 0 then 0 else if own_cov a b 2 = 0 then 0 else if own_cov a b 1 = 0 then 0 else 1 := by
  rcases ha with rfl | rfl | rfl | rfl | rfl | rfl | rfl | rfl <;> rcases hb with rfl | rfl | rfl | rfl | rfl | rfl | rfl | rfl <;> decide
theorem dP_0 : decode method_4_code 0 = .ok (.iload_n 0, 1) := by decide +kernel
theorem dP_1 : decode method_4_code 1 = .ok (.ifCond .ne 7, 3) := by decide +kernel
theorem dP_4 : decode method_4_code 4 = .ok (.getstatic 23, 3) := by decide +kernel
theorem dP_7 : decode method_4_code 7 = .ok (.areturn, 1) := by decide +kernel
theorem dP_8 : decode method_4_code 8 = .ok (.iload_n 0, 1) := by decide +kernel
theorem dP_9 : decode method_4_code 9 = .ok (.iconst 1, 1) := by decide +kernel
theorem dP_10 : decode method_4_code 10 = .ok (.if_icmp .ne 7, 3) := by decide +kernel
theorem dP_13 : decode method_4_code 13 = .ok (.getstatic 27, 3) := by decide +kernel
theorem dP_16 : decode method_4_code 16 = .ok (.areturn, 1) := by decide +kernel
theorem dP_17 : decode method_4_code 17 = .ok (.iload_n 0, 1) := by decide +kernel
theorem dP_18 : decode method_4_code 18 = .ok (.iconst 2, 1) := by decide +kernel
theorem dP_19 : decode method_4_code 19 = .ok (.if_icmp .ne 7, 3) := by decide +kernel
theorem dP_22 : decode method_4_code 22 = .ok (.getstatic 30, 3) := by decide +kernel
theorem dP_25 : decode method_4_code 25 = .ok (.areturn, 1) := by decide +kernel
theorem dP_26 : decode method_4_code 26 = .ok (.iload_n 0, 1) := by decide +kernel
theorem dP_27 : decode method_4_code 27 = .ok (.iconst 3, 1) := by decide +kernel
theorem dP_28 : decode method_4_code 28 = .ok (.if_icmp .ne 7, 3) := by decide +kernel
theorem dP_31 : decode method_4_code 31 = .ok (.getstatic 33, 3) := by decide +kernel
theorem dP_34 : decode method_4_code 34 = .ok (.areturn, 1) := by decide +kernel
theorem dP_35 : decode method_4_code 35 = .ok (.iload_n 0, 1) := by decide +kernel
theorem dP_36 : decode method_4_code 36 = .ok (.iconst 4, 1) := by decide +kernel
theorem dP_37 : decode method_4_code 37 = .ok (.if_icmp .ne 7, 3) := by decide +kernel
theorem dP_40 : decode method_4_code 40 = .ok (.getstatic 36, 3) := by decide +kernel
theorem dP_43 : decode method_4_code 43 = .ok (.areturn, 1) := by decide +kernel
theorem dP_44 : decode method_4_code 44 = .ok (.iload_n 0, 1) := by decide +kernel
theorem dP_45 : decode method_4_code 45 = .ok (.iconst 5, 1) := by decide +kernel
theorem dP_46 : decode method_4_code 46 = .ok (.if_icmp .ne 7, 3) := by decide +kernel
theorem dP_49 : decode method_4_code 49 = .ok (.getstatic 39, 3) := by decide +kernel
theorem dP_52 : decode method_4_code 52 = .ok (.areturn, 1) := by decide +kernel
theorem dP_53 : decode method_4_code 53 = .ok (.iload_n 0, 1) := by decide +kernel
theorem dP_54 : decode method_4_code 54 = .ok (.bipush 6, 2) := by decide +kernel
theorem dP_56 : decode method_4_code 56 = .ok (.if_icmp .ne 7, 3) := by decide +kernel
theorem dP_59 : decode method_4_code 59 = .ok (.getstatic 42, 3) := by decide +kernel
theorem dP_62 : decode method_4_code 62 = .ok (.areturn, 1) := by decide +kernel
theorem dP_63 : decode method_4_code 63 = .ok (.getstatic 45, 3) := by decide +kernel
theorem dP_66 : decode method_4_code 66 = .ok (.areturn, 1) := by decide +kernel
theorem efP (m : MethodId) (x0 : Int32) : entryFrame m #[(.int x0)] 1 = mkF m 0 #[iv x0] [] := by first | (simp [entryFrame, mkF, argsToLocals, Value.category]; done) | rfl
theorem pn_com_example_facl_facl_RightsIncludesPinLaw : plainName "com/example/facl/facl/RightsIncludesPinLaw" = true := by first | (simp [plainName, overriddenIn]; done) | decide +kernel
def QP (Z : State) (pn : Int32) (r_Rights_NONE : Addr) (r_Rights_EXECUTE : Addr) (r_Rights_WRITE : Addr) (r_Rights_WRITE_EXECUTE : Addr) (r_Rights_READ : Addr) (r_Rights_READ_EXECUTE : Addr) (r_Rights_READ_WRITE : Addr) (r_Rights_ALL : Addr) (h0 : Heap) (n0 : Nat) (v : Option Value) (h : Heap) (L : List Loc) : Prop := ∃ (w : Addr), v = some (.ref w) ∧ Fr n0 L ∧ h = h0 ∧ Exa Z h0 w "com/example/facl/facl/Rights" ∧ Fld Z h0 w "com/example/facl/facl/Rights" "bits" "I" (.int pn)
set_option maxRecDepth 65536 in
set_option maxHeartbeats 40000000 in
theorem rmP (l : Launch) (Z : State) (a0 : Array Value) (hw : ∀ d ∈ tables_1, d.before a0 Z = true) (ws : List Jvm.Cond) (pn : Int32) (r_Rights_NONE : Addr) (r_Rights_EXECUTE : Addr) (r_Rights_WRITE : Addr) (r_Rights_WRITE_EXECUTE : Addr) (r_Rights_READ : Addr) (r_Rights_READ_EXECUTE : Addr) (r_Rights_READ_WRITE : Addr) (r_Rights_ALL : Addr) (h0 : Heap) (n0 : Nat) (S_r_Rights_NONE : Sta Z h0 "com/example/facl/facl/Rights" "NONE" "Lcom/example/facl/facl/Rights;" (.ref r_Rights_NONE)) (E_r_Rights_NONE : Exa Z h0 r_Rights_NONE "com/example/facl/facl/Rights") (F_r_Rights_NONE_bits : Fld Z h0 r_Rights_NONE "com/example/facl/facl/Rights" "bits" "I" (.int 0)) (S_r_Rights_EXECUTE : Sta Z h0 "com/example/facl/facl/Rights" "EXECUTE" "Lcom/example/facl/facl/Rights;" (.ref r_Rights_EXECUTE)) (E_r_Rights_EXECUTE : Exa Z h0 r_Rights_EXECUTE "com/example/facl/facl/Rights") (F_r_Rights_EXECUTE_bits : Fld Z h0 r_Rights_EXECUTE "com/example/facl/facl/Rights" "bits" "I" (.int 1)) (S_r_Rights_WRITE : Sta Z h0 "com/example/facl/facl/Rights" "WRITE" "Lcom/example/facl/facl/Rights;" (.ref r_Rights_WRITE)) (E_r_Rights_WRITE : Exa Z h0 r_Rights_WRITE "com/example/facl/facl/Rights") (F_r_Rights_WRITE_bits : Fld Z h0 r_Rights_WRITE "com/example/facl/facl/Rights" "bits" "I" (.int 2)) (S_r_Rights_WRITE_EXECUTE : Sta Z h0 "com/example/facl/facl/Rights" "WRITE_EXECUTE" "Lcom/example/facl/facl/Rights;" (.ref r_Rights_WRITE_EXECUTE)) (E_r_Rights_WRITE_EXECUTE : Exa Z h0 r_Rights_WRITE_EXECUTE "com/example/facl/facl/Rights") (F_r_Rights_WRITE_EXECUTE_bits : Fld Z h0 r_Rights_WRITE_EXECUTE "com/example/facl/facl/Rights" "bits" "I" (.int 3)) (S_r_Rights_READ : Sta Z h0 "com/example/facl/facl/Rights" "READ" "Lcom/example/facl/facl/Rights;" (.ref r_Rights_READ)) (E_r_Rights_READ : Exa Z h0 r_Rights_READ "com/example/facl/facl/Rights") (F_r_Rights_READ_bits : Fld Z h0 r_Rights_READ "com/example/facl/facl/Rights" "bits" "I" (.int 4)) (S_r_Rights_READ_EXECUTE : Sta Z h0 "com/example/facl/facl/Rights" "READ_EXECUTE" "Lcom/example/facl/facl/Rights;" (.ref r_Rights_READ_EXECUTE)) (E_r_Rights_READ_EXECUTE : Exa Z h0 r_Rights_READ_EXECUTE "com/example/facl/facl/Rights") (F_r_Rights_READ_EXECUTE_bits : Fld Z h0 r_Rights_READ_EXECUTE "com/example/facl/facl/Rights" "bits" "I" (.int 5)) (S_r_Rights_READ_WRITE : Sta Z h0 "com/example/facl/facl/Rights" "READ_WRITE" "Lcom/example/facl/facl/Rights;" (.ref r_Rights_READ_WRITE)) (E_r_Rights_READ_WRITE : Exa Z h0 r_Rights_READ_WRITE "com/example/facl/facl/Rights") (F_r_Rights_READ_WRITE_bits : Fld Z h0 r_Rights_READ_WRITE "com/example/facl/facl/Rights" "bits" "I" (.int 6)) (S_r_Rights_ALL : Sta Z h0 "com/example/facl/facl/Rights" "ALL" "Lcom/example/facl/facl/Rights;" (.ref r_Rights_ALL)) (E_r_Rights_ALL : Exa Z h0 r_Rights_ALL "com/example/facl/facl/Rights") (F_r_Rights_ALL_bits : Fld Z h0 r_Rights_ALL "com/example/facl/facl/Rights" "bits" "I" (.int 7)) (hpn : pn = 0 ∨ pn = 1 ∨ pn = 2 ∨ pn = 3 ∨ pn = 4 ∨ pn = 5 ∨ pn = 6 ∨ pn = 7) :
    MetFree l (⟨"com/example/facl/facl/RightsIncludesPinLaw", "pick", "(I)Lcom/example/facl/facl/Rights;"⟩ : MethodName) (head1 (Jvm.Cond.code (⟨"com/example/facl/facl/RightsIncludesPinLaw", "pick", "(I)Lcom/example/facl/facl/Rights;"⟩ : MethodName) method_4_code 1 (some (.object "com/example/facl/facl/Rights")) :: ws) ({ frames := 0, cells := 0, slots := 0, locals := 0 } : Room)) (fun as' U => as' = #[(.int pn)] ∧ Z.Warmed39 U.vm ∧ U.heap = h0) (fun _ _ _ _ _ => True) (fun _ U o U' => ∃ v L, o = .returned v ∧ QP Z pn r_Rights_NONE r_Rights_EXECUTE r_Rights_WRITE r_Rights_WRITE_EXECUTE r_Rights_READ r_Rights_READ_EXECUTE r_Rights_READ_WRITE r_Rights_ALL h0 n0 v U'.heap L ∧ FrameEnd U o U' L ({ frames := 0, cells := 0, slots := 0, locals := 0 } : Room).cells ({ frames := 0, cells := 0, slots := 0, locals := 0 } : Room).slots) := by
  refine MetFree.of_bodySF (plainFor_of_name pn_com_example_facl_facl_RightsIncludesPinLaw) hisR ?_
  intro p e s m args below meth c s₁ Bd hml0 hP hK
  obtain ⟨rfl, hZ, hh⟩ := hP
  have hx := Bd.exec
  have hby := Bd.bytes
  have hml : c.maxLocals = 1 := hml0
  have hown : s.vm.findClass "com/example/facl/facl/RightsIncludesPinLaw" = some m.cls := findClass_of_methodNamed Bd.named
  have hnm := (name_of_methodNamed Bd.named Bd.method).1
  have X0 : Stand p l e ({ frames := 0, cells := 0, slots := 0, locals := 0 } : Room) s m #[(.int pn)] below meth c s₁ [] 0 0 := Stand.of_body Bd
  have e0 : s₁.heap = h0 := by rw [← hh, Bd.state]; rfl
  have N0 := Fr.nil n0
  show Go p e below s (fun v h L => QP Z pn r_Rights_NONE r_Rights_EXECUTE r_Rights_WRITE r_Rights_WRITE_EXECUTE r_Rights_READ r_Rights_READ_EXECUTE r_Rights_READ_WRITE r_Rights_ALL h0 n0 v h L) 0 0 _
  refine Go.pull (V := s₁.setTop (mkF m 0 #[iv pn] [])) (fun t k => castTop (efP m pn) k) ?_
  rcases hpn with rfl | rfl | rfl | rfl | rfl | rfl | rfl | rfl
  · skip
    refine Go.pull (V := s₁.setTop (mkF m 1 #[iv 0] [(.int 0)])) (fun t k => XS.iloadN X0.here hx rfl (hb hby dP_0) rfl  k) ?_
    refine Go.pull (V := s₁.setTop (mkF m 4 #[iv 0] [])) (fun t k => XS.ifNo X0.here hx rfl (hb hby dP_1) rfl (XT.i0_ne_f (by decide)) k) ?_
    obtain ⟨T1, X1, e1, st1⟩ := getS2 X0 hx hZ hown (host := "") (Or.inl (hw _ (List.mem_of_getElem? (i := 4) rfl))) Via.refl e0 S_r_Rights_NONE (g := (mkF m 4 #[iv 0] [])) rfl (hb hby dP_4)
    refine Go.pull (V := T1.setTop (mkF m 7 #[iv 0] [(.ref r_Rights_NONE)])) st1 ?_
    exact Go.retR X1 hx Bd.notSynchronized Bd.returns rfl rfl rfl (hb hby dP_7) ⟨r_Rights_NONE, rfl, N0, e1, E_r_Rights_NONE, F_r_Rights_NONE_bits⟩ (by decide) (by decide)
  · skip
    refine Go.pull (V := s₁.setTop (mkF m 1 #[iv 1] [(.int 1)])) (fun t k => XS.iloadN X0.here hx rfl (hb hby dP_0) rfl  k) ?_
    refine Go.pull (V := s₁.setTop (mkF m 8 #[iv 1] [])) (fun t k => XS.ifYes X0.here hx rfl (pc0 := 1) (pc' := 8) rfl (hb hby dP_1) rfl (XT.i0_ne_t (by decide)) (by decide) (by decide) k) ?_
    refine Go.pull (V := s₁.setTop (mkF m 9 #[iv 1] [(.int 1)])) (fun t k => XS.iloadN X0.here hx rfl (hb hby dP_8) rfl  k) ?_
    refine Go.pull (V := s₁.setTop (mkF m 10 #[iv 1] [(.int 1), (.int 1)])) (fun t k => XS.iconst X0.here hx rfl (hb hby dP_9) k) ?_
    refine Go.pull (V := s₁.setTop (mkF m 13 #[iv 1] [])) (fun t k => XS.icmpNo X0.here hx rfl (hb hby dP_10) rfl (XT.ii_ne_f (by decide)) k) ?_
    obtain ⟨T2, X2, e2, st2⟩ := getS2 X0 hx hZ hown (host := "") (Or.inl (hw _ (List.mem_of_getElem? (i := 21) rfl))) Via.refl e0 S_r_Rights_EXECUTE (g := (mkF m 13 #[iv 1] [])) rfl (hb hby dP_13)
    refine Go.pull (V := T2.setTop (mkF m 16 #[iv 1] [(.ref r_Rights_EXECUTE)])) st2 ?_
    exact Go.retR X2 hx Bd.notSynchronized Bd.returns rfl rfl rfl (hb hby dP_16) ⟨r_Rights_EXECUTE, rfl, N0, e2, E_r_Rights_EXECUTE, F_r_Rights_EXECUTE_bits⟩ (by decide) (by decide)
  · skip
    refine Go.pull (V := s₁.setTop (mkF m 1 #[iv 2] [(.int 2)])) (fun t k => XS.iloadN X0.here hx rfl (hb hby dP_0) rfl  k) ?_
    refine Go.pull (V := s₁.setTop (mkF m 8 #[iv 2] [])) (fun t k => XS.ifYes X0.here hx rfl (pc0 := 1) (pc' := 8) rfl (hb hby dP_1) rfl (XT.i0_ne_t (by decide)) (by decide) (by decide) k) ?_
    refine Go.pull (V := s₁.setTop (mkF m 9 #[iv 2] [(.int 2)])) (fun t k => XS.iloadN X0.here hx rfl (hb hby dP_8) rfl  k) ?_
    refine Go.pull (V := s₁.setTop (mkF m 10 #[iv 2] [(.int 1), (.int 2)])) (fun t k => XS.iconst X0.here hx rfl (hb hby dP_9) k) ?_
    refine Go.pull (V := s₁.setTop (mkF m 17 #[iv 2] [])) (fun t k => XS.icmpYes X0.here hx rfl (pc0 := 10) (pc' := 17) rfl (hb hby dP_10) rfl (XT.ii_ne_t (by decide)) (by decide) (by decide) k) ?_
    refine Go.pull (V := s₁.setTop (mkF m 18 #[iv 2] [(.int 2)])) (fun t k => XS.iloadN X0.here hx rfl (hb hby dP_17) rfl  k) ?_
    refine Go.pull (V := s₁.setTop (mkF m 19 #[iv 2] [(.int 2), (.int 2)])) (fun t k => XS.iconst X0.here hx rfl (hb hby dP_18) k) ?_
    refine Go.pull (V := s₁.setTop (mkF m 22 #[iv 2] [])) (fun t k => XS.icmpNo X0.here hx rfl (hb hby dP_19) rfl (XT.ii_ne_f (by decide)) k) ?_
    obtain ⟨T3, X3, e3, st3⟩ := getS2 X0 hx hZ hown (host := "") (Or.inl (hw _ (List.mem_of_getElem? (i := 29) rfl))) Via.refl e0 S_r_Rights_WRITE (g := (mkF m 22 #[iv 2] [])) rfl (hb hby dP_22)
    refine Go.pull (V := T3.setTop (mkF m 25 #[iv 2] [(.ref r_Rights_WRITE)])) st3 ?_
    exact Go.retR X3 hx Bd.notSynchronized Bd.returns rfl rfl rfl (hb hby dP_25) ⟨r_Rights_WRITE, rfl, N0, e3, E_r_Rights_WRITE, F_r_Rights_WRITE_bits⟩ (by decide) (by decide)
  · skip
    refine Go.pull (V := s₁.setTop (mkF m 1 #[iv 3] [(.int 3)])) (fun t k => XS.iloadN X0.here hx rfl (hb hby dP_0) rfl  k) ?_
    refine Go.pull (V := s₁.setTop (mkF m 8 #[iv 3] [])) (fun t k => XS.ifYes X0.here hx rfl (pc0 := 1) (pc' := 8) rfl (hb hby dP_1) rfl (XT.i0_ne_t (by decide)) (by decide) (by decide) k) ?_
    refine Go.pull (V := s₁.setTop (mkF m 9 #[iv 3] [(.int 3)])) (fun t k => XS.iloadN X0.here hx rfl (hb hby dP_8) rfl  k) ?_
    refine Go.pull (V := s₁.setTop (mkF m 10 #[iv 3] [(.int 1), (.int 3)])) (fun t k => XS.iconst X0.here hx rfl (hb hby dP_9) k) ?_
    refine Go.pull (V := s₁.setTop (mkF m 17 #[iv 3] [])) (fun t k => XS.icmpYes X0.here hx rfl (pc0 := 10) (pc' := 17) rfl (hb hby dP_10) rfl (XT.ii_ne_t (by decide)) (by decide) (by decide) k) ?_
    refine Go.pull (V := s₁.setTop (mkF m 18 #[iv 3] [(.int 3)])) (fun t k => XS.iloadN X0.here hx rfl (hb hby dP_17) rfl  k) ?_
    refine Go.pull (V := s₁.setTop (mkF m 19 #[iv 3] [(.int 2), (.int 3)])) (fun t k => XS.iconst X0.here hx rfl (hb hby dP_18) k) ?_
    refine Go.pull (V := s₁.setTop (mkF m 26 #[iv 3] [])) (fun t k => XS.icmpYes X0.here hx rfl (pc0 := 19) (pc' := 26) rfl (hb hby dP_19) rfl (XT.ii_ne_t (by decide)) (by decide) (by decide) k) ?_
    refine Go.pull (V := s₁.setTop (mkF m 27 #[iv 3] [(.int 3)])) (fun t k => XS.iloadN X0.here hx rfl (hb hby dP_26) rfl  k) ?_
    refine Go.pull (V := s₁.setTop (mkF m 28 #[iv 3] [(.int 3), (.int 3)])) (fun t k => XS.iconst X0.here hx rfl (hb hby dP_27) k) ?_
    refine Go.pull (V := s₁.setTop (mkF m 31 #[iv 3] [])) (fun t k => XS.icmpNo X0.here hx rfl (hb hby dP_28) rfl (XT.ii_ne_f (by decide)) k) ?_
    obtain ⟨T4, X4, e4, st4⟩ := getS2 X0 hx hZ hown (host := "") (Or.inl (hw _ (List.mem_of_getElem? (i := 7) rfl))) Via.refl e0 S_r_Rights_WRITE_EXECUTE (g := (mkF m 31 #[iv 3] [])) rfl (hb hby dP_31)
    refine Go.pull (V := T4.setTop (mkF m 34 #[iv 3] [(.ref r_Rights_WRITE_EXECUTE)])) st4 ?_
    exact Go.retR X4 hx Bd.notSynchronized Bd.returns rfl rfl rfl (hb hby dP_34) ⟨r_Rights_WRITE_EXECUTE, rfl, N0, e4, E_r_Rights_WRITE_EXECUTE, F_r_Rights_WRITE_EXECUTE_bits⟩ (by decide) (by decide)
  · skip
    refine Go.pull (V := s₁.setTop (mkF m 1 #[iv 4] [(.int 4)])) (fun t k => XS.iloadN X0.here hx rfl (hb hby dP_0) rfl  k) ?_
    refine Go.pull (V := s₁.setTop (mkF m 8 #[iv 4] [])) (fun t k => XS.ifYes X0.here hx rfl (pc0 := 1) (pc' := 8) rfl (hb hby dP_1) rfl (XT.i0_ne_t (by decide)) (by decide) (by decide) k) ?_
    refine Go.pull (V := s₁.setTop (mkF m 9 #[iv 4] [(.int 4)])) (fun t k => XS.iloadN X0.here hx rfl (hb hby dP_8) rfl  k) ?_
    refine Go.pull (V := s₁.setTop (mkF m 10 #[iv 4] [(.int 1), (.int 4)])) (fun t k => XS.iconst X0.here hx rfl (hb hby dP_9) k) ?_
    refine Go.pull (V := s₁.setTop (mkF m 17 #[iv 4] [])) (fun t k => XS.icmpYes X0.here hx rfl (pc0 := 10) (pc' := 17) rfl (hb hby dP_10) rfl (XT.ii_ne_t (by decide)) (by decide) (by decide) k) ?_
    refine Go.pull (V := s₁.setTop (mkF m 18 #[iv 4] [(.int 4)])) (fun t k => XS.iloadN X0.here hx rfl (hb hby dP_17) rfl  k) ?_
    refine Go.pull (V := s₁.setTop (mkF m 19 #[iv 4] [(.int 2), (.int 4)])) (fun t k => XS.iconst X0.here hx rfl (hb hby dP_18) k) ?_
    refine Go.pull (V := s₁.setTop (mkF m 26 #[iv 4] [])) (fun t k => XS.icmpYes X0.here hx rfl (pc0 := 19) (pc' := 26) rfl (hb hby dP_19) rfl (XT.ii_ne_t (by decide)) (by decide) (by decide) k) ?_
    refine Go.pull (V := s₁.setTop (mkF m 27 #[iv 4] [(.int 4)])) (fun t k => XS.iloadN X0.here hx rfl (hb hby dP_26) rfl  k) ?_
    refine Go.pull (V := s₁.setTop (mkF m 28 #[iv 4] [(.int 3), (.int 4)])) (fun t k => XS.iconst X0.here hx rfl (hb hby dP_27) k) ?_
    refine Go.pull (V := s₁.setTop (mkF m 35 #[iv 4] [])) (fun t k => XS.icmpYes X0.here hx rfl (pc0 := 28) (pc' := 35) rfl (hb hby dP_28) rfl (XT.ii_ne_t (by decide)) (by decide) (by decide) k) ?_
    refine Go.pull (V := s₁.setTop (mkF m 36 #[iv 4] [(.int 4)])) (fun t k => XS.iloadN X0.here hx rfl (hb hby dP_35) rfl  k) ?_
    refine Go.pull (V := s₁.setTop (mkF m 37 #[iv 4] [(.int 4), (.int 4)])) (fun t k => XS.iconst X0.here hx rfl (hb hby dP_36) k) ?_
    refine Go.pull (V := s₁.setTop (mkF m 40 #[iv 4] [])) (fun t k => XS.icmpNo X0.here hx rfl (hb hby dP_37) rfl (XT.ii_ne_f (by decide)) k) ?_
    obtain ⟨T5, X5, e5, st5⟩ := getS2 X0 hx hZ hown (host := "") (Or.inl (hw _ (List.mem_of_getElem? (i := 23) rfl))) Via.refl e0 S_r_Rights_READ (g := (mkF m 40 #[iv 4] [])) rfl (hb hby dP_40)
    refine Go.pull (V := T5.setTop (mkF m 43 #[iv 4] [(.ref r_Rights_READ)])) st5 ?_
    exact Go.retR X5 hx Bd.notSynchronized Bd.returns rfl rfl rfl (hb hby dP_43) ⟨r_Rights_READ, rfl, N0, e5, E_r_Rights_READ, F_r_Rights_READ_bits⟩ (by decide) (by decide)
  · skip
    refine Go.pull (V := s₁.setTop (mkF m 1 #[iv 5] [(.int 5)])) (fun t k => XS.iloadN X0.here hx rfl (hb hby dP_0) rfl  k) ?_
    refine Go.pull (V := s₁.setTop (mkF m 8 #[iv 5] [])) (fun t k => XS.ifYes X0.here hx rfl (pc0 := 1) (pc' := 8) rfl (hb hby dP_1) rfl (XT.i0_ne_t (by decide)) (by decide) (by decide) k) ?_
    refine Go.pull (V := s₁.setTop (mkF m 9 #[iv 5] [(.int 5)])) (fun t k => XS.iloadN X0.here hx rfl (hb hby dP_8) rfl  k) ?_
    refine Go.pull (V := s₁.setTop (mkF m 10 #[iv 5] [(.int 1), (.int 5)])) (fun t k => XS.iconst X0.here hx rfl (hb hby dP_9) k) ?_
    refine Go.pull (V := s₁.setTop (mkF m 17 #[iv 5] [])) (fun t k => XS.icmpYes X0.here hx rfl (pc0 := 10) (pc' := 17) rfl (hb hby dP_10) rfl (XT.ii_ne_t (by decide)) (by decide) (by decide) k) ?_
    refine Go.pull (V := s₁.setTop (mkF m 18 #[iv 5] [(.int 5)])) (fun t k => XS.iloadN X0.here hx rfl (hb hby dP_17) rfl  k) ?_
    refine Go.pull (V := s₁.setTop (mkF m 19 #[iv 5] [(.int 2), (.int 5)])) (fun t k => XS.iconst X0.here hx rfl (hb hby dP_18) k) ?_
    refine Go.pull (V := s₁.setTop (mkF m 26 #[iv 5] [])) (fun t k => XS.icmpYes X0.here hx rfl (pc0 := 19) (pc' := 26) rfl (hb hby dP_19) rfl (XT.ii_ne_t (by decide)) (by decide) (by decide) k) ?_
    refine Go.pull (V := s₁.setTop (mkF m 27 #[iv 5] [(.int 5)])) (fun t k => XS.iloadN X0.here hx rfl (hb hby dP_26) rfl  k) ?_
    refine Go.pull (V := s₁.setTop (mkF m 28 #[iv 5] [(.int 3), (.int 5)])) (fun t k => XS.iconst X0.here hx rfl (hb hby dP_27) k) ?_
    refine Go.pull (V := s₁.setTop (mkF m 35 #[iv 5] [])) (fun t k => XS.icmpYes X0.here hx rfl (pc0 := 28) (pc' := 35) rfl (hb hby dP_28) rfl (XT.ii_ne_t (by decide)) (by decide) (by decide) k) ?_
    refine Go.pull (V := s₁.setTop (mkF m 36 #[iv 5] [(.int 5)])) (fun t k => XS.iloadN X0.here hx rfl (hb hby dP_35) rfl  k) ?_
    refine Go.pull (V := s₁.setTop (mkF m 37 #[iv 5] [(.int 4), (.int 5)])) (fun t k => XS.iconst X0.here hx rfl (hb hby dP_36) k) ?_
    refine Go.pull (V := s₁.setTop (mkF m 44 #[iv 5] [])) (fun t k => XS.icmpYes X0.here hx rfl (pc0 := 37) (pc' := 44) rfl (hb hby dP_37) rfl (XT.ii_ne_t (by decide)) (by decide) (by decide) k) ?_
    refine Go.pull (V := s₁.setTop (mkF m 45 #[iv 5] [(.int 5)])) (fun t k => XS.iloadN X0.here hx rfl (hb hby dP_44) rfl  k) ?_
    refine Go.pull (V := s₁.setTop (mkF m 46 #[iv 5] [(.int 5), (.int 5)])) (fun t k => XS.iconst X0.here hx rfl (hb hby dP_45) k) ?_
    refine Go.pull (V := s₁.setTop (mkF m 49 #[iv 5] [])) (fun t k => XS.icmpNo X0.here hx rfl (hb hby dP_46) rfl (XT.ii_ne_f (by decide)) k) ?_
    obtain ⟨T6, X6, e6, st6⟩ := getS2 X0 hx hZ hown (host := "") (Or.inl (hw _ (List.mem_of_getElem? (i := 25) rfl))) Via.refl e0 S_r_Rights_READ_EXECUTE (g := (mkF m 49 #[iv 5] [])) rfl (hb hby dP_49)
    refine Go.pull (V := T6.setTop (mkF m 52 #[iv 5] [(.ref r_Rights_READ_EXECUTE)])) st6 ?_
    exact Go.retR X6 hx Bd.notSynchronized Bd.returns rfl rfl rfl (hb hby dP_52) ⟨r_Rights_READ_EXECUTE, rfl, N0, e6, E_r_Rights_READ_EXECUTE, F_r_Rights_READ_EXECUTE_bits⟩ (by decide) (by decide)
  · skip
    refine Go.pull (V := s₁.setTop (mkF m 1 #[iv 6] [(.int 6)])) (fun t k => XS.iloadN X0.here hx rfl (hb hby dP_0) rfl  k) ?_
    refine Go.pull (V := s₁.setTop (mkF m 8 #[iv 6] [])) (fun t k => XS.ifYes X0.here hx rfl (pc0 := 1) (pc' := 8) rfl (hb hby dP_1) rfl (XT.i0_ne_t (by decide)) (by decide) (by decide) k) ?_
    refine Go.pull (V := s₁.setTop (mkF m 9 #[iv 6] [(.int 6)])) (fun t k => XS.iloadN X0.here hx rfl (hb hby dP_8) rfl  k) ?_
    refine Go.pull (V := s₁.setTop (mkF m 10 #[iv 6] [(.int 1), (.int 6)])) (fun t k => XS.iconst X0.here hx rfl (hb hby dP_9) k) ?_
    refine Go.pull (V := s₁.setTop (mkF m 17 #[iv 6] [])) (fun t k => XS.icmpYes X0.here hx rfl (pc0 := 10) (pc' := 17) rfl (hb hby dP_10) rfl (XT.ii_ne_t (by decide)) (by decide) (by decide) k) ?_
    refine Go.pull (V := s₁.setTop (mkF m 18 #[iv 6] [(.int 6)])) (fun t k => XS.iloadN X0.here hx rfl (hb hby dP_17) rfl  k) ?_
    refine Go.pull (V := s₁.setTop (mkF m 19 #[iv 6] [(.int 2), (.int 6)])) (fun t k => XS.iconst X0.here hx rfl (hb hby dP_18) k) ?_
    refine Go.pull (V := s₁.setTop (mkF m 26 #[iv 6] [])) (fun t k => XS.icmpYes X0.here hx rfl (pc0 := 19) (pc' := 26) rfl (hb hby dP_19) rfl (XT.ii_ne_t (by decide)) (by decide) (by decide) k) ?_
    refine Go.pull (V := s₁.setTop (mkF m 27 #[iv 6] [(.int 6)])) (fun t k => XS.iloadN X0.here hx rfl (hb hby dP_26) rfl  k) ?_
    refine Go.pull (V := s₁.setTop (mkF m 28 #[iv 6] [(.int 3), (.int 6)])) (fun t k => XS.iconst X0.here hx rfl (hb hby dP_27) k) ?_
    refine Go.pull (V := s₁.setTop (mkF m 35 #[iv 6] [])) (fun t k => XS.icmpYes X0.here hx rfl (pc0 := 28) (pc' := 35) rfl (hb hby dP_28) rfl (XT.ii_ne_t (by decide)) (by decide) (by decide) k) ?_
    refine Go.pull (V := s₁.setTop (mkF m 36 #[iv 6] [(.int 6)])) (fun t k => XS.iloadN X0.here hx rfl (hb hby dP_35) rfl  k) ?_
    refine Go.pull (V := s₁.setTop (mkF m 37 #[iv 6] [(.int 4), (.int 6)])) (fun t k => XS.iconst X0.here hx rfl (hb hby dP_36) k) ?_
    refine Go.pull (V := s₁.setTop (mkF m 44 #[iv 6] [])) (fun t k => XS.icmpYes X0.here hx rfl (pc0 := 37) (pc' := 44) rfl (hb hby dP_37) rfl (XT.ii_ne_t (by decide)) (by decide) (by decide) k) ?_
    refine Go.pull (V := s₁.setTop (mkF m 45 #[iv 6] [(.int 6)])) (fun t k => XS.iloadN X0.here hx rfl (hb hby dP_44) rfl  k) ?_
    refine Go.pull (V := s₁.setTop (mkF m 46 #[iv 6] [(.int 5), (.int 6)])) (fun t k => XS.iconst X0.here hx rfl (hb hby dP_45) k) ?_
    refine Go.pull (V := s₁.setTop (mkF m 53 #[iv 6] [])) (fun t k => XS.icmpYes X0.here hx rfl (pc0 := 46) (pc' := 53) rfl (hb hby dP_46) rfl (XT.ii_ne_t (by decide)) (by decide) (by decide) k) ?_
    refine Go.pull (V := s₁.setTop (mkF m 54 #[iv 6] [(.int 6)])) (fun t k => XS.iloadN X0.here hx rfl (hb hby dP_53) rfl  k) ?_
    refine Go.pull (V := s₁.setTop (mkF m 56 #[iv 6] [(.int 6), (.int 6)])) (fun t k => XS.bipush X0.here hx rfl (hb hby dP_54) k) ?_
    refine Go.pull (V := s₁.setTop (mkF m 59 #[iv 6] [])) (fun t k => XS.icmpNo X0.here hx rfl (hb hby dP_56) rfl (XT.ii_ne_f (by decide)) k) ?_
    obtain ⟨T7, X7, e7, st7⟩ := getS2 X0 hx hZ hown (host := "") (Or.inl (hw _ (List.mem_of_getElem? (i := 19) rfl))) Via.refl e0 S_r_Rights_READ_WRITE (g := (mkF m 59 #[iv 6] [])) rfl (hb hby dP_59)
    refine Go.pull (V := T7.setTop (mkF m 62 #[iv 6] [(.ref r_Rights_READ_WRITE)])) st7 ?_
    exact Go.retR X7 hx Bd.notSynchronized Bd.returns rfl rfl rfl (hb hby dP_62) ⟨r_Rights_READ_WRITE, rfl, N0, e7, E_r_Rights_READ_WRITE, F_r_Rights_READ_WRITE_bits⟩ (by decide) (by decide)
  · skip
    refine Go.pull (V := s₁.setTop (mkF m 1 #[iv 7] [(.int 7)])) (fun t k => XS.iloadN X0.here hx rfl (hb hby dP_0) rfl  k) ?_
    refine Go.pull (V := s₁.setTop (mkF m 8 #[iv 7] [])) (fun t k => XS.ifYes X0.here hx rfl (pc0 := 1) (pc' := 8) rfl (hb hby dP_1) rfl (XT.i0_ne_t (by decide)) (by decide) (by decide) k) ?_
    refine Go.pull (V := s₁.setTop (mkF m 9 #[iv 7] [(.int 7)])) (fun t k => XS.iloadN X0.here hx rfl (hb hby dP_8) rfl  k) ?_
    refine Go.pull (V := s₁.setTop (mkF m 10 #[iv 7] [(.int 1), (.int 7)])) (fun t k => XS.iconst X0.here hx rfl (hb hby dP_9) k) ?_
    refine Go.pull (V := s₁.setTop (mkF m 17 #[iv 7] [])) (fun t k => XS.icmpYes X0.here hx rfl (pc0 := 10) (pc' := 17) rfl (hb hby dP_10) rfl (XT.ii_ne_t (by decide)) (by decide) (by decide) k) ?_
    refine Go.pull (V := s₁.setTop (mkF m 18 #[iv 7] [(.int 7)])) (fun t k => XS.iloadN X0.here hx rfl (hb hby dP_17) rfl  k) ?_
    refine Go.pull (V := s₁.setTop (mkF m 19 #[iv 7] [(.int 2), (.int 7)])) (fun t k => XS.iconst X0.here hx rfl (hb hby dP_18) k) ?_
    refine Go.pull (V := s₁.setTop (mkF m 26 #[iv 7] [])) (fun t k => XS.icmpYes X0.here hx rfl (pc0 := 19) (pc' := 26) rfl (hb hby dP_19) rfl (XT.ii_ne_t (by decide)) (by decide) (by decide) k) ?_
    refine Go.pull (V := s₁.setTop (mkF m 27 #[iv 7] [(.int 7)])) (fun t k => XS.iloadN X0.here hx rfl (hb hby dP_26) rfl  k) ?_
    refine Go.pull (V := s₁.setTop (mkF m 28 #[iv 7] [(.int 3), (.int 7)])) (fun t k => XS.iconst X0.here hx rfl (hb hby dP_27) k) ?_
    refine Go.pull (V := s₁.setTop (mkF m 35 #[iv 7] [])) (fun t k => XS.icmpYes X0.here hx rfl (pc0 := 28) (pc' := 35) rfl (hb hby dP_28) rfl (XT.ii_ne_t (by decide)) (by decide) (by decide) k) ?_
    refine Go.pull (V := s₁.setTop (mkF m 36 #[iv 7] [(.int 7)])) (fun t k => XS.iloadN X0.here hx rfl (hb hby dP_35) rfl  k) ?_
    refine Go.pull (V := s₁.setTop (mkF m 37 #[iv 7] [(.int 4), (.int 7)])) (fun t k => XS.iconst X0.here hx rfl (hb hby dP_36) k) ?_
    refine Go.pull (V := s₁.setTop (mkF m 44 #[iv 7] [])) (fun t k => XS.icmpYes X0.here hx rfl (pc0 := 37) (pc' := 44) rfl (hb hby dP_37) rfl (XT.ii_ne_t (by decide)) (by decide) (by decide) k) ?_
    refine Go.pull (V := s₁.setTop (mkF m 45 #[iv 7] [(.int 7)])) (fun t k => XS.iloadN X0.here hx rfl (hb hby dP_44) rfl  k) ?_
    refine Go.pull (V := s₁.setTop (mkF m 46 #[iv 7] [(.int 5), (.int 7)])) (fun t k => XS.iconst X0.here hx rfl (hb hby dP_45) k) ?_
    refine Go.pull (V := s₁.setTop (mkF m 53 #[iv 7] [])) (fun t k => XS.icmpYes X0.here hx rfl (pc0 := 46) (pc' := 53) rfl (hb hby dP_46) rfl (XT.ii_ne_t (by decide)) (by decide) (by decide) k) ?_
    refine Go.pull (V := s₁.setTop (mkF m 54 #[iv 7] [(.int 7)])) (fun t k => XS.iloadN X0.here hx rfl (hb hby dP_53) rfl  k) ?_
    refine Go.pull (V := s₁.setTop (mkF m 56 #[iv 7] [(.int 6), (.int 7)])) (fun t k => XS.bipush X0.here hx rfl (hb hby dP_54) k) ?_
    refine Go.pull (V := s₁.setTop (mkF m 63 #[iv 7] [])) (fun t k => XS.icmpYes X0.here hx rfl (pc0 := 56) (pc' := 63) rfl (hb hby dP_56) rfl (XT.ii_ne_t (by decide)) (by decide) (by decide) k) ?_
    obtain ⟨T8, X8, e8, st8⟩ := getS2 X0 hx hZ hown (host := "") (Or.inl (hw _ (List.mem_of_getElem? (i := 27) rfl))) Via.refl e0 S_r_Rights_ALL (g := (mkF m 63 #[iv 7] [])) rfl (hb hby dP_63)
    refine Go.pull (V := T8.setTop (mkF m 66 #[iv 7] [(.ref r_Rights_ALL)])) st8 ?_
    exact Go.retR X8 hx Bd.notSynchronized Bd.returns rfl rfl rfl (hb hby dP_66) ⟨r_Rights_ALL, rfl, N0, e8, E_r_Rights_ALL, F_r_Rights_ALL_bits⟩ (by decide) (by decide)
theorem dV_0 : decode method_3_code 0 = .ok (.iload_n 1, 1) := by decide +kernel
theorem dV_1 : decode method_3_code 1 = .ok (.iload_n 2, 1) := by decide +kernel
theorem dV_2 : decode method_3_code 2 = .ok (.iand, 1) := by decide +kernel
theorem dV_3 : decode method_3_code 3 = .ok (.ifCond .ne 5, 3) := by decide +kernel
theorem dV_6 : decode method_3_code 6 = .ok (.iconst 1, 1) := by decide +kernel
theorem dV_7 : decode method_3_code 7 = .ok (.ireturn, 1) := by decide +kernel
theorem dV_8 : decode method_3_code 8 = .ok (.iload_n 0, 1) := by decide +kernel
theorem dV_9 : decode method_3_code 9 = .ok (.iload_n 2, 1) := by decide +kernel
theorem dV_10 : decode method_3_code 10 = .ok (.iand, 1) := by decide +kernel
theorem dV_11 : decode method_3_code 11 = .ok (.ifCond .eq 7, 3) := by decide +kernel
theorem dV_14 : decode method_3_code 14 = .ok (.iconst 1, 1) := by decide +kernel
theorem dV_15 : decode method_3_code 15 = .ok (.goto 4, 3) := by decide +kernel
theorem dV_18 : decode method_3_code 18 = .ok (.iconst 0, 1) := by decide +kernel
theorem dV_19 : decode method_3_code 19 = .ok (.ireturn, 1) := by decide +kernel
theorem efV (m : MethodId) (x0 : Int32) (x1 : Int32) (x2 : Int32) : entryFrame m #[(.int x0), (.int x1), (.int x2)] 3 = mkF m 0 #[iv x0, iv x1, iv x2] [] := by first | (simp [entryFrame, mkF, argsToLocals, Value.category]; done) | rfl
def QV (Z : State) (pa : Int32) (pb : Int32) (pc' : Int32) (h0 : Heap) (n0 : Nat) (v : Option Value) (h : Heap) (L : List Loc) : Prop := v = some (.int (own_cov pa pb pc')) ∧ Fr n0 L ∧ h = h0
set_option maxRecDepth 65536 in
set_option maxHeartbeats 40000000 in
theorem rmV (l : Launch) (Z : State) (a0 : Array Value) (hw : ∀ d ∈ tables_1, d.before a0 Z = true) (ws : List Jvm.Cond) (pa : Int32) (pb : Int32) (pc' : Int32) (h0 : Heap) (n0 : Nat) :
    MetFree l (⟨"com/example/facl/facl/RightsIncludesPinLaw", "covers", "(III)Z"⟩ : MethodName) (head1 (Jvm.Cond.code (⟨"com/example/facl/facl/RightsIncludesPinLaw", "covers", "(III)Z"⟩ : MethodName) method_3_code 3 (some .boolean) :: ws) ({ frames := 0, cells := 0, slots := 0, locals := 0 } : Room)) (fun as' U => as' = #[(.int pa), (.int pb), (.int pc')] ∧ Z.Warmed39 U.vm ∧ U.heap = h0) (fun _ _ _ _ _ => True) (fun _ U o U' => ∃ v L, o = .returned v ∧ QV Z pa pb pc' h0 n0 v U'.heap L ∧ FrameEnd U o U' L ({ frames := 0, cells := 0, slots := 0, locals := 0 } : Room).cells ({ frames := 0, cells := 0, slots := 0, locals := 0 } : Room).slots) := by
  refine MetFree.of_bodySF (plainFor_of_name pn_com_example_facl_facl_RightsIncludesPinLaw) hisR ?_
  intro p e s m args below meth c s₁ Bd hml0 hP hK
  obtain ⟨rfl, hZ, hh⟩ := hP
  have hx := Bd.exec
  have hby := Bd.bytes
  have hml : c.maxLocals = 3 := hml0
  have hown : s.vm.findClass "com/example/facl/facl/RightsIncludesPinLaw" = some m.cls := findClass_of_methodNamed Bd.named
  have hnm := (name_of_methodNamed Bd.named Bd.method).1
  have X0 : Stand p l e ({ frames := 0, cells := 0, slots := 0, locals := 0 } : Room) s m #[(.int pa), (.int pb), (.int pc')] below meth c s₁ [] 0 0 := Stand.of_body Bd
  have e0 : s₁.heap = h0 := by rw [← hh, Bd.state]; rfl
  have N0 := Fr.nil n0
  show Go p e below s (fun v h L => QV Z pa pb pc' h0 n0 v h L) 0 0 _
  refine Go.pull (V := s₁.setTop (mkF m 0 #[iv pa, iv pb, iv pc'] [])) (fun t k => castTop (efV m pa pb pc') k) ?_
  refine Go.pull (V := s₁.setTop (mkF m 1 #[iv pa, iv pb, iv pc'] [(.int pb)])) (fun t k => XS.iloadN X0.here hx rfl (hb hby dV_0) rfl  k) ?_
  refine Go.pull (V := s₁.setTop (mkF m 2 #[iv pa, iv pb, iv pc'] [(.int pc'), (.int pb)])) (fun t k => XS.iloadN X0.here hx rfl (hb hby dV_1) rfl  k) ?_
  refine Go.pull (V := s₁.setTop (mkF m 3 #[iv pa, iv pb, iv pc'] [(.int (pb &&& pc'))])) (fun t k => XS.iand X0.here hx rfl (hb hby dV_2) rfl k) ?_
  by_cases hc3_1 : (pb &&& pc') = 0
  · skip
    refine Go.pull (V := s₁.setTop (mkF m 6 #[iv pa, iv pb, iv pc'] [])) (fun t k => XS.ifNo X0.here hx rfl (hb hby dV_3) rfl (XT.i0_ne_f hc3_1) k) ?_
    refine Go.pull (V := s₁.setTop (mkF m 7 #[iv pa, iv pb, iv pc'] [(.int 1)])) (fun t k => XS.iconst X0.here hx rfl (hb hby dV_6) k) ?_
    exact Go.retN X0 hx Bd.notSynchronized (t := .boolean) Bd.returns (by simp) (hb hby dV_7) ⟨(by rw [own_cov, if_pos hc3_1] <;> rfl), N0, e0⟩ (by decide) (by decide)
  · skip
    refine Go.pull (V := s₁.setTop (mkF m 8 #[iv pa, iv pb, iv pc'] [])) (fun t k => XS.ifYes X0.here hx rfl (pc0 := 3) (pc' := 8) rfl (hb hby dV_3) rfl (XT.i0_ne_t hc3_1) (by decide) (by decide) k) ?_
    refine Go.pull (V := s₁.setTop (mkF m 9 #[iv pa, iv pb, iv pc'] [(.int pa)])) (fun t k => XS.iloadN X0.here hx rfl (hb hby dV_8) rfl  k) ?_
    refine Go.pull (V := s₁.setTop (mkF m 10 #[iv pa, iv pb, iv pc'] [(.int pc'), (.int pa)])) (fun t k => XS.iloadN X0.here hx rfl (hb hby dV_9) rfl  k) ?_
    refine Go.pull (V := s₁.setTop (mkF m 11 #[iv pa, iv pb, iv pc'] [(.int (pa &&& pc'))])) (fun t k => XS.iand X0.here hx rfl (hb hby dV_10) rfl k) ?_
    by_cases hc11_2 : (pa &&& pc') = 0
    · skip
      refine Go.pull (V := s₁.setTop (mkF m 18 #[iv pa, iv pb, iv pc'] [])) (fun t k => XS.ifYes X0.here hx rfl (pc0 := 11) (pc' := 18) rfl (hb hby dV_11) rfl (XT.i0_eq_t hc11_2) (by decide) (by decide) k) ?_
      refine Go.pull (V := s₁.setTop (mkF m 19 #[iv pa, iv pb, iv pc'] [(.int 0)])) (fun t k => XS.iconst X0.here hx rfl (hb hby dV_18) k) ?_
      exact Go.retN X0 hx Bd.notSynchronized (t := .boolean) Bd.returns (by simp) (hb hby dV_19) ⟨(by rw [own_cov, if_neg hc3_1, if_pos hc11_2] <;> rfl), N0, e0⟩ (by decide) (by decide)
    · skip
      refine Go.pull (V := s₁.setTop (mkF m 14 #[iv pa, iv pb, iv pc'] [])) (fun t k => XS.ifNo X0.here hx rfl (hb hby dV_11) rfl (XT.i0_eq_f hc11_2) k) ?_
      refine Go.pull (V := s₁.setTop (mkF m 15 #[iv pa, iv pb, iv pc'] [(.int 1)])) (fun t k => XS.iconst X0.here hx rfl (hb hby dV_14) k) ?_
      refine Go.pull (V := s₁.setTop (mkF m 19 #[iv pa, iv pb, iv pc'] [(.int 1)])) (fun t k => XS.goto X0.here hx rfl (pc0 := 15) (pc' := 19) rfl (hb hby dV_15) (by decide) (by decide) k) ?_
      exact Go.retN X0 hx Bd.notSynchronized (t := .boolean) Bd.returns (by simp) (hb hby dV_19) ⟨(by rw [own_cov, if_neg hc3_1, if_neg hc11_2] <;> rfl), N0, e0⟩ (by decide) (by decide)
theorem dI_0 : decode prog_44_method_11_code 0 = .ok (.aload_n 0, 1) := by decide +kernel
theorem dI_1 : decode prog_44_method_11_code 1 = .ok (.getfield 47, 3) := by decide +kernel
theorem dI_4 : decode prog_44_method_11_code 4 = .ok (.aload_n 1, 1) := by decide +kernel
theorem dI_5 : decode prog_44_method_11_code 5 = .ok (.getfield 47, 3) := by decide +kernel
theorem dI_8 : decode prog_44_method_11_code 8 = .ok (.iand, 1) := by decide +kernel
theorem dI_9 : decode prog_44_method_11_code 9 = .ok (.aload_n 1, 1) := by decide +kernel
theorem dI_10 : decode prog_44_method_11_code 10 = .ok (.getfield 47, 3) := by decide +kernel
theorem dI_13 : decode prog_44_method_11_code 13 = .ok (.if_icmp .ne 7, 3) := by decide +kernel
theorem dI_16 : decode prog_44_method_11_code 16 = .ok (.iconst 1, 1) := by decide +kernel
theorem dI_17 : decode prog_44_method_11_code 17 = .ok (.goto 4, 3) := by decide +kernel
theorem dI_20 : decode prog_44_method_11_code 20 = .ok (.iconst 0, 1) := by decide +kernel
theorem dI_21 : decode prog_44_method_11_code 21 = .ok (.ireturn, 1) := by decide +kernel
theorem efI (m : MethodId) (x0 : Addr) (x1 : Addr) : entryFrame m #[(.ref x0), (.ref x1)] 2 = mkF m 0 #[rv x0, rv x1] [] := by first | (simp [entryFrame, mkF, argsToLocals, Value.category]; done) | rfl
theorem pn_com_example_facl_facl_Rights : plainName "com/example/facl/facl/Rights" = true := by first | (simp [plainName, overriddenIn]; done) | decide +kernel
def QI (Z : State) (a : Addr) (b : Addr) (pa : Int32) (pb : Int32) (h0 : Heap) (n0 : Nat) (v : Option Value) (h : Heap) (L : List Loc) : Prop := v = some (.int (own_inc pa pb)) ∧ Fr n0 L ∧ h = h0
set_option maxRecDepth 65536 in
set_option maxHeartbeats 40000000 in
theorem rmI (l : Launch) (Z : State) (a0 : Array Value) (hw : ∀ d ∈ tables_1, d.before a0 Z = true) (ws : List Jvm.Cond) (a : Addr) (b : Addr) (pa : Int32) (pb : Int32) (h0 : Heap) (n0 : Nat) (Fa : Fld Z h0 a "com/example/facl/facl/Rights" "bits" "I" (.int pa)) (Fb : Fld Z h0 b "com/example/facl/facl/Rights" "bits" "I" (.int pb)) :
    MetFree l (⟨"com/example/facl/facl/Rights", "includes", "(Lcom/example/facl/facl/Rights;)Z"⟩ : MethodName) (head1 (Jvm.Cond.code (⟨"com/example/facl/facl/Rights", "includes", "(Lcom/example/facl/facl/Rights;)Z"⟩ : MethodName) prog_44_method_11_code 2 (some .boolean) :: ws) ({ frames := 0, cells := 0, slots := 0, locals := 0 } : Room)) (fun as' U => as' = #[(.ref a), (.ref b)] ∧ Z.Warmed39 U.vm ∧ U.heap = h0) (fun _ _ _ _ _ => True) (fun _ U o U' => ∃ v L, o = .returned v ∧ QI Z a b pa pb h0 n0 v U'.heap L ∧ FrameEnd U o U' L ({ frames := 0, cells := 0, slots := 0, locals := 0 } : Room).cells ({ frames := 0, cells := 0, slots := 0, locals := 0 } : Room).slots) := by
  refine MetFree.of_bodySF (plainFor_of_name pn_com_example_facl_facl_Rights) hisR ?_
  intro p e s m args below meth c s₁ Bd hml0 hP hK
  obtain ⟨rfl, hZ, hh⟩ := hP
  have hx := Bd.exec
  have hby := Bd.bytes
  have hml : c.maxLocals = 2 := hml0
  have hown : s.vm.findClass "com/example/facl/facl/Rights" = some m.cls := findClass_of_methodNamed Bd.named
  have hnm := (name_of_methodNamed Bd.named Bd.method).1
  have X0 : Stand p l e ({ frames := 0, cells := 0, slots := 0, locals := 0 } : Room) s m #[(.ref a), (.ref b)] below meth c s₁ [] 0 0 := Stand.of_body Bd
  have e0 : s₁.heap = h0 := by rw [← hh, Bd.state]; rfl
  have N0 := Fr.nil n0
  show Go p e below s (fun v h L => QI Z a b pa pb h0 n0 v h L) 0 0 _
  refine Go.pull (V := s₁.setTop (mkF m 0 #[rv a, rv b] [])) (fun t k => castTop (efI m a b) k) ?_
  refine Go.pull (V := s₁.setTop (mkF m 1 #[rv a, rv b] [(.ref a)])) (fun t k => XS.aloadN X0.here hx rfl (hb hby dI_0) rfl rfl k) ?_
  obtain ⟨T1, X1, e1, st1⟩ := getF X0 hx hZ hown (host := "") (Or.inl (hw _ (List.mem_of_getElem? (i := 17) rfl))) Via.refl e0 Fa (g := (mkF m 1 #[rv a, rv b] [(.ref a)])) rfl rfl (hb hby dI_1)
  refine Go.pull (V := T1.setTop (mkF m 4 #[rv a, rv b] [(.int pa)])) st1 ?_
  refine Go.pull (V := T1.setTop (mkF m 5 #[rv a, rv b] [(.ref b), (.int pa)])) (fun t k => XS.aloadN X1.here hx rfl (hb hby dI_4) rfl rfl k) ?_
  obtain ⟨T2, X2, e2, st2⟩ := getF X1 hx hZ hown (host := "") (Or.inl (hw _ (List.mem_of_getElem? (i := 17) rfl))) Via.refl e1 Fb (g := (mkF m 5 #[rv a, rv b] [(.ref b), (.int pa)])) rfl rfl (hb hby dI_5)
  refine Go.pull (V := T2.setTop (mkF m 8 #[rv a, rv b] [(.int pb), (.int pa)])) st2 ?_
  refine Go.pull (V := T2.setTop (mkF m 9 #[rv a, rv b] [(.int (pa &&& pb))])) (fun t k => XS.iand X2.here hx rfl (hb hby dI_8) rfl k) ?_
  refine Go.pull (V := T2.setTop (mkF m 10 #[rv a, rv b] [(.ref b), (.int (pa &&& pb))])) (fun t k => XS.aloadN X2.here hx rfl (hb hby dI_9) rfl rfl k) ?_
  obtain ⟨T3, X3, e3, st3⟩ := getF X2 hx hZ hown (host := "") (Or.inl (hw _ (List.mem_of_getElem? (i := 17) rfl))) Via.refl e2 Fb (g := (mkF m 10 #[rv a, rv b] [(.ref b), (.int (pa &&& pb))])) rfl rfl (hb hby dI_10)
  refine Go.pull (V := T3.setTop (mkF m 13 #[rv a, rv b] [(.int pb), (.int (pa &&& pb))])) st3 ?_
  by_cases hc13_4 : (pa &&& pb) = pb
  · skip
    refine Go.pull (V := T3.setTop (mkF m 16 #[rv a, rv b] [])) (fun t k => XS.icmpNo X3.here hx rfl (hb hby dI_13) rfl (XT.ii_ne_f hc13_4) k) ?_
    refine Go.pull (V := T3.setTop (mkF m 17 #[rv a, rv b] [(.int 1)])) (fun t k => XS.iconst X3.here hx rfl (hb hby dI_16) k) ?_
    refine Go.pull (V := T3.setTop (mkF m 21 #[rv a, rv b] [(.int 1)])) (fun t k => XS.goto X3.here hx rfl (pc0 := 17) (pc' := 21) rfl (hb hby dI_17) (by decide) (by decide) k) ?_
    exact Go.retN X3 hx Bd.notSynchronized (t := .boolean) Bd.returns (by simp) (hb hby dI_21) ⟨(by rw [own_inc, if_pos hc13_4] <;> rfl), N0, e3⟩ (by decide) (by decide)
  · skip
    refine Go.pull (V := T3.setTop (mkF m 20 #[rv a, rv b] [])) (fun t k => XS.icmpYes X3.here hx rfl (pc0 := 13) (pc' := 20) rfl (hb hby dI_13) rfl (XT.ii_ne_t hc13_4) (by decide) (by decide) k) ?_
    refine Go.pull (V := T3.setTop (mkF m 21 #[rv a, rv b] [(.int 0)])) (fun t k => XS.iconst X3.here hx rfl (hb hby dI_20) k) ?_
    exact Go.retN X3 hx Bd.notSynchronized (t := .boolean) Bd.returns (by simp) (hb hby dI_21) ⟨(by rw [own_inc, if_neg hc13_4] <;> rfl), N0, e3⟩ (by decide) (by decide)
theorem ef0 (m : MethodId) (x0 : Int32) (x1 : Int32) : entryFrame m #[(.int x0), (.int x1)] maxLocals = mkF m 0 #[iv x0, iv x1, .unset, .unset, .unset, .unset, .unset] [] := by first | (simp [entryFrame, mkF, argsToLocals, Value.category, maxLocals]; done) | rfl
def Q0 (Z : State) (px : Int32) (py : Int32) (r_Rights_NONE : Addr) (r_Rights_WRITE_EXECUTE : Addr) (r_Rights_READ_WRITE : Addr) (r_Rights_EXECUTE : Addr) (r_Rights_READ : Addr) (r_Rights_READ_EXECUTE : Addr) (r_Rights_ALL : Addr) (r_Rights_WRITE : Addr) (h0 : Heap) (n0 : Nat) (v : Option Value) (h : Heap) (L : List Loc) : Prop := v = some (.int 1) ∧ Fr n0 L
set_option maxRecDepth 65536 in
set_option maxHeartbeats 40000000 in
theorem rm0 (l : Launch) (Z : State) (a0 : Array Value) (hw : ∀ d ∈ tables_1, d.before a0 Z = true) (ws : List Jvm.Cond) (px : Int32) (py : Int32) (r_Rights_NONE : Addr) (r_Rights_WRITE_EXECUTE : Addr) (r_Rights_READ_WRITE : Addr) (r_Rights_EXECUTE : Addr) (r_Rights_READ : Addr) (r_Rights_READ_EXECUTE : Addr) (r_Rights_ALL : Addr) (r_Rights_WRITE : Addr) (h0 : Heap) (n0 : Nat) (Z0 : n0 ≤ h0.size) (S_r_Rights_NONE : Sta Z h0 "com/example/facl/facl/Rights" "NONE" "Lcom/example/facl/facl/Rights;" (.ref r_Rights_NONE)) (E_r_Rights_NONE : Exa Z h0 r_Rights_NONE "com/example/facl/facl/Rights") (S_r_Rights_WRITE_EXECUTE : Sta Z h0 "com/example/facl/facl/Rights" "WRITE_EXECUTE" "Lcom/example/facl/facl/Rights;" (.ref r_Rights_WRITE_EXECUTE)) (E_r_Rights_WRITE_EXECUTE : Exa Z h0 r_Rights_WRITE_EXECUTE "com/example/facl/facl/Rights") (S_r_Rights_READ_WRITE : Sta Z h0 "com/example/facl/facl/Rights" "READ_WRITE" "Lcom/example/facl/facl/Rights;" (.ref r_Rights_READ_WRITE)) (E_r_Rights_READ_WRITE : Exa Z h0 r_Rights_READ_WRITE "com/example/facl/facl/Rights") (S_r_Rights_EXECUTE : Sta Z h0 "com/example/facl/facl/Rights" "EXECUTE" "Lcom/example/facl/facl/Rights;" (.ref r_Rights_EXECUTE)) (E_r_Rights_EXECUTE : Exa Z h0 r_Rights_EXECUTE "com/example/facl/facl/Rights") (S_r_Rights_READ : Sta Z h0 "com/example/facl/facl/Rights" "READ" "Lcom/example/facl/facl/Rights;" (.ref r_Rights_READ)) (E_r_Rights_READ : Exa Z h0 r_Rights_READ "com/example/facl/facl/Rights") (S_r_Rights_READ_EXECUTE : Sta Z h0 "com/example/facl/facl/Rights" "READ_EXECUTE" "Lcom/example/facl/facl/Rights;" (.ref r_Rights_READ_EXECUTE)) (E_r_Rights_READ_EXECUTE : Exa Z h0 r_Rights_READ_EXECUTE "com/example/facl/facl/Rights") (S_r_Rights_ALL : Sta Z h0 "com/example/facl/facl/Rights" "ALL" "Lcom/example/facl/facl/Rights;" (.ref r_Rights_ALL)) (E_r_Rights_ALL : Exa Z h0 r_Rights_ALL "com/example/facl/facl/Rights") (S_r_Rights_WRITE : Sta Z h0 "com/example/facl/facl/Rights" "WRITE" "Lcom/example/facl/facl/Rights;" (.ref r_Rights_WRITE)) (E_r_Rights_WRITE : Exa Z h0 r_Rights_WRITE "com/example/facl/facl/Rights") (F_r_Rights_NONE_bits : Fld Z h0 r_Rights_NONE "com/example/facl/facl/Rights" "bits" "I" (.int 0)) (F_r_Rights_WRITE_EXECUTE_bits : Fld Z h0 r_Rights_WRITE_EXECUTE "com/example/facl/facl/Rights" "bits" "I" (.int 3)) (F_r_Rights_READ_WRITE_bits : Fld Z h0 r_Rights_READ_WRITE "com/example/facl/facl/Rights" "bits" "I" (.int 6)) (F_r_Rights_EXECUTE_bits : Fld Z h0 r_Rights_EXECUTE "com/example/facl/facl/Rights" "bits" "I" (.int 1)) (F_r_Rights_READ_bits : Fld Z h0 r_Rights_READ "com/example/facl/facl/Rights" "bits" "I" (.int 4)) (F_r_Rights_READ_EXECUTE_bits : Fld Z h0 r_Rights_READ_EXECUTE "com/example/facl/facl/Rights" "bits" "I" (.int 5)) (F_r_Rights_ALL_bits : Fld Z h0 r_Rights_ALL "com/example/facl/facl/Rights" "bits" "I" (.int 7)) (F_r_Rights_WRITE_bits : Fld Z h0 r_Rights_WRITE "com/example/facl/facl/Rights" "bits" "I" (.int 2)) :
    MetFree l x (head1 (Jvm.Cond.code x code maxLocals ret :: ws) room_1) (fun as' U => as' = #[(.int px), (.int py)] ∧ Z.Warmed39 U.vm ∧ U.heap = h0) (fun _ _ _ _ _ => True) (fun _ U o U' => ∃ v L, o = .returned v ∧ Q0 Z px py r_Rights_NONE r_Rights_WRITE_EXECUTE r_Rights_READ_WRITE r_Rights_EXECUTE r_Rights_READ r_Rights_READ_EXECUTE r_Rights_ALL r_Rights_WRITE h0 n0 v U'.heap L ∧ FrameEnd U o U' L 0 0) := by
  refine MetFree.of_bodySF (plainFor_of_name pn_com_example_facl_facl_RightsIncludesPinLaw) hisR ?_
  intro p e s m args below meth c s₁ Bd hml0 hP hK
  obtain ⟨rfl, hZ, hh⟩ := hP
  have hx := Bd.exec
  have hby := Bd.bytes
  have hml : c.maxLocals = 7 := hml0
  have hown : s.vm.findClass "com/example/facl/facl/RightsIncludesPinLaw" = some m.cls := findClass_of_methodNamed Bd.named
  have hnm := (name_of_methodNamed Bd.named Bd.method).1
  have X0 : Stand p l e room_1 s m #[(.int px), (.int py)] below meth c s₁ [] 0 0 := Stand.of_body Bd
  have e0 : s₁.heap = h0 := by rw [← hh, Bd.state]; rfl
  have N0 := Fr.nil n0
  show Go p e below s (fun v h L => Q0 Z px py r_Rights_NONE r_Rights_WRITE_EXECUTE r_Rights_READ_WRITE r_Rights_EXECUTE r_Rights_READ r_Rights_READ_EXECUTE r_Rights_ALL r_Rights_WRITE h0 n0 v h L) 0 0 _
  refine Go.pull (V := s₁.setTop (mkF m 0 #[iv px, iv py, .unset, .unset, .unset, .unset, .unset] [])) (fun t k => castTop (ef0 m px py) k) ?_
  refine Go.pull (V := s₁.setTop (mkF m 1 #[iv px, iv py, .unset, .unset, .unset, .unset, .unset] [(.int px)])) (fun t k => XS.iloadN X0.here hx rfl (hb hby at_0) rfl  k) ?_
  refine Go.pull (V := s₁.setTop (mkF m 3 #[iv px, iv py, .unset, .unset, .unset, .unset, .unset] [(.int 7), (.int px)])) (fun t k => XS.bipush X0.here hx rfl (hb hby at_1) k) ?_
  refine Go.pull (V := s₁.setTop (mkF m 4 #[iv px, iv py, .unset, .unset, .unset, .unset, .unset] [(.int (px &&& (7 : Int32)))])) (fun t k => XS.iand X0.here hx rfl (hb hby at_3) rfl k) ?_
  refine Go.pull (V := s₁.setTop (mkF m 5 #[iv px, iv py, iv (px &&& (7 : Int32)), .unset, .unset, .unset, .unset] [])) (fun t k => XS.istoreN X0.here hx rfl (hb hby at_4) rfl (l' := #[iv px, iv py, iv (px &&& (7 : Int32)), .unset, .unset, .unset, .unset]) rfl k) ?_
  refine Go.pull (V := s₁.setTop (mkF m 6 #[iv px, iv py, iv (px &&& (7 : Int32)), .unset, .unset, .unset, .unset] [(.int py)])) (fun t k => XS.iloadN X0.here hx rfl (hb hby at_5) rfl  k) ?_
  refine Go.pull (V := s₁.setTop (mkF m 8 #[iv px, iv py, iv (px &&& (7 : Int32)), .unset, .unset, .unset, .unset] [(.int 7), (.int py)])) (fun t k => XS.bipush X0.here hx rfl (hb hby at_6) k) ?_
  refine Go.pull (V := s₁.setTop (mkF m 9 #[iv px, iv py, iv (px &&& (7 : Int32)), .unset, .unset, .unset, .unset] [(.int (py &&& (7 : Int32)))])) (fun t k => XS.iand X0.here hx rfl (hb hby at_8) rfl k) ?_
  refine Go.pull (V := s₁.setTop (mkF m 10 #[iv px, iv py, iv (px &&& (7 : Int32)), iv (py &&& (7 : Int32)), .unset, .unset, .unset] [])) (fun t k => XS.istoreN X0.here hx rfl (hb hby at_9) rfl (l' := #[iv px, iv py, iv (px &&& (7 : Int32)), iv (py &&& (7 : Int32)), .unset, .unset, .unset]) rfl k) ?_
  refine Go.pull (V := s₁.setTop (mkF m 11 #[iv px, iv py, iv (px &&& (7 : Int32)), iv (py &&& (7 : Int32)), .unset, .unset, .unset] [(.int (px &&& (7 : Int32)))])) (fun t k => XS.iloadN X0.here hx rfl (hb hby at_10) rfl  k) ?_
  obtain ⟨_, _, ⟨T1, L1, k1, n1⟩, -, X1, ⟨Lc1, hQ1, l1, y1, z1⟩, st1⟩ := Jvm.LawKit.callS X0 hx (y := (⟨"com/example/facl/facl/RightsIncludesPinLaw", "pick", "(I)Lcom/example/facl/facl/Rights;"⟩ : MethodName)) hown (mvT hZ (hw _ (List.mem_of_getElem? (i := 0) rfl))) (mvT hZ (hw _ (List.mem_of_getElem? (i := 1) rfl))) (mvT hZ (hw _ (List.mem_of_getElem? (i := 2) rfl))) (mvT hZ (hw _ (List.mem_of_getElem? (i := 3) rfl))) (by decide) (backOf (W := 0) (rmP l Z a0 hw [] (px &&& (7 : Int32)) r_Rights_NONE r_Rights_EXECUTE r_Rights_WRITE r_Rights_WRITE_EXECUTE r_Rights_READ r_Rights_READ_EXECUTE r_Rights_READ_WRITE r_Rights_ALL h0 n0 S_r_Rights_NONE E_r_Rights_NONE F_r_Rights_NONE_bits S_r_Rights_EXECUTE E_r_Rights_EXECUTE F_r_Rights_EXECUTE_bits S_r_Rights_WRITE E_r_Rights_WRITE F_r_Rights_WRITE_bits S_r_Rights_WRITE_EXECUTE E_r_Rights_WRITE_EXECUTE F_r_Rights_WRITE_EXECUTE_bits S_r_Rights_READ E_r_Rights_READ F_r_Rights_READ_bits S_r_Rights_READ_EXECUTE E_r_Rights_READ_EXECUTE F_r_Rights_READ_EXECUTE_bits S_r_Rights_READ_WRITE E_r_Rights_READ_WRITE F_r_Rights_READ_WRITE_bits S_r_Rights_ALL E_r_Rights_ALL F_r_Rights_ALL_bits (own_and7 _ rfl)) hZ (hw _ (List.mem_of_getElem? (i := 3) rfl)) (hw _ (List.mem_of_getElem? (i := 2) rfl)) (by decide) (by decide)) (g := (mkF m 11 #[iv px, iv py, iv (px &&& (7 : Int32)), iv (py &&& (7 : Int32)), .unset, .unset, .unset] [(.int (px &&& (7 : Int32)))])) rfl (by rw [hml]; rfl) (argsL := [(.int (px &&& (7 : Int32)))]) (rest := []) (lenOf pd_0 rfl) rfl (by show 2 * 0 + _ ≤ _; exact Nat.le_of_eq rfl) (hb hby at_11) (fun _ _ => ⟨rfl, e0, (by decide : 0 + 0 ≤ _), (by decide : 0 + 0 ≤ _)⟩)
  dsimp only [Pt.U, Pt.locs, Pt.cells, Pt.slots] at X1 l1 y1 z1 st1 hQ1
  subst l1 y1 z1
  obtain ⟨w_1, rfl, N1q, Kc1, Fc1_0, Fc1_1⟩ := hQ1
  have N1 := Fr.app N0 N1q
  refine Go.pull (V := T1.setTop (mkF m 14 #[iv px, iv py, iv (px &&& (7 : Int32)), iv (py &&& (7 : Int32)), .unset, .unset, .unset] [(.ref w_1)])) st1 ?_
  refine Go.pull (V := T1.setTop (mkF m 16 #[iv px, iv py, iv (px &&& (7 : Int32)), iv (py &&& (7 : Int32)), rv w_1, .unset, .unset] [])) (fun t k => XS.astore X1.here hx rfl (hb hby at_14) rfl rfl (l' := #[iv px, iv py, iv (px &&& (7 : Int32)), iv (py &&& (7 : Int32)), rv w_1, .unset, .unset]) rfl k) ?_
  refine Go.pull (V := T1.setTop (mkF m 17 #[iv px, iv py, iv (px &&& (7 : Int32)), iv (py &&& (7 : Int32)), rv w_1, .unset, .unset] [(.int (py &&& (7 : Int32)))])) (fun t k => XS.iloadN X1.here hx rfl (hb hby at_16) rfl  k) ?_
  obtain ⟨_, _, ⟨T2, L2, k2, n2⟩, -, X2, ⟨Lc2, hQ2, l2, y2, z2⟩, st2⟩ := Jvm.LawKit.callS X1 hx (y := (⟨"com/example/facl/facl/RightsIncludesPinLaw", "pick", "(I)Lcom/example/facl/facl/Rights;"⟩ : MethodName)) hown (mvT hZ (hw _ (List.mem_of_getElem? (i := 0) rfl))) (mvT hZ (hw _ (List.mem_of_getElem? (i := 1) rfl))) (mvT hZ (hw _ (List.mem_of_getElem? (i := 2) rfl))) (mvT hZ (hw _ (List.mem_of_getElem? (i := 3) rfl))) (by decide) (backOf (W := 0) (rmP l Z a0 hw [] (py &&& (7 : Int32)) r_Rights_NONE r_Rights_EXECUTE r_Rights_WRITE r_Rights_WRITE_EXECUTE r_Rights_READ r_Rights_READ_EXECUTE r_Rights_READ_WRITE r_Rights_ALL h0 n0 S_r_Rights_NONE E_r_Rights_NONE F_r_Rights_NONE_bits S_r_Rights_EXECUTE E_r_Rights_EXECUTE F_r_Rights_EXECUTE_bits S_r_Rights_WRITE E_r_Rights_WRITE F_r_Rights_WRITE_bits S_r_Rights_WRITE_EXECUTE E_r_Rights_WRITE_EXECUTE F_r_Rights_WRITE_EXECUTE_bits S_r_Rights_READ E_r_Rights_READ F_r_Rights_READ_bits S_r_Rights_READ_EXECUTE E_r_Rights_READ_EXECUTE F_r_Rights_READ_EXECUTE_bits S_r_Rights_READ_WRITE E_r_Rights_READ_WRITE F_r_Rights_READ_WRITE_bits S_r_Rights_ALL E_r_Rights_ALL F_r_Rights_ALL_bits (own_and7 _ rfl)) hZ (hw _ (List.mem_of_getElem? (i := 3) rfl)) (hw _ (List.mem_of_getElem? (i := 2) rfl)) (by decide) (by decide)) (g := (mkF m 17 #[iv px, iv py, iv (px &&& (7 : Int32)), iv (py &&& (7 : Int32)), rv w_1, .unset, .unset] [(.int (py &&& (7 : Int32)))])) rfl (by rw [hml]; rfl) (argsL := [(.int (py &&& (7 : Int32)))]) (rest := []) (lenOf pd_0 rfl) rfl (by show 2 * 0 + _ ≤ _; exact Nat.le_of_eq rfl) (hb hby at_17) (fun _ _ => ⟨rfl, Kc1, (by decide : 0 + 0 ≤ _), (by decide : 0 + 0 ≤ _)⟩)
  dsimp only [Pt.U, Pt.locs, Pt.cells, Pt.slots] at X2 l2 y2 z2 st2 hQ2
  subst l2 y2 z2
  obtain ⟨w_2, rfl, N2q, Kc2, Fc2_0, Fc2_1⟩ := hQ2
  have N2 := Fr.app N1 N2q
  refine Go.pull (V := T2.setTop (mkF m 20 #[iv px, iv py, iv (px &&& (7 : Int32)), iv (py &&& (7 : Int32)), rv w_1, .unset, .unset] [(.ref w_2)])) st2 ?_
  refine Go.pull (V := T2.setTop (mkF m 22 #[iv px, iv py, iv (px &&& (7 : Int32)), iv (py &&& (7 : Int32)), rv w_1, rv w_2, .unset] [])) (fun t k => XS.astore X2.here hx rfl (hb hby at_20) rfl rfl (l' := #[iv px, iv py, iv (px &&& (7 : Int32)), iv (py &&& (7 : Int32)), rv w_1, rv w_2, .unset]) rfl k) ?_
  refine Go.pull (V := T2.setTop (mkF m 23 #[iv px, iv py, iv (px &&& (7 : Int32)), iv (py &&& (7 : Int32)), rv w_1, rv w_2, .unset] [(.int (px &&& (7 : Int32)))])) (fun t k => XS.iloadN X2.here hx rfl (hb hby at_22) rfl  k) ?_
  refine Go.pull (V := T2.setTop (mkF m 24 #[iv px, iv py, iv (px &&& (7 : Int32)), iv (py &&& (7 : Int32)), rv w_1, rv w_2, .unset] [(.int (py &&& (7 : Int32))), (.int (px &&& (7 : Int32)))])) (fun t k => XS.iloadN X2.here hx rfl (hb hby at_23) rfl  k) ?_
  refine Go.pull (V := T2.setTop (mkF m 25 #[iv px, iv py, iv (px &&& (7 : Int32)), iv (py &&& (7 : Int32)), rv w_1, rv w_2, .unset] [(.int 4), (.int (py &&& (7 : Int32))), (.int (px &&& (7 : Int32)))])) (fun t k => XS.iconst X2.here hx rfl (hb hby at_24) k) ?_
  obtain ⟨_, _, ⟨T3, L3, k3, n3⟩, -, X3, ⟨Lc3, hQ3, l3, y3, z3⟩, st3⟩ := Jvm.LawKit.callS X2 hx (y := (⟨"com/example/facl/facl/RightsIncludesPinLaw", "covers", "(III)Z"⟩ : MethodName)) hown (mvT hZ (hw _ (List.mem_of_getElem? (i := 9) rfl))) (mvT hZ (hw _ (List.mem_of_getElem? (i := 10) rfl))) (mvT hZ (hw _ (List.mem_of_getElem? (i := 2) rfl))) (mvT hZ (hw _ (List.mem_of_getElem? (i := 11) rfl))) (by decide) (backOf (W := 0) (rmV l Z a0 hw [] (px &&& (7 : Int32)) (py &&& (7 : Int32)) (4 : Int32) h0 n0 ) hZ (hw _ (List.mem_of_getElem? (i := 11) rfl)) (hw _ (List.mem_of_getElem? (i := 2) rfl)) (by decide) (by decide)) (g := (mkF m 25 #[iv px, iv py, iv (px &&& (7 : Int32)), iv (py &&& (7 : Int32)), rv w_1, rv w_2, .unset] [(.int 4), (.int (py &&& (7 : Int32))), (.int (px &&& (7 : Int32)))])) rfl (by rw [hml]; rfl) (argsL := [(.int (px &&& (7 : Int32))), (.int (py &&& (7 : Int32))), (.int 4)]) (rest := []) (lenOf pd_1 rfl) rfl (by show 2 * 0 + _ ≤ _; exact Nat.le_of_eq rfl) (hb hby at_25) (fun _ _ => ⟨rfl, Kc2, (by decide : 0 + 0 ≤ _), (by decide : 0 + 0 ≤ _)⟩)
  dsimp only [Pt.U, Pt.locs, Pt.cells, Pt.slots] at X3 l3 y3 z3 st3 hQ3
  subst l3 y3 z3
  obtain ⟨rfl, N3q, e3⟩ := hQ3
  have N3 := Fr.app N2 N3q
  refine Go.pull (V := T3.setTop (mkF m 28 #[iv px, iv py, iv (px &&& (7 : Int32)), iv (py &&& (7 : Int32)), rv w_1, rv w_2, .unset] [(.int (own_cov (px &&& (7 : Int32)) (py &&& (7 : Int32)) (4 : Int32)))])) st3 ?_
  by_cases hc28_4 : (own_cov (px &&& (7 : Int32)) (py &&& (7 : Int32)) (4 : Int32)) = 0
  · skip
    refine Go.pull (V := T3.setTop (mkF m 53 #[iv px, iv py, iv (px &&& (7 : Int32)), iv (py &&& (7 : Int32)), rv w_1, rv w_2, .unset] [])) (fun t k => XS.ifYes X3.here hx rfl (pc0 := 28) (pc' := 53) rfl (hb hby at_28) rfl (XT.i0_eq_t hc28_4) (by decide) (by decide) k) ?_
    refine Go.pull (V := T3.setTop (mkF m 54 #[iv px, iv py, iv (px &&& (7 : Int32)), iv (py &&& (7 : Int32)), rv w_1, rv w_2, .unset] [(.int 0)])) (fun t k => XS.iconst X3.here hx rfl (hb hby at_53) k) ?_
    refine Go.pull (V := T3.setTop (mkF m 56 #[iv px, iv py, iv (px &&& (7 : Int32)), iv (py &&& (7 : Int32)), rv w_1, rv w_2, iv 0] [])) (fun t k => XS.istore X3.here hx rfl (hb hby at_54) rfl (l' := #[iv px, iv py, iv (px &&& (7 : Int32)), iv (py &&& (7 : Int32)), rv w_1, rv w_2, iv 0]) rfl k) ?_
    refine Go.pull (V := T3.setTop (mkF m 58 #[iv px, iv py, iv (px &&& (7 : Int32)), iv (py &&& (7 : Int32)), rv w_1, rv w_2, iv 0] [(.ref w_1)])) (fun t k => XS.aload X3.here hx rfl (hb hby at_56) rfl rfl k) ?_
    refine Go.pull (V := T3.setTop (mkF m 60 #[iv px, iv py, iv (px &&& (7 : Int32)), iv (py &&& (7 : Int32)), rv w_1, rv w_2, iv 0] [(.ref w_2), (.ref w_1)])) (fun t k => XS.aload X3.here hx rfl (hb hby at_58) rfl rfl k) ?_
    obtain ⟨cq5, kq5, q5a, q5b, q5c⟩ := isOf hZ e3 Fc1_0
    obtain ⟨_, _, ⟨T5, L5, k5, n5⟩, -, X5, ⟨Lc5, hQ5, l5, y5, z5⟩, st5⟩ := X3.virtualBack hx (y := (⟨"com/example/facl/facl/Rights", "includes", "(Lcom/example/facl/facl/Rights;)Z"⟩ : MethodName)) (z := (⟨"com/example/facl/facl/Rights", "includes", "(Lcom/example/facl/facl/Rights;)Z"⟩ : MethodName)) hown (mvT hZ (hw _ (List.mem_of_getElem? (i := 12) rfl))) (mvT hZ (hw _ (List.mem_of_getElem? (i := 13) rfl))) (notFace_of_selects (args := #[]) (mvT hZ (hw _ (List.mem_of_getElem? (i := 15) rfl)))) (mvT hZ (hw _ (List.mem_of_getElem? (i := 15) rfl))) (mvT hZ (hw _ (List.mem_of_getElem? (i := 14) rfl))) (by decide) (backOf (W := 0) (rmI l Z a0 hw [] w_1 w_2 (px &&& (7 : Int32)) (py &&& (7 : Int32)) h0 n0 Fc1_1 Fc2_1) hZ (hw _ (List.mem_of_getElem? (i := 16) rfl)) (hw _ (List.mem_of_getElem? (i := 5) rfl)) (by decide) (by decide)) q5a q5c (g := (mkF m 60 #[iv px, iv py, iv (px &&& (7 : Int32)), iv (py &&& (7 : Int32)), rv w_1, rv w_2, iv 0] [(.ref w_2), (.ref w_1)])) rfl (by rw [hml]; rfl) (Steps.refl _) (argsL := [(.ref w_2)]) (rest := []) (lenOf pd_2 rfl) rfl (by show 2 * 0 + _ ≤ _; exact Nat.le_of_eq rfl) (hb hby at_60) (fun _ _ => ⟨rfl, e3, (by decide : 0 + 0 ≤ _), (by decide : 0 + 0 ≤ _)⟩)
    dsimp only [Pt.U, Pt.locs, Pt.cells, Pt.slots] at X5 l5 y5 z5 st5 hQ5
    subst l5 y5 z5
    obtain ⟨rfl, N5q, e5⟩ := hQ5
    have N5 := Fr.app N3 N5q
    refine Go.pull (V := T5.setTop (mkF m 63 #[iv px, iv py, iv (px &&& (7 : Int32)), iv (py &&& (7 : Int32)), rv w_1, rv w_2, iv 0] [(.int (own_inc (px &&& (7 : Int32)) (py &&& (7 : Int32))))])) (fun _ k => st5.trans k) ?_
    refine Go.pull (V := T5.setTop (mkF m 65 #[iv px, iv py, iv (px &&& (7 : Int32)), iv (py &&& (7 : Int32)), rv w_1, rv w_2, iv 0] [(.int 0), (.int (own_inc (px &&& (7 : Int32)) (py &&& (7 : Int32))))])) (fun t k => XS.iload X5.here hx rfl (hb hby at_63) rfl  k) ?_
    refine Go.pull (V := T5.setTop (mkF m 68 #[iv px, iv py, iv (px &&& (7 : Int32)), iv (py &&& (7 : Int32)), rv w_1, rv w_2, iv 0] [])) (fun t k => XS.icmpNo X5.here hx rfl (hb hby at_65) rfl (XT.ii_ne_f (by rw [own_law (own_and7 _ rfl) (own_and7 _ rfl), if_pos hc28_4])) k) ?_
    refine Go.pull (V := T5.setTop (mkF m 69 #[iv px, iv py, iv (px &&& (7 : Int32)), iv (py &&& (7 : Int32)), rv w_1, rv w_2, iv 0] [(.int 1)])) (fun t k => XS.iconst X5.here hx rfl (hb hby at_68) k) ?_
    refine Go.pull (V := T5.setTop (mkF m 73 #[iv px, iv py, iv (px &&& (7 : Int32)), iv (py &&& (7 : Int32)), rv w_1, rv w_2, iv 0] [(.int 1)])) (fun t k => XS.goto X5.here hx rfl (pc0 := 69) (pc' := 73) rfl (hb hby at_69) (by decide) (by decide) k) ?_
    exact Go.retN X5 hx Bd.notSynchronized (t := .boolean) Bd.returns (by simp) (hb hby at_73) ⟨rfl, N5⟩ (by decide) (by decide)
  · skip
    refine Go.pull (V := T3.setTop (mkF m 31 #[iv px, iv py, iv (px &&& (7 : Int32)), iv (py &&& (7 : Int32)), rv w_1, rv w_2, .unset] [])) (fun t k => XS.ifNo X3.here hx rfl (hb hby at_28) rfl (XT.i0_eq_f hc28_4) k) ?_
    refine Go.pull (V := T3.setTop (mkF m 32 #[iv px, iv py, iv (px &&& (7 : Int32)), iv (py &&& (7 : Int32)), rv w_1, rv w_2, .unset] [(.int (px &&& (7 : Int32)))])) (fun t k => XS.iloadN X3.here hx rfl (hb hby at_31) rfl  k) ?_
    refine Go.pull (V := T3.setTop (mkF m 33 #[iv px, iv py, iv (px &&& (7 : Int32)), iv (py &&& (7 : Int32)), rv w_1, rv w_2, .unset] [(.int (py &&& (7 : Int32))), (.int (px &&& (7 : Int32)))])) (fun t k => XS.iloadN X3.here hx rfl (hb hby at_32) rfl  k) ?_
    refine Go.pull (V := T3.setTop (mkF m 34 #[iv px, iv py, iv (px &&& (7 : Int32)), iv (py &&& (7 : Int32)), rv w_1, rv w_2, .unset] [(.int 2), (.int (py &&& (7 : Int32))), (.int (px &&& (7 : Int32)))])) (fun t k => XS.iconst X3.here hx rfl (hb hby at_33) k) ?_
    obtain ⟨_, _, ⟨T6, L6, k6, n6⟩, -, X6, ⟨Lc6, hQ6, l6, y6, z6⟩, st6⟩ := Jvm.LawKit.callS X3 hx (y := (⟨"com/example/facl/facl/RightsIncludesPinLaw", "covers", "(III)Z"⟩ : MethodName)) hown (mvT hZ (hw _ (List.mem_of_getElem? (i := 9) rfl))) (mvT hZ (hw _ (List.mem_of_getElem? (i := 10) rfl))) (mvT hZ (hw _ (List.mem_of_getElem? (i := 2) rfl))) (mvT hZ (hw _ (List.mem_of_getElem? (i := 11) rfl))) (by decide) (backOf (W := 0) (rmV l Z a0 hw [] (px &&& (7 : Int32)) (py &&& (7 : Int32)) (2 : Int32) h0 n0 ) hZ (hw _ (List.mem_of_getElem? (i := 11) rfl)) (hw _ (List.mem_of_getElem? (i := 2) rfl)) (by decide) (by decide)) (g := (mkF m 34 #[iv px, iv py, iv (px &&& (7 : Int32)), iv (py &&& (7 : Int32)), rv w_1, rv w_2, .unset] [(.int 2), (.int (py &&& (7 : Int32))), (.int (px &&& (7 : Int32)))])) rfl (by rw [hml]; rfl) (argsL := [(.int (px &&& (7 : Int32))), (.int (py &&& (7 : Int32))), (.int 2)]) (rest := []) (lenOf pd_1 rfl) rfl (by show 2 * 0 + _ ≤ _; exact Nat.le_of_eq rfl) (hb hby at_34) (fun _ _ => ⟨rfl, e3, (by decide : 0 + 0 ≤ _), (by decide : 0 + 0 ≤ _)⟩)
    dsimp only [Pt.U, Pt.locs, Pt.cells, Pt.slots] at X6 l6 y6 z6 st6 hQ6
    subst l6 y6 z6
    obtain ⟨rfl, N6q, e6⟩ := hQ6
    have N6 := Fr.app N3 N6q
    refine Go.pull (V := T6.setTop (mkF m 37 #[iv px, iv py, iv (px &&& (7 : Int32)), iv (py &&& (7 : Int32)), rv w_1, rv w_2, .unset] [(.int (own_cov (px &&& (7 : Int32)) (py &&& (7 : Int32)) (2 : Int32)))])) st6 ?_
    by_cases hc37_7 : (own_cov (px &&& (7 : Int32)) (py &&& (7 : Int32)) (2 : Int32)) = 0
    · skip
      refine Go.pull (V := T6.setTop (mkF m 53 #[iv px, iv py, iv (px &&& (7 : Int32)), iv (py &&& (7 : Int32)), rv w_1, rv w_2, .unset] [])) (fun t k => XS.ifYes X6.here hx rfl (pc0 := 37) (pc' := 53) rfl (hb hby at_37) rfl (XT.i0_eq_t hc37_7) (by decide) (by decide) k) ?_
      refine Go.pull (V := T6.setTop (mkF m 54 #[iv px, iv py, iv (px &&& (7 : Int32)), iv (py &&& (7 : Int32)), rv w_1, rv w_2, .unset] [(.int 0)])) (fun t k => XS.iconst X6.here hx rfl (hb hby at_53) k) ?_
      refine Go.pull (V := T6.setTop (mkF m 56 #[iv px, iv py, iv (px &&& (7 : Int32)), iv (py &&& (7 : Int32)), rv w_1, rv w_2, iv 0] [])) (fun t k => XS.istore X6.here hx rfl (hb hby at_54) rfl (l' := #[iv px, iv py, iv (px &&& (7 : Int32)), iv (py &&& (7 : Int32)), rv w_1, rv w_2, iv 0]) rfl k) ?_
      refine Go.pull (V := T6.setTop (mkF m 58 #[iv px, iv py, iv (px &&& (7 : Int32)), iv (py &&& (7 : Int32)), rv w_1, rv w_2, iv 0] [(.ref w_1)])) (fun t k => XS.aload X6.here hx rfl (hb hby at_56) rfl rfl k) ?_
      refine Go.pull (V := T6.setTop (mkF m 60 #[iv px, iv py, iv (px &&& (7 : Int32)), iv (py &&& (7 : Int32)), rv w_1, rv w_2, iv 0] [(.ref w_2), (.ref w_1)])) (fun t k => XS.aload X6.here hx rfl (hb hby at_58) rfl rfl k) ?_
      obtain ⟨cq8, kq8, q8a, q8b, q8c⟩ := isOf hZ e6 Fc1_0
      obtain ⟨_, _, ⟨T8, L8, k8, n8⟩, -, X8, ⟨Lc8, hQ8, l8, y8, z8⟩, st8⟩ := X6.virtualBack hx (y := (⟨"com/example/facl/facl/Rights", "includes", "(Lcom/example/facl/facl/Rights;)Z"⟩ : MethodName)) (z := (⟨"com/example/facl/facl/Rights", "includes", "(Lcom/example/facl/facl/Rights;)Z"⟩ : MethodName)) hown (mvT hZ (hw _ (List.mem_of_getElem? (i := 12) rfl))) (mvT hZ (hw _ (List.mem_of_getElem? (i := 13) rfl))) (notFace_of_selects (args := #[]) (mvT hZ (hw _ (List.mem_of_getElem? (i := 15) rfl)))) (mvT hZ (hw _ (List.mem_of_getElem? (i := 15) rfl))) (mvT hZ (hw _ (List.mem_of_getElem? (i := 14) rfl))) (by decide) (backOf (W := 0) (rmI l Z a0 hw [] w_1 w_2 (px &&& (7 : Int32)) (py &&& (7 : Int32)) h0 n0 Fc1_1 Fc2_1) hZ (hw _ (List.mem_of_getElem? (i := 16) rfl)) (hw _ (List.mem_of_getElem? (i := 5) rfl)) (by decide) (by decide)) q8a q8c (g := (mkF m 60 #[iv px, iv py, iv (px &&& (7 : Int32)), iv (py &&& (7 : Int32)), rv w_1, rv w_2, iv 0] [(.ref w_2), (.ref w_1)])) rfl (by rw [hml]; rfl) (Steps.refl _) (argsL := [(.ref w_2)]) (rest := []) (lenOf pd_2 rfl) rfl (by show 2 * 0 + _ ≤ _; exact Nat.le_of_eq rfl) (hb hby at_60) (fun _ _ => ⟨rfl, e6, (by decide : 0 + 0 ≤ _), (by decide : 0 + 0 ≤ _)⟩)
      dsimp only [Pt.U, Pt.locs, Pt.cells, Pt.slots] at X8 l8 y8 z8 st8 hQ8
      subst l8 y8 z8
      obtain ⟨rfl, N8q, e8⟩ := hQ8
      have N8 := Fr.app N6 N8q
      refine Go.pull (V := T8.setTop (mkF m 63 #[iv px, iv py, iv (px &&& (7 : Int32)), iv (py &&& (7 : Int32)), rv w_1, rv w_2, iv 0] [(.int (own_inc (px &&& (7 : Int32)) (py &&& (7 : Int32))))])) (fun _ k => st8.trans k) ?_
      refine Go.pull (V := T8.setTop (mkF m 65 #[iv px, iv py, iv (px &&& (7 : Int32)), iv (py &&& (7 : Int32)), rv w_1, rv w_2, iv 0] [(.int 0), (.int (own_inc (px &&& (7 : Int32)) (py &&& (7 : Int32))))])) (fun t k => XS.iload X8.here hx rfl (hb hby at_63) rfl  k) ?_
      refine Go.pull (V := T8.setTop (mkF m 68 #[iv px, iv py, iv (px &&& (7 : Int32)), iv (py &&& (7 : Int32)), rv w_1, rv w_2, iv 0] [])) (fun t k => XS.icmpNo X8.here hx rfl (hb hby at_65) rfl (XT.ii_ne_f (by rw [own_law (own_and7 _ rfl) (own_and7 _ rfl), if_neg hc28_4, if_pos hc37_7])) k) ?_
      refine Go.pull (V := T8.setTop (mkF m 69 #[iv px, iv py, iv (px &&& (7 : Int32)), iv (py &&& (7 : Int32)), rv w_1, rv w_2, iv 0] [(.int 1)])) (fun t k => XS.iconst X8.here hx rfl (hb hby at_68) k) ?_
      refine Go.pull (V := T8.setTop (mkF m 73 #[iv px, iv py, iv (px &&& (7 : Int32)), iv (py &&& (7 : Int32)), rv w_1, rv w_2, iv 0] [(.int 1)])) (fun t k => XS.goto X8.here hx rfl (pc0 := 69) (pc' := 73) rfl (hb hby at_69) (by decide) (by decide) k) ?_
      exact Go.retN X8 hx Bd.notSynchronized (t := .boolean) Bd.returns (by simp) (hb hby at_73) ⟨rfl, N8⟩ (by decide) (by decide)
    · skip
      refine Go.pull (V := T6.setTop (mkF m 40 #[iv px, iv py, iv (px &&& (7 : Int32)), iv (py &&& (7 : Int32)), rv w_1, rv w_2, .unset] [])) (fun t k => XS.ifNo X6.here hx rfl (hb hby at_37) rfl (XT.i0_eq_f hc37_7) k) ?_
      refine Go.pull (V := T6.setTop (mkF m 41 #[iv px, iv py, iv (px &&& (7 : Int32)), iv (py &&& (7 : Int32)), rv w_1, rv w_2, .unset] [(.int (px &&& (7 : Int32)))])) (fun t k => XS.iloadN X6.here hx rfl (hb hby at_40) rfl  k) ?_
      refine Go.pull (V := T6.setTop (mkF m 42 #[iv px, iv py, iv (px &&& (7 : Int32)), iv (py &&& (7 : Int32)), rv w_1, rv w_2, .unset] [(.int (py &&& (7 : Int32))), (.int (px &&& (7 : Int32)))])) (fun t k => XS.iloadN X6.here hx rfl (hb hby at_41) rfl  k) ?_
      refine Go.pull (V := T6.setTop (mkF m 43 #[iv px, iv py, iv (px &&& (7 : Int32)), iv (py &&& (7 : Int32)), rv w_1, rv w_2, .unset] [(.int 1), (.int (py &&& (7 : Int32))), (.int (px &&& (7 : Int32)))])) (fun t k => XS.iconst X6.here hx rfl (hb hby at_42) k) ?_
      obtain ⟨_, _, ⟨T9, L9, k9, n9⟩, -, X9, ⟨Lc9, hQ9, l9, y9, z9⟩, st9⟩ := Jvm.LawKit.callS X6 hx (y := (⟨"com/example/facl/facl/RightsIncludesPinLaw", "covers", "(III)Z"⟩ : MethodName)) hown (mvT hZ (hw _ (List.mem_of_getElem? (i := 9) rfl))) (mvT hZ (hw _ (List.mem_of_getElem? (i := 10) rfl))) (mvT hZ (hw _ (List.mem_of_getElem? (i := 2) rfl))) (mvT hZ (hw _ (List.mem_of_getElem? (i := 11) rfl))) (by decide) (backOf (W := 0) (rmV l Z a0 hw [] (px &&& (7 : Int32)) (py &&& (7 : Int32)) (1 : Int32) h0 n0 ) hZ (hw _ (List.mem_of_getElem? (i := 11) rfl)) (hw _ (List.mem_of_getElem? (i := 2) rfl)) (by decide) (by decide)) (g := (mkF m 43 #[iv px, iv py, iv (px &&& (7 : Int32)), iv (py &&& (7 : Int32)), rv w_1, rv w_2, .unset] [(.int 1), (.int (py &&& (7 : Int32))), (.int (px &&& (7 : Int32)))])) rfl (by rw [hml]; rfl) (argsL := [(.int (px &&& (7 : Int32))), (.int (py &&& (7 : Int32))), (.int 1)]) (rest := []) (lenOf pd_1 rfl) rfl (by show 2 * 0 + _ ≤ _; exact Nat.le_of_eq rfl) (hb hby at_43) (fun _ _ => ⟨rfl, e6, (by decide : 0 + 0 ≤ _), (by decide : 0 + 0 ≤ _)⟩)
      dsimp only [Pt.U, Pt.locs, Pt.cells, Pt.slots] at X9 l9 y9 z9 st9 hQ9
      subst l9 y9 z9
      obtain ⟨rfl, N9q, e9⟩ := hQ9
      have N9 := Fr.app N6 N9q
      refine Go.pull (V := T9.setTop (mkF m 46 #[iv px, iv py, iv (px &&& (7 : Int32)), iv (py &&& (7 : Int32)), rv w_1, rv w_2, .unset] [(.int (own_cov (px &&& (7 : Int32)) (py &&& (7 : Int32)) (1 : Int32)))])) st9 ?_
      by_cases hc46_10 : (own_cov (px &&& (7 : Int32)) (py &&& (7 : Int32)) (1 : Int32)) = 0
      · skip
        refine Go.pull (V := T9.setTop (mkF m 53 #[iv px, iv py, iv (px &&& (7 : Int32)), iv (py &&& (7 : Int32)), rv w_1, rv w_2, .unset] [])) (fun t k => XS.ifYes X9.here hx rfl (pc0 := 46) (pc' := 53) rfl (hb hby at_46) rfl (XT.i0_eq_t hc46_10) (by decide) (by decide) k) ?_
        refine Go.pull (V := T9.setTop (mkF m 54 #[iv px, iv py, iv (px &&& (7 : Int32)), iv (py &&& (7 : Int32)), rv w_1, rv w_2, .unset] [(.int 0)])) (fun t k => XS.iconst X9.here hx rfl (hb hby at_53) k) ?_
        refine Go.pull (V := T9.setTop (mkF m 56 #[iv px, iv py, iv (px &&& (7 : Int32)), iv (py &&& (7 : Int32)), rv w_1, rv w_2, iv 0] [])) (fun t k => XS.istore X9.here hx rfl (hb hby at_54) rfl (l' := #[iv px, iv py, iv (px &&& (7 : Int32)), iv (py &&& (7 : Int32)), rv w_1, rv w_2, iv 0]) rfl k) ?_
        refine Go.pull (V := T9.setTop (mkF m 58 #[iv px, iv py, iv (px &&& (7 : Int32)), iv (py &&& (7 : Int32)), rv w_1, rv w_2, iv 0] [(.ref w_1)])) (fun t k => XS.aload X9.here hx rfl (hb hby at_56) rfl rfl k) ?_
        refine Go.pull (V := T9.setTop (mkF m 60 #[iv px, iv py, iv (px &&& (7 : Int32)), iv (py &&& (7 : Int32)), rv w_1, rv w_2, iv 0] [(.ref w_2), (.ref w_1)])) (fun t k => XS.aload X9.here hx rfl (hb hby at_58) rfl rfl k) ?_
        obtain ⟨cq11, kq11, q11a, q11b, q11c⟩ := isOf hZ e9 Fc1_0
        obtain ⟨_, _, ⟨T11, L11, k11, n11⟩, -, X11, ⟨Lc11, hQ11, l11, y11, z11⟩, st11⟩ := X9.virtualBack hx (y := (⟨"com/example/facl/facl/Rights", "includes", "(Lcom/example/facl/facl/Rights;)Z"⟩ : MethodName)) (z := (⟨"com/example/facl/facl/Rights", "includes", "(Lcom/example/facl/facl/Rights;)Z"⟩ : MethodName)) hown (mvT hZ (hw _ (List.mem_of_getElem? (i := 12) rfl))) (mvT hZ (hw _ (List.mem_of_getElem? (i := 13) rfl))) (notFace_of_selects (args := #[]) (mvT hZ (hw _ (List.mem_of_getElem? (i := 15) rfl)))) (mvT hZ (hw _ (List.mem_of_getElem? (i := 15) rfl))) (mvT hZ (hw _ (List.mem_of_getElem? (i := 14) rfl))) (by decide) (backOf (W := 0) (rmI l Z a0 hw [] w_1 w_2 (px &&& (7 : Int32)) (py &&& (7 : Int32)) h0 n0 Fc1_1 Fc2_1) hZ (hw _ (List.mem_of_getElem? (i := 16) rfl)) (hw _ (List.mem_of_getElem? (i := 5) rfl)) (by decide) (by decide)) q11a q11c (g := (mkF m 60 #[iv px, iv py, iv (px &&& (7 : Int32)), iv (py &&& (7 : Int32)), rv w_1, rv w_2, iv 0] [(.ref w_2), (.ref w_1)])) rfl (by rw [hml]; rfl) (Steps.refl _) (argsL := [(.ref w_2)]) (rest := []) (lenOf pd_2 rfl) rfl (by show 2 * 0 + _ ≤ _; exact Nat.le_of_eq rfl) (hb hby at_60) (fun _ _ => ⟨rfl, e9, (by decide : 0 + 0 ≤ _), (by decide : 0 + 0 ≤ _)⟩)
        dsimp only [Pt.U, Pt.locs, Pt.cells, Pt.slots] at X11 l11 y11 z11 st11 hQ11
        subst l11 y11 z11
        obtain ⟨rfl, N11q, e11⟩ := hQ11
        have N11 := Fr.app N9 N11q
        refine Go.pull (V := T11.setTop (mkF m 63 #[iv px, iv py, iv (px &&& (7 : Int32)), iv (py &&& (7 : Int32)), rv w_1, rv w_2, iv 0] [(.int (own_inc (px &&& (7 : Int32)) (py &&& (7 : Int32))))])) (fun _ k => st11.trans k) ?_
        refine Go.pull (V := T11.setTop (mkF m 65 #[iv px, iv py, iv (px &&& (7 : Int32)), iv (py &&& (7 : Int32)), rv w_1, rv w_2, iv 0] [(.int 0), (.int (own_inc (px &&& (7 : Int32)) (py &&& (7 : Int32))))])) (fun t k => XS.iload X11.here hx rfl (hb hby at_63) rfl  k) ?_
        refine Go.pull (V := T11.setTop (mkF m 68 #[iv px, iv py, iv (px &&& (7 : Int32)), iv (py &&& (7 : Int32)), rv w_1, rv w_2, iv 0] [])) (fun t k => XS.icmpNo X11.here hx rfl (hb hby at_65) rfl (XT.ii_ne_f (by rw [own_law (own_and7 _ rfl) (own_and7 _ rfl), if_neg hc28_4, if_neg hc37_7, if_pos hc46_10])) k) ?_
        refine Go.pull (V := T11.setTop (mkF m 69 #[iv px, iv py, iv (px &&& (7 : Int32)), iv (py &&& (7 : Int32)), rv w_1, rv w_2, iv 0] [(.int 1)])) (fun t k => XS.iconst X11.here hx rfl (hb hby at_68) k) ?_
        refine Go.pull (V := T11.setTop (mkF m 73 #[iv px, iv py, iv (px &&& (7 : Int32)), iv (py &&& (7 : Int32)), rv w_1, rv w_2, iv 0] [(.int 1)])) (fun t k => XS.goto X11.here hx rfl (pc0 := 69) (pc' := 73) rfl (hb hby at_69) (by decide) (by decide) k) ?_
        exact Go.retN X11 hx Bd.notSynchronized (t := .boolean) Bd.returns (by simp) (hb hby at_73) ⟨rfl, N11⟩ (by decide) (by decide)
      · skip
        refine Go.pull (V := T9.setTop (mkF m 49 #[iv px, iv py, iv (px &&& (7 : Int32)), iv (py &&& (7 : Int32)), rv w_1, rv w_2, .unset] [])) (fun t k => XS.ifNo X9.here hx rfl (hb hby at_46) rfl (XT.i0_eq_f hc46_10) k) ?_
        refine Go.pull (V := T9.setTop (mkF m 50 #[iv px, iv py, iv (px &&& (7 : Int32)), iv (py &&& (7 : Int32)), rv w_1, rv w_2, .unset] [(.int 1)])) (fun t k => XS.iconst X9.here hx rfl (hb hby at_49) k) ?_
        refine Go.pull (V := T9.setTop (mkF m 54 #[iv px, iv py, iv (px &&& (7 : Int32)), iv (py &&& (7 : Int32)), rv w_1, rv w_2, .unset] [(.int 1)])) (fun t k => XS.goto X9.here hx rfl (pc0 := 50) (pc' := 54) rfl (hb hby at_50) (by decide) (by decide) k) ?_
        refine Go.pull (V := T9.setTop (mkF m 56 #[iv px, iv py, iv (px &&& (7 : Int32)), iv (py &&& (7 : Int32)), rv w_1, rv w_2, iv 1] [])) (fun t k => XS.istore X9.here hx rfl (hb hby at_54) rfl (l' := #[iv px, iv py, iv (px &&& (7 : Int32)), iv (py &&& (7 : Int32)), rv w_1, rv w_2, iv 1]) rfl k) ?_
        refine Go.pull (V := T9.setTop (mkF m 58 #[iv px, iv py, iv (px &&& (7 : Int32)), iv (py &&& (7 : Int32)), rv w_1, rv w_2, iv 1] [(.ref w_1)])) (fun t k => XS.aload X9.here hx rfl (hb hby at_56) rfl rfl k) ?_
        refine Go.pull (V := T9.setTop (mkF m 60 #[iv px, iv py, iv (px &&& (7 : Int32)), iv (py &&& (7 : Int32)), rv w_1, rv w_2, iv 1] [(.ref w_2), (.ref w_1)])) (fun t k => XS.aload X9.here hx rfl (hb hby at_58) rfl rfl k) ?_
        obtain ⟨cq12, kq12, q12a, q12b, q12c⟩ := isOf hZ e9 Fc1_0
        obtain ⟨_, _, ⟨T12, L12, k12, n12⟩, -, X12, ⟨Lc12, hQ12, l12, y12, z12⟩, st12⟩ := X9.virtualBack hx (y := (⟨"com/example/facl/facl/Rights", "includes", "(Lcom/example/facl/facl/Rights;)Z"⟩ : MethodName)) (z := (⟨"com/example/facl/facl/Rights", "includes", "(Lcom/example/facl/facl/Rights;)Z"⟩ : MethodName)) hown (mvT hZ (hw _ (List.mem_of_getElem? (i := 12) rfl))) (mvT hZ (hw _ (List.mem_of_getElem? (i := 13) rfl))) (notFace_of_selects (args := #[]) (mvT hZ (hw _ (List.mem_of_getElem? (i := 15) rfl)))) (mvT hZ (hw _ (List.mem_of_getElem? (i := 15) rfl))) (mvT hZ (hw _ (List.mem_of_getElem? (i := 14) rfl))) (by decide) (backOf (W := 0) (rmI l Z a0 hw [] w_1 w_2 (px &&& (7 : Int32)) (py &&& (7 : Int32)) h0 n0 Fc1_1 Fc2_1) hZ (hw _ (List.mem_of_getElem? (i := 16) rfl)) (hw _ (List.mem_of_getElem? (i := 5) rfl)) (by decide) (by decide)) q12a q12c (g := (mkF m 60 #[iv px, iv py, iv (px &&& (7 : Int32)), iv (py &&& (7 : Int32)), rv w_1, rv w_2, iv 1] [(.ref w_2), (.ref w_1)])) rfl (by rw [hml]; rfl) (Steps.refl _) (argsL := [(.ref w_2)]) (rest := []) (lenOf pd_2 rfl) rfl (by show 2 * 0 + _ ≤ _; exact Nat.le_of_eq rfl) (hb hby at_60) (fun _ _ => ⟨rfl, e9, (by decide : 0 + 0 ≤ _), (by decide : 0 + 0 ≤ _)⟩)
        dsimp only [Pt.U, Pt.locs, Pt.cells, Pt.slots] at X12 l12 y12 z12 st12 hQ12
        subst l12 y12 z12
        obtain ⟨rfl, N12q, e12⟩ := hQ12
        have N12 := Fr.app N9 N12q
        refine Go.pull (V := T12.setTop (mkF m 63 #[iv px, iv py, iv (px &&& (7 : Int32)), iv (py &&& (7 : Int32)), rv w_1, rv w_2, iv 1] [(.int (own_inc (px &&& (7 : Int32)) (py &&& (7 : Int32))))])) (fun _ k => st12.trans k) ?_
        refine Go.pull (V := T12.setTop (mkF m 65 #[iv px, iv py, iv (px &&& (7 : Int32)), iv (py &&& (7 : Int32)), rv w_1, rv w_2, iv 1] [(.int 1), (.int (own_inc (px &&& (7 : Int32)) (py &&& (7 : Int32))))])) (fun t k => XS.iload X12.here hx rfl (hb hby at_63) rfl  k) ?_
        refine Go.pull (V := T12.setTop (mkF m 68 #[iv px, iv py, iv (px &&& (7 : Int32)), iv (py &&& (7 : Int32)), rv w_1, rv w_2, iv 1] [])) (fun t k => XS.icmpNo X12.here hx rfl (hb hby at_65) rfl (XT.ii_ne_f (by rw [own_law (own_and7 _ rfl) (own_and7 _ rfl), if_neg hc28_4, if_neg hc37_7, if_neg hc46_10])) k) ?_
        refine Go.pull (V := T12.setTop (mkF m 69 #[iv px, iv py, iv (px &&& (7 : Int32)), iv (py &&& (7 : Int32)), rv w_1, rv w_2, iv 1] [(.int 1)])) (fun t k => XS.iconst X12.here hx rfl (hb hby at_68) k) ?_
        refine Go.pull (V := T12.setTop (mkF m 73 #[iv px, iv py, iv (px &&& (7 : Int32)), iv (py &&& (7 : Int32)), rv w_1, rv w_2, iv 1] [(.int 1)])) (fun t k => XS.goto X12.here hx rfl (pc0 := 69) (pc' := 73) rfl (hb hby at_69) (by decide) (by decide) k) ?_
        exact Go.retN X12 hx Bd.notSynchronized (t := .boolean) Bd.returns (by simp) (hb hby at_73) ⟨rfl, N12⟩ (by decide) (by decide)
set_option maxRecDepth 65536 in
set_option maxHeartbeats 40000000 in
theorem comes_1 {Post : Tables → Env → Array Value → State → Outcome → State → Prop} (hpost : ∀ tb e args s v u, (limb_1_1.after args s (.returned v) u = true ∧ limb_1_2.after args s (.returned v) u = true ∧ True) → FrameEnd s (.returned v) u (Jvm.fieldLocs frame_1_writes args s ++ Jvm.arrayLocs frame_1_arrays args s ++ Jvm.staticLocs frame_1_statics s) 0 0 → Post tb e args s (.returned v) u) :
    ArmFor flags0 classFile x code maxLocals ret World_1 tables_1 room_1 Calls_1 rest_1 Pre_1 Post := by
  intro l hfl _ _ p e ha hc hk s m args below hf hA hF happ hP
  obtain ⟨hcalls, hrest, hpre⟩ := hP
  obtain ⟨-, -, -, hnamed, -, -, -, hat⟩ := (Spec.applies_iff hf).mp happ
  obtain ⟨hg, hn⟩ := and_e (Cond.before_iff.mp (show (Jvm.Cond.and given_1 narrow_1).before args s = true from hpre))
  obtain ⟨y1, y2⟩ := and_e hg
  obtain ⟨y3, y4⟩ := and_e y2
  obtain ⟨y5, y6⟩ := and_e hn
  obtain ⟨y7, y8⟩ := and_e y6
  obtain ⟨y9, y10⟩ := and_e y8
  obtain ⟨y11, y12⟩ := and_e y10
  obtain ⟨y13, y14⟩ := and_e y12
  obtain ⟨y15, y16⟩ := and_e y14
  obtain ⟨y17, y18⟩ := and_e y16
  obtain ⟨y19, y20⟩ := and_e y18
  obtain ⟨y21, y22⟩ := and_e y20
  obtain ⟨y23, y24⟩ := and_e y22
  obtain ⟨y25, y26⟩ := and_e y24
  obtain ⟨y27, y28⟩ := and_e y26
  obtain ⟨y29, y30⟩ := and_e y28
  obtain ⟨y31, y32⟩ := and_e y30
  obtain ⟨y33, y34⟩ := and_e y32
  obtain ⟨w0, w1, rfl⟩ : ∃ w0 w1 : Value, args = #[w0, w1] := by
    have hs : args.size = 2 := by simpa [Cond.value, given_1] using y1
    obtain ⟨L⟩ := args
    match L, hs with
    | [w0, w1], _ => exact ⟨w0, w1, rfl⟩
  have hw := fun d (hd : d ∈ tables_1) => atoms_spec (ws := Jvm.Cond.code x code maxLocals ret :: tables_1) hat d (List.mem_cons_of_mem _ hd)
  have hfit : Fit s := fun {y c} hc i hi => by
    obtain ⟨ha, rfl⟩ := Array.getElem?_eq_some_iff.mp hc
    have q := List.all_eq_true.mp ((Array.all_eq_true_iff_forall_mem.mp hF) _ (Array.getElem_mem ha)) i (List.mem_range.mpr hi)
    simpa [Array.getElem?_eq_getElem hi] using q
  obtain ⟨i0, ei0⟩ := is_v y3
  obtain rfl : w0 = (.int i0) := Option.some.inj ei0
  obtain ⟨i1, ei1⟩ := is_v y4
  obtain rfl : w1 = (.int i1) := Option.some.inj ei1
  obtain ⟨a_Rights_NONE, ev_a_Rights_NONE⟩ := exa_v y5
  have EX_a_Rights_NONE : Exa s s.heap a_Rights_NONE "com/example/facl/facl/Rights" := Exa.start ev_a_Rights_NONE y5
  have ST_a_Rights_NONE : Sta s s.heap "com/example/facl/facl/Rights" "NONE" "Lcom/example/facl/facl/Rights;" (.ref a_Rights_NONE) := Sta.start ev_a_Rights_NONE (Or.inr ⟨(hw _ (List.mem_of_getElem? (i := 5) rfl)), (hw _ (List.mem_of_getElem? (i := 6) rfl))⟩)
  obtain ⟨a_Rights_WRITE_EXECUTE, ev_a_Rights_WRITE_EXECUTE⟩ := exa_v y7
  have EX_a_Rights_WRITE_EXECUTE : Exa s s.heap a_Rights_WRITE_EXECUTE "com/example/facl/facl/Rights" := Exa.start ev_a_Rights_WRITE_EXECUTE y7
  have ST_a_Rights_WRITE_EXECUTE : Sta s s.heap "com/example/facl/facl/Rights" "WRITE_EXECUTE" "Lcom/example/facl/facl/Rights;" (.ref a_Rights_WRITE_EXECUTE) := Sta.start ev_a_Rights_WRITE_EXECUTE (Or.inr ⟨(hw _ (List.mem_of_getElem? (i := 5) rfl)), (hw _ (List.mem_of_getElem? (i := 8) rfl))⟩)
  obtain ⟨a_Rights_READ_WRITE, ev_a_Rights_READ_WRITE⟩ := exa_v y13
  have EX_a_Rights_READ_WRITE : Exa s s.heap a_Rights_READ_WRITE "com/example/facl/facl/Rights" := Exa.start ev_a_Rights_READ_WRITE y13
  have ST_a_Rights_READ_WRITE : Sta s s.heap "com/example/facl/facl/Rights" "READ_WRITE" "Lcom/example/facl/facl/Rights;" (.ref a_Rights_READ_WRITE) := Sta.start ev_a_Rights_READ_WRITE (Or.inr ⟨(hw _ (List.mem_of_getElem? (i := 5) rfl)), (hw _ (List.mem_of_getElem? (i := 20) rfl))⟩)
  obtain ⟨a_Rights_EXECUTE, ev_a_Rights_EXECUTE⟩ := exa_v y15
  have EX_a_Rights_EXECUTE : Exa s s.heap a_Rights_EXECUTE "com/example/facl/facl/Rights" := Exa.start ev_a_Rights_EXECUTE y15
  have ST_a_Rights_EXECUTE : Sta s s.heap "com/example/facl/facl/Rights" "EXECUTE" "Lcom/example/facl/facl/Rights;" (.ref a_Rights_EXECUTE) := Sta.start ev_a_Rights_EXECUTE (Or.inr ⟨(hw _ (List.mem_of_getElem? (i := 5) rfl)), (hw _ (List.mem_of_getElem? (i := 22) rfl))⟩)
  obtain ⟨a_Rights_READ, ev_a_Rights_READ⟩ := exa_v y21
  have EX_a_Rights_READ : Exa s s.heap a_Rights_READ "com/example/facl/facl/Rights" := Exa.start ev_a_Rights_READ y21
  have ST_a_Rights_READ : Sta s s.heap "com/example/facl/facl/Rights" "READ" "Lcom/example/facl/facl/Rights;" (.ref a_Rights_READ) := Sta.start ev_a_Rights_READ (Or.inr ⟨(hw _ (List.mem_of_getElem? (i := 5) rfl)), (hw _ (List.mem_of_getElem? (i := 24) rfl))⟩)
  obtain ⟨a_Rights_READ_EXECUTE, ev_a_Rights_READ_EXECUTE⟩ := exa_v y25
  have EX_a_Rights_READ_EXECUTE : Exa s s.heap a_Rights_READ_EXECUTE "com/example/facl/facl/Rights" := Exa.start ev_a_Rights_READ_EXECUTE y25
  have ST_a_Rights_READ_EXECUTE : Sta s s.heap "com/example/facl/facl/Rights" "READ_EXECUTE" "Lcom/example/facl/facl/Rights;" (.ref a_Rights_READ_EXECUTE) := Sta.start ev_a_Rights_READ_EXECUTE (Or.inr ⟨(hw _ (List.mem_of_getElem? (i := 5) rfl)), (hw _ (List.mem_of_getElem? (i := 26) rfl))⟩)
  obtain ⟨a_Rights_ALL, ev_a_Rights_ALL⟩ := exa_v y29
  have EX_a_Rights_ALL : Exa s s.heap a_Rights_ALL "com/example/facl/facl/Rights" := Exa.start ev_a_Rights_ALL y29
  have ST_a_Rights_ALL : Sta s s.heap "com/example/facl/facl/Rights" "ALL" "Lcom/example/facl/facl/Rights;" (.ref a_Rights_ALL) := Sta.start ev_a_Rights_ALL (Or.inr ⟨(hw _ (List.mem_of_getElem? (i := 5) rfl)), (hw _ (List.mem_of_getElem? (i := 28) rfl))⟩)
  obtain ⟨a_Rights_WRITE, ev_a_Rights_WRITE⟩ := exa_v y33
  have EX_a_Rights_WRITE : Exa s s.heap a_Rights_WRITE "com/example/facl/facl/Rights" := Exa.start ev_a_Rights_WRITE y33
  have ST_a_Rights_WRITE : Sta s s.heap "com/example/facl/facl/Rights" "WRITE" "Lcom/example/facl/facl/Rights;" (.ref a_Rights_WRITE) := Sta.start ev_a_Rights_WRITE (Or.inr ⟨(hw _ (List.mem_of_getElem? (i := 5) rfl)), (hw _ (List.mem_of_getElem? (i := 30) rfl))⟩)
  have FL_a_Rights_NONE_bits : Fld s s.heap a_Rights_NONE "com/example/facl/facl/Rights" "bits" "I" (.int 0) := Fld.start ((fld_at ev_a_Rights_NONE).symm.trans (own_eq_i y9))
  have FL_a_Rights_WRITE_EXECUTE_bits : Fld s s.heap a_Rights_WRITE_EXECUTE "com/example/facl/facl/Rights" "bits" "I" (.int 3) := Fld.start ((fld_at ev_a_Rights_WRITE_EXECUTE).symm.trans (own_eq_i y11))
  have FL_a_Rights_READ_WRITE_bits : Fld s s.heap a_Rights_READ_WRITE "com/example/facl/facl/Rights" "bits" "I" (.int 6) := Fld.start ((fld_at ev_a_Rights_READ_WRITE).symm.trans (own_eq_i y17))
  have FL_a_Rights_EXECUTE_bits : Fld s s.heap a_Rights_EXECUTE "com/example/facl/facl/Rights" "bits" "I" (.int 1) := Fld.start ((fld_at ev_a_Rights_EXECUTE).symm.trans (own_eq_i y19))
  have FL_a_Rights_READ_bits : Fld s s.heap a_Rights_READ "com/example/facl/facl/Rights" "bits" "I" (.int 4) := Fld.start ((fld_at ev_a_Rights_READ).symm.trans (own_eq_i y23))
  have FL_a_Rights_READ_EXECUTE_bits : Fld s s.heap a_Rights_READ_EXECUTE "com/example/facl/facl/Rights" "bits" "I" (.int 5) := Fld.start ((fld_at ev_a_Rights_READ_EXECUTE).symm.trans (own_eq_i y27))
  have FL_a_Rights_ALL_bits : Fld s s.heap a_Rights_ALL "com/example/facl/facl/Rights" "bits" "I" (.int 7) := Fld.start ((fld_at ev_a_Rights_ALL).symm.trans (own_eq_i y31))
  have FL_a_Rights_WRITE_bits : Fld s s.heap a_Rights_WRITE "com/example/facl/facl/Rights" "bits" "I" (.int 2) := Fld.start ((fld_at ev_a_Rights_WRITE).symm.trans (own_eq_i y34))
  obtain ⟨n, o, h1, h2, h3, _, L, rfl, ⟨rfl, N⟩, hq⟩ := rm0 l s _ hw tables_1 i0 i1 a_Rights_NONE a_Rights_WRITE_EXECUTE a_Rights_READ_WRITE a_Rights_EXECUTE a_Rights_READ a_Rights_READ_EXECUTE a_Rights_ALL a_Rights_WRITE s.heap s.heap.size (Nat.le_refl _) ST_a_Rights_NONE EX_a_Rights_NONE ST_a_Rights_WRITE_EXECUTE EX_a_Rights_WRITE_EXECUTE ST_a_Rights_READ_WRITE EX_a_Rights_READ_WRITE ST_a_Rights_EXECUTE EX_a_Rights_EXECUTE ST_a_Rights_READ EX_a_Rights_READ ST_a_Rights_READ_EXECUTE EX_a_Rights_READ_EXECUTE ST_a_Rights_ALL EX_a_Rights_ALL ST_a_Rights_WRITE EX_a_Rights_WRITE FL_a_Rights_NONE_bits FL_a_Rights_WRITE_EXECUTE_bits FL_a_Rights_READ_WRITE_bits FL_a_Rights_EXECUTE_bits FL_a_Rights_READ_bits FL_a_Rights_READ_EXECUTE_bits FL_a_Rights_ALL_bits FL_a_Rights_WRITE_bits p e ha hc hk s m _ below hf ((Spec.applies_iff_loose hf).mp happ).1 ⟨rfl, State.Warmed39.refl s, rfl⟩ trivial
  refine ⟨n, _, h1, h2, h3, hpost _ _ _ _ _ _ ⟨Cond.after_iff.mpr rfl, Cond.after_iff.mpr (eq_i res_at (Term.int_eval (1)) rfl), trivial⟩ ⟨hq.1, hq.2.1, (hq.2.2.sift fun y hy => Or.inr (N y hy)).mono (by decide) (by decide)⟩⟩
theorem main_1_1 : Claimed_1_1 := comes_1 fun _ _ _ _ _ _ h hF => ⟨h.1, hF⟩
theorem main_1_2 : Claimed_1_2 := comes_1 fun _ _ _ _ _ _ h hF => ⟨h.2.1, hF⟩
end Jvm.Pilot.@@N@@
namespace Jvm.Pilot.@@N@@
open Jvm Jvm.ClassFile Sem Op Lib Jvm.Free Jvm.Stand Jvm.Pilot.@@N@@.Jvm.D
/-! MADE BY PROGRAM (witnessworld.py) out of the Statement's table words and the real class files: 12 classes; the members and pool entries that the words name. The judged class is class 1, her method 1. -/
namespace start1
open Jvm.ClassFile
def u (s : String) : CpInfo := .utf8 (stringToUtf16 s)
/-- a pool by its gaps: so many unusable entries, then the entry; so many at the end -/
def gap : Nat → List CpInfo → List CpInfo
  | 0, r => r
  | n + 1, r => .unusable :: gap n r
def poolList (es : List (Nat × CpInfo)) (last : Nat) : List CpInfo := es.foldr (fun e r => gap e.1 (e.2 :: r)) (gap last [])
def pool (es : List (Nat × CpInfo)) (last : Nat) : Array CpInfo := ⟨poolList es last⟩
def fileOf (pool : Array CpInfo) (this : Nat) (attrs : Array Attribute := #[]) (ms : Array MethodInfo := #[]) (fl : Nat := 33) (sup : Nat := 0) (ifs : Array Nat := #[]) (fds : Array FieldInfo := #[]) : ClassFile where
  minorVersion := 0
  majorVersion := 65
  constantPool := pool
  accessFlags := fl
  thisClass := this
  superClass := sup
  interfaces := ifs
  fields := fds
  methods := ms
  attributes := attrs
def plain (name : String) (sup : Option ClassId) : Class where
  name := name
  kind := .ordinary
  loader := none
  accessFlags := 33
  super := sup
  interfaces := #[]
  cf := none
  fields := #[]
  methods := #[]
  instanceTypes := #[]
  staticTypes := #[]
  resolved := #[]
  callSites := []
  init := .initialized
  statics := none
  mirror := none

def pool0 : Array CpInfo := pool [(5, u "<init>"), (0, u "()V"), (1, .class_ 10), (1, u "java/lang/Object")] 113

def k0m0 : Method := { name := "<init>", desc := "()V", sig := { parameters := [], returnType := none }, accessFlags := 1, code := none }
/-- java/lang/Object -/
def k0 : Class := { plain "java/lang/Object" none with
  accessFlags := 33
  interfaces := #[]
  cf := some (fileOf pool0 8 #[] #[{ accessFlags := 1, nameIndex := 5, descriptorIndex := 6, attributes := #[] }] 33 0 #[] #[])
  fields := #[]
  methods := #[k0m0]
  instanceTypes := #[]
  staticTypes := #[]
  resolved := Array.replicate 124 none
  statics := none }

def pool1 : Array CpInfo := pool [(2, .class_ 4), (1, u "java/lang/Object"), (0, u "<init>"), (0, u "()V"), (0, .methodref 8 9), (0, .class_ 10), (0, .nameAndType 11 12), (0, u "com/example/facl/facl/RightsIncludesPinLaw"), (0, u "pick"), (0, u "(I)Lcom/example/facl/facl/Rights;"), (0, .methodref 8 14), (0, .nameAndType 15 16), (0, u "covers"), (0, u "(III)Z"), (0, .methodref 18 19), (0, .class_ 20), (0, .nameAndType 21 22), (0, u "com/example/facl/facl/Rights"), (0, u "includes"), (0, u "(Lcom/example/facl/facl/Rights;)Z"), (0, .fieldref 18 24), (0, .nameAndType 25 26), (0, u "NONE"), (0, u "Lcom/example/facl/facl/Rights;"), (0, .fieldref 18 28), (0, .nameAndType 29 26), (0, u "EXECUTE"), (0, .fieldref 18 31), (0, .nameAndType 32 26), (0, u "WRITE"), (0, .fieldref 18 34), (0, .nameAndType 35 26), (0, u "WRITE_EXECUTE"), (0, .fieldref 18 37), (0, .nameAndType 38 26), (0, u "READ"), (0, .fieldref 18 40), (0, .nameAndType 41 26), (0, u "READ_EXECUTE"), (0, .fieldref 18 43), (0, .nameAndType 44 26), (0, u "READ_WRITE"), (0, .fieldref 18 46), (0, .nameAndType 47 26), (0, u "ALL"), (2, u "law"), (0, u "(II)Z")] 3

def k1m0 : Method := { name := "<init>", desc := "()V", sig := { parameters := [], returnType := none }, accessFlags := 2, code := none }
def k1c1 : Code := { maxStack := 3, maxLocals := 7, code := code, exceptionTable := #[], attributes := #[] }
def k1m1 : Method := { name := "law", desc := "(II)Z", sig := { parameters := [.int, .int], returnType := some .boolean }, accessFlags := 9, code := some k1c1 }
def k1c2 : Code := { maxStack := 2, maxLocals := 3, code := method_3_code, exceptionTable := #[], attributes := #[] }
def k1m2 : Method := { name := "covers", desc := "(III)Z", sig := { parameters := [.int, .int, .int], returnType := some .boolean }, accessFlags := 10, code := some k1c2 }
def k1c3 : Code := { maxStack := 2, maxLocals := 1, code := method_4_code, exceptionTable := #[], attributes := #[] }
def k1m3 : Method := { name := "pick", desc := "(I)Lcom/example/facl/facl/Rights;", sig := { parameters := [.int], returnType := some (.object "com/example/facl/facl/Rights") }, accessFlags := 10, code := some k1c3 }
/-- com/example/facl/facl/RightsIncludesPinLaw -/
def k1 : Class := { plain "com/example/facl/facl/RightsIncludesPinLaw" (some 0) with
  accessFlags := 49
  interfaces := #[]
  cf := some (fileOf pool1 8 #[] #[{ accessFlags := 2, nameIndex := 5, descriptorIndex := 6, attributes := #[] }, { accessFlags := 9, nameIndex := 50, descriptorIndex := 51, attributes := #[] }, { accessFlags := 10, nameIndex := 15, descriptorIndex := 16, attributes := #[] }, { accessFlags := 10, nameIndex := 11, descriptorIndex := 12, attributes := #[] }] 49 2 #[] #[])
  fields := #[]
  methods := #[k1m0, k1m1, k1m2, k1m3]
  instanceTypes := #[]
  staticTypes := #[]
  resolved := Array.replicate 55 none
  statics := none }

def pool2 : Array CpInfo := pool [(1, .class_ 2), (0, u "java/lang/constant/Constable"), (0, .class_ 4), (0, u "java/lang/Object")] 6

/-- java/lang/constant/Constable -/
def k2 : Class := { plain "java/lang/constant/Constable" (some 0) with
  accessFlags := 1537
  interfaces := #[]
  cf := some (fileOf pool2 1 #[] #[] 1537 3 #[] #[])
  fields := #[]
  methods := #[]
  instanceTypes := #[]
  staticTypes := #[]
  resolved := Array.replicate 11 none
  statics := none }

def pool3 : Array CpInfo := pool [(1, .class_ 2), (0, u "java/lang/Comparable"), (0, .class_ 4), (0, u "java/lang/Object")] 7

/-- java/lang/Comparable -/
def k3 : Class := { plain "java/lang/Comparable" (some 0) with
  accessFlags := 1537
  interfaces := #[]
  cf := some (fileOf pool3 1 #[] #[] 1537 3 #[] #[])
  fields := #[]
  methods := #[]
  instanceTypes := #[]
  staticTypes := #[]
  resolved := Array.replicate 12 none
  statics := none }

def pool4 : Array CpInfo := pool [(1, .class_ 2), (0, u "java/io/Serializable"), (0, .class_ 4), (0, u "java/lang/Object")] 2

/-- java/io/Serializable -/
def k4 : Class := { plain "java/io/Serializable" (some 0) with
  accessFlags := 1537
  interfaces := #[]
  cf := some (fileOf pool4 1 #[] #[] 1537 3 #[] #[])
  fields := #[]
  methods := #[]
  instanceTypes := #[]
  staticTypes := #[]
  resolved := Array.replicate 7 none
  statics := none }

def pool5 : Array CpInfo := pool [(2, .class_ 4), (1, u "java/lang/Enum"), (0, u "name"), (0, u "Ljava/lang/String;"), (2, u "ordinal"), (0, u "I"), (1, .class_ 14), (1, u "java/lang/Object"), (4, u "hash"), (86, .class_ 108), (1, u "java/lang/Enum$EnumDesc"), (2, .class_ 112), (0, u "java/lang/constant/Constable"), (0, .class_ 114), (0, u "java/lang/Comparable"), (0, .class_ 116), (0, u "java/io/Serializable")] 87

/-- java/lang/Enum -/
def k5 : Class := { plain "java/lang/Enum" (some 0) with
  accessFlags := 1057
  interfaces := #[2, 3, 4]
  cf := some (fileOf pool5 2 #[.nestMembers #[106]] #[] 1057 12 #[111, 113, 115] #[{ accessFlags := 18, nameIndex := 5, descriptorIndex := 6, attributes := #[] }, { accessFlags := 18, nameIndex := 9, descriptorIndex := 10, attributes := #[] }, { accessFlags := 2, nameIndex := 19, descriptorIndex := 10, attributes := #[] }])
  fields := #[{ name := "name", type := (.object "java/lang/String"), accessFlags := 18, slot := 0, constantValue := 0 }, { name := "ordinal", type := .int, accessFlags := 18, slot := 1, constantValue := 0 }, { name := "hash", type := .int, accessFlags := 2, slot := 2, constantValue := 0 }]
  methods := #[]
  instanceTypes := #[(.object "java/lang/String"), .int, .int]
  staticTypes := #[]
  resolved := Array.replicate 204 none
  statics := none }

def pool6 : Array CpInfo := pool [(1, .class_ 2), (0, u "com/example/facl/facl/Rights"), (2, u "NONE"), (0, u "Lcom/example/facl/facl/Rights;"), (2, u "EXECUTE"), (2, u "WRITE"), (2, u "WRITE_EXECUTE"), (2, u "READ"), (2, u "READ_EXECUTE"), (2, u "READ_WRITE"), (2, u "ALL"), (2, u "$VALUES"), (0, u "[Lcom/example/facl/facl/Rights;"), (6, .class_ 40), (1, u "java/lang/Enum"), (6, .fieldref 1 48), (0, .nameAndType 49 50), (0, u "bits"), (0, u "I"), (2, u "BY_BITS"), (62, u "READ_BIT"), (2, u "WRITE_BIT"), (1, u "EXECUTE_BIT"), (16, u "includes"), (0, u "(Lcom/example/facl/facl/Rights;)Z")] 27

def k6c0 : Code := { maxStack := 2, maxLocals := 2, code := prog_44_method_11_code, exceptionTable := #[], attributes := #[] }
def k6m0 : Method := { name := "includes", desc := "(Lcom/example/facl/facl/Rights;)Z", sig := { parameters := [(.object "com/example/facl/facl/Rights")], returnType := some .boolean }, accessFlags := 1, code := some k6c0 }
/-- com/example/facl/facl/Rights -/
def k6 : Class := { plain "com/example/facl/facl/Rights" (some 5) with
  accessFlags := 16433
  interfaces := #[]
  cf := some (fileOf pool6 1 #[] #[{ accessFlags := 1, nameIndex := 138, descriptorIndex := 139, attributes := #[] }] 16433 38 #[] #[{ accessFlags := 16409, nameIndex := 5, descriptorIndex := 6, attributes := #[] }, { accessFlags := 16409, nameIndex := 9, descriptorIndex := 6, attributes := #[] }, { accessFlags := 16409, nameIndex := 12, descriptorIndex := 6, attributes := #[] }, { accessFlags := 16409, nameIndex := 15, descriptorIndex := 6, attributes := #[] }, { accessFlags := 16409, nameIndex := 18, descriptorIndex := 6, attributes := #[] }, { accessFlags := 16409, nameIndex := 21, descriptorIndex := 6, attributes := #[] }, { accessFlags := 16409, nameIndex := 24, descriptorIndex := 6, attributes := #[] }, { accessFlags := 16409, nameIndex := 27, descriptorIndex := 6, attributes := #[] }, { accessFlags := 26, nameIndex := 116, descriptorIndex := 50, attributes := #[] }, { accessFlags := 26, nameIndex := 119, descriptorIndex := 50, attributes := #[] }, { accessFlags := 26, nameIndex := 121, descriptorIndex := 50, attributes := #[] }, { accessFlags := 26, nameIndex := 53, descriptorIndex := 31, attributes := #[] }, { accessFlags := 18, nameIndex := 49, descriptorIndex := 50, attributes := #[] }, { accessFlags := 4122, nameIndex := 30, descriptorIndex := 31, attributes := #[] }])
  fields := #[{ name := "NONE", type := (.object "com/example/facl/facl/Rights"), accessFlags := 16409, slot := 0, constantValue := 0 }, { name := "EXECUTE", type := (.object "com/example/facl/facl/Rights"), accessFlags := 16409, slot := 1, constantValue := 0 }, { name := "WRITE", type := (.object "com/example/facl/facl/Rights"), accessFlags := 16409, slot := 2, constantValue := 0 }, { name := "WRITE_EXECUTE", type := (.object "com/example/facl/facl/Rights"), accessFlags := 16409, slot := 3, constantValue := 0 }, { name := "READ", type := (.object "com/example/facl/facl/Rights"), accessFlags := 16409, slot := 4, constantValue := 0 }, { name := "READ_EXECUTE", type := (.object "com/example/facl/facl/Rights"), accessFlags := 16409, slot := 5, constantValue := 0 }, { name := "READ_WRITE", type := (.object "com/example/facl/facl/Rights"), accessFlags := 16409, slot := 6, constantValue := 0 }, { name := "ALL", type := (.object "com/example/facl/facl/Rights"), accessFlags := 16409, slot := 7, constantValue := 0 }, { name := "READ_BIT", type := .int, accessFlags := 26, slot := 8, constantValue := 0 }, { name := "WRITE_BIT", type := .int, accessFlags := 26, slot := 9, constantValue := 0 }, { name := "EXECUTE_BIT", type := .int, accessFlags := 26, slot := 10, constantValue := 0 }, { name := "BY_BITS", type := (.array (.object "com/example/facl/facl/Rights")), accessFlags := 26, slot := 11, constantValue := 0 }, { name := "bits", type := .int, accessFlags := 18, slot := 3, constantValue := 0 }, { name := "$VALUES", type := (.array (.object "com/example/facl/facl/Rights")), accessFlags := 4122, slot := 12, constantValue := 0 }]
  methods := #[k6m0]
  instanceTypes := #[(.object "java/lang/String"), .int, .int, .int]
  staticTypes := #[(.object "com/example/facl/facl/Rights"), (.object "com/example/facl/facl/Rights"), (.object "com/example/facl/facl/Rights"), (.object "com/example/facl/facl/Rights"), (.object "com/example/facl/facl/Rights"), (.object "com/example/facl/facl/Rights"), (.object "com/example/facl/facl/Rights"), (.object "com/example/facl/facl/Rights"), .int, .int, .int, (.array (.object "com/example/facl/facl/Rights")), (.array (.object "com/example/facl/facl/Rights"))]
  resolved := Array.replicate 167 none
  statics := some 0 }

def pool7 : Array CpInfo := pool [(1, u "java/lang/Cloneable"), (0, .class_ 1), (0, u "java/lang/Object"), (0, .class_ 3)] 3

/-- java/lang/Cloneable -/
def k7 : Class := { plain "java/lang/Cloneable" (some 0) with
  accessFlags := 1537
  interfaces := #[]
  cf := some (fileOf pool7 2 #[] #[] 1537 4 #[] #[])
  fields := #[]
  methods := #[]
  instanceTypes := #[]
  staticTypes := #[]
  resolved := Array.replicate 8 none
  statics := none }

/-- the primitive byte -/
def k8 : Class := { plain "byte" none with kind := .primitive 'B', accessFlags := 0x411 }
/-- [B -/
def k9 : Class := { plain "[B" (some 0) with kind := .array 8 .byte, interfaces := #[7, 4], accessFlags := 1041 }

/-- the primitive int -/
def k10 : Class := { plain "int" none with kind := .primitive 'I', accessFlags := 0x411 }
/-- [I -/
def k11 : Class := { plain "[I" (some 0) with kind := .array 10 .int, interfaces := #[7, 4], accessFlags := 1041 }

def heap : Heap := #[{ cls := 6, slots := #[.ref 1, .ref 4, .ref 8, .ref 2, .ref 5, .ref 6, .ref 3, .ref 7, .int 0, .int 0, .int 0, .null, .null], vm := .statics 6 },
  { cls := 6, slots := #[.null, .int 0, .int 0, .int 0], vm := .none },
  { cls := 6, slots := #[.null, .int 0, .int 0, .int 3], vm := .none },
  { cls := 6, slots := #[.null, .int 0, .int 0, .int 6], vm := .none },
  { cls := 6, slots := #[.null, .int 0, .int 0, .int 1], vm := .none },
  { cls := 6, slots := #[.null, .int 0, .int 0, .int 4], vm := .none },
  { cls := 6, slots := #[.null, .int 0, .int 0, .int 5], vm := .none },
  { cls := 6, slots := #[.null, .int 0, .int 0, .int 7], vm := .none },
  { cls := 6, slots := #[.null, .int 0, .int 0, .int 2], vm := .none }]
def classes : Array Class := #[k0, k1, k2, k3, k4, k5, k6, k7, k8, k9, k10, k11]
def interned : List (Array UInt16 × Addr) := []
def slotsUsed : Nat := 45
def theMethod : MethodId := ⟨1, 1⟩
def args0 : Array Value := #[.int 5, .int 6]
def aboutOver (below : List Frame) : State where
  vm := { classes := classes, interned := interned.toArray }
  heap := heap
  slotsUsed := slotsUsed
  threads := #[{ frames := .invoking theMethod args0 :: below }]
def below0 : List Frame := [.native { method := ⟨0, 0⟩, args := #[] }]
def about1 : State := aboutOver below0
def p0 : Program := .bare "" "" ""
def e0 : Env := launch0.env 0 0 0
theorem w_frames : about1.frames = Frame.invoking theMethod args0 :: below0 := rfl
set_option maxRecDepth 65536 in
theorem w_args : argsFit about1.vm theMethod args0 = true := by decide +kernel
set_option maxRecDepth 65536 in
theorem w_heap : heapFits about1 = true := by decide +kernel
set_option maxRecDepth 65536 in
theorem w_runnable : about1.curStatus? = some .runnable := by decide +kernel
set_option maxRecDepth 65536 in
theorem w_alone : about1.alone = true := by decide +kernel
set_option maxRecDepth 65536 in
theorem w_named : about1.methodNamed? x = some theMethod := by decide +kernel
set_option maxRecDepth 65536 in
theorem w_hears : about1.hears theMethod below0 = true := by decide +kernel
set_option maxRecDepth 65536 in
theorem w_ripe : about1.ripe theMethod args0 below0 = true := by decide +kernel
theorem w_running : about1.status = .running := rfl
set_option maxRecDepth 65536 in
theorem w_room : about1.hasRoom e0.platform room_1 = true :=
  launch0.hasRoom_least _ room_1 (by decide +kernel) (by decide +kernel) (by decide +kernel) (by decide +kernel) (by decide +kernel) (by decide +kernel)
theorem allAtoms_all (ts : List Jvm.Cond) (a : Array Jvm.Value) (st : Jvm.State) : (allAtoms ts).before a st = ts.all (fun c => c.before a st) := by
  induction ts with
  | nil => rfl
  | cons c t ih =>
    show (Jvm.Cond.and c (allAtoms t)).before a st = _
    rw [Jvm.Cond.before_and, ih, List.all_cons]
def words1 : List Jvm.Cond := Jvm.Cond.code x code maxLocals ret :: tables_1
/-- a 'code' word, met by the world's own term for the bytes: nothing is compared byte by byte -/
theorem code_word {y : MethodName} {bytes : ByteArray} {mx : Nat} {rt : Option FieldType} {a : Array Value} {s : State} {m : MethodId} {meth : Method} {c : Code} (h1 : s.methodNamed? y = some m) (h2 : s.vm.method? m = some meth) (h3 : meth.code = some c) (h4 : c.code = bytes)
    (h5 : (c.maxLocals == mx && c.exceptionTable.isEmpty && decide (c.maxStack ≤ mostOperands) && decide (meth.sig.returnType = rt) && !meth.locks && decide (parseMethodDescriptor y.desc = some meth.sig)) = true) : (Jvm.Cond.code y bytes mx rt).before a s = true := by
  simp only [Bool.and_eq_true, beq_iff_eq, Bool.not_eq_true', decide_eq_true_eq] at h5
  obtain ⟨⟨⟨⟨⟨g1, g2⟩, g3⟩, g4⟩, g5⟩, g6⟩ := h5
  simp [Cond.before, Cond.holds, Cond.value, h1, h2, h3, h4, g1, g2, g3, g4, g5, g6]
def isCode : Jvm.Cond → Bool
  | .code _ _ _ _ => true
  | _ => false
theorem all_split {L : List Jvm.Cond} {P : Jvm.Cond → Bool} (h1 : L.all (fun c => isCode c || P c) = true) (h2 : ∀ c ∈ L.filter isCode, P c = true) : L.all P = true := by
  refine List.all_eq_true.mpr fun c hc => ?_
  have h := List.all_eq_true.mp h1 c hc
  rcases Bool.eq_false_or_eq_true (isCode c) with hi | hi
  · exact h2 c (List.mem_filter.mpr ⟨hc, hi⟩)
  · simpa [hi] using h
set_option maxRecDepth 65536 in
theorem w_c0 : (Jvm.Cond.code x code maxLocals ret).before args0 about1 = true := code_word (m := ⟨1, 1⟩) (meth := k1m1) (c := k1c1) (by decide +kernel) rfl rfl rfl (by decide +kernel)
set_option maxRecDepth 65536 in
theorem w_c1 : (Jvm.Cond.code ({ cls := "com/example/facl/facl/RightsIncludesPinLaw", name := "pick", desc := "(I)Lcom/example/facl/facl/Rights;" } : Jvm.MethodName) method_4_code (1 : Nat) (Option.some (Jvm.ClassFile.FieldType.object "com/example/facl/facl/Rights"))).before args0 about1 = true := code_word (m := ⟨1, 3⟩) (meth := k1m3) (c := k1c3) (by decide +kernel) rfl rfl rfl (by decide +kernel)
set_option maxRecDepth 65536 in
theorem w_c2 : (Jvm.Cond.code ({ cls := "com/example/facl/facl/RightsIncludesPinLaw", name := "covers", desc := "(III)Z" } : Jvm.MethodName) method_3_code (3 : Nat) (Option.some Jvm.ClassFile.FieldType.boolean)).before args0 about1 = true := code_word (m := ⟨1, 2⟩) (meth := k1m2) (c := k1c2) (by decide +kernel) rfl rfl rfl (by decide +kernel)
set_option maxRecDepth 65536 in
theorem w_c3 : (Jvm.Cond.code ({ cls := "com/example/facl/facl/Rights", name := "includes", desc := "(Lcom/example/facl/facl/Rights;)Z" } : Jvm.MethodName) prog_44_method_11_code (2 : Nat) (Option.some Jvm.ClassFile.FieldType.boolean)).before args0 about1 = true := code_word (m := ⟨6, 0⟩) (meth := k6m0) (c := k6c0) (by decide +kernel) rfl rfl rfl (by decide +kernel)
def codes1 : List Jvm.Cond := [Jvm.Cond.code x code maxLocals ret, Jvm.Cond.code ({ cls := "com/example/facl/facl/RightsIncludesPinLaw", name := "pick", desc := "(I)Lcom/example/facl/facl/Rights;" } : Jvm.MethodName) method_4_code (1 : Nat) (Option.some (Jvm.ClassFile.FieldType.object "com/example/facl/facl/Rights")), Jvm.Cond.code ({ cls := "com/example/facl/facl/RightsIncludesPinLaw", name := "covers", desc := "(III)Z" } : Jvm.MethodName) method_3_code (3 : Nat) (Option.some Jvm.ClassFile.FieldType.boolean), Jvm.Cond.code ({ cls := "com/example/facl/facl/Rights", name := "includes", desc := "(Lcom/example/facl/facl/Rights;)Z" } : Jvm.MethodName) prog_44_method_11_code (2 : Nat) (Option.some Jvm.ClassFile.FieldType.boolean)]
set_option maxRecDepth 65536 in
theorem codes_eq : words1.filter isCode = codes1 := rfl
theorem w_codes : ∀ c ∈ words1.filter isCode, c.before args0 about1 = true := by
  rw [codes_eq]
  intro c hc
  simp only [codes1, List.mem_cons, List.not_mem_nil, or_false] at hc
  rcases hc with rfl | rfl | rfl | rfl
  · exact w_c0
  · exact w_c1
  · exact w_c2
  · exact w_c3
set_option maxRecDepth 65536 in
theorem w_t1 : (words1.take 24).all (fun c => isCode c || c.before args0 about1) = true := by decide +kernel
set_option maxRecDepth 65536 in
theorem w_t2 : (words1.drop 24).all (fun c => isCode c || c.before args0 about1) = true := by decide +kernel
theorem w_tables : (allAtoms (Jvm.Cond.code x code maxLocals ret :: tables_1)).before args0 about1 = true := by
  rw [allAtoms_all]
  show words1.all (fun c => c.before args0 about1) = true
  refine all_split ?_ w_codes
  rw [← List.take_append_drop 24 words1, List.all_append, w_t1, w_t2]
  rfl
set_option maxRecDepth 65536 in
theorem w_case : (Jvm.Cond.and given_1 narrow_1).before args0 about1 = true := by decide +kernel
theorem w_applies : (headSpec (Jvm.Cond.code x code maxLocals ret :: tables_1) room_1).applies x e0.platform about1 = true :=
  (Spec.applies_iff w_frames).mpr ⟨w_running, w_runnable, w_alone, w_named, w_hears, w_ripe, w_room, w_tables⟩
theorem atStart : AtStart classFile x code maxLocals ret World_1 tables_1 room_1 Calls_1 rest_1 Pre_1 launch0 p0 e0 about1 theMethod args0 below0 :=
  ⟨lists_1, trivial, launch0.admits_env _ _ _, launch0.least_env, fairChoices_fair.cas, fairChoices_fair.clock, w_frames, w_args, w_heap, w_applies, trivial, trivial, w_case⟩
end start1
theorem witness_1 : WitnessClaimed_1 := ⟨start1.p0, start1.e0, start1.about1, start1.theMethod, start1.args0, start1.below0, start1.atStart⟩
end Jvm.Pilot.@@N@@
