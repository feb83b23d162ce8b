import JvmDerived
import JvmDerived.Pilot.@@N@@Statement
import JvmDerived.Pilot.@@N@@Code
set_option linter.unusedVariables false
set_option linter.unusedSimpArgs false
namespace Jvm.Pilot.@@N@@
open Jvm Jvm.ClassFile Sem Op Lib Jvm.Free Jvm.Stand Jvm.LawKit Jvm.RoadKit Bundle Jvm.Pilot.@@N@@.Jvm.D
section Own
variable {p : Program} {l : Launch} {e : Env} {R : Room} {s : State} {m : MethodId} {args : Array Value} {below : List Frame} {meth : Method} {c : Code} {T : State} {locs : List Loc} {cells slots : Nat} {P : Option Value → Heap → List Loc → Prop} {kk nn : Nat}
/-- from U a run comes to an end at which P holds, within kk cells and nn slots -/
def Go (p : Program) (e : Env) (below : List Frame) (s : State) (P : Option Value → Heap → List Loc → Prop) (kk nn : Nat) (U : State) : Prop :=
  ∃ s₂ o, Steps p.tables e below U s₂ ∧ s₂.status = .running ∧ Ended s₂ below o ∧ ∃ v L, o = .returned v ∧ P v s₂.heap L ∧ FrameEnd s o s₂ L kk nn
theorem Go.pull {U V : State} (h : ∀ t, Steps p.tables e below V t → Steps p.tables e below U t) (g : Go p e below s P kk nn V) : Go p e below s P kk nn U := by
  obtain ⟨s2, o, h1, h2⟩ := g
  exact ⟨s2, o, h _ h1, h2⟩
theorem Go.fin (X : Stand p l e R s m args below meth c T locs cells slots) {f : JFrame} {v : Option Value} (hlk : meth.locks = false) (hv : meth.sig.returnType = none → v = none)
    (hs : ∀ fs, (∀ (f : JFrame) (acts : List Action), f.method = m → f.locked = none → f.entered = [] → (doReturn e (T.setTop f) acts v).1 = T.setFrames fs) → Steps p.tables e below (T.setTop f) (T.setFrames fs))
    (hP : P v T.heap locs) (hk : cells ≤ kk) (hn : slots ≤ nn) : Go p e below s P kk nn (T.setTop f) := by
  obtain ⟨fs, hr, hrun, hended, hW, hsame⟩ := X.leave (v := v) hv hlk
  exact ⟨_, _, hs fs hr, hrun, hended, _, _, rfl, hP, ⟨_, rfl⟩, hW, hsame.mono hk hn⟩
theorem Go.retN (X : Stand p l e R s m args below meth c T locs cells slots) (hx : p.tables.exec = Jvm.exec) (hlk : meth.locks = false) {pc : Nat} {Ls : Array Slot} {z : Int32} {t : FieldType} {rest : List Value} (hret : meth.sig.returnType = some t) (ht : t = .boolean ∨ t = .byte ∨ t = .char ∨ t = .short)
    (hd : decode c.code pc = .ok (.ireturn, 1)) (hP : P (some (.int (nar t z))) T.heap locs) (hk : cells ≤ kk) (hn : slots ≤ nn) : Go p e below s P kk nn (T.setTop (mkF m pc Ls (.int z :: rest))) :=
  Go.fin X hlk (fun h => by rw [hret] at h; cases h) (fun fs hr => RoadKit.retN X hx hret ht hd hr) hP hk hn
theorem Go.retI (X : Stand p l e R s m args below meth c T locs cells slots) (hx : p.tables.exec = Jvm.exec) (hlk : meth.locks = false) {pc : Nat} {Ls : Array Slot} {z : Int32} {rest : List Value} (hret : meth.sig.returnType = some .int)
    (hd : decode c.code pc = .ok (.ireturn, 1)) (hP : P (some (.int z)) T.heap locs) (hk : cells ≤ kk) (hn : slots ≤ nn) : Go p e below s P kk nn (T.setTop (mkF m pc Ls (.int z :: rest))) :=
  Go.fin X hlk (fun h => by rw [hret] at h; cases h) (fun fs hr => retOut X hx hret rfl (Or.inl ⟨rfl, Or.inl rfl, z, rfl⟩) hd hr) hP hk hn
theorem Go.retJ (X : Stand p l e R s m args below meth c T locs cells slots) (hx : p.tables.exec = Jvm.exec) (hlk : meth.locks = false) {pc : Nat} {Ls : Array Slot} {z : Int64} {rest : List Value} (hret : meth.sig.returnType = some .long)
    (hd : decode c.code pc = .ok (.lreturn, 1)) (hP : P (some (.long z)) T.heap locs) (hk : cells ≤ kk) (hn : slots ≤ nn) : Go p e below s P kk nn (T.setTop (mkF m pc Ls (.long z :: rest))) :=
  Go.fin X hlk (fun h => by rw [hret] at h; cases h) (fun fs hr => retOut X hx hret rfl (Or.inr (Or.inl ⟨rfl, rfl, z, rfl⟩)) hd hr) hP hk hn
theorem Go.retR (X : Stand p l e R s m args below meth c T locs cells slots) (hx : p.tables.exec = Jvm.exec) (hlk : meth.locks = false) {pc : Nat} {Ls : Array Slot} {w : Value} {t : FieldType} {rest : List Value} (hret : meth.sig.returnType = some t) (hna : narrow t w = w) (ht : t.isReference = true) (hw : w.isRef = true)
    (hd : decode c.code pc = .ok (.areturn, 1)) (hP : P (some w) T.heap locs) (hk : cells ≤ kk) (hn : slots ≤ nn) : Go p e below s P kk nn (T.setTop (mkF m pc Ls (w :: rest))) :=
  Go.fin X hlk (fun h => by rw [hret] at h; cases h) (fun fs hr => retOut X hx hret hna (Or.inr (Or.inr (Or.inr (Or.inr ⟨rfl, ht, hw⟩)))) hd hr) hP hk hn
theorem Go.ret0 (X : Stand p l e R s m args below meth c T locs cells slots) (hx : p.tables.exec = Jvm.exec) (hlk : meth.locks = false) {pc : Nat} {Ls : Array Slot} (hret : meth.sig.returnType = none)
    (hd : decode c.code pc = .ok (.return_, 1)) (hP : P none T.heap locs) (hk : cells ≤ kk) (hn : slots ≤ nn) : Go p e below s P kk nn (T.setTop (mkF m pc Ls [])) :=
  Go.fin X hlk (fun _ => rfl) (fun fs hr => X.returnOut hx hret hd hr) hP hk hn
theorem own_lsw {tb : Tables} [Ours tb] {e : Env} {below : List Frame} {T target : State} {m : MethodId} {c : Code} {g : JFrame} (h : At T m c below) (hx : tb.exec = Jvm.exec) (hg : g.method = m) {dflt : Int} {prs : Array (Int × Int)} {len : Nat} {o : Int} {pc0 pc' : Nat} (hpc : g.pc = pc0)
    (hd : decode c.code g.pc = .ok (.lookupswitch dflt prs, len)) {i : Int32} {rest : List Value} (hs : g.stack = .int i :: rest) (hord : (prs.toList.zip (prs.toList.drop 1)).all (fun (a, next) => a.1 < next.1) = true) (hoff : lookupswitch.offset prs.toList dflt i.toInt = o)
    (ho : 0 ≤ (pc0 : Int) + o) (hp : ((pc0 : Int) + o).toNat = pc') (hr : Steps tb e below (T.setTop { g with pc := pc', stack := rest }) target) : Steps tb e below (T.setTop g) target := by
  subst hg hpc hp hoff
  jvm_step h [h.top, hx, hd, hs, ho, lookupswitch.wp_chain]
  exact ⟨by simpa using hord, hr⟩
theorem own_eq_i {t : Term} {n : Int32} {first : State} {o : Option Outcome} {idx : List Nat} (h : (Cond.eq t (.int n)).value args first o s idx = some true) : t.eval args first o idx s = some (.int n) := by
  obtain ⟨x, y, e1, e2, k1, k2⟩ := cmp_v (Or.inl h)
  cases (Term.int_eval n).symm.trans e2
  obtain ⟨z, rfl⟩ : ∃ z, x = .int z := k2
  rw [e1, gotT (Cond.eq_ints e1 e2) h]
theorem own_eq_l {t : Term} {n : Int64} {first : State} {o : Option Outcome} {idx : List Nat} (h : (Cond.eq t (.long n)).value args first o s idx = some true) : t.eval args first o idx s = some (.long n) := by
  obtain ⟨x, y, e1, e2, k1, k2⟩ := cmp_v (Or.inl h)
  have e3 : (Term.long n).eval args first o idx s = some (.long n) := rfl
  cases e3.symm.trans e2
  obtain ⟨z, rfl⟩ : ∃ z, x = .long z := k2
  rw [e1, gotT (eq_L e1 e2) h]
theorem own_eq_r {t u : Term} {a : Addr} {first : State} {o : Option Outcome} {idx : List Nat} (hu : u.eval args first o idx s = some (.ref a)) (h : (Cond.eq t u).value args first o s idx = some true) : t.eval args first o idx s = some (.ref a) := by
  obtain ⟨x, y, e1, e2, k1, k2⟩ := cmp_v (Or.inl h)
  cases hu.symm.trans e2
  have k3 : (Value.ref a).isRef = true ∧ x.isRef = true := k2
  rw [e1, gotT (eq_R e1 e2 k3.2 rfl) h]
theorem own_sta_keep {Z : State} {h h' : Heap} {C n d : String} {w : Value} {ws : List Addr} (F : Sta Z h C n d w) (K : Keep h h' ws) (q : ∀ x ∈ ws, ∃ c : Cell, h[x]? = some c ∧ ∀ q, c.vm ≠ .statics q) : Sta Z h' C n d w := by
  obtain ⟨cf, i, k, f, st, cell, h1, h2, h3, h4, h5, h6, h7⟩ := F
  refine ⟨cf, i, k, f, st, cell, h1, h2, h3, h4, K.2.1 st cell h5 (fun hm => ?_), h6, h7⟩
  obtain ⟨c, hc, hq⟩ := q st hm
  cases h5.symm.trans hc
  cases hv : cell.vm with
  | statics r => exact hq r hv
  | _ => rw [hv] at h6; cases h6
end Own
theorem pd_0 : parseMethodDescriptor "(J)J" = some ⟨[.long], some .long⟩ := by decide +kernel
def own_tov (pz : Int32) (pm pv : Int64) : Int64 := (if pz = 0 then pv else ((pv <<< ((1 : Int32) &&& 0x3f).toInt64) ^^^ (pv >>> ((63 : Int32) &&& 0x3f).toInt64))) &&& pm
theorem own_zz_p {v : Int64} (h : ¬ v < 0) : ((v <<< ((1 : Int32) &&& 0x3f).toInt64) ^^^ (v >>> ((63 : Int32) &&& 0x3f).toInt64)) = (2 : Int64) * v := by
  have hn : 0 ≤ v.toInt := by have h' := h; rw [Int64.lt_iff_toInt_lt] at h'; have h0 : (0 : Int64).toInt = 0 := rfl; omega
  have h1 : (v >>> ((63 : Int32) &&& 0x3f).toInt64) = 0 := Int64.toInt_inj.mp (by
    rw [c_lshr v 63 63 (by decide)]; have := rng64 v; have h0 : (0 : Int64).toInt = 0 := rfl; omega)
  rw [h1, Int64.xor_zero]
  have e1 := c_lshl v 1 1 (by decide); have e2 := c_lmul 2 v; have r1 := rng64 (v <<< ((1 : Int32) &&& 0x3f).toInt64); have r2 := rng64 (2 * v); have e3 : (2 : Int64).toInt = 2 := rfl
  rw [e3] at e2
  exact Int64.toInt_inj.mp (by omega)
theorem own_zz_n {v : Int64} (h : v < 0) : ((v <<< ((1 : Int32) &&& 0x3f).toInt64) ^^^ (v >>> ((63 : Int32) &&& 0x3f).toInt64)) = (-2 : Int64) * v - 1 := by
  have hn : v.toInt < 0 := Int64.lt_iff_toInt_lt.mp h
  have h1 : (v >>> ((63 : Int32) &&& 0x3f).toInt64) = -1 := Int64.toInt_inj.mp (by
    rw [c_lshr v 63 63 (by decide)]; have := rng64 v; have h0 : (-1 : Int64).toInt = -1 := rfl; omega)
  rw [h1, Int64.xor_neg_one, Int64.not_eq_neg_add]
  have e1 := c_lshl v 1 1 (by decide); have e2 := c_lmul (-2) v; have r1 := rng64 (v <<< ((1 : Int32) &&& 0x3f).toInt64); have e3 : (-2 : Int64).toInt = -2 := rfl
  have e4 := c_lneg (v <<< ((1 : Int32) &&& 0x3f).toInt64); have e5 := c_lsub (-(v <<< ((1 : Int32) &&& 0x3f).toInt64)) 1; have e6 := c_lsub (-2 * v) 1; have e7 : (1 : Int64).toInt = 1 := rfl
  have r2 := rng64 (-(v <<< ((1 : Int32) &&& 0x3f).toInt64) - 1); have r3 := rng64 (-2 * v - 1); have r4 := rng64 (-(v <<< ((1 : Int32) &&& 0x3f).toInt64)); have r5 := rng64 (-2 * v)
  rw [e3] at e2; rw [e7] at e5 e6
  exact Int64.toInt_inj.mp (by omega)
theorem own_m32 (z : Int64) : (z &&& 4294967295).toInt = z.toInt % 4294967296 := c_maskL z 4294967295 32 (by decide) (by decide)
theorem own_t0 (v : Int64) : own_tov 0 (-1) v = v := by rw [own_tov, if_pos rfl, Int64.and_neg_one]
theorem own_t3p {n : Int32} (h : ¬ n < 0) : own_tov 0 4294967295 n.toInt64 = n.toInt64 := by
  rw [own_tov, if_pos rfl]
  have hn : 0 ≤ n.toInt := by have h' := h; rw [Int32.lt_iff_toInt_lt] at h'; have h0 : (0 : Int32).toInt = 0 := rfl; omega
  have r := rng32 n
  exact Int64.toInt_inj.mp (by rw [own_m32, c_i2l]; omega)
theorem own_t3n {n : Int32} (h : n < 0) : own_tov 0 4294967295 n.toInt64 = n.toInt64 + 4294967296 := by
  rw [own_tov, if_pos rfl]
  have hn : n.toInt < 0 := Int32.lt_iff_toInt_lt.mp h
  have r := rng32 n; have e1 := c_ladd n.toInt64 4294967296; have e2 : (4294967296 : Int64).toInt = 4294967296 := rfl; have r2 := rng64 (n.toInt64 + 4294967296)
  rw [e2, c_i2l] at e1
  exact Int64.toInt_inj.mp (by rw [own_m32, c_i2l]; omega)
theorem own_t4p {n : Int32} (h : ¬ n < 0) : own_tov 1 4294967295 n.toInt64 = (2 : Int64) * n.toInt64 := by
  have hn : 0 ≤ n.toInt := by have h' := h; rw [Int32.lt_iff_toInt_lt] at h'; have h0 : (0 : Int32).toInt = 0 := rfl; omega
  have h2 : ¬ n.toInt64 < 0 := by rw [Int64.lt_iff_toInt_lt, c_i2l]; have h0 : (0 : Int64).toInt = 0 := rfl; omega
  rw [own_tov, if_neg (by decide), own_zz_p h2]
  have r := rng32 n; have e2 := c_lmul 2 n.toInt64; have e3 : (2 : Int64).toInt = 2 := rfl; have r2 := rng64 (2 * n.toInt64)
  rw [e3, c_i2l] at e2
  exact Int64.toInt_inj.mp (by rw [own_m32]; omega)
theorem own_t4n {n : Int32} (h : n < 0) : own_tov 1 4294967295 n.toInt64 = (-2 : Int64) * n.toInt64 - 1 := by
  have hn : n.toInt < 0 := Int32.lt_iff_toInt_lt.mp h
  have h2 : n.toInt64 < 0 := by rw [Int64.lt_iff_toInt_lt, c_i2l]; have h0 : (0 : Int64).toInt = 0 := rfl; omega
  rw [own_tov, if_neg (by decide), own_zz_n h2]
  have r := rng32 n; have e2 := c_lmul (-2) n.toInt64; have e3 : (-2 : Int64).toInt = -2 := rfl; have r2 := rng64 (-2 * n.toInt64); have e6 := c_lsub (-2 * n.toInt64) 1; have e7 : (1 : Int64).toInt = 1 := rfl; have r3 := rng64 (-2 * n.toInt64 - 1)
  rw [e3, c_i2l] at e2; rw [e7] at e6
  exact Int64.toInt_inj.mp (by rw [own_m32]; omega)
theorem own_t5p {v : Int64} (h : ¬ v < 0) : own_tov 1 (-1) v = (2 : Int64) * v := by rw [own_tov, if_neg (by decide), Int64.and_neg_one, own_zz_p h]
theorem own_t5n {v : Int64} (h : v < 0) : own_tov 1 (-1) v = (-2 : Int64) * v - 1 := by rw [own_tov, if_neg (by decide), Int64.and_neg_one, own_zz_n h]
theorem own_rem7 (x : Int32) {v : Int32} (h : ((x &&& (2147483647 : Int32)) % (7 : Int32)) = v) : v = 0 ∨ v = 1 ∨ v = 2 ∨ v = 3 ∨ v = 4 ∨ v = 5 ∨ v = 6 := by
  subst h
  have h0 : (x &&& (2147483647 : Int32)).toInt = x.toInt % (2 ^ 31 : Nat) := c_mask x 2147483647 31 (by decide) (by decide)
  have h1 : ((x &&& (2147483647 : Int32)) % (7 : Int32)).toInt = (x.toInt % (2 ^ 31 : Nat)) % 7 := by
    rw [← h0]; exact (c_irem _ _ 7 (by decide)).1 (by rw [h0]; omega)
  have h2 : (x.toInt % (2 ^ 31 : Nat)) % 7 = 0 ∨ (x.toInt % (2 ^ 31 : Nat)) % 7 = 1 ∨ (x.toInt % (2 ^ 31 : Nat)) % 7 = 2 ∨ (x.toInt % (2 ^ 31 : Nat)) % 7 = 3 ∨ (x.toInt % (2 ^ 31 : Nat)) % 7 = 4 ∨ (x.toInt % (2 ^ 31 : Nat)) % 7 = 5 ∨ (x.toInt % (2 ^ 31 : Nat)) % 7 = 6 := by omega
  rcases h2 with h2 | h2 | h2 | h2 | h2 | h2 | h2
  · exact (Or.inl (Int32.toInt_inj.mp (by rw [h1, h2] <;> rfl)))
  · exact (Or.inr (Or.inl (Int32.toInt_inj.mp (by rw [h1, h2] <;> rfl))))
  · exact (Or.inr (Or.inr (Or.inl (Int32.toInt_inj.mp (by rw [h1, h2] <;> rfl)))))
  · exact (Or.inr (Or.inr (Or.inr (Or.inl (Int32.toInt_inj.mp (by rw [h1, h2] <;> rfl))))))
  · exact (Or.inr (Or.inr (Or.inr (Or.inr (Or.inl (Int32.toInt_inj.mp (by rw [h1, h2] <;> rfl)))))))
  · exact (Or.inr (Or.inr (Or.inr (Or.inr (Or.inr (Or.inl (Int32.toInt_inj.mp (by rw [h1, h2] <;> rfl))))))))
  · exact (Or.inr (Or.inr (Or.inr (Or.inr (Or.inr (Or.inr (Int32.toInt_inj.mp (by rw [h1, h2] <;> rfl))))))))
theorem dA_0 : decode prog_30_method_19_code 0 = .ok (.lload_n 1, 1) := by decide +kernel
theorem dA_1 : decode prog_30_method_19_code 1 = .ok (.iconst 1, 1) := by decide +kernel
theorem dA_2 : decode prog_30_method_19_code 2 = .ok (.lshl, 1) := by decide +kernel
theorem dA_3 : decode prog_30_method_19_code 3 = .ok (.lload_n 1, 1) := by decide +kernel
theorem dA_4 : decode prog_30_method_19_code 4 = .ok (.bipush 63, 2) := by decide +kernel
theorem dA_6 : decode prog_30_method_19_code 6 = .ok (.lshr, 1) := by decide +kernel
theorem dA_7 : decode prog_30_method_19_code 7 = .ok (.lxor, 1) := by decide +kernel
theorem dA_8 : decode prog_30_method_19_code 8 = .ok (.lstore_n 3, 1) := by decide +kernel
theorem dA_9 : decode prog_30_method_19_code 9 = .ok (.aload_n 0, 1) := by decide +kernel
theorem dA_10 : decode prog_30_method_19_code 10 = .ok (.getfield 88, 3) := by decide +kernel
theorem dA_13 : decode prog_30_method_19_code 13 = .ok (.ifCond .eq 7, 3) := by decide +kernel
theorem dA_16 : decode prog_30_method_19_code 16 = .ok (.lload_n 3, 1) := by decide +kernel
theorem dA_17 : decode prog_30_method_19_code 17 = .ok (.goto 4, 3) := by decide +kernel
theorem dA_20 : decode prog_30_method_19_code 20 = .ok (.lload_n 1, 1) := by decide +kernel
theorem dA_21 : decode prog_30_method_19_code 21 = .ok (.aload_n 0, 1) := by decide +kernel
theorem dA_22 : decode prog_30_method_19_code 22 = .ok (.getfield 95, 3) := by decide +kernel
theorem dA_25 : decode prog_30_method_19_code 25 = .ok (.land, 1) := by decide +kernel
theorem dA_26 : decode prog_30_method_19_code 26 = .ok (.lreturn, 1) := by decide +kernel
theorem efA (m : MethodId) (x0 : Addr) (x1 : Int64) : entryFrame m #[(.ref x0), (.long x1)] 5 = mkF m 0 #[rv x0, .val (.long x1), .second, .unset, .unset] [] := by first | (simp [entryFrame, mkF, argsToLocals, Value.category]; done) | rfl
theorem pn_com_example_tagwire_tagwire_ScalarType : plainName "com/example/tagwire/tagwire/ScalarType" = true := by first | (simp [plainName, overriddenIn]; done) | decide +kernel
def QA (Z : State) (a : Addr) (pv : Int64) (pz : Int32) (pm : Int64) (h0 : Heap) (n0 : Nat) (v : Option Value) (h : Heap) (L : List Loc) : Prop := v = some (.long (own_tov pz pm pv)) ∧ Fr n0 L ∧ h = h0
set_option maxRecDepth 65536 in
set_option maxHeartbeats 40000000 in
theorem rmA (l : Launch) (Z : State) (a0 : Array Value) (hw : ∀ d ∈ tables_1, d.before a0 Z = true) (ws : List Jvm.Cond) (a : Addr) (pv : Int64) (pz : Int32) (pm : Int64) (h0 : Heap) (n0 : Nat) (Fz : Fld Z h0 a "com/example/tagwire/tagwire/ScalarType" "zigzag" "Z" (.int pz)) (Fm : Fld Z h0 a "com/example/tagwire/tagwire/ScalarType" "varintMask" "J" (.long pm)) :
    MetFree l (⟨"com/example/tagwire/tagwire/ScalarType", "toVarint", "(J)J"⟩ : MethodName) (head1 (Jvm.Cond.code (⟨"com/example/tagwire/tagwire/ScalarType", "toVarint", "(J)J"⟩ : MethodName) prog_30_method_19_code 5 (some .long) :: ws) ({ frames := 0, cells := 0, slots := 0, locals := 0 } : Room)) (fun as' U => as' = #[(.ref a), (.long pv)] ∧ Z.Warmed39 U.vm ∧ U.heap = h0) (fun _ _ _ _ _ => True) (fun _ U o U' => ∃ v L, o = .returned v ∧ QA Z a pv pz pm h0 n0 v U'.heap L ∧ FrameEnd U o U' L ({ frames := 0, cells := 0, slots := 0, locals := 0 } : Room).cells ({ frames := 0, cells := 0, slots := 0, locals := 0 } : Room).slots) := by
  refine MetFree.of_bodySF (plainFor_of_name pn_com_example_tagwire_tagwire_ScalarType) hisR ?_
  intro p e s m args below meth c s₁ Bd hml0 hP hK
  obtain ⟨rfl, hZ, hh⟩ := hP
  have hx := Bd.exec
  have hby := Bd.bytes
  have hml : c.maxLocals = 5 := hml0
  have hown : s.vm.findClass "com/example/tagwire/tagwire/ScalarType" = some m.cls := findClass_of_methodNamed Bd.named
  have hnm := (name_of_methodNamed Bd.named Bd.method).1
  have X0 : Stand p l e ({ frames := 0, cells := 0, slots := 0, locals := 0 } : Room) s m #[(.ref a), (.long pv)] below meth c s₁ [] 0 0 := Stand.of_body Bd
  have e0 : s₁.heap = h0 := by rw [← hh, Bd.state]; rfl
  have N0 := Fr.nil n0
  show Go p e below s (fun v h L => QA Z a pv pz pm h0 n0 v h L) 0 0 _
  refine Go.pull (V := s₁.setTop (mkF m 0 #[rv a, .val (.long pv), .second, .unset, .unset] [])) (fun t k => castTop (efA m a pv) k) ?_
  refine Go.pull (V := s₁.setTop (mkF m 1 #[rv a, .val (.long pv), .second, .unset, .unset] [(.long pv)])) (fun t k => XS.lloadN X0.here hx rfl (hb hby dA_0) rfl  k) ?_
  refine Go.pull (V := s₁.setTop (mkF m 2 #[rv a, .val (.long pv), .second, .unset, .unset] [(.int 1), (.long pv)])) (fun t k => XS.iconst X0.here hx rfl (hb hby dA_1) k) ?_
  refine Go.pull (V := s₁.setTop (mkF m 3 #[rv a, .val (.long pv), .second, .unset, .unset] [(.long (pv <<< ((1 : Int32) &&& 0x3f).toInt64))])) (fun t k => XS.lshl X0.here hx rfl (hb hby dA_2) rfl k) ?_
  refine Go.pull (V := s₁.setTop (mkF m 4 #[rv a, .val (.long pv), .second, .unset, .unset] [(.long pv), (.long (pv <<< ((1 : Int32) &&& 0x3f).toInt64))])) (fun t k => XS.lloadN X0.here hx rfl (hb hby dA_3) rfl  k) ?_
  refine Go.pull (V := s₁.setTop (mkF m 6 #[rv a, .val (.long pv), .second, .unset, .unset] [(.int 63), (.long pv), (.long (pv <<< ((1 : Int32) &&& 0x3f).toInt64))])) (fun t k => XS.bipush X0.here hx rfl (hb hby dA_4) k) ?_
  refine Go.pull (V := s₁.setTop (mkF m 7 #[rv a, .val (.long pv), .second, .unset, .unset] [(.long (pv >>> ((63 : Int32) &&& 0x3f).toInt64)), (.long (pv <<< ((1 : Int32) &&& 0x3f).toInt64))])) (fun t k => XS.lshr X0.here hx rfl (hb hby dA_6) rfl k) ?_
  refine Go.pull (V := s₁.setTop (mkF m 8 #[rv a, .val (.long pv), .second, .unset, .unset] [(.long ((pv <<< ((1 : Int32) &&& 0x3f).toInt64) ^^^ (pv >>> ((63 : Int32) &&& 0x3f).toInt64)))])) (fun t k => XS.lxor X0.here hx rfl (hb hby dA_7) rfl k) ?_
  refine Go.pull (V := s₁.setTop (mkF m 9 #[rv a, .val (.long pv), .second, .val (.long ((pv <<< ((1 : Int32) &&& 0x3f).toInt64) ^^^ (pv >>> ((63 : Int32) &&& 0x3f).toInt64))), .second] [])) (fun t k => XS.lstoreN X0.here hx rfl (hb hby dA_8) rfl (l' := #[rv a, .val (.long pv), .second, .val (.long ((pv <<< ((1 : Int32) &&& 0x3f).toInt64) ^^^ (pv >>> ((63 : Int32) &&& 0x3f).toInt64))), .second]) rfl k) ?_
  refine Go.pull (V := s₁.setTop (mkF m 10 #[rv a, .val (.long pv), .second, .val (.long ((pv <<< ((1 : Int32) &&& 0x3f).toInt64) ^^^ (pv >>> ((63 : Int32) &&& 0x3f).toInt64))), .second] [(.ref a)])) (fun t k => XS.aloadN X0.here hx rfl (hb hby dA_9) rfl rfl k) ?_
  obtain ⟨T1, X1, e1, st1⟩ := getF X0 hx hZ hown (host := "") (Or.inl (hw _ (List.mem_of_getElem? (i := 9) rfl))) Via.refl e0 Fz (g := (mkF m 10 #[rv a, .val (.long pv), .second, .val (.long ((pv <<< ((1 : Int32) &&& 0x3f).toInt64) ^^^ (pv >>> ((63 : Int32) &&& 0x3f).toInt64))), .second] [(.ref a)])) rfl rfl (hb hby dA_10)
  refine Go.pull (V := T1.setTop (mkF m 13 #[rv a, .val (.long pv), .second, .val (.long ((pv <<< ((1 : Int32) &&& 0x3f).toInt64) ^^^ (pv >>> ((63 : Int32) &&& 0x3f).toInt64))), .second] [(.int pz)])) st1 ?_
  by_cases hc13_2 : pz = 0
  · skip
    refine Go.pull (V := T1.setTop (mkF m 20 #[rv a, .val (.long pv), .second, .val (.long ((pv <<< ((1 : Int32) &&& 0x3f).toInt64) ^^^ (pv >>> ((63 : Int32) &&& 0x3f).toInt64))), .second] [])) (fun t k => XS.ifYes X1.here hx rfl (pc0 := 13) (pc' := 20) rfl (hb hby dA_13) rfl (XT.i0_eq_t hc13_2) (by decide) (by decide) k) ?_
    refine Go.pull (V := T1.setTop (mkF m 21 #[rv a, .val (.long pv), .second, .val (.long ((pv <<< ((1 : Int32) &&& 0x3f).toInt64) ^^^ (pv >>> ((63 : Int32) &&& 0x3f).toInt64))), .second] [(.long pv)])) (fun t k => XS.lloadN X1.here hx rfl (hb hby dA_20) rfl  k) ?_
    refine Go.pull (V := T1.setTop (mkF m 22 #[rv a, .val (.long pv), .second, .val (.long ((pv <<< ((1 : Int32) &&& 0x3f).toInt64) ^^^ (pv >>> ((63 : Int32) &&& 0x3f).toInt64))), .second] [(.ref a), (.long pv)])) (fun t k => XS.aloadN X1.here hx rfl (hb hby dA_21) rfl rfl k) ?_
    obtain ⟨T3, X3, e3, st3⟩ := getF X1 hx hZ hown (host := "") (Or.inl (hw _ (List.mem_of_getElem? (i := 11) rfl))) Via.refl e1 Fm (g := (mkF m 22 #[rv a, .val (.long pv), .second, .val (.long ((pv <<< ((1 : Int32) &&& 0x3f).toInt64) ^^^ (pv >>> ((63 : Int32) &&& 0x3f).toInt64))), .second] [(.ref a), (.long pv)])) rfl rfl (hb hby dA_22)
    refine Go.pull (V := T3.setTop (mkF m 25 #[rv a, .val (.long pv), .second, .val (.long ((pv <<< ((1 : Int32) &&& 0x3f).toInt64) ^^^ (pv >>> ((63 : Int32) &&& 0x3f).toInt64))), .second] [(.long pm), (.long pv)])) st3 ?_
    refine Go.pull (V := T3.setTop (mkF m 26 #[rv a, .val (.long pv), .second, .val (.long ((pv <<< ((1 : Int32) &&& 0x3f).toInt64) ^^^ (pv >>> ((63 : Int32) &&& 0x3f).toInt64))), .second] [(.long (pv &&& pm))])) (fun t k => XS.land X3.here hx rfl (hb hby dA_25) rfl k) ?_
    exact Go.retJ X3 hx Bd.notSynchronized Bd.returns (hb hby dA_26) ⟨(by rw [own_tov, if_pos hc13_2] <;> rfl), N0, e3⟩ (by decide) (by decide)
  · skip
    refine Go.pull (V := T1.setTop (mkF m 16 #[rv a, .val (.long pv), .second, .val (.long ((pv <<< ((1 : Int32) &&& 0x3f).toInt64) ^^^ (pv >>> ((63 : Int32) &&& 0x3f).toInt64))), .second] [])) (fun t k => XS.ifNo X1.here hx rfl (hb hby dA_13) rfl (XT.i0_eq_f hc13_2) k) ?_
    refine Go.pull (V := T1.setTop (mkF m 17 #[rv a, .val (.long pv), .second, .val (.long ((pv <<< ((1 : Int32) &&& 0x3f).toInt64) ^^^ (pv >>> ((63 : Int32) &&& 0x3f).toInt64))), .second] [(.long ((pv <<< ((1 : Int32) &&& 0x3f).toInt64) ^^^ (pv >>> ((63 : Int32) &&& 0x3f).toInt64)))])) (fun t k => XS.lloadN X1.here hx rfl (hb hby dA_16) rfl  k) ?_
    refine Go.pull (V := T1.setTop (mkF m 21 #[rv a, .val (.long pv), .second, .val (.long ((pv <<< ((1 : Int32) &&& 0x3f).toInt64) ^^^ (pv >>> ((63 : Int32) &&& 0x3f).toInt64))), .second] [(.long ((pv <<< ((1 : Int32) &&& 0x3f).toInt64) ^^^ (pv >>> ((63 : Int32) &&& 0x3f).toInt64)))])) (fun t k => XS.goto X1.here hx rfl (pc0 := 17) (pc' := 21) rfl (hb hby dA_17) (by decide) (by decide) k) ?_
    refine Go.pull (V := T1.setTop (mkF m 22 #[rv a, .val (.long pv), .second, .val (.long ((pv <<< ((1 : Int32) &&& 0x3f).toInt64) ^^^ (pv >>> ((63 : Int32) &&& 0x3f).toInt64))), .second] [(.ref a), (.long ((pv <<< ((1 : Int32) &&& 0x3f).toInt64) ^^^ (pv >>> ((63 : Int32) &&& 0x3f).toInt64)))])) (fun t k => XS.aloadN X1.here hx rfl (hb hby dA_21) rfl rfl k) ?_
    obtain ⟨T4, X4, e4, st4⟩ := getF X1 hx hZ hown (host := "") (Or.inl (hw _ (List.mem_of_getElem? (i := 11) rfl))) Via.refl e1 Fm (g := (mkF m 22 #[rv a, .val (.long pv), .second, .val (.long ((pv <<< ((1 : Int32) &&& 0x3f).toInt64) ^^^ (pv >>> ((63 : Int32) &&& 0x3f).toInt64))), .second] [(.ref a), (.long ((pv <<< ((1 : Int32) &&& 0x3f).toInt64) ^^^ (pv >>> ((63 : Int32) &&& 0x3f).toInt64)))])) rfl rfl (hb hby dA_22)
    refine Go.pull (V := T4.setTop (mkF m 25 #[rv a, .val (.long pv), .second, .val (.long ((pv <<< ((1 : Int32) &&& 0x3f).toInt64) ^^^ (pv >>> ((63 : Int32) &&& 0x3f).toInt64))), .second] [(.long pm), (.long ((pv <<< ((1 : Int32) &&& 0x3f).toInt64) ^^^ (pv >>> ((63 : Int32) &&& 0x3f).toInt64)))])) st4 ?_
    refine Go.pull (V := T4.setTop (mkF m 26 #[rv a, .val (.long pv), .second, .val (.long ((pv <<< ((1 : Int32) &&& 0x3f).toInt64) ^^^ (pv >>> ((63 : Int32) &&& 0x3f).toInt64))), .second] [(.long (((pv <<< ((1 : Int32) &&& 0x3f).toInt64) ^^^ (pv >>> ((63 : Int32) &&& 0x3f).toInt64)) &&& pm))])) (fun t k => XS.land X4.here hx rfl (hb hby dA_25) rfl k) ?_
    exact Go.retJ X4 hx Bd.notSynchronized Bd.returns (hb hby dA_26) ⟨(by rw [own_tov, if_neg hc13_2] <;> rfl), N0, e4⟩ (by decide) (by decide)
theorem ef0 (m : MethodId) (x0 : Int32) (x1 : Int64) : entryFrame m #[(.int x0), (.long x1)] maxLocals = mkF m 0 #[iv x0, .val (.long x1), .second, .unset, .unset, .unset, .unset, .unset, .unset] [] := by first | (simp [entryFrame, mkF, argsToLocals, Value.category, maxLocals]; done) | rfl
theorem pn_com_example_tagwire_tagwire_ScalarTypeToVarintPinLaw : plainName "com/example/tagwire/tagwire/ScalarTypeToVarintPinLaw" = true := by first | (simp [plainName, overriddenIn]; done) | decide +kernel
def Q0 (Z : State) (ps : Int32) (pb : Int64) (r_ScalarType_INT64 : Addr) (r_ScalarType_UINT64 : Addr) (r_ScalarType_SINT32 : Addr) (r_ScalarType_SINT64 : Addr) (r_ScalarType_INT32 : Addr) (r_ScalarType_UINT32 : Addr) (r_ScalarType_BOOL : Addr) (h0 : Heap) (n0 : Nat) (v : Option Value) (h : Heap) (L : List Loc) : Prop := v = some (.int 1) ∧ Fr n0 L
set_option maxRecDepth 65536 in
set_option maxHeartbeats 40000000 in
theorem rm0 (l : Launch) (Z : State) (a0 : Array Value) (hw : ∀ d ∈ tables_1, d.before a0 Z = true) (ws : List Jvm.Cond) (ps : Int32) (pb : Int64) (r_ScalarType_INT64 : Addr) (r_ScalarType_UINT64 : Addr) (r_ScalarType_SINT32 : Addr) (r_ScalarType_SINT64 : Addr) (r_ScalarType_INT32 : Addr) (r_ScalarType_UINT32 : Addr) (r_ScalarType_BOOL : Addr) (h0 : Heap) (n0 : Nat) (Z0 : n0 ≤ h0.size) (S_r_ScalarType_INT64 : Sta Z h0 "com/example/tagwire/tagwire/ScalarType" "INT64" "Lcom/example/tagwire/tagwire/ScalarType;" (.ref r_ScalarType_INT64)) (E_r_ScalarType_INT64 : Exa Z h0 r_ScalarType_INT64 "com/example/tagwire/tagwire/ScalarType") (S_r_ScalarType_UINT64 : Sta Z h0 "com/example/tagwire/tagwire/ScalarType" "UINT64" "Lcom/example/tagwire/tagwire/ScalarType;" (.ref r_ScalarType_UINT64)) (E_r_ScalarType_UINT64 : Exa Z h0 r_ScalarType_UINT64 "com/example/tagwire/tagwire/ScalarType") (S_r_ScalarType_SINT32 : Sta Z h0 "com/example/tagwire/tagwire/ScalarType" "SINT32" "Lcom/example/tagwire/tagwire/ScalarType;" (.ref r_ScalarType_SINT32)) (E_r_ScalarType_SINT32 : Exa Z h0 r_ScalarType_SINT32 "com/example/tagwire/tagwire/ScalarType") (S_r_ScalarType_SINT64 : Sta Z h0 "com/example/tagwire/tagwire/ScalarType" "SINT64" "Lcom/example/tagwire/tagwire/ScalarType;" (.ref r_ScalarType_SINT64)) (E_r_ScalarType_SINT64 : Exa Z h0 r_ScalarType_SINT64 "com/example/tagwire/tagwire/ScalarType") (S_r_ScalarType_INT32 : Sta Z h0 "com/example/tagwire/tagwire/ScalarType" "INT32" "Lcom/example/tagwire/tagwire/ScalarType;" (.ref r_ScalarType_INT32)) (E_r_ScalarType_INT32 : Exa Z h0 r_ScalarType_INT32 "com/example/tagwire/tagwire/ScalarType") (S_r_ScalarType_UINT32 : Sta Z h0 "com/example/tagwire/tagwire/ScalarType" "UINT32" "Lcom/example/tagwire/tagwire/ScalarType;" (.ref r_ScalarType_UINT32)) (E_r_ScalarType_UINT32 : Exa Z h0 r_ScalarType_UINT32 "com/example/tagwire/tagwire/ScalarType") (S_r_ScalarType_BOOL : Sta Z h0 "com/example/tagwire/tagwire/ScalarType" "BOOL" "Lcom/example/tagwire/tagwire/ScalarType;" (.ref r_ScalarType_BOOL)) (E_r_ScalarType_BOOL : Exa Z h0 r_ScalarType_BOOL "com/example/tagwire/tagwire/ScalarType") (F_r_ScalarType_INT64_zigzag : Fld Z h0 r_ScalarType_INT64 "com/example/tagwire/tagwire/ScalarType" "zigzag" "Z" (.int 0)) (F_r_ScalarType_INT64_varintMask : Fld Z h0 r_ScalarType_INT64 "com/example/tagwire/tagwire/ScalarType" "varintMask" "J" (.long (-1))) (F_r_ScalarType_UINT64_zigzag : Fld Z h0 r_ScalarType_UINT64 "com/example/tagwire/tagwire/ScalarType" "zigzag" "Z" (.int 0)) (F_r_ScalarType_UINT64_varintMask : Fld Z h0 r_ScalarType_UINT64 "com/example/tagwire/tagwire/ScalarType" "varintMask" "J" (.long (-1))) (F_r_ScalarType_SINT32_zigzag : Fld Z h0 r_ScalarType_SINT32 "com/example/tagwire/tagwire/ScalarType" "zigzag" "Z" (.int 1)) (F_r_ScalarType_SINT32_varintMask : Fld Z h0 r_ScalarType_SINT32 "com/example/tagwire/tagwire/ScalarType" "varintMask" "J" (.long 4294967295)) (F_r_ScalarType_SINT64_zigzag : Fld Z h0 r_ScalarType_SINT64 "com/example/tagwire/tagwire/ScalarType" "zigzag" "Z" (.int 1)) (F_r_ScalarType_SINT64_varintMask : Fld Z h0 r_ScalarType_SINT64 "com/example/tagwire/tagwire/ScalarType" "varintMask" "J" (.long (-1))) (F_r_ScalarType_INT32_zigzag : Fld Z h0 r_ScalarType_INT32 "com/example/tagwire/tagwire/ScalarType" "zigzag" "Z" (.int 0)) (F_r_ScalarType_INT32_varintMask : Fld Z h0 r_ScalarType_INT32 "com/example/tagwire/tagwire/ScalarType" "varintMask" "J" (.long (-1))) (F_r_ScalarType_UINT32_zigzag : Fld Z h0 r_ScalarType_UINT32 "com/example/tagwire/tagwire/ScalarType" "zigzag" "Z" (.int 0)) (F_r_ScalarType_UINT32_varintMask : Fld Z h0 r_ScalarType_UINT32 "com/example/tagwire/tagwire/ScalarType" "varintMask" "J" (.long 4294967295)) (F_r_ScalarType_BOOL_zigzag : Fld Z h0 r_ScalarType_BOOL "com/example/tagwire/tagwire/ScalarType" "zigzag" "Z" (.int 0)) (F_r_ScalarType_BOOL_varintMask : Fld Z h0 r_ScalarType_BOOL "com/example/tagwire/tagwire/ScalarType" "varintMask" "J" (.long (-1))) :
    MetFree l x (head1 (Jvm.Cond.code x code maxLocals ret :: ws) room_1) (fun as' U => as' = #[(.int ps), (.long pb)] ∧ Z.Warmed39 U.vm ∧ U.heap = h0) (fun _ _ _ _ _ => True) (fun _ U o U' => ∃ v L, o = .returned v ∧ Q0 Z ps pb r_ScalarType_INT64 r_ScalarType_UINT64 r_ScalarType_SINT32 r_ScalarType_SINT64 r_ScalarType_INT32 r_ScalarType_UINT32 r_ScalarType_BOOL h0 n0 v U'.heap L ∧ FrameEnd U o U' L 0 0) := by
  refine MetFree.of_bodySF (plainFor_of_name pn_com_example_tagwire_tagwire_ScalarTypeToVarintPinLaw) hisR ?_
  intro p e s m args below meth c s₁ Bd hml0 hP hK
  obtain ⟨rfl, hZ, hh⟩ := hP
  have hx := Bd.exec
  have hby := Bd.bytes
  have hml : c.maxLocals = 9 := hml0
  have hown : s.vm.findClass "com/example/tagwire/tagwire/ScalarTypeToVarintPinLaw" = some m.cls := findClass_of_methodNamed Bd.named
  have hnm := (name_of_methodNamed Bd.named Bd.method).1
  have X0 : Stand p l e room_1 s m #[(.int ps), (.long pb)] below meth c s₁ [] 0 0 := Stand.of_body Bd
  have e0 : s₁.heap = h0 := by rw [← hh, Bd.state]; rfl
  have N0 := Fr.nil n0
  show Go p e below s (fun v h L => Q0 Z ps pb r_ScalarType_INT64 r_ScalarType_UINT64 r_ScalarType_SINT32 r_ScalarType_SINT64 r_ScalarType_INT32 r_ScalarType_UINT32 r_ScalarType_BOOL h0 n0 v h L) 0 0 _
  refine Go.pull (V := s₁.setTop (mkF m 0 #[iv ps, .val (.long pb), .second, .unset, .unset, .unset, .unset, .unset, .unset] [])) (fun t k => castTop (ef0 m ps pb) k) ?_
  refine Go.pull (V := s₁.setTop (mkF m 1 #[iv ps, .val (.long pb), .second, .unset, .unset, .unset, .unset, .unset, .unset] [(.int ps)])) (fun t k => XS.iloadN X0.here hx rfl (hb hby at_0) rfl  k) ?_
  refine Go.pull (V := s₁.setTop (mkF m 3 #[iv ps, .val (.long pb), .second, .unset, .unset, .unset, .unset, .unset, .unset] [(.int 2147483647), (.int ps)])) (fun t k => X0.ldcInt hx hown (mvT hZ (hw _ (List.mem_of_getElem? (i := 0) rfl))) (g := (mkF m 1 #[iv ps, .val (.long pb), .second, .unset, .unset, .unset, .unset, .unset, .unset] [(.int ps)])) rfl (hb hby at_1) _ k) ?_
  refine Go.pull (V := s₁.setTop (mkF m 4 #[iv ps, .val (.long pb), .second, .unset, .unset, .unset, .unset, .unset, .unset] [(.int (ps &&& (2147483647 : Int32)))])) (fun t k => XS.iand X0.here hx rfl (hb hby at_3) rfl k) ?_
  refine Go.pull (V := s₁.setTop (mkF m 6 #[iv ps, .val (.long pb), .second, .unset, .unset, .unset, .unset, .unset, .unset] [(.int 7), (.int (ps &&& (2147483647 : Int32)))])) (fun t k => XS.bipush X0.here hx rfl (hb hby at_4) k) ?_
  refine Go.pull (V := s₁.setTop (mkF m 7 #[iv ps, .val (.long pb), .second, .unset, .unset, .unset, .unset, .unset, .unset] [(.int ((ps &&& (2147483647 : Int32)) % (7 : Int32)))])) (fun t k => iremM X0 hx rfl (hb hby at_6) rfl (by decide) k) ?_
  refine Go.pull (V := s₁.setTop (mkF m 8 #[iv ps, .val (.long pb), .second, iv ((ps &&& (2147483647 : Int32)) % (7 : Int32)), .unset, .unset, .unset, .unset, .unset] [])) (fun t k => XS.istoreN X0.here hx rfl (hb hby at_7) rfl (l' := #[iv ps, .val (.long pb), .second, iv ((ps &&& (2147483647 : Int32)) % (7 : Int32)), .unset, .unset, .unset, .unset, .unset]) rfl k) ?_
  generalize gv1 : ((ps &&& (2147483647 : Int32)) % (7 : Int32)) = v1
  obtain hv1 | hv1 | hv1 | hv1 | hv1 | hv1 | hv1 := own_rem7 _ gv1
  · subst hv1
    refine Go.pull (V := s₁.setTop (mkF m 9 #[iv ps, .val (.long pb), .second, iv 0, .unset, .unset, .unset, .unset, .unset] [(.long pb)])) (fun t k => XS.lloadN X0.here hx rfl (hb hby at_8) rfl  k) ?_
    refine Go.pull (V := s₁.setTop (mkF m 10 #[iv ps, .val (.long pb), .second, iv 0, .unset, .unset, .unset, .unset, .unset] [(.int (pb.toInt32))])) (fun t k => XS.l2i X0.here hx rfl (hb hby at_9) rfl k) ?_
    refine Go.pull (V := s₁.setTop (mkF m 12 #[iv ps, .val (.long pb), .second, iv 0, iv (pb.toInt32), .unset, .unset, .unset, .unset] [])) (fun t k => XS.istore X0.here hx rfl (hb hby at_10) rfl (l' := #[iv ps, .val (.long pb), .second, iv 0, iv (pb.toInt32), .unset, .unset, .unset, .unset]) rfl k) ?_
    refine Go.pull (V := s₁.setTop (mkF m 14 #[iv ps, .val (.long pb), .second, iv 0, iv (pb.toInt32), .unset, .unset, .unset, .unset] [(.int (pb.toInt32))])) (fun t k => XS.iload X0.here hx rfl (hb hby at_12) rfl  k) ?_
    refine Go.pull (V := s₁.setTop (mkF m 15 #[iv ps, .val (.long pb), .second, iv 0, iv (pb.toInt32), .unset, .unset, .unset, .unset] [(.long ((pb.toInt32).toInt64))])) (fun t k => XS.i2l X0.here hx rfl (hb hby at_14) rfl k) ?_
    refine Go.pull (V := s₁.setTop (mkF m 17 #[iv ps, .val (.long pb), .second, iv 0, iv (pb.toInt32), .val (.long ((pb.toInt32).toInt64)), .second, .unset, .unset] [])) (fun t k => XS.lstore X0.here hx rfl (hb hby at_15) rfl (l' := #[iv ps, .val (.long pb), .second, iv 0, iv (pb.toInt32), .val (.long ((pb.toInt32).toInt64)), .second, .unset, .unset]) rfl k) ?_
    refine Go.pull (V := s₁.setTop (mkF m 18 #[iv ps, .val (.long pb), .second, iv 0, iv (pb.toInt32), .val (.long ((pb.toInt32).toInt64)), .second, .unset, .unset] [(.int 0)])) (fun t k => XS.iloadN X0.here hx rfl (hb hby at_17) rfl  k) ?_
    refine Go.pull (V := s₁.setTop (mkF m 21 #[iv ps, .val (.long pb), .second, iv 0, iv (pb.toInt32), .val (.long ((pb.toInt32).toInt64)), .second, .unset, .unset] [])) (fun t k => XS.ifNo X0.here hx rfl (hb hby at_18) rfl (XT.i0_ne_f (by decide)) k) ?_
    obtain ⟨T2, X2, e2, st2⟩ := getS2 X0 hx hZ hown (host := "") (Or.inl (hw _ (List.mem_of_getElem? (i := 1) rfl))) Via.refl e0 S_r_ScalarType_INT64 (g := (mkF m 21 #[iv ps, .val (.long pb), .second, iv 0, iv (pb.toInt32), .val (.long ((pb.toInt32).toInt64)), .second, .unset, .unset] [])) rfl (hb hby at_21)
    refine Go.pull (V := T2.setTop (mkF m 24 #[iv ps, .val (.long pb), .second, iv 0, iv (pb.toInt32), .val (.long ((pb.toInt32).toInt64)), .second, .unset, .unset] [(.ref r_ScalarType_INT64)])) st2 ?_
    refine Go.pull (V := T2.setTop (mkF m 25 #[iv ps, .val (.long pb), .second, iv 0, iv (pb.toInt32), .val (.long ((pb.toInt32).toInt64)), .second, .unset, .unset] [(.long pb), (.ref r_ScalarType_INT64)])) (fun t k => XS.lloadN X2.here hx rfl (hb hby at_24) rfl  k) ?_
    obtain ⟨cq3, kq3, q3a, q3b, q3c⟩ := isOf hZ e2 E_r_ScalarType_INT64
    obtain ⟨_, _, ⟨T3, L3, k3, n3⟩, -, X3, ⟨Lc3, hQ3, l3, y3, z3⟩, st3⟩ := X2.virtualBack hx (y := (⟨"com/example/tagwire/tagwire/ScalarType", "toVarint", "(J)J"⟩ : MethodName)) (z := (⟨"com/example/tagwire/tagwire/ScalarType", "toVarint", "(J)J"⟩ : MethodName)) hown (mvT hZ (hw _ (List.mem_of_getElem? (i := 4) rfl))) (mvT hZ (hw _ (List.mem_of_getElem? (i := 5) rfl))) (notFace_of_selects (args := #[]) (mvT hZ (hw _ (List.mem_of_getElem? (i := 7) rfl)))) (mvT hZ (hw _ (List.mem_of_getElem? (i := 7) rfl))) (mvT hZ (hw _ (List.mem_of_getElem? (i := 6) rfl))) (by decide) (backOf (W := 0) (rmA l Z a0 hw [] r_ScalarType_INT64 pb (0 : Int32) (-1 : Int64) h0 n0 F_r_ScalarType_INT64_zigzag F_r_ScalarType_INT64_varintMask) hZ (hw _ (List.mem_of_getElem? (i := 8) rfl)) (hw _ (List.mem_of_getElem? (i := 2) rfl)) (by decide) (by decide)) q3a q3c (g := (mkF m 25 #[iv ps, .val (.long pb), .second, iv 0, iv (pb.toInt32), .val (.long ((pb.toInt32).toInt64)), .second, .unset, .unset] [(.long pb), (.ref r_ScalarType_INT64)])) rfl (by rw [hml]; rfl) (Steps.refl _) (argsL := [(.long pb)]) (rest := []) (lenOf pd_0 rfl) rfl (by show 2 * 0 + _ ≤ _; exact Nat.le_of_eq rfl) (hb hby at_25) (fun _ _ => ⟨rfl, e2, (by decide : 0 + 0 ≤ _), (by decide : 0 + 0 ≤ _)⟩)
    dsimp only [Pt.U, Pt.locs, Pt.cells, Pt.slots] at X3 l3 y3 z3 st3 hQ3
    subst l3 y3 z3
    obtain ⟨rfl, N3q, e3⟩ := hQ3
    have N3 := Fr.app N0 N3q
    refine Go.pull (V := T3.setTop (mkF m 28 #[iv ps, .val (.long pb), .second, iv 0, iv (pb.toInt32), .val (.long ((pb.toInt32).toInt64)), .second, .unset, .unset] [(.long (own_tov (0 : Int32) (-1 : Int64) pb))])) (fun _ k => st3.trans k) ?_
    refine Go.pull (V := T3.setTop (mkF m 29 #[iv ps, .val (.long pb), .second, iv 0, iv (pb.toInt32), .val (.long ((pb.toInt32).toInt64)), .second, .unset, .unset] [(.long pb), (.long (own_tov (0 : Int32) (-1 : Int64) pb))])) (fun t k => XS.lloadN X3.here hx rfl (hb hby at_28) rfl  k) ?_
    refine Go.pull (V := T3.setTop (mkF m 30 #[iv ps, .val (.long pb), .second, iv 0, iv (pb.toInt32), .val (.long ((pb.toInt32).toInt64)), .second, .unset, .unset] [(.int (XT.cmpL (own_tov (0 : Int32) (-1 : Int64) pb) pb))])) (fun t k => XT.lcmp X3.here hx rfl (hb hby at_29) rfl k) ?_
    refine Go.pull (V := T3.setTop (mkF m 33 #[iv ps, .val (.long pb), .second, iv 0, iv (pb.toInt32), .val (.long ((pb.toInt32).toInt64)), .second, .unset, .unset] [])) (fun t k => XS.ifNo X3.here hx rfl (hb hby at_30) rfl (XT.ll_ne_f (own_t0 _)) k) ?_
    refine Go.pull (V := T3.setTop (mkF m 34 #[iv ps, .val (.long pb), .second, iv 0, iv (pb.toInt32), .val (.long ((pb.toInt32).toInt64)), .second, .unset, .unset] [(.int 1)])) (fun t k => XS.iconst X3.here hx rfl (hb hby at_33) k) ?_
    refine Go.pull (V := T3.setTop (mkF m 38 #[iv ps, .val (.long pb), .second, iv 0, iv (pb.toInt32), .val (.long ((pb.toInt32).toInt64)), .second, .unset, .unset] [(.int 1)])) (fun t k => XS.goto X3.here hx rfl (pc0 := 34) (pc' := 38) rfl (hb hby at_34) (by decide) (by decide) k) ?_
    exact Go.retN X3 hx Bd.notSynchronized (t := .boolean) Bd.returns (by simp) (hb hby at_38) ⟨rfl, N3⟩ (by decide) (by decide)
  · subst hv1
    refine Go.pull (V := s₁.setTop (mkF m 9 #[iv ps, .val (.long pb), .second, iv 1, .unset, .unset, .unset, .unset, .unset] [(.long pb)])) (fun t k => XS.lloadN X0.here hx rfl (hb hby at_8) rfl  k) ?_
    refine Go.pull (V := s₁.setTop (mkF m 10 #[iv ps, .val (.long pb), .second, iv 1, .unset, .unset, .unset, .unset, .unset] [(.int (pb.toInt32))])) (fun t k => XS.l2i X0.here hx rfl (hb hby at_9) rfl k) ?_
    refine Go.pull (V := s₁.setTop (mkF m 12 #[iv ps, .val (.long pb), .second, iv 1, iv (pb.toInt32), .unset, .unset, .unset, .unset] [])) (fun t k => XS.istore X0.here hx rfl (hb hby at_10) rfl (l' := #[iv ps, .val (.long pb), .second, iv 1, iv (pb.toInt32), .unset, .unset, .unset, .unset]) rfl k) ?_
    refine Go.pull (V := s₁.setTop (mkF m 14 #[iv ps, .val (.long pb), .second, iv 1, iv (pb.toInt32), .unset, .unset, .unset, .unset] [(.int (pb.toInt32))])) (fun t k => XS.iload X0.here hx rfl (hb hby at_12) rfl  k) ?_
    refine Go.pull (V := s₁.setTop (mkF m 15 #[iv ps, .val (.long pb), .second, iv 1, iv (pb.toInt32), .unset, .unset, .unset, .unset] [(.long ((pb.toInt32).toInt64))])) (fun t k => XS.i2l X0.here hx rfl (hb hby at_14) rfl k) ?_
    refine Go.pull (V := s₁.setTop (mkF m 17 #[iv ps, .val (.long pb), .second, iv 1, iv (pb.toInt32), .val (.long ((pb.toInt32).toInt64)), .second, .unset, .unset] [])) (fun t k => XS.lstore X0.here hx rfl (hb hby at_15) rfl (l' := #[iv ps, .val (.long pb), .second, iv 1, iv (pb.toInt32), .val (.long ((pb.toInt32).toInt64)), .second, .unset, .unset]) rfl k) ?_
    refine Go.pull (V := s₁.setTop (mkF m 18 #[iv ps, .val (.long pb), .second, iv 1, iv (pb.toInt32), .val (.long ((pb.toInt32).toInt64)), .second, .unset, .unset] [(.int 1)])) (fun t k => XS.iloadN X0.here hx rfl (hb hby at_17) rfl  k) ?_
    refine Go.pull (V := s₁.setTop (mkF m 39 #[iv ps, .val (.long pb), .second, iv 1, iv (pb.toInt32), .val (.long ((pb.toInt32).toInt64)), .second, .unset, .unset] [])) (fun t k => XS.ifYes X0.here hx rfl (pc0 := 18) (pc' := 39) rfl (hb hby at_18) rfl (XT.i0_ne_t (by decide)) (by decide) (by decide) k) ?_
    refine Go.pull (V := s₁.setTop (mkF m 40 #[iv ps, .val (.long pb), .second, iv 1, iv (pb.toInt32), .val (.long ((pb.toInt32).toInt64)), .second, .unset, .unset] [(.int 1)])) (fun t k => XS.iloadN X0.here hx rfl (hb hby at_39) rfl  k) ?_
    refine Go.pull (V := s₁.setTop (mkF m 41 #[iv ps, .val (.long pb), .second, iv 1, iv (pb.toInt32), .val (.long ((pb.toInt32).toInt64)), .second, .unset, .unset] [(.int 1), (.int 1)])) (fun t k => XS.iconst X0.here hx rfl (hb hby at_40) k) ?_
    refine Go.pull (V := s₁.setTop (mkF m 44 #[iv ps, .val (.long pb), .second, iv 1, iv (pb.toInt32), .val (.long ((pb.toInt32).toInt64)), .second, .unset, .unset] [])) (fun t k => XS.icmpNo X0.here hx rfl (hb hby at_41) rfl (XT.ii_ne_f (by decide)) k) ?_
    obtain ⟨T4, X4, e4, st4⟩ := getS2 X0 hx hZ hown (host := "") (Or.inl (hw _ (List.mem_of_getElem? (i := 13) rfl))) Via.refl e0 S_r_ScalarType_UINT64 (g := (mkF m 44 #[iv ps, .val (.long pb), .second, iv 1, iv (pb.toInt32), .val (.long ((pb.toInt32).toInt64)), .second, .unset, .unset] [])) rfl (hb hby at_44)
    refine Go.pull (V := T4.setTop (mkF m 47 #[iv ps, .val (.long pb), .second, iv 1, iv (pb.toInt32), .val (.long ((pb.toInt32).toInt64)), .second, .unset, .unset] [(.ref r_ScalarType_UINT64)])) st4 ?_
    refine Go.pull (V := T4.setTop (mkF m 48 #[iv ps, .val (.long pb), .second, iv 1, iv (pb.toInt32), .val (.long ((pb.toInt32).toInt64)), .second, .unset, .unset] [(.long pb), (.ref r_ScalarType_UINT64)])) (fun t k => XS.lloadN X4.here hx rfl (hb hby at_47) rfl  k) ?_
    obtain ⟨cq5, kq5, q5a, q5b, q5c⟩ := isOf hZ e4 E_r_ScalarType_UINT64
    obtain ⟨_, _, ⟨T5, L5, k5, n5⟩, -, X5, ⟨Lc5, hQ5, l5, y5, z5⟩, st5⟩ := X4.virtualBack hx (y := (⟨"com/example/tagwire/tagwire/ScalarType", "toVarint", "(J)J"⟩ : MethodName)) (z := (⟨"com/example/tagwire/tagwire/ScalarType", "toVarint", "(J)J"⟩ : MethodName)) hown (mvT hZ (hw _ (List.mem_of_getElem? (i := 4) rfl))) (mvT hZ (hw _ (List.mem_of_getElem? (i := 5) rfl))) (notFace_of_selects (args := #[]) (mvT hZ (hw _ (List.mem_of_getElem? (i := 7) rfl)))) (mvT hZ (hw _ (List.mem_of_getElem? (i := 7) rfl))) (mvT hZ (hw _ (List.mem_of_getElem? (i := 6) rfl))) (by decide) (backOf (W := 0) (rmA l Z a0 hw [] r_ScalarType_UINT64 pb (0 : Int32) (-1 : Int64) h0 n0 F_r_ScalarType_UINT64_zigzag F_r_ScalarType_UINT64_varintMask) hZ (hw _ (List.mem_of_getElem? (i := 8) rfl)) (hw _ (List.mem_of_getElem? (i := 2) rfl)) (by decide) (by decide)) q5a q5c (g := (mkF m 48 #[iv ps, .val (.long pb), .second, iv 1, iv (pb.toInt32), .val (.long ((pb.toInt32).toInt64)), .second, .unset, .unset] [(.long pb), (.ref r_ScalarType_UINT64)])) rfl (by rw [hml]; rfl) (Steps.refl _) (argsL := [(.long pb)]) (rest := []) (lenOf pd_0 rfl) rfl (by show 2 * 0 + _ ≤ _; exact Nat.le_of_eq rfl) (hb hby at_48) (fun _ _ => ⟨rfl, e4, (by decide : 0 + 0 ≤ _), (by decide : 0 + 0 ≤ _)⟩)
    dsimp only [Pt.U, Pt.locs, Pt.cells, Pt.slots] at X5 l5 y5 z5 st5 hQ5
    subst l5 y5 z5
    obtain ⟨rfl, N5q, e5⟩ := hQ5
    have N5 := Fr.app N0 N5q
    refine Go.pull (V := T5.setTop (mkF m 51 #[iv ps, .val (.long pb), .second, iv 1, iv (pb.toInt32), .val (.long ((pb.toInt32).toInt64)), .second, .unset, .unset] [(.long (own_tov (0 : Int32) (-1 : Int64) pb))])) (fun _ k => st5.trans k) ?_
    refine Go.pull (V := T5.setTop (mkF m 52 #[iv ps, .val (.long pb), .second, iv 1, iv (pb.toInt32), .val (.long ((pb.toInt32).toInt64)), .second, .unset, .unset] [(.long pb), (.long (own_tov (0 : Int32) (-1 : Int64) pb))])) (fun t k => XS.lloadN X5.here hx rfl (hb hby at_51) rfl  k) ?_
    refine Go.pull (V := T5.setTop (mkF m 53 #[iv ps, .val (.long pb), .second, iv 1, iv (pb.toInt32), .val (.long ((pb.toInt32).toInt64)), .second, .unset, .unset] [(.int (XT.cmpL (own_tov (0 : Int32) (-1 : Int64) pb) pb))])) (fun t k => XT.lcmp X5.here hx rfl (hb hby at_52) rfl k) ?_
    refine Go.pull (V := T5.setTop (mkF m 56 #[iv ps, .val (.long pb), .second, iv 1, iv (pb.toInt32), .val (.long ((pb.toInt32).toInt64)), .second, .unset, .unset] [])) (fun t k => XS.ifNo X5.here hx rfl (hb hby at_53) rfl (XT.ll_ne_f (own_t0 _)) k) ?_
    refine Go.pull (V := T5.setTop (mkF m 57 #[iv ps, .val (.long pb), .second, iv 1, iv (pb.toInt32), .val (.long ((pb.toInt32).toInt64)), .second, .unset, .unset] [(.int 1)])) (fun t k => XS.iconst X5.here hx rfl (hb hby at_56) k) ?_
    refine Go.pull (V := T5.setTop (mkF m 61 #[iv ps, .val (.long pb), .second, iv 1, iv (pb.toInt32), .val (.long ((pb.toInt32).toInt64)), .second, .unset, .unset] [(.int 1)])) (fun t k => XS.goto X5.here hx rfl (pc0 := 57) (pc' := 61) rfl (hb hby at_57) (by decide) (by decide) k) ?_
    exact Go.retN X5 hx Bd.notSynchronized (t := .boolean) Bd.returns (by simp) (hb hby at_61) ⟨rfl, N5⟩ (by decide) (by decide)
  · subst hv1
    refine Go.pull (V := s₁.setTop (mkF m 9 #[iv ps, .val (.long pb), .second, iv 2, .unset, .unset, .unset, .unset, .unset] [(.long pb)])) (fun t k => XS.lloadN X0.here hx rfl (hb hby at_8) rfl  k) ?_
    refine Go.pull (V := s₁.setTop (mkF m 10 #[iv ps, .val (.long pb), .second, iv 2, .unset, .unset, .unset, .unset, .unset] [(.int (pb.toInt32))])) (fun t k => XS.l2i X0.here hx rfl (hb hby at_9) rfl k) ?_
    refine Go.pull (V := s₁.setTop (mkF m 12 #[iv ps, .val (.long pb), .second, iv 2, iv (pb.toInt32), .unset, .unset, .unset, .unset] [])) (fun t k => XS.istore X0.here hx rfl (hb hby at_10) rfl (l' := #[iv ps, .val (.long pb), .second, iv 2, iv (pb.toInt32), .unset, .unset, .unset, .unset]) rfl k) ?_
    refine Go.pull (V := s₁.setTop (mkF m 14 #[iv ps, .val (.long pb), .second, iv 2, iv (pb.toInt32), .unset, .unset, .unset, .unset] [(.int (pb.toInt32))])) (fun t k => XS.iload X0.here hx rfl (hb hby at_12) rfl  k) ?_
    refine Go.pull (V := s₁.setTop (mkF m 15 #[iv ps, .val (.long pb), .second, iv 2, iv (pb.toInt32), .unset, .unset, .unset, .unset] [(.long ((pb.toInt32).toInt64))])) (fun t k => XS.i2l X0.here hx rfl (hb hby at_14) rfl k) ?_
    refine Go.pull (V := s₁.setTop (mkF m 17 #[iv ps, .val (.long pb), .second, iv 2, iv (pb.toInt32), .val (.long ((pb.toInt32).toInt64)), .second, .unset, .unset] [])) (fun t k => XS.lstore X0.here hx rfl (hb hby at_15) rfl (l' := #[iv ps, .val (.long pb), .second, iv 2, iv (pb.toInt32), .val (.long ((pb.toInt32).toInt64)), .second, .unset, .unset]) rfl k) ?_
    refine Go.pull (V := s₁.setTop (mkF m 18 #[iv ps, .val (.long pb), .second, iv 2, iv (pb.toInt32), .val (.long ((pb.toInt32).toInt64)), .second, .unset, .unset] [(.int 2)])) (fun t k => XS.iloadN X0.here hx rfl (hb hby at_17) rfl  k) ?_
    refine Go.pull (V := s₁.setTop (mkF m 39 #[iv ps, .val (.long pb), .second, iv 2, iv (pb.toInt32), .val (.long ((pb.toInt32).toInt64)), .second, .unset, .unset] [])) (fun t k => XS.ifYes X0.here hx rfl (pc0 := 18) (pc' := 39) rfl (hb hby at_18) rfl (XT.i0_ne_t (by decide)) (by decide) (by decide) k) ?_
    refine Go.pull (V := s₁.setTop (mkF m 40 #[iv ps, .val (.long pb), .second, iv 2, iv (pb.toInt32), .val (.long ((pb.toInt32).toInt64)), .second, .unset, .unset] [(.int 2)])) (fun t k => XS.iloadN X0.here hx rfl (hb hby at_39) rfl  k) ?_
    refine Go.pull (V := s₁.setTop (mkF m 41 #[iv ps, .val (.long pb), .second, iv 2, iv (pb.toInt32), .val (.long ((pb.toInt32).toInt64)), .second, .unset, .unset] [(.int 1), (.int 2)])) (fun t k => XS.iconst X0.here hx rfl (hb hby at_40) k) ?_
    refine Go.pull (V := s₁.setTop (mkF m 62 #[iv ps, .val (.long pb), .second, iv 2, iv (pb.toInt32), .val (.long ((pb.toInt32).toInt64)), .second, .unset, .unset] [])) (fun t k => XS.icmpYes X0.here hx rfl (pc0 := 41) (pc' := 62) rfl (hb hby at_41) rfl (XT.ii_ne_t (by decide)) (by decide) (by decide) k) ?_
    refine Go.pull (V := s₁.setTop (mkF m 63 #[iv ps, .val (.long pb), .second, iv 2, iv (pb.toInt32), .val (.long ((pb.toInt32).toInt64)), .second, .unset, .unset] [(.int 2)])) (fun t k => XS.iloadN X0.here hx rfl (hb hby at_62) rfl  k) ?_
    refine Go.pull (V := s₁.setTop (mkF m 64 #[iv ps, .val (.long pb), .second, iv 2, iv (pb.toInt32), .val (.long ((pb.toInt32).toInt64)), .second, .unset, .unset] [(.int 2), (.int 2)])) (fun t k => XS.iconst X0.here hx rfl (hb hby at_63) k) ?_
    refine Go.pull (V := s₁.setTop (mkF m 67 #[iv ps, .val (.long pb), .second, iv 2, iv (pb.toInt32), .val (.long ((pb.toInt32).toInt64)), .second, .unset, .unset] [])) (fun t k => XS.icmpNo X0.here hx rfl (hb hby at_64) rfl (XT.ii_ne_f (by decide)) k) ?_
    obtain ⟨T6, X6, e6, st6⟩ := getS2 X0 hx hZ hown (host := "") (Or.inl (hw _ (List.mem_of_getElem? (i := 20) rfl))) Via.refl e0 S_r_ScalarType_INT32 (g := (mkF m 67 #[iv ps, .val (.long pb), .second, iv 2, iv (pb.toInt32), .val (.long ((pb.toInt32).toInt64)), .second, .unset, .unset] [])) rfl (hb hby at_67)
    refine Go.pull (V := T6.setTop (mkF m 70 #[iv ps, .val (.long pb), .second, iv 2, iv (pb.toInt32), .val (.long ((pb.toInt32).toInt64)), .second, .unset, .unset] [(.ref r_ScalarType_INT32)])) st6 ?_
    refine Go.pull (V := T6.setTop (mkF m 72 #[iv ps, .val (.long pb), .second, iv 2, iv (pb.toInt32), .val (.long ((pb.toInt32).toInt64)), .second, .unset, .unset] [(.long ((pb.toInt32).toInt64)), (.ref r_ScalarType_INT32)])) (fun t k => XS.lload X6.here hx rfl (hb hby at_70) rfl  k) ?_
    obtain ⟨cq7, kq7, q7a, q7b, q7c⟩ := isOf hZ e6 E_r_ScalarType_INT32
    obtain ⟨_, _, ⟨T7, L7, k7, n7⟩, -, X7, ⟨Lc7, hQ7, l7, y7, z7⟩, st7⟩ := X6.virtualBack hx (y := (⟨"com/example/tagwire/tagwire/ScalarType", "toVarint", "(J)J"⟩ : MethodName)) (z := (⟨"com/example/tagwire/tagwire/ScalarType", "toVarint", "(J)J"⟩ : MethodName)) hown (mvT hZ (hw _ (List.mem_of_getElem? (i := 4) rfl))) (mvT hZ (hw _ (List.mem_of_getElem? (i := 5) rfl))) (notFace_of_selects (args := #[]) (mvT hZ (hw _ (List.mem_of_getElem? (i := 7) rfl)))) (mvT hZ (hw _ (List.mem_of_getElem? (i := 7) rfl))) (mvT hZ (hw _ (List.mem_of_getElem? (i := 6) rfl))) (by decide) (backOf (W := 0) (rmA l Z a0 hw [] r_ScalarType_INT32 ((pb.toInt32).toInt64) (0 : Int32) (-1 : Int64) h0 n0 F_r_ScalarType_INT32_zigzag F_r_ScalarType_INT32_varintMask) hZ (hw _ (List.mem_of_getElem? (i := 8) rfl)) (hw _ (List.mem_of_getElem? (i := 2) rfl)) (by decide) (by decide)) q7a q7c (g := (mkF m 72 #[iv ps, .val (.long pb), .second, iv 2, iv (pb.toInt32), .val (.long ((pb.toInt32).toInt64)), .second, .unset, .unset] [(.long ((pb.toInt32).toInt64)), (.ref r_ScalarType_INT32)])) rfl (by rw [hml]; rfl) (Steps.refl _) (argsL := [(.long ((pb.toInt32).toInt64))]) (rest := []) (lenOf pd_0 rfl) rfl (by show 2 * 0 + _ ≤ _; exact Nat.le_of_eq rfl) (hb hby at_72) (fun _ _ => ⟨rfl, e6, (by decide : 0 + 0 ≤ _), (by decide : 0 + 0 ≤ _)⟩)
    dsimp only [Pt.U, Pt.locs, Pt.cells, Pt.slots] at X7 l7 y7 z7 st7 hQ7
    subst l7 y7 z7
    obtain ⟨rfl, N7q, e7⟩ := hQ7
    have N7 := Fr.app N0 N7q
    refine Go.pull (V := T7.setTop (mkF m 75 #[iv ps, .val (.long pb), .second, iv 2, iv (pb.toInt32), .val (.long ((pb.toInt32).toInt64)), .second, .unset, .unset] [(.long (own_tov (0 : Int32) (-1 : Int64) ((pb.toInt32).toInt64)))])) (fun _ k => st7.trans k) ?_
    refine Go.pull (V := T7.setTop (mkF m 77 #[iv ps, .val (.long pb), .second, iv 2, iv (pb.toInt32), .val (.long ((pb.toInt32).toInt64)), .second, .unset, .unset] [(.long ((pb.toInt32).toInt64)), (.long (own_tov (0 : Int32) (-1 : Int64) ((pb.toInt32).toInt64)))])) (fun t k => XS.lload X7.here hx rfl (hb hby at_75) rfl  k) ?_
    refine Go.pull (V := T7.setTop (mkF m 78 #[iv ps, .val (.long pb), .second, iv 2, iv (pb.toInt32), .val (.long ((pb.toInt32).toInt64)), .second, .unset, .unset] [(.int (XT.cmpL (own_tov (0 : Int32) (-1 : Int64) ((pb.toInt32).toInt64)) ((pb.toInt32).toInt64)))])) (fun t k => XT.lcmp X7.here hx rfl (hb hby at_77) rfl k) ?_
    refine Go.pull (V := T7.setTop (mkF m 81 #[iv ps, .val (.long pb), .second, iv 2, iv (pb.toInt32), .val (.long ((pb.toInt32).toInt64)), .second, .unset, .unset] [])) (fun t k => XS.ifNo X7.here hx rfl (hb hby at_78) rfl (XT.ll_ne_f (own_t0 _)) k) ?_
    refine Go.pull (V := T7.setTop (mkF m 82 #[iv ps, .val (.long pb), .second, iv 2, iv (pb.toInt32), .val (.long ((pb.toInt32).toInt64)), .second, .unset, .unset] [(.int 1)])) (fun t k => XS.iconst X7.here hx rfl (hb hby at_81) k) ?_
    refine Go.pull (V := T7.setTop (mkF m 86 #[iv ps, .val (.long pb), .second, iv 2, iv (pb.toInt32), .val (.long ((pb.toInt32).toInt64)), .second, .unset, .unset] [(.int 1)])) (fun t k => XS.goto X7.here hx rfl (pc0 := 82) (pc' := 86) rfl (hb hby at_82) (by decide) (by decide) k) ?_
    exact Go.retN X7 hx Bd.notSynchronized (t := .boolean) Bd.returns (by simp) (hb hby at_86) ⟨rfl, N7⟩ (by decide) (by decide)
  · subst hv1
    refine Go.pull (V := s₁.setTop (mkF m 9 #[iv ps, .val (.long pb), .second, iv 3, .unset, .unset, .unset, .unset, .unset] [(.long pb)])) (fun t k => XS.lloadN X0.here hx rfl (hb hby at_8) rfl  k) ?_
    refine Go.pull (V := s₁.setTop (mkF m 10 #[iv ps, .val (.long pb), .second, iv 3, .unset, .unset, .unset, .unset, .unset] [(.int (pb.toInt32))])) (fun t k => XS.l2i X0.here hx rfl (hb hby at_9) rfl k) ?_
    refine Go.pull (V := s₁.setTop (mkF m 12 #[iv ps, .val (.long pb), .second, iv 3, iv (pb.toInt32), .unset, .unset, .unset, .unset] [])) (fun t k => XS.istore X0.here hx rfl (hb hby at_10) rfl (l' := #[iv ps, .val (.long pb), .second, iv 3, iv (pb.toInt32), .unset, .unset, .unset, .unset]) rfl k) ?_
    refine Go.pull (V := s₁.setTop (mkF m 14 #[iv ps, .val (.long pb), .second, iv 3, iv (pb.toInt32), .unset, .unset, .unset, .unset] [(.int (pb.toInt32))])) (fun t k => XS.iload X0.here hx rfl (hb hby at_12) rfl  k) ?_
    refine Go.pull (V := s₁.setTop (mkF m 15 #[iv ps, .val (.long pb), .second, iv 3, iv (pb.toInt32), .unset, .unset, .unset, .unset] [(.long ((pb.toInt32).toInt64))])) (fun t k => XS.i2l X0.here hx rfl (hb hby at_14) rfl k) ?_
    refine Go.pull (V := s₁.setTop (mkF m 17 #[iv ps, .val (.long pb), .second, iv 3, iv (pb.toInt32), .val (.long ((pb.toInt32).toInt64)), .second, .unset, .unset] [])) (fun t k => XS.lstore X0.here hx rfl (hb hby at_15) rfl (l' := #[iv ps, .val (.long pb), .second, iv 3, iv (pb.toInt32), .val (.long ((pb.toInt32).toInt64)), .second, .unset, .unset]) rfl k) ?_
    refine Go.pull (V := s₁.setTop (mkF m 18 #[iv ps, .val (.long pb), .second, iv 3, iv (pb.toInt32), .val (.long ((pb.toInt32).toInt64)), .second, .unset, .unset] [(.int 3)])) (fun t k => XS.iloadN X0.here hx rfl (hb hby at_17) rfl  k) ?_
    refine Go.pull (V := s₁.setTop (mkF m 39 #[iv ps, .val (.long pb), .second, iv 3, iv (pb.toInt32), .val (.long ((pb.toInt32).toInt64)), .second, .unset, .unset] [])) (fun t k => XS.ifYes X0.here hx rfl (pc0 := 18) (pc' := 39) rfl (hb hby at_18) rfl (XT.i0_ne_t (by decide)) (by decide) (by decide) k) ?_
    refine Go.pull (V := s₁.setTop (mkF m 40 #[iv ps, .val (.long pb), .second, iv 3, iv (pb.toInt32), .val (.long ((pb.toInt32).toInt64)), .second, .unset, .unset] [(.int 3)])) (fun t k => XS.iloadN X0.here hx rfl (hb hby at_39) rfl  k) ?_
    refine Go.pull (V := s₁.setTop (mkF m 41 #[iv ps, .val (.long pb), .second, iv 3, iv (pb.toInt32), .val (.long ((pb.toInt32).toInt64)), .second, .unset, .unset] [(.int 1), (.int 3)])) (fun t k => XS.iconst X0.here hx rfl (hb hby at_40) k) ?_
    refine Go.pull (V := s₁.setTop (mkF m 62 #[iv ps, .val (.long pb), .second, iv 3, iv (pb.toInt32), .val (.long ((pb.toInt32).toInt64)), .second, .unset, .unset] [])) (fun t k => XS.icmpYes X0.here hx rfl (pc0 := 41) (pc' := 62) rfl (hb hby at_41) rfl (XT.ii_ne_t (by decide)) (by decide) (by decide) k) ?_
    refine Go.pull (V := s₁.setTop (mkF m 63 #[iv ps, .val (.long pb), .second, iv 3, iv (pb.toInt32), .val (.long ((pb.toInt32).toInt64)), .second, .unset, .unset] [(.int 3)])) (fun t k => XS.iloadN X0.here hx rfl (hb hby at_62) rfl  k) ?_
    refine Go.pull (V := s₁.setTop (mkF m 64 #[iv ps, .val (.long pb), .second, iv 3, iv (pb.toInt32), .val (.long ((pb.toInt32).toInt64)), .second, .unset, .unset] [(.int 2), (.int 3)])) (fun t k => XS.iconst X0.here hx rfl (hb hby at_63) k) ?_
    refine Go.pull (V := s₁.setTop (mkF m 87 #[iv ps, .val (.long pb), .second, iv 3, iv (pb.toInt32), .val (.long ((pb.toInt32).toInt64)), .second, .unset, .unset] [])) (fun t k => XS.icmpYes X0.here hx rfl (pc0 := 64) (pc' := 87) rfl (hb hby at_64) rfl (XT.ii_ne_t (by decide)) (by decide) (by decide) k) ?_
    refine Go.pull (V := s₁.setTop (mkF m 88 #[iv ps, .val (.long pb), .second, iv 3, iv (pb.toInt32), .val (.long ((pb.toInt32).toInt64)), .second, .unset, .unset] [(.int 3)])) (fun t k => XS.iloadN X0.here hx rfl (hb hby at_87) rfl  k) ?_
    refine Go.pull (V := s₁.setTop (mkF m 89 #[iv ps, .val (.long pb), .second, iv 3, iv (pb.toInt32), .val (.long ((pb.toInt32).toInt64)), .second, .unset, .unset] [(.int 3), (.int 3)])) (fun t k => XS.iconst X0.here hx rfl (hb hby at_88) k) ?_
    refine Go.pull (V := s₁.setTop (mkF m 92 #[iv ps, .val (.long pb), .second, iv 3, iv (pb.toInt32), .val (.long ((pb.toInt32).toInt64)), .second, .unset, .unset] [])) (fun t k => XS.icmpNo X0.here hx rfl (hb hby at_89) rfl (XT.ii_ne_f (by decide)) k) ?_
    refine Go.pull (V := s₁.setTop (mkF m 94 #[iv ps, .val (.long pb), .second, iv 3, iv (pb.toInt32), .val (.long ((pb.toInt32).toInt64)), .second, .unset, .unset] [(.int (pb.toInt32))])) (fun t k => XS.iload X0.here hx rfl (hb hby at_92) rfl  k) ?_
    by_cases hc94_8 : (pb.toInt32) < 0
    · skip
      refine Go.pull (V := s₁.setTop (mkF m 103 #[iv ps, .val (.long pb), .second, iv 3, iv (pb.toInt32), .val (.long ((pb.toInt32).toInt64)), .second, .unset, .unset] [])) (fun t k => XS.ifYes X0.here hx rfl (pc0 := 94) (pc' := 103) rfl (hb hby at_94) rfl (XT.i0_lt_t hc94_8) (by decide) (by decide) k) ?_
      refine Go.pull (V := s₁.setTop (mkF m 105 #[iv ps, .val (.long pb), .second, iv 3, iv (pb.toInt32), .val (.long ((pb.toInt32).toInt64)), .second, .unset, .unset] [(.int (pb.toInt32))])) (fun t k => XS.iload X0.here hx rfl (hb hby at_103) rfl  k) ?_
      refine Go.pull (V := s₁.setTop (mkF m 106 #[iv ps, .val (.long pb), .second, iv 3, iv (pb.toInt32), .val (.long ((pb.toInt32).toInt64)), .second, .unset, .unset] [(.long ((pb.toInt32).toInt64))])) (fun t k => XS.i2l X0.here hx rfl (hb hby at_105) rfl k) ?_
      refine Go.pull (V := s₁.setTop (mkF m 109 #[iv ps, .val (.long pb), .second, iv 3, iv (pb.toInt32), .val (.long ((pb.toInt32).toInt64)), .second, .unset, .unset] [(.long 4294967296), (.long ((pb.toInt32).toInt64))])) (fun t k => X0.ldc2Long hx hown (mvT hZ (hw _ (List.mem_of_getElem? (i := 27) rfl))) (g := (mkF m 106 #[iv ps, .val (.long pb), .second, iv 3, iv (pb.toInt32), .val (.long ((pb.toInt32).toInt64)), .second, .unset, .unset] [(.long ((pb.toInt32).toInt64))])) rfl (hb hby at_106) _ k) ?_
      refine Go.pull (V := s₁.setTop (mkF m 110 #[iv ps, .val (.long pb), .second, iv 3, iv (pb.toInt32), .val (.long ((pb.toInt32).toInt64)), .second, .unset, .unset] [(.long (((pb.toInt32).toInt64) + (4294967296 : Int64)))])) (fun t k => XS.ladd X0.here hx rfl (hb hby at_109) rfl k) ?_
      refine Go.pull (V := s₁.setTop (mkF m 112 #[iv ps, .val (.long pb), .second, iv 3, iv (pb.toInt32), .val (.long ((pb.toInt32).toInt64)), .second, .val (.long (((pb.toInt32).toInt64) + (4294967296 : Int64))), .second] [])) (fun t k => XS.lstore X0.here hx rfl (hb hby at_110) rfl (l' := #[iv ps, .val (.long pb), .second, iv 3, iv (pb.toInt32), .val (.long ((pb.toInt32).toInt64)), .second, .val (.long (((pb.toInt32).toInt64) + (4294967296 : Int64))), .second]) rfl k) ?_
      obtain ⟨T9, X9, e9, st9⟩ := getS2 X0 hx hZ hown (host := "") (Or.inl (hw _ (List.mem_of_getElem? (i := 22) rfl))) Via.refl e0 S_r_ScalarType_UINT32 (g := (mkF m 112 #[iv ps, .val (.long pb), .second, iv 3, iv (pb.toInt32), .val (.long ((pb.toInt32).toInt64)), .second, .val (.long (((pb.toInt32).toInt64) + (4294967296 : Int64))), .second] [])) rfl (hb hby at_112)
      refine Go.pull (V := T9.setTop (mkF m 115 #[iv ps, .val (.long pb), .second, iv 3, iv (pb.toInt32), .val (.long ((pb.toInt32).toInt64)), .second, .val (.long (((pb.toInt32).toInt64) + (4294967296 : Int64))), .second] [(.ref r_ScalarType_UINT32)])) st9 ?_
      refine Go.pull (V := T9.setTop (mkF m 117 #[iv ps, .val (.long pb), .second, iv 3, iv (pb.toInt32), .val (.long ((pb.toInt32).toInt64)), .second, .val (.long (((pb.toInt32).toInt64) + (4294967296 : Int64))), .second] [(.long ((pb.toInt32).toInt64)), (.ref r_ScalarType_UINT32)])) (fun t k => XS.lload X9.here hx rfl (hb hby at_115) rfl  k) ?_
      obtain ⟨cq10, kq10, q10a, q10b, q10c⟩ := isOf hZ e9 E_r_ScalarType_UINT32
      obtain ⟨_, _, ⟨T10, L10, k10, n10⟩, -, X10, ⟨Lc10, hQ10, l10, y10, z10⟩, st10⟩ := X9.virtualBack hx (y := (⟨"com/example/tagwire/tagwire/ScalarType", "toVarint", "(J)J"⟩ : MethodName)) (z := (⟨"com/example/tagwire/tagwire/ScalarType", "toVarint", "(J)J"⟩ : MethodName)) hown (mvT hZ (hw _ (List.mem_of_getElem? (i := 4) rfl))) (mvT hZ (hw _ (List.mem_of_getElem? (i := 5) rfl))) (notFace_of_selects (args := #[]) (mvT hZ (hw _ (List.mem_of_getElem? (i := 7) rfl)))) (mvT hZ (hw _ (List.mem_of_getElem? (i := 7) rfl))) (mvT hZ (hw _ (List.mem_of_getElem? (i := 6) rfl))) (by decide) (backOf (W := 0) (rmA l Z a0 hw [] r_ScalarType_UINT32 ((pb.toInt32).toInt64) (0 : Int32) (4294967295 : Int64) h0 n0 F_r_ScalarType_UINT32_zigzag F_r_ScalarType_UINT32_varintMask) hZ (hw _ (List.mem_of_getElem? (i := 8) rfl)) (hw _ (List.mem_of_getElem? (i := 2) rfl)) (by decide) (by decide)) q10a q10c (g := (mkF m 117 #[iv ps, .val (.long pb), .second, iv 3, iv (pb.toInt32), .val (.long ((pb.toInt32).toInt64)), .second, .val (.long (((pb.toInt32).toInt64) + (4294967296 : Int64))), .second] [(.long ((pb.toInt32).toInt64)), (.ref r_ScalarType_UINT32)])) rfl (by rw [hml]; rfl) (Steps.refl _) (argsL := [(.long ((pb.toInt32).toInt64))]) (rest := []) (lenOf pd_0 rfl) rfl (by show 2 * 0 + _ ≤ _; exact Nat.le_of_eq rfl) (hb hby at_117) (fun _ _ => ⟨rfl, e9, (by decide : 0 + 0 ≤ _), (by decide : 0 + 0 ≤ _)⟩)
      dsimp only [Pt.U, Pt.locs, Pt.cells, Pt.slots] at X10 l10 y10 z10 st10 hQ10
      subst l10 y10 z10
      obtain ⟨rfl, N10q, e10⟩ := hQ10
      have N10 := Fr.app N0 N10q
      refine Go.pull (V := T10.setTop (mkF m 120 #[iv ps, .val (.long pb), .second, iv 3, iv (pb.toInt32), .val (.long ((pb.toInt32).toInt64)), .second, .val (.long (((pb.toInt32).toInt64) + (4294967296 : Int64))), .second] [(.long (own_tov (0 : Int32) (4294967295 : Int64) ((pb.toInt32).toInt64)))])) (fun _ k => st10.trans k) ?_
      refine Go.pull (V := T10.setTop (mkF m 122 #[iv ps, .val (.long pb), .second, iv 3, iv (pb.toInt32), .val (.long ((pb.toInt32).toInt64)), .second, .val (.long (((pb.toInt32).toInt64) + (4294967296 : Int64))), .second] [(.long (((pb.toInt32).toInt64) + (4294967296 : Int64))), (.long (own_tov (0 : Int32) (4294967295 : Int64) ((pb.toInt32).toInt64)))])) (fun t k => XS.lload X10.here hx rfl (hb hby at_120) rfl  k) ?_
      refine Go.pull (V := T10.setTop (mkF m 123 #[iv ps, .val (.long pb), .second, iv 3, iv (pb.toInt32), .val (.long ((pb.toInt32).toInt64)), .second, .val (.long (((pb.toInt32).toInt64) + (4294967296 : Int64))), .second] [(.int (XT.cmpL (own_tov (0 : Int32) (4294967295 : Int64) ((pb.toInt32).toInt64)) (((pb.toInt32).toInt64) + (4294967296 : Int64))))])) (fun t k => XT.lcmp X10.here hx rfl (hb hby at_122) rfl k) ?_
      refine Go.pull (V := T10.setTop (mkF m 126 #[iv ps, .val (.long pb), .second, iv 3, iv (pb.toInt32), .val (.long ((pb.toInt32).toInt64)), .second, .val (.long (((pb.toInt32).toInt64) + (4294967296 : Int64))), .second] [])) (fun t k => XS.ifNo X10.here hx rfl (hb hby at_123) rfl (XT.ll_ne_f (own_t3n hc94_8)) k) ?_
      refine Go.pull (V := T10.setTop (mkF m 127 #[iv ps, .val (.long pb), .second, iv 3, iv (pb.toInt32), .val (.long ((pb.toInt32).toInt64)), .second, .val (.long (((pb.toInt32).toInt64) + (4294967296 : Int64))), .second] [(.int 1)])) (fun t k => XS.iconst X10.here hx rfl (hb hby at_126) k) ?_
      refine Go.pull (V := T10.setTop (mkF m 131 #[iv ps, .val (.long pb), .second, iv 3, iv (pb.toInt32), .val (.long ((pb.toInt32).toInt64)), .second, .val (.long (((pb.toInt32).toInt64) + (4294967296 : Int64))), .second] [(.int 1)])) (fun t k => XS.goto X10.here hx rfl (pc0 := 127) (pc' := 131) rfl (hb hby at_127) (by decide) (by decide) k) ?_
      exact Go.retN X10 hx Bd.notSynchronized (t := .boolean) Bd.returns (by simp) (hb hby at_131) ⟨rfl, N10⟩ (by decide) (by decide)
    · skip
      refine Go.pull (V := s₁.setTop (mkF m 97 #[iv ps, .val (.long pb), .second, iv 3, iv (pb.toInt32), .val (.long ((pb.toInt32).toInt64)), .second, .unset, .unset] [])) (fun t k => XS.ifNo X0.here hx rfl (hb hby at_94) rfl (XT.i0_lt_f hc94_8) k) ?_
      refine Go.pull (V := s₁.setTop (mkF m 99 #[iv ps, .val (.long pb), .second, iv 3, iv (pb.toInt32), .val (.long ((pb.toInt32).toInt64)), .second, .unset, .unset] [(.int (pb.toInt32))])) (fun t k => XS.iload X0.here hx rfl (hb hby at_97) rfl  k) ?_
      refine Go.pull (V := s₁.setTop (mkF m 100 #[iv ps, .val (.long pb), .second, iv 3, iv (pb.toInt32), .val (.long ((pb.toInt32).toInt64)), .second, .unset, .unset] [(.long ((pb.toInt32).toInt64))])) (fun t k => XS.i2l X0.here hx rfl (hb hby at_99) rfl k) ?_
      refine Go.pull (V := s₁.setTop (mkF m 110 #[iv ps, .val (.long pb), .second, iv 3, iv (pb.toInt32), .val (.long ((pb.toInt32).toInt64)), .second, .unset, .unset] [(.long ((pb.toInt32).toInt64))])) (fun t k => XS.goto X0.here hx rfl (pc0 := 100) (pc' := 110) rfl (hb hby at_100) (by decide) (by decide) k) ?_
      refine Go.pull (V := s₁.setTop (mkF m 112 #[iv ps, .val (.long pb), .second, iv 3, iv (pb.toInt32), .val (.long ((pb.toInt32).toInt64)), .second, .val (.long ((pb.toInt32).toInt64)), .second] [])) (fun t k => XS.lstore X0.here hx rfl (hb hby at_110) rfl (l' := #[iv ps, .val (.long pb), .second, iv 3, iv (pb.toInt32), .val (.long ((pb.toInt32).toInt64)), .second, .val (.long ((pb.toInt32).toInt64)), .second]) rfl k) ?_
      obtain ⟨T11, X11, e11, st11⟩ := getS2 X0 hx hZ hown (host := "") (Or.inl (hw _ (List.mem_of_getElem? (i := 22) rfl))) Via.refl e0 S_r_ScalarType_UINT32 (g := (mkF m 112 #[iv ps, .val (.long pb), .second, iv 3, iv (pb.toInt32), .val (.long ((pb.toInt32).toInt64)), .second, .val (.long ((pb.toInt32).toInt64)), .second] [])) rfl (hb hby at_112)
      refine Go.pull (V := T11.setTop (mkF m 115 #[iv ps, .val (.long pb), .second, iv 3, iv (pb.toInt32), .val (.long ((pb.toInt32).toInt64)), .second, .val (.long ((pb.toInt32).toInt64)), .second] [(.ref r_ScalarType_UINT32)])) st11 ?_
      refine Go.pull (V := T11.setTop (mkF m 117 #[iv ps, .val (.long pb), .second, iv 3, iv (pb.toInt32), .val (.long ((pb.toInt32).toInt64)), .second, .val (.long ((pb.toInt32).toInt64)), .second] [(.long ((pb.toInt32).toInt64)), (.ref r_ScalarType_UINT32)])) (fun t k => XS.lload X11.here hx rfl (hb hby at_115) rfl  k) ?_
      obtain ⟨cq12, kq12, q12a, q12b, q12c⟩ := isOf hZ e11 E_r_ScalarType_UINT32
      obtain ⟨_, _, ⟨T12, L12, k12, n12⟩, -, X12, ⟨Lc12, hQ12, l12, y12, z12⟩, st12⟩ := X11.virtualBack hx (y := (⟨"com/example/tagwire/tagwire/ScalarType", "toVarint", "(J)J"⟩ : MethodName)) (z := (⟨"com/example/tagwire/tagwire/ScalarType", "toVarint", "(J)J"⟩ : MethodName)) hown (mvT hZ (hw _ (List.mem_of_getElem? (i := 4) rfl))) (mvT hZ (hw _ (List.mem_of_getElem? (i := 5) rfl))) (notFace_of_selects (args := #[]) (mvT hZ (hw _ (List.mem_of_getElem? (i := 7) rfl)))) (mvT hZ (hw _ (List.mem_of_getElem? (i := 7) rfl))) (mvT hZ (hw _ (List.mem_of_getElem? (i := 6) rfl))) (by decide) (backOf (W := 0) (rmA l Z a0 hw [] r_ScalarType_UINT32 ((pb.toInt32).toInt64) (0 : Int32) (4294967295 : Int64) h0 n0 F_r_ScalarType_UINT32_zigzag F_r_ScalarType_UINT32_varintMask) hZ (hw _ (List.mem_of_getElem? (i := 8) rfl)) (hw _ (List.mem_of_getElem? (i := 2) rfl)) (by decide) (by decide)) q12a q12c (g := (mkF m 117 #[iv ps, .val (.long pb), .second, iv 3, iv (pb.toInt32), .val (.long ((pb.toInt32).toInt64)), .second, .val (.long ((pb.toInt32).toInt64)), .second] [(.long ((pb.toInt32).toInt64)), (.ref r_ScalarType_UINT32)])) rfl (by rw [hml]; rfl) (Steps.refl _) (argsL := [(.long ((pb.toInt32).toInt64))]) (rest := []) (lenOf pd_0 rfl) rfl (by show 2 * 0 + _ ≤ _; exact Nat.le_of_eq rfl) (hb hby at_117) (fun _ _ => ⟨rfl, e11, (by decide : 0 + 0 ≤ _), (by decide : 0 + 0 ≤ _)⟩)
      dsimp only [Pt.U, Pt.locs, Pt.cells, Pt.slots] at X12 l12 y12 z12 st12 hQ12
      subst l12 y12 z12
      obtain ⟨rfl, N12q, e12⟩ := hQ12
      have N12 := Fr.app N0 N12q
      refine Go.pull (V := T12.setTop (mkF m 120 #[iv ps, .val (.long pb), .second, iv 3, iv (pb.toInt32), .val (.long ((pb.toInt32).toInt64)), .second, .val (.long ((pb.toInt32).toInt64)), .second] [(.long (own_tov (0 : Int32) (4294967295 : Int64) ((pb.toInt32).toInt64)))])) (fun _ k => st12.trans k) ?_
      refine Go.pull (V := T12.setTop (mkF m 122 #[iv ps, .val (.long pb), .second, iv 3, iv (pb.toInt32), .val (.long ((pb.toInt32).toInt64)), .second, .val (.long ((pb.toInt32).toInt64)), .second] [(.long ((pb.toInt32).toInt64)), (.long (own_tov (0 : Int32) (4294967295 : Int64) ((pb.toInt32).toInt64)))])) (fun t k => XS.lload X12.here hx rfl (hb hby at_120) rfl  k) ?_
      refine Go.pull (V := T12.setTop (mkF m 123 #[iv ps, .val (.long pb), .second, iv 3, iv (pb.toInt32), .val (.long ((pb.toInt32).toInt64)), .second, .val (.long ((pb.toInt32).toInt64)), .second] [(.int (XT.cmpL (own_tov (0 : Int32) (4294967295 : Int64) ((pb.toInt32).toInt64)) ((pb.toInt32).toInt64)))])) (fun t k => XT.lcmp X12.here hx rfl (hb hby at_122) rfl k) ?_
      refine Go.pull (V := T12.setTop (mkF m 126 #[iv ps, .val (.long pb), .second, iv 3, iv (pb.toInt32), .val (.long ((pb.toInt32).toInt64)), .second, .val (.long ((pb.toInt32).toInt64)), .second] [])) (fun t k => XS.ifNo X12.here hx rfl (hb hby at_123) rfl (XT.ll_ne_f (own_t3p hc94_8)) k) ?_
      refine Go.pull (V := T12.setTop (mkF m 127 #[iv ps, .val (.long pb), .second, iv 3, iv (pb.toInt32), .val (.long ((pb.toInt32).toInt64)), .second, .val (.long ((pb.toInt32).toInt64)), .second] [(.int 1)])) (fun t k => XS.iconst X12.here hx rfl (hb hby at_126) k) ?_
      refine Go.pull (V := T12.setTop (mkF m 131 #[iv ps, .val (.long pb), .second, iv 3, iv (pb.toInt32), .val (.long ((pb.toInt32).toInt64)), .second, .val (.long ((pb.toInt32).toInt64)), .second] [(.int 1)])) (fun t k => XS.goto X12.here hx rfl (pc0 := 127) (pc' := 131) rfl (hb hby at_127) (by decide) (by decide) k) ?_
      exact Go.retN X12 hx Bd.notSynchronized (t := .boolean) Bd.returns (by simp) (hb hby at_131) ⟨rfl, N12⟩ (by decide) (by decide)
  · subst hv1
    refine Go.pull (V := s₁.setTop (mkF m 9 #[iv ps, .val (.long pb), .second, iv 4, .unset, .unset, .unset, .unset, .unset] [(.long pb)])) (fun t k => XS.lloadN X0.here hx rfl (hb hby at_8) rfl  k) ?_
    refine Go.pull (V := s₁.setTop (mkF m 10 #[iv ps, .val (.long pb), .second, iv 4, .unset, .unset, .unset, .unset, .unset] [(.int (pb.toInt32))])) (fun t k => XS.l2i X0.here hx rfl (hb hby at_9) rfl k) ?_
    refine Go.pull (V := s₁.setTop (mkF m 12 #[iv ps, .val (.long pb), .second, iv 4, iv (pb.toInt32), .unset, .unset, .unset, .unset] [])) (fun t k => XS.istore X0.here hx rfl (hb hby at_10) rfl (l' := #[iv ps, .val (.long pb), .second, iv 4, iv (pb.toInt32), .unset, .unset, .unset, .unset]) rfl k) ?_
    refine Go.pull (V := s₁.setTop (mkF m 14 #[iv ps, .val (.long pb), .second, iv 4, iv (pb.toInt32), .unset, .unset, .unset, .unset] [(.int (pb.toInt32))])) (fun t k => XS.iload X0.here hx rfl (hb hby at_12) rfl  k) ?_
    refine Go.pull (V := s₁.setTop (mkF m 15 #[iv ps, .val (.long pb), .second, iv 4, iv (pb.toInt32), .unset, .unset, .unset, .unset] [(.long ((pb.toInt32).toInt64))])) (fun t k => XS.i2l X0.here hx rfl (hb hby at_14) rfl k) ?_
    refine Go.pull (V := s₁.setTop (mkF m 17 #[iv ps, .val (.long pb), .second, iv 4, iv (pb.toInt32), .val (.long ((pb.toInt32).toInt64)), .second, .unset, .unset] [])) (fun t k => XS.lstore X0.here hx rfl (hb hby at_15) rfl (l' := #[iv ps, .val (.long pb), .second, iv 4, iv (pb.toInt32), .val (.long ((pb.toInt32).toInt64)), .second, .unset, .unset]) rfl k) ?_
    refine Go.pull (V := s₁.setTop (mkF m 18 #[iv ps, .val (.long pb), .second, iv 4, iv (pb.toInt32), .val (.long ((pb.toInt32).toInt64)), .second, .unset, .unset] [(.int 4)])) (fun t k => XS.iloadN X0.here hx rfl (hb hby at_17) rfl  k) ?_
    refine Go.pull (V := s₁.setTop (mkF m 39 #[iv ps, .val (.long pb), .second, iv 4, iv (pb.toInt32), .val (.long ((pb.toInt32).toInt64)), .second, .unset, .unset] [])) (fun t k => XS.ifYes X0.here hx rfl (pc0 := 18) (pc' := 39) rfl (hb hby at_18) rfl (XT.i0_ne_t (by decide)) (by decide) (by decide) k) ?_
    refine Go.pull (V := s₁.setTop (mkF m 40 #[iv ps, .val (.long pb), .second, iv 4, iv (pb.toInt32), .val (.long ((pb.toInt32).toInt64)), .second, .unset, .unset] [(.int 4)])) (fun t k => XS.iloadN X0.here hx rfl (hb hby at_39) rfl  k) ?_
    refine Go.pull (V := s₁.setTop (mkF m 41 #[iv ps, .val (.long pb), .second, iv 4, iv (pb.toInt32), .val (.long ((pb.toInt32).toInt64)), .second, .unset, .unset] [(.int 1), (.int 4)])) (fun t k => XS.iconst X0.here hx rfl (hb hby at_40) k) ?_
    refine Go.pull (V := s₁.setTop (mkF m 62 #[iv ps, .val (.long pb), .second, iv 4, iv (pb.toInt32), .val (.long ((pb.toInt32).toInt64)), .second, .unset, .unset] [])) (fun t k => XS.icmpYes X0.here hx rfl (pc0 := 41) (pc' := 62) rfl (hb hby at_41) rfl (XT.ii_ne_t (by decide)) (by decide) (by decide) k) ?_
    refine Go.pull (V := s₁.setTop (mkF m 63 #[iv ps, .val (.long pb), .second, iv 4, iv (pb.toInt32), .val (.long ((pb.toInt32).toInt64)), .second, .unset, .unset] [(.int 4)])) (fun t k => XS.iloadN X0.here hx rfl (hb hby at_62) rfl  k) ?_
    refine Go.pull (V := s₁.setTop (mkF m 64 #[iv ps, .val (.long pb), .second, iv 4, iv (pb.toInt32), .val (.long ((pb.toInt32).toInt64)), .second, .unset, .unset] [(.int 2), (.int 4)])) (fun t k => XS.iconst X0.here hx rfl (hb hby at_63) k) ?_
    refine Go.pull (V := s₁.setTop (mkF m 87 #[iv ps, .val (.long pb), .second, iv 4, iv (pb.toInt32), .val (.long ((pb.toInt32).toInt64)), .second, .unset, .unset] [])) (fun t k => XS.icmpYes X0.here hx rfl (pc0 := 64) (pc' := 87) rfl (hb hby at_64) rfl (XT.ii_ne_t (by decide)) (by decide) (by decide) k) ?_
    refine Go.pull (V := s₁.setTop (mkF m 88 #[iv ps, .val (.long pb), .second, iv 4, iv (pb.toInt32), .val (.long ((pb.toInt32).toInt64)), .second, .unset, .unset] [(.int 4)])) (fun t k => XS.iloadN X0.here hx rfl (hb hby at_87) rfl  k) ?_
    refine Go.pull (V := s₁.setTop (mkF m 89 #[iv ps, .val (.long pb), .second, iv 4, iv (pb.toInt32), .val (.long ((pb.toInt32).toInt64)), .second, .unset, .unset] [(.int 3), (.int 4)])) (fun t k => XS.iconst X0.here hx rfl (hb hby at_88) k) ?_
    refine Go.pull (V := s₁.setTop (mkF m 132 #[iv ps, .val (.long pb), .second, iv 4, iv (pb.toInt32), .val (.long ((pb.toInt32).toInt64)), .second, .unset, .unset] [])) (fun t k => XS.icmpYes X0.here hx rfl (pc0 := 89) (pc' := 132) rfl (hb hby at_89) rfl (XT.ii_ne_t (by decide)) (by decide) (by decide) k) ?_
    refine Go.pull (V := s₁.setTop (mkF m 133 #[iv ps, .val (.long pb), .second, iv 4, iv (pb.toInt32), .val (.long ((pb.toInt32).toInt64)), .second, .unset, .unset] [(.int 4)])) (fun t k => XS.iloadN X0.here hx rfl (hb hby at_132) rfl  k) ?_
    refine Go.pull (V := s₁.setTop (mkF m 134 #[iv ps, .val (.long pb), .second, iv 4, iv (pb.toInt32), .val (.long ((pb.toInt32).toInt64)), .second, .unset, .unset] [(.int 4), (.int 4)])) (fun t k => XS.iconst X0.here hx rfl (hb hby at_133) k) ?_
    refine Go.pull (V := s₁.setTop (mkF m 137 #[iv ps, .val (.long pb), .second, iv 4, iv (pb.toInt32), .val (.long ((pb.toInt32).toInt64)), .second, .unset, .unset] [])) (fun t k => XS.icmpNo X0.here hx rfl (hb hby at_134) rfl (XT.ii_ne_f (by decide)) k) ?_
    refine Go.pull (V := s₁.setTop (mkF m 139 #[iv ps, .val (.long pb), .second, iv 4, iv (pb.toInt32), .val (.long ((pb.toInt32).toInt64)), .second, .unset, .unset] [(.int (pb.toInt32))])) (fun t k => XS.iload X0.here hx rfl (hb hby at_137) rfl  k) ?_
    by_cases hc139_13 : (pb.toInt32) < 0
    · skip
      refine Go.pull (V := s₁.setTop (mkF m 152 #[iv ps, .val (.long pb), .second, iv 4, iv (pb.toInt32), .val (.long ((pb.toInt32).toInt64)), .second, .unset, .unset] [])) (fun t k => XS.ifYes X0.here hx rfl (pc0 := 139) (pc' := 152) rfl (hb hby at_139) rfl (XT.i0_lt_t hc139_13) (by decide) (by decide) k) ?_
      refine Go.pull (V := s₁.setTop (mkF m 155 #[iv ps, .val (.long pb), .second, iv 4, iv (pb.toInt32), .val (.long ((pb.toInt32).toInt64)), .second, .unset, .unset] [(.long (-2))])) (fun t k => X0.ldc2Long hx hown (mvT hZ (hw _ (List.mem_of_getElem? (i := 24) rfl))) (g := (mkF m 152 #[iv ps, .val (.long pb), .second, iv 4, iv (pb.toInt32), .val (.long ((pb.toInt32).toInt64)), .second, .unset, .unset] [])) rfl (hb hby at_152) _ k) ?_
      refine Go.pull (V := s₁.setTop (mkF m 157 #[iv ps, .val (.long pb), .second, iv 4, iv (pb.toInt32), .val (.long ((pb.toInt32).toInt64)), .second, .unset, .unset] [(.int (pb.toInt32)), (.long (-2))])) (fun t k => XS.iload X0.here hx rfl (hb hby at_155) rfl  k) ?_
      refine Go.pull (V := s₁.setTop (mkF m 158 #[iv ps, .val (.long pb), .second, iv 4, iv (pb.toInt32), .val (.long ((pb.toInt32).toInt64)), .second, .unset, .unset] [(.long ((pb.toInt32).toInt64)), (.long (-2))])) (fun t k => XS.i2l X0.here hx rfl (hb hby at_157) rfl k) ?_
      refine Go.pull (V := s₁.setTop (mkF m 159 #[iv ps, .val (.long pb), .second, iv 4, iv (pb.toInt32), .val (.long ((pb.toInt32).toInt64)), .second, .unset, .unset] [(.long ((-2 : Int64) * ((pb.toInt32).toInt64)))])) (fun t k => XS.lmul X0.here hx rfl (hb hby at_158) rfl k) ?_
      refine Go.pull (V := s₁.setTop (mkF m 160 #[iv ps, .val (.long pb), .second, iv 4, iv (pb.toInt32), .val (.long ((pb.toInt32).toInt64)), .second, .unset, .unset] [(.long 1), (.long ((-2 : Int64) * ((pb.toInt32).toInt64)))])) (fun t k => XS.lconst X0.here hx rfl (hb hby at_159) k) ?_
      refine Go.pull (V := s₁.setTop (mkF m 161 #[iv ps, .val (.long pb), .second, iv 4, iv (pb.toInt32), .val (.long ((pb.toInt32).toInt64)), .second, .unset, .unset] [(.long (((-2 : Int64) * ((pb.toInt32).toInt64)) - (1 : Int64)))])) (fun t k => XS.lsub X0.here hx rfl (hb hby at_160) rfl k) ?_
      refine Go.pull (V := s₁.setTop (mkF m 163 #[iv ps, .val (.long pb), .second, iv 4, iv (pb.toInt32), .val (.long ((pb.toInt32).toInt64)), .second, .val (.long (((-2 : Int64) * ((pb.toInt32).toInt64)) - (1 : Int64))), .second] [])) (fun t k => XS.lstore X0.here hx rfl (hb hby at_161) rfl (l' := #[iv ps, .val (.long pb), .second, iv 4, iv (pb.toInt32), .val (.long ((pb.toInt32).toInt64)), .second, .val (.long (((-2 : Int64) * ((pb.toInt32).toInt64)) - (1 : Int64))), .second]) rfl k) ?_
      obtain ⟨T14, X14, e14, st14⟩ := getS2 X0 hx hZ hown (host := "") (Or.inl (hw _ (List.mem_of_getElem? (i := 16) rfl))) Via.refl e0 S_r_ScalarType_SINT32 (g := (mkF m 163 #[iv ps, .val (.long pb), .second, iv 4, iv (pb.toInt32), .val (.long ((pb.toInt32).toInt64)), .second, .val (.long (((-2 : Int64) * ((pb.toInt32).toInt64)) - (1 : Int64))), .second] [])) rfl (hb hby at_163)
      refine Go.pull (V := T14.setTop (mkF m 166 #[iv ps, .val (.long pb), .second, iv 4, iv (pb.toInt32), .val (.long ((pb.toInt32).toInt64)), .second, .val (.long (((-2 : Int64) * ((pb.toInt32).toInt64)) - (1 : Int64))), .second] [(.ref r_ScalarType_SINT32)])) st14 ?_
      refine Go.pull (V := T14.setTop (mkF m 168 #[iv ps, .val (.long pb), .second, iv 4, iv (pb.toInt32), .val (.long ((pb.toInt32).toInt64)), .second, .val (.long (((-2 : Int64) * ((pb.toInt32).toInt64)) - (1 : Int64))), .second] [(.long ((pb.toInt32).toInt64)), (.ref r_ScalarType_SINT32)])) (fun t k => XS.lload X14.here hx rfl (hb hby at_166) rfl  k) ?_
      obtain ⟨cq15, kq15, q15a, q15b, q15c⟩ := isOf hZ e14 E_r_ScalarType_SINT32
      obtain ⟨_, _, ⟨T15, L15, k15, n15⟩, -, X15, ⟨Lc15, hQ15, l15, y15, z15⟩, st15⟩ := X14.virtualBack hx (y := (⟨"com/example/tagwire/tagwire/ScalarType", "toVarint", "(J)J"⟩ : MethodName)) (z := (⟨"com/example/tagwire/tagwire/ScalarType", "toVarint", "(J)J"⟩ : MethodName)) hown (mvT hZ (hw _ (List.mem_of_getElem? (i := 4) rfl))) (mvT hZ (hw _ (List.mem_of_getElem? (i := 5) rfl))) (notFace_of_selects (args := #[]) (mvT hZ (hw _ (List.mem_of_getElem? (i := 7) rfl)))) (mvT hZ (hw _ (List.mem_of_getElem? (i := 7) rfl))) (mvT hZ (hw _ (List.mem_of_getElem? (i := 6) rfl))) (by decide) (backOf (W := 0) (rmA l Z a0 hw [] r_ScalarType_SINT32 ((pb.toInt32).toInt64) (1 : Int32) (4294967295 : Int64) h0 n0 F_r_ScalarType_SINT32_zigzag F_r_ScalarType_SINT32_varintMask) hZ (hw _ (List.mem_of_getElem? (i := 8) rfl)) (hw _ (List.mem_of_getElem? (i := 2) rfl)) (by decide) (by decide)) q15a q15c (g := (mkF m 168 #[iv ps, .val (.long pb), .second, iv 4, iv (pb.toInt32), .val (.long ((pb.toInt32).toInt64)), .second, .val (.long (((-2 : Int64) * ((pb.toInt32).toInt64)) - (1 : Int64))), .second] [(.long ((pb.toInt32).toInt64)), (.ref r_ScalarType_SINT32)])) rfl (by rw [hml]; rfl) (Steps.refl _) (argsL := [(.long ((pb.toInt32).toInt64))]) (rest := []) (lenOf pd_0 rfl) rfl (by show 2 * 0 + _ ≤ _; exact Nat.le_of_eq rfl) (hb hby at_168) (fun _ _ => ⟨rfl, e14, (by decide : 0 + 0 ≤ _), (by decide : 0 + 0 ≤ _)⟩)
      dsimp only [Pt.U, Pt.locs, Pt.cells, Pt.slots] at X15 l15 y15 z15 st15 hQ15
      subst l15 y15 z15
      obtain ⟨rfl, N15q, e15⟩ := hQ15
      have N15 := Fr.app N0 N15q
      refine Go.pull (V := T15.setTop (mkF m 171 #[iv ps, .val (.long pb), .second, iv 4, iv (pb.toInt32), .val (.long ((pb.toInt32).toInt64)), .second, .val (.long (((-2 : Int64) * ((pb.toInt32).toInt64)) - (1 : Int64))), .second] [(.long (own_tov (1 : Int32) (4294967295 : Int64) ((pb.toInt32).toInt64)))])) (fun _ k => st15.trans k) ?_
      refine Go.pull (V := T15.setTop (mkF m 173 #[iv ps, .val (.long pb), .second, iv 4, iv (pb.toInt32), .val (.long ((pb.toInt32).toInt64)), .second, .val (.long (((-2 : Int64) * ((pb.toInt32).toInt64)) - (1 : Int64))), .second] [(.long (((-2 : Int64) * ((pb.toInt32).toInt64)) - (1 : Int64))), (.long (own_tov (1 : Int32) (4294967295 : Int64) ((pb.toInt32).toInt64)))])) (fun t k => XS.lload X15.here hx rfl (hb hby at_171) rfl  k) ?_
      refine Go.pull (V := T15.setTop (mkF m 174 #[iv ps, .val (.long pb), .second, iv 4, iv (pb.toInt32), .val (.long ((pb.toInt32).toInt64)), .second, .val (.long (((-2 : Int64) * ((pb.toInt32).toInt64)) - (1 : Int64))), .second] [(.int (XT.cmpL (own_tov (1 : Int32) (4294967295 : Int64) ((pb.toInt32).toInt64)) (((-2 : Int64) * ((pb.toInt32).toInt64)) - (1 : Int64))))])) (fun t k => XT.lcmp X15.here hx rfl (hb hby at_173) rfl k) ?_
      refine Go.pull (V := T15.setTop (mkF m 177 #[iv ps, .val (.long pb), .second, iv 4, iv (pb.toInt32), .val (.long ((pb.toInt32).toInt64)), .second, .val (.long (((-2 : Int64) * ((pb.toInt32).toInt64)) - (1 : Int64))), .second] [])) (fun t k => XS.ifNo X15.here hx rfl (hb hby at_174) rfl (XT.ll_ne_f (own_t4n hc139_13)) k) ?_
      refine Go.pull (V := T15.setTop (mkF m 178 #[iv ps, .val (.long pb), .second, iv 4, iv (pb.toInt32), .val (.long ((pb.toInt32).toInt64)), .second, .val (.long (((-2 : Int64) * ((pb.toInt32).toInt64)) - (1 : Int64))), .second] [(.int 1)])) (fun t k => XS.iconst X15.here hx rfl (hb hby at_177) k) ?_
      refine Go.pull (V := T15.setTop (mkF m 182 #[iv ps, .val (.long pb), .second, iv 4, iv (pb.toInt32), .val (.long ((pb.toInt32).toInt64)), .second, .val (.long (((-2 : Int64) * ((pb.toInt32).toInt64)) - (1 : Int64))), .second] [(.int 1)])) (fun t k => XS.goto X15.here hx rfl (pc0 := 178) (pc' := 182) rfl (hb hby at_178) (by decide) (by decide) k) ?_
      exact Go.retN X15 hx Bd.notSynchronized (t := .boolean) Bd.returns (by simp) (hb hby at_182) ⟨rfl, N15⟩ (by decide) (by decide)
    · skip
      refine Go.pull (V := s₁.setTop (mkF m 142 #[iv ps, .val (.long pb), .second, iv 4, iv (pb.toInt32), .val (.long ((pb.toInt32).toInt64)), .second, .unset, .unset] [])) (fun t k => XS.ifNo X0.here hx rfl (hb hby at_139) rfl (XT.i0_lt_f hc139_13) k) ?_
      refine Go.pull (V := s₁.setTop (mkF m 145 #[iv ps, .val (.long pb), .second, iv 4, iv (pb.toInt32), .val (.long ((pb.toInt32).toInt64)), .second, .unset, .unset] [(.long 2)])) (fun t k => X0.ldc2Long hx hown (mvT hZ (hw _ (List.mem_of_getElem? (i := 15) rfl))) (g := (mkF m 142 #[iv ps, .val (.long pb), .second, iv 4, iv (pb.toInt32), .val (.long ((pb.toInt32).toInt64)), .second, .unset, .unset] [])) rfl (hb hby at_142) _ k) ?_
      refine Go.pull (V := s₁.setTop (mkF m 147 #[iv ps, .val (.long pb), .second, iv 4, iv (pb.toInt32), .val (.long ((pb.toInt32).toInt64)), .second, .unset, .unset] [(.int (pb.toInt32)), (.long 2)])) (fun t k => XS.iload X0.here hx rfl (hb hby at_145) rfl  k) ?_
      refine Go.pull (V := s₁.setTop (mkF m 148 #[iv ps, .val (.long pb), .second, iv 4, iv (pb.toInt32), .val (.long ((pb.toInt32).toInt64)), .second, .unset, .unset] [(.long ((pb.toInt32).toInt64)), (.long 2)])) (fun t k => XS.i2l X0.here hx rfl (hb hby at_147) rfl k) ?_
      refine Go.pull (V := s₁.setTop (mkF m 149 #[iv ps, .val (.long pb), .second, iv 4, iv (pb.toInt32), .val (.long ((pb.toInt32).toInt64)), .second, .unset, .unset] [(.long ((2 : Int64) * ((pb.toInt32).toInt64)))])) (fun t k => XS.lmul X0.here hx rfl (hb hby at_148) rfl k) ?_
      refine Go.pull (V := s₁.setTop (mkF m 161 #[iv ps, .val (.long pb), .second, iv 4, iv (pb.toInt32), .val (.long ((pb.toInt32).toInt64)), .second, .unset, .unset] [(.long ((2 : Int64) * ((pb.toInt32).toInt64)))])) (fun t k => XS.goto X0.here hx rfl (pc0 := 149) (pc' := 161) rfl (hb hby at_149) (by decide) (by decide) k) ?_
      refine Go.pull (V := s₁.setTop (mkF m 163 #[iv ps, .val (.long pb), .second, iv 4, iv (pb.toInt32), .val (.long ((pb.toInt32).toInt64)), .second, .val (.long ((2 : Int64) * ((pb.toInt32).toInt64))), .second] [])) (fun t k => XS.lstore X0.here hx rfl (hb hby at_161) rfl (l' := #[iv ps, .val (.long pb), .second, iv 4, iv (pb.toInt32), .val (.long ((pb.toInt32).toInt64)), .second, .val (.long ((2 : Int64) * ((pb.toInt32).toInt64))), .second]) rfl k) ?_
      obtain ⟨T16, X16, e16, st16⟩ := getS2 X0 hx hZ hown (host := "") (Or.inl (hw _ (List.mem_of_getElem? (i := 16) rfl))) Via.refl e0 S_r_ScalarType_SINT32 (g := (mkF m 163 #[iv ps, .val (.long pb), .second, iv 4, iv (pb.toInt32), .val (.long ((pb.toInt32).toInt64)), .second, .val (.long ((2 : Int64) * ((pb.toInt32).toInt64))), .second] [])) rfl (hb hby at_163)
      refine Go.pull (V := T16.setTop (mkF m 166 #[iv ps, .val (.long pb), .second, iv 4, iv (pb.toInt32), .val (.long ((pb.toInt32).toInt64)), .second, .val (.long ((2 : Int64) * ((pb.toInt32).toInt64))), .second] [(.ref r_ScalarType_SINT32)])) st16 ?_
      refine Go.pull (V := T16.setTop (mkF m 168 #[iv ps, .val (.long pb), .second, iv 4, iv (pb.toInt32), .val (.long ((pb.toInt32).toInt64)), .second, .val (.long ((2 : Int64) * ((pb.toInt32).toInt64))), .second] [(.long ((pb.toInt32).toInt64)), (.ref r_ScalarType_SINT32)])) (fun t k => XS.lload X16.here hx rfl (hb hby at_166) rfl  k) ?_
      obtain ⟨cq17, kq17, q17a, q17b, q17c⟩ := isOf hZ e16 E_r_ScalarType_SINT32
      obtain ⟨_, _, ⟨T17, L17, k17, n17⟩, -, X17, ⟨Lc17, hQ17, l17, y17, z17⟩, st17⟩ := X16.virtualBack hx (y := (⟨"com/example/tagwire/tagwire/ScalarType", "toVarint", "(J)J"⟩ : MethodName)) (z := (⟨"com/example/tagwire/tagwire/ScalarType", "toVarint", "(J)J"⟩ : MethodName)) hown (mvT hZ (hw _ (List.mem_of_getElem? (i := 4) rfl))) (mvT hZ (hw _ (List.mem_of_getElem? (i := 5) rfl))) (notFace_of_selects (args := #[]) (mvT hZ (hw _ (List.mem_of_getElem? (i := 7) rfl)))) (mvT hZ (hw _ (List.mem_of_getElem? (i := 7) rfl))) (mvT hZ (hw _ (List.mem_of_getElem? (i := 6) rfl))) (by decide) (backOf (W := 0) (rmA l Z a0 hw [] r_ScalarType_SINT32 ((pb.toInt32).toInt64) (1 : Int32) (4294967295 : Int64) h0 n0 F_r_ScalarType_SINT32_zigzag F_r_ScalarType_SINT32_varintMask) hZ (hw _ (List.mem_of_getElem? (i := 8) rfl)) (hw _ (List.mem_of_getElem? (i := 2) rfl)) (by decide) (by decide)) q17a q17c (g := (mkF m 168 #[iv ps, .val (.long pb), .second, iv 4, iv (pb.toInt32), .val (.long ((pb.toInt32).toInt64)), .second, .val (.long ((2 : Int64) * ((pb.toInt32).toInt64))), .second] [(.long ((pb.toInt32).toInt64)), (.ref r_ScalarType_SINT32)])) rfl (by rw [hml]; rfl) (Steps.refl _) (argsL := [(.long ((pb.toInt32).toInt64))]) (rest := []) (lenOf pd_0 rfl) rfl (by show 2 * 0 + _ ≤ _; exact Nat.le_of_eq rfl) (hb hby at_168) (fun _ _ => ⟨rfl, e16, (by decide : 0 + 0 ≤ _), (by decide : 0 + 0 ≤ _)⟩)
      dsimp only [Pt.U, Pt.locs, Pt.cells, Pt.slots] at X17 l17 y17 z17 st17 hQ17
      subst l17 y17 z17
      obtain ⟨rfl, N17q, e17⟩ := hQ17
      have N17 := Fr.app N0 N17q
      refine Go.pull (V := T17.setTop (mkF m 171 #[iv ps, .val (.long pb), .second, iv 4, iv (pb.toInt32), .val (.long ((pb.toInt32).toInt64)), .second, .val (.long ((2 : Int64) * ((pb.toInt32).toInt64))), .second] [(.long (own_tov (1 : Int32) (4294967295 : Int64) ((pb.toInt32).toInt64)))])) (fun _ k => st17.trans k) ?_
      refine Go.pull (V := T17.setTop (mkF m 173 #[iv ps, .val (.long pb), .second, iv 4, iv (pb.toInt32), .val (.long ((pb.toInt32).toInt64)), .second, .val (.long ((2 : Int64) * ((pb.toInt32).toInt64))), .second] [(.long ((2 : Int64) * ((pb.toInt32).toInt64))), (.long (own_tov (1 : Int32) (4294967295 : Int64) ((pb.toInt32).toInt64)))])) (fun t k => XS.lload X17.here hx rfl (hb hby at_171) rfl  k) ?_
      refine Go.pull (V := T17.setTop (mkF m 174 #[iv ps, .val (.long pb), .second, iv 4, iv (pb.toInt32), .val (.long ((pb.toInt32).toInt64)), .second, .val (.long ((2 : Int64) * ((pb.toInt32).toInt64))), .second] [(.int (XT.cmpL (own_tov (1 : Int32) (4294967295 : Int64) ((pb.toInt32).toInt64)) ((2 : Int64) * ((pb.toInt32).toInt64))))])) (fun t k => XT.lcmp X17.here hx rfl (hb hby at_173) rfl k) ?_
      refine Go.pull (V := T17.setTop (mkF m 177 #[iv ps, .val (.long pb), .second, iv 4, iv (pb.toInt32), .val (.long ((pb.toInt32).toInt64)), .second, .val (.long ((2 : Int64) * ((pb.toInt32).toInt64))), .second] [])) (fun t k => XS.ifNo X17.here hx rfl (hb hby at_174) rfl (XT.ll_ne_f (own_t4p hc139_13)) k) ?_
      refine Go.pull (V := T17.setTop (mkF m 178 #[iv ps, .val (.long pb), .second, iv 4, iv (pb.toInt32), .val (.long ((pb.toInt32).toInt64)), .second, .val (.long ((2 : Int64) * ((pb.toInt32).toInt64))), .second] [(.int 1)])) (fun t k => XS.iconst X17.here hx rfl (hb hby at_177) k) ?_
      refine Go.pull (V := T17.setTop (mkF m 182 #[iv ps, .val (.long pb), .second, iv 4, iv (pb.toInt32), .val (.long ((pb.toInt32).toInt64)), .second, .val (.long ((2 : Int64) * ((pb.toInt32).toInt64))), .second] [(.int 1)])) (fun t k => XS.goto X17.here hx rfl (pc0 := 178) (pc' := 182) rfl (hb hby at_178) (by decide) (by decide) k) ?_
      exact Go.retN X17 hx Bd.notSynchronized (t := .boolean) Bd.returns (by simp) (hb hby at_182) ⟨rfl, N17⟩ (by decide) (by decide)
  · subst hv1
    refine Go.pull (V := s₁.setTop (mkF m 9 #[iv ps, .val (.long pb), .second, iv 5, .unset, .unset, .unset, .unset, .unset] [(.long pb)])) (fun t k => XS.lloadN X0.here hx rfl (hb hby at_8) rfl  k) ?_
    refine Go.pull (V := s₁.setTop (mkF m 10 #[iv ps, .val (.long pb), .second, iv 5, .unset, .unset, .unset, .unset, .unset] [(.int (pb.toInt32))])) (fun t k => XS.l2i X0.here hx rfl (hb hby at_9) rfl k) ?_
    refine Go.pull (V := s₁.setTop (mkF m 12 #[iv ps, .val (.long pb), .second, iv 5, iv (pb.toInt32), .unset, .unset, .unset, .unset] [])) (fun t k => XS.istore X0.here hx rfl (hb hby at_10) rfl (l' := #[iv ps, .val (.long pb), .second, iv 5, iv (pb.toInt32), .unset, .unset, .unset, .unset]) rfl k) ?_
    refine Go.pull (V := s₁.setTop (mkF m 14 #[iv ps, .val (.long pb), .second, iv 5, iv (pb.toInt32), .unset, .unset, .unset, .unset] [(.int (pb.toInt32))])) (fun t k => XS.iload X0.here hx rfl (hb hby at_12) rfl  k) ?_
    refine Go.pull (V := s₁.setTop (mkF m 15 #[iv ps, .val (.long pb), .second, iv 5, iv (pb.toInt32), .unset, .unset, .unset, .unset] [(.long ((pb.toInt32).toInt64))])) (fun t k => XS.i2l X0.here hx rfl (hb hby at_14) rfl k) ?_
    refine Go.pull (V := s₁.setTop (mkF m 17 #[iv ps, .val (.long pb), .second, iv 5, iv (pb.toInt32), .val (.long ((pb.toInt32).toInt64)), .second, .unset, .unset] [])) (fun t k => XS.lstore X0.here hx rfl (hb hby at_15) rfl (l' := #[iv ps, .val (.long pb), .second, iv 5, iv (pb.toInt32), .val (.long ((pb.toInt32).toInt64)), .second, .unset, .unset]) rfl k) ?_
    refine Go.pull (V := s₁.setTop (mkF m 18 #[iv ps, .val (.long pb), .second, iv 5, iv (pb.toInt32), .val (.long ((pb.toInt32).toInt64)), .second, .unset, .unset] [(.int 5)])) (fun t k => XS.iloadN X0.here hx rfl (hb hby at_17) rfl  k) ?_
    refine Go.pull (V := s₁.setTop (mkF m 39 #[iv ps, .val (.long pb), .second, iv 5, iv (pb.toInt32), .val (.long ((pb.toInt32).toInt64)), .second, .unset, .unset] [])) (fun t k => XS.ifYes X0.here hx rfl (pc0 := 18) (pc' := 39) rfl (hb hby at_18) rfl (XT.i0_ne_t (by decide)) (by decide) (by decide) k) ?_
    refine Go.pull (V := s₁.setTop (mkF m 40 #[iv ps, .val (.long pb), .second, iv 5, iv (pb.toInt32), .val (.long ((pb.toInt32).toInt64)), .second, .unset, .unset] [(.int 5)])) (fun t k => XS.iloadN X0.here hx rfl (hb hby at_39) rfl  k) ?_
    refine Go.pull (V := s₁.setTop (mkF m 41 #[iv ps, .val (.long pb), .second, iv 5, iv (pb.toInt32), .val (.long ((pb.toInt32).toInt64)), .second, .unset, .unset] [(.int 1), (.int 5)])) (fun t k => XS.iconst X0.here hx rfl (hb hby at_40) k) ?_
    refine Go.pull (V := s₁.setTop (mkF m 62 #[iv ps, .val (.long pb), .second, iv 5, iv (pb.toInt32), .val (.long ((pb.toInt32).toInt64)), .second, .unset, .unset] [])) (fun t k => XS.icmpYes X0.here hx rfl (pc0 := 41) (pc' := 62) rfl (hb hby at_41) rfl (XT.ii_ne_t (by decide)) (by decide) (by decide) k) ?_
    refine Go.pull (V := s₁.setTop (mkF m 63 #[iv ps, .val (.long pb), .second, iv 5, iv (pb.toInt32), .val (.long ((pb.toInt32).toInt64)), .second, .unset, .unset] [(.int 5)])) (fun t k => XS.iloadN X0.here hx rfl (hb hby at_62) rfl  k) ?_
    refine Go.pull (V := s₁.setTop (mkF m 64 #[iv ps, .val (.long pb), .second, iv 5, iv (pb.toInt32), .val (.long ((pb.toInt32).toInt64)), .second, .unset, .unset] [(.int 2), (.int 5)])) (fun t k => XS.iconst X0.here hx rfl (hb hby at_63) k) ?_
    refine Go.pull (V := s₁.setTop (mkF m 87 #[iv ps, .val (.long pb), .second, iv 5, iv (pb.toInt32), .val (.long ((pb.toInt32).toInt64)), .second, .unset, .unset] [])) (fun t k => XS.icmpYes X0.here hx rfl (pc0 := 64) (pc' := 87) rfl (hb hby at_64) rfl (XT.ii_ne_t (by decide)) (by decide) (by decide) k) ?_
    refine Go.pull (V := s₁.setTop (mkF m 88 #[iv ps, .val (.long pb), .second, iv 5, iv (pb.toInt32), .val (.long ((pb.toInt32).toInt64)), .second, .unset, .unset] [(.int 5)])) (fun t k => XS.iloadN X0.here hx rfl (hb hby at_87) rfl  k) ?_
    refine Go.pull (V := s₁.setTop (mkF m 89 #[iv ps, .val (.long pb), .second, iv 5, iv (pb.toInt32), .val (.long ((pb.toInt32).toInt64)), .second, .unset, .unset] [(.int 3), (.int 5)])) (fun t k => XS.iconst X0.here hx rfl (hb hby at_88) k) ?_
    refine Go.pull (V := s₁.setTop (mkF m 132 #[iv ps, .val (.long pb), .second, iv 5, iv (pb.toInt32), .val (.long ((pb.toInt32).toInt64)), .second, .unset, .unset] [])) (fun t k => XS.icmpYes X0.here hx rfl (pc0 := 89) (pc' := 132) rfl (hb hby at_89) rfl (XT.ii_ne_t (by decide)) (by decide) (by decide) k) ?_
    refine Go.pull (V := s₁.setTop (mkF m 133 #[iv ps, .val (.long pb), .second, iv 5, iv (pb.toInt32), .val (.long ((pb.toInt32).toInt64)), .second, .unset, .unset] [(.int 5)])) (fun t k => XS.iloadN X0.here hx rfl (hb hby at_132) rfl  k) ?_
    refine Go.pull (V := s₁.setTop (mkF m 134 #[iv ps, .val (.long pb), .second, iv 5, iv (pb.toInt32), .val (.long ((pb.toInt32).toInt64)), .second, .unset, .unset] [(.int 4), (.int 5)])) (fun t k => XS.iconst X0.here hx rfl (hb hby at_133) k) ?_
    refine Go.pull (V := s₁.setTop (mkF m 183 #[iv ps, .val (.long pb), .second, iv 5, iv (pb.toInt32), .val (.long ((pb.toInt32).toInt64)), .second, .unset, .unset] [])) (fun t k => XS.icmpYes X0.here hx rfl (pc0 := 134) (pc' := 183) rfl (hb hby at_134) rfl (XT.ii_ne_t (by decide)) (by decide) (by decide) k) ?_
    refine Go.pull (V := s₁.setTop (mkF m 184 #[iv ps, .val (.long pb), .second, iv 5, iv (pb.toInt32), .val (.long ((pb.toInt32).toInt64)), .second, .unset, .unset] [(.int 5)])) (fun t k => XS.iloadN X0.here hx rfl (hb hby at_183) rfl  k) ?_
    refine Go.pull (V := s₁.setTop (mkF m 185 #[iv ps, .val (.long pb), .second, iv 5, iv (pb.toInt32), .val (.long ((pb.toInt32).toInt64)), .second, .unset, .unset] [(.int 5), (.int 5)])) (fun t k => XS.iconst X0.here hx rfl (hb hby at_184) k) ?_
    refine Go.pull (V := s₁.setTop (mkF m 188 #[iv ps, .val (.long pb), .second, iv 5, iv (pb.toInt32), .val (.long ((pb.toInt32).toInt64)), .second, .unset, .unset] [])) (fun t k => XS.icmpNo X0.here hx rfl (hb hby at_185) rfl (XT.ii_ne_f (by decide)) k) ?_
    refine Go.pull (V := s₁.setTop (mkF m 189 #[iv ps, .val (.long pb), .second, iv 5, iv (pb.toInt32), .val (.long ((pb.toInt32).toInt64)), .second, .unset, .unset] [(.long pb)])) (fun t k => XS.lloadN X0.here hx rfl (hb hby at_188) rfl  k) ?_
    refine Go.pull (V := s₁.setTop (mkF m 190 #[iv ps, .val (.long pb), .second, iv 5, iv (pb.toInt32), .val (.long ((pb.toInt32).toInt64)), .second, .unset, .unset] [(.long 0), (.long pb)])) (fun t k => XS.lconst X0.here hx rfl (hb hby at_189) k) ?_
    refine Go.pull (V := s₁.setTop (mkF m 191 #[iv ps, .val (.long pb), .second, iv 5, iv (pb.toInt32), .val (.long ((pb.toInt32).toInt64)), .second, .unset, .unset] [(.int (XT.cmpL pb (0 : Int64)))])) (fun t k => XT.lcmp X0.here hx rfl (hb hby at_190) rfl k) ?_
    by_cases hc191_18 : pb < (0 : Int64)
    · skip
      refine Go.pull (V := s₁.setTop (mkF m 202 #[iv ps, .val (.long pb), .second, iv 5, iv (pb.toInt32), .val (.long ((pb.toInt32).toInt64)), .second, .unset, .unset] [])) (fun t k => XS.ifYes X0.here hx rfl (pc0 := 191) (pc' := 202) rfl (hb hby at_191) rfl (XT.ll_lt_t hc191_18) (by decide) (by decide) k) ?_
      refine Go.pull (V := s₁.setTop (mkF m 205 #[iv ps, .val (.long pb), .second, iv 5, iv (pb.toInt32), .val (.long ((pb.toInt32).toInt64)), .second, .unset, .unset] [(.long (-2))])) (fun t k => X0.ldc2Long hx hown (mvT hZ (hw _ (List.mem_of_getElem? (i := 24) rfl))) (g := (mkF m 202 #[iv ps, .val (.long pb), .second, iv 5, iv (pb.toInt32), .val (.long ((pb.toInt32).toInt64)), .second, .unset, .unset] [])) rfl (hb hby at_202) _ k) ?_
      refine Go.pull (V := s₁.setTop (mkF m 206 #[iv ps, .val (.long pb), .second, iv 5, iv (pb.toInt32), .val (.long ((pb.toInt32).toInt64)), .second, .unset, .unset] [(.long pb), (.long (-2))])) (fun t k => XS.lloadN X0.here hx rfl (hb hby at_205) rfl  k) ?_
      refine Go.pull (V := s₁.setTop (mkF m 207 #[iv ps, .val (.long pb), .second, iv 5, iv (pb.toInt32), .val (.long ((pb.toInt32).toInt64)), .second, .unset, .unset] [(.long ((-2 : Int64) * pb))])) (fun t k => XS.lmul X0.here hx rfl (hb hby at_206) rfl k) ?_
      refine Go.pull (V := s₁.setTop (mkF m 208 #[iv ps, .val (.long pb), .second, iv 5, iv (pb.toInt32), .val (.long ((pb.toInt32).toInt64)), .second, .unset, .unset] [(.long 1), (.long ((-2 : Int64) * pb))])) (fun t k => XS.lconst X0.here hx rfl (hb hby at_207) k) ?_
      refine Go.pull (V := s₁.setTop (mkF m 209 #[iv ps, .val (.long pb), .second, iv 5, iv (pb.toInt32), .val (.long ((pb.toInt32).toInt64)), .second, .unset, .unset] [(.long (((-2 : Int64) * pb) - (1 : Int64)))])) (fun t k => XS.lsub X0.here hx rfl (hb hby at_208) rfl k) ?_
      refine Go.pull (V := s₁.setTop (mkF m 211 #[iv ps, .val (.long pb), .second, iv 5, iv (pb.toInt32), .val (.long ((pb.toInt32).toInt64)), .second, .val (.long (((-2 : Int64) * pb) - (1 : Int64))), .second] [])) (fun t k => XS.lstore X0.here hx rfl (hb hby at_209) rfl (l' := #[iv ps, .val (.long pb), .second, iv 5, iv (pb.toInt32), .val (.long ((pb.toInt32).toInt64)), .second, .val (.long (((-2 : Int64) * pb) - (1 : Int64))), .second]) rfl k) ?_
      obtain ⟨T19, X19, e19, st19⟩ := getS2 X0 hx hZ hown (host := "") (Or.inl (hw _ (List.mem_of_getElem? (i := 18) rfl))) Via.refl e0 S_r_ScalarType_SINT64 (g := (mkF m 211 #[iv ps, .val (.long pb), .second, iv 5, iv (pb.toInt32), .val (.long ((pb.toInt32).toInt64)), .second, .val (.long (((-2 : Int64) * pb) - (1 : Int64))), .second] [])) rfl (hb hby at_211)
      refine Go.pull (V := T19.setTop (mkF m 214 #[iv ps, .val (.long pb), .second, iv 5, iv (pb.toInt32), .val (.long ((pb.toInt32).toInt64)), .second, .val (.long (((-2 : Int64) * pb) - (1 : Int64))), .second] [(.ref r_ScalarType_SINT64)])) st19 ?_
      refine Go.pull (V := T19.setTop (mkF m 215 #[iv ps, .val (.long pb), .second, iv 5, iv (pb.toInt32), .val (.long ((pb.toInt32).toInt64)), .second, .val (.long (((-2 : Int64) * pb) - (1 : Int64))), .second] [(.long pb), (.ref r_ScalarType_SINT64)])) (fun t k => XS.lloadN X19.here hx rfl (hb hby at_214) rfl  k) ?_
      obtain ⟨cq20, kq20, q20a, q20b, q20c⟩ := isOf hZ e19 E_r_ScalarType_SINT64
      obtain ⟨_, _, ⟨T20, L20, k20, n20⟩, -, X20, ⟨Lc20, hQ20, l20, y20, z20⟩, st20⟩ := X19.virtualBack hx (y := (⟨"com/example/tagwire/tagwire/ScalarType", "toVarint", "(J)J"⟩ : MethodName)) (z := (⟨"com/example/tagwire/tagwire/ScalarType", "toVarint", "(J)J"⟩ : MethodName)) hown (mvT hZ (hw _ (List.mem_of_getElem? (i := 4) rfl))) (mvT hZ (hw _ (List.mem_of_getElem? (i := 5) rfl))) (notFace_of_selects (args := #[]) (mvT hZ (hw _ (List.mem_of_getElem? (i := 7) rfl)))) (mvT hZ (hw _ (List.mem_of_getElem? (i := 7) rfl))) (mvT hZ (hw _ (List.mem_of_getElem? (i := 6) rfl))) (by decide) (backOf (W := 0) (rmA l Z a0 hw [] r_ScalarType_SINT64 pb (1 : Int32) (-1 : Int64) h0 n0 F_r_ScalarType_SINT64_zigzag F_r_ScalarType_SINT64_varintMask) hZ (hw _ (List.mem_of_getElem? (i := 8) rfl)) (hw _ (List.mem_of_getElem? (i := 2) rfl)) (by decide) (by decide)) q20a q20c (g := (mkF m 215 #[iv ps, .val (.long pb), .second, iv 5, iv (pb.toInt32), .val (.long ((pb.toInt32).toInt64)), .second, .val (.long (((-2 : Int64) * pb) - (1 : Int64))), .second] [(.long pb), (.ref r_ScalarType_SINT64)])) rfl (by rw [hml]; rfl) (Steps.refl _) (argsL := [(.long pb)]) (rest := []) (lenOf pd_0 rfl) rfl (by show 2 * 0 + _ ≤ _; exact Nat.le_of_eq rfl) (hb hby at_215) (fun _ _ => ⟨rfl, e19, (by decide : 0 + 0 ≤ _), (by decide : 0 + 0 ≤ _)⟩)
      dsimp only [Pt.U, Pt.locs, Pt.cells, Pt.slots] at X20 l20 y20 z20 st20 hQ20
      subst l20 y20 z20
      obtain ⟨rfl, N20q, e20⟩ := hQ20
      have N20 := Fr.app N0 N20q
      refine Go.pull (V := T20.setTop (mkF m 218 #[iv ps, .val (.long pb), .second, iv 5, iv (pb.toInt32), .val (.long ((pb.toInt32).toInt64)), .second, .val (.long (((-2 : Int64) * pb) - (1 : Int64))), .second] [(.long (own_tov (1 : Int32) (-1 : Int64) pb))])) (fun _ k => st20.trans k) ?_
      refine Go.pull (V := T20.setTop (mkF m 220 #[iv ps, .val (.long pb), .second, iv 5, iv (pb.toInt32), .val (.long ((pb.toInt32).toInt64)), .second, .val (.long (((-2 : Int64) * pb) - (1 : Int64))), .second] [(.long (((-2 : Int64) * pb) - (1 : Int64))), (.long (own_tov (1 : Int32) (-1 : Int64) pb))])) (fun t k => XS.lload X20.here hx rfl (hb hby at_218) rfl  k) ?_
      refine Go.pull (V := T20.setTop (mkF m 221 #[iv ps, .val (.long pb), .second, iv 5, iv (pb.toInt32), .val (.long ((pb.toInt32).toInt64)), .second, .val (.long (((-2 : Int64) * pb) - (1 : Int64))), .second] [(.int (XT.cmpL (own_tov (1 : Int32) (-1 : Int64) pb) (((-2 : Int64) * pb) - (1 : Int64))))])) (fun t k => XT.lcmp X20.here hx rfl (hb hby at_220) rfl k) ?_
      refine Go.pull (V := T20.setTop (mkF m 224 #[iv ps, .val (.long pb), .second, iv 5, iv (pb.toInt32), .val (.long ((pb.toInt32).toInt64)), .second, .val (.long (((-2 : Int64) * pb) - (1 : Int64))), .second] [])) (fun t k => XS.ifNo X20.here hx rfl (hb hby at_221) rfl (XT.ll_ne_f (own_t5n hc191_18)) k) ?_
      refine Go.pull (V := T20.setTop (mkF m 225 #[iv ps, .val (.long pb), .second, iv 5, iv (pb.toInt32), .val (.long ((pb.toInt32).toInt64)), .second, .val (.long (((-2 : Int64) * pb) - (1 : Int64))), .second] [(.int 1)])) (fun t k => XS.iconst X20.here hx rfl (hb hby at_224) k) ?_
      refine Go.pull (V := T20.setTop (mkF m 229 #[iv ps, .val (.long pb), .second, iv 5, iv (pb.toInt32), .val (.long ((pb.toInt32).toInt64)), .second, .val (.long (((-2 : Int64) * pb) - (1 : Int64))), .second] [(.int 1)])) (fun t k => XS.goto X20.here hx rfl (pc0 := 225) (pc' := 229) rfl (hb hby at_225) (by decide) (by decide) k) ?_
      exact Go.retN X20 hx Bd.notSynchronized (t := .boolean) Bd.returns (by simp) (hb hby at_229) ⟨rfl, N20⟩ (by decide) (by decide)
    · skip
      refine Go.pull (V := s₁.setTop (mkF m 194 #[iv ps, .val (.long pb), .second, iv 5, iv (pb.toInt32), .val (.long ((pb.toInt32).toInt64)), .second, .unset, .unset] [])) (fun t k => XS.ifNo X0.here hx rfl (hb hby at_191) rfl (XT.ll_lt_f hc191_18) k) ?_
      refine Go.pull (V := s₁.setTop (mkF m 197 #[iv ps, .val (.long pb), .second, iv 5, iv (pb.toInt32), .val (.long ((pb.toInt32).toInt64)), .second, .unset, .unset] [(.long 2)])) (fun t k => X0.ldc2Long hx hown (mvT hZ (hw _ (List.mem_of_getElem? (i := 15) rfl))) (g := (mkF m 194 #[iv ps, .val (.long pb), .second, iv 5, iv (pb.toInt32), .val (.long ((pb.toInt32).toInt64)), .second, .unset, .unset] [])) rfl (hb hby at_194) _ k) ?_
      refine Go.pull (V := s₁.setTop (mkF m 198 #[iv ps, .val (.long pb), .second, iv 5, iv (pb.toInt32), .val (.long ((pb.toInt32).toInt64)), .second, .unset, .unset] [(.long pb), (.long 2)])) (fun t k => XS.lloadN X0.here hx rfl (hb hby at_197) rfl  k) ?_
      refine Go.pull (V := s₁.setTop (mkF m 199 #[iv ps, .val (.long pb), .second, iv 5, iv (pb.toInt32), .val (.long ((pb.toInt32).toInt64)), .second, .unset, .unset] [(.long ((2 : Int64) * pb))])) (fun t k => XS.lmul X0.here hx rfl (hb hby at_198) rfl k) ?_
      refine Go.pull (V := s₁.setTop (mkF m 209 #[iv ps, .val (.long pb), .second, iv 5, iv (pb.toInt32), .val (.long ((pb.toInt32).toInt64)), .second, .unset, .unset] [(.long ((2 : Int64) * pb))])) (fun t k => XS.goto X0.here hx rfl (pc0 := 199) (pc' := 209) rfl (hb hby at_199) (by decide) (by decide) k) ?_
      refine Go.pull (V := s₁.setTop (mkF m 211 #[iv ps, .val (.long pb), .second, iv 5, iv (pb.toInt32), .val (.long ((pb.toInt32).toInt64)), .second, .val (.long ((2 : Int64) * pb)), .second] [])) (fun t k => XS.lstore X0.here hx rfl (hb hby at_209) rfl (l' := #[iv ps, .val (.long pb), .second, iv 5, iv (pb.toInt32), .val (.long ((pb.toInt32).toInt64)), .second, .val (.long ((2 : Int64) * pb)), .second]) rfl k) ?_
      obtain ⟨T21, X21, e21, st21⟩ := getS2 X0 hx hZ hown (host := "") (Or.inl (hw _ (List.mem_of_getElem? (i := 18) rfl))) Via.refl e0 S_r_ScalarType_SINT64 (g := (mkF m 211 #[iv ps, .val (.long pb), .second, iv 5, iv (pb.toInt32), .val (.long ((pb.toInt32).toInt64)), .second, .val (.long ((2 : Int64) * pb)), .second] [])) rfl (hb hby at_211)
      refine Go.pull (V := T21.setTop (mkF m 214 #[iv ps, .val (.long pb), .second, iv 5, iv (pb.toInt32), .val (.long ((pb.toInt32).toInt64)), .second, .val (.long ((2 : Int64) * pb)), .second] [(.ref r_ScalarType_SINT64)])) st21 ?_
      refine Go.pull (V := T21.setTop (mkF m 215 #[iv ps, .val (.long pb), .second, iv 5, iv (pb.toInt32), .val (.long ((pb.toInt32).toInt64)), .second, .val (.long ((2 : Int64) * pb)), .second] [(.long pb), (.ref r_ScalarType_SINT64)])) (fun t k => XS.lloadN X21.here hx rfl (hb hby at_214) rfl  k) ?_
      obtain ⟨cq22, kq22, q22a, q22b, q22c⟩ := isOf hZ e21 E_r_ScalarType_SINT64
      obtain ⟨_, _, ⟨T22, L22, k22, n22⟩, -, X22, ⟨Lc22, hQ22, l22, y22, z22⟩, st22⟩ := X21.virtualBack hx (y := (⟨"com/example/tagwire/tagwire/ScalarType", "toVarint", "(J)J"⟩ : MethodName)) (z := (⟨"com/example/tagwire/tagwire/ScalarType", "toVarint", "(J)J"⟩ : MethodName)) hown (mvT hZ (hw _ (List.mem_of_getElem? (i := 4) rfl))) (mvT hZ (hw _ (List.mem_of_getElem? (i := 5) rfl))) (notFace_of_selects (args := #[]) (mvT hZ (hw _ (List.mem_of_getElem? (i := 7) rfl)))) (mvT hZ (hw _ (List.mem_of_getElem? (i := 7) rfl))) (mvT hZ (hw _ (List.mem_of_getElem? (i := 6) rfl))) (by decide) (backOf (W := 0) (rmA l Z a0 hw [] r_ScalarType_SINT64 pb (1 : Int32) (-1 : Int64) h0 n0 F_r_ScalarType_SINT64_zigzag F_r_ScalarType_SINT64_varintMask) hZ (hw _ (List.mem_of_getElem? (i := 8) rfl)) (hw _ (List.mem_of_getElem? (i := 2) rfl)) (by decide) (by decide)) q22a q22c (g := (mkF m 215 #[iv ps, .val (.long pb), .second, iv 5, iv (pb.toInt32), .val (.long ((pb.toInt32).toInt64)), .second, .val (.long ((2 : Int64) * pb)), .second] [(.long pb), (.ref r_ScalarType_SINT64)])) rfl (by rw [hml]; rfl) (Steps.refl _) (argsL := [(.long pb)]) (rest := []) (lenOf pd_0 rfl) rfl (by show 2 * 0 + _ ≤ _; exact Nat.le_of_eq rfl) (hb hby at_215) (fun _ _ => ⟨rfl, e21, (by decide : 0 + 0 ≤ _), (by decide : 0 + 0 ≤ _)⟩)
      dsimp only [Pt.U, Pt.locs, Pt.cells, Pt.slots] at X22 l22 y22 z22 st22 hQ22
      subst l22 y22 z22
      obtain ⟨rfl, N22q, e22⟩ := hQ22
      have N22 := Fr.app N0 N22q
      refine Go.pull (V := T22.setTop (mkF m 218 #[iv ps, .val (.long pb), .second, iv 5, iv (pb.toInt32), .val (.long ((pb.toInt32).toInt64)), .second, .val (.long ((2 : Int64) * pb)), .second] [(.long (own_tov (1 : Int32) (-1 : Int64) pb))])) (fun _ k => st22.trans k) ?_
      refine Go.pull (V := T22.setTop (mkF m 220 #[iv ps, .val (.long pb), .second, iv 5, iv (pb.toInt32), .val (.long ((pb.toInt32).toInt64)), .second, .val (.long ((2 : Int64) * pb)), .second] [(.long ((2 : Int64) * pb)), (.long (own_tov (1 : Int32) (-1 : Int64) pb))])) (fun t k => XS.lload X22.here hx rfl (hb hby at_218) rfl  k) ?_
      refine Go.pull (V := T22.setTop (mkF m 221 #[iv ps, .val (.long pb), .second, iv 5, iv (pb.toInt32), .val (.long ((pb.toInt32).toInt64)), .second, .val (.long ((2 : Int64) * pb)), .second] [(.int (XT.cmpL (own_tov (1 : Int32) (-1 : Int64) pb) ((2 : Int64) * pb)))])) (fun t k => XT.lcmp X22.here hx rfl (hb hby at_220) rfl k) ?_
      refine Go.pull (V := T22.setTop (mkF m 224 #[iv ps, .val (.long pb), .second, iv 5, iv (pb.toInt32), .val (.long ((pb.toInt32).toInt64)), .second, .val (.long ((2 : Int64) * pb)), .second] [])) (fun t k => XS.ifNo X22.here hx rfl (hb hby at_221) rfl (XT.ll_ne_f (own_t5p hc191_18)) k) ?_
      refine Go.pull (V := T22.setTop (mkF m 225 #[iv ps, .val (.long pb), .second, iv 5, iv (pb.toInt32), .val (.long ((pb.toInt32).toInt64)), .second, .val (.long ((2 : Int64) * pb)), .second] [(.int 1)])) (fun t k => XS.iconst X22.here hx rfl (hb hby at_224) k) ?_
      refine Go.pull (V := T22.setTop (mkF m 229 #[iv ps, .val (.long pb), .second, iv 5, iv (pb.toInt32), .val (.long ((pb.toInt32).toInt64)), .second, .val (.long ((2 : Int64) * pb)), .second] [(.int 1)])) (fun t k => XS.goto X22.here hx rfl (pc0 := 225) (pc' := 229) rfl (hb hby at_225) (by decide) (by decide) k) ?_
      exact Go.retN X22 hx Bd.notSynchronized (t := .boolean) Bd.returns (by simp) (hb hby at_229) ⟨rfl, N22⟩ (by decide) (by decide)
  · subst hv1
    refine Go.pull (V := s₁.setTop (mkF m 9 #[iv ps, .val (.long pb), .second, iv 6, .unset, .unset, .unset, .unset, .unset] [(.long pb)])) (fun t k => XS.lloadN X0.here hx rfl (hb hby at_8) rfl  k) ?_
    refine Go.pull (V := s₁.setTop (mkF m 10 #[iv ps, .val (.long pb), .second, iv 6, .unset, .unset, .unset, .unset, .unset] [(.int (pb.toInt32))])) (fun t k => XS.l2i X0.here hx rfl (hb hby at_9) rfl k) ?_
    refine Go.pull (V := s₁.setTop (mkF m 12 #[iv ps, .val (.long pb), .second, iv 6, iv (pb.toInt32), .unset, .unset, .unset, .unset] [])) (fun t k => XS.istore X0.here hx rfl (hb hby at_10) rfl (l' := #[iv ps, .val (.long pb), .second, iv 6, iv (pb.toInt32), .unset, .unset, .unset, .unset]) rfl k) ?_
    refine Go.pull (V := s₁.setTop (mkF m 14 #[iv ps, .val (.long pb), .second, iv 6, iv (pb.toInt32), .unset, .unset, .unset, .unset] [(.int (pb.toInt32))])) (fun t k => XS.iload X0.here hx rfl (hb hby at_12) rfl  k) ?_
    refine Go.pull (V := s₁.setTop (mkF m 15 #[iv ps, .val (.long pb), .second, iv 6, iv (pb.toInt32), .unset, .unset, .unset, .unset] [(.long ((pb.toInt32).toInt64))])) (fun t k => XS.i2l X0.here hx rfl (hb hby at_14) rfl k) ?_
    refine Go.pull (V := s₁.setTop (mkF m 17 #[iv ps, .val (.long pb), .second, iv 6, iv (pb.toInt32), .val (.long ((pb.toInt32).toInt64)), .second, .unset, .unset] [])) (fun t k => XS.lstore X0.here hx rfl (hb hby at_15) rfl (l' := #[iv ps, .val (.long pb), .second, iv 6, iv (pb.toInt32), .val (.long ((pb.toInt32).toInt64)), .second, .unset, .unset]) rfl k) ?_
    refine Go.pull (V := s₁.setTop (mkF m 18 #[iv ps, .val (.long pb), .second, iv 6, iv (pb.toInt32), .val (.long ((pb.toInt32).toInt64)), .second, .unset, .unset] [(.int 6)])) (fun t k => XS.iloadN X0.here hx rfl (hb hby at_17) rfl  k) ?_
    refine Go.pull (V := s₁.setTop (mkF m 39 #[iv ps, .val (.long pb), .second, iv 6, iv (pb.toInt32), .val (.long ((pb.toInt32).toInt64)), .second, .unset, .unset] [])) (fun t k => XS.ifYes X0.here hx rfl (pc0 := 18) (pc' := 39) rfl (hb hby at_18) rfl (XT.i0_ne_t (by decide)) (by decide) (by decide) k) ?_
    refine Go.pull (V := s₁.setTop (mkF m 40 #[iv ps, .val (.long pb), .second, iv 6, iv (pb.toInt32), .val (.long ((pb.toInt32).toInt64)), .second, .unset, .unset] [(.int 6)])) (fun t k => XS.iloadN X0.here hx rfl (hb hby at_39) rfl  k) ?_
    refine Go.pull (V := s₁.setTop (mkF m 41 #[iv ps, .val (.long pb), .second, iv 6, iv (pb.toInt32), .val (.long ((pb.toInt32).toInt64)), .second, .unset, .unset] [(.int 1), (.int 6)])) (fun t k => XS.iconst X0.here hx rfl (hb hby at_40) k) ?_
    refine Go.pull (V := s₁.setTop (mkF m 62 #[iv ps, .val (.long pb), .second, iv 6, iv (pb.toInt32), .val (.long ((pb.toInt32).toInt64)), .second, .unset, .unset] [])) (fun t k => XS.icmpYes X0.here hx rfl (pc0 := 41) (pc' := 62) rfl (hb hby at_41) rfl (XT.ii_ne_t (by decide)) (by decide) (by decide) k) ?_
    refine Go.pull (V := s₁.setTop (mkF m 63 #[iv ps, .val (.long pb), .second, iv 6, iv (pb.toInt32), .val (.long ((pb.toInt32).toInt64)), .second, .unset, .unset] [(.int 6)])) (fun t k => XS.iloadN X0.here hx rfl (hb hby at_62) rfl  k) ?_
    refine Go.pull (V := s₁.setTop (mkF m 64 #[iv ps, .val (.long pb), .second, iv 6, iv (pb.toInt32), .val (.long ((pb.toInt32).toInt64)), .second, .unset, .unset] [(.int 2), (.int 6)])) (fun t k => XS.iconst X0.here hx rfl (hb hby at_63) k) ?_
    refine Go.pull (V := s₁.setTop (mkF m 87 #[iv ps, .val (.long pb), .second, iv 6, iv (pb.toInt32), .val (.long ((pb.toInt32).toInt64)), .second, .unset, .unset] [])) (fun t k => XS.icmpYes X0.here hx rfl (pc0 := 64) (pc' := 87) rfl (hb hby at_64) rfl (XT.ii_ne_t (by decide)) (by decide) (by decide) k) ?_
    refine Go.pull (V := s₁.setTop (mkF m 88 #[iv ps, .val (.long pb), .second, iv 6, iv (pb.toInt32), .val (.long ((pb.toInt32).toInt64)), .second, .unset, .unset] [(.int 6)])) (fun t k => XS.iloadN X0.here hx rfl (hb hby at_87) rfl  k) ?_
    refine Go.pull (V := s₁.setTop (mkF m 89 #[iv ps, .val (.long pb), .second, iv 6, iv (pb.toInt32), .val (.long ((pb.toInt32).toInt64)), .second, .unset, .unset] [(.int 3), (.int 6)])) (fun t k => XS.iconst X0.here hx rfl (hb hby at_88) k) ?_
    refine Go.pull (V := s₁.setTop (mkF m 132 #[iv ps, .val (.long pb), .second, iv 6, iv (pb.toInt32), .val (.long ((pb.toInt32).toInt64)), .second, .unset, .unset] [])) (fun t k => XS.icmpYes X0.here hx rfl (pc0 := 89) (pc' := 132) rfl (hb hby at_89) rfl (XT.ii_ne_t (by decide)) (by decide) (by decide) k) ?_
    refine Go.pull (V := s₁.setTop (mkF m 133 #[iv ps, .val (.long pb), .second, iv 6, iv (pb.toInt32), .val (.long ((pb.toInt32).toInt64)), .second, .unset, .unset] [(.int 6)])) (fun t k => XS.iloadN X0.here hx rfl (hb hby at_132) rfl  k) ?_
    refine Go.pull (V := s₁.setTop (mkF m 134 #[iv ps, .val (.long pb), .second, iv 6, iv (pb.toInt32), .val (.long ((pb.toInt32).toInt64)), .second, .unset, .unset] [(.int 4), (.int 6)])) (fun t k => XS.iconst X0.here hx rfl (hb hby at_133) k) ?_
    refine Go.pull (V := s₁.setTop (mkF m 183 #[iv ps, .val (.long pb), .second, iv 6, iv (pb.toInt32), .val (.long ((pb.toInt32).toInt64)), .second, .unset, .unset] [])) (fun t k => XS.icmpYes X0.here hx rfl (pc0 := 134) (pc' := 183) rfl (hb hby at_134) rfl (XT.ii_ne_t (by decide)) (by decide) (by decide) k) ?_
    refine Go.pull (V := s₁.setTop (mkF m 184 #[iv ps, .val (.long pb), .second, iv 6, iv (pb.toInt32), .val (.long ((pb.toInt32).toInt64)), .second, .unset, .unset] [(.int 6)])) (fun t k => XS.iloadN X0.here hx rfl (hb hby at_183) rfl  k) ?_
    refine Go.pull (V := s₁.setTop (mkF m 185 #[iv ps, .val (.long pb), .second, iv 6, iv (pb.toInt32), .val (.long ((pb.toInt32).toInt64)), .second, .unset, .unset] [(.int 5), (.int 6)])) (fun t k => XS.iconst X0.here hx rfl (hb hby at_184) k) ?_
    refine Go.pull (V := s₁.setTop (mkF m 230 #[iv ps, .val (.long pb), .second, iv 6, iv (pb.toInt32), .val (.long ((pb.toInt32).toInt64)), .second, .unset, .unset] [])) (fun t k => XS.icmpYes X0.here hx rfl (pc0 := 185) (pc' := 230) rfl (hb hby at_185) rfl (XT.ii_ne_t (by decide)) (by decide) (by decide) k) ?_
    refine Go.pull (V := s₁.setTop (mkF m 231 #[iv ps, .val (.long pb), .second, iv 6, iv (pb.toInt32), .val (.long ((pb.toInt32).toInt64)), .second, .unset, .unset] [(.long pb)])) (fun t k => XS.lloadN X0.here hx rfl (hb hby at_230) rfl  k) ?_
    refine Go.pull (V := s₁.setTop (mkF m 232 #[iv ps, .val (.long pb), .second, iv 6, iv (pb.toInt32), .val (.long ((pb.toInt32).toInt64)), .second, .unset, .unset] [(.long 1), (.long pb)])) (fun t k => XS.lconst X0.here hx rfl (hb hby at_231) k) ?_
    refine Go.pull (V := s₁.setTop (mkF m 233 #[iv ps, .val (.long pb), .second, iv 6, iv (pb.toInt32), .val (.long ((pb.toInt32).toInt64)), .second, .unset, .unset] [(.long (pb &&& (1 : Int64)))])) (fun t k => XS.land X0.here hx rfl (hb hby at_232) rfl k) ?_
    refine Go.pull (V := s₁.setTop (mkF m 235 #[iv ps, .val (.long pb), .second, iv 6, iv (pb.toInt32), .val (.long ((pb.toInt32).toInt64)), .second, .val (.long (pb &&& (1 : Int64))), .second] [])) (fun t k => XS.lstore X0.here hx rfl (hb hby at_233) rfl (l' := #[iv ps, .val (.long pb), .second, iv 6, iv (pb.toInt32), .val (.long ((pb.toInt32).toInt64)), .second, .val (.long (pb &&& (1 : Int64))), .second]) rfl k) ?_
    obtain ⟨T23, X23, e23, st23⟩ := getS2 X0 hx hZ hown (host := "") (Or.inl (hw _ (List.mem_of_getElem? (i := 25) rfl))) Via.refl e0 S_r_ScalarType_BOOL (g := (mkF m 235 #[iv ps, .val (.long pb), .second, iv 6, iv (pb.toInt32), .val (.long ((pb.toInt32).toInt64)), .second, .val (.long (pb &&& (1 : Int64))), .second] [])) rfl (hb hby at_235)
    refine Go.pull (V := T23.setTop (mkF m 238 #[iv ps, .val (.long pb), .second, iv 6, iv (pb.toInt32), .val (.long ((pb.toInt32).toInt64)), .second, .val (.long (pb &&& (1 : Int64))), .second] [(.ref r_ScalarType_BOOL)])) st23 ?_
    refine Go.pull (V := T23.setTop (mkF m 240 #[iv ps, .val (.long pb), .second, iv 6, iv (pb.toInt32), .val (.long ((pb.toInt32).toInt64)), .second, .val (.long (pb &&& (1 : Int64))), .second] [(.long (pb &&& (1 : Int64))), (.ref r_ScalarType_BOOL)])) (fun t k => XS.lload X23.here hx rfl (hb hby at_238) rfl  k) ?_
    obtain ⟨cq24, kq24, q24a, q24b, q24c⟩ := isOf hZ e23 E_r_ScalarType_BOOL
    obtain ⟨_, _, ⟨T24, L24, k24, n24⟩, -, X24, ⟨Lc24, hQ24, l24, y24, z24⟩, st24⟩ := X23.virtualBack hx (y := (⟨"com/example/tagwire/tagwire/ScalarType", "toVarint", "(J)J"⟩ : MethodName)) (z := (⟨"com/example/tagwire/tagwire/ScalarType", "toVarint", "(J)J"⟩ : MethodName)) hown (mvT hZ (hw _ (List.mem_of_getElem? (i := 4) rfl))) (mvT hZ (hw _ (List.mem_of_getElem? (i := 5) rfl))) (notFace_of_selects (args := #[]) (mvT hZ (hw _ (List.mem_of_getElem? (i := 7) rfl)))) (mvT hZ (hw _ (List.mem_of_getElem? (i := 7) rfl))) (mvT hZ (hw _ (List.mem_of_getElem? (i := 6) rfl))) (by decide) (backOf (W := 0) (rmA l Z a0 hw [] r_ScalarType_BOOL (pb &&& (1 : Int64)) (0 : Int32) (-1 : Int64) h0 n0 F_r_ScalarType_BOOL_zigzag F_r_ScalarType_BOOL_varintMask) hZ (hw _ (List.mem_of_getElem? (i := 8) rfl)) (hw _ (List.mem_of_getElem? (i := 2) rfl)) (by decide) (by decide)) q24a q24c (g := (mkF m 240 #[iv ps, .val (.long pb), .second, iv 6, iv (pb.toInt32), .val (.long ((pb.toInt32).toInt64)), .second, .val (.long (pb &&& (1 : Int64))), .second] [(.long (pb &&& (1 : Int64))), (.ref r_ScalarType_BOOL)])) rfl (by rw [hml]; rfl) (Steps.refl _) (argsL := [(.long (pb &&& (1 : Int64)))]) (rest := []) (lenOf pd_0 rfl) rfl (by show 2 * 0 + _ ≤ _; exact Nat.le_of_eq rfl) (hb hby at_240) (fun _ _ => ⟨rfl, e23, (by decide : 0 + 0 ≤ _), (by decide : 0 + 0 ≤ _)⟩)
    dsimp only [Pt.U, Pt.locs, Pt.cells, Pt.slots] at X24 l24 y24 z24 st24 hQ24
    subst l24 y24 z24
    obtain ⟨rfl, N24q, e24⟩ := hQ24
    have N24 := Fr.app N0 N24q
    refine Go.pull (V := T24.setTop (mkF m 243 #[iv ps, .val (.long pb), .second, iv 6, iv (pb.toInt32), .val (.long ((pb.toInt32).toInt64)), .second, .val (.long (pb &&& (1 : Int64))), .second] [(.long (own_tov (0 : Int32) (-1 : Int64) (pb &&& (1 : Int64))))])) (fun _ k => st24.trans k) ?_
    refine Go.pull (V := T24.setTop (mkF m 245 #[iv ps, .val (.long pb), .second, iv 6, iv (pb.toInt32), .val (.long ((pb.toInt32).toInt64)), .second, .val (.long (pb &&& (1 : Int64))), .second] [(.long (pb &&& (1 : Int64))), (.long (own_tov (0 : Int32) (-1 : Int64) (pb &&& (1 : Int64))))])) (fun t k => XS.lload X24.here hx rfl (hb hby at_243) rfl  k) ?_
    refine Go.pull (V := T24.setTop (mkF m 246 #[iv ps, .val (.long pb), .second, iv 6, iv (pb.toInt32), .val (.long ((pb.toInt32).toInt64)), .second, .val (.long (pb &&& (1 : Int64))), .second] [(.int (XT.cmpL (own_tov (0 : Int32) (-1 : Int64) (pb &&& (1 : Int64))) (pb &&& (1 : Int64))))])) (fun t k => XT.lcmp X24.here hx rfl (hb hby at_245) rfl k) ?_
    refine Go.pull (V := T24.setTop (mkF m 249 #[iv ps, .val (.long pb), .second, iv 6, iv (pb.toInt32), .val (.long ((pb.toInt32).toInt64)), .second, .val (.long (pb &&& (1 : Int64))), .second] [])) (fun t k => XS.ifNo X24.here hx rfl (hb hby at_246) rfl (XT.ll_ne_f (own_t0 _)) k) ?_
    refine Go.pull (V := T24.setTop (mkF m 250 #[iv ps, .val (.long pb), .second, iv 6, iv (pb.toInt32), .val (.long ((pb.toInt32).toInt64)), .second, .val (.long (pb &&& (1 : Int64))), .second] [(.int 1)])) (fun t k => XS.iconst X24.here hx rfl (hb hby at_249) k) ?_
    refine Go.pull (V := T24.setTop (mkF m 254 #[iv ps, .val (.long pb), .second, iv 6, iv (pb.toInt32), .val (.long ((pb.toInt32).toInt64)), .second, .val (.long (pb &&& (1 : Int64))), .second] [(.int 1)])) (fun t k => XS.goto X24.here hx rfl (pc0 := 250) (pc' := 254) rfl (hb hby at_250) (by decide) (by decide) k) ?_
    exact Go.retN X24 hx Bd.notSynchronized (t := .boolean) Bd.returns (by simp) (hb hby at_254) ⟨rfl, N24⟩ (by decide) (by decide)
set_option maxRecDepth 65536 in
set_option maxHeartbeats 40000000 in
theorem comes_1 {Post : Tables → Env → Array Value → State → Outcome → State → Prop} (hpost : ∀ tb e args s v u, (limb_1_1.after args s (.returned v) u = true ∧ limb_1_2.after args s (.returned v) u = true ∧ True) → FrameEnd s (.returned v) u (Jvm.fieldLocs frame_1_writes args s ++ Jvm.arrayLocs frame_1_arrays args s ++ Jvm.staticLocs frame_1_statics s) 0 0 → Post tb e args s (.returned v) u) :
    ArmFor flags0 classFile x code maxLocals ret World_1 tables_1 room_1 Calls_1 rest_1 Pre_1 Post := by
  intro l hfl _ _ p e ha hc hk s m args below hf hA hF happ hP
  obtain ⟨hcalls, hrest, hpre⟩ := hP
  obtain ⟨-, -, -, hnamed, -, -, -, hat⟩ := (Spec.applies_iff hf).mp happ
  obtain ⟨hg, hn⟩ := and_e (Cond.before_iff.mp (show (Jvm.Cond.and given_1 narrow_1).before args s = true from hpre))
  obtain ⟨y1, y2⟩ := and_e hg
  obtain ⟨y3, y4⟩ := and_e y2
  obtain ⟨y5, y6⟩ := and_e hn
  obtain ⟨y7, y8⟩ := and_e y6
  obtain ⟨y9, y10⟩ := and_e y8
  obtain ⟨y11, y12⟩ := and_e y10
  obtain ⟨y13, y14⟩ := and_e y12
  obtain ⟨y15, y16⟩ := and_e y14
  obtain ⟨y17, y18⟩ := and_e y16
  obtain ⟨y19, y20⟩ := and_e y18
  obtain ⟨y21, y22⟩ := and_e y20
  obtain ⟨y23, y24⟩ := and_e y22
  obtain ⟨y25, y26⟩ := and_e y24
  obtain ⟨y27, y28⟩ := and_e y26
  obtain ⟨y29, y30⟩ := and_e y28
  obtain ⟨y31, y32⟩ := and_e y30
  obtain ⟨y33, y34⟩ := and_e y32
  obtain ⟨y35, y36⟩ := and_e y34
  obtain ⟨y37, y38⟩ := and_e y36
  obtain ⟨y39, y40⟩ := and_e y38
  obtain ⟨y41, y42⟩ := and_e y40
  obtain ⟨y43, y44⟩ := and_e y42
  obtain ⟨w0, w1, rfl⟩ : ∃ w0 w1 : Value, args = #[w0, w1] := by
    have hs : args.size = 2 := by simpa [Cond.value, given_1] using y1
    obtain ⟨L⟩ := args
    match L, hs with
    | [w0, w1], _ => exact ⟨w0, w1, rfl⟩
  have hw := fun d (hd : d ∈ tables_1) => atoms_spec (ws := Jvm.Cond.code x code maxLocals ret :: tables_1) hat d (List.mem_cons_of_mem _ hd)
  have hfit : Fit s := fun {y c} hc i hi => by
    obtain ⟨ha, rfl⟩ := Array.getElem?_eq_some_iff.mp hc
    have q := List.all_eq_true.mp ((Array.all_eq_true_iff_forall_mem.mp hF) _ (Array.getElem_mem ha)) i (List.mem_range.mpr hi)
    simpa [Array.getElem?_eq_getElem hi] using q
  obtain ⟨i0, ei0⟩ := is_v y3
  obtain rfl : w0 = (.int i0) := Option.some.inj ei0
  obtain ⟨i1, ei1⟩ := isL_v y4
  obtain rfl : w1 = (.long i1) := Option.some.inj ei1
  obtain ⟨a_ScalarType_INT64, ev_a_ScalarType_INT64⟩ := exa_v y5
  have EX_a_ScalarType_INT64 : Exa s s.heap a_ScalarType_INT64 "com/example/tagwire/tagwire/ScalarType" := Exa.start ev_a_ScalarType_INT64 y5
  have ST_a_ScalarType_INT64 : Sta s s.heap "com/example/tagwire/tagwire/ScalarType" "INT64" "Lcom/example/tagwire/tagwire/ScalarType;" (.ref a_ScalarType_INT64) := Sta.start ev_a_ScalarType_INT64 (Or.inr ⟨(hw _ (List.mem_of_getElem? (i := 2) rfl)), (hw _ (List.mem_of_getElem? (i := 3) rfl))⟩)
  obtain ⟨a_ScalarType_UINT64, ev_a_ScalarType_UINT64⟩ := exa_v y11
  have EX_a_ScalarType_UINT64 : Exa s s.heap a_ScalarType_UINT64 "com/example/tagwire/tagwire/ScalarType" := Exa.start ev_a_ScalarType_UINT64 y11
  have ST_a_ScalarType_UINT64 : Sta s s.heap "com/example/tagwire/tagwire/ScalarType" "UINT64" "Lcom/example/tagwire/tagwire/ScalarType;" (.ref a_ScalarType_UINT64) := Sta.start ev_a_ScalarType_UINT64 (Or.inr ⟨(hw _ (List.mem_of_getElem? (i := 2) rfl)), (hw _ (List.mem_of_getElem? (i := 14) rfl))⟩)
  obtain ⟨a_ScalarType_SINT32, ev_a_ScalarType_SINT32⟩ := exa_v y17
  have EX_a_ScalarType_SINT32 : Exa s s.heap a_ScalarType_SINT32 "com/example/tagwire/tagwire/ScalarType" := Exa.start ev_a_ScalarType_SINT32 y17
  have ST_a_ScalarType_SINT32 : Sta s s.heap "com/example/tagwire/tagwire/ScalarType" "SINT32" "Lcom/example/tagwire/tagwire/ScalarType;" (.ref a_ScalarType_SINT32) := Sta.start ev_a_ScalarType_SINT32 (Or.inr ⟨(hw _ (List.mem_of_getElem? (i := 2) rfl)), (hw _ (List.mem_of_getElem? (i := 17) rfl))⟩)
  obtain ⟨a_ScalarType_SINT64, ev_a_ScalarType_SINT64⟩ := exa_v y23
  have EX_a_ScalarType_SINT64 : Exa s s.heap a_ScalarType_SINT64 "com/example/tagwire/tagwire/ScalarType" := Exa.start ev_a_ScalarType_SINT64 y23
  have ST_a_ScalarType_SINT64 : Sta s s.heap "com/example/tagwire/tagwire/ScalarType" "SINT64" "Lcom/example/tagwire/tagwire/ScalarType;" (.ref a_ScalarType_SINT64) := Sta.start ev_a_ScalarType_SINT64 (Or.inr ⟨(hw _ (List.mem_of_getElem? (i := 2) rfl)), (hw _ (List.mem_of_getElem? (i := 19) rfl))⟩)
  obtain ⟨a_ScalarType_INT32, ev_a_ScalarType_INT32⟩ := exa_v y29
  have EX_a_ScalarType_INT32 : Exa s s.heap a_ScalarType_INT32 "com/example/tagwire/tagwire/ScalarType" := Exa.start ev_a_ScalarType_INT32 y29
  have ST_a_ScalarType_INT32 : Sta s s.heap "com/example/tagwire/tagwire/ScalarType" "INT32" "Lcom/example/tagwire/tagwire/ScalarType;" (.ref a_ScalarType_INT32) := Sta.start ev_a_ScalarType_INT32 (Or.inr ⟨(hw _ (List.mem_of_getElem? (i := 2) rfl)), (hw _ (List.mem_of_getElem? (i := 21) rfl))⟩)
  obtain ⟨a_ScalarType_UINT32, ev_a_ScalarType_UINT32⟩ := exa_v y35
  have EX_a_ScalarType_UINT32 : Exa s s.heap a_ScalarType_UINT32 "com/example/tagwire/tagwire/ScalarType" := Exa.start ev_a_ScalarType_UINT32 y35
  have ST_a_ScalarType_UINT32 : Sta s s.heap "com/example/tagwire/tagwire/ScalarType" "UINT32" "Lcom/example/tagwire/tagwire/ScalarType;" (.ref a_ScalarType_UINT32) := Sta.start ev_a_ScalarType_UINT32 (Or.inr ⟨(hw _ (List.mem_of_getElem? (i := 2) rfl)), (hw _ (List.mem_of_getElem? (i := 23) rfl))⟩)
  obtain ⟨a_ScalarType_BOOL, ev_a_ScalarType_BOOL⟩ := exa_v y41
  have EX_a_ScalarType_BOOL : Exa s s.heap a_ScalarType_BOOL "com/example/tagwire/tagwire/ScalarType" := Exa.start ev_a_ScalarType_BOOL y41
  have ST_a_ScalarType_BOOL : Sta s s.heap "com/example/tagwire/tagwire/ScalarType" "BOOL" "Lcom/example/tagwire/tagwire/ScalarType;" (.ref a_ScalarType_BOOL) := Sta.start ev_a_ScalarType_BOOL (Or.inr ⟨(hw _ (List.mem_of_getElem? (i := 2) rfl)), (hw _ (List.mem_of_getElem? (i := 26) rfl))⟩)
  have FL_a_ScalarType_INT64_zigzag : Fld s s.heap a_ScalarType_INT64 "com/example/tagwire/tagwire/ScalarType" "zigzag" "Z" (.int 0) := Fld.start ((fld_at ev_a_ScalarType_INT64).symm.trans (own_eq_i y7))
  have FL_a_ScalarType_INT64_varintMask : Fld s s.heap a_ScalarType_INT64 "com/example/tagwire/tagwire/ScalarType" "varintMask" "J" (.long (-1)) := Fld.start ((fld_at ev_a_ScalarType_INT64).symm.trans (own_eq_l y9))
  have FL_a_ScalarType_UINT64_zigzag : Fld s s.heap a_ScalarType_UINT64 "com/example/tagwire/tagwire/ScalarType" "zigzag" "Z" (.int 0) := Fld.start ((fld_at ev_a_ScalarType_UINT64).symm.trans (own_eq_i y13))
  have FL_a_ScalarType_UINT64_varintMask : Fld s s.heap a_ScalarType_UINT64 "com/example/tagwire/tagwire/ScalarType" "varintMask" "J" (.long (-1)) := Fld.start ((fld_at ev_a_ScalarType_UINT64).symm.trans (own_eq_l y15))
  have FL_a_ScalarType_SINT32_zigzag : Fld s s.heap a_ScalarType_SINT32 "com/example/tagwire/tagwire/ScalarType" "zigzag" "Z" (.int 1) := Fld.start ((fld_at ev_a_ScalarType_SINT32).symm.trans (own_eq_i y19))
  have FL_a_ScalarType_SINT32_varintMask : Fld s s.heap a_ScalarType_SINT32 "com/example/tagwire/tagwire/ScalarType" "varintMask" "J" (.long 4294967295) := Fld.start ((fld_at ev_a_ScalarType_SINT32).symm.trans (own_eq_l y21))
  have FL_a_ScalarType_SINT64_zigzag : Fld s s.heap a_ScalarType_SINT64 "com/example/tagwire/tagwire/ScalarType" "zigzag" "Z" (.int 1) := Fld.start ((fld_at ev_a_ScalarType_SINT64).symm.trans (own_eq_i y25))
  have FL_a_ScalarType_SINT64_varintMask : Fld s s.heap a_ScalarType_SINT64 "com/example/tagwire/tagwire/ScalarType" "varintMask" "J" (.long (-1)) := Fld.start ((fld_at ev_a_ScalarType_SINT64).symm.trans (own_eq_l y27))
  have FL_a_ScalarType_INT32_zigzag : Fld s s.heap a_ScalarType_INT32 "com/example/tagwire/tagwire/ScalarType" "zigzag" "Z" (.int 0) := Fld.start ((fld_at ev_a_ScalarType_INT32).symm.trans (own_eq_i y31))
  have FL_a_ScalarType_INT32_varintMask : Fld s s.heap a_ScalarType_INT32 "com/example/tagwire/tagwire/ScalarType" "varintMask" "J" (.long (-1)) := Fld.start ((fld_at ev_a_ScalarType_INT32).symm.trans (own_eq_l y33))
  have FL_a_ScalarType_UINT32_zigzag : Fld s s.heap a_ScalarType_UINT32 "com/example/tagwire/tagwire/ScalarType" "zigzag" "Z" (.int 0) := Fld.start ((fld_at ev_a_ScalarType_UINT32).symm.trans (own_eq_i y37))
  have FL_a_ScalarType_UINT32_varintMask : Fld s s.heap a_ScalarType_UINT32 "com/example/tagwire/tagwire/ScalarType" "varintMask" "J" (.long 4294967295) := Fld.start ((fld_at ev_a_ScalarType_UINT32).symm.trans (own_eq_l y39))
  have FL_a_ScalarType_BOOL_zigzag : Fld s s.heap a_ScalarType_BOOL "com/example/tagwire/tagwire/ScalarType" "zigzag" "Z" (.int 0) := Fld.start ((fld_at ev_a_ScalarType_BOOL).symm.trans (own_eq_i y43))
  have FL_a_ScalarType_BOOL_varintMask : Fld s s.heap a_ScalarType_BOOL "com/example/tagwire/tagwire/ScalarType" "varintMask" "J" (.long (-1)) := Fld.start ((fld_at ev_a_ScalarType_BOOL).symm.trans (own_eq_l y44))
  obtain ⟨n, o, h1, h2, h3, _, L, rfl, ⟨rfl, N⟩, hq⟩ := rm0 l s _ hw tables_1 i0 i1 a_ScalarType_INT64 a_ScalarType_UINT64 a_ScalarType_SINT32 a_ScalarType_SINT64 a_ScalarType_INT32 a_ScalarType_UINT32 a_ScalarType_BOOL s.heap s.heap.size (Nat.le_refl _) ST_a_ScalarType_INT64 EX_a_ScalarType_INT64 ST_a_ScalarType_UINT64 EX_a_ScalarType_UINT64 ST_a_ScalarType_SINT32 EX_a_ScalarType_SINT32 ST_a_ScalarType_SINT64 EX_a_ScalarType_SINT64 ST_a_ScalarType_INT32 EX_a_ScalarType_INT32 ST_a_ScalarType_UINT32 EX_a_ScalarType_UINT32 ST_a_ScalarType_BOOL EX_a_ScalarType_BOOL FL_a_ScalarType_INT64_zigzag FL_a_ScalarType_INT64_varintMask FL_a_ScalarType_UINT64_zigzag FL_a_ScalarType_UINT64_varintMask FL_a_ScalarType_SINT32_zigzag FL_a_ScalarType_SINT32_varintMask FL_a_ScalarType_SINT64_zigzag FL_a_ScalarType_SINT64_varintMask FL_a_ScalarType_INT32_zigzag FL_a_ScalarType_INT32_varintMask FL_a_ScalarType_UINT32_zigzag FL_a_ScalarType_UINT32_varintMask FL_a_ScalarType_BOOL_zigzag FL_a_ScalarType_BOOL_varintMask p e ha hc hk s m _ below hf ((Spec.applies_iff_loose hf).mp happ).1 ⟨rfl, State.Warmed39.refl s, rfl⟩ trivial
  refine ⟨n, _, h1, h2, h3, hpost _ _ _ _ _ _ ⟨Cond.after_iff.mpr rfl, Cond.after_iff.mpr (eq_i res_at (Term.int_eval (1)) rfl), trivial⟩ ⟨hq.1, hq.2.1, (hq.2.2.sift fun y hy => Or.inr (N y hy)).mono (by decide) (by decide)⟩⟩
theorem main_1_1 : Claimed_1_1 := comes_1 fun _ _ _ _ _ _ h hF => ⟨h.1, hF⟩
theorem main_1_2 : Claimed_1_2 := comes_1 fun _ _ _ _ _ _ h hF => ⟨h.2.1, hF⟩
end Jvm.Pilot.@@N@@
namespace Jvm.Pilot.@@N@@
open Jvm Jvm.ClassFile Sem Op Lib Jvm.Free Jvm.Stand Jvm.Pilot.@@N@@.Jvm.D
/-! MADE BY PROGRAM (witnessworld.py) out of the Statement's table words and the real class files: 13 classes; the members and pool entries that the words name. The judged class is class 1, her method 1. -/
namespace start1
open Jvm.ClassFile
def u (s : String) : CpInfo := .utf8 (stringToUtf16 s)
/-- a pool by its gaps: so many unusable entries, then the entry; so many at the end -/
def gap : Nat → List CpInfo → List CpInfo
  | 0, r => r
  | n + 1, r => .unusable :: gap n r
def poolList (es : List (Nat × CpInfo)) (last : Nat) : List CpInfo := es.foldr (fun e r => gap e.1 (e.2 :: r)) (gap last [])
def pool (es : List (Nat × CpInfo)) (last : Nat) : Array CpInfo := ⟨poolList es last⟩
def fileOf (pool : Array CpInfo) (this : Nat) (attrs : Array Attribute := #[]) (ms : Array MethodInfo := #[]) (fl : Nat := 33) (sup : Nat := 0) (ifs : Array Nat := #[]) (fds : Array FieldInfo := #[]) : ClassFile where
  minorVersion := 0
  majorVersion := 65
  constantPool := pool
  accessFlags := fl
  thisClass := this
  superClass := sup
  interfaces := ifs
  fields := fds
  methods := ms
  attributes := attrs
def plain (name : String) (sup : Option ClassId) : Class where
  name := name
  kind := .ordinary
  loader := none
  accessFlags := 33
  super := sup
  interfaces := #[]
  cf := none
  fields := #[]
  methods := #[]
  instanceTypes := #[]
  staticTypes := #[]
  resolved := #[]
  callSites := []
  init := .initialized
  statics := none
  mirror := none

def pool0 : Array CpInfo := pool [(5, u "<init>"), (0, u "()V"), (1, .class_ 10), (1, u "java/lang/Object")] 113

def k0m0 : Method := { name := "<init>", desc := "()V", sig := { parameters := [], returnType := none }, accessFlags := 1, code := none }
/-- java/lang/Object -/
def k0 : Class := { plain "java/lang/Object" none with
  accessFlags := 33
  interfaces := #[]
  cf := some (fileOf pool0 8 #[] #[{ accessFlags := 1, nameIndex := 5, descriptorIndex := 6, attributes := #[] }] 33 0 #[] #[])
  fields := #[]
  methods := #[k0m0]
  instanceTypes := #[]
  staticTypes := #[]
  resolved := Array.replicate 124 none
  statics := none }

def pool1 : Array CpInfo := pool [(2, .class_ 4), (1, u "java/lang/Object"), (0, u "<init>"), (0, u "()V"), (0, .integer 2147483647), (0, .fieldref 9 10), (0, .class_ 11), (0, .nameAndType 12 13), (0, u "com/example/tagwire/tagwire/ScalarType"), (0, u "INT64"), (0, u "Lcom/example/tagwire/tagwire/ScalarType;"), (0, .methodref 9 15), (0, .nameAndType 16 17), (0, u "toVarint"), (0, u "(J)J"), (0, .fieldref 9 19), (0, .nameAndType 20 13), (0, u "UINT64"), (0, .fieldref 9 22), (0, .nameAndType 23 13), (0, u "INT32"), (0, .long 4294967296), (1, .fieldref 9 27), (0, .nameAndType 28 13), (0, u "UINT32"), (0, .long 2), (1, .long 18446744073709551614), (1, .fieldref 9 34), (0, .nameAndType 35 13), (0, u "SINT32"), (0, .fieldref 9 37), (0, .nameAndType 38 13), (0, u "SINT64"), (0, .fieldref 9 40), (0, .nameAndType 41 13), (0, u "BOOL"), (0, .class_ 43), (0, u "com/example/tagwire/tagwire/ScalarTypeToVarintPinLaw"), (2, u "law"), (0, u "(IJ)Z")] 3

def k1m0 : Method := { name := "<init>", desc := "()V", sig := { parameters := [], returnType := none }, accessFlags := 1, code := none }
def k1c1 : Code := { maxStack := 4, maxLocals := 9, code := code, exceptionTable := #[], attributes := #[] }
def k1m1 : Method := { name := "law", desc := "(IJ)Z", sig := { parameters := [.int, .long], returnType := some .boolean }, accessFlags := 9, code := some k1c1 }
/-- com/example/tagwire/tagwire/ScalarTypeToVarintPinLaw -/
def k1 : Class := { plain "com/example/tagwire/tagwire/ScalarTypeToVarintPinLaw" (some 0) with
  accessFlags := 49
  interfaces := #[]
  cf := some (fileOf pool1 42 #[] #[{ accessFlags := 1, nameIndex := 5, descriptorIndex := 6, attributes := #[] }, { accessFlags := 9, nameIndex := 46, descriptorIndex := 47, attributes := #[] }] 49 2 #[] #[])
  fields := #[]
  methods := #[k1m0, k1m1]
  instanceTypes := #[]
  staticTypes := #[]
  resolved := Array.replicate 51 none
  statics := none }

def pool2 : Array CpInfo := pool [(1, .class_ 2), (0, u "java/lang/constant/Constable"), (0, .class_ 4), (0, u "java/lang/Object")] 6

/-- java/lang/constant/Constable -/
def k2 : Class := { plain "java/lang/constant/Constable" (some 0) with
  accessFlags := 1537
  interfaces := #[]
  cf := some (fileOf pool2 1 #[] #[] 1537 3 #[] #[])
  fields := #[]
  methods := #[]
  instanceTypes := #[]
  staticTypes := #[]
  resolved := Array.replicate 11 none
  statics := none }

def pool3 : Array CpInfo := pool [(1, .class_ 2), (0, u "java/lang/Comparable"), (0, .class_ 4), (0, u "java/lang/Object")] 7

/-- java/lang/Comparable -/
def k3 : Class := { plain "java/lang/Comparable" (some 0) with
  accessFlags := 1537
  interfaces := #[]
  cf := some (fileOf pool3 1 #[] #[] 1537 3 #[] #[])
  fields := #[]
  methods := #[]
  instanceTypes := #[]
  staticTypes := #[]
  resolved := Array.replicate 12 none
  statics := none }

def pool4 : Array CpInfo := pool [(1, .class_ 2), (0, u "java/io/Serializable"), (0, .class_ 4), (0, u "java/lang/Object")] 2

/-- java/io/Serializable -/
def k4 : Class := { plain "java/io/Serializable" (some 0) with
  accessFlags := 1537
  interfaces := #[]
  cf := some (fileOf pool4 1 #[] #[] 1537 3 #[] #[])
  fields := #[]
  methods := #[]
  instanceTypes := #[]
  staticTypes := #[]
  resolved := Array.replicate 7 none
  statics := none }

def pool5 : Array CpInfo := pool [(2, .class_ 4), (1, u "java/lang/Enum"), (0, u "name"), (0, u "Ljava/lang/String;"), (2, u "ordinal"), (0, u "I"), (1, .class_ 14), (1, u "java/lang/Object"), (4, u "hash"), (86, .class_ 108), (1, u "java/lang/Enum$EnumDesc"), (2, .class_ 112), (0, u "java/lang/constant/Constable"), (0, .class_ 114), (0, u "java/lang/Comparable"), (0, .class_ 116), (0, u "java/io/Serializable")] 87

/-- java/lang/Enum -/
def k5 : Class := { plain "java/lang/Enum" (some 0) with
  accessFlags := 1057
  interfaces := #[2, 3, 4]
  cf := some (fileOf pool5 2 #[.nestMembers #[106]] #[] 1057 12 #[111, 113, 115] #[{ accessFlags := 18, nameIndex := 5, descriptorIndex := 6, attributes := #[] }, { accessFlags := 18, nameIndex := 9, descriptorIndex := 10, attributes := #[] }, { accessFlags := 2, nameIndex := 19, descriptorIndex := 10, attributes := #[] }])
  fields := #[{ name := "name", type := (.object "java/lang/String"), accessFlags := 18, slot := 0, constantValue := 0 }, { name := "ordinal", type := .int, accessFlags := 18, slot := 1, constantValue := 0 }, { name := "hash", type := .int, accessFlags := 2, slot := 2, constantValue := 0 }]
  methods := #[]
  instanceTypes := #[(.object "java/lang/String"), .int, .int]
  staticTypes := #[]
  resolved := Array.replicate 204 none
  statics := none }

def pool6 : Array CpInfo := pool [(1, .class_ 2), (0, u "com/example/tagwire/tagwire/FieldType"), (0, .class_ 4), (0, u "java/lang/Object")] 11

/-- com/example/tagwire/tagwire/FieldType -/
def k6 : Class := { plain "com/example/tagwire/tagwire/FieldType" (some 0) with
  accessFlags := 1537
  interfaces := #[]
  cf := some (fileOf pool6 1 #[] #[] 1537 3 #[] #[])
  fields := #[]
  methods := #[]
  instanceTypes := #[]
  staticTypes := #[]
  resolved := Array.replicate 16 none
  statics := none }

def pool7 : Array CpInfo := pool [(1, .class_ 2), (0, u "com/example/tagwire/tagwire/ScalarType"), (2, u "DOUBLE"), (0, u "Lcom/example/tagwire/tagwire/ScalarType;"), (2, u "FLOAT"), (2, u "INT64"), (2, u "UINT64"), (2, u "INT32"), (2, u "FIXED64"), (2, u "FIXED32"), (2, u "BOOL"), (2, u "STRING"), (2, u "BYTES"), (2, u "UINT32"), (2, u "SFIXED32"), (2, u "SFIXED64"), (2, u "SINT32"), (2, u "SINT64"), (2, u "$VALUES"), (0, u "[Lcom/example/tagwire/tagwire/ScalarType;"), (6, .class_ 61), (1, u "java/lang/Enum"), (8, u "keyword"), (0, u "Ljava/lang/String;"), (2, u "kind"), (0, u "Lcom/example/tagwire/tagwire/ScalarType$Kind;"), (2, u "bits"), (0, u "I"), (2, u "signed"), (0, u "Z"), (2, u "wireType"), (0, u "Lcom/example/tagwire/tagwire/WireType;"), (0, .fieldref 1 89), (0, .nameAndType 90 83), (0, u "zigzag"), (4, .fieldref 1 96), (0, .nameAndType 97 98), (0, u "varintMask"), (0, u "J"), (62, .class_ 163), (1, u "com/example/tagwire/tagwire/ScalarType$Kind"), (38, .class_ 204), (1, u "com/example/tagwire/tagwire/ScalarType$1"), (95, .class_ 301), (0, u "com/example/tagwire/tagwire/FieldType"), (21, u "(J)J"), (0, u "toVarint")] 26

def k7c0 : Code := { maxStack := 5, maxLocals := 5, code := prog_30_method_19_code, exceptionTable := #[], attributes := #[] }
def k7m0 : Method := { name := "toVarint", desc := "(J)J", sig := { parameters := [.long], returnType := some .long }, accessFlags := 0, code := some k7c0 }
/-- com/example/tagwire/tagwire/ScalarType -/
def k7 : Class := { plain "com/example/tagwire/tagwire/ScalarType" (some 5) with
  accessFlags := 16433
  interfaces := #[6]
  cf := some (fileOf pool7 1 #[.nestMembers #[202, 161]] #[{ accessFlags := 0, nameIndex := 324, descriptorIndex := 323, attributes := #[] }] 16433 59 #[300] #[{ accessFlags := 16409, nameIndex := 5, descriptorIndex := 6, attributes := #[] }, { accessFlags := 16409, nameIndex := 9, descriptorIndex := 6, attributes := #[] }, { accessFlags := 16409, nameIndex := 12, descriptorIndex := 6, attributes := #[] }, { accessFlags := 16409, nameIndex := 15, descriptorIndex := 6, attributes := #[] }, { accessFlags := 16409, nameIndex := 18, descriptorIndex := 6, attributes := #[] }, { accessFlags := 16409, nameIndex := 21, descriptorIndex := 6, attributes := #[] }, { accessFlags := 16409, nameIndex := 24, descriptorIndex := 6, attributes := #[] }, { accessFlags := 16409, nameIndex := 27, descriptorIndex := 6, attributes := #[] }, { accessFlags := 16409, nameIndex := 30, descriptorIndex := 6, attributes := #[] }, { accessFlags := 16409, nameIndex := 33, descriptorIndex := 6, attributes := #[] }, { accessFlags := 16409, nameIndex := 36, descriptorIndex := 6, attributes := #[] }, { accessFlags := 16409, nameIndex := 39, descriptorIndex := 6, attributes := #[] }, { accessFlags := 16409, nameIndex := 42, descriptorIndex := 6, attributes := #[] }, { accessFlags := 16409, nameIndex := 45, descriptorIndex := 6, attributes := #[] }, { accessFlags := 16409, nameIndex := 48, descriptorIndex := 6, attributes := #[] }, { accessFlags := 18, nameIndex := 70, descriptorIndex := 71, attributes := #[] }, { accessFlags := 18, nameIndex := 74, descriptorIndex := 75, attributes := #[] }, { accessFlags := 18, nameIndex := 78, descriptorIndex := 79, attributes := #[] }, { accessFlags := 18, nameIndex := 82, descriptorIndex := 83, attributes := #[] }, { accessFlags := 18, nameIndex := 86, descriptorIndex := 87, attributes := #[] }, { accessFlags := 18, nameIndex := 90, descriptorIndex := 83, attributes := #[] }, { accessFlags := 18, nameIndex := 97, descriptorIndex := 98, attributes := #[] }, { accessFlags := 4122, nameIndex := 51, descriptorIndex := 52, attributes := #[] }])
  fields := #[{ name := "DOUBLE", type := (.object "com/example/tagwire/tagwire/ScalarType"), accessFlags := 16409, slot := 0, constantValue := 0 }, { name := "FLOAT", type := (.object "com/example/tagwire/tagwire/ScalarType"), accessFlags := 16409, slot := 1, constantValue := 0 }, { name := "INT64", type := (.object "com/example/tagwire/tagwire/ScalarType"), accessFlags := 16409, slot := 2, constantValue := 0 }, { name := "UINT64", type := (.object "com/example/tagwire/tagwire/ScalarType"), accessFlags := 16409, slot := 3, constantValue := 0 }, { name := "INT32", type := (.object "com/example/tagwire/tagwire/ScalarType"), accessFlags := 16409, slot := 4, constantValue := 0 }, { name := "FIXED64", type := (.object "com/example/tagwire/tagwire/ScalarType"), accessFlags := 16409, slot := 5, constantValue := 0 }, { name := "FIXED32", type := (.object "com/example/tagwire/tagwire/ScalarType"), accessFlags := 16409, slot := 6, constantValue := 0 }, { name := "BOOL", type := (.object "com/example/tagwire/tagwire/ScalarType"), accessFlags := 16409, slot := 7, constantValue := 0 }, { name := "STRING", type := (.object "com/example/tagwire/tagwire/ScalarType"), accessFlags := 16409, slot := 8, constantValue := 0 }, { name := "BYTES", type := (.object "com/example/tagwire/tagwire/ScalarType"), accessFlags := 16409, slot := 9, constantValue := 0 }, { name := "UINT32", type := (.object "com/example/tagwire/tagwire/ScalarType"), accessFlags := 16409, slot := 10, constantValue := 0 }, { name := "SFIXED32", type := (.object "com/example/tagwire/tagwire/ScalarType"), accessFlags := 16409, slot := 11, constantValue := 0 }, { name := "SFIXED64", type := (.object "com/example/tagwire/tagwire/ScalarType"), accessFlags := 16409, slot := 12, constantValue := 0 }, { name := "SINT32", type := (.object "com/example/tagwire/tagwire/ScalarType"), accessFlags := 16409, slot := 13, constantValue := 0 }, { name := "SINT64", type := (.object "com/example/tagwire/tagwire/ScalarType"), accessFlags := 16409, slot := 14, constantValue := 0 }, { name := "keyword", type := (.object "java/lang/String"), accessFlags := 18, slot := 3, constantValue := 0 }, { name := "kind", type := (.object "com/example/tagwire/tagwire/ScalarType$Kind"), accessFlags := 18, slot := 4, constantValue := 0 }, { name := "bits", type := .int, accessFlags := 18, slot := 5, constantValue := 0 }, { name := "signed", type := .boolean, accessFlags := 18, slot := 6, constantValue := 0 }, { name := "wireType", type := (.object "com/example/tagwire/tagwire/WireType"), accessFlags := 18, slot := 7, constantValue := 0 }, { name := "zigzag", type := .boolean, accessFlags := 18, slot := 8, constantValue := 0 }, { name := "varintMask", type := .long, accessFlags := 18, slot := 9, constantValue := 0 }, { name := "$VALUES", type := (.array (.object "com/example/tagwire/tagwire/ScalarType")), accessFlags := 4122, slot := 15, constantValue := 0 }]
  methods := #[k7m0]
  instanceTypes := #[(.object "java/lang/String"), .int, .int, (.object "java/lang/String"), (.object "com/example/tagwire/tagwire/ScalarType$Kind"), .int, .boolean, (.object "com/example/tagwire/tagwire/WireType"), .boolean, .long]
  staticTypes := #[(.object "com/example/tagwire/tagwire/ScalarType"), (.object "com/example/tagwire/tagwire/ScalarType"), (.object "com/example/tagwire/tagwire/ScalarType"), (.object "com/example/tagwire/tagwire/ScalarType"), (.object "com/example/tagwire/tagwire/ScalarType"), (.object "com/example/tagwire/tagwire/ScalarType"), (.object "com/example/tagwire/tagwire/ScalarType"), (.object "com/example/tagwire/tagwire/ScalarType"), (.object "com/example/tagwire/tagwire/ScalarType"), (.object "com/example/tagwire/tagwire/ScalarType"), (.object "com/example/tagwire/tagwire/ScalarType"), (.object "com/example/tagwire/tagwire/ScalarType"), (.object "com/example/tagwire/tagwire/ScalarType"), (.object "com/example/tagwire/tagwire/ScalarType"), (.object "com/example/tagwire/tagwire/ScalarType"), (.array (.object "com/example/tagwire/tagwire/ScalarType"))]
  resolved := Array.replicate 351 none
  statics := some 0 }

def pool8 : Array CpInfo := pool [(1, u "java/lang/Cloneable"), (0, .class_ 1), (0, u "java/lang/Object"), (0, .class_ 3)] 3

/-- java/lang/Cloneable -/
def k8 : Class := { plain "java/lang/Cloneable" (some 0) with
  accessFlags := 1537
  interfaces := #[]
  cf := some (fileOf pool8 2 #[] #[] 1537 4 #[] #[])
  fields := #[]
  methods := #[]
  instanceTypes := #[]
  staticTypes := #[]
  resolved := Array.replicate 8 none
  statics := none }

/-- the primitive byte -/
def k9 : Class := { plain "byte" none with kind := .primitive 'B', accessFlags := 0x411 }
/-- [B -/
def k10 : Class := { plain "[B" (some 0) with kind := .array 9 .byte, interfaces := #[8, 4], accessFlags := 1041 }

/-- the primitive int -/
def k11 : Class := { plain "int" none with kind := .primitive 'I', accessFlags := 0x411 }
/-- [I -/
def k12 : Class := { plain "[I" (some 0) with kind := .array 11 .int, interfaces := #[8, 4], accessFlags := 1041 }

def heap : Heap := #[{ cls := 7, slots := #[.null, .null, .ref 1, .ref 2, .ref 5, .null, .null, .ref 7, .null, .null, .ref 6, .null, .null, .ref 3, .ref 4, .null], vm := .statics 7 },
  { cls := 7, slots := #[.null, .int 0, .int 0, .null, .null, .int 0, .int 0, .null, .int 0, .long (-1)], vm := .none },
  { cls := 7, slots := #[.null, .int 0, .int 0, .null, .null, .int 0, .int 0, .null, .int 0, .long (-1)], vm := .none },
  { cls := 7, slots := #[.null, .int 0, .int 0, .null, .null, .int 0, .int 0, .null, .int 1, .long 4294967295], vm := .none },
  { cls := 7, slots := #[.null, .int 0, .int 0, .null, .null, .int 0, .int 0, .null, .int 1, .long (-1)], vm := .none },
  { cls := 7, slots := #[.null, .int 0, .int 0, .null, .null, .int 0, .int 0, .null, .int 0, .long (-1)], vm := .none },
  { cls := 7, slots := #[.null, .int 0, .int 0, .null, .null, .int 0, .int 0, .null, .int 0, .long 4294967295], vm := .none },
  { cls := 7, slots := #[.null, .int 0, .int 0, .null, .null, .int 0, .int 0, .null, .int 0, .long (-1)], vm := .none }]
def classes : Array Class := #[k0, k1, k2, k3, k4, k5, k6, k7, k8, k9, k10, k11, k12]
def interned : List (Array UInt16 × Addr) := []
def slotsUsed : Nat := 86
def theMethod : MethodId := ⟨1, 1⟩
def args0 : Array Value := #[.int 2, .long 5]
def aboutOver (below : List Frame) : State where
  vm := { classes := classes, interned := interned.toArray }
  heap := heap
  slotsUsed := slotsUsed
  threads := #[{ frames := .invoking theMethod args0 :: below }]
def below0 : List Frame := [.native { method := ⟨0, 0⟩, args := #[] }]
def about1 : State := aboutOver below0
def p0 : Program := .bare "" "" ""
def e0 : Env := launch0.env 0 0 0
theorem w_frames : about1.frames = Frame.invoking theMethod args0 :: below0 := rfl
set_option maxRecDepth 65536 in
theorem w_args : argsFit about1.vm theMethod args0 = true := by decide +kernel
set_option maxRecDepth 65536 in
theorem w_heap : heapFits about1 = true := by decide +kernel
set_option maxRecDepth 65536 in
theorem w_runnable : about1.curStatus? = some .runnable := by decide +kernel
set_option maxRecDepth 65536 in
theorem w_alone : about1.alone = true := by decide +kernel
set_option maxRecDepth 65536 in
theorem w_named : about1.methodNamed? x = some theMethod := by decide +kernel
set_option maxRecDepth 65536 in
theorem w_hears : about1.hears theMethod below0 = true := by decide +kernel
set_option maxRecDepth 65536 in
theorem w_ripe : about1.ripe theMethod args0 below0 = true := by decide +kernel
theorem w_running : about1.status = .running := rfl
set_option maxRecDepth 65536 in
theorem w_room : about1.hasRoom e0.platform room_1 = true :=
  launch0.hasRoom_least _ room_1 (by decide +kernel) (by decide +kernel) (by decide +kernel) (by decide +kernel) (by decide +kernel) (by decide +kernel)
theorem allAtoms_all (ts : List Jvm.Cond) (a : Array Jvm.Value) (st : Jvm.State) : (allAtoms ts).before a st = ts.all (fun c => c.before a st) := by
  induction ts with
  | nil => rfl
  | cons c t ih =>
    show (Jvm.Cond.and c (allAtoms t)).before a st = _
    rw [Jvm.Cond.before_and, ih, List.all_cons]
def words1 : List Jvm.Cond := Jvm.Cond.code x code maxLocals ret :: tables_1
/-- a 'code' word, met by the world's own term for the bytes: nothing is compared byte by byte -/
theorem code_word {y : MethodName} {bytes : ByteArray} {mx : Nat} {rt : Option FieldType} {a : Array Value} {s : State} {m : MethodId} {meth : Method} {c : Code} (h1 : s.methodNamed? y = some m) (h2 : s.vm.method? m = some meth) (h3 : meth.code = some c) (h4 : c.code = bytes)
    (h5 : (c.maxLocals == mx && c.exceptionTable.isEmpty && decide (c.maxStack ≤ mostOperands) && decide (meth.sig.returnType = rt) && !meth.locks && decide (parseMethodDescriptor y.desc = some meth.sig)) = true) : (Jvm.Cond.code y bytes mx rt).before a s = true := by
  simp only [Bool.and_eq_true, beq_iff_eq, Bool.not_eq_true', decide_eq_true_eq] at h5
  obtain ⟨⟨⟨⟨⟨g1, g2⟩, g3⟩, g4⟩, g5⟩, g6⟩ := h5
  simp [Cond.before, Cond.holds, Cond.value, h1, h2, h3, h4, g1, g2, g3, g4, g5, g6]
def isCode : Jvm.Cond → Bool
  | .code _ _ _ _ => true
  | _ => false
theorem all_split {L : List Jvm.Cond} {P : Jvm.Cond → Bool} (h1 : L.all (fun c => isCode c || P c) = true) (h2 : ∀ c ∈ L.filter isCode, P c = true) : L.all P = true := by
  refine List.all_eq_true.mpr fun c hc => ?_
  have h := List.all_eq_true.mp h1 c hc
  rcases Bool.eq_false_or_eq_true (isCode c) with hi | hi
  · exact h2 c (List.mem_filter.mpr ⟨hc, hi⟩)
  · simpa [hi] using h
set_option maxRecDepth 65536 in
theorem w_c0 : (Jvm.Cond.code x code maxLocals ret).before args0 about1 = true := code_word (m := ⟨1, 1⟩) (meth := k1m1) (c := k1c1) (by decide +kernel) rfl rfl rfl (by decide +kernel)
set_option maxRecDepth 65536 in
theorem w_c1 : (Jvm.Cond.code ({ cls := "com/example/tagwire/tagwire/ScalarType", name := "toVarint", desc := "(J)J" } : Jvm.MethodName) prog_30_method_19_code (5 : Nat) (Option.some Jvm.ClassFile.FieldType.long)).before args0 about1 = true := code_word (m := ⟨7, 0⟩) (meth := k7m0) (c := k7c0) (by decide +kernel) rfl rfl rfl (by decide +kernel)
def codes1 : List Jvm.Cond := [Jvm.Cond.code x code maxLocals ret, Jvm.Cond.code ({ cls := "com/example/tagwire/tagwire/ScalarType", name := "toVarint", desc := "(J)J" } : Jvm.MethodName) prog_30_method_19_code (5 : Nat) (Option.some Jvm.ClassFile.FieldType.long)]
set_option maxRecDepth 65536 in
theorem codes_eq : words1.filter isCode = codes1 := rfl
theorem w_codes : ∀ c ∈ words1.filter isCode, c.before args0 about1 = true := by
  rw [codes_eq]
  intro c hc
  simp only [codes1, List.mem_cons, List.not_mem_nil, or_false] at hc
  rcases hc with rfl | rfl
  · exact w_c0
  · exact w_c1
set_option maxRecDepth 65536 in
theorem w_t1 : (words1.take 24).all (fun c => isCode c || c.before args0 about1) = true := by decide +kernel
set_option maxRecDepth 65536 in
theorem w_t2 : (words1.drop 24).all (fun c => isCode c || c.before args0 about1) = true := by decide +kernel
theorem w_tables : (allAtoms (Jvm.Cond.code x code maxLocals ret :: tables_1)).before args0 about1 = true := by
  rw [allAtoms_all]
  show words1.all (fun c => c.before args0 about1) = true
  refine all_split ?_ w_codes
  rw [← List.take_append_drop 24 words1, List.all_append, w_t1, w_t2]
  rfl
set_option maxRecDepth 65536 in
theorem w_case : (Jvm.Cond.and given_1 narrow_1).before args0 about1 = true := by decide +kernel
theorem w_applies : (headSpec (Jvm.Cond.code x code maxLocals ret :: tables_1) room_1).applies x e0.platform about1 = true :=
  (Spec.applies_iff w_frames).mpr ⟨w_running, w_runnable, w_alone, w_named, w_hears, w_ripe, w_room, w_tables⟩
theorem atStart : AtStart classFile x code maxLocals ret World_1 tables_1 room_1 Calls_1 rest_1 Pre_1 launch0 p0 e0 about1 theMethod args0 below0 :=
  ⟨lists_1, trivial, launch0.admits_env _ _ _, launch0.least_env, fairChoices_fair.cas, fairChoices_fair.clock, w_frames, w_args, w_heap, w_applies, trivial, trivial, w_case⟩
end start1
theorem witness_1 : WitnessClaimed_1 := ⟨start1.p0, start1.e0, start1.about1, start1.theMethod, start1.args0, start1.below0, start1.atStart⟩
end Jvm.Pilot.@@N@@
