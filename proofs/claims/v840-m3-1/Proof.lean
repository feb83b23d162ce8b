import JvmDerived
import JvmDerived.Pilot.@@N@@Statement
import JvmDerived.Pilot.@@N@@Code
set_option linter.unusedVariables false
set_option linter.unusedSimpArgs false
namespace Jvm.Pilot.@@N@@
open Jvm Jvm.ClassFile Sem Op Lib Jvm.Free Jvm.Stand Jvm.LawKit Jvm.RoadKit Bundle Jvm.Pilot.@@N@@.Jvm.D
section Own
variable {p : Program} {l : Launch} {e : Env} {R : Room} {s : State} {m : MethodId} {args : Array Value} {below : List Frame} {meth : Method} {c : Code} {T : State} {locs : List Loc} {cells slots : Nat} {P : Option Value → Heap → List Loc → Prop} {kk nn : Nat}
/-- from U a run comes to an end at which P holds, within kk cells and nn slots -/
def Go (p : Program) (e : Env) (below : List Frame) (s : State) (P : Option Value → Heap → List Loc → Prop) (kk nn : Nat) (U : State) : Prop :=
  ∃ s₂ o, Steps p.tables e below U s₂ ∧ s₂.status = .running ∧ Ended s₂ below o ∧ ∃ v L, o = .returned v ∧ P v s₂.heap L ∧ FrameEnd s o s₂ L kk nn
theorem Go.pull {U V : State} (h : ∀ t, Steps p.tables e below V t → Steps p.tables e below U t) (g : Go p e below s P kk nn V) : Go p e below s P kk nn U := by
  obtain ⟨s2, o, h1, h2⟩ := g
  exact ⟨s2, o, h _ h1, h2⟩
theorem Go.fin (X : Stand p l e R s m args below meth c T locs cells slots) {f : JFrame} {v : Option Value} (hlk : meth.locks = false) (hv : meth.sig.returnType = none → v = none)
    (hs : ∀ fs, (∀ (f : JFrame) (acts : List Action), f.method = m → f.locked = none → f.entered = [] → (doReturn e (T.setTop f) acts v).1 = T.setFrames fs) → Steps p.tables e below (T.setTop f) (T.setFrames fs))
    (hP : P v T.heap locs) (hk : cells ≤ kk) (hn : slots ≤ nn) : Go p e below s P kk nn (T.setTop f) := by
  obtain ⟨fs, hr, hrun, hended, hW, hsame⟩ := X.leave (v := v) hv hlk
  exact ⟨_, _, hs fs hr, hrun, hended, _, _, rfl, hP, ⟨_, rfl⟩, hW, hsame.mono hk hn⟩
theorem Go.retN (X : Stand p l e R s m args below meth c T locs cells slots) (hx : p.tables.exec = Jvm.exec) (hlk : meth.locks = false) {pc : Nat} {Ls : Array Slot} {z : Int32} {t : FieldType} {rest : List Value} (hret : meth.sig.returnType = some t) (ht : t = .boolean ∨ t = .byte ∨ t = .char ∨ t = .short)
    (hd : decode c.code pc = .ok (.ireturn, 1)) (hP : P (some (.int (nar t z))) T.heap locs) (hk : cells ≤ kk) (hn : slots ≤ nn) : Go p e below s P kk nn (T.setTop (mkF m pc Ls (.int z :: rest))) :=
  Go.fin X hlk (fun h => by rw [hret] at h; cases h) (fun fs hr => RoadKit.retN X hx hret ht hd hr) hP hk hn
theorem Go.retI (X : Stand p l e R s m args below meth c T locs cells slots) (hx : p.tables.exec = Jvm.exec) (hlk : meth.locks = false) {pc : Nat} {Ls : Array Slot} {z : Int32} {rest : List Value} (hret : meth.sig.returnType = some .int)
    (hd : decode c.code pc = .ok (.ireturn, 1)) (hP : P (some (.int z)) T.heap locs) (hk : cells ≤ kk) (hn : slots ≤ nn) : Go p e below s P kk nn (T.setTop (mkF m pc Ls (.int z :: rest))) :=
  Go.fin X hlk (fun h => by rw [hret] at h; cases h) (fun fs hr => retOut X hx hret rfl (Or.inl ⟨rfl, Or.inl rfl, z, rfl⟩) hd hr) hP hk hn
theorem Go.retJ (X : Stand p l e R s m args below meth c T locs cells slots) (hx : p.tables.exec = Jvm.exec) (hlk : meth.locks = false) {pc : Nat} {Ls : Array Slot} {z : Int64} {rest : List Value} (hret : meth.sig.returnType = some .long)
    (hd : decode c.code pc = .ok (.lreturn, 1)) (hP : P (some (.long z)) T.heap locs) (hk : cells ≤ kk) (hn : slots ≤ nn) : Go p e below s P kk nn (T.setTop (mkF m pc Ls (.long z :: rest))) :=
  Go.fin X hlk (fun h => by rw [hret] at h; cases h) (fun fs hr => retOut X hx hret rfl (Or.inr (Or.inl ⟨rfl, rfl, z, rfl⟩)) hd hr) hP hk hn
theorem Go.retR (X : Stand p l e R s m args below meth c T locs cells slots) (hx : p.tables.exec = Jvm.exec) (hlk : meth.locks = false) {pc : Nat} {Ls : Array Slot} {w : Value} {t : FieldType} {rest : List Value} (hret : meth.sig.returnType = some t) (hna : narrow t w = w) (ht : t.isReference = true) (hw : w.isRef = true)
    (hd : decode c.code pc = .ok (.areturn, 1)) (hP : P (some w) T.heap locs) (hk : cells ≤ kk) (hn : slots ≤ nn) : Go p e below s P kk nn (T.setTop (mkF m pc Ls (w :: rest))) :=
  Go.fin X hlk (fun h => by rw [hret] at h; cases h) (fun fs hr => retOut X hx hret hna (Or.inr (Or.inr (Or.inr (Or.inr ⟨rfl, ht, hw⟩)))) hd hr) hP hk hn
theorem Go.ret0 (X : Stand p l e R s m args below meth c T locs cells slots) (hx : p.tables.exec = Jvm.exec) (hlk : meth.locks = false) {pc : Nat} {Ls : Array Slot} (hret : meth.sig.returnType = none)
    (hd : decode c.code pc = .ok (.return_, 1)) (hP : P none T.heap locs) (hk : cells ≤ kk) (hn : slots ≤ nn) : Go p e below s P kk nn (T.setTop (mkF m pc Ls [])) :=
  Go.fin X hlk (fun _ => rfl) (fun fs hr => X.returnOut hx hret hd hr) hP hk hn
theorem own_lsw {tb : Tables} [Ours tb] {e : Env} {below : List Frame} {T target : State} {m : MethodId} {c : Code} {g : JFrame} (h : At T m c below) (hx : tb.exec = Jvm.exec) (hg : g.method = m) {dflt : Int} {prs : Array (Int × Int)} {len : Nat} {o : Int} {pc0 pc' : Nat} (hpc : g.pc = pc0)
    (hd : decode c.code g.pc = .ok (.lookupswitch dflt prs, len)) {i : Int32} {rest : List Value} (hs : g.stack = .int i :: rest) (hord : (prs.toList.zip (prs.toList.drop 1)).all (fun (a, next) => a.1 < next.1) = true) (hoff : lookupswitch.offset prs.toList dflt i.toInt = o)
    (ho : 0 ≤ (pc0 : Int) + o) (hp : ((pc0 : Int) + o).toNat = pc') (hr : Steps tb e below (T.setTop { g with pc := pc', stack := rest }) target) : Steps tb e below (T.setTop g) target := by
  subst hg hpc hp hoff
  jvm_step h [h.top, hx, hd, hs, ho, lookupswitch.wp_chain]
  exact ⟨by simpa using hord, hr⟩
theorem own_eq_i {t : Term} {n : Int32} {first : State} {o : Option Outcome} {idx : List Nat} (h : (Cond.eq t (.int n)).value args first o s idx = some true) : t.eval args first o idx s = some (.int n) := by
  obtain ⟨x, y, e1, e2, k1, k2⟩ := cmp_v (Or.inl h)
  cases (Term.int_eval n).symm.trans e2
  obtain ⟨z, rfl⟩ : ∃ z, x = .int z := k2
  rw [e1, gotT (Cond.eq_ints e1 e2) h]
theorem own_eq_l {t : Term} {n : Int64} {first : State} {o : Option Outcome} {idx : List Nat} (h : (Cond.eq t (.long n)).value args first o s idx = some true) : t.eval args first o idx s = some (.long n) := by
  obtain ⟨x, y, e1, e2, k1, k2⟩ := cmp_v (Or.inl h)
  have e3 : (Term.long n).eval args first o idx s = some (.long n) := rfl
  cases e3.symm.trans e2
  obtain ⟨z, rfl⟩ : ∃ z, x = .long z := k2
  rw [e1, gotT (eq_L e1 e2) h]
theorem own_eq_r {t u : Term} {a : Addr} {first : State} {o : Option Outcome} {idx : List Nat} (hu : u.eval args first o idx s = some (.ref a)) (h : (Cond.eq t u).value args first o s idx = some true) : t.eval args first o idx s = some (.ref a) := by
  obtain ⟨x, y, e1, e2, k1, k2⟩ := cmp_v (Or.inl h)
  cases hu.symm.trans e2
  have k3 : (Value.ref a).isRef = true ∧ x.isRef = true := k2
  rw [e1, gotT (eq_R e1 e2 k3.2 rfl) h]
theorem own_mvM {Z : State} {a0 args : Array Value} {own host : String} {index : Nat} {y : MethodName} (hZ : Z.Warmed39 s.vm) (w : (Cond.methodLinkNest own index y host).before a0 Z = true) : (Cond.methodLinkNest own index y host).before args s = true := (Cond.methodLinkNest_wide hZ w :)
theorem own_sta_keep {Z : State} {h h' : Heap} {C n d : String} {w : Value} {ws : List Addr} (F : Sta Z h C n d w) (K : Keep h h' ws) (q : ∀ x ∈ ws, ∃ c : Cell, h[x]? = some c ∧ ∀ q, c.vm ≠ .statics q) : Sta Z h' C n d w := by
  obtain ⟨cf, i, k, f, st, cell, h1, h2, h3, h4, h5, h6, h7⟩ := F
  refine ⟨cf, i, k, f, st, cell, h1, h2, h3, h4, K.2.1 st cell h5 (fun hm => ?_), h6, h7⟩
  obtain ⟨c, hc, hq⟩ := q st hm
  cases h5.symm.trans hc
  cases hv : cell.vm with
  | statics r => exact hq r hv
  | _ => rw [hv] at h6; cases h6
end Own
theorem pd_0 : parseMethodDescriptor "(II)I" = some ⟨[.int, .int], some .int⟩ := by decide +kernel
theorem pd_1 : parseMethodDescriptor "([JII)V" = some ⟨[(.array .long), .int, .int], none⟩ := by decide +kernel
theorem pd_2 : parseMethodDescriptor "(Ljava/util/DualPivotQuicksort$Sorter;[JIII)V" = some ⟨[(.object "java/util/DualPivotQuicksort$Sorter"), (.array .long), .int, .int, .int], none⟩ := by decide +kernel
theorem pd_3 : parseMethodDescriptor "([JIII)V" = some ⟨[(.array .long), .int, .int, .int], none⟩ := by decide +kernel
theorem pd_4 : parseMethodDescriptor "([JI)[J" = some ⟨[(.array .long), .int], some (.array .long)⟩ := by decide +kernel
theorem pd_5 : parseMethodDescriptor "([J)V" = some ⟨[(.array .long)], none⟩ := by decide +kernel
theorem pd_6 : parseMethodDescriptor "([II)[I" = some ⟨[(.array .int), .int], some (.array .int)⟩ := by decide +kernel
theorem pd_7 : parseMethodDescriptor "([I)V" = some ⟨[(.array .int)], none⟩ := by decide +kernel
theorem pd_8 : parseMethodDescriptor "()V" = some ⟨[], none⟩ := by decide +kernel
theorem pd_9 : parseMethodDescriptor "(II)Lcom/example/salish/salish/regex/CodePointSet$Builder;" = some ⟨[.int, .int], some (.object "com/example/salish/salish/regex/CodePointSet$Builder")⟩ := by decide +kernel
theorem pd_10 : parseMethodDescriptor "()Lcom/example/salish/salish/regex/CodePointSet;" = some ⟨[], some (.object "com/example/salish/salish/regex/CodePointSet")⟩ := by decide +kernel
theorem pd_11 : parseMethodDescriptor "()I" = some ⟨[], some .int⟩ := by decide +kernel
theorem pd_12 : parseMethodDescriptor "(I)I" = some ⟨[.int], some .int⟩ := by decide +kernel
def own_max (pa pb : Int32) : Int32 := if pa < pb then pb else pa
def own_min (pa pb : Int32) : Int32 := if pb < pa then pb else pa
theorem own_mx (a b : Int32) : a.toInt ≤ (own_max a b).toInt ∧ b.toInt ≤ (own_max a b).toInt ∧ ((own_max a b).toInt = a.toInt ∨ (own_max a b).toInt = b.toInt) := by
  unfold own_max; split
  · rename_i h; rw [Int32.lt_iff_toInt_lt] at h; omega
  · rename_i h; rw [Int32.lt_iff_toInt_lt] at h; omega
theorem own_mn (a b : Int32) : (own_min a b).toInt ≤ a.toInt ∧ (own_min a b).toInt ≤ b.toInt ∧ ((own_min a b).toInt = a.toInt ∨ (own_min a b).toInt = b.toInt) := by
  unfold own_min; split
  · rename_i h; rw [Int32.lt_iff_toInt_lt] at h; omega
  · rename_i h; rw [Int32.lt_iff_toInt_lt] at h; omega
theorem own_mm {a b : Int32} (h1 : 0 ≤ a.toInt ∧ a.toInt ≤ 1114111) (h2 : 0 ≤ b.toInt ∧ b.toInt ≤ 1114111) : 0 ≤ (own_min a b).toInt ∧ (own_min a b).toInt ≤ (own_max a b).toInt ∧ (own_max a b).toInt ≤ 1114111 := by
  have := own_mx a b; have := own_mn a b; omega
theorem own_nlt {a b : Int32} (h : b.toInt ≤ a.toInt) : ¬ a < b := by rw [Int32.lt_iff_toInt_lt]; omega
theorem own_n0 {a : Int32} (h : 0 ≤ a.toInt) : ¬ a < 0 := own_nlt h
theorem own_nm {a : Int32} (h : a.toInt ≤ 1114111) : ¬ (1114111 : Int32) < a := own_nlt h
theorem own_p1 {q : Int32} (h : 0 ≤ q.toInt ∧ q.toInt ≤ 1114111) : (q + (1 : Int32)).toInt = q.toInt + 1 := by
  have h2 := c_iadd q 1; have h3 : (1 : Int32).toInt = 1 := rfl; have r := rng32 (q + 1); rw [h3] at h2; omega
theorem own_cp1 (x : Int32) : 0 ≤ ((1114096 : Int32) + (x &&& (15 : Int32))).toInt ∧ ((1114096 : Int32) + (x &&& (15 : Int32))).toInt ≤ 1114111 := by
  have h0 : (x &&& (15 : Int32)).toInt = x.toInt % (2 ^ 4 : Nat) := c_mask x 15 4 (by decide) (by decide)
  have h2 := c_iadd 1114096 (x &&& (15 : Int32)); have h3 : (1114096 : Int32).toInt = 1114096 := rfl; have r := rng32 ((1114096 : Int32) + (x &&& (15 : Int32))); rw [h3] at h2; omega
theorem own_cp2 (x : Int32) : 0 ≤ ((0 : Int32) + (x &&& (15 : Int32))).toInt ∧ ((0 : Int32) + (x &&& (15 : Int32))).toInt ≤ 1114111 := by
  have h0 : (x &&& (15 : Int32)).toInt = x.toInt % (2 ^ 4 : Nat) := c_mask x 15 4 (by decide) (by decide)
  have h2 := c_iadd 0 (x &&& (15 : Int32)); have h3 : (0 : Int32).toInt = 0 := rfl; have r := rng32 ((0 : Int32) + (x &&& (15 : Int32))); rw [h3] at h2; omega
theorem own_cp3 (x : Int32) : 0 ≤ ((x &&& (2147483647 : Int32)) % (1114112 : Int32)).toInt ∧ ((x &&& (2147483647 : Int32)) % (1114112 : Int32)).toInt ≤ 1114111 := by
  have h0 : (x &&& (2147483647 : Int32)).toInt = x.toInt % (2 ^ 31 : Nat) := c_mask x 2147483647 31 (by decide) (by decide)
  have h1 := (c_irem (x &&& (2147483647 : Int32)) 1114112 1114112 (by decide)).1 (by omega)
  omega
def own_pk (p q : Int32) : Int64 := ((p.toInt64 <<< ((32 : Int32) &&& 0x3f).toInt64) ||| q.toInt64)
theorem own_pkI {p q : Int32} (h : 0 ≤ p.toInt ∧ p.toInt ≤ q.toInt ∧ q.toInt ≤ 1114111) : (own_pk p q).toInt = p.toInt * 4294967296 + q.toInt := by
  have ja := c_lshl p.toInt64 32 32 (by decide); have r1 := rng64 (p.toInt64 <<< ((32 : Int32) &&& 0x3f).toInt64); rw [c_i2l] at ja
  have jb : (p.toInt64 <<< ((32 : Int32) &&& 0x3f).toInt64).toInt = p.toInt * 4294967296 := by omega
  have e3 := c_orL (p.toInt64 <<< ((32 : Int32) &&& 0x3f).toInt64) q.toInt64 32 (by decide) 4294967296 (by decide) (by omega) (by rw [c_i2l]; omega) (by rw [c_i2l]; omega)
  rw [jb, c_i2l] at e3
  have r2 := rng64 (own_pk p q)
  unfold own_pk at r2 ⊢
  omega
theorem own_hi {p q : Int32} (h : 0 ≤ p.toInt ∧ p.toInt ≤ q.toInt ∧ q.toInt ≤ 1114111) : (((own_pk p q).toUInt64 >>> ((32 : Int32) &&& 0x3f).toInt64.toUInt64).toInt64).toInt32 = p := by
  have ja := c_lushr (own_pk p q) 32 32 (by decide) (by decide); rw [own_pkI h] at ja
  have jb := c_l2i (((own_pk p q).toUInt64 >>> ((32 : Int32) &&& 0x3f).toInt64.toUInt64).toInt64); rw [ja] at jb
  have r := rng32 (((own_pk p q).toUInt64 >>> ((32 : Int32) &&& 0x3f).toInt64.toUInt64).toInt64).toInt32
  exact Int32.toInt_inj.mp (by omega)
theorem own_lo {p q : Int32} (h : 0 ≤ p.toInt ∧ p.toInt ≤ q.toInt ∧ q.toInt ≤ 1114111) : (own_pk p q).toInt32 = q := by
  have jb := c_l2i (own_pk p q); rw [own_pkI h] at jb
  have r := rng32 (own_pk p q).toInt32
  exact Int32.toInt_inj.mp (by omega)
def own_bld (p1 q1 p2 q2 zn : Int32) (vs : List Value) : Prop :=
  (own_pk p2 q2 < own_pk p1 q1 ∧ (q2 + (1 : Int32)) < p1 ∧ zn = 4 ∧ vs = [.int p2, .int q2, .int p1, .int q1]) ∨ (own_pk p2 q2 < own_pk p1 q1 ∧ ¬ (q2 + (1 : Int32)) < p1 ∧ zn = 2 ∧ vs = [.int p2, .int (own_max q2 q1)]) ∨
  (¬ own_pk p2 q2 < own_pk p1 q1 ∧ (q1 + (1 : Int32)) < p2 ∧ zn = 4 ∧ vs = [.int p1, .int q1, .int p2, .int q2]) ∨ (¬ own_pk p2 q2 < own_pk p1 q1 ∧ ¬ (q1 + (1 : Int32)) < p2 ∧ zn = 2 ∧ vs = [.int p1, .int (own_max q1 q2)])
theorem dC_0 : decode method_2_code 0 = .ok (.iload_n 1, 1) := by decide +kernel
theorem dC_1 : decode method_2_code 1 = .ok (.iconst 1, 1) := by decide +kernel
theorem dC_2 : decode method_2_code 2 = .ok (.iand, 1) := by decide +kernel
theorem dC_3 : decode method_2_code 3 = .ok (.ifCond .eq 7, 3) := by decide +kernel
theorem dC_6 : decode method_2_code 6 = .ok (.iconst 1, 1) := by decide +kernel
theorem dC_7 : decode method_2_code 7 = .ok (.goto 4, 3) := by decide +kernel
theorem dC_10 : decode method_2_code 10 = .ok (.iconst 0, 1) := by decide +kernel
theorem dC_11 : decode method_2_code 11 = .ok (.istore_n 2, 1) := by decide +kernel
theorem dC_12 : decode method_2_code 12 = .ok (.iload_n 1, 1) := by decide +kernel
theorem dC_13 : decode method_2_code 13 = .ok (.iconst 2, 1) := by decide +kernel
theorem dC_14 : decode method_2_code 14 = .ok (.iand, 1) := by decide +kernel
theorem dC_15 : decode method_2_code 15 = .ok (.ifCond .eq 7, 3) := by decide +kernel
theorem dC_18 : decode method_2_code 18 = .ok (.iconst 1, 1) := by decide +kernel
theorem dC_19 : decode method_2_code 19 = .ok (.goto 4, 3) := by decide +kernel
theorem dC_22 : decode method_2_code 22 = .ok (.iconst 0, 1) := by decide +kernel
theorem dC_23 : decode method_2_code 23 = .ok (.istore_n 3, 1) := by decide +kernel
theorem dC_24 : decode method_2_code 24 = .ok (.iload_n 2, 1) := by decide +kernel
theorem dC_25 : decode method_2_code 25 = .ok (.ifCond .eq 19, 3) := by decide +kernel
theorem dC_28 : decode method_2_code 28 = .ok (.iload_n 3, 1) := by decide +kernel
theorem dC_29 : decode method_2_code 29 = .ok (.ifCond .eq 8, 3) := by decide +kernel
theorem dC_32 : decode method_2_code 32 = .ok (.ldc 7, 2) := by decide +kernel
theorem dC_34 : decode method_2_code 34 = .ok (.goto 4, 3) := by decide +kernel
theorem dC_37 : decode method_2_code 37 = .ok (.iconst 0, 1) := by decide +kernel
theorem dC_38 : decode method_2_code 38 = .ok (.iload_n 0, 1) := by decide +kernel
theorem dC_39 : decode method_2_code 39 = .ok (.bipush 15, 2) := by decide +kernel
theorem dC_41 : decode method_2_code 41 = .ok (.iand, 1) := by decide +kernel
theorem dC_42 : decode method_2_code 42 = .ok (.iadd, 1) := by decide +kernel
theorem dC_43 : decode method_2_code 43 = .ok (.ireturn, 1) := by decide +kernel
theorem dC_44 : decode method_2_code 44 = .ok (.iload_n 0, 1) := by decide +kernel
theorem dC_45 : decode method_2_code 45 = .ok (.ldc 8, 2) := by decide +kernel
theorem dC_47 : decode method_2_code 47 = .ok (.iand, 1) := by decide +kernel
theorem dC_48 : decode method_2_code 48 = .ok (.ldc 9, 2) := by decide +kernel
theorem dC_50 : decode method_2_code 50 = .ok (.irem, 1) := by decide +kernel
theorem dC_51 : decode method_2_code 51 = .ok (.ireturn, 1) := by decide +kernel
theorem efC (m : MethodId) (x0 : Int32) (x1 : Int32) : entryFrame m #[(.int x0), (.int x1)] 4 = mkF m 0 #[iv x0, iv x1, .unset, .unset] [] := by first | (simp [entryFrame, mkF, argsToLocals, Value.category]; done) | rfl
theorem pn_com_example_salish_salish_regex_BuilderAddPinLaw : plainName "com/example/salish/salish/regex/BuilderAddPinLaw" = true := by first | (simp [plainName, overriddenIn]; done) | decide +kernel
def QC (Z : State) (px : Int32) (pm : Int32) (h0 : Heap) (n0 : Nat) (v : Option Value) (h : Heap) (L : List Loc) : Prop := ∃ (pr : Int32), v = some (.int pr) ∧ Fr n0 L ∧ h = h0 ∧ (0 ≤ pr.toInt ∧ pr.toInt ≤ 1114111)
set_option maxRecDepth 65536 in
set_option maxHeartbeats 40000000 in
theorem rmC (l : Launch) (Z : State) (a0 : Array Value) (hw : ∀ d ∈ tables_1, d.before a0 Z = true) (ws : List Jvm.Cond) (px : Int32) (pm : Int32) (h0 : Heap) (n0 : Nat) :
    MetFree l (⟨"com/example/salish/salish/regex/BuilderAddPinLaw", "cp", "(II)I"⟩ : MethodName) (head1 (Jvm.Cond.code (⟨"com/example/salish/salish/regex/BuilderAddPinLaw", "cp", "(II)I"⟩ : MethodName) method_2_code 4 (some .int) :: ws) ({ frames := 0, cells := 0, slots := 0, locals := 0 } : Room)) (fun as' U => as' = #[(.int px), (.int pm)] ∧ Z.Warmed39 U.vm ∧ U.heap = h0) (fun _ _ _ _ _ => True) (fun _ U o U' => ∃ v L, o = .returned v ∧ QC Z px pm h0 n0 v U'.heap L ∧ FrameEnd U o U' L ({ frames := 0, cells := 0, slots := 0, locals := 0 } : Room).cells ({ frames := 0, cells := 0, slots := 0, locals := 0 } : Room).slots) := by
  refine MetFree.of_bodySF (plainFor_of_name pn_com_example_salish_salish_regex_BuilderAddPinLaw) hisR ?_
  intro p e s m args below meth c s₁ Bd hml0 hP hK
  obtain ⟨rfl, hZ, hh⟩ := hP
  have hx := Bd.exec
  have hby := Bd.bytes
  have hml : c.maxLocals = 4 := hml0
  have hown : s.vm.findClass "com/example/salish/salish/regex/BuilderAddPinLaw" = some m.cls := findClass_of_methodNamed Bd.named
  have hnm := (name_of_methodNamed Bd.named Bd.method).1
  have X0 : Stand p l e ({ frames := 0, cells := 0, slots := 0, locals := 0 } : Room) s m #[(.int px), (.int pm)] below meth c s₁ [] 0 0 := Stand.of_body Bd
  have e0 : s₁.heap = h0 := by rw [← hh, Bd.state]; rfl
  have N0 := Fr.nil n0
  show Go p e below s (fun v h L => QC Z px pm h0 n0 v h L) 0 0 _
  refine Go.pull (V := s₁.setTop (mkF m 0 #[iv px, iv pm, .unset, .unset] [])) (fun t k => castTop (efC m px pm) k) ?_
  refine Go.pull (V := s₁.setTop (mkF m 1 #[iv px, iv pm, .unset, .unset] [(.int pm)])) (fun t k => XS.iloadN X0.here hx rfl (hb hby dC_0) rfl  k) ?_
  refine Go.pull (V := s₁.setTop (mkF m 2 #[iv px, iv pm, .unset, .unset] [(.int 1), (.int pm)])) (fun t k => XS.iconst X0.here hx rfl (hb hby dC_1) k) ?_
  refine Go.pull (V := s₁.setTop (mkF m 3 #[iv px, iv pm, .unset, .unset] [(.int (pm &&& (1 : Int32)))])) (fun t k => XS.iand X0.here hx rfl (hb hby dC_2) rfl k) ?_
  by_cases hc3_1 : (pm &&& (1 : Int32)) = 0
  · skip
    refine Go.pull (V := s₁.setTop (mkF m 10 #[iv px, iv pm, .unset, .unset] [])) (fun t k => XS.ifYes X0.here hx rfl (pc0 := 3) (pc' := 10) rfl (hb hby dC_3) rfl (XT.i0_eq_t hc3_1) (by decide) (by decide) k) ?_
    refine Go.pull (V := s₁.setTop (mkF m 11 #[iv px, iv pm, .unset, .unset] [(.int 0)])) (fun t k => XS.iconst X0.here hx rfl (hb hby dC_10) k) ?_
    refine Go.pull (V := s₁.setTop (mkF m 12 #[iv px, iv pm, iv 0, .unset] [])) (fun t k => XS.istoreN X0.here hx rfl (hb hby dC_11) rfl (l' := #[iv px, iv pm, iv 0, .unset]) rfl k) ?_
    refine Go.pull (V := s₁.setTop (mkF m 13 #[iv px, iv pm, iv 0, .unset] [(.int pm)])) (fun t k => XS.iloadN X0.here hx rfl (hb hby dC_12) rfl  k) ?_
    refine Go.pull (V := s₁.setTop (mkF m 14 #[iv px, iv pm, iv 0, .unset] [(.int 2), (.int pm)])) (fun t k => XS.iconst X0.here hx rfl (hb hby dC_13) k) ?_
    refine Go.pull (V := s₁.setTop (mkF m 15 #[iv px, iv pm, iv 0, .unset] [(.int (pm &&& (2 : Int32)))])) (fun t k => XS.iand X0.here hx rfl (hb hby dC_14) rfl k) ?_
    by_cases hc15_2 : (pm &&& (2 : Int32)) = 0
    · skip
      refine Go.pull (V := s₁.setTop (mkF m 22 #[iv px, iv pm, iv 0, .unset] [])) (fun t k => XS.ifYes X0.here hx rfl (pc0 := 15) (pc' := 22) rfl (hb hby dC_15) rfl (XT.i0_eq_t hc15_2) (by decide) (by decide) k) ?_
      refine Go.pull (V := s₁.setTop (mkF m 23 #[iv px, iv pm, iv 0, .unset] [(.int 0)])) (fun t k => XS.iconst X0.here hx rfl (hb hby dC_22) k) ?_
      refine Go.pull (V := s₁.setTop (mkF m 24 #[iv px, iv pm, iv 0, iv 0] [])) (fun t k => XS.istoreN X0.here hx rfl (hb hby dC_23) rfl (l' := #[iv px, iv pm, iv 0, iv 0]) rfl k) ?_
      refine Go.pull (V := s₁.setTop (mkF m 25 #[iv px, iv pm, iv 0, iv 0] [(.int 0)])) (fun t k => XS.iloadN X0.here hx rfl (hb hby dC_24) rfl  k) ?_
      refine Go.pull (V := s₁.setTop (mkF m 44 #[iv px, iv pm, iv 0, iv 0] [])) (fun t k => XS.ifYes X0.here hx rfl (pc0 := 25) (pc' := 44) rfl (hb hby dC_25) rfl (XT.i0_eq_t (by decide)) (by decide) (by decide) k) ?_
      refine Go.pull (V := s₁.setTop (mkF m 45 #[iv px, iv pm, iv 0, iv 0] [(.int px)])) (fun t k => XS.iloadN X0.here hx rfl (hb hby dC_44) rfl  k) ?_
      refine Go.pull (V := s₁.setTop (mkF m 47 #[iv px, iv pm, iv 0, iv 0] [(.int 2147483647), (.int px)])) (fun t k => X0.ldcInt hx hown (mvT hZ (hw _ (List.mem_of_getElem? (i := 4) rfl))) (g := (mkF m 45 #[iv px, iv pm, iv 0, iv 0] [(.int px)])) rfl (hb hby dC_45) _ k) ?_
      refine Go.pull (V := s₁.setTop (mkF m 48 #[iv px, iv pm, iv 0, iv 0] [(.int (px &&& (2147483647 : Int32)))])) (fun t k => XS.iand X0.here hx rfl (hb hby dC_47) rfl k) ?_
      refine Go.pull (V := s₁.setTop (mkF m 50 #[iv px, iv pm, iv 0, iv 0] [(.int 1114112), (.int (px &&& (2147483647 : Int32)))])) (fun t k => X0.ldcInt hx hown (mvT hZ (hw _ (List.mem_of_getElem? (i := 5) rfl))) (g := (mkF m 48 #[iv px, iv pm, iv 0, iv 0] [(.int (px &&& (2147483647 : Int32)))])) rfl (hb hby dC_48) _ k) ?_
      refine Go.pull (V := s₁.setTop (mkF m 51 #[iv px, iv pm, iv 0, iv 0] [(.int ((px &&& (2147483647 : Int32)) % (1114112 : Int32)))])) (fun t k => iremM X0 hx rfl (hb hby dC_50) rfl (by decide) k) ?_
      exact Go.retI X0 hx Bd.notSynchronized Bd.returns (hb hby dC_51) ⟨((px &&& (2147483647 : Int32)) % (1114112 : Int32)), rfl, N0, e0, (own_cp3 _)⟩ (by decide) (by decide)
    · skip
      refine Go.pull (V := s₁.setTop (mkF m 18 #[iv px, iv pm, iv 0, .unset] [])) (fun t k => XS.ifNo X0.here hx rfl (hb hby dC_15) rfl (XT.i0_eq_f hc15_2) k) ?_
      refine Go.pull (V := s₁.setTop (mkF m 19 #[iv px, iv pm, iv 0, .unset] [(.int 1)])) (fun t k => XS.iconst X0.here hx rfl (hb hby dC_18) k) ?_
      refine Go.pull (V := s₁.setTop (mkF m 23 #[iv px, iv pm, iv 0, .unset] [(.int 1)])) (fun t k => XS.goto X0.here hx rfl (pc0 := 19) (pc' := 23) rfl (hb hby dC_19) (by decide) (by decide) k) ?_
      refine Go.pull (V := s₁.setTop (mkF m 24 #[iv px, iv pm, iv 0, iv 1] [])) (fun t k => XS.istoreN X0.here hx rfl (hb hby dC_23) rfl (l' := #[iv px, iv pm, iv 0, iv 1]) rfl k) ?_
      refine Go.pull (V := s₁.setTop (mkF m 25 #[iv px, iv pm, iv 0, iv 1] [(.int 0)])) (fun t k => XS.iloadN X0.here hx rfl (hb hby dC_24) rfl  k) ?_
      refine Go.pull (V := s₁.setTop (mkF m 44 #[iv px, iv pm, iv 0, iv 1] [])) (fun t k => XS.ifYes X0.here hx rfl (pc0 := 25) (pc' := 44) rfl (hb hby dC_25) rfl (XT.i0_eq_t (by decide)) (by decide) (by decide) k) ?_
      refine Go.pull (V := s₁.setTop (mkF m 45 #[iv px, iv pm, iv 0, iv 1] [(.int px)])) (fun t k => XS.iloadN X0.here hx rfl (hb hby dC_44) rfl  k) ?_
      refine Go.pull (V := s₁.setTop (mkF m 47 #[iv px, iv pm, iv 0, iv 1] [(.int 2147483647), (.int px)])) (fun t k => X0.ldcInt hx hown (mvT hZ (hw _ (List.mem_of_getElem? (i := 4) rfl))) (g := (mkF m 45 #[iv px, iv pm, iv 0, iv 1] [(.int px)])) rfl (hb hby dC_45) _ k) ?_
      refine Go.pull (V := s₁.setTop (mkF m 48 #[iv px, iv pm, iv 0, iv 1] [(.int (px &&& (2147483647 : Int32)))])) (fun t k => XS.iand X0.here hx rfl (hb hby dC_47) rfl k) ?_
      refine Go.pull (V := s₁.setTop (mkF m 50 #[iv px, iv pm, iv 0, iv 1] [(.int 1114112), (.int (px &&& (2147483647 : Int32)))])) (fun t k => X0.ldcInt hx hown (mvT hZ (hw _ (List.mem_of_getElem? (i := 5) rfl))) (g := (mkF m 48 #[iv px, iv pm, iv 0, iv 1] [(.int (px &&& (2147483647 : Int32)))])) rfl (hb hby dC_48) _ k) ?_
      refine Go.pull (V := s₁.setTop (mkF m 51 #[iv px, iv pm, iv 0, iv 1] [(.int ((px &&& (2147483647 : Int32)) % (1114112 : Int32)))])) (fun t k => iremM X0 hx rfl (hb hby dC_50) rfl (by decide) k) ?_
      exact Go.retI X0 hx Bd.notSynchronized Bd.returns (hb hby dC_51) ⟨((px &&& (2147483647 : Int32)) % (1114112 : Int32)), rfl, N0, e0, (own_cp3 _)⟩ (by decide) (by decide)
  · skip
    refine Go.pull (V := s₁.setTop (mkF m 6 #[iv px, iv pm, .unset, .unset] [])) (fun t k => XS.ifNo X0.here hx rfl (hb hby dC_3) rfl (XT.i0_eq_f hc3_1) k) ?_
    refine Go.pull (V := s₁.setTop (mkF m 7 #[iv px, iv pm, .unset, .unset] [(.int 1)])) (fun t k => XS.iconst X0.here hx rfl (hb hby dC_6) k) ?_
    refine Go.pull (V := s₁.setTop (mkF m 11 #[iv px, iv pm, .unset, .unset] [(.int 1)])) (fun t k => XS.goto X0.here hx rfl (pc0 := 7) (pc' := 11) rfl (hb hby dC_7) (by decide) (by decide) k) ?_
    refine Go.pull (V := s₁.setTop (mkF m 12 #[iv px, iv pm, iv 1, .unset] [])) (fun t k => XS.istoreN X0.here hx rfl (hb hby dC_11) rfl (l' := #[iv px, iv pm, iv 1, .unset]) rfl k) ?_
    refine Go.pull (V := s₁.setTop (mkF m 13 #[iv px, iv pm, iv 1, .unset] [(.int pm)])) (fun t k => XS.iloadN X0.here hx rfl (hb hby dC_12) rfl  k) ?_
    refine Go.pull (V := s₁.setTop (mkF m 14 #[iv px, iv pm, iv 1, .unset] [(.int 2), (.int pm)])) (fun t k => XS.iconst X0.here hx rfl (hb hby dC_13) k) ?_
    refine Go.pull (V := s₁.setTop (mkF m 15 #[iv px, iv pm, iv 1, .unset] [(.int (pm &&& (2 : Int32)))])) (fun t k => XS.iand X0.here hx rfl (hb hby dC_14) rfl k) ?_
    by_cases hc15_3 : (pm &&& (2 : Int32)) = 0
    · skip
      refine Go.pull (V := s₁.setTop (mkF m 22 #[iv px, iv pm, iv 1, .unset] [])) (fun t k => XS.ifYes X0.here hx rfl (pc0 := 15) (pc' := 22) rfl (hb hby dC_15) rfl (XT.i0_eq_t hc15_3) (by decide) (by decide) k) ?_
      refine Go.pull (V := s₁.setTop (mkF m 23 #[iv px, iv pm, iv 1, .unset] [(.int 0)])) (fun t k => XS.iconst X0.here hx rfl (hb hby dC_22) k) ?_
      refine Go.pull (V := s₁.setTop (mkF m 24 #[iv px, iv pm, iv 1, iv 0] [])) (fun t k => XS.istoreN X0.here hx rfl (hb hby dC_23) rfl (l' := #[iv px, iv pm, iv 1, iv 0]) rfl k) ?_
      refine Go.pull (V := s₁.setTop (mkF m 25 #[iv px, iv pm, iv 1, iv 0] [(.int 1)])) (fun t k => XS.iloadN X0.here hx rfl (hb hby dC_24) rfl  k) ?_
      refine Go.pull (V := s₁.setTop (mkF m 28 #[iv px, iv pm, iv 1, iv 0] [])) (fun t k => XS.ifNo X0.here hx rfl (hb hby dC_25) rfl (XT.i0_eq_f (by decide)) k) ?_
      refine Go.pull (V := s₁.setTop (mkF m 29 #[iv px, iv pm, iv 1, iv 0] [(.int 0)])) (fun t k => XS.iloadN X0.here hx rfl (hb hby dC_28) rfl  k) ?_
      refine Go.pull (V := s₁.setTop (mkF m 37 #[iv px, iv pm, iv 1, iv 0] [])) (fun t k => XS.ifYes X0.here hx rfl (pc0 := 29) (pc' := 37) rfl (hb hby dC_29) rfl (XT.i0_eq_t (by decide)) (by decide) (by decide) k) ?_
      refine Go.pull (V := s₁.setTop (mkF m 38 #[iv px, iv pm, iv 1, iv 0] [(.int 0)])) (fun t k => XS.iconst X0.here hx rfl (hb hby dC_37) k) ?_
      refine Go.pull (V := s₁.setTop (mkF m 39 #[iv px, iv pm, iv 1, iv 0] [(.int px), (.int 0)])) (fun t k => XS.iloadN X0.here hx rfl (hb hby dC_38) rfl  k) ?_
      refine Go.pull (V := s₁.setTop (mkF m 41 #[iv px, iv pm, iv 1, iv 0] [(.int 15), (.int px), (.int 0)])) (fun t k => XS.bipush X0.here hx rfl (hb hby dC_39) k) ?_
      refine Go.pull (V := s₁.setTop (mkF m 42 #[iv px, iv pm, iv 1, iv 0] [(.int (px &&& (15 : Int32))), (.int 0)])) (fun t k => XS.iand X0.here hx rfl (hb hby dC_41) rfl k) ?_
      refine Go.pull (V := s₁.setTop (mkF m 43 #[iv px, iv pm, iv 1, iv 0] [(.int ((0 : Int32) + (px &&& (15 : Int32))))])) (fun t k => XS.iadd X0.here hx rfl (hb hby dC_42) rfl k) ?_
      exact Go.retI X0 hx Bd.notSynchronized Bd.returns (hb hby dC_43) ⟨((0 : Int32) + (px &&& (15 : Int32))), rfl, N0, e0, (own_cp2 _)⟩ (by decide) (by decide)
    · skip
      refine Go.pull (V := s₁.setTop (mkF m 18 #[iv px, iv pm, iv 1, .unset] [])) (fun t k => XS.ifNo X0.here hx rfl (hb hby dC_15) rfl (XT.i0_eq_f hc15_3) k) ?_
      refine Go.pull (V := s₁.setTop (mkF m 19 #[iv px, iv pm, iv 1, .unset] [(.int 1)])) (fun t k => XS.iconst X0.here hx rfl (hb hby dC_18) k) ?_
      refine Go.pull (V := s₁.setTop (mkF m 23 #[iv px, iv pm, iv 1, .unset] [(.int 1)])) (fun t k => XS.goto X0.here hx rfl (pc0 := 19) (pc' := 23) rfl (hb hby dC_19) (by decide) (by decide) k) ?_
      refine Go.pull (V := s₁.setTop (mkF m 24 #[iv px, iv pm, iv 1, iv 1] [])) (fun t k => XS.istoreN X0.here hx rfl (hb hby dC_23) rfl (l' := #[iv px, iv pm, iv 1, iv 1]) rfl k) ?_
      refine Go.pull (V := s₁.setTop (mkF m 25 #[iv px, iv pm, iv 1, iv 1] [(.int 1)])) (fun t k => XS.iloadN X0.here hx rfl (hb hby dC_24) rfl  k) ?_
      refine Go.pull (V := s₁.setTop (mkF m 28 #[iv px, iv pm, iv 1, iv 1] [])) (fun t k => XS.ifNo X0.here hx rfl (hb hby dC_25) rfl (XT.i0_eq_f (by decide)) k) ?_
      refine Go.pull (V := s₁.setTop (mkF m 29 #[iv px, iv pm, iv 1, iv 1] [(.int 1)])) (fun t k => XS.iloadN X0.here hx rfl (hb hby dC_28) rfl  k) ?_
      refine Go.pull (V := s₁.setTop (mkF m 32 #[iv px, iv pm, iv 1, iv 1] [])) (fun t k => XS.ifNo X0.here hx rfl (hb hby dC_29) rfl (XT.i0_eq_f (by decide)) k) ?_
      refine Go.pull (V := s₁.setTop (mkF m 34 #[iv px, iv pm, iv 1, iv 1] [(.int 1114096)])) (fun t k => X0.ldcInt hx hown (mvT hZ (hw _ (List.mem_of_getElem? (i := 89) rfl))) (g := (mkF m 32 #[iv px, iv pm, iv 1, iv 1] [])) rfl (hb hby dC_32) _ k) ?_
      refine Go.pull (V := s₁.setTop (mkF m 38 #[iv px, iv pm, iv 1, iv 1] [(.int 1114096)])) (fun t k => XS.goto X0.here hx rfl (pc0 := 34) (pc' := 38) rfl (hb hby dC_34) (by decide) (by decide) k) ?_
      refine Go.pull (V := s₁.setTop (mkF m 39 #[iv px, iv pm, iv 1, iv 1] [(.int px), (.int 1114096)])) (fun t k => XS.iloadN X0.here hx rfl (hb hby dC_38) rfl  k) ?_
      refine Go.pull (V := s₁.setTop (mkF m 41 #[iv px, iv pm, iv 1, iv 1] [(.int 15), (.int px), (.int 1114096)])) (fun t k => XS.bipush X0.here hx rfl (hb hby dC_39) k) ?_
      refine Go.pull (V := s₁.setTop (mkF m 42 #[iv px, iv pm, iv 1, iv 1] [(.int (px &&& (15 : Int32))), (.int 1114096)])) (fun t k => XS.iand X0.here hx rfl (hb hby dC_41) rfl k) ?_
      refine Go.pull (V := s₁.setTop (mkF m 43 #[iv px, iv pm, iv 1, iv 1] [(.int ((1114096 : Int32) + (px &&& (15 : Int32))))])) (fun t k => XS.iadd X0.here hx rfl (hb hby dC_42) rfl k) ?_
      exact Go.retI X0 hx Bd.notSynchronized Bd.returns (hb hby dC_43) ⟨((1114096 : Int32) + (px &&& (15 : Int32))), rfl, N0, e0, (own_cp1 _)⟩ (by decide) (by decide)
theorem dMn_0 : decode jdk_29_method_69_code 0 = .ok (.iload_n 0, 1) := by decide +kernel
theorem dMn_1 : decode jdk_29_method_69_code 1 = .ok (.iload_n 1, 1) := by decide +kernel
theorem dMn_2 : decode jdk_29_method_69_code 2 = .ok (.if_icmp .gt 7, 3) := by decide +kernel
theorem dMn_5 : decode jdk_29_method_69_code 5 = .ok (.iload_n 0, 1) := by decide +kernel
theorem dMn_6 : decode jdk_29_method_69_code 6 = .ok (.goto 4, 3) := by decide +kernel
theorem dMn_9 : decode jdk_29_method_69_code 9 = .ok (.iload_n 1, 1) := by decide +kernel
theorem dMn_10 : decode jdk_29_method_69_code 10 = .ok (.ireturn, 1) := by decide +kernel
theorem efMn (m : MethodId) (x0 : Int32) (x1 : Int32) : entryFrame m #[(.int x0), (.int x1)] 2 = mkF m 0 #[iv x0, iv x1] [] := by first | (simp [entryFrame, mkF, argsToLocals, Value.category]; done) | rfl
def QMn (Z : State) (pa : Int32) (pb : Int32) (h0 : Heap) (n0 : Nat) (v : Option Value) (h : Heap) (L : List Loc) : Prop := v = some (.int (own_min pa pb)) ∧ Fr n0 L ∧ h = h0
set_option maxRecDepth 65536 in
set_option maxHeartbeats 40000000 in
theorem rmMn (l : Launch) (Z : State) (a0 : Array Value) (hw : ∀ d ∈ tables_1, d.before a0 Z = true) (ws : List Jvm.Cond) (pa : Int32) (pb : Int32) (h0 : Heap) (n0 : Nat) :
    MetFree l (⟨"java/lang/Math", "min", "(II)I"⟩ : MethodName) (head1 (Jvm.Cond.code (⟨"java/lang/Math", "min", "(II)I"⟩ : MethodName) jdk_29_method_69_code 2 (some .int) :: ws) ({ frames := 0, cells := 0, slots := 0, locals := 0 } : Room)) (fun as' U => as' = #[(.int pa), (.int pb)] ∧ Z.Warmed39 U.vm ∧ U.heap = h0) (fun _ _ _ _ _ => True) (fun _ U o U' => ∃ v L, o = .returned v ∧ QMn Z pa pb h0 n0 v U'.heap L ∧ FrameEnd U o U' L ({ frames := 0, cells := 0, slots := 0, locals := 0 } : Room).cells ({ frames := 0, cells := 0, slots := 0, locals := 0 } : Room).slots) := by
  refine MetFree.of_bodySF (Jvm.Free.JP.mathPlain rfl (by decide +kernel)) hisR ?_
  intro p e s m args below meth c s₁ Bd hml0 hP hK
  obtain ⟨rfl, hZ, hh⟩ := hP
  have hx := Bd.exec
  have hby := Bd.bytes
  have hml : c.maxLocals = 2 := hml0
  have hown : s.vm.findClass "java/lang/Math" = some m.cls := findClass_of_methodNamed Bd.named
  have hnm := (name_of_methodNamed Bd.named Bd.method).1
  have X0 : Stand p l e ({ frames := 0, cells := 0, slots := 0, locals := 0 } : Room) s m #[(.int pa), (.int pb)] below meth c s₁ [] 0 0 := Stand.of_body Bd
  have e0 : s₁.heap = h0 := by rw [← hh, Bd.state]; rfl
  have N0 := Fr.nil n0
  show Go p e below s (fun v h L => QMn Z pa pb h0 n0 v h L) 0 0 _
  refine Go.pull (V := s₁.setTop (mkF m 0 #[iv pa, iv pb] [])) (fun t k => castTop (efMn m pa pb) k) ?_
  refine Go.pull (V := s₁.setTop (mkF m 1 #[iv pa, iv pb] [(.int pa)])) (fun t k => XS.iloadN X0.here hx rfl (hb hby dMn_0) rfl  k) ?_
  refine Go.pull (V := s₁.setTop (mkF m 2 #[iv pa, iv pb] [(.int pb), (.int pa)])) (fun t k => XS.iloadN X0.here hx rfl (hb hby dMn_1) rfl  k) ?_
  by_cases hc2_1 : pb < pa
  · skip
    refine Go.pull (V := s₁.setTop (mkF m 9 #[iv pa, iv pb] [])) (fun t k => XS.icmpYes X0.here hx rfl (pc0 := 2) (pc' := 9) rfl (hb hby dMn_2) rfl (XT.ii_gt_t hc2_1) (by decide) (by decide) k) ?_
    refine Go.pull (V := s₁.setTop (mkF m 10 #[iv pa, iv pb] [(.int pb)])) (fun t k => XS.iloadN X0.here hx rfl (hb hby dMn_9) rfl  k) ?_
    exact Go.retI X0 hx Bd.notSynchronized Bd.returns (hb hby dMn_10) ⟨(by rw [own_min, if_pos hc2_1] <;> rfl), N0, e0⟩ (by decide) (by decide)
  · skip
    refine Go.pull (V := s₁.setTop (mkF m 5 #[iv pa, iv pb] [])) (fun t k => XS.icmpNo X0.here hx rfl (hb hby dMn_2) rfl (XT.ii_gt_f hc2_1) k) ?_
    refine Go.pull (V := s₁.setTop (mkF m 6 #[iv pa, iv pb] [(.int pa)])) (fun t k => XS.iloadN X0.here hx rfl (hb hby dMn_5) rfl  k) ?_
    refine Go.pull (V := s₁.setTop (mkF m 10 #[iv pa, iv pb] [(.int pa)])) (fun t k => XS.goto X0.here hx rfl (pc0 := 6) (pc' := 10) rfl (hb hby dMn_6) (by decide) (by decide) k) ?_
    exact Go.retI X0 hx Bd.notSynchronized Bd.returns (hb hby dMn_10) ⟨(by rw [own_min, if_neg hc2_1] <;> rfl), N0, e0⟩ (by decide) (by decide)
theorem dMx_0 : decode jdk_29_method_65_code 0 = .ok (.iload_n 0, 1) := by decide +kernel
theorem dMx_1 : decode jdk_29_method_65_code 1 = .ok (.iload_n 1, 1) := by decide +kernel
theorem dMx_2 : decode jdk_29_method_65_code 2 = .ok (.if_icmp .lt 7, 3) := by decide +kernel
theorem dMx_5 : decode jdk_29_method_65_code 5 = .ok (.iload_n 0, 1) := by decide +kernel
theorem dMx_6 : decode jdk_29_method_65_code 6 = .ok (.goto 4, 3) := by decide +kernel
theorem dMx_9 : decode jdk_29_method_65_code 9 = .ok (.iload_n 1, 1) := by decide +kernel
theorem dMx_10 : decode jdk_29_method_65_code 10 = .ok (.ireturn, 1) := by decide +kernel
theorem efMx (m : MethodId) (x0 : Int32) (x1 : Int32) : entryFrame m #[(.int x0), (.int x1)] 2 = mkF m 0 #[iv x0, iv x1] [] := by first | (simp [entryFrame, mkF, argsToLocals, Value.category]; done) | rfl
def QMx (Z : State) (pa : Int32) (pb : Int32) (h0 : Heap) (n0 : Nat) (v : Option Value) (h : Heap) (L : List Loc) : Prop := v = some (.int (own_max pa pb)) ∧ Fr n0 L ∧ h = h0
set_option maxRecDepth 65536 in
set_option maxHeartbeats 40000000 in
theorem rmMx (l : Launch) (Z : State) (a0 : Array Value) (hw : ∀ d ∈ tables_1, d.before a0 Z = true) (ws : List Jvm.Cond) (pa : Int32) (pb : Int32) (h0 : Heap) (n0 : Nat) :
    MetFree l (⟨"java/lang/Math", "max", "(II)I"⟩ : MethodName) (head1 (Jvm.Cond.code (⟨"java/lang/Math", "max", "(II)I"⟩ : MethodName) jdk_29_method_65_code 2 (some .int) :: ws) ({ frames := 0, cells := 0, slots := 0, locals := 0 } : Room)) (fun as' U => as' = #[(.int pa), (.int pb)] ∧ Z.Warmed39 U.vm ∧ U.heap = h0) (fun _ _ _ _ _ => True) (fun _ U o U' => ∃ v L, o = .returned v ∧ QMx Z pa pb h0 n0 v U'.heap L ∧ FrameEnd U o U' L ({ frames := 0, cells := 0, slots := 0, locals := 0 } : Room).cells ({ frames := 0, cells := 0, slots := 0, locals := 0 } : Room).slots) := by
  refine MetFree.of_bodySF (Jvm.Free.JP.mathPlain rfl (by decide +kernel)) hisR ?_
  intro p e s m args below meth c s₁ Bd hml0 hP hK
  obtain ⟨rfl, hZ, hh⟩ := hP
  have hx := Bd.exec
  have hby := Bd.bytes
  have hml : c.maxLocals = 2 := hml0
  have hown : s.vm.findClass "java/lang/Math" = some m.cls := findClass_of_methodNamed Bd.named
  have hnm := (name_of_methodNamed Bd.named Bd.method).1
  have X0 : Stand p l e ({ frames := 0, cells := 0, slots := 0, locals := 0 } : Room) s m #[(.int pa), (.int pb)] below meth c s₁ [] 0 0 := Stand.of_body Bd
  have e0 : s₁.heap = h0 := by rw [← hh, Bd.state]; rfl
  have N0 := Fr.nil n0
  show Go p e below s (fun v h L => QMx Z pa pb h0 n0 v h L) 0 0 _
  refine Go.pull (V := s₁.setTop (mkF m 0 #[iv pa, iv pb] [])) (fun t k => castTop (efMx m pa pb) k) ?_
  refine Go.pull (V := s₁.setTop (mkF m 1 #[iv pa, iv pb] [(.int pa)])) (fun t k => XS.iloadN X0.here hx rfl (hb hby dMx_0) rfl  k) ?_
  refine Go.pull (V := s₁.setTop (mkF m 2 #[iv pa, iv pb] [(.int pb), (.int pa)])) (fun t k => XS.iloadN X0.here hx rfl (hb hby dMx_1) rfl  k) ?_
  by_cases hc2_1 : pa < pb
  · skip
    refine Go.pull (V := s₁.setTop (mkF m 9 #[iv pa, iv pb] [])) (fun t k => XS.icmpYes X0.here hx rfl (pc0 := 2) (pc' := 9) rfl (hb hby dMx_2) rfl (XT.ii_lt_t hc2_1) (by decide) (by decide) k) ?_
    refine Go.pull (V := s₁.setTop (mkF m 10 #[iv pa, iv pb] [(.int pb)])) (fun t k => XS.iloadN X0.here hx rfl (hb hby dMx_9) rfl  k) ?_
    exact Go.retI X0 hx Bd.notSynchronized Bd.returns (hb hby dMx_10) ⟨(by rw [own_max, if_pos hc2_1] <;> rfl), N0, e0⟩ (by decide) (by decide)
  · skip
    refine Go.pull (V := s₁.setTop (mkF m 5 #[iv pa, iv pb] [])) (fun t k => XS.icmpNo X0.here hx rfl (hb hby dMx_2) rfl (XT.ii_lt_f hc2_1) k) ?_
    refine Go.pull (V := s₁.setTop (mkF m 6 #[iv pa, iv pb] [(.int pa)])) (fun t k => XS.iloadN X0.here hx rfl (hb hby dMx_5) rfl  k) ?_
    refine Go.pull (V := s₁.setTop (mkF m 10 #[iv pa, iv pb] [(.int pa)])) (fun t k => XS.goto X0.here hx rfl (pc0 := 6) (pc' := 10) rfl (hb hby dMx_6) (by decide) (by decide) k) ?_
    exact Go.retI X0 hx Bd.notSynchronized Bd.returns (hb hby dMx_10) ⟨(by rw [own_max, if_neg hc2_1] <;> rfl), N0, e0⟩ (by decide) (by decide)
theorem dBI_0 : decode prog_17_method_1_code 0 = .ok (.aload_n 0, 1) := by decide +kernel
theorem dBI_1 : decode prog_17_method_1_code 1 = .ok (.invokespecial 1, 3) := by decide +kernel
theorem dBI_4 : decode prog_17_method_1_code 4 = .ok (.aload_n 0, 1) := by decide +kernel
theorem dBI_5 : decode prog_17_method_1_code 5 = .ok (.bipush 8, 2) := by decide +kernel
theorem dBI_7 : decode prog_17_method_1_code 7 = .ok (.newarray .long, 2) := by decide +kernel
theorem dBI_9 : decode prog_17_method_1_code 9 = .ok (.putfield 7, 3) := by decide +kernel
theorem dBI_12 : decode prog_17_method_1_code 12 = .ok (.return_, 1) := by decide +kernel
theorem efBI (m : MethodId) (x0 : Addr) : entryFrame m #[(.ref x0)] 1 = mkF m 0 #[rv x0] [] := by first | (simp [entryFrame, mkF, argsToLocals, Value.category]; done) | rfl
theorem pn_com_example_salish_salish_regex_CodePointSet_Builder : plainName "com/example/salish/salish/regex/CodePointSet$Builder" = true := by first | (simp [plainName, overriddenIn]; done) | decide +kernel
def QBI (Z : State) (a : Addr) (ua : Value) (h0 : Heap) (n0 : Nat) (v : Option Value) (h : Heap) (L : List Loc) : Prop := ∃ (ra : Addr), ∃ (ka : ClassId), v = none ∧ Fr n0 L ∧ Keep h0 h [a] ∧ h0.size ≤ ra ∧ Fld Z h a "com/example/salish/salish/regex/CodePointSet$Builder" "ranges" "[J" (.ref ra) ∧ Fld Z h a "com/example/salish/salish/regex/CodePointSet$Builder" "count" "I" (.int 0) ∧ Arv Z h ra ka .long (8 : Int32) [(.long 0), (.long 0), (.long 0), (.long 0), (.long 0), (.long 0), (.long 0), (.long 0)] (.long 0)
set_option maxRecDepth 65536 in
set_option maxHeartbeats 40000000 in
theorem rmBI (l : Launch) (Z : State) (a0 : Array Value) (hw : ∀ d ∈ tables_1, d.before a0 Z = true) (ws : List Jvm.Cond) (a : Addr) (ua : Value) (h0 : Heap) (n0 : Nat) (Z0 : n0 ≤ h0.size) (g_a : n0 ≤ a) (Ea : Exa Z h0 a "com/example/salish/salish/regex/CodePointSet$Builder") (Fr' : Fld Z h0 a "com/example/salish/salish/regex/CodePointSet$Builder" "ranges" "[J" ua) (Fc : Fld Z h0 a "com/example/salish/salish/regex/CodePointSet$Builder" "count" "I" (.int 0)) :
    MetFree l (⟨"com/example/salish/salish/regex/CodePointSet$Builder", "<init>", "()V"⟩ : MethodName) (head1 (Jvm.Cond.code (⟨"com/example/salish/salish/regex/CodePointSet$Builder", "<init>", "()V"⟩ : MethodName) prog_17_method_1_code 1 none :: ws) ({ frames := 1, cells := 1, slots := 8, locals := 12 } : Room)) (fun as' U => as' = #[(.ref a)] ∧ Z.Warmed39 U.vm ∧ U.heap = h0) (fun _ _ _ _ _ => True) (fun _ U o U' => ∃ v L, o = .returned v ∧ QBI Z a ua h0 n0 v U'.heap L ∧ FrameEnd U o U' L ({ frames := 1, cells := 1, slots := 8, locals := 12 } : Room).cells ({ frames := 1, cells := 1, slots := 8, locals := 12 } : Room).slots) := by
  refine MetFree.of_bodySF (plainFor_of_name pn_com_example_salish_salish_regex_CodePointSet_Builder) hisR ?_
  intro p e s m args below meth c s₁ Bd hml0 hP hK
  obtain ⟨rfl, hZ, hh⟩ := hP
  have hx := Bd.exec
  have hby := Bd.bytes
  have hml : c.maxLocals = 1 := hml0
  have hown : s.vm.findClass "com/example/salish/salish/regex/CodePointSet$Builder" = some m.cls := findClass_of_methodNamed Bd.named
  have hnm := (name_of_methodNamed Bd.named Bd.method).1
  have X0 : Stand p l e ({ frames := 1, cells := 1, slots := 8, locals := 12 } : Room) s m #[(.ref a)] below meth c s₁ [] 0 0 := Stand.of_body Bd
  have e0 : s₁.heap = h0 := by rw [← hh, Bd.state]; rfl
  have N0 := Fr.nil n0
  show Go p e below s (fun v h L => QBI Z a ua h0 n0 v h L) 1 8 _
  refine Go.pull (V := s₁.setTop (mkF m 0 #[rv a] [])) (fun t k => castTop (efBI m a) k) ?_
  refine Go.pull (V := s₁.setTop (mkF m 1 #[rv a] [(.ref a)])) (fun t k => XS.aloadN X0.here hx rfl (hb hby dBI_0) rfl rfl k) ?_
  obtain ⟨T1, X1, e1, st1⟩ := initO X0 hx hZ hown (hw _ (List.mem_of_getElem? (i := 19) rfl)) (hw _ (List.mem_of_getElem? (i := 20) rfl)) (hw _ (List.mem_of_getElem? (i := 21) rfl)) e0 (g := (mkF m 1 #[rv a] [(.ref a)])) rfl (by rw [hml]; rfl) rfl (hb hby dBI_1) (by decide) (W := 0) (by show 2 * 0 + _ ≤ _; exact Nat.le_of_eq rfl) (by decide)
  refine Go.pull (V := T1.setTop (mkF m 4 #[rv a] [])) st1 ?_
  refine Go.pull (V := T1.setTop (mkF m 5 #[rv a] [(.ref a)])) (fun t k => XS.aloadN X1.here hx rfl (hb hby dBI_4) rfl rfl k) ?_
  refine Go.pull (V := T1.setTop (mkF m 7 #[rv a] [(.int 8), (.ref a)])) (fun t k => XS.bipush X1.here hx rfl (hb hby dBI_5) k) ?_
  obtain ⟨T2, h2, k2, X2, e2, E2, A2, D2, st2⟩ := newPE X1 hx hZ (hw _ (List.mem_of_getElem? (i := 22) rfl)) e1 (g := (mkF m 7 #[rv a] [(.int 8), (.ref a)])) rfl (hb hby dBI_7) rfl (by decide) (cap := 8) (by decide) (by decide) (by decide) (by decide) (ad := "[J") rfl
  obtain ⟨b2, g2⟩ : ∃ z, z = h0.size := ⟨_, rfl⟩
  rw [← g2] at A2 D2 st2
  have ne_a_b2 : a ≠ b2 := Nat.ne_of_lt (Nat.lt_of_lt_of_le Ea.lt (Nat.le_of_eq g2.symm))
  have sz_b2 : h0.size ≤ b2 := Nat.le_trans ((Keep.refl h0 [a])).1 (Nat.le_of_eq g2.symm)
  have g_b2 : n0 ≤ b2 := Nat.le_trans Z0 sz_b2
  have K2 : Keep h0 h2 [a] := (Keep.refl h0 [a]).ext E2
  have V2 : Arv Z h2 b2 k2 .long (8 : Int32) [(.long 0), (.long 0), (.long 0), (.long 0), (.long 0), (.long 0), (.long 0), (.long 0)] (.long 0) := (Arv.new A2 (by decide)).pad (pad_rep [] (.long 0) 8)
  refine Go.pull (V := T2.setTop (mkF m 9 #[rv a] [(.ref b2), (.ref a)])) st2 ?_
  obtain ⟨T3, h3, X3, e3, W3, st3⟩ := putF X2 hx hZ hown (host := "") (Or.inl (hw _ (List.mem_of_getElem? (i := 23) rfl))) Via.refl e2 (Fr'.ext E2) (Ea.ext E2) (Or.inl (hw _ (List.mem_of_getElem? (i := 24) rfl))) (hw _ (List.mem_of_getElem? (i := 14) rfl)) (ty := (.array .long)) (by decide) rfl rfl (g := (mkF m 9 #[rv a] [(.ref b2), (.ref a)])) rfl rfl (hb hby dBI_9)
  have Fw3 : Fld Z h3 a "com/example/salish/salish/regex/CodePointSet$Builder" "ranges" "[J" (.ref b2) := (Fr'.ext E2).same W3
  have K3 : Keep h0 h3 [a] := K2.wr W3 (Or.inl (List.mem_of_getElem? (i := 0) rfl))
  have N3 := Fr.snoc X3 N0 g_a
  refine Go.pull (V := T3.setTop (mkF m 12 #[rv a] [])) st3 ?_
  exact Go.ret0 X3 hx Bd.notSynchronized Bd.returns (hb hby dBI_12) (by rw [e3]; exact ⟨b2, k2, rfl, N3, K3, sz_b2, Fw3, ((Fc.ext E2).other W3 (Or.inr (slot_ne (Or.inl (hw _ (List.mem_of_getElem? (i := 32) rfl))) (Or.inl (hw _ (List.mem_of_getElem? (i := 24) rfl))) (by decide) (t := .int) (t' := (.array .long)) (by decide) (by decide)))), (V2.other W3 (Ne.symm (ne_a_b2)))⟩) (by decide) (by decide)
theorem dA0_0 : decode prog_17_method_2_code 0 = .ok (.iload_n 1, 1) := by decide +kernel
theorem dA0_1 : decode prog_17_method_2_code 1 = .ok (.iload_n 2, 1) := by decide +kernel
theorem dA0_2 : decode prog_17_method_2_code 2 = .ok (.if_icmp .gt 13, 3) := by decide +kernel
theorem dA0_5 : decode prog_17_method_2_code 5 = .ok (.iload_n 1, 1) := by decide +kernel
theorem dA0_6 : decode prog_17_method_2_code 6 = .ok (.ifCond .lt 9, 3) := by decide +kernel
theorem dA0_9 : decode prog_17_method_2_code 9 = .ok (.iload_n 2, 1) := by decide +kernel
theorem dA0_10 : decode prog_17_method_2_code 10 = .ok (.ldc 15, 2) := by decide +kernel
theorem dA0_12 : decode prog_17_method_2_code 12 = .ok (.if_icmp .le 18, 3) := by decide +kernel
theorem dA0_30 : decode prog_17_method_2_code 30 = .ok (.aload_n 0, 1) := by decide +kernel
theorem dA0_31 : decode prog_17_method_2_code 31 = .ok (.getfield 25, 3) := by decide +kernel
theorem dA0_34 : decode prog_17_method_2_code 34 = .ok (.aload_n 0, 1) := by decide +kernel
theorem dA0_35 : decode prog_17_method_2_code 35 = .ok (.getfield 7, 3) := by decide +kernel
theorem dA0_38 : decode prog_17_method_2_code 38 = .ok (.arraylength, 1) := by decide +kernel
theorem dA0_39 : decode prog_17_method_2_code 39 = .ok (.if_icmp .ne 20, 3) := by decide +kernel
theorem dA0_59 : decode prog_17_method_2_code 59 = .ok (.aload_n 0, 1) := by decide +kernel
theorem dA0_60 : decode prog_17_method_2_code 60 = .ok (.getfield 7, 3) := by decide +kernel
theorem dA0_63 : decode prog_17_method_2_code 63 = .ok (.aload_n 0, 1) := by decide +kernel
theorem dA0_64 : decode prog_17_method_2_code 64 = .ok (.dup, 1) := by decide +kernel
theorem dA0_65 : decode prog_17_method_2_code 65 = .ok (.getfield 25, 3) := by decide +kernel
theorem dA0_68 : decode prog_17_method_2_code 68 = .ok (.dup_x1, 1) := by decide +kernel
theorem dA0_69 : decode prog_17_method_2_code 69 = .ok (.iconst 1, 1) := by decide +kernel
theorem dA0_70 : decode prog_17_method_2_code 70 = .ok (.iadd, 1) := by decide +kernel
theorem dA0_71 : decode prog_17_method_2_code 71 = .ok (.putfield 25, 3) := by decide +kernel
theorem dA0_74 : decode prog_17_method_2_code 74 = .ok (.iload_n 1, 1) := by decide +kernel
theorem dA0_75 : decode prog_17_method_2_code 75 = .ok (.i2l, 1) := by decide +kernel
theorem dA0_76 : decode prog_17_method_2_code 76 = .ok (.bipush 32, 2) := by decide +kernel
theorem dA0_78 : decode prog_17_method_2_code 78 = .ok (.lshl, 1) := by decide +kernel
theorem dA0_79 : decode prog_17_method_2_code 79 = .ok (.iload_n 2, 1) := by decide +kernel
theorem dA0_80 : decode prog_17_method_2_code 80 = .ok (.i2l, 1) := by decide +kernel
theorem dA0_81 : decode prog_17_method_2_code 81 = .ok (.lor, 1) := by decide +kernel
theorem dA0_82 : decode prog_17_method_2_code 82 = .ok (.lastore, 1) := by decide +kernel
theorem dA0_83 : decode prog_17_method_2_code 83 = .ok (.aload_n 0, 1) := by decide +kernel
theorem dA0_84 : decode prog_17_method_2_code 84 = .ok (.areturn, 1) := by decide +kernel
theorem efA0 (m : MethodId) (x0 : Addr) (x1 : Int32) (x2 : Int32) : entryFrame m #[(.ref x0), (.int x1), (.int x2)] 3 = mkF m 0 #[rv x0, iv x1, iv x2] [] := by first | (simp [entryFrame, mkF, argsToLocals, Value.category]; done) | rfl
def QA0 (Z : State) (a : Addr) (p1 : Int32) (p2 : Int32) (ra : Addr) (ka : ClassId) (h0 : Heap) (n0 : Nat) (v : Option Value) (h : Heap) (L : List Loc) : Prop := v = some (.ref a) ∧ Fr n0 L ∧ Keep h0 h [a, ra] ∧ Fld Z h a "com/example/salish/salish/regex/CodePointSet$Builder" "ranges" "[J" (.ref ra) ∧ Fld Z h a "com/example/salish/salish/regex/CodePointSet$Builder" "count" "I" (.int 1) ∧ Arv Z h ra ka .long (8 : Int32) [(.long (own_pk p1 p2)), (.long 0), (.long 0), (.long 0), (.long 0), (.long 0), (.long 0), (.long 0)] (.long 0)
set_option maxRecDepth 65536 in
set_option maxHeartbeats 40000000 in
theorem rmA0 (l : Launch) (Z : State) (a0 : Array Value) (hw : ∀ d ∈ tables_1, d.before a0 Z = true) (ws : List Jvm.Cond) (a : Addr) (p1 : Int32) (p2 : Int32) (ra : Addr) (ka : ClassId) (h0 : Heap) (n0 : Nat) (g_a : n0 ≤ a) (g_ra : n0 ≤ ra) (Ea : Exa Z h0 a "com/example/salish/salish/regex/CodePointSet$Builder") (Fr' : Fld Z h0 a "com/example/salish/salish/regex/CodePointSet$Builder" "ranges" "[J" (.ref ra)) (Fc : Fld Z h0 a "com/example/salish/salish/regex/CodePointSet$Builder" "count" "I" (.int 0)) (Vr : Arv Z h0 ra ka .long (8 : Int32) [(.long 0), (.long 0), (.long 0), (.long 0), (.long 0), (.long 0), (.long 0), (.long 0)] (.long 0)) (h12 : ¬ p2 < p1) (h10 : ¬ p1 < 0) (h2m : ¬ (1114111 : Int32) < p2) (hnar : a ≠ ra) :
    MetFree l (⟨"com/example/salish/salish/regex/CodePointSet$Builder", "add", "(II)Lcom/example/salish/salish/regex/CodePointSet$Builder;"⟩ : MethodName) (head1 (Jvm.Cond.code (⟨"com/example/salish/salish/regex/CodePointSet$Builder", "add", "(II)Lcom/example/salish/salish/regex/CodePointSet$Builder;"⟩ : MethodName) prog_17_method_2_code 3 (some (.object "com/example/salish/salish/regex/CodePointSet$Builder")) :: ws) ({ frames := 0, cells := 0, slots := 0, locals := 0 } : Room)) (fun as' U => as' = #[(.ref a), (.int p1), (.int p2)] ∧ Z.Warmed39 U.vm ∧ U.heap = h0) (fun _ _ _ _ _ => True) (fun _ U o U' => ∃ v L, o = .returned v ∧ QA0 Z a p1 p2 ra ka h0 n0 v U'.heap L ∧ FrameEnd U o U' L ({ frames := 0, cells := 0, slots := 0, locals := 0 } : Room).cells ({ frames := 0, cells := 0, slots := 0, locals := 0 } : Room).slots) := by
  refine MetFree.of_bodySF (plainFor_of_name pn_com_example_salish_salish_regex_CodePointSet_Builder) hisR ?_
  intro p e s m args below meth c s₁ Bd hml0 hP hK
  obtain ⟨rfl, hZ, hh⟩ := hP
  have hx := Bd.exec
  have hby := Bd.bytes
  have hml : c.maxLocals = 3 := hml0
  have hown : s.vm.findClass "com/example/salish/salish/regex/CodePointSet$Builder" = some m.cls := findClass_of_methodNamed Bd.named
  have hnm := (name_of_methodNamed Bd.named Bd.method).1
  have X0 : Stand p l e ({ frames := 0, cells := 0, slots := 0, locals := 0 } : Room) s m #[(.ref a), (.int p1), (.int p2)] below meth c s₁ [] 0 0 := Stand.of_body Bd
  have e0 : s₁.heap = h0 := by rw [← hh, Bd.state]; rfl
  have N0 := Fr.nil n0
  show Go p e below s (fun v h L => QA0 Z a p1 p2 ra ka h0 n0 v h L) 0 0 _
  refine Go.pull (V := s₁.setTop (mkF m 0 #[rv a, iv p1, iv p2] [])) (fun t k => castTop (efA0 m a p1 p2) k) ?_
  refine Go.pull (V := s₁.setTop (mkF m 1 #[rv a, iv p1, iv p2] [(.int p1)])) (fun t k => XS.iloadN X0.here hx rfl (hb hby dA0_0) rfl  k) ?_
  refine Go.pull (V := s₁.setTop (mkF m 2 #[rv a, iv p1, iv p2] [(.int p2), (.int p1)])) (fun t k => XS.iloadN X0.here hx rfl (hb hby dA0_1) rfl  k) ?_
  refine Go.pull (V := s₁.setTop (mkF m 5 #[rv a, iv p1, iv p2] [])) (fun t k => XS.icmpNo X0.here hx rfl (hb hby dA0_2) rfl (XT.ii_gt_f h12) k) ?_
  refine Go.pull (V := s₁.setTop (mkF m 6 #[rv a, iv p1, iv p2] [(.int p1)])) (fun t k => XS.iloadN X0.here hx rfl (hb hby dA0_5) rfl  k) ?_
  refine Go.pull (V := s₁.setTop (mkF m 9 #[rv a, iv p1, iv p2] [])) (fun t k => XS.ifNo X0.here hx rfl (hb hby dA0_6) rfl (XT.i0_lt_f h10) k) ?_
  refine Go.pull (V := s₁.setTop (mkF m 10 #[rv a, iv p1, iv p2] [(.int p2)])) (fun t k => XS.iloadN X0.here hx rfl (hb hby dA0_9) rfl  k) ?_
  refine Go.pull (V := s₁.setTop (mkF m 12 #[rv a, iv p1, iv p2] [(.int 1114111), (.int p2)])) (fun t k => X0.ldcInt hx hown (mvT hZ (hw _ (List.mem_of_getElem? (i := 30) rfl))) (g := (mkF m 10 #[rv a, iv p1, iv p2] [(.int p2)])) rfl (hb hby dA0_10) _ k) ?_
  refine Go.pull (V := s₁.setTop (mkF m 30 #[rv a, iv p1, iv p2] [])) (fun t k => XS.icmpYes X0.here hx rfl (pc0 := 12) (pc' := 30) rfl (hb hby dA0_12) rfl (XT.ii_le_t h2m) (by decide) (by decide) k) ?_
  refine Go.pull (V := s₁.setTop (mkF m 31 #[rv a, iv p1, iv p2] [(.ref a)])) (fun t k => XS.aloadN X0.here hx rfl (hb hby dA0_30) rfl rfl k) ?_
  obtain ⟨T1, X1, e1, st1⟩ := getF X0 hx hZ hown (host := "") (Or.inl (hw _ (List.mem_of_getElem? (i := 31) rfl))) Via.refl e0 Fc (g := (mkF m 31 #[rv a, iv p1, iv p2] [(.ref a)])) rfl rfl (hb hby dA0_31)
  refine Go.pull (V := T1.setTop (mkF m 34 #[rv a, iv p1, iv p2] [(.int 0)])) st1 ?_
  refine Go.pull (V := T1.setTop (mkF m 35 #[rv a, iv p1, iv p2] [(.ref a), (.int 0)])) (fun t k => XS.aloadN X1.here hx rfl (hb hby dA0_34) rfl rfl k) ?_
  obtain ⟨T2, X2, e2, st2⟩ := getF X1 hx hZ hown (host := "") (Or.inl (hw _ (List.mem_of_getElem? (i := 23) rfl))) Via.refl e1 Fr' (g := (mkF m 35 #[rv a, iv p1, iv p2] [(.ref a), (.int 0)])) rfl rfl (hb hby dA0_35)
  refine Go.pull (V := T2.setTop (mkF m 38 #[rv a, iv p1, iv p2] [(.ref ra), (.int 0)])) st2 ?_
  obtain ⟨cl3, Ar3, q3, S3, M3, Hs3, G3⟩ := id Vr
  refine Go.pull (V := T2.setTop (mkF m 39 #[rv a, iv p1, iv p2] [(.int 8), (.int 0)])) (fun t k => X2.arraylength hx (by rw [e2]; exact Ar3.1) (State.isArrayOf_alike hZ.alike Ar3.2.1) (g := (mkF m 38 #[rv a, iv p1, iv p2] [(.ref ra), (.int 0)])) rfl rfl (hb hby dA0_38) _ (by rw [len_of S3 M3]; exact k)) ?_
  refine Go.pull (V := T2.setTop (mkF m 59 #[rv a, iv p1, iv p2] [])) (fun t k => XS.icmpYes X2.here hx rfl (pc0 := 39) (pc' := 59) rfl (hb hby dA0_39) rfl (XT.ii_ne_t (by decide)) (by decide) (by decide) k) ?_
  refine Go.pull (V := T2.setTop (mkF m 60 #[rv a, iv p1, iv p2] [(.ref a)])) (fun t k => XS.aloadN X2.here hx rfl (hb hby dA0_59) rfl rfl k) ?_
  obtain ⟨T4, X4, e4, st4⟩ := getF X2 hx hZ hown (host := "") (Or.inl (hw _ (List.mem_of_getElem? (i := 23) rfl))) Via.refl e2 Fr' (g := (mkF m 60 #[rv a, iv p1, iv p2] [(.ref a)])) rfl rfl (hb hby dA0_60)
  refine Go.pull (V := T4.setTop (mkF m 63 #[rv a, iv p1, iv p2] [(.ref ra)])) st4 ?_
  refine Go.pull (V := T4.setTop (mkF m 64 #[rv a, iv p1, iv p2] [(.ref a), (.ref ra)])) (fun t k => XS.aloadN X4.here hx rfl (hb hby dA0_63) rfl rfl k) ?_
  refine Go.pull (V := T4.setTop (mkF m 65 #[rv a, iv p1, iv p2] [(.ref a), (.ref a), (.ref ra)])) (fun t k => XS.dup X4.here hx rfl (hb hby dA0_64) rfl rfl k) ?_
  obtain ⟨T5, X5, e5, st5⟩ := getF X4 hx hZ hown (host := "") (Or.inl (hw _ (List.mem_of_getElem? (i := 31) rfl))) Via.refl e4 Fc (g := (mkF m 65 #[rv a, iv p1, iv p2] [(.ref a), (.ref a), (.ref ra)])) rfl rfl (hb hby dA0_65)
  refine Go.pull (V := T5.setTop (mkF m 68 #[rv a, iv p1, iv p2] [(.int 0), (.ref a), (.ref ra)])) st5 ?_
  refine Go.pull (V := T5.setTop (mkF m 69 #[rv a, iv p1, iv p2] [(.int 0), (.ref a), (.int 0), (.ref ra)])) (fun t k => XS.dupX1 X5.here hx rfl (hb hby dA0_68) rfl rfl rfl k) ?_
  refine Go.pull (V := T5.setTop (mkF m 70 #[rv a, iv p1, iv p2] [(.int 1), (.int 0), (.ref a), (.int 0), (.ref ra)])) (fun t k => XS.iconst X5.here hx rfl (hb hby dA0_69) k) ?_
  refine Go.pull (V := T5.setTop (mkF m 71 #[rv a, iv p1, iv p2] [(.int 1), (.ref a), (.int 0), (.ref ra)])) (fun t k => XS.iadd X5.here hx rfl (hb hby dA0_70) rfl k) ?_
  obtain ⟨T6, h6, X6, e6, W6, st6⟩ := putF X5 hx hZ hown (host := "") (Or.inl (hw _ (List.mem_of_getElem? (i := 31) rfl))) Via.refl e5 Fc Ea (Or.inl (hw _ (List.mem_of_getElem? (i := 32) rfl))) (hw _ (List.mem_of_getElem? (i := 14) rfl)) (ty := .int) (by decide) rfl rfl (g := (mkF m 71 #[rv a, iv p1, iv p2] [(.int 1), (.ref a), (.int 0), (.ref ra)])) rfl rfl (hb hby dA0_71)
  have Fw6 : Fld Z h6 a "com/example/salish/salish/regex/CodePointSet$Builder" "count" "I" (.int 1) := Fc.same W6
  have K6 : Keep h0 h6 [a, ra] := (Keep.refl h0 [a, ra]).wr W6 (Or.inl (List.mem_of_getElem? (i := 0) rfl))
  have N6 := Fr.snoc X6 N0 g_a
  refine Go.pull (V := T6.setTop (mkF m 74 #[rv a, iv p1, iv p2] [(.int 0), (.ref ra)])) st6 ?_
  refine Go.pull (V := T6.setTop (mkF m 75 #[rv a, iv p1, iv p2] [(.int p1), (.int 0), (.ref ra)])) (fun t k => XS.iloadN X6.here hx rfl (hb hby dA0_74) rfl  k) ?_
  refine Go.pull (V := T6.setTop (mkF m 76 #[rv a, iv p1, iv p2] [(.long (p1.toInt64)), (.int 0), (.ref ra)])) (fun t k => XS.i2l X6.here hx rfl (hb hby dA0_75) rfl k) ?_
  refine Go.pull (V := T6.setTop (mkF m 78 #[rv a, iv p1, iv p2] [(.int 32), (.long (p1.toInt64)), (.int 0), (.ref ra)])) (fun t k => XS.bipush X6.here hx rfl (hb hby dA0_76) k) ?_
  refine Go.pull (V := T6.setTop (mkF m 79 #[rv a, iv p1, iv p2] [(.long ((p1.toInt64) <<< ((32 : Int32) &&& 0x3f).toInt64)), (.int 0), (.ref ra)])) (fun t k => XS.lshl X6.here hx rfl (hb hby dA0_78) rfl k) ?_
  refine Go.pull (V := T6.setTop (mkF m 80 #[rv a, iv p1, iv p2] [(.int p2), (.long ((p1.toInt64) <<< ((32 : Int32) &&& 0x3f).toInt64)), (.int 0), (.ref ra)])) (fun t k => XS.iloadN X6.here hx rfl (hb hby dA0_79) rfl  k) ?_
  refine Go.pull (V := T6.setTop (mkF m 81 #[rv a, iv p1, iv p2] [(.long (p2.toInt64)), (.long ((p1.toInt64) <<< ((32 : Int32) &&& 0x3f).toInt64)), (.int 0), (.ref ra)])) (fun t k => XS.i2l X6.here hx rfl (hb hby dA0_80) rfl k) ?_
  refine Go.pull (V := T6.setTop (mkF m 82 #[rv a, iv p1, iv p2] [(.long (((p1.toInt64) <<< ((32 : Int32) &&& 0x3f).toInt64) ||| (p2.toInt64))), (.int 0), (.ref ra)])) (fun t k => XS.lor X6.here hx rfl (hb hby dA0_81) rfl k) ?_
  obtain ⟨cl7, Ar7, q7, S7, M7, Hs7, G7⟩ := id (Vr.other W6 (Ne.symm hnar))
  have hin7 : ¬ ((0 : Int32) < 0 ∨ cl7.slots.size ≤ ((0 : Int32)).toNatClampNeg) := inb_of S7 ⟨by decide, by decide⟩
  obtain ⟨T8, h8, X8, e8, W8, st8⟩ := stJ X6 hx hZ e6 Ar7 (j := (0 : Int32)) hin7 (g := (mkF m 82 #[rv a, iv p1, iv p2] [(.long (((p1.toInt64) <<< ((32 : Int32) &&& 0x3f).toInt64) ||| (p2.toInt64))), (.int 0), (.ref ra)])) rfl rfl (hb hby dA0_82)
  have V8 : Arv Z h8 ra ka .long (8 : Int32) [(.long (((p1.toInt64) <<< ((32 : Int32) &&& 0x3f).toInt64) ||| (p2.toInt64))), (.long 0), (.long 0), (.long 0), (.long 0), (.long 0), (.long 0), (.long 0)] (.long 0) := Arv.set Ar7 q7 S7 M7 Hs7 G7 rfl W8 0 rfl (Nat.le_of_ble_eq_true rfl)
  have K8 : Keep h0 h8 [a, ra] := K6.wr W8 (Or.inl (List.mem_of_getElem? (i := 1) rfl))
  have N8 := Fr.snoc X8 N6 g_ra
  refine Go.pull (V := T8.setTop (mkF m 83 #[rv a, iv p1, iv p2] [])) st8 ?_
  refine Go.pull (V := T8.setTop (mkF m 84 #[rv a, iv p1, iv p2] [(.ref a)])) (fun t k => XS.aloadN X8.here hx rfl (hb hby dA0_83) rfl rfl k) ?_
  exact Go.retR X8 hx Bd.notSynchronized Bd.returns rfl rfl rfl (hb hby dA0_84) (by rw [e8]; exact ⟨rfl, N8, K8, ((Fr'.other W6 (Or.inr (slot_ne (Or.inl (hw _ (List.mem_of_getElem? (i := 24) rfl))) (Or.inl (hw _ (List.mem_of_getElem? (i := 32) rfl))) (by decide) (t := (.array .long)) (t' := .int) (by decide) (by decide)))).other W8 (Or.inl hnar)), (Fw6.other W8 (Or.inl hnar)), V8⟩) (by decide) (by decide)
theorem dA1_0 : decode prog_17_method_2_code 0 = .ok (.iload_n 1, 1) := by decide +kernel
theorem dA1_1 : decode prog_17_method_2_code 1 = .ok (.iload_n 2, 1) := by decide +kernel
theorem dA1_2 : decode prog_17_method_2_code 2 = .ok (.if_icmp .gt 13, 3) := by decide +kernel
theorem dA1_5 : decode prog_17_method_2_code 5 = .ok (.iload_n 1, 1) := by decide +kernel
theorem dA1_6 : decode prog_17_method_2_code 6 = .ok (.ifCond .lt 9, 3) := by decide +kernel
theorem dA1_9 : decode prog_17_method_2_code 9 = .ok (.iload_n 2, 1) := by decide +kernel
theorem dA1_10 : decode prog_17_method_2_code 10 = .ok (.ldc 15, 2) := by decide +kernel
theorem dA1_12 : decode prog_17_method_2_code 12 = .ok (.if_icmp .le 18, 3) := by decide +kernel
theorem dA1_30 : decode prog_17_method_2_code 30 = .ok (.aload_n 0, 1) := by decide +kernel
theorem dA1_31 : decode prog_17_method_2_code 31 = .ok (.getfield 25, 3) := by decide +kernel
theorem dA1_34 : decode prog_17_method_2_code 34 = .ok (.aload_n 0, 1) := by decide +kernel
theorem dA1_35 : decode prog_17_method_2_code 35 = .ok (.getfield 7, 3) := by decide +kernel
theorem dA1_38 : decode prog_17_method_2_code 38 = .ok (.arraylength, 1) := by decide +kernel
theorem dA1_39 : decode prog_17_method_2_code 39 = .ok (.if_icmp .ne 20, 3) := by decide +kernel
theorem dA1_59 : decode prog_17_method_2_code 59 = .ok (.aload_n 0, 1) := by decide +kernel
theorem dA1_60 : decode prog_17_method_2_code 60 = .ok (.getfield 7, 3) := by decide +kernel
theorem dA1_63 : decode prog_17_method_2_code 63 = .ok (.aload_n 0, 1) := by decide +kernel
theorem dA1_64 : decode prog_17_method_2_code 64 = .ok (.dup, 1) := by decide +kernel
theorem dA1_65 : decode prog_17_method_2_code 65 = .ok (.getfield 25, 3) := by decide +kernel
theorem dA1_68 : decode prog_17_method_2_code 68 = .ok (.dup_x1, 1) := by decide +kernel
theorem dA1_69 : decode prog_17_method_2_code 69 = .ok (.iconst 1, 1) := by decide +kernel
theorem dA1_70 : decode prog_17_method_2_code 70 = .ok (.iadd, 1) := by decide +kernel
theorem dA1_71 : decode prog_17_method_2_code 71 = .ok (.putfield 25, 3) := by decide +kernel
theorem dA1_74 : decode prog_17_method_2_code 74 = .ok (.iload_n 1, 1) := by decide +kernel
theorem dA1_75 : decode prog_17_method_2_code 75 = .ok (.i2l, 1) := by decide +kernel
theorem dA1_76 : decode prog_17_method_2_code 76 = .ok (.bipush 32, 2) := by decide +kernel
theorem dA1_78 : decode prog_17_method_2_code 78 = .ok (.lshl, 1) := by decide +kernel
theorem dA1_79 : decode prog_17_method_2_code 79 = .ok (.iload_n 2, 1) := by decide +kernel
theorem dA1_80 : decode prog_17_method_2_code 80 = .ok (.i2l, 1) := by decide +kernel
theorem dA1_81 : decode prog_17_method_2_code 81 = .ok (.lor, 1) := by decide +kernel
theorem dA1_82 : decode prog_17_method_2_code 82 = .ok (.lastore, 1) := by decide +kernel
theorem dA1_83 : decode prog_17_method_2_code 83 = .ok (.aload_n 0, 1) := by decide +kernel
theorem dA1_84 : decode prog_17_method_2_code 84 = .ok (.areturn, 1) := by decide +kernel
theorem efA1 (m : MethodId) (x0 : Addr) (x1 : Int32) (x2 : Int32) : entryFrame m #[(.ref x0), (.int x1), (.int x2)] 3 = mkF m 0 #[rv x0, iv x1, iv x2] [] := by first | (simp [entryFrame, mkF, argsToLocals, Value.category]; done) | rfl
def QA1 (Z : State) (a : Addr) (p1 : Int32) (p2 : Int32) (ra : Addr) (ka : ClassId) (ja : Int64) (h0 : Heap) (n0 : Nat) (v : Option Value) (h : Heap) (L : List Loc) : Prop := v = some (.ref a) ∧ Fr n0 L ∧ Keep h0 h [a, ra] ∧ Fld Z h a "com/example/salish/salish/regex/CodePointSet$Builder" "ranges" "[J" (.ref ra) ∧ Fld Z h a "com/example/salish/salish/regex/CodePointSet$Builder" "count" "I" (.int 2) ∧ Arv Z h ra ka .long (8 : Int32) [(.long ja), (.long (own_pk p1 p2)), (.long 0), (.long 0), (.long 0), (.long 0), (.long 0), (.long 0)] (.long 0)
set_option maxRecDepth 65536 in
set_option maxHeartbeats 40000000 in
theorem rmA1 (l : Launch) (Z : State) (a0 : Array Value) (hw : ∀ d ∈ tables_1, d.before a0 Z = true) (ws : List Jvm.Cond) (a : Addr) (p1 : Int32) (p2 : Int32) (ra : Addr) (ka : ClassId) (ja : Int64) (h0 : Heap) (n0 : Nat) (g_a : n0 ≤ a) (g_ra : n0 ≤ ra) (Ea : Exa Z h0 a "com/example/salish/salish/regex/CodePointSet$Builder") (Fr' : Fld Z h0 a "com/example/salish/salish/regex/CodePointSet$Builder" "ranges" "[J" (.ref ra)) (Fc : Fld Z h0 a "com/example/salish/salish/regex/CodePointSet$Builder" "count" "I" (.int 1)) (Vr : Arv Z h0 ra ka .long (8 : Int32) [(.long ja), (.long 0), (.long 0), (.long 0), (.long 0), (.long 0), (.long 0), (.long 0)] (.long 0)) (h12 : ¬ p2 < p1) (h10 : ¬ p1 < 0) (h2m : ¬ (1114111 : Int32) < p2) (hnar : a ≠ ra) :
    MetFree l (⟨"com/example/salish/salish/regex/CodePointSet$Builder", "add", "(II)Lcom/example/salish/salish/regex/CodePointSet$Builder;"⟩ : MethodName) (head1 (Jvm.Cond.code (⟨"com/example/salish/salish/regex/CodePointSet$Builder", "add", "(II)Lcom/example/salish/salish/regex/CodePointSet$Builder;"⟩ : MethodName) prog_17_method_2_code 3 (some (.object "com/example/salish/salish/regex/CodePointSet$Builder")) :: ws) ({ frames := 0, cells := 0, slots := 0, locals := 0 } : Room)) (fun as' U => as' = #[(.ref a), (.int p1), (.int p2)] ∧ Z.Warmed39 U.vm ∧ U.heap = h0) (fun _ _ _ _ _ => True) (fun _ U o U' => ∃ v L, o = .returned v ∧ QA1 Z a p1 p2 ra ka ja h0 n0 v U'.heap L ∧ FrameEnd U o U' L ({ frames := 0, cells := 0, slots := 0, locals := 0 } : Room).cells ({ frames := 0, cells := 0, slots := 0, locals := 0 } : Room).slots) := by
  refine MetFree.of_bodySF (plainFor_of_name pn_com_example_salish_salish_regex_CodePointSet_Builder) hisR ?_
  intro p e s m args below meth c s₁ Bd hml0 hP hK
  obtain ⟨rfl, hZ, hh⟩ := hP
  have hx := Bd.exec
  have hby := Bd.bytes
  have hml : c.maxLocals = 3 := hml0
  have hown : s.vm.findClass "com/example/salish/salish/regex/CodePointSet$Builder" = some m.cls := findClass_of_methodNamed Bd.named
  have hnm := (name_of_methodNamed Bd.named Bd.method).1
  have X0 : Stand p l e ({ frames := 0, cells := 0, slots := 0, locals := 0 } : Room) s m #[(.ref a), (.int p1), (.int p2)] below meth c s₁ [] 0 0 := Stand.of_body Bd
  have e0 : s₁.heap = h0 := by rw [← hh, Bd.state]; rfl
  have N0 := Fr.nil n0
  show Go p e below s (fun v h L => QA1 Z a p1 p2 ra ka ja h0 n0 v h L) 0 0 _
  refine Go.pull (V := s₁.setTop (mkF m 0 #[rv a, iv p1, iv p2] [])) (fun t k => castTop (efA1 m a p1 p2) k) ?_
  refine Go.pull (V := s₁.setTop (mkF m 1 #[rv a, iv p1, iv p2] [(.int p1)])) (fun t k => XS.iloadN X0.here hx rfl (hb hby dA1_0) rfl  k) ?_
  refine Go.pull (V := s₁.setTop (mkF m 2 #[rv a, iv p1, iv p2] [(.int p2), (.int p1)])) (fun t k => XS.iloadN X0.here hx rfl (hb hby dA1_1) rfl  k) ?_
  refine Go.pull (V := s₁.setTop (mkF m 5 #[rv a, iv p1, iv p2] [])) (fun t k => XS.icmpNo X0.here hx rfl (hb hby dA1_2) rfl (XT.ii_gt_f h12) k) ?_
  refine Go.pull (V := s₁.setTop (mkF m 6 #[rv a, iv p1, iv p2] [(.int p1)])) (fun t k => XS.iloadN X0.here hx rfl (hb hby dA1_5) rfl  k) ?_
  refine Go.pull (V := s₁.setTop (mkF m 9 #[rv a, iv p1, iv p2] [])) (fun t k => XS.ifNo X0.here hx rfl (hb hby dA1_6) rfl (XT.i0_lt_f h10) k) ?_
  refine Go.pull (V := s₁.setTop (mkF m 10 #[rv a, iv p1, iv p2] [(.int p2)])) (fun t k => XS.iloadN X0.here hx rfl (hb hby dA1_9) rfl  k) ?_
  refine Go.pull (V := s₁.setTop (mkF m 12 #[rv a, iv p1, iv p2] [(.int 1114111), (.int p2)])) (fun t k => X0.ldcInt hx hown (mvT hZ (hw _ (List.mem_of_getElem? (i := 30) rfl))) (g := (mkF m 10 #[rv a, iv p1, iv p2] [(.int p2)])) rfl (hb hby dA1_10) _ k) ?_
  refine Go.pull (V := s₁.setTop (mkF m 30 #[rv a, iv p1, iv p2] [])) (fun t k => XS.icmpYes X0.here hx rfl (pc0 := 12) (pc' := 30) rfl (hb hby dA1_12) rfl (XT.ii_le_t h2m) (by decide) (by decide) k) ?_
  refine Go.pull (V := s₁.setTop (mkF m 31 #[rv a, iv p1, iv p2] [(.ref a)])) (fun t k => XS.aloadN X0.here hx rfl (hb hby dA1_30) rfl rfl k) ?_
  obtain ⟨T1, X1, e1, st1⟩ := getF X0 hx hZ hown (host := "") (Or.inl (hw _ (List.mem_of_getElem? (i := 31) rfl))) Via.refl e0 Fc (g := (mkF m 31 #[rv a, iv p1, iv p2] [(.ref a)])) rfl rfl (hb hby dA1_31)
  refine Go.pull (V := T1.setTop (mkF m 34 #[rv a, iv p1, iv p2] [(.int 1)])) st1 ?_
  refine Go.pull (V := T1.setTop (mkF m 35 #[rv a, iv p1, iv p2] [(.ref a), (.int 1)])) (fun t k => XS.aloadN X1.here hx rfl (hb hby dA1_34) rfl rfl k) ?_
  obtain ⟨T2, X2, e2, st2⟩ := getF X1 hx hZ hown (host := "") (Or.inl (hw _ (List.mem_of_getElem? (i := 23) rfl))) Via.refl e1 Fr' (g := (mkF m 35 #[rv a, iv p1, iv p2] [(.ref a), (.int 1)])) rfl rfl (hb hby dA1_35)
  refine Go.pull (V := T2.setTop (mkF m 38 #[rv a, iv p1, iv p2] [(.ref ra), (.int 1)])) st2 ?_
  obtain ⟨cl3, Ar3, q3, S3, M3, Hs3, G3⟩ := id Vr
  refine Go.pull (V := T2.setTop (mkF m 39 #[rv a, iv p1, iv p2] [(.int 8), (.int 1)])) (fun t k => X2.arraylength hx (by rw [e2]; exact Ar3.1) (State.isArrayOf_alike hZ.alike Ar3.2.1) (g := (mkF m 38 #[rv a, iv p1, iv p2] [(.ref ra), (.int 1)])) rfl rfl (hb hby dA1_38) _ (by rw [len_of S3 M3]; exact k)) ?_
  refine Go.pull (V := T2.setTop (mkF m 59 #[rv a, iv p1, iv p2] [])) (fun t k => XS.icmpYes X2.here hx rfl (pc0 := 39) (pc' := 59) rfl (hb hby dA1_39) rfl (XT.ii_ne_t (by decide)) (by decide) (by decide) k) ?_
  refine Go.pull (V := T2.setTop (mkF m 60 #[rv a, iv p1, iv p2] [(.ref a)])) (fun t k => XS.aloadN X2.here hx rfl (hb hby dA1_59) rfl rfl k) ?_
  obtain ⟨T4, X4, e4, st4⟩ := getF X2 hx hZ hown (host := "") (Or.inl (hw _ (List.mem_of_getElem? (i := 23) rfl))) Via.refl e2 Fr' (g := (mkF m 60 #[rv a, iv p1, iv p2] [(.ref a)])) rfl rfl (hb hby dA1_60)
  refine Go.pull (V := T4.setTop (mkF m 63 #[rv a, iv p1, iv p2] [(.ref ra)])) st4 ?_
  refine Go.pull (V := T4.setTop (mkF m 64 #[rv a, iv p1, iv p2] [(.ref a), (.ref ra)])) (fun t k => XS.aloadN X4.here hx rfl (hb hby dA1_63) rfl rfl k) ?_
  refine Go.pull (V := T4.setTop (mkF m 65 #[rv a, iv p1, iv p2] [(.ref a), (.ref a), (.ref ra)])) (fun t k => XS.dup X4.here hx rfl (hb hby dA1_64) rfl rfl k) ?_
  obtain ⟨T5, X5, e5, st5⟩ := getF X4 hx hZ hown (host := "") (Or.inl (hw _ (List.mem_of_getElem? (i := 31) rfl))) Via.refl e4 Fc (g := (mkF m 65 #[rv a, iv p1, iv p2] [(.ref a), (.ref a), (.ref ra)])) rfl rfl (hb hby dA1_65)
  refine Go.pull (V := T5.setTop (mkF m 68 #[rv a, iv p1, iv p2] [(.int 1), (.ref a), (.ref ra)])) st5 ?_
  refine Go.pull (V := T5.setTop (mkF m 69 #[rv a, iv p1, iv p2] [(.int 1), (.ref a), (.int 1), (.ref ra)])) (fun t k => XS.dupX1 X5.here hx rfl (hb hby dA1_68) rfl rfl rfl k) ?_
  refine Go.pull (V := T5.setTop (mkF m 70 #[rv a, iv p1, iv p2] [(.int 1), (.int 1), (.ref a), (.int 1), (.ref ra)])) (fun t k => XS.iconst X5.here hx rfl (hb hby dA1_69) k) ?_
  refine Go.pull (V := T5.setTop (mkF m 71 #[rv a, iv p1, iv p2] [(.int 2), (.ref a), (.int 1), (.ref ra)])) (fun t k => XS.iadd X5.here hx rfl (hb hby dA1_70) rfl k) ?_
  obtain ⟨T6, h6, X6, e6, W6, st6⟩ := putF X5 hx hZ hown (host := "") (Or.inl (hw _ (List.mem_of_getElem? (i := 31) rfl))) Via.refl e5 Fc Ea (Or.inl (hw _ (List.mem_of_getElem? (i := 32) rfl))) (hw _ (List.mem_of_getElem? (i := 14) rfl)) (ty := .int) (by decide) rfl rfl (g := (mkF m 71 #[rv a, iv p1, iv p2] [(.int 2), (.ref a), (.int 1), (.ref ra)])) rfl rfl (hb hby dA1_71)
  have Fw6 : Fld Z h6 a "com/example/salish/salish/regex/CodePointSet$Builder" "count" "I" (.int 2) := Fc.same W6
  have K6 : Keep h0 h6 [a, ra] := (Keep.refl h0 [a, ra]).wr W6 (Or.inl (List.mem_of_getElem? (i := 0) rfl))
  have N6 := Fr.snoc X6 N0 g_a
  refine Go.pull (V := T6.setTop (mkF m 74 #[rv a, iv p1, iv p2] [(.int 1), (.ref ra)])) st6 ?_
  refine Go.pull (V := T6.setTop (mkF m 75 #[rv a, iv p1, iv p2] [(.int p1), (.int 1), (.ref ra)])) (fun t k => XS.iloadN X6.here hx rfl (hb hby dA1_74) rfl  k) ?_
  refine Go.pull (V := T6.setTop (mkF m 76 #[rv a, iv p1, iv p2] [(.long (p1.toInt64)), (.int 1), (.ref ra)])) (fun t k => XS.i2l X6.here hx rfl (hb hby dA1_75) rfl k) ?_
  refine Go.pull (V := T6.setTop (mkF m 78 #[rv a, iv p1, iv p2] [(.int 32), (.long (p1.toInt64)), (.int 1), (.ref ra)])) (fun t k => XS.bipush X6.here hx rfl (hb hby dA1_76) k) ?_
  refine Go.pull (V := T6.setTop (mkF m 79 #[rv a, iv p1, iv p2] [(.long ((p1.toInt64) <<< ((32 : Int32) &&& 0x3f).toInt64)), (.int 1), (.ref ra)])) (fun t k => XS.lshl X6.here hx rfl (hb hby dA1_78) rfl k) ?_
  refine Go.pull (V := T6.setTop (mkF m 80 #[rv a, iv p1, iv p2] [(.int p2), (.long ((p1.toInt64) <<< ((32 : Int32) &&& 0x3f).toInt64)), (.int 1), (.ref ra)])) (fun t k => XS.iloadN X6.here hx rfl (hb hby dA1_79) rfl  k) ?_
  refine Go.pull (V := T6.setTop (mkF m 81 #[rv a, iv p1, iv p2] [(.long (p2.toInt64)), (.long ((p1.toInt64) <<< ((32 : Int32) &&& 0x3f).toInt64)), (.int 1), (.ref ra)])) (fun t k => XS.i2l X6.here hx rfl (hb hby dA1_80) rfl k) ?_
  refine Go.pull (V := T6.setTop (mkF m 82 #[rv a, iv p1, iv p2] [(.long (((p1.toInt64) <<< ((32 : Int32) &&& 0x3f).toInt64) ||| (p2.toInt64))), (.int 1), (.ref ra)])) (fun t k => XS.lor X6.here hx rfl (hb hby dA1_81) rfl k) ?_
  obtain ⟨cl7, Ar7, q7, S7, M7, Hs7, G7⟩ := id (Vr.other W6 (Ne.symm hnar))
  have hin7 : ¬ ((1 : Int32) < 0 ∨ cl7.slots.size ≤ ((1 : Int32)).toNatClampNeg) := inb_of S7 ⟨by decide, by decide⟩
  obtain ⟨T8, h8, X8, e8, W8, st8⟩ := stJ X6 hx hZ e6 Ar7 (j := (1 : Int32)) hin7 (g := (mkF m 82 #[rv a, iv p1, iv p2] [(.long (((p1.toInt64) <<< ((32 : Int32) &&& 0x3f).toInt64) ||| (p2.toInt64))), (.int 1), (.ref ra)])) rfl rfl (hb hby dA1_82)
  have V8 : Arv Z h8 ra ka .long (8 : Int32) [(.long ja), (.long (((p1.toInt64) <<< ((32 : Int32) &&& 0x3f).toInt64) ||| (p2.toInt64))), (.long 0), (.long 0), (.long 0), (.long 0), (.long 0), (.long 0)] (.long 0) := Arv.set Ar7 q7 S7 M7 Hs7 G7 rfl W8 1 rfl (Nat.le_of_ble_eq_true rfl)
  have K8 : Keep h0 h8 [a, ra] := K6.wr W8 (Or.inl (List.mem_of_getElem? (i := 1) rfl))
  have N8 := Fr.snoc X8 N6 g_ra
  refine Go.pull (V := T8.setTop (mkF m 83 #[rv a, iv p1, iv p2] [])) st8 ?_
  refine Go.pull (V := T8.setTop (mkF m 84 #[rv a, iv p1, iv p2] [(.ref a)])) (fun t k => XS.aloadN X8.here hx rfl (hb hby dA1_83) rfl rfl k) ?_
  exact Go.retR X8 hx Bd.notSynchronized Bd.returns rfl rfl rfl (hb hby dA1_84) (by rw [e8]; exact ⟨rfl, N8, K8, ((Fr'.other W6 (Or.inr (slot_ne (Or.inl (hw _ (List.mem_of_getElem? (i := 24) rfl))) (Or.inl (hw _ (List.mem_of_getElem? (i := 32) rfl))) (by decide) (t := (.array .long)) (t' := .int) (by decide) (by decide)))).other W8 (Or.inl hnar)), (Fw6.other W8 (Or.inl hnar)), V8⟩) (by decide) (by decide)
theorem dCJ_0 : decode jdk_65_method_124_code 0 = .ok (.iload_n 1, 1) := by decide +kernel
theorem dCJ_1 : decode jdk_65_method_124_code 1 = .ok (.aload_n 0, 1) := by decide +kernel
theorem dCJ_2 : decode jdk_65_method_124_code 2 = .ok (.arraylength, 1) := by decide +kernel
theorem dCJ_3 : decode jdk_65_method_124_code 3 = .ok (.if_icmp .ne 11, 3) := by decide +kernel
theorem dCJ_14 : decode jdk_65_method_124_code 14 = .ok (.iload_n 1, 1) := by decide +kernel
theorem dCJ_15 : decode jdk_65_method_124_code 15 = .ok (.newarray .long, 2) := by decide +kernel
theorem dCJ_17 : decode jdk_65_method_124_code 17 = .ok (.astore_n 2, 1) := by decide +kernel
theorem dCJ_18 : decode jdk_65_method_124_code 18 = .ok (.aload_n 0, 1) := by decide +kernel
theorem dCJ_19 : decode jdk_65_method_124_code 19 = .ok (.iconst 0, 1) := by decide +kernel
theorem dCJ_20 : decode jdk_65_method_124_code 20 = .ok (.aload_n 2, 1) := by decide +kernel
theorem dCJ_21 : decode jdk_65_method_124_code 21 = .ok (.iconst 0, 1) := by decide +kernel
theorem dCJ_22 : decode jdk_65_method_124_code 22 = .ok (.aload_n 0, 1) := by decide +kernel
theorem dCJ_23 : decode jdk_65_method_124_code 23 = .ok (.arraylength, 1) := by decide +kernel
theorem dCJ_24 : decode jdk_65_method_124_code 24 = .ok (.iload_n 1, 1) := by decide +kernel
theorem dCJ_25 : decode jdk_65_method_124_code 25 = .ok (.invokestatic 304, 3) := by decide +kernel
theorem dCJ_28 : decode jdk_65_method_124_code 28 = .ok (.invokestatic 150, 3) := by decide +kernel
theorem dCJ_31 : decode jdk_65_method_124_code 31 = .ok (.aload_n 2, 1) := by decide +kernel
theorem dCJ_32 : decode jdk_65_method_124_code 32 = .ok (.areturn, 1) := by decide +kernel
theorem efCJ (m : MethodId) (x0 : Addr) : entryFrame m #[(.ref x0), (.int 2)] 3 = mkF m 0 #[rv x0, iv 2, .unset] [] := by first | (simp [entryFrame, mkF, argsToLocals, Value.category]; done) | rfl
theorem pn_java_util_Arrays : plainName "java/util/Arrays" = true := by first | (simp [plainName, overriddenIn]; done) | decide +kernel
def QCJ (Z : State) (d : Addr) (kd : ClassId) (ja : Int64) (jb : Int64) (h0 : Heap) (n0 : Nat) (v : Option Value) (h : Heap) (L : List Loc) : Prop := ∃ (rn : Addr), ∃ (kn : ClassId), v = some (.ref rn) ∧ Fr n0 L ∧ Keep h0 h [] ∧ h0.size ≤ rn ∧ Arv Z h rn kn .long (2 : Int32) [(.long ja), (.long jb)] (.long 0)
set_option maxRecDepth 65536 in
set_option maxHeartbeats 40000000 in
theorem rmCJ (l : Launch) (Z : State) (a0 : Array Value) (hw : ∀ d ∈ tables_1, d.before a0 Z = true) (ws : List Jvm.Cond) (d : Addr) (kd : ClassId) (ja : Int64) (jb : Int64) (h0 : Heap) (n0 : Nat) (Z0 : n0 ≤ h0.size) (Vd : Arv Z h0 d kd .long (8 : Int32) [(.long ja), (.long jb), (.long 0), (.long 0), (.long 0), (.long 0), (.long 0), (.long 0)] (.long 0)) :
    MetFree l (⟨"java/util/Arrays", "copyOf", "([JI)[J"⟩ : MethodName) (head1 (Jvm.Cond.code (⟨"java/util/Arrays", "copyOf", "([JI)[J"⟩ : MethodName) jdk_65_method_124_code 3 (some (.array .long)) :: ws) ({ frames := 1, cells := 1, slots := 2, locals := 18 } : Room)) (fun as' U => as' = #[(.ref d), (.int 2)] ∧ Z.Warmed39 U.vm ∧ U.heap = h0) (fun _ _ _ _ _ => True) (fun _ U o U' => ∃ v L, o = .returned v ∧ QCJ Z d kd ja jb h0 n0 v U'.heap L ∧ FrameEnd U o U' L ({ frames := 1, cells := 1, slots := 2, locals := 18 } : Room).cells ({ frames := 1, cells := 1, slots := 2, locals := 18 } : Room).slots) := by
  refine MetFree.of_bodySF (plainFor_of_name pn_java_util_Arrays) hisR ?_
  intro p e s m args below meth c s₁ Bd hml0 hP hK
  obtain ⟨rfl, hZ, hh⟩ := hP
  have hx := Bd.exec
  have hby := Bd.bytes
  have hml : c.maxLocals = 3 := hml0
  have hown : s.vm.findClass "java/util/Arrays" = some m.cls := findClass_of_methodNamed Bd.named
  have hnm := (name_of_methodNamed Bd.named Bd.method).1
  have X0 : Stand p l e ({ frames := 1, cells := 1, slots := 2, locals := 18 } : Room) s m #[(.ref d), (.int 2)] below meth c s₁ [] 0 0 := Stand.of_body Bd
  have e0 : s₁.heap = h0 := by rw [← hh, Bd.state]; rfl
  have N0 := Fr.nil n0
  show Go p e below s (fun v h L => QCJ Z d kd ja jb h0 n0 v h L) 1 2 _
  refine Go.pull (V := s₁.setTop (mkF m 0 #[rv d, iv 2, .unset] [])) (fun t k => castTop (efCJ m d) k) ?_
  refine Go.pull (V := s₁.setTop (mkF m 1 #[rv d, iv 2, .unset] [(.int 2)])) (fun t k => XS.iloadN X0.here hx rfl (hb hby dCJ_0) rfl  k) ?_
  refine Go.pull (V := s₁.setTop (mkF m 2 #[rv d, iv 2, .unset] [(.ref d), (.int 2)])) (fun t k => XS.aloadN X0.here hx rfl (hb hby dCJ_1) rfl rfl k) ?_
  obtain ⟨cl1, Ar1, q1, S1, M1, Hs1, G1⟩ := id Vd
  refine Go.pull (V := s₁.setTop (mkF m 3 #[rv d, iv 2, .unset] [(.int 8), (.int 2)])) (fun t k => X0.arraylength hx (by rw [e0]; exact Ar1.1) (State.isArrayOf_alike hZ.alike Ar1.2.1) (g := (mkF m 2 #[rv d, iv 2, .unset] [(.ref d), (.int 2)])) rfl rfl (hb hby dCJ_2) _ (by rw [len_of S1 M1]; exact k)) ?_
  refine Go.pull (V := s₁.setTop (mkF m 14 #[rv d, iv 2, .unset] [])) (fun t k => XS.icmpYes X0.here hx rfl (pc0 := 3) (pc' := 14) rfl (hb hby dCJ_3) rfl (XT.ii_ne_t (by decide)) (by decide) (by decide) k) ?_
  refine Go.pull (V := s₁.setTop (mkF m 15 #[rv d, iv 2, .unset] [(.int 2)])) (fun t k => XS.iloadN X0.here hx rfl (hb hby dCJ_14) rfl  k) ?_
  obtain ⟨T2, h2, k2, X2, e2, E2, A2, D2, st2⟩ := newPE X0 hx hZ (hw _ (List.mem_of_getElem? (i := 22) rfl)) e0 (g := (mkF m 15 #[rv d, iv 2, .unset] [(.int 2)])) rfl (hb hby dCJ_15) rfl (by decide) (cap := 2) (by decide) (by decide) (by decide) (by decide) (ad := "[J") rfl
  obtain ⟨b2, g2⟩ : ∃ z, z = h0.size := ⟨_, rfl⟩
  rw [← g2] at A2 D2 st2
  have ne_d_b2 : d ≠ b2 := Nat.ne_of_lt (Nat.lt_of_lt_of_le Vd.lt (Nat.le_of_eq g2.symm))
  have sz_b2 : h0.size ≤ b2 := Nat.le_trans ((Keep.refl h0 [])).1 (Nat.le_of_eq g2.symm)
  have g_b2 : n0 ≤ b2 := Nat.le_trans Z0 sz_b2
  have K2 : Keep h0 h2 [] := (Keep.refl h0 []).ext E2
  have V2 : Arv Z h2 b2 k2 .long (2 : Int32) [(.long 0), (.long 0)] (.long 0) := (Arv.new A2 (by decide)).pad (pad_rep [] (.long 0) 2)
  refine Go.pull (V := T2.setTop (mkF m 17 #[rv d, iv 2, .unset] [(.ref b2)])) st2 ?_
  refine Go.pull (V := T2.setTop (mkF m 18 #[rv d, iv 2, rv b2] [])) (fun t k => XS.astoreN X2.here hx rfl (hb hby dCJ_17) rfl rfl (l' := #[rv d, iv 2, rv b2]) rfl k) ?_
  refine Go.pull (V := T2.setTop (mkF m 19 #[rv d, iv 2, rv b2] [(.ref d)])) (fun t k => XS.aloadN X2.here hx rfl (hb hby dCJ_18) rfl rfl k) ?_
  refine Go.pull (V := T2.setTop (mkF m 20 #[rv d, iv 2, rv b2] [(.int 0), (.ref d)])) (fun t k => XS.iconst X2.here hx rfl (hb hby dCJ_19) k) ?_
  refine Go.pull (V := T2.setTop (mkF m 21 #[rv d, iv 2, rv b2] [(.ref b2), (.int 0), (.ref d)])) (fun t k => XS.aloadN X2.here hx rfl (hb hby dCJ_20) rfl rfl k) ?_
  refine Go.pull (V := T2.setTop (mkF m 22 #[rv d, iv 2, rv b2] [(.int 0), (.ref b2), (.int 0), (.ref d)])) (fun t k => XS.iconst X2.here hx rfl (hb hby dCJ_21) k) ?_
  refine Go.pull (V := T2.setTop (mkF m 23 #[rv d, iv 2, rv b2] [(.ref d), (.int 0), (.ref b2), (.int 0), (.ref d)])) (fun t k => XS.aloadN X2.here hx rfl (hb hby dCJ_22) rfl rfl k) ?_
  obtain ⟨cl3, Ar3, q3, S3, M3, Hs3, G3⟩ := id (Vd.ext E2)
  refine Go.pull (V := T2.setTop (mkF m 24 #[rv d, iv 2, rv b2] [(.int 8), (.int 0), (.ref b2), (.int 0), (.ref d)])) (fun t k => X2.arraylength hx (by rw [e2]; exact Ar3.1) (State.isArrayOf_alike hZ.alike Ar3.2.1) (g := (mkF m 23 #[rv d, iv 2, rv b2] [(.ref d), (.int 0), (.ref b2), (.int 0), (.ref d)])) rfl rfl (hb hby dCJ_23) _ (by rw [len_of S3 M3]; exact k)) ?_
  refine Go.pull (V := T2.setTop (mkF m 25 #[rv d, iv 2, rv b2] [(.int 2), (.int 8), (.int 0), (.ref b2), (.int 0), (.ref d)])) (fun t k => XS.iloadN X2.here hx rfl (hb hby dCJ_24) rfl  k) ?_
  obtain ⟨_, _, ⟨T4, L4, k4, n4⟩, -, X4, ⟨Lc4, hQ4, l4, y4, z4⟩, st4⟩ := Jvm.LawKit.callS X2 hx (y := (⟨"java/lang/Math", "min", "(II)I"⟩ : MethodName)) hown (mvT hZ (hw _ (List.mem_of_getElem? (i := 42) rfl))) (mvT hZ (hw _ (List.mem_of_getElem? (i := 7) rfl))) (mvT hZ (hw _ (List.mem_of_getElem? (i := 8) rfl))) (mvT hZ (hw _ (List.mem_of_getElem? (i := 9) rfl))) (by decide) (backOf (W := 4) (rmMn l Z a0 hw [] (8 : Int32) (2 : Int32) h2 n0 ) hZ (hw _ (List.mem_of_getElem? (i := 9) rfl)) (hw _ (List.mem_of_getElem? (i := 8) rfl)) (by decide) (by decide)) (g := (mkF m 25 #[rv d, iv 2, rv b2] [(.int 2), (.int 8), (.int 0), (.ref b2), (.int 0), (.ref d)])) rfl (by rw [hml]; rfl) (argsL := [(.int 8), (.int 2)]) (rest := [(.int 0), (.ref b2), (.int 0), (.ref d)]) (lenOf pd_0 rfl) rfl (by show 2 * 0 + _ ≤ _; exact Nat.le_of_eq rfl) (hb hby dCJ_25) (fun _ _ => ⟨rfl, e2, (by decide : 1 + 0 ≤ _), (by decide : 2 + 0 ≤ _)⟩)
  dsimp only [Pt.U, Pt.locs, Pt.cells, Pt.slots] at X4 l4 y4 z4 st4 hQ4
  subst l4 y4 z4
  obtain ⟨hv4, N4q, e4⟩ := hQ4
  rw [(show (own_min (8 : Int32) (2 : Int32)) = (2 : Int32) from by decide)] at hv4; subst hv4
  have N4 := Fr.app N0 N4q
  refine Go.pull (V := T4.setTop (mkF m 28 #[rv d, iv 2, rv b2] [(.int 2), (.int 0), (.ref b2), (.int 0), (.ref d)])) st4 ?_
  obtain ⟨T5, h5, L5, X5, e5, N5, Kc5, Va5, st5⟩ := cpA X4 hx hZ hown (hw _ (List.mem_of_getElem? (i := 43) rfl)) (hw _ (List.mem_of_getElem? (i := 46) rfl)) (hw _ (List.mem_of_getElem? (i := 44) rfl)) (hw _ (List.mem_of_getElem? (i := 45) rfl)) e4 (Vd.ext E2) V2 (Or.inl ⟨rfl, rfl⟩) (by decide) (by decide) (by decide) (by decide) (by decide) (us := [(.long ja), (.long jb)]) rfl (by decide) N4 g_b2 (g := (mkF m 28 #[rv d, iv 2, rv b2] [(.int 2), (.int 0), (.ref b2), (.int 0), (.ref d)])) rfl (by rw [hml]; rfl) rfl (hb hby dCJ_28) (by decide) (W := 0) (by show 2 * 0 + _ ≤ _; exact Nat.le_of_eq rfl) (by decide)
  have V5 : Arv Z h5 b2 k2 .long (2 : Int32) [(.long ja), (.long jb)] (.long 0) := Va5
  have K5 : Keep h0 h5 [] := K2.trans Kc5 ((allS (Or.inr sz_b2) all0))
  refine Go.pull (V := T5.setTop (mkF m 31 #[rv d, iv 2, rv b2] [])) st5 ?_
  refine Go.pull (V := T5.setTop (mkF m 32 #[rv d, iv 2, rv b2] [(.ref b2)])) (fun t k => XS.aloadN X5.here hx rfl (hb hby dCJ_31) rfl rfl k) ?_
  exact Go.retR X5 hx Bd.notSynchronized Bd.returns rfl rfl rfl (hb hby dCJ_32) (by rw [e5]; exact ⟨b2, k2, rfl, N5, K5, sz_b2, V5⟩) (by decide) (by decide)
theorem dS1_0 : decode jdk_2529_method_15_code 0 = .ok (.iload_n 1, 1) := by decide +kernel
theorem dS1_1 : decode jdk_2529_method_15_code 1 = .ok (.istore 4, 2) := by decide +kernel
theorem dS1_3 : decode jdk_2529_method_15_code 3 = .ok (.iinc 4 1, 3) := by decide +kernel
theorem dS1_6 : decode jdk_2529_method_15_code 6 = .ok (.iload 4, 2) := by decide +kernel
theorem dS1_8 : decode jdk_2529_method_15_code 8 = .ok (.iload_n 2, 1) := by decide +kernel
theorem dS1_9 : decode jdk_2529_method_15_code 9 = .ok (.if_icmp .ge 60, 3) := by decide +kernel
theorem dS1_12 : decode jdk_2529_method_15_code 12 = .ok (.aload_n 0, 1) := by decide +kernel
theorem dS1_13 : decode jdk_2529_method_15_code 13 = .ok (.iload 4, 2) := by decide +kernel
theorem dS1_15 : decode jdk_2529_method_15_code 15 = .ok (.dup, 1) := by decide +kernel
theorem dS1_16 : decode jdk_2529_method_15_code 16 = .ok (.istore_n 3, 1) := by decide +kernel
theorem dS1_17 : decode jdk_2529_method_15_code 17 = .ok (.laload, 1) := by decide +kernel
theorem dS1_18 : decode jdk_2529_method_15_code 18 = .ok (.lstore 5, 2) := by decide +kernel
theorem dS1_20 : decode jdk_2529_method_15_code 20 = .ok (.lload 5, 2) := by decide +kernel
theorem dS1_22 : decode jdk_2529_method_15_code 22 = .ok (.aload_n 0, 1) := by decide +kernel
theorem dS1_23 : decode jdk_2529_method_15_code 23 = .ok (.iload_n 3, 1) := by decide +kernel
theorem dS1_24 : decode jdk_2529_method_15_code 24 = .ok (.iconst 1, 1) := by decide +kernel
theorem dS1_25 : decode jdk_2529_method_15_code 25 = .ok (.isub, 1) := by decide +kernel
theorem dS1_26 : decode jdk_2529_method_15_code 26 = .ok (.laload, 1) := by decide +kernel
theorem dS1_27 : decode jdk_2529_method_15_code 27 = .ok (.lcmp, 1) := by decide +kernel
theorem dS1_28 : decode jdk_2529_method_15_code 28 = .ok (.ifCond .ge 38, 3) := by decide +kernel
theorem dS1_31 : decode jdk_2529_method_15_code 31 = .ok (.iinc 3 (-1), 3) := by decide +kernel
theorem dS1_34 : decode jdk_2529_method_15_code 34 = .ok (.iload_n 3, 1) := by decide +kernel
theorem dS1_35 : decode jdk_2529_method_15_code 35 = .ok (.iload_n 1, 1) := by decide +kernel
theorem dS1_36 : decode jdk_2529_method_15_code 36 = .ok (.if_icmp .lt 23, 3) := by decide +kernel
theorem dS1_39 : decode jdk_2529_method_15_code 39 = .ok (.lload 5, 2) := by decide +kernel
theorem dS1_41 : decode jdk_2529_method_15_code 41 = .ok (.aload_n 0, 1) := by decide +kernel
theorem dS1_42 : decode jdk_2529_method_15_code 42 = .ok (.iload_n 3, 1) := by decide +kernel
theorem dS1_43 : decode jdk_2529_method_15_code 43 = .ok (.laload, 1) := by decide +kernel
theorem dS1_44 : decode jdk_2529_method_15_code 44 = .ok (.lcmp, 1) := by decide +kernel
theorem dS1_45 : decode jdk_2529_method_15_code 45 = .ok (.ifCond .ge 14, 3) := by decide +kernel
theorem dS1_48 : decode jdk_2529_method_15_code 48 = .ok (.aload_n 0, 1) := by decide +kernel
theorem dS1_49 : decode jdk_2529_method_15_code 49 = .ok (.iload_n 3, 1) := by decide +kernel
theorem dS1_50 : decode jdk_2529_method_15_code 50 = .ok (.iconst 1, 1) := by decide +kernel
theorem dS1_51 : decode jdk_2529_method_15_code 51 = .ok (.iadd, 1) := by decide +kernel
theorem dS1_52 : decode jdk_2529_method_15_code 52 = .ok (.aload_n 0, 1) := by decide +kernel
theorem dS1_53 : decode jdk_2529_method_15_code 53 = .ok (.iload_n 3, 1) := by decide +kernel
theorem dS1_54 : decode jdk_2529_method_15_code 54 = .ok (.laload, 1) := by decide +kernel
theorem dS1_55 : decode jdk_2529_method_15_code 55 = .ok (.lastore, 1) := by decide +kernel
theorem dS1_56 : decode jdk_2529_method_15_code 56 = .ok (.goto (-25), 3) := by decide +kernel
theorem dS1_59 : decode jdk_2529_method_15_code 59 = .ok (.aload_n 0, 1) := by decide +kernel
theorem dS1_60 : decode jdk_2529_method_15_code 60 = .ok (.iload_n 3, 1) := by decide +kernel
theorem dS1_61 : decode jdk_2529_method_15_code 61 = .ok (.iconst 1, 1) := by decide +kernel
theorem dS1_62 : decode jdk_2529_method_15_code 62 = .ok (.iadd, 1) := by decide +kernel
theorem dS1_63 : decode jdk_2529_method_15_code 63 = .ok (.lload 5, 2) := by decide +kernel
theorem dS1_65 : decode jdk_2529_method_15_code 65 = .ok (.lastore, 1) := by decide +kernel
theorem dS1_66 : decode jdk_2529_method_15_code 66 = .ok (.goto (-63), 3) := by decide +kernel
theorem dS1_69 : decode jdk_2529_method_15_code 69 = .ok (.return_, 1) := by decide +kernel
theorem efS1 (m : MethodId) (x0 : Addr) : entryFrame m #[(.ref x0), (.int 0), (.int 2)] 7 = mkF m 0 #[rv x0, iv 0, iv 2, .unset, .unset, .unset, .unset] [] := by first | (simp [entryFrame, mkF, argsToLocals, Value.category]; done) | rfl
theorem pn_java_util_DualPivotQuicksort : plainName "java/util/DualPivotQuicksort" = true := by first | (simp [plainName, overriddenIn]; done) | decide +kernel
def QS1 (Z : State) (d : Addr) (kd : ClassId) (ja : Int64) (jb : Int64) (h0 : Heap) (n0 : Nat) (v : Option Value) (h : Heap) (L : List Loc) : Prop := ∃ (f1 : Int64), ∃ (f2 : Int64), v = none ∧ Fr n0 L ∧ Keep h0 h [d] ∧ Arv Z h d kd .long (2 : Int32) [(.long f1), (.long f2)] (.long 0) ∧ ((jb < ja ∧ f1 = jb ∧ f2 = ja) ∨ (¬ jb < ja ∧ f1 = ja ∧ f2 = jb))
set_option maxRecDepth 65536 in
set_option maxHeartbeats 40000000 in
theorem rmS1 (l : Launch) (Z : State) (a0 : Array Value) (hw : ∀ d ∈ tables_1, d.before a0 Z = true) (ws : List Jvm.Cond) (d : Addr) (kd : ClassId) (ja : Int64) (jb : Int64) (h0 : Heap) (n0 : Nat) (g_d : n0 ≤ d) (Vd : Arv Z h0 d kd .long (2 : Int32) [(.long ja), (.long jb)] (.long 0)) :
    MetFree l (⟨"java/util/DualPivotQuicksort", "insertionSort", "([JII)V"⟩ : MethodName) (head1 (Jvm.Cond.code (⟨"java/util/DualPivotQuicksort", "insertionSort", "([JII)V"⟩ : MethodName) jdk_2529_method_15_code 7 none :: ws) ({ frames := 0, cells := 0, slots := 0, locals := 0 } : Room)) (fun as' U => as' = #[(.ref d), (.int 0), (.int 2)] ∧ Z.Warmed39 U.vm ∧ U.heap = h0) (fun _ _ _ _ _ => True) (fun _ U o U' => ∃ v L, o = .returned v ∧ QS1 Z d kd ja jb h0 n0 v U'.heap L ∧ FrameEnd U o U' L ({ frames := 0, cells := 0, slots := 0, locals := 0 } : Room).cells ({ frames := 0, cells := 0, slots := 0, locals := 0 } : Room).slots) := by
  refine MetFree.of_bodySF (plainFor_of_name pn_java_util_DualPivotQuicksort) hisR ?_
  intro p e s m args below meth c s₁ Bd hml0 hP hK
  obtain ⟨rfl, hZ, hh⟩ := hP
  have hx := Bd.exec
  have hby := Bd.bytes
  have hml : c.maxLocals = 7 := hml0
  have hown : s.vm.findClass "java/util/DualPivotQuicksort" = some m.cls := findClass_of_methodNamed Bd.named
  have hnm := (name_of_methodNamed Bd.named Bd.method).1
  have X0 : Stand p l e ({ frames := 0, cells := 0, slots := 0, locals := 0 } : Room) s m #[(.ref d), (.int 0), (.int 2)] below meth c s₁ [] 0 0 := Stand.of_body Bd
  have e0 : s₁.heap = h0 := by rw [← hh, Bd.state]; rfl
  have N0 := Fr.nil n0
  show Go p e below s (fun v h L => QS1 Z d kd ja jb h0 n0 v h L) 0 0 _
  refine Go.pull (V := s₁.setTop (mkF m 0 #[rv d, iv 0, iv 2, .unset, .unset, .unset, .unset] [])) (fun t k => castTop (efS1 m d) k) ?_
  refine Go.pull (V := s₁.setTop (mkF m 1 #[rv d, iv 0, iv 2, .unset, .unset, .unset, .unset] [(.int 0)])) (fun t k => XS.iloadN X0.here hx rfl (hb hby dS1_0) rfl  k) ?_
  refine Go.pull (V := s₁.setTop (mkF m 3 #[rv d, iv 0, iv 2, .unset, iv 0, .unset, .unset] [])) (fun t k => XS.istore X0.here hx rfl (hb hby dS1_1) rfl (l' := #[rv d, iv 0, iv 2, .unset, iv 0, .unset, .unset]) rfl k) ?_
  refine Go.pull (V := s₁.setTop (mkF m 6 #[rv d, iv 0, iv 2, .unset, iv 1, .unset, .unset] [])) (fun t k => XS.iinc X0.here hx rfl (hb hby dS1_3) rfl (l' := #[rv d, iv 0, iv 2, .unset, iv 1, .unset, .unset]) rfl k) ?_
  refine Go.pull (V := s₁.setTop (mkF m 8 #[rv d, iv 0, iv 2, .unset, iv 1, .unset, .unset] [(.int 1)])) (fun t k => XS.iload X0.here hx rfl (hb hby dS1_6) rfl  k) ?_
  refine Go.pull (V := s₁.setTop (mkF m 9 #[rv d, iv 0, iv 2, .unset, iv 1, .unset, .unset] [(.int 2), (.int 1)])) (fun t k => XS.iloadN X0.here hx rfl (hb hby dS1_8) rfl  k) ?_
  refine Go.pull (V := s₁.setTop (mkF m 12 #[rv d, iv 0, iv 2, .unset, iv 1, .unset, .unset] [])) (fun t k => XS.icmpNo X0.here hx rfl (hb hby dS1_9) rfl (XT.ii_ge_f (by decide)) k) ?_
  refine Go.pull (V := s₁.setTop (mkF m 13 #[rv d, iv 0, iv 2, .unset, iv 1, .unset, .unset] [(.ref d)])) (fun t k => XS.aloadN X0.here hx rfl (hb hby dS1_12) rfl rfl k) ?_
  refine Go.pull (V := s₁.setTop (mkF m 15 #[rv d, iv 0, iv 2, .unset, iv 1, .unset, .unset] [(.int 1), (.ref d)])) (fun t k => XS.iload X0.here hx rfl (hb hby dS1_13) rfl  k) ?_
  refine Go.pull (V := s₁.setTop (mkF m 16 #[rv d, iv 0, iv 2, .unset, iv 1, .unset, .unset] [(.int 1), (.int 1), (.ref d)])) (fun t k => XS.dup X0.here hx rfl (hb hby dS1_15) rfl rfl k) ?_
  refine Go.pull (V := s₁.setTop (mkF m 17 #[rv d, iv 0, iv 2, iv 1, iv 1, .unset, .unset] [(.int 1), (.ref d)])) (fun t k => XS.istoreN X0.here hx rfl (hb hby dS1_16) rfl (l' := #[rv d, iv 0, iv 2, iv 1, iv 1, .unset, .unset]) rfl k) ?_
  obtain ⟨cl1, Ar1, q1, S1, M1, Hs1, G1⟩ := id Vd
  have hin1 : ¬ ((1 : Int32) < 0 ∨ cl1.slots.size ≤ ((1 : Int32)).toNatClampNeg) := inb_of S1 ⟨by decide, by decide⟩
  have hat1 : cl1.slots[((1 : Int32)).toNatClampNeg]? = some (.long jb) := Has.at Hs1 hin1 rfl
  refine Go.pull (V := s₁.setTop (mkF m 18 #[rv d, iv 0, iv 2, iv 1, iv 1, .unset, .unset] [(.long jb)])) (fun t k => X0.laload hx (j := (1 : Int32)) (v := (.long jb)) (by rw [e0]; exact Ar1.1) (State.isArrayOf_alike hZ.alike Ar1.2.1) Ar1.2.2 hin1 hat1 (g := (mkF m 17 #[rv d, iv 0, iv 2, iv 1, iv 1, .unset, .unset] [(.int 1), (.ref d)])) rfl rfl (hb hby dS1_17) _ k) ?_
  refine Go.pull (V := s₁.setTop (mkF m 20 #[rv d, iv 0, iv 2, iv 1, iv 1, .val (.long jb), .second] [])) (fun t k => XS.lstore X0.here hx rfl (hb hby dS1_18) rfl (l' := #[rv d, iv 0, iv 2, iv 1, iv 1, .val (.long jb), .second]) rfl k) ?_
  refine Go.pull (V := s₁.setTop (mkF m 22 #[rv d, iv 0, iv 2, iv 1, iv 1, .val (.long jb), .second] [(.long jb)])) (fun t k => XS.lload X0.here hx rfl (hb hby dS1_20) rfl  k) ?_
  refine Go.pull (V := s₁.setTop (mkF m 23 #[rv d, iv 0, iv 2, iv 1, iv 1, .val (.long jb), .second] [(.ref d), (.long jb)])) (fun t k => XS.aloadN X0.here hx rfl (hb hby dS1_22) rfl rfl k) ?_
  refine Go.pull (V := s₁.setTop (mkF m 24 #[rv d, iv 0, iv 2, iv 1, iv 1, .val (.long jb), .second] [(.int 1), (.ref d), (.long jb)])) (fun t k => XS.iloadN X0.here hx rfl (hb hby dS1_23) rfl  k) ?_
  refine Go.pull (V := s₁.setTop (mkF m 25 #[rv d, iv 0, iv 2, iv 1, iv 1, .val (.long jb), .second] [(.int 1), (.int 1), (.ref d), (.long jb)])) (fun t k => XS.iconst X0.here hx rfl (hb hby dS1_24) k) ?_
  refine Go.pull (V := s₁.setTop (mkF m 26 #[rv d, iv 0, iv 2, iv 1, iv 1, .val (.long jb), .second] [(.int 0), (.ref d), (.long jb)])) (fun t k => XS.isub X0.here hx rfl (hb hby dS1_25) rfl k) ?_
  obtain ⟨cl2, Ar2, q2, S2, M2, Hs2, G2⟩ := id Vd
  have hin2 : ¬ ((0 : Int32) < 0 ∨ cl2.slots.size ≤ ((0 : Int32)).toNatClampNeg) := inb_of S2 ⟨by decide, by decide⟩
  have hat2 : cl2.slots[((0 : Int32)).toNatClampNeg]? = some (.long ja) := Has.at Hs2 hin2 rfl
  refine Go.pull (V := s₁.setTop (mkF m 27 #[rv d, iv 0, iv 2, iv 1, iv 1, .val (.long jb), .second] [(.long ja), (.long jb)])) (fun t k => X0.laload hx (j := (0 : Int32)) (v := (.long ja)) (by rw [e0]; exact Ar2.1) (State.isArrayOf_alike hZ.alike Ar2.2.1) Ar2.2.2 hin2 hat2 (g := (mkF m 26 #[rv d, iv 0, iv 2, iv 1, iv 1, .val (.long jb), .second] [(.int 0), (.ref d), (.long jb)])) rfl rfl (hb hby dS1_26) _ k) ?_
  refine Go.pull (V := s₁.setTop (mkF m 28 #[rv d, iv 0, iv 2, iv 1, iv 1, .val (.long jb), .second] [(.int (XT.cmpL jb ja))])) (fun t k => XT.lcmp X0.here hx rfl (hb hby dS1_27) rfl k) ?_
  by_cases hc28_3 : jb < ja
  · skip
    refine Go.pull (V := s₁.setTop (mkF m 31 #[rv d, iv 0, iv 2, iv 1, iv 1, .val (.long jb), .second] [])) (fun t k => XS.ifNo X0.here hx rfl (hb hby dS1_28) rfl (XT.ll_ge_f hc28_3) k) ?_
    refine Go.pull (V := s₁.setTop (mkF m 34 #[rv d, iv 0, iv 2, iv 0, iv 1, .val (.long jb), .second] [])) (fun t k => XS.iinc X0.here hx rfl (hb hby dS1_31) rfl (l' := #[rv d, iv 0, iv 2, iv 0, iv 1, .val (.long jb), .second]) rfl k) ?_
    refine Go.pull (V := s₁.setTop (mkF m 35 #[rv d, iv 0, iv 2, iv 0, iv 1, .val (.long jb), .second] [(.int 0)])) (fun t k => XS.iloadN X0.here hx rfl (hb hby dS1_34) rfl  k) ?_
    refine Go.pull (V := s₁.setTop (mkF m 36 #[rv d, iv 0, iv 2, iv 0, iv 1, .val (.long jb), .second] [(.int 0), (.int 0)])) (fun t k => XS.iloadN X0.here hx rfl (hb hby dS1_35) rfl  k) ?_
    refine Go.pull (V := s₁.setTop (mkF m 39 #[rv d, iv 0, iv 2, iv 0, iv 1, .val (.long jb), .second] [])) (fun t k => XS.icmpNo X0.here hx rfl (hb hby dS1_36) rfl (XT.ii_lt_f (by decide)) k) ?_
    refine Go.pull (V := s₁.setTop (mkF m 41 #[rv d, iv 0, iv 2, iv 0, iv 1, .val (.long jb), .second] [(.long jb)])) (fun t k => XS.lload X0.here hx rfl (hb hby dS1_39) rfl  k) ?_
    refine Go.pull (V := s₁.setTop (mkF m 42 #[rv d, iv 0, iv 2, iv 0, iv 1, .val (.long jb), .second] [(.ref d), (.long jb)])) (fun t k => XS.aloadN X0.here hx rfl (hb hby dS1_41) rfl rfl k) ?_
    refine Go.pull (V := s₁.setTop (mkF m 43 #[rv d, iv 0, iv 2, iv 0, iv 1, .val (.long jb), .second] [(.int 0), (.ref d), (.long jb)])) (fun t k => XS.iloadN X0.here hx rfl (hb hby dS1_42) rfl  k) ?_
    obtain ⟨cl4, Ar4, q4, S4, M4, Hs4, G4⟩ := id Vd
    have hin4 : ¬ ((0 : Int32) < 0 ∨ cl4.slots.size ≤ ((0 : Int32)).toNatClampNeg) := inb_of S4 ⟨by decide, by decide⟩
    have hat4 : cl4.slots[((0 : Int32)).toNatClampNeg]? = some (.long ja) := Has.at Hs4 hin4 rfl
    refine Go.pull (V := s₁.setTop (mkF m 44 #[rv d, iv 0, iv 2, iv 0, iv 1, .val (.long jb), .second] [(.long ja), (.long jb)])) (fun t k => X0.laload hx (j := (0 : Int32)) (v := (.long ja)) (by rw [e0]; exact Ar4.1) (State.isArrayOf_alike hZ.alike Ar4.2.1) Ar4.2.2 hin4 hat4 (g := (mkF m 43 #[rv d, iv 0, iv 2, iv 0, iv 1, .val (.long jb), .second] [(.int 0), (.ref d), (.long jb)])) rfl rfl (hb hby dS1_43) _ k) ?_
    refine Go.pull (V := s₁.setTop (mkF m 45 #[rv d, iv 0, iv 2, iv 0, iv 1, .val (.long jb), .second] [(.int (XT.cmpL jb ja))])) (fun t k => XT.lcmp X0.here hx rfl (hb hby dS1_44) rfl k) ?_
    refine Go.pull (V := s₁.setTop (mkF m 48 #[rv d, iv 0, iv 2, iv 0, iv 1, .val (.long jb), .second] [])) (fun t k => XS.ifNo X0.here hx rfl (hb hby dS1_45) rfl (XT.ll_ge_f hc28_3) k) ?_
    refine Go.pull (V := s₁.setTop (mkF m 49 #[rv d, iv 0, iv 2, iv 0, iv 1, .val (.long jb), .second] [(.ref d)])) (fun t k => XS.aloadN X0.here hx rfl (hb hby dS1_48) rfl rfl k) ?_
    refine Go.pull (V := s₁.setTop (mkF m 50 #[rv d, iv 0, iv 2, iv 0, iv 1, .val (.long jb), .second] [(.int 0), (.ref d)])) (fun t k => XS.iloadN X0.here hx rfl (hb hby dS1_49) rfl  k) ?_
    refine Go.pull (V := s₁.setTop (mkF m 51 #[rv d, iv 0, iv 2, iv 0, iv 1, .val (.long jb), .second] [(.int 1), (.int 0), (.ref d)])) (fun t k => XS.iconst X0.here hx rfl (hb hby dS1_50) k) ?_
    refine Go.pull (V := s₁.setTop (mkF m 52 #[rv d, iv 0, iv 2, iv 0, iv 1, .val (.long jb), .second] [(.int 1), (.ref d)])) (fun t k => XS.iadd X0.here hx rfl (hb hby dS1_51) rfl k) ?_
    refine Go.pull (V := s₁.setTop (mkF m 53 #[rv d, iv 0, iv 2, iv 0, iv 1, .val (.long jb), .second] [(.ref d), (.int 1), (.ref d)])) (fun t k => XS.aloadN X0.here hx rfl (hb hby dS1_52) rfl rfl k) ?_
    refine Go.pull (V := s₁.setTop (mkF m 54 #[rv d, iv 0, iv 2, iv 0, iv 1, .val (.long jb), .second] [(.int 0), (.ref d), (.int 1), (.ref d)])) (fun t k => XS.iloadN X0.here hx rfl (hb hby dS1_53) rfl  k) ?_
    obtain ⟨cl5, Ar5, q5, S5, M5, Hs5, G5⟩ := id Vd
    have hin5 : ¬ ((0 : Int32) < 0 ∨ cl5.slots.size ≤ ((0 : Int32)).toNatClampNeg) := inb_of S5 ⟨by decide, by decide⟩
    have hat5 : cl5.slots[((0 : Int32)).toNatClampNeg]? = some (.long ja) := Has.at Hs5 hin5 rfl
    refine Go.pull (V := s₁.setTop (mkF m 55 #[rv d, iv 0, iv 2, iv 0, iv 1, .val (.long jb), .second] [(.long ja), (.int 1), (.ref d)])) (fun t k => X0.laload hx (j := (0 : Int32)) (v := (.long ja)) (by rw [e0]; exact Ar5.1) (State.isArrayOf_alike hZ.alike Ar5.2.1) Ar5.2.2 hin5 hat5 (g := (mkF m 54 #[rv d, iv 0, iv 2, iv 0, iv 1, .val (.long jb), .second] [(.int 0), (.ref d), (.int 1), (.ref d)])) rfl rfl (hb hby dS1_54) _ k) ?_
    obtain ⟨cl6, Ar6, q6, S6, M6, Hs6, G6⟩ := id Vd
    have hin6 : ¬ ((1 : Int32) < 0 ∨ cl6.slots.size ≤ ((1 : Int32)).toNatClampNeg) := inb_of S6 ⟨by decide, by decide⟩
    obtain ⟨T7, h7, X7, e7, W7, st7⟩ := stJ X0 hx hZ e0 Ar6 (j := (1 : Int32)) hin6 (g := (mkF m 55 #[rv d, iv 0, iv 2, iv 0, iv 1, .val (.long jb), .second] [(.long ja), (.int 1), (.ref d)])) rfl rfl (hb hby dS1_55)
    have V7 : Arv Z h7 d kd .long (2 : Int32) [(.long ja), (.long ja)] (.long 0) := Arv.set Ar6 q6 S6 M6 Hs6 G6 rfl W7 1 rfl (Nat.le_of_ble_eq_true rfl)
    have K7 : Keep h0 h7 [d] := (Keep.refl h0 [d]).wr W7 (Or.inl (List.mem_of_getElem? (i := 0) rfl))
    have N7 := Fr.snoc X7 N0 g_d
    refine Go.pull (V := T7.setTop (mkF m 56 #[rv d, iv 0, iv 2, iv 0, iv 1, .val (.long jb), .second] [])) st7 ?_
    refine Go.pull (V := T7.setTop (mkF m 31 #[rv d, iv 0, iv 2, iv 0, iv 1, .val (.long jb), .second] [])) (fun t k => XS.goto X7.here hx rfl (pc0 := 56) (pc' := 31) rfl (hb hby dS1_56) (by decide) (by decide) k) ?_
    refine Go.pull (V := T7.setTop (mkF m 34 #[rv d, iv 0, iv 2, iv (-1), iv 1, .val (.long jb), .second] [])) (fun t k => XS.iinc X7.here hx rfl (hb hby dS1_31) rfl (l' := #[rv d, iv 0, iv 2, iv (-1), iv 1, .val (.long jb), .second]) rfl k) ?_
    refine Go.pull (V := T7.setTop (mkF m 35 #[rv d, iv 0, iv 2, iv (-1), iv 1, .val (.long jb), .second] [(.int (-1))])) (fun t k => XS.iloadN X7.here hx rfl (hb hby dS1_34) rfl  k) ?_
    refine Go.pull (V := T7.setTop (mkF m 36 #[rv d, iv 0, iv 2, iv (-1), iv 1, .val (.long jb), .second] [(.int 0), (.int (-1))])) (fun t k => XS.iloadN X7.here hx rfl (hb hby dS1_35) rfl  k) ?_
    refine Go.pull (V := T7.setTop (mkF m 59 #[rv d, iv 0, iv 2, iv (-1), iv 1, .val (.long jb), .second] [])) (fun t k => XS.icmpYes X7.here hx rfl (pc0 := 36) (pc' := 59) rfl (hb hby dS1_36) rfl (XT.ii_lt_t (by decide)) (by decide) (by decide) k) ?_
    refine Go.pull (V := T7.setTop (mkF m 60 #[rv d, iv 0, iv 2, iv (-1), iv 1, .val (.long jb), .second] [(.ref d)])) (fun t k => XS.aloadN X7.here hx rfl (hb hby dS1_59) rfl rfl k) ?_
    refine Go.pull (V := T7.setTop (mkF m 61 #[rv d, iv 0, iv 2, iv (-1), iv 1, .val (.long jb), .second] [(.int (-1)), (.ref d)])) (fun t k => XS.iloadN X7.here hx rfl (hb hby dS1_60) rfl  k) ?_
    refine Go.pull (V := T7.setTop (mkF m 62 #[rv d, iv 0, iv 2, iv (-1), iv 1, .val (.long jb), .second] [(.int 1), (.int (-1)), (.ref d)])) (fun t k => XS.iconst X7.here hx rfl (hb hby dS1_61) k) ?_
    refine Go.pull (V := T7.setTop (mkF m 63 #[rv d, iv 0, iv 2, iv (-1), iv 1, .val (.long jb), .second] [(.int 0), (.ref d)])) (fun t k => XS.iadd X7.here hx rfl (hb hby dS1_62) rfl k) ?_
    refine Go.pull (V := T7.setTop (mkF m 65 #[rv d, iv 0, iv 2, iv (-1), iv 1, .val (.long jb), .second] [(.long jb), (.int 0), (.ref d)])) (fun t k => XS.lload X7.here hx rfl (hb hby dS1_63) rfl  k) ?_
    obtain ⟨cl8, Ar8, q8, S8, M8, Hs8, G8⟩ := id V7
    have hin8 : ¬ ((0 : Int32) < 0 ∨ cl8.slots.size ≤ ((0 : Int32)).toNatClampNeg) := inb_of S8 ⟨by decide, by decide⟩
    obtain ⟨T9, h9, X9, e9, W9, st9⟩ := stJ X7 hx hZ e7 Ar8 (j := (0 : Int32)) hin8 (g := (mkF m 65 #[rv d, iv 0, iv 2, iv (-1), iv 1, .val (.long jb), .second] [(.long jb), (.int 0), (.ref d)])) rfl rfl (hb hby dS1_65)
    have V9 : Arv Z h9 d kd .long (2 : Int32) [(.long jb), (.long ja)] (.long 0) := Arv.set Ar8 q8 S8 M8 Hs8 G8 rfl W9 0 rfl (Nat.le_of_ble_eq_true rfl)
    have K9 : Keep h0 h9 [d] := K7.wr W9 (Or.inl (List.mem_of_getElem? (i := 0) rfl))
    have N9 := Fr.snoc X9 N7 g_d
    refine Go.pull (V := T9.setTop (mkF m 66 #[rv d, iv 0, iv 2, iv (-1), iv 1, .val (.long jb), .second] [])) st9 ?_
    refine Go.pull (V := T9.setTop (mkF m 3 #[rv d, iv 0, iv 2, iv (-1), iv 1, .val (.long jb), .second] [])) (fun t k => XS.goto X9.here hx rfl (pc0 := 66) (pc' := 3) rfl (hb hby dS1_66) (by decide) (by decide) k) ?_
    refine Go.pull (V := T9.setTop (mkF m 6 #[rv d, iv 0, iv 2, iv (-1), iv 2, .val (.long jb), .second] [])) (fun t k => XS.iinc X9.here hx rfl (hb hby dS1_3) rfl (l' := #[rv d, iv 0, iv 2, iv (-1), iv 2, .val (.long jb), .second]) rfl k) ?_
    refine Go.pull (V := T9.setTop (mkF m 8 #[rv d, iv 0, iv 2, iv (-1), iv 2, .val (.long jb), .second] [(.int 2)])) (fun t k => XS.iload X9.here hx rfl (hb hby dS1_6) rfl  k) ?_
    refine Go.pull (V := T9.setTop (mkF m 9 #[rv d, iv 0, iv 2, iv (-1), iv 2, .val (.long jb), .second] [(.int 2), (.int 2)])) (fun t k => XS.iloadN X9.here hx rfl (hb hby dS1_8) rfl  k) ?_
    refine Go.pull (V := T9.setTop (mkF m 69 #[rv d, iv 0, iv 2, iv (-1), iv 2, .val (.long jb), .second] [])) (fun t k => XS.icmpYes X9.here hx rfl (pc0 := 9) (pc' := 69) rfl (hb hby dS1_9) rfl (XT.ii_ge_t (by decide)) (by decide) (by decide) k) ?_
    exact Go.ret0 X9 hx Bd.notSynchronized Bd.returns (hb hby dS1_69) (by rw [e9]; exact ⟨jb, ja, rfl, N9, K9, V9, (Or.inl ⟨hc28_3, rfl, rfl⟩)⟩) (by decide) (by decide)
  · skip
    refine Go.pull (V := s₁.setTop (mkF m 66 #[rv d, iv 0, iv 2, iv 1, iv 1, .val (.long jb), .second] [])) (fun t k => XS.ifYes X0.here hx rfl (pc0 := 28) (pc' := 66) rfl (hb hby dS1_28) rfl (XT.ll_ge_t hc28_3) (by decide) (by decide) k) ?_
    refine Go.pull (V := s₁.setTop (mkF m 3 #[rv d, iv 0, iv 2, iv 1, iv 1, .val (.long jb), .second] [])) (fun t k => XS.goto X0.here hx rfl (pc0 := 66) (pc' := 3) rfl (hb hby dS1_66) (by decide) (by decide) k) ?_
    refine Go.pull (V := s₁.setTop (mkF m 6 #[rv d, iv 0, iv 2, iv 1, iv 2, .val (.long jb), .second] [])) (fun t k => XS.iinc X0.here hx rfl (hb hby dS1_3) rfl (l' := #[rv d, iv 0, iv 2, iv 1, iv 2, .val (.long jb), .second]) rfl k) ?_
    refine Go.pull (V := s₁.setTop (mkF m 8 #[rv d, iv 0, iv 2, iv 1, iv 2, .val (.long jb), .second] [(.int 2)])) (fun t k => XS.iload X0.here hx rfl (hb hby dS1_6) rfl  k) ?_
    refine Go.pull (V := s₁.setTop (mkF m 9 #[rv d, iv 0, iv 2, iv 1, iv 2, .val (.long jb), .second] [(.int 2), (.int 2)])) (fun t k => XS.iloadN X0.here hx rfl (hb hby dS1_8) rfl  k) ?_
    refine Go.pull (V := s₁.setTop (mkF m 69 #[rv d, iv 0, iv 2, iv 1, iv 2, .val (.long jb), .second] [])) (fun t k => XS.icmpYes X0.here hx rfl (pc0 := 9) (pc' := 69) rfl (hb hby dS1_9) rfl (XT.ii_ge_t (by decide)) (by decide) (by decide) k) ?_
    exact Go.ret0 X0 hx Bd.notSynchronized Bd.returns (hb hby dS1_69) (by rw [e0]; exact ⟨ja, jb, rfl, N0, (Keep.refl h0 [d]), Vd, (Or.inr ⟨hc28_3, rfl, rfl⟩)⟩) (by decide) (by decide)
theorem dS2_0 : decode jdk_2529_method_13_code 0 = .ok (.iload 4, 2) := by decide +kernel
theorem dS2_2 : decode jdk_2529_method_13_code 2 = .ok (.iconst 1, 1) := by decide +kernel
theorem dS2_3 : decode jdk_2529_method_13_code 3 = .ok (.isub, 1) := by decide +kernel
theorem dS2_4 : decode jdk_2529_method_13_code 4 = .ok (.istore 5, 2) := by decide +kernel
theorem dS2_6 : decode jdk_2529_method_13_code 6 = .ok (.iload 4, 2) := by decide +kernel
theorem dS2_8 : decode jdk_2529_method_13_code 8 = .ok (.iload_n 3, 1) := by decide +kernel
theorem dS2_9 : decode jdk_2529_method_13_code 9 = .ok (.isub, 1) := by decide +kernel
theorem dS2_10 : decode jdk_2529_method_13_code 10 = .ok (.istore 6, 2) := by decide +kernel
theorem dS2_12 : decode jdk_2529_method_13_code 12 = .ok (.iload 6, 2) := by decide +kernel
theorem dS2_14 : decode jdk_2529_method_13_code 14 = .ok (.bipush 65, 2) := by decide +kernel
theorem dS2_16 : decode jdk_2529_method_13_code 16 = .ok (.iload_n 2, 1) := by decide +kernel
theorem dS2_17 : decode jdk_2529_method_13_code 17 = .ok (.iadd, 1) := by decide +kernel
theorem dS2_18 : decode jdk_2529_method_13_code 18 = .ok (.if_icmp .ge 28, 3) := by decide +kernel
theorem dS2_21 : decode jdk_2529_method_13_code 21 = .ok (.iload_n 2, 1) := by decide +kernel
theorem dS2_22 : decode jdk_2529_method_13_code 22 = .ok (.iconst 1, 1) := by decide +kernel
theorem dS2_23 : decode jdk_2529_method_13_code 23 = .ok (.iand, 1) := by decide +kernel
theorem dS2_24 : decode jdk_2529_method_13_code 24 = .ok (.ifCond .le 22, 3) := by decide +kernel
theorem dS2_46 : decode jdk_2529_method_13_code 46 = .ok (.iload 6, 2) := by decide +kernel
theorem dS2_48 : decode jdk_2529_method_13_code 48 = .ok (.bipush 44, 2) := by decide +kernel
theorem dS2_50 : decode jdk_2529_method_13_code 50 = .ok (.if_icmp .ge 11, 3) := by decide +kernel
theorem dS2_53 : decode jdk_2529_method_13_code 53 = .ok (.aload_n 1, 1) := by decide +kernel
theorem dS2_54 : decode jdk_2529_method_13_code 54 = .ok (.iload_n 3, 1) := by decide +kernel
theorem dS2_55 : decode jdk_2529_method_13_code 55 = .ok (.iload 4, 2) := by decide +kernel
theorem dS2_57 : decode jdk_2529_method_13_code 57 = .ok (.invokestatic 105, 3) := by decide +kernel
theorem dS2_60 : decode jdk_2529_method_13_code 60 = .ok (.return_, 1) := by decide +kernel
theorem efS2 (m : MethodId) (x1 : Addr) : entryFrame m #[.null, (.ref x1), (.int 0), (.int 0), (.int 2)] 25 = mkF m 0 #[.val .null, rv x1, iv 0, iv 0, iv 2, .unset, .unset, .unset, .unset, .unset, .unset, .unset, .unset, .unset, .unset, .unset, .unset, .unset, .unset, .unset, .unset, .unset, .unset, .unset, .unset] [] := by first | (simp [entryFrame, mkF, argsToLocals, Value.category]; done) | rfl
def QS2 (Z : State) (d : Addr) (kd : ClassId) (ja : Int64) (jb : Int64) (h0 : Heap) (n0 : Nat) (v : Option Value) (h : Heap) (L : List Loc) : Prop := ∃ (f1 : Int64), ∃ (f2 : Int64), v = none ∧ Fr n0 L ∧ Keep h0 h [d] ∧ Arv Z h d kd .long (2 : Int32) [(.long f1), (.long f2)] (.long 0) ∧ ((jb < ja ∧ f1 = jb ∧ f2 = ja) ∨ (¬ jb < ja ∧ f1 = ja ∧ f2 = jb))
set_option maxRecDepth 65536 in
set_option maxHeartbeats 40000000 in
theorem rmS2 (l : Launch) (Z : State) (a0 : Array Value) (hw : ∀ d ∈ tables_1, d.before a0 Z = true) (ws : List Jvm.Cond) (d : Addr) (kd : ClassId) (ja : Int64) (jb : Int64) (h0 : Heap) (n0 : Nat) (g_d : n0 ≤ d) (Vd : Arv Z h0 d kd .long (2 : Int32) [(.long ja), (.long jb)] (.long 0)) :
    MetFree l (⟨"java/util/DualPivotQuicksort", "sort", "(Ljava/util/DualPivotQuicksort$Sorter;[JIII)V"⟩ : MethodName) (head1 (Jvm.Cond.code (⟨"java/util/DualPivotQuicksort", "sort", "(Ljava/util/DualPivotQuicksort$Sorter;[JIII)V"⟩ : MethodName) jdk_2529_method_13_code 25 none :: ws) ({ frames := 1, cells := 0, slots := 0, locals := 18 } : Room)) (fun as' U => as' = #[.null, (.ref d), (.int 0), (.int 0), (.int 2)] ∧ Z.Warmed39 U.vm ∧ U.heap = h0) (fun _ _ _ _ _ => True) (fun _ U o U' => ∃ v L, o = .returned v ∧ QS2 Z d kd ja jb h0 n0 v U'.heap L ∧ FrameEnd U o U' L ({ frames := 1, cells := 0, slots := 0, locals := 18 } : Room).cells ({ frames := 1, cells := 0, slots := 0, locals := 18 } : Room).slots) := by
  refine MetFree.of_bodySF (plainFor_of_name pn_java_util_DualPivotQuicksort) hisR ?_
  intro p e s m args below meth c s₁ Bd hml0 hP hK
  obtain ⟨rfl, hZ, hh⟩ := hP
  have hx := Bd.exec
  have hby := Bd.bytes
  have hml : c.maxLocals = 25 := hml0
  have hown : s.vm.findClass "java/util/DualPivotQuicksort" = some m.cls := findClass_of_methodNamed Bd.named
  have hnm := (name_of_methodNamed Bd.named Bd.method).1
  have X0 : Stand p l e ({ frames := 1, cells := 0, slots := 0, locals := 18 } : Room) s m #[.null, (.ref d), (.int 0), (.int 0), (.int 2)] below meth c s₁ [] 0 0 := Stand.of_body Bd
  have e0 : s₁.heap = h0 := by rw [← hh, Bd.state]; rfl
  have N0 := Fr.nil n0
  show Go p e below s (fun v h L => QS2 Z d kd ja jb h0 n0 v h L) 0 0 _
  refine Go.pull (V := s₁.setTop (mkF m 0 #[.val .null, rv d, iv 0, iv 0, iv 2, .unset, .unset, .unset, .unset, .unset, .unset, .unset, .unset, .unset, .unset, .unset, .unset, .unset, .unset, .unset, .unset, .unset, .unset, .unset, .unset] [])) (fun t k => castTop (efS2 m d) k) ?_
  refine Go.pull (V := s₁.setTop (mkF m 2 #[.val .null, rv d, iv 0, iv 0, iv 2, .unset, .unset, .unset, .unset, .unset, .unset, .unset, .unset, .unset, .unset, .unset, .unset, .unset, .unset, .unset, .unset, .unset, .unset, .unset, .unset] [(.int 2)])) (fun t k => XS.iload X0.here hx rfl (hb hby dS2_0) rfl  k) ?_
  refine Go.pull (V := s₁.setTop (mkF m 3 #[.val .null, rv d, iv 0, iv 0, iv 2, .unset, .unset, .unset, .unset, .unset, .unset, .unset, .unset, .unset, .unset, .unset, .unset, .unset, .unset, .unset, .unset, .unset, .unset, .unset, .unset] [(.int 1), (.int 2)])) (fun t k => XS.iconst X0.here hx rfl (hb hby dS2_2) k) ?_
  refine Go.pull (V := s₁.setTop (mkF m 4 #[.val .null, rv d, iv 0, iv 0, iv 2, .unset, .unset, .unset, .unset, .unset, .unset, .unset, .unset, .unset, .unset, .unset, .unset, .unset, .unset, .unset, .unset, .unset, .unset, .unset, .unset] [(.int 1)])) (fun t k => XS.isub X0.here hx rfl (hb hby dS2_3) rfl k) ?_
  refine Go.pull (V := s₁.setTop (mkF m 6 #[.val .null, rv d, iv 0, iv 0, iv 2, iv 1, .unset, .unset, .unset, .unset, .unset, .unset, .unset, .unset, .unset, .unset, .unset, .unset, .unset, .unset, .unset, .unset, .unset, .unset, .unset] [])) (fun t k => XS.istore X0.here hx rfl (hb hby dS2_4) rfl (l' := #[.val .null, rv d, iv 0, iv 0, iv 2, iv 1, .unset, .unset, .unset, .unset, .unset, .unset, .unset, .unset, .unset, .unset, .unset, .unset, .unset, .unset, .unset, .unset, .unset, .unset, .unset]) rfl k) ?_
  refine Go.pull (V := s₁.setTop (mkF m 8 #[.val .null, rv d, iv 0, iv 0, iv 2, iv 1, .unset, .unset, .unset, .unset, .unset, .unset, .unset, .unset, .unset, .unset, .unset, .unset, .unset, .unset, .unset, .unset, .unset, .unset, .unset] [(.int 2)])) (fun t k => XS.iload X0.here hx rfl (hb hby dS2_6) rfl  k) ?_
  refine Go.pull (V := s₁.setTop (mkF m 9 #[.val .null, rv d, iv 0, iv 0, iv 2, iv 1, .unset, .unset, .unset, .unset, .unset, .unset, .unset, .unset, .unset, .unset, .unset, .unset, .unset, .unset, .unset, .unset, .unset, .unset, .unset] [(.int 0), (.int 2)])) (fun t k => XS.iloadN X0.here hx rfl (hb hby dS2_8) rfl  k) ?_
  refine Go.pull (V := s₁.setTop (mkF m 10 #[.val .null, rv d, iv 0, iv 0, iv 2, iv 1, .unset, .unset, .unset, .unset, .unset, .unset, .unset, .unset, .unset, .unset, .unset, .unset, .unset, .unset, .unset, .unset, .unset, .unset, .unset] [(.int 2)])) (fun t k => XS.isub X0.here hx rfl (hb hby dS2_9) rfl k) ?_
  refine Go.pull (V := s₁.setTop (mkF m 12 #[.val .null, rv d, iv 0, iv 0, iv 2, iv 1, iv 2, .unset, .unset, .unset, .unset, .unset, .unset, .unset, .unset, .unset, .unset, .unset, .unset, .unset, .unset, .unset, .unset, .unset, .unset] [])) (fun t k => XS.istore X0.here hx rfl (hb hby dS2_10) rfl (l' := #[.val .null, rv d, iv 0, iv 0, iv 2, iv 1, iv 2, .unset, .unset, .unset, .unset, .unset, .unset, .unset, .unset, .unset, .unset, .unset, .unset, .unset, .unset, .unset, .unset, .unset, .unset]) rfl k) ?_
  refine Go.pull (V := s₁.setTop (mkF m 14 #[.val .null, rv d, iv 0, iv 0, iv 2, iv 1, iv 2, .unset, .unset, .unset, .unset, .unset, .unset, .unset, .unset, .unset, .unset, .unset, .unset, .unset, .unset, .unset, .unset, .unset, .unset] [(.int 2)])) (fun t k => XS.iload X0.here hx rfl (hb hby dS2_12) rfl  k) ?_
  refine Go.pull (V := s₁.setTop (mkF m 16 #[.val .null, rv d, iv 0, iv 0, iv 2, iv 1, iv 2, .unset, .unset, .unset, .unset, .unset, .unset, .unset, .unset, .unset, .unset, .unset, .unset, .unset, .unset, .unset, .unset, .unset, .unset] [(.int 65), (.int 2)])) (fun t k => XS.bipush X0.here hx rfl (hb hby dS2_14) k) ?_
  refine Go.pull (V := s₁.setTop (mkF m 17 #[.val .null, rv d, iv 0, iv 0, iv 2, iv 1, iv 2, .unset, .unset, .unset, .unset, .unset, .unset, .unset, .unset, .unset, .unset, .unset, .unset, .unset, .unset, .unset, .unset, .unset, .unset] [(.int 0), (.int 65), (.int 2)])) (fun t k => XS.iloadN X0.here hx rfl (hb hby dS2_16) rfl  k) ?_
  refine Go.pull (V := s₁.setTop (mkF m 18 #[.val .null, rv d, iv 0, iv 0, iv 2, iv 1, iv 2, .unset, .unset, .unset, .unset, .unset, .unset, .unset, .unset, .unset, .unset, .unset, .unset, .unset, .unset, .unset, .unset, .unset, .unset] [(.int 65), (.int 2)])) (fun t k => XS.iadd X0.here hx rfl (hb hby dS2_17) rfl k) ?_
  refine Go.pull (V := s₁.setTop (mkF m 21 #[.val .null, rv d, iv 0, iv 0, iv 2, iv 1, iv 2, .unset, .unset, .unset, .unset, .unset, .unset, .unset, .unset, .unset, .unset, .unset, .unset, .unset, .unset, .unset, .unset, .unset, .unset] [])) (fun t k => XS.icmpNo X0.here hx rfl (hb hby dS2_18) rfl (XT.ii_ge_f (by decide)) k) ?_
  refine Go.pull (V := s₁.setTop (mkF m 22 #[.val .null, rv d, iv 0, iv 0, iv 2, iv 1, iv 2, .unset, .unset, .unset, .unset, .unset, .unset, .unset, .unset, .unset, .unset, .unset, .unset, .unset, .unset, .unset, .unset, .unset, .unset] [(.int 0)])) (fun t k => XS.iloadN X0.here hx rfl (hb hby dS2_21) rfl  k) ?_
  refine Go.pull (V := s₁.setTop (mkF m 23 #[.val .null, rv d, iv 0, iv 0, iv 2, iv 1, iv 2, .unset, .unset, .unset, .unset, .unset, .unset, .unset, .unset, .unset, .unset, .unset, .unset, .unset, .unset, .unset, .unset, .unset, .unset] [(.int 1), (.int 0)])) (fun t k => XS.iconst X0.here hx rfl (hb hby dS2_22) k) ?_
  refine Go.pull (V := s₁.setTop (mkF m 24 #[.val .null, rv d, iv 0, iv 0, iv 2, iv 1, iv 2, .unset, .unset, .unset, .unset, .unset, .unset, .unset, .unset, .unset, .unset, .unset, .unset, .unset, .unset, .unset, .unset, .unset, .unset] [(.int 0)])) (fun t k => XS.iand X0.here hx rfl (hb hby dS2_23) rfl k) ?_
  refine Go.pull (V := s₁.setTop (mkF m 46 #[.val .null, rv d, iv 0, iv 0, iv 2, iv 1, iv 2, .unset, .unset, .unset, .unset, .unset, .unset, .unset, .unset, .unset, .unset, .unset, .unset, .unset, .unset, .unset, .unset, .unset, .unset] [])) (fun t k => XS.ifYes X0.here hx rfl (pc0 := 24) (pc' := 46) rfl (hb hby dS2_24) rfl (XT.i0_le_t (by decide)) (by decide) (by decide) k) ?_
  refine Go.pull (V := s₁.setTop (mkF m 48 #[.val .null, rv d, iv 0, iv 0, iv 2, iv 1, iv 2, .unset, .unset, .unset, .unset, .unset, .unset, .unset, .unset, .unset, .unset, .unset, .unset, .unset, .unset, .unset, .unset, .unset, .unset] [(.int 2)])) (fun t k => XS.iload X0.here hx rfl (hb hby dS2_46) rfl  k) ?_
  refine Go.pull (V := s₁.setTop (mkF m 50 #[.val .null, rv d, iv 0, iv 0, iv 2, iv 1, iv 2, .unset, .unset, .unset, .unset, .unset, .unset, .unset, .unset, .unset, .unset, .unset, .unset, .unset, .unset, .unset, .unset, .unset, .unset] [(.int 44), (.int 2)])) (fun t k => XS.bipush X0.here hx rfl (hb hby dS2_48) k) ?_
  refine Go.pull (V := s₁.setTop (mkF m 53 #[.val .null, rv d, iv 0, iv 0, iv 2, iv 1, iv 2, .unset, .unset, .unset, .unset, .unset, .unset, .unset, .unset, .unset, .unset, .unset, .unset, .unset, .unset, .unset, .unset, .unset, .unset] [])) (fun t k => XS.icmpNo X0.here hx rfl (hb hby dS2_50) rfl (XT.ii_ge_f (by decide)) k) ?_
  refine Go.pull (V := s₁.setTop (mkF m 54 #[.val .null, rv d, iv 0, iv 0, iv 2, iv 1, iv 2, .unset, .unset, .unset, .unset, .unset, .unset, .unset, .unset, .unset, .unset, .unset, .unset, .unset, .unset, .unset, .unset, .unset, .unset] [(.ref d)])) (fun t k => XS.aloadN X0.here hx rfl (hb hby dS2_53) rfl rfl k) ?_
  refine Go.pull (V := s₁.setTop (mkF m 55 #[.val .null, rv d, iv 0, iv 0, iv 2, iv 1, iv 2, .unset, .unset, .unset, .unset, .unset, .unset, .unset, .unset, .unset, .unset, .unset, .unset, .unset, .unset, .unset, .unset, .unset, .unset] [(.int 0), (.ref d)])) (fun t k => XS.iloadN X0.here hx rfl (hb hby dS2_54) rfl  k) ?_
  refine Go.pull (V := s₁.setTop (mkF m 57 #[.val .null, rv d, iv 0, iv 0, iv 2, iv 1, iv 2, .unset, .unset, .unset, .unset, .unset, .unset, .unset, .unset, .unset, .unset, .unset, .unset, .unset, .unset, .unset, .unset, .unset, .unset] [(.int 2), (.int 0), (.ref d)])) (fun t k => XS.iload X0.here hx rfl (hb hby dS2_55) rfl  k) ?_
  obtain ⟨_, _, ⟨T1, L1, k1, n1⟩, -, X1, ⟨Lc1, hQ1, l1, y1, z1⟩, st1⟩ := Jvm.LawKit.callS X0 hx (y := (⟨"java/util/DualPivotQuicksort", "insertionSort", "([JII)V"⟩ : MethodName)) hown (mvT hZ (hw _ (List.mem_of_getElem? (i := 57) rfl))) (mvT hZ (hw _ (List.mem_of_getElem? (i := 58) rfl))) (mvT hZ (hw _ (List.mem_of_getElem? (i := 52) rfl))) (mvT hZ (hw _ (List.mem_of_getElem? (i := 59) rfl))) (by decide) (backOf (W := 0) (rmS1 l Z a0 hw [] d kd ja jb h0 n0 (g_d) Vd) hZ (hw _ (List.mem_of_getElem? (i := 59) rfl)) (hw _ (List.mem_of_getElem? (i := 52) rfl)) (by decide) (by decide)) (g := (mkF m 57 #[.val .null, rv d, iv 0, iv 0, iv 2, iv 1, iv 2, .unset, .unset, .unset, .unset, .unset, .unset, .unset, .unset, .unset, .unset, .unset, .unset, .unset, .unset, .unset, .unset, .unset, .unset] [(.int 2), (.int 0), (.ref d)])) rfl (by rw [hml]; rfl) (argsL := [(.ref d), (.int 0), (.int 2)]) (rest := []) (lenOf pd_1 rfl) rfl (by show 2 * 0 + _ ≤ _; exact Nat.le_of_eq rfl) (hb hby dS2_57) (fun _ _ => ⟨rfl, e0, (by decide : 0 + 0 ≤ _), (by decide : 0 + 0 ≤ _)⟩)
  dsimp only [Pt.U, Pt.locs, Pt.cells, Pt.slots] at X1 l1 y1 z1 st1 hQ1
  subst l1 y1 z1
  obtain ⟨f1_1, f2_1, rfl, N1q, Kc1, Fc1_0, Qx1_0⟩ := hQ1
  have K1 : Keep h0 T1.heap [d] := (Keep.refl h0 [d]).trans Kc1 ((allS (Or.inl (List.mem_of_getElem? (i := 0) rfl)) all0))
  have N1 := Fr.app N0 N1q
  refine Go.pull (V := T1.setTop (mkF m 60 #[.val .null, rv d, iv 0, iv 0, iv 2, iv 1, iv 2, .unset, .unset, .unset, .unset, .unset, .unset, .unset, .unset, .unset, .unset, .unset, .unset, .unset, .unset, .unset, .unset, .unset, .unset] [])) st1 ?_
  exact Go.ret0 X1 hx Bd.notSynchronized Bd.returns (hb hby dS2_60) (by exact ⟨f1_1, f2_1, rfl, N1, K1, Fc1_0, Qx1_0⟩) (by decide) (by decide)
theorem dS3_0 : decode jdk_2529_method_12_code 0 = .ok (.iload_n 3, 1) := by decide +kernel
theorem dS3_1 : decode jdk_2529_method_12_code 1 = .ok (.iload_n 2, 1) := by decide +kernel
theorem dS3_2 : decode jdk_2529_method_12_code 2 = .ok (.isub, 1) := by decide +kernel
theorem dS3_3 : decode jdk_2529_method_12_code 3 = .ok (.istore 4, 2) := by decide +kernel
theorem dS3_5 : decode jdk_2529_method_12_code 5 = .ok (.iload_n 1, 1) := by decide +kernel
theorem dS3_6 : decode jdk_2529_method_12_code 6 = .ok (.iconst 1, 1) := by decide +kernel
theorem dS3_7 : decode jdk_2529_method_12_code 7 = .ok (.if_icmp .le 61, 3) := by decide +kernel
theorem dS3_68 : decode jdk_2529_method_12_code 68 = .ok (.aconst_null, 1) := by decide +kernel
theorem dS3_69 : decode jdk_2529_method_12_code 69 = .ok (.aload_n 0, 1) := by decide +kernel
theorem dS3_70 : decode jdk_2529_method_12_code 70 = .ok (.iconst 0, 1) := by decide +kernel
theorem dS3_71 : decode jdk_2529_method_12_code 71 = .ok (.iload_n 2, 1) := by decide +kernel
theorem dS3_72 : decode jdk_2529_method_12_code 72 = .ok (.iload_n 3, 1) := by decide +kernel
theorem dS3_73 : decode jdk_2529_method_12_code 73 = .ok (.invokestatic 99, 3) := by decide +kernel
theorem dS3_76 : decode jdk_2529_method_12_code 76 = .ok (.return_, 1) := by decide +kernel
theorem efS3 (m : MethodId) (x0 : Addr) : entryFrame m #[(.ref x0), (.int 0), (.int 0), (.int 2)] 7 = mkF m 0 #[rv x0, iv 0, iv 0, iv 2, .unset, .unset, .unset] [] := by first | (simp [entryFrame, mkF, argsToLocals, Value.category]; done) | rfl
def QS3 (Z : State) (d : Addr) (kd : ClassId) (ja : Int64) (jb : Int64) (h0 : Heap) (n0 : Nat) (v : Option Value) (h : Heap) (L : List Loc) : Prop := ∃ (f1 : Int64), ∃ (f2 : Int64), v = none ∧ Fr n0 L ∧ Keep h0 h [d] ∧ Arv Z h d kd .long (2 : Int32) [(.long f1), (.long f2)] (.long 0) ∧ ((jb < ja ∧ f1 = jb ∧ f2 = ja) ∨ (¬ jb < ja ∧ f1 = ja ∧ f2 = jb))
set_option maxRecDepth 65536 in
set_option maxHeartbeats 40000000 in
theorem rmS3 (l : Launch) (Z : State) (a0 : Array Value) (hw : ∀ d ∈ tables_1, d.before a0 Z = true) (ws : List Jvm.Cond) (d : Addr) (kd : ClassId) (ja : Int64) (jb : Int64) (h0 : Heap) (n0 : Nat) (g_d : n0 ≤ d) (Vd : Arv Z h0 d kd .long (2 : Int32) [(.long ja), (.long jb)] (.long 0)) :
    MetFree l (⟨"java/util/DualPivotQuicksort", "sort", "([JIII)V"⟩ : MethodName) (head1 (Jvm.Cond.code (⟨"java/util/DualPivotQuicksort", "sort", "([JIII)V"⟩ : MethodName) jdk_2529_method_12_code 7 none :: ws) ({ frames := 2, cells := 0, slots := 0, locals := 54 } : Room)) (fun as' U => as' = #[(.ref d), (.int 0), (.int 0), (.int 2)] ∧ Z.Warmed39 U.vm ∧ U.heap = h0) (fun _ _ _ _ _ => True) (fun _ U o U' => ∃ v L, o = .returned v ∧ QS3 Z d kd ja jb h0 n0 v U'.heap L ∧ FrameEnd U o U' L ({ frames := 2, cells := 0, slots := 0, locals := 54 } : Room).cells ({ frames := 2, cells := 0, slots := 0, locals := 54 } : Room).slots) := by
  refine MetFree.of_bodySF (plainFor_of_name pn_java_util_DualPivotQuicksort) hisR ?_
  intro p e s m args below meth c s₁ Bd hml0 hP hK
  obtain ⟨rfl, hZ, hh⟩ := hP
  have hx := Bd.exec
  have hby := Bd.bytes
  have hml : c.maxLocals = 7 := hml0
  have hown : s.vm.findClass "java/util/DualPivotQuicksort" = some m.cls := findClass_of_methodNamed Bd.named
  have hnm := (name_of_methodNamed Bd.named Bd.method).1
  have X0 : Stand p l e ({ frames := 2, cells := 0, slots := 0, locals := 54 } : Room) s m #[(.ref d), (.int 0), (.int 0), (.int 2)] below meth c s₁ [] 0 0 := Stand.of_body Bd
  have e0 : s₁.heap = h0 := by rw [← hh, Bd.state]; rfl
  have N0 := Fr.nil n0
  show Go p e below s (fun v h L => QS3 Z d kd ja jb h0 n0 v h L) 0 0 _
  refine Go.pull (V := s₁.setTop (mkF m 0 #[rv d, iv 0, iv 0, iv 2, .unset, .unset, .unset] [])) (fun t k => castTop (efS3 m d) k) ?_
  refine Go.pull (V := s₁.setTop (mkF m 1 #[rv d, iv 0, iv 0, iv 2, .unset, .unset, .unset] [(.int 2)])) (fun t k => XS.iloadN X0.here hx rfl (hb hby dS3_0) rfl  k) ?_
  refine Go.pull (V := s₁.setTop (mkF m 2 #[rv d, iv 0, iv 0, iv 2, .unset, .unset, .unset] [(.int 0), (.int 2)])) (fun t k => XS.iloadN X0.here hx rfl (hb hby dS3_1) rfl  k) ?_
  refine Go.pull (V := s₁.setTop (mkF m 3 #[rv d, iv 0, iv 0, iv 2, .unset, .unset, .unset] [(.int 2)])) (fun t k => XS.isub X0.here hx rfl (hb hby dS3_2) rfl k) ?_
  refine Go.pull (V := s₁.setTop (mkF m 5 #[rv d, iv 0, iv 0, iv 2, iv 2, .unset, .unset] [])) (fun t k => XS.istore X0.here hx rfl (hb hby dS3_3) rfl (l' := #[rv d, iv 0, iv 0, iv 2, iv 2, .unset, .unset]) rfl k) ?_
  refine Go.pull (V := s₁.setTop (mkF m 6 #[rv d, iv 0, iv 0, iv 2, iv 2, .unset, .unset] [(.int 0)])) (fun t k => XS.iloadN X0.here hx rfl (hb hby dS3_5) rfl  k) ?_
  refine Go.pull (V := s₁.setTop (mkF m 7 #[rv d, iv 0, iv 0, iv 2, iv 2, .unset, .unset] [(.int 1), (.int 0)])) (fun t k => XS.iconst X0.here hx rfl (hb hby dS3_6) k) ?_
  refine Go.pull (V := s₁.setTop (mkF m 68 #[rv d, iv 0, iv 0, iv 2, iv 2, .unset, .unset] [])) (fun t k => XS.icmpYes X0.here hx rfl (pc0 := 7) (pc' := 68) rfl (hb hby dS3_7) rfl (XT.ii_le_t (by decide)) (by decide) (by decide) k) ?_
  refine Go.pull (V := s₁.setTop (mkF m 69 #[rv d, iv 0, iv 0, iv 2, iv 2, .unset, .unset] [.null])) (fun t k => XS.aconstNull X0.here hx rfl (hb hby dS3_68) k) ?_
  refine Go.pull (V := s₁.setTop (mkF m 70 #[rv d, iv 0, iv 0, iv 2, iv 2, .unset, .unset] [(.ref d), .null])) (fun t k => XS.aloadN X0.here hx rfl (hb hby dS3_69) rfl rfl k) ?_
  refine Go.pull (V := s₁.setTop (mkF m 71 #[rv d, iv 0, iv 0, iv 2, iv 2, .unset, .unset] [(.int 0), (.ref d), .null])) (fun t k => XS.iconst X0.here hx rfl (hb hby dS3_70) k) ?_
  refine Go.pull (V := s₁.setTop (mkF m 72 #[rv d, iv 0, iv 0, iv 2, iv 2, .unset, .unset] [(.int 0), (.int 0), (.ref d), .null])) (fun t k => XS.iloadN X0.here hx rfl (hb hby dS3_71) rfl  k) ?_
  refine Go.pull (V := s₁.setTop (mkF m 73 #[rv d, iv 0, iv 0, iv 2, iv 2, .unset, .unset] [(.int 2), (.int 0), (.int 0), (.ref d), .null])) (fun t k => XS.iloadN X0.here hx rfl (hb hby dS3_72) rfl  k) ?_
  obtain ⟨_, _, ⟨T1, L1, k1, n1⟩, -, X1, ⟨Lc1, hQ1, l1, y1, z1⟩, st1⟩ := Jvm.LawKit.callS X0 hx (y := (⟨"java/util/DualPivotQuicksort", "sort", "(Ljava/util/DualPivotQuicksort$Sorter;[JIII)V"⟩ : MethodName)) hown (mvT hZ (hw _ (List.mem_of_getElem? (i := 54) rfl))) (mvT hZ (hw _ (List.mem_of_getElem? (i := 55) rfl))) (mvT hZ (hw _ (List.mem_of_getElem? (i := 52) rfl))) (mvT hZ (hw _ (List.mem_of_getElem? (i := 56) rfl))) (by decide) (backOf (W := 0) (rmS2 l Z a0 hw [] d kd ja jb h0 n0 (g_d) Vd) hZ (hw _ (List.mem_of_getElem? (i := 56) rfl)) (hw _ (List.mem_of_getElem? (i := 52) rfl)) (by decide) (by decide)) (g := (mkF m 73 #[rv d, iv 0, iv 0, iv 2, iv 2, .unset, .unset] [(.int 2), (.int 0), (.int 0), (.ref d), .null])) rfl (by rw [hml]; rfl) (argsL := [.null, (.ref d), (.int 0), (.int 0), (.int 2)]) (rest := []) (lenOf pd_2 rfl) rfl (by show 2 * 0 + _ ≤ _; exact Nat.le_of_eq rfl) (hb hby dS3_73) (fun _ _ => ⟨rfl, e0, (by decide : 0 + 0 ≤ _), (by decide : 0 + 0 ≤ _)⟩)
  dsimp only [Pt.U, Pt.locs, Pt.cells, Pt.slots] at X1 l1 y1 z1 st1 hQ1
  subst l1 y1 z1
  obtain ⟨f1_1, f2_1, rfl, N1q, Kc1, Fc1_0, Qx1_0⟩ := hQ1
  have K1 : Keep h0 T1.heap [d] := (Keep.refl h0 [d]).trans Kc1 ((allS (Or.inl (List.mem_of_getElem? (i := 0) rfl)) all0))
  have N1 := Fr.app N0 N1q
  refine Go.pull (V := T1.setTop (mkF m 76 #[rv d, iv 0, iv 0, iv 2, iv 2, .unset, .unset] [])) st1 ?_
  exact Go.ret0 X1 hx Bd.notSynchronized Bd.returns (hb hby dS3_76) (by exact ⟨f1_1, f2_1, rfl, N1, K1, Fc1_0, Qx1_0⟩) (by decide) (by decide)
theorem dS4_0 : decode jdk_65_method_4_code 0 = .ok (.aload_n 0, 1) := by decide +kernel
theorem dS4_1 : decode jdk_65_method_4_code 1 = .ok (.iconst 0, 1) := by decide +kernel
theorem dS4_2 : decode jdk_65_method_4_code 2 = .ok (.iconst 0, 1) := by decide +kernel
theorem dS4_3 : decode jdk_65_method_4_code 3 = .ok (.aload_n 0, 1) := by decide +kernel
theorem dS4_4 : decode jdk_65_method_4_code 4 = .ok (.arraylength, 1) := by decide +kernel
theorem dS4_5 : decode jdk_65_method_4_code 5 = .ok (.invokestatic 19, 3) := by decide +kernel
theorem dS4_8 : decode jdk_65_method_4_code 8 = .ok (.return_, 1) := by decide +kernel
theorem efS4 (m : MethodId) (x0 : Addr) : entryFrame m #[(.ref x0)] 1 = mkF m 0 #[rv x0] [] := by first | (simp [entryFrame, mkF, argsToLocals, Value.category]; done) | rfl
def QS4 (Z : State) (d : Addr) (kd : ClassId) (ja : Int64) (jb : Int64) (h0 : Heap) (n0 : Nat) (v : Option Value) (h : Heap) (L : List Loc) : Prop := ∃ (f1 : Int64), ∃ (f2 : Int64), v = none ∧ Fr n0 L ∧ Keep h0 h [d] ∧ Arv Z h d kd .long (2 : Int32) [(.long f1), (.long f2)] (.long 0) ∧ ((jb < ja ∧ f1 = jb ∧ f2 = ja) ∨ (¬ jb < ja ∧ f1 = ja ∧ f2 = jb))
set_option maxRecDepth 65536 in
set_option maxHeartbeats 40000000 in
theorem rmS4 (l : Launch) (Z : State) (a0 : Array Value) (hw : ∀ d ∈ tables_1, d.before a0 Z = true) (ws : List Jvm.Cond) (d : Addr) (kd : ClassId) (ja : Int64) (jb : Int64) (h0 : Heap) (n0 : Nat) (g_d : n0 ≤ d) (Vd : Arv Z h0 d kd .long (2 : Int32) [(.long ja), (.long jb)] (.long 0)) :
    MetFree l (⟨"java/util/Arrays", "sort", "([J)V"⟩ : MethodName) (head1 (Jvm.Cond.code (⟨"java/util/Arrays", "sort", "([J)V"⟩ : MethodName) jdk_65_method_4_code 1 none :: ws) ({ frames := 3, cells := 0, slots := 0, locals := 72 } : Room)) (fun as' U => as' = #[(.ref d)] ∧ Z.Warmed39 U.vm ∧ U.heap = h0) (fun _ _ _ _ _ => True) (fun _ U o U' => ∃ v L, o = .returned v ∧ QS4 Z d kd ja jb h0 n0 v U'.heap L ∧ FrameEnd U o U' L ({ frames := 3, cells := 0, slots := 0, locals := 72 } : Room).cells ({ frames := 3, cells := 0, slots := 0, locals := 72 } : Room).slots) := by
  refine MetFree.of_bodySF (plainFor_of_name pn_java_util_Arrays) hisR ?_
  intro p e s m args below meth c s₁ Bd hml0 hP hK
  obtain ⟨rfl, hZ, hh⟩ := hP
  have hx := Bd.exec
  have hby := Bd.bytes
  have hml : c.maxLocals = 1 := hml0
  have hown : s.vm.findClass "java/util/Arrays" = some m.cls := findClass_of_methodNamed Bd.named
  have hnm := (name_of_methodNamed Bd.named Bd.method).1
  have X0 : Stand p l e ({ frames := 3, cells := 0, slots := 0, locals := 72 } : Room) s m #[(.ref d)] below meth c s₁ [] 0 0 := Stand.of_body Bd
  have e0 : s₁.heap = h0 := by rw [← hh, Bd.state]; rfl
  have N0 := Fr.nil n0
  show Go p e below s (fun v h L => QS4 Z d kd ja jb h0 n0 v h L) 0 0 _
  refine Go.pull (V := s₁.setTop (mkF m 0 #[rv d] [])) (fun t k => castTop (efS4 m d) k) ?_
  refine Go.pull (V := s₁.setTop (mkF m 1 #[rv d] [(.ref d)])) (fun t k => XS.aloadN X0.here hx rfl (hb hby dS4_0) rfl rfl k) ?_
  refine Go.pull (V := s₁.setTop (mkF m 2 #[rv d] [(.int 0), (.ref d)])) (fun t k => XS.iconst X0.here hx rfl (hb hby dS4_1) k) ?_
  refine Go.pull (V := s₁.setTop (mkF m 3 #[rv d] [(.int 0), (.int 0), (.ref d)])) (fun t k => XS.iconst X0.here hx rfl (hb hby dS4_2) k) ?_
  refine Go.pull (V := s₁.setTop (mkF m 4 #[rv d] [(.ref d), (.int 0), (.int 0), (.ref d)])) (fun t k => XS.aloadN X0.here hx rfl (hb hby dS4_3) rfl rfl k) ?_
  obtain ⟨cl1, Ar1, q1, S1, M1, Hs1, G1⟩ := id Vd
  refine Go.pull (V := s₁.setTop (mkF m 5 #[rv d] [(.int 2), (.int 0), (.int 0), (.ref d)])) (fun t k => X0.arraylength hx (by rw [e0]; exact Ar1.1) (State.isArrayOf_alike hZ.alike Ar1.2.1) (g := (mkF m 4 #[rv d] [(.ref d), (.int 0), (.int 0), (.ref d)])) rfl rfl (hb hby dS4_4) _ (by rw [len_of S1 M1]; exact k)) ?_
  obtain ⟨_, _, ⟨T2, L2, k2, n2⟩, -, X2, ⟨Lc2, hQ2, l2, y2, z2⟩, st2⟩ := Jvm.LawKit.callS X0 hx (y := (⟨"java/util/DualPivotQuicksort", "sort", "([JIII)V"⟩ : MethodName)) hown (mvT hZ (hw _ (List.mem_of_getElem? (i := 50) rfl))) (mvT hZ (hw _ (List.mem_of_getElem? (i := 51) rfl))) (mvT hZ (hw _ (List.mem_of_getElem? (i := 52) rfl))) (mvT hZ (hw _ (List.mem_of_getElem? (i := 53) rfl))) (by decide) (backOf (W := 0) (rmS3 l Z a0 hw [] d kd ja jb h0 n0 (g_d) Vd) hZ (hw _ (List.mem_of_getElem? (i := 53) rfl)) (hw _ (List.mem_of_getElem? (i := 52) rfl)) (by decide) (by decide)) (g := (mkF m 5 #[rv d] [(.int 2), (.int 0), (.int 0), (.ref d)])) rfl (by rw [hml]; rfl) (argsL := [(.ref d), (.int 0), (.int 0), (.int 2)]) (rest := []) (lenOf pd_3 rfl) rfl (by show 2 * 0 + _ ≤ _; exact Nat.le_of_eq rfl) (hb hby dS4_5) (fun _ _ => ⟨rfl, e0, (by decide : 0 + 0 ≤ _), (by decide : 0 + 0 ≤ _)⟩)
  dsimp only [Pt.U, Pt.locs, Pt.cells, Pt.slots] at X2 l2 y2 z2 st2 hQ2
  subst l2 y2 z2
  obtain ⟨f1_2, f2_2, rfl, N2q, Kc2, Fc2_0, Qx2_0⟩ := hQ2
  have K2 : Keep h0 T2.heap [d] := (Keep.refl h0 [d]).trans Kc2 ((allS (Or.inl (List.mem_of_getElem? (i := 0) rfl)) all0))
  have N2 := Fr.app N0 N2q
  refine Go.pull (V := T2.setTop (mkF m 8 #[rv d] [])) st2 ?_
  exact Go.ret0 X2 hx Bd.notSynchronized Bd.returns (hb hby dS4_8) (by exact ⟨f1_2, f2_2, rfl, N2, K2, Fc2_0, Qx2_0⟩) (by decide) (by decide)
theorem dCI2_0 : decode jdk_65_method_123_code 0 = .ok (.iload_n 1, 1) := by decide +kernel
theorem dCI2_1 : decode jdk_65_method_123_code 1 = .ok (.aload_n 0, 1) := by decide +kernel
theorem dCI2_2 : decode jdk_65_method_123_code 2 = .ok (.arraylength, 1) := by decide +kernel
theorem dCI2_3 : decode jdk_65_method_123_code 3 = .ok (.if_icmp .ne 11, 3) := by decide +kernel
theorem dCI2_14 : decode jdk_65_method_123_code 14 = .ok (.iload_n 1, 1) := by decide +kernel
theorem dCI2_15 : decode jdk_65_method_123_code 15 = .ok (.newarray .int, 2) := by decide +kernel
theorem dCI2_17 : decode jdk_65_method_123_code 17 = .ok (.astore_n 2, 1) := by decide +kernel
theorem dCI2_18 : decode jdk_65_method_123_code 18 = .ok (.aload_n 0, 1) := by decide +kernel
theorem dCI2_19 : decode jdk_65_method_123_code 19 = .ok (.iconst 0, 1) := by decide +kernel
theorem dCI2_20 : decode jdk_65_method_123_code 20 = .ok (.aload_n 2, 1) := by decide +kernel
theorem dCI2_21 : decode jdk_65_method_123_code 21 = .ok (.iconst 0, 1) := by decide +kernel
theorem dCI2_22 : decode jdk_65_method_123_code 22 = .ok (.aload_n 0, 1) := by decide +kernel
theorem dCI2_23 : decode jdk_65_method_123_code 23 = .ok (.arraylength, 1) := by decide +kernel
theorem dCI2_24 : decode jdk_65_method_123_code 24 = .ok (.iload_n 1, 1) := by decide +kernel
theorem dCI2_25 : decode jdk_65_method_123_code 25 = .ok (.invokestatic 304, 3) := by decide +kernel
theorem dCI2_28 : decode jdk_65_method_123_code 28 = .ok (.invokestatic 150, 3) := by decide +kernel
theorem dCI2_31 : decode jdk_65_method_123_code 31 = .ok (.aload_n 2, 1) := by decide +kernel
theorem dCI2_32 : decode jdk_65_method_123_code 32 = .ok (.areturn, 1) := by decide +kernel
theorem efCI2 (m : MethodId) (x0 : Addr) : entryFrame m #[(.ref x0), (.int 2)] 3 = mkF m 0 #[rv x0, iv 2, .unset] [] := by first | (simp [entryFrame, mkF, argsToLocals, Value.category]; done) | rfl
def QCI2 (Z : State) (d : Addr) (kd : ClassId) (w0 : Int32) (w1 : Int32) (w2 : Int32) (w3 : Int32) (h0 : Heap) (n0 : Nat) (v : Option Value) (h : Heap) (L : List Loc) : Prop := ∃ (rn : Addr), ∃ (kn : ClassId), v = some (.ref rn) ∧ Fr n0 L ∧ Keep h0 h [] ∧ h0.size ≤ rn ∧ Arv Z h rn kn .int (2 : Int32) [(.int w0), (.int w1)] (.int 0)
set_option maxRecDepth 65536 in
set_option maxHeartbeats 40000000 in
theorem rmCI2 (l : Launch) (Z : State) (a0 : Array Value) (hw : ∀ d ∈ tables_1, d.before a0 Z = true) (ws : List Jvm.Cond) (d : Addr) (kd : ClassId) (w0 : Int32) (w1 : Int32) (w2 : Int32) (w3 : Int32) (h0 : Heap) (n0 : Nat) (Z0 : n0 ≤ h0.size) (Vd : Arv Z h0 d kd .int (4 : Int32) [(.int w0), (.int w1), (.int w2), (.int w3)] (.int 0)) :
    MetFree l (⟨"java/util/Arrays", "copyOf", "([II)[I"⟩ : MethodName) (head1 (Jvm.Cond.code (⟨"java/util/Arrays", "copyOf", "([II)[I"⟩ : MethodName) jdk_65_method_123_code 3 (some (.array .int)) :: ws) ({ frames := 1, cells := 1, slots := 2, locals := 18 } : Room)) (fun as' U => as' = #[(.ref d), (.int 2)] ∧ Z.Warmed39 U.vm ∧ U.heap = h0) (fun _ _ _ _ _ => True) (fun _ U o U' => ∃ v L, o = .returned v ∧ QCI2 Z d kd w0 w1 w2 w3 h0 n0 v U'.heap L ∧ FrameEnd U o U' L ({ frames := 1, cells := 1, slots := 2, locals := 18 } : Room).cells ({ frames := 1, cells := 1, slots := 2, locals := 18 } : Room).slots) := by
  refine MetFree.of_bodySF (plainFor_of_name pn_java_util_Arrays) hisR ?_
  intro p e s m args below meth c s₁ Bd hml0 hP hK
  obtain ⟨rfl, hZ, hh⟩ := hP
  have hx := Bd.exec
  have hby := Bd.bytes
  have hml : c.maxLocals = 3 := hml0
  have hown : s.vm.findClass "java/util/Arrays" = some m.cls := findClass_of_methodNamed Bd.named
  have hnm := (name_of_methodNamed Bd.named Bd.method).1
  have X0 : Stand p l e ({ frames := 1, cells := 1, slots := 2, locals := 18 } : Room) s m #[(.ref d), (.int 2)] below meth c s₁ [] 0 0 := Stand.of_body Bd
  have e0 : s₁.heap = h0 := by rw [← hh, Bd.state]; rfl
  have N0 := Fr.nil n0
  show Go p e below s (fun v h L => QCI2 Z d kd w0 w1 w2 w3 h0 n0 v h L) 1 2 _
  refine Go.pull (V := s₁.setTop (mkF m 0 #[rv d, iv 2, .unset] [])) (fun t k => castTop (efCI2 m d) k) ?_
  refine Go.pull (V := s₁.setTop (mkF m 1 #[rv d, iv 2, .unset] [(.int 2)])) (fun t k => XS.iloadN X0.here hx rfl (hb hby dCI2_0) rfl  k) ?_
  refine Go.pull (V := s₁.setTop (mkF m 2 #[rv d, iv 2, .unset] [(.ref d), (.int 2)])) (fun t k => XS.aloadN X0.here hx rfl (hb hby dCI2_1) rfl rfl k) ?_
  obtain ⟨cl1, Ar1, q1, S1, M1, Hs1, G1⟩ := id Vd
  refine Go.pull (V := s₁.setTop (mkF m 3 #[rv d, iv 2, .unset] [(.int 4), (.int 2)])) (fun t k => X0.arraylength hx (by rw [e0]; exact Ar1.1) (State.isArrayOf_alike hZ.alike Ar1.2.1) (g := (mkF m 2 #[rv d, iv 2, .unset] [(.ref d), (.int 2)])) rfl rfl (hb hby dCI2_2) _ (by rw [len_of S1 M1]; exact k)) ?_
  refine Go.pull (V := s₁.setTop (mkF m 14 #[rv d, iv 2, .unset] [])) (fun t k => XS.icmpYes X0.here hx rfl (pc0 := 3) (pc' := 14) rfl (hb hby dCI2_3) rfl (XT.ii_ne_t (by decide)) (by decide) (by decide) k) ?_
  refine Go.pull (V := s₁.setTop (mkF m 15 #[rv d, iv 2, .unset] [(.int 2)])) (fun t k => XS.iloadN X0.here hx rfl (hb hby dCI2_14) rfl  k) ?_
  obtain ⟨T2, h2, k2, X2, e2, E2, A2, D2, st2⟩ := newPE X0 hx hZ (hw _ (List.mem_of_getElem? (i := 60) rfl)) e0 (g := (mkF m 15 #[rv d, iv 2, .unset] [(.int 2)])) rfl (hb hby dCI2_15) rfl (by decide) (cap := 2) (by decide) (by decide) (by decide) (by decide) (ad := "[I") rfl
  obtain ⟨b2, g2⟩ : ∃ z, z = h0.size := ⟨_, rfl⟩
  rw [← g2] at A2 D2 st2
  have ne_d_b2 : d ≠ b2 := Nat.ne_of_lt (Nat.lt_of_lt_of_le Vd.lt (Nat.le_of_eq g2.symm))
  have sz_b2 : h0.size ≤ b2 := Nat.le_trans ((Keep.refl h0 [])).1 (Nat.le_of_eq g2.symm)
  have g_b2 : n0 ≤ b2 := Nat.le_trans Z0 sz_b2
  have K2 : Keep h0 h2 [] := (Keep.refl h0 []).ext E2
  have V2 : Arv Z h2 b2 k2 .int (2 : Int32) [(.int 0), (.int 0)] (.int 0) := (Arv.new A2 (by decide)).pad (pad_rep [] (.int 0) 2)
  refine Go.pull (V := T2.setTop (mkF m 17 #[rv d, iv 2, .unset] [(.ref b2)])) st2 ?_
  refine Go.pull (V := T2.setTop (mkF m 18 #[rv d, iv 2, rv b2] [])) (fun t k => XS.astoreN X2.here hx rfl (hb hby dCI2_17) rfl rfl (l' := #[rv d, iv 2, rv b2]) rfl k) ?_
  refine Go.pull (V := T2.setTop (mkF m 19 #[rv d, iv 2, rv b2] [(.ref d)])) (fun t k => XS.aloadN X2.here hx rfl (hb hby dCI2_18) rfl rfl k) ?_
  refine Go.pull (V := T2.setTop (mkF m 20 #[rv d, iv 2, rv b2] [(.int 0), (.ref d)])) (fun t k => XS.iconst X2.here hx rfl (hb hby dCI2_19) k) ?_
  refine Go.pull (V := T2.setTop (mkF m 21 #[rv d, iv 2, rv b2] [(.ref b2), (.int 0), (.ref d)])) (fun t k => XS.aloadN X2.here hx rfl (hb hby dCI2_20) rfl rfl k) ?_
  refine Go.pull (V := T2.setTop (mkF m 22 #[rv d, iv 2, rv b2] [(.int 0), (.ref b2), (.int 0), (.ref d)])) (fun t k => XS.iconst X2.here hx rfl (hb hby dCI2_21) k) ?_
  refine Go.pull (V := T2.setTop (mkF m 23 #[rv d, iv 2, rv b2] [(.ref d), (.int 0), (.ref b2), (.int 0), (.ref d)])) (fun t k => XS.aloadN X2.here hx rfl (hb hby dCI2_22) rfl rfl k) ?_
  obtain ⟨cl3, Ar3, q3, S3, M3, Hs3, G3⟩ := id (Vd.ext E2)
  refine Go.pull (V := T2.setTop (mkF m 24 #[rv d, iv 2, rv b2] [(.int 4), (.int 0), (.ref b2), (.int 0), (.ref d)])) (fun t k => X2.arraylength hx (by rw [e2]; exact Ar3.1) (State.isArrayOf_alike hZ.alike Ar3.2.1) (g := (mkF m 23 #[rv d, iv 2, rv b2] [(.ref d), (.int 0), (.ref b2), (.int 0), (.ref d)])) rfl rfl (hb hby dCI2_23) _ (by rw [len_of S3 M3]; exact k)) ?_
  refine Go.pull (V := T2.setTop (mkF m 25 #[rv d, iv 2, rv b2] [(.int 2), (.int 4), (.int 0), (.ref b2), (.int 0), (.ref d)])) (fun t k => XS.iloadN X2.here hx rfl (hb hby dCI2_24) rfl  k) ?_
  obtain ⟨_, _, ⟨T4, L4, k4, n4⟩, -, X4, ⟨Lc4, hQ4, l4, y4, z4⟩, st4⟩ := Jvm.LawKit.callS X2 hx (y := (⟨"java/lang/Math", "min", "(II)I"⟩ : MethodName)) hown (mvT hZ (hw _ (List.mem_of_getElem? (i := 42) rfl))) (mvT hZ (hw _ (List.mem_of_getElem? (i := 7) rfl))) (mvT hZ (hw _ (List.mem_of_getElem? (i := 8) rfl))) (mvT hZ (hw _ (List.mem_of_getElem? (i := 9) rfl))) (by decide) (backOf (W := 4) (rmMn l Z a0 hw [] (4 : Int32) (2 : Int32) h2 n0 ) hZ (hw _ (List.mem_of_getElem? (i := 9) rfl)) (hw _ (List.mem_of_getElem? (i := 8) rfl)) (by decide) (by decide)) (g := (mkF m 25 #[rv d, iv 2, rv b2] [(.int 2), (.int 4), (.int 0), (.ref b2), (.int 0), (.ref d)])) rfl (by rw [hml]; rfl) (argsL := [(.int 4), (.int 2)]) (rest := [(.int 0), (.ref b2), (.int 0), (.ref d)]) (lenOf pd_0 rfl) rfl (by show 2 * 0 + _ ≤ _; exact Nat.le_of_eq rfl) (hb hby dCI2_25) (fun _ _ => ⟨rfl, e2, (by decide : 1 + 0 ≤ _), (by decide : 2 + 0 ≤ _)⟩)
  dsimp only [Pt.U, Pt.locs, Pt.cells, Pt.slots] at X4 l4 y4 z4 st4 hQ4
  subst l4 y4 z4
  obtain ⟨hv4, N4q, e4⟩ := hQ4
  rw [(show (own_min (4 : Int32) (2 : Int32)) = (2 : Int32) from by decide)] at hv4; subst hv4
  have N4 := Fr.app N0 N4q
  refine Go.pull (V := T4.setTop (mkF m 28 #[rv d, iv 2, rv b2] [(.int 2), (.int 0), (.ref b2), (.int 0), (.ref d)])) st4 ?_
  obtain ⟨T5, h5, L5, X5, e5, N5, Kc5, Va5, st5⟩ := cpA X4 hx hZ hown (hw _ (List.mem_of_getElem? (i := 43) rfl)) (hw _ (List.mem_of_getElem? (i := 46) rfl)) (hw _ (List.mem_of_getElem? (i := 44) rfl)) (hw _ (List.mem_of_getElem? (i := 45) rfl)) e4 (Vd.ext E2) V2 (Or.inl ⟨rfl, rfl⟩) (by decide) (by decide) (by decide) (by decide) (by decide) (us := [(.int w0), (.int w1)]) rfl (by decide) N4 g_b2 (g := (mkF m 28 #[rv d, iv 2, rv b2] [(.int 2), (.int 0), (.ref b2), (.int 0), (.ref d)])) rfl (by rw [hml]; rfl) rfl (hb hby dCI2_28) (by decide) (W := 0) (by show 2 * 0 + _ ≤ _; exact Nat.le_of_eq rfl) (by decide)
  have V5 : Arv Z h5 b2 k2 .int (2 : Int32) [(.int w0), (.int w1)] (.int 0) := Va5
  have K5 : Keep h0 h5 [] := K2.trans Kc5 ((allS (Or.inr sz_b2) all0))
  refine Go.pull (V := T5.setTop (mkF m 31 #[rv d, iv 2, rv b2] [])) st5 ?_
  refine Go.pull (V := T5.setTop (mkF m 32 #[rv d, iv 2, rv b2] [(.ref b2)])) (fun t k => XS.aloadN X5.here hx rfl (hb hby dCI2_31) rfl rfl k) ?_
  exact Go.retR X5 hx Bd.notSynchronized Bd.returns rfl rfl rfl (hb hby dCI2_32) (by rw [e5]; exact ⟨b2, k2, rfl, N5, K5, sz_b2, V5⟩) (by decide) (by decide)
theorem dCI4_0 : decode jdk_65_method_123_code 0 = .ok (.iload_n 1, 1) := by decide +kernel
theorem dCI4_1 : decode jdk_65_method_123_code 1 = .ok (.aload_n 0, 1) := by decide +kernel
theorem dCI4_2 : decode jdk_65_method_123_code 2 = .ok (.arraylength, 1) := by decide +kernel
theorem dCI4_3 : decode jdk_65_method_123_code 3 = .ok (.if_icmp .ne 11, 3) := by decide +kernel
theorem dCI4_6 : decode jdk_65_method_123_code 6 = .ok (.aload_n 0, 1) := by decide +kernel
theorem dCI4_7 : decode jdk_65_method_123_code 7 = .ok (.invokevirtual 316, 3) := by decide +kernel
theorem dCI4_10 : decode jdk_65_method_123_code 10 = .ok (.checkcast 317, 3) := by decide +kernel
theorem dCI4_13 : decode jdk_65_method_123_code 13 = .ok (.areturn, 1) := by decide +kernel
theorem efCI4 (m : MethodId) (x0 : Addr) : entryFrame m #[(.ref x0), (.int 4)] 3 = mkF m 0 #[rv x0, iv 4, .unset] [] := by first | (simp [entryFrame, mkF, argsToLocals, Value.category]; done) | rfl
def QCI4 (Z : State) (d : Addr) (kd : ClassId) (w0 : Int32) (w1 : Int32) (w2 : Int32) (w3 : Int32) (h0 : Heap) (n0 : Nat) (v : Option Value) (h : Heap) (L : List Loc) : Prop := ∃ (rn : Addr), ∃ (kn : ClassId), v = some (.ref rn) ∧ Fr n0 L ∧ Keep h0 h [] ∧ h0.size ≤ rn ∧ Arv Z h rn kn .int (4 : Int32) [(.int w0), (.int w1), (.int w2), (.int w3)] (.int 0)
set_option maxRecDepth 65536 in
set_option maxHeartbeats 40000000 in
theorem rmCI4 (l : Launch) (Z : State) (a0 : Array Value) (hw : ∀ d ∈ tables_1, d.before a0 Z = true) (ws : List Jvm.Cond) (d : Addr) (kd : ClassId) (w0 : Int32) (w1 : Int32) (w2 : Int32) (w3 : Int32) (h0 : Heap) (n0 : Nat) (Z0 : n0 ≤ h0.size) (Vd : Arv Z h0 d kd .int (4 : Int32) [(.int w0), (.int w1), (.int w2), (.int w3)] (.int 0)) (Ed : Exa Z h0 d "[I") :
    MetFree l (⟨"java/util/Arrays", "copyOf", "([II)[I"⟩ : MethodName) (head1 (Jvm.Cond.code (⟨"java/util/Arrays", "copyOf", "([II)[I"⟩ : MethodName) jdk_65_method_123_code 3 (some (.array .int)) :: ws) ({ frames := 1, cells := 1, slots := 4, locals := 14 } : Room)) (fun as' U => as' = #[(.ref d), (.int 4)] ∧ Z.Warmed39 U.vm ∧ U.heap = h0) (fun _ _ _ _ _ => True) (fun _ U o U' => ∃ v L, o = .returned v ∧ QCI4 Z d kd w0 w1 w2 w3 h0 n0 v U'.heap L ∧ FrameEnd U o U' L ({ frames := 1, cells := 1, slots := 4, locals := 14 } : Room).cells ({ frames := 1, cells := 1, slots := 4, locals := 14 } : Room).slots) := by
  refine MetFree.of_bodySF (plainFor_of_name pn_java_util_Arrays) hisR ?_
  intro p e s m args below meth c s₁ Bd hml0 hP hK
  obtain ⟨rfl, hZ, hh⟩ := hP
  have hx := Bd.exec
  have hby := Bd.bytes
  have hml : c.maxLocals = 3 := hml0
  have hown : s.vm.findClass "java/util/Arrays" = some m.cls := findClass_of_methodNamed Bd.named
  have hnm := (name_of_methodNamed Bd.named Bd.method).1
  have X0 : Stand p l e ({ frames := 1, cells := 1, slots := 4, locals := 14 } : Room) s m #[(.ref d), (.int 4)] below meth c s₁ [] 0 0 := Stand.of_body Bd
  have e0 : s₁.heap = h0 := by rw [← hh, Bd.state]; rfl
  have N0 := Fr.nil n0
  show Go p e below s (fun v h L => QCI4 Z d kd w0 w1 w2 w3 h0 n0 v h L) 1 4 _
  refine Go.pull (V := s₁.setTop (mkF m 0 #[rv d, iv 4, .unset] [])) (fun t k => castTop (efCI4 m d) k) ?_
  refine Go.pull (V := s₁.setTop (mkF m 1 #[rv d, iv 4, .unset] [(.int 4)])) (fun t k => XS.iloadN X0.here hx rfl (hb hby dCI4_0) rfl  k) ?_
  refine Go.pull (V := s₁.setTop (mkF m 2 #[rv d, iv 4, .unset] [(.ref d), (.int 4)])) (fun t k => XS.aloadN X0.here hx rfl (hb hby dCI4_1) rfl rfl k) ?_
  obtain ⟨cl1, Ar1, q1, S1, M1, Hs1, G1⟩ := id Vd
  refine Go.pull (V := s₁.setTop (mkF m 3 #[rv d, iv 4, .unset] [(.int 4), (.int 4)])) (fun t k => X0.arraylength hx (by rw [e0]; exact Ar1.1) (State.isArrayOf_alike hZ.alike Ar1.2.1) (g := (mkF m 2 #[rv d, iv 4, .unset] [(.ref d), (.int 4)])) rfl rfl (hb hby dCI4_2) _ (by rw [len_of S1 M1]; exact k)) ?_
  refine Go.pull (V := s₁.setTop (mkF m 6 #[rv d, iv 4, .unset] [])) (fun t k => XS.icmpNo X0.here hx rfl (hb hby dCI4_3) rfl (XT.ii_ne_f (by decide)) k) ?_
  refine Go.pull (V := s₁.setTop (mkF m 7 #[rv d, iv 4, .unset] [(.ref d)])) (fun t k => XS.aloadN X0.here hx rfl (hb hby dCI4_6) rfl rfl k) ?_
  obtain ⟨T2, h2, X2, e2, E2, A2, D2, st2⟩ := cloneH X0 hx hZ hown (hw _ (List.mem_of_getElem? (i := 90) rfl)) (hw _ (List.mem_of_getElem? (i := 91) rfl)) (hw _ (List.mem_of_getElem? (i := 95) rfl)) (hw _ (List.mem_of_getElem? (i := 93) rfl)) (hw _ (List.mem_of_getElem? (i := 94) rfl)) (hw _ (List.mem_of_getElem? (i := 96) rfl)) e0 (Vd).arh Ed (g := (mkF m 7 #[rv d, iv 4, .unset] [(.ref d)])) rfl (by rw [hml]; rfl) rfl (hb hby dCI4_7) (by decide) (W := 0) (cap := 4) (by show 2 * 0 + _ ≤ _; exact Nat.le_of_eq rfl) (by decide) (by decide) (by decide) (by decide)
  obtain ⟨b2, g2⟩ : ∃ z, z = h0.size := ⟨_, rfl⟩
  rw [← g2] at A2 D2 st2
  have ne_d_b2 : d ≠ b2 := Nat.ne_of_lt (Nat.lt_of_lt_of_le Vd.lt (Nat.le_of_eq g2.symm))
  have sz_b2 : h0.size ≤ b2 := Nat.le_trans ((Keep.refl h0 [])).1 (Nat.le_of_eq g2.symm)
  have g_b2 : n0 ≤ b2 := Nat.le_trans Z0 sz_b2
  have K2 : Keep h0 h2 [] := (Keep.refl h0 []).ext E2
  have V2 : Arv Z h2 b2 kd .int (4 : Int32) [(.int w0), (.int w1), (.int w2), (.int w3)] (.int 0) := A2
  refine Go.pull (V := T2.setTop (mkF m 10 #[rv d, iv 4, .unset] [(.ref b2)])) st2 ?_
  obtain ⟨T3, X3, e3, st3⟩ := castY X2 hx hZ hown (hw _ (List.mem_of_getElem? (i := 97) rfl)) e2 (Ins.self D2) (g := (mkF m 10 #[rv d, iv 4, .unset] [(.ref b2)])) rfl rfl (hb hby dCI4_10)
  refine Go.pull (V := T3.setTop (mkF m 13 #[rv d, iv 4, .unset] [(.ref b2)])) st3 ?_
  exact Go.retR X3 hx Bd.notSynchronized Bd.returns rfl rfl rfl (hb hby dCI4_13) (by rw [e3]; exact ⟨b2, kd, rfl, N0, K2, sz_b2, V2⟩) (by decide) (by decide)
theorem dSI_0 : decode prog_16_method_1_code 0 = .ok (.aload_n 0, 1) := by decide +kernel
theorem dSI_1 : decode prog_16_method_1_code 1 = .ok (.invokespecial 1, 3) := by decide +kernel
theorem dSI_4 : decode prog_16_method_1_code 4 = .ok (.aload_n 0, 1) := by decide +kernel
theorem dSI_5 : decode prog_16_method_1_code 5 = .ok (.aload_n 1, 1) := by decide +kernel
theorem dSI_6 : decode prog_16_method_1_code 6 = .ok (.putfield 7, 3) := by decide +kernel
theorem dSI_9 : decode prog_16_method_1_code 9 = .ok (.return_, 1) := by decide +kernel
theorem efSI (m : MethodId) (x0 : Addr) (x1 : Addr) : entryFrame m #[(.ref x0), (.ref x1)] 2 = mkF m 0 #[rv x0, rv x1] [] := by first | (simp [entryFrame, mkF, argsToLocals, Value.category]; done) | rfl
theorem pn_com_example_salish_salish_regex_CodePointSet : plainName "com/example/salish/salish/regex/CodePointSet" = true := by first | (simp [plainName, overriddenIn]; done) | decide +kernel
def QSI (Z : State) (a : Addr) (d : Addr) (ua : Value) (h0 : Heap) (n0 : Nat) (v : Option Value) (h : Heap) (L : List Loc) : Prop := v = none ∧ Fr n0 L ∧ Keep h0 h [a] ∧ Fld Z h a "com/example/salish/salish/regex/CodePointSet" "bounds" "[I" (.ref d)
set_option maxRecDepth 65536 in
set_option maxHeartbeats 40000000 in
theorem rmSI (l : Launch) (Z : State) (a0 : Array Value) (hw : ∀ d ∈ tables_1, d.before a0 Z = true) (ws : List Jvm.Cond) (a : Addr) (d : Addr) (ua : Value) (h0 : Heap) (n0 : Nat) (g_a : n0 ≤ a) (Ea : Exa Z h0 a "com/example/salish/salish/regex/CodePointSet") (Fb : Fld Z h0 a "com/example/salish/salish/regex/CodePointSet" "bounds" "[I" ua) :
    MetFree l (⟨"com/example/salish/salish/regex/CodePointSet", "<init>", "([I)V"⟩ : MethodName) (head1 (Jvm.Cond.code (⟨"com/example/salish/salish/regex/CodePointSet", "<init>", "([I)V"⟩ : MethodName) prog_16_method_1_code 2 none :: ws) ({ frames := 1, cells := 0, slots := 0, locals := 12 } : Room)) (fun as' U => as' = #[(.ref a), (.ref d)] ∧ Z.Warmed39 U.vm ∧ U.heap = h0) (fun _ _ _ _ _ => True) (fun _ U o U' => ∃ v L, o = .returned v ∧ QSI Z a d ua h0 n0 v U'.heap L ∧ FrameEnd U o U' L ({ frames := 1, cells := 0, slots := 0, locals := 12 } : Room).cells ({ frames := 1, cells := 0, slots := 0, locals := 12 } : Room).slots) := by
  refine MetFree.of_bodySF (plainFor_of_name pn_com_example_salish_salish_regex_CodePointSet) hisR ?_
  intro p e s m args below meth c s₁ Bd hml0 hP hK
  obtain ⟨rfl, hZ, hh⟩ := hP
  have hx := Bd.exec
  have hby := Bd.bytes
  have hml : c.maxLocals = 2 := hml0
  have hown : s.vm.findClass "com/example/salish/salish/regex/CodePointSet" = some m.cls := findClass_of_methodNamed Bd.named
  have hnm := (name_of_methodNamed Bd.named Bd.method).1
  have X0 : Stand p l e ({ frames := 1, cells := 0, slots := 0, locals := 12 } : Room) s m #[(.ref a), (.ref d)] below meth c s₁ [] 0 0 := Stand.of_body Bd
  have e0 : s₁.heap = h0 := by rw [← hh, Bd.state]; rfl
  have N0 := Fr.nil n0
  show Go p e below s (fun v h L => QSI Z a d ua h0 n0 v h L) 0 0 _
  refine Go.pull (V := s₁.setTop (mkF m 0 #[rv a, rv d] [])) (fun t k => castTop (efSI m a d) k) ?_
  refine Go.pull (V := s₁.setTop (mkF m 1 #[rv a, rv d] [(.ref a)])) (fun t k => XS.aloadN X0.here hx rfl (hb hby dSI_0) rfl rfl k) ?_
  obtain ⟨T1, X1, e1, st1⟩ := initO X0 hx hZ hown (hw _ (List.mem_of_getElem? (i := 71) rfl)) (hw _ (List.mem_of_getElem? (i := 20) rfl)) (hw _ (List.mem_of_getElem? (i := 21) rfl)) e0 (g := (mkF m 1 #[rv a, rv d] [(.ref a)])) rfl (by rw [hml]; rfl) rfl (hb hby dSI_1) (by decide) (W := 0) (by show 2 * 0 + _ ≤ _; exact Nat.le_of_eq rfl) (by decide)
  refine Go.pull (V := T1.setTop (mkF m 4 #[rv a, rv d] [])) st1 ?_
  refine Go.pull (V := T1.setTop (mkF m 5 #[rv a, rv d] [(.ref a)])) (fun t k => XS.aloadN X1.here hx rfl (hb hby dSI_4) rfl rfl k) ?_
  refine Go.pull (V := T1.setTop (mkF m 6 #[rv a, rv d] [(.ref d), (.ref a)])) (fun t k => XS.aloadN X1.here hx rfl (hb hby dSI_5) rfl rfl k) ?_
  obtain ⟨T2, h2, X2, e2, W2, st2⟩ := putF X1 hx hZ hown (host := "") (Or.inl (hw _ (List.mem_of_getElem? (i := 72) rfl))) Via.refl e1 Fb Ea (Or.inr ⟨(hw _ (List.mem_of_getElem? (i := 73) rfl)), rfl, hnm⟩) (hw _ (List.mem_of_getElem? (i := 63) rfl)) (ty := (.array .int)) (by decide) rfl rfl (g := (mkF m 6 #[rv a, rv d] [(.ref d), (.ref a)])) rfl rfl (hb hby dSI_6)
  have Fw2 : Fld Z h2 a "com/example/salish/salish/regex/CodePointSet" "bounds" "[I" (.ref d) := Fb.same W2
  have K2 : Keep h0 h2 [a] := (Keep.refl h0 [a]).wr W2 (Or.inl (List.mem_of_getElem? (i := 0) rfl))
  have N2 := Fr.snoc X2 N0 g_a
  refine Go.pull (V := T2.setTop (mkF m 9 #[rv a, rv d] [])) st2 ?_
  exact Go.ret0 X2 hx Bd.notSynchronized Bd.returns (hb hby dSI_9) (by rw [e2]; exact ⟨rfl, N2, K2, Fw2⟩) (by decide) (by decide)
theorem dBB_0 : decode prog_17_method_4_code 0 = .ok (.aload_n 0, 1) := by decide +kernel
theorem dBB_1 : decode prog_17_method_4_code 1 = .ok (.getfield 7, 3) := by decide +kernel
theorem dBB_4 : decode prog_17_method_4_code 4 = .ok (.aload_n 0, 1) := by decide +kernel
theorem dBB_5 : decode prog_17_method_4_code 5 = .ok (.getfield 25, 3) := by decide +kernel
theorem dBB_8 : decode prog_17_method_4_code 8 = .ok (.invokestatic 29, 3) := by decide +kernel
theorem dBB_11 : decode prog_17_method_4_code 11 = .ok (.astore_n 1, 1) := by decide +kernel
theorem dBB_12 : decode prog_17_method_4_code 12 = .ok (.aload_n 1, 1) := by decide +kernel
theorem dBB_13 : decode prog_17_method_4_code 13 = .ok (.invokestatic 52, 3) := by decide +kernel
theorem dBB_16 : decode prog_17_method_4_code 16 = .ok (.iconst 2, 1) := by decide +kernel
theorem dBB_17 : decode prog_17_method_4_code 17 = .ok (.aload_n 0, 1) := by decide +kernel
theorem dBB_18 : decode prog_17_method_4_code 18 = .ok (.getfield 25, 3) := by decide +kernel
theorem dBB_21 : decode prog_17_method_4_code 21 = .ok (.imul, 1) := by decide +kernel
theorem dBB_22 : decode prog_17_method_4_code 22 = .ok (.newarray .int, 2) := by decide +kernel
theorem dBB_24 : decode prog_17_method_4_code 24 = .ok (.astore_n 2, 1) := by decide +kernel
theorem dBB_25 : decode prog_17_method_4_code 25 = .ok (.iconst 0, 1) := by decide +kernel
theorem dBB_26 : decode prog_17_method_4_code 26 = .ok (.istore_n 3, 1) := by decide +kernel
theorem dBB_27 : decode prog_17_method_4_code 27 = .ok (.aload_n 1, 1) := by decide +kernel
theorem dBB_28 : decode prog_17_method_4_code 28 = .ok (.astore 4, 2) := by decide +kernel
theorem dBB_30 : decode prog_17_method_4_code 30 = .ok (.aload 4, 2) := by decide +kernel
theorem dBB_32 : decode prog_17_method_4_code 32 = .ok (.arraylength, 1) := by decide +kernel
theorem dBB_33 : decode prog_17_method_4_code 33 = .ok (.istore 5, 2) := by decide +kernel
theorem dBB_35 : decode prog_17_method_4_code 35 = .ok (.iconst 0, 1) := by decide +kernel
theorem dBB_36 : decode prog_17_method_4_code 36 = .ok (.istore 6, 2) := by decide +kernel
theorem dBB_38 : decode prog_17_method_4_code 38 = .ok (.iload 6, 2) := by decide +kernel
theorem dBB_40 : decode prog_17_method_4_code 40 = .ok (.iload 5, 2) := by decide +kernel
theorem dBB_42 : decode prog_17_method_4_code 42 = .ok (.if_icmp .ge 79, 3) := by decide +kernel
theorem dBB_45 : decode prog_17_method_4_code 45 = .ok (.aload 4, 2) := by decide +kernel
theorem dBB_47 : decode prog_17_method_4_code 47 = .ok (.iload 6, 2) := by decide +kernel
theorem dBB_49 : decode prog_17_method_4_code 49 = .ok (.laload, 1) := by decide +kernel
theorem dBB_50 : decode prog_17_method_4_code 50 = .ok (.lstore 7, 2) := by decide +kernel
theorem dBB_52 : decode prog_17_method_4_code 52 = .ok (.lload 7, 2) := by decide +kernel
theorem dBB_54 : decode prog_17_method_4_code 54 = .ok (.bipush 32, 2) := by decide +kernel
theorem dBB_56 : decode prog_17_method_4_code 56 = .ok (.lushr, 1) := by decide +kernel
theorem dBB_57 : decode prog_17_method_4_code 57 = .ok (.l2i, 1) := by decide +kernel
theorem dBB_58 : decode prog_17_method_4_code 58 = .ok (.istore 9, 2) := by decide +kernel
theorem dBB_60 : decode prog_17_method_4_code 60 = .ok (.lload 7, 2) := by decide +kernel
theorem dBB_62 : decode prog_17_method_4_code 62 = .ok (.l2i, 1) := by decide +kernel
theorem dBB_63 : decode prog_17_method_4_code 63 = .ok (.istore 10, 2) := by decide +kernel
theorem dBB_65 : decode prog_17_method_4_code 65 = .ok (.iload_n 3, 1) := by decide +kernel
theorem dBB_66 : decode prog_17_method_4_code 66 = .ok (.ifCond .le 33, 3) := by decide +kernel
theorem dBB_69 : decode prog_17_method_4_code 69 = .ok (.iload 9, 2) := by decide +kernel
theorem dBB_71 : decode prog_17_method_4_code 71 = .ok (.aload_n 2, 1) := by decide +kernel
theorem dBB_72 : decode prog_17_method_4_code 72 = .ok (.iload_n 3, 1) := by decide +kernel
theorem dBB_73 : decode prog_17_method_4_code 73 = .ok (.iconst 1, 1) := by decide +kernel
theorem dBB_74 : decode prog_17_method_4_code 74 = .ok (.isub, 1) := by decide +kernel
theorem dBB_75 : decode prog_17_method_4_code 75 = .ok (.iaload, 1) := by decide +kernel
theorem dBB_76 : decode prog_17_method_4_code 76 = .ok (.iconst 1, 1) := by decide +kernel
theorem dBB_77 : decode prog_17_method_4_code 77 = .ok (.iadd, 1) := by decide +kernel
theorem dBB_78 : decode prog_17_method_4_code 78 = .ok (.if_icmp .gt 21, 3) := by decide +kernel
theorem dBB_81 : decode prog_17_method_4_code 81 = .ok (.aload_n 2, 1) := by decide +kernel
theorem dBB_82 : decode prog_17_method_4_code 82 = .ok (.iload_n 3, 1) := by decide +kernel
theorem dBB_83 : decode prog_17_method_4_code 83 = .ok (.iconst 1, 1) := by decide +kernel
theorem dBB_84 : decode prog_17_method_4_code 84 = .ok (.isub, 1) := by decide +kernel
theorem dBB_85 : decode prog_17_method_4_code 85 = .ok (.aload_n 2, 1) := by decide +kernel
theorem dBB_86 : decode prog_17_method_4_code 86 = .ok (.iload_n 3, 1) := by decide +kernel
theorem dBB_87 : decode prog_17_method_4_code 87 = .ok (.iconst 1, 1) := by decide +kernel
theorem dBB_88 : decode prog_17_method_4_code 88 = .ok (.isub, 1) := by decide +kernel
theorem dBB_89 : decode prog_17_method_4_code 89 = .ok (.iaload, 1) := by decide +kernel
theorem dBB_90 : decode prog_17_method_4_code 90 = .ok (.iload 10, 2) := by decide +kernel
theorem dBB_92 : decode prog_17_method_4_code 92 = .ok (.invokestatic 56, 3) := by decide +kernel
theorem dBB_95 : decode prog_17_method_4_code 95 = .ok (.iastore, 1) := by decide +kernel
theorem dBB_96 : decode prog_17_method_4_code 96 = .ok (.goto 19, 3) := by decide +kernel
theorem dBB_99 : decode prog_17_method_4_code 99 = .ok (.aload_n 2, 1) := by decide +kernel
theorem dBB_100 : decode prog_17_method_4_code 100 = .ok (.iload_n 3, 1) := by decide +kernel
theorem dBB_101 : decode prog_17_method_4_code 101 = .ok (.iinc 3 1, 3) := by decide +kernel
theorem dBB_104 : decode prog_17_method_4_code 104 = .ok (.iload 9, 2) := by decide +kernel
theorem dBB_106 : decode prog_17_method_4_code 106 = .ok (.iastore, 1) := by decide +kernel
theorem dBB_107 : decode prog_17_method_4_code 107 = .ok (.aload_n 2, 1) := by decide +kernel
theorem dBB_108 : decode prog_17_method_4_code 108 = .ok (.iload_n 3, 1) := by decide +kernel
theorem dBB_109 : decode prog_17_method_4_code 109 = .ok (.iinc 3 1, 3) := by decide +kernel
theorem dBB_112 : decode prog_17_method_4_code 112 = .ok (.iload 10, 2) := by decide +kernel
theorem dBB_114 : decode prog_17_method_4_code 114 = .ok (.iastore, 1) := by decide +kernel
theorem dBB_115 : decode prog_17_method_4_code 115 = .ok (.iinc 6 1, 3) := by decide +kernel
theorem dBB_118 : decode prog_17_method_4_code 118 = .ok (.goto (-80), 3) := by decide +kernel
theorem dBB_121 : decode prog_17_method_4_code 121 = .ok (.new 36, 3) := by decide +kernel
theorem dBB_124 : decode prog_17_method_4_code 124 = .ok (.dup, 1) := by decide +kernel
theorem dBB_125 : decode prog_17_method_4_code 125 = .ok (.aload_n 2, 1) := by decide +kernel
theorem dBB_126 : decode prog_17_method_4_code 126 = .ok (.iload_n 3, 1) := by decide +kernel
theorem dBB_127 : decode prog_17_method_4_code 127 = .ok (.invokestatic 62, 3) := by decide +kernel
theorem dBB_130 : decode prog_17_method_4_code 130 = .ok (.invokespecial 65, 3) := by decide +kernel
theorem dBB_133 : decode prog_17_method_4_code 133 = .ok (.areturn, 1) := by decide +kernel
theorem efBB (m : MethodId) (x0 : Addr) : entryFrame m #[(.ref x0)] 11 = mkF m 0 #[rv x0, .unset, .unset, .unset, .unset, .unset, .unset, .unset, .unset, .unset, .unset] [] := by first | (simp [entryFrame, mkF, argsToLocals, Value.category]; done) | rfl
def QBB (Z : State) (a : Addr) (ra : Addr) (ka : ClassId) (p1 : Int32) (q1 : Int32) (p2 : Int32) (q2 : Int32) (h0 : Heap) (n0 : Nat) (v : Option Value) (h : Heap) (L : List Loc) : Prop := ∃ (rs : Addr), ∃ (rb : Addr), ∃ (kb : ClassId), ∃ (zn : Int32), ∃ (vs : List Value), v = some (.ref rs) ∧ Fr n0 L ∧ Keep h0 h [] ∧ h0.size ≤ rs ∧ h0.size ≤ rb ∧ Exa Z h rs "com/example/salish/salish/regex/CodePointSet" ∧ Fld Z h rs "com/example/salish/salish/regex/CodePointSet" "bounds" "[I" (.ref rb) ∧ Arv Z h rb kb .int zn vs (.int 0) ∧ (own_bld p1 q1 p2 q2 zn vs)
set_option maxRecDepth 65536 in
set_option maxHeartbeats 40000000 in
theorem rmBB (l : Launch) (Z : State) (a0 : Array Value) (hw : ∀ d ∈ tables_1, d.before a0 Z = true) (ws : List Jvm.Cond) (a : Addr) (ra : Addr) (ka : ClassId) (p1 : Int32) (q1 : Int32) (p2 : Int32) (q2 : Int32) (h0 : Heap) (n0 : Nat) (Z0 : n0 ≤ h0.size) (Fr' : Fld Z h0 a "com/example/salish/salish/regex/CodePointSet$Builder" "ranges" "[J" (.ref ra)) (Fc : Fld Z h0 a "com/example/salish/salish/regex/CodePointSet$Builder" "count" "I" (.int 2)) (Vr : Arv Z h0 ra ka .long (8 : Int32) [(.long (own_pk p1 q1)), (.long (own_pk p2 q2)), (.long 0), (.long 0), (.long 0), (.long 0), (.long 0), (.long 0)] (.long 0)) (hr1 : 0 ≤ p1.toInt ∧ p1.toInt ≤ q1.toInt ∧ q1.toInt ≤ 1114111) (hr2 : 0 ≤ p2.toInt ∧ p2.toInt ≤ q2.toInt ∧ q2.toInt ≤ 1114111) :
    MetFree l (⟨"com/example/salish/salish/regex/CodePointSet$Builder", "build", "()Lcom/example/salish/salish/regex/CodePointSet;"⟩ : MethodName) (head1 (Jvm.Cond.code (⟨"com/example/salish/salish/regex/CodePointSet$Builder", "build", "()Lcom/example/salish/salish/regex/CodePointSet;"⟩ : MethodName) prog_17_method_4_code 11 (some (.object "com/example/salish/salish/regex/CodePointSet")) :: ws) ({ frames := 4, cells := 4, slots := 11, locals := 84 } : Room)) (fun as' U => as' = #[(.ref a)] ∧ Z.Warmed39 U.vm ∧ U.heap = h0) (fun _ _ _ _ _ => True) (fun _ U o U' => ∃ v L, o = .returned v ∧ QBB Z a ra ka p1 q1 p2 q2 h0 n0 v U'.heap L ∧ FrameEnd U o U' L ({ frames := 4, cells := 4, slots := 11, locals := 84 } : Room).cells ({ frames := 4, cells := 4, slots := 11, locals := 84 } : Room).slots) := by
  refine MetFree.of_bodySF (plainFor_of_name pn_com_example_salish_salish_regex_CodePointSet_Builder) hisR ?_
  intro p e s m args below meth c s₁ Bd hml0 hP hK
  obtain ⟨rfl, hZ, hh⟩ := hP
  have hx := Bd.exec
  have hby := Bd.bytes
  have hml : c.maxLocals = 11 := hml0
  have hown : s.vm.findClass "com/example/salish/salish/regex/CodePointSet$Builder" = some m.cls := findClass_of_methodNamed Bd.named
  have hnm := (name_of_methodNamed Bd.named Bd.method).1
  have X0 : Stand p l e ({ frames := 4, cells := 4, slots := 11, locals := 84 } : Room) s m #[(.ref a)] below meth c s₁ [] 0 0 := Stand.of_body Bd
  have e0 : s₁.heap = h0 := by rw [← hh, Bd.state]; rfl
  have N0 := Fr.nil n0
  show Go p e below s (fun v h L => QBB Z a ra ka p1 q1 p2 q2 h0 n0 v h L) 4 11 _
  refine Go.pull (V := s₁.setTop (mkF m 0 #[rv a, .unset, .unset, .unset, .unset, .unset, .unset, .unset, .unset, .unset, .unset] [])) (fun t k => castTop (efBB m a) k) ?_
  refine Go.pull (V := s₁.setTop (mkF m 1 #[rv a, .unset, .unset, .unset, .unset, .unset, .unset, .unset, .unset, .unset, .unset] [(.ref a)])) (fun t k => XS.aloadN X0.here hx rfl (hb hby dBB_0) rfl rfl k) ?_
  obtain ⟨T1, X1, e1, st1⟩ := getF X0 hx hZ hown (host := "") (Or.inl (hw _ (List.mem_of_getElem? (i := 23) rfl))) Via.refl e0 Fr' (g := (mkF m 1 #[rv a, .unset, .unset, .unset, .unset, .unset, .unset, .unset, .unset, .unset, .unset] [(.ref a)])) rfl rfl (hb hby dBB_1)
  refine Go.pull (V := T1.setTop (mkF m 4 #[rv a, .unset, .unset, .unset, .unset, .unset, .unset, .unset, .unset, .unset, .unset] [(.ref ra)])) st1 ?_
  refine Go.pull (V := T1.setTop (mkF m 5 #[rv a, .unset, .unset, .unset, .unset, .unset, .unset, .unset, .unset, .unset, .unset] [(.ref a), (.ref ra)])) (fun t k => XS.aloadN X1.here hx rfl (hb hby dBB_4) rfl rfl k) ?_
  obtain ⟨T2, X2, e2, st2⟩ := getF X1 hx hZ hown (host := "") (Or.inl (hw _ (List.mem_of_getElem? (i := 31) rfl))) Via.refl e1 Fc (g := (mkF m 5 #[rv a, .unset, .unset, .unset, .unset, .unset, .unset, .unset, .unset, .unset, .unset] [(.ref a), (.ref ra)])) rfl rfl (hb hby dBB_5)
  refine Go.pull (V := T2.setTop (mkF m 8 #[rv a, .unset, .unset, .unset, .unset, .unset, .unset, .unset, .unset, .unset, .unset] [(.int 2), (.ref ra)])) st2 ?_
  obtain ⟨_, _, ⟨T3, L3, k3, n3⟩, -, X3, ⟨Lc3, hQ3, l3, y3, z3⟩, st3⟩ := Jvm.LawKit.callS X2 hx (y := (⟨"java/util/Arrays", "copyOf", "([JI)[J"⟩ : MethodName)) hown (mvT hZ (hw _ (List.mem_of_getElem? (i := 38) rfl))) (mvT hZ (hw _ (List.mem_of_getElem? (i := 39) rfl))) (mvT hZ (hw _ (List.mem_of_getElem? (i := 40) rfl))) (mvT hZ (hw _ (List.mem_of_getElem? (i := 41) rfl))) (by decide) (backOf (W := 0) (rmCJ l Z a0 hw [] ra ka (own_pk p1 q1) (own_pk p2 q2) h0 n0 (Nat.le_trans Z0 ((Keep.refl h0 [])).1) Vr) hZ (hw _ (List.mem_of_getElem? (i := 41) rfl)) (hw _ (List.mem_of_getElem? (i := 40) rfl)) (by decide) (by decide)) (g := (mkF m 8 #[rv a, .unset, .unset, .unset, .unset, .unset, .unset, .unset, .unset, .unset, .unset] [(.int 2), (.ref ra)])) rfl (by rw [hml]; rfl) (argsL := [(.ref ra), (.int 2)]) (rest := []) (lenOf pd_4 rfl) rfl (by show 2 * 0 + _ ≤ _; exact Nat.le_of_eq rfl) (hb hby dBB_8) (fun _ _ => ⟨rfl, e2, (by decide : 0 + 1 ≤ _), (by decide : 0 + 2 ≤ _)⟩)
  dsimp only [Pt.U, Pt.locs, Pt.cells, Pt.slots] at X3 l3 y3 z3 st3 hQ3
  subst l3 y3 z3
  obtain ⟨rn_3, kn_3, rfl, N3q, Kc3, nex3_0, Fc3_0⟩ := hQ3
  have ne_a_rn_3 : a ≠ rn_3 := Nat.ne_of_lt (Nat.lt_of_lt_of_le Fr'.lt nex3_0)
  have ne_ra_rn_3 : ra ≠ rn_3 := Nat.ne_of_lt (Nat.lt_of_lt_of_le Vr.lt nex3_0)
  have sz_rn_3 : h0.size ≤ rn_3 := Nat.le_trans ((Keep.refl h0 [])).1 nex3_0
  have g_rn_3 : n0 ≤ rn_3 := Nat.le_trans Z0 sz_rn_3
  have K3 : Keep h0 T3.heap [] := (Keep.refl h0 []).trans Kc3 (all0)
  have N3 := Fr.app N0 N3q
  refine Go.pull (V := T3.setTop (mkF m 11 #[rv a, .unset, .unset, .unset, .unset, .unset, .unset, .unset, .unset, .unset, .unset] [(.ref rn_3)])) st3 ?_
  refine Go.pull (V := T3.setTop (mkF m 12 #[rv a, rv rn_3, .unset, .unset, .unset, .unset, .unset, .unset, .unset, .unset, .unset] [])) (fun t k => XS.astoreN X3.here hx rfl (hb hby dBB_11) rfl rfl (l' := #[rv a, rv rn_3, .unset, .unset, .unset, .unset, .unset, .unset, .unset, .unset, .unset]) rfl k) ?_
  refine Go.pull (V := T3.setTop (mkF m 13 #[rv a, rv rn_3, .unset, .unset, .unset, .unset, .unset, .unset, .unset, .unset, .unset] [(.ref rn_3)])) (fun t k => XS.aloadN X3.here hx rfl (hb hby dBB_12) rfl rfl k) ?_
  obtain ⟨_, _, ⟨T4, L4, k4, n4⟩, -, X4, ⟨Lc4, hQ4, l4, y4, z4⟩, st4⟩ := Jvm.LawKit.callS X3 hx (y := (⟨"java/util/Arrays", "sort", "([J)V"⟩ : MethodName)) hown (mvT hZ (hw _ (List.mem_of_getElem? (i := 47) rfl))) (mvT hZ (hw _ (List.mem_of_getElem? (i := 48) rfl))) (mvT hZ (hw _ (List.mem_of_getElem? (i := 40) rfl))) (mvT hZ (hw _ (List.mem_of_getElem? (i := 49) rfl))) (by decide) (backOf (W := 0) (rmS4 l Z a0 hw [] rn_3 kn_3 (own_pk p1 q1) (own_pk p2 q2) T3.heap n0 (g_rn_3) Fc3_0) hZ (hw _ (List.mem_of_getElem? (i := 49) rfl)) (hw _ (List.mem_of_getElem? (i := 40) rfl)) (by decide) (by decide)) (g := (mkF m 13 #[rv a, rv rn_3, .unset, .unset, .unset, .unset, .unset, .unset, .unset, .unset, .unset] [(.ref rn_3)])) rfl (by rw [hml]; rfl) (argsL := [(.ref rn_3)]) (rest := []) (lenOf pd_5 rfl) rfl (by show 2 * 0 + _ ≤ _; exact Nat.le_of_eq rfl) (hb hby dBB_13) (fun _ _ => ⟨rfl, rfl, (by decide : 1 + 0 ≤ _), (by decide : 2 + 0 ≤ _)⟩)
  dsimp only [Pt.U, Pt.locs, Pt.cells, Pt.slots] at X4 l4 y4 z4 st4 hQ4
  subst l4 y4 z4
  obtain ⟨f1_4, f2_4, rfl, N4q, Kc4, Fc4_0, Qx4_0⟩ := hQ4
  have K4 : Keep h0 T4.heap [] := K3.trans Kc4 ((allS (Or.inr sz_rn_3) all0))
  have N4 := Fr.app N3 N4q
  refine Go.pull (V := T4.setTop (mkF m 16 #[rv a, rv rn_3, .unset, .unset, .unset, .unset, .unset, .unset, .unset, .unset, .unset] [])) st4 ?_
  rcases Qx4_0 with ⟨hs1, rfl, rfl⟩ | ⟨hs1, rfl, rfl⟩
  · skip
    refine Go.pull (V := T4.setTop (mkF m 17 #[rv a, rv rn_3, .unset, .unset, .unset, .unset, .unset, .unset, .unset, .unset, .unset] [(.int 2)])) (fun t k => XS.iconst X4.here hx rfl (hb hby dBB_16) k) ?_
    refine Go.pull (V := T4.setTop (mkF m 18 #[rv a, rv rn_3, .unset, .unset, .unset, .unset, .unset, .unset, .unset, .unset, .unset] [(.ref a), (.int 2)])) (fun t k => XS.aloadN X4.here hx rfl (hb hby dBB_17) rfl rfl k) ?_
    obtain ⟨T5, X5, e5, st5⟩ := getF X4 hx hZ hown (host := "") (Or.inl (hw _ (List.mem_of_getElem? (i := 31) rfl))) Via.refl rfl ((Fc.keep Kc3 nin0).keep Kc4 (ninS (ne_a_rn_3) nin0)) (g := (mkF m 18 #[rv a, rv rn_3, .unset, .unset, .unset, .unset, .unset, .unset, .unset, .unset, .unset] [(.ref a), (.int 2)])) rfl rfl (hb hby dBB_18)
    refine Go.pull (V := T5.setTop (mkF m 21 #[rv a, rv rn_3, .unset, .unset, .unset, .unset, .unset, .unset, .unset, .unset, .unset] [(.int 2), (.int 2)])) st5 ?_
    refine Go.pull (V := T5.setTop (mkF m 22 #[rv a, rv rn_3, .unset, .unset, .unset, .unset, .unset, .unset, .unset, .unset, .unset] [(.int 4)])) (fun t k => XS.imul X5.here hx rfl (hb hby dBB_21) rfl k) ?_
    obtain ⟨T6, h6, k6, X6, e6, E6, A6, D6, st6⟩ := newPE X5 hx hZ (hw _ (List.mem_of_getElem? (i := 60) rfl)) e5 (g := (mkF m 22 #[rv a, rv rn_3, .unset, .unset, .unset, .unset, .unset, .unset, .unset, .unset, .unset] [(.int 4)])) rfl (hb hby dBB_22) rfl (by decide) (cap := 4) (by decide) (by decide) (by decide) (by decide) (ad := "[I") rfl
    obtain ⟨b6, g6⟩ : ∃ z, z = T4.heap.size := ⟨_, rfl⟩
    rw [← g6] at A6 D6 st6
    have ne_a_b6 : a ≠ b6 := Nat.ne_of_lt (Nat.lt_of_lt_of_le ((Fr'.keep Kc3 nin0).keep Kc4 (ninS (ne_a_rn_3) nin0)).lt (Nat.le_of_eq g6.symm))
    have ne_ra_b6 : ra ≠ b6 := Nat.ne_of_lt (Nat.lt_of_lt_of_le ((Vr.keep Kc3 nin0).keep Kc4 (ninS (ne_ra_rn_3) nin0)).lt (Nat.le_of_eq g6.symm))
    have ne_rn_3_b6 : rn_3 ≠ b6 := Nat.ne_of_lt (Nat.lt_of_lt_of_le Fc4_0.lt (Nat.le_of_eq g6.symm))
    have sz_b6 : h0.size ≤ b6 := Nat.le_trans (K4).1 (Nat.le_of_eq g6.symm)
    have g_b6 : n0 ≤ b6 := Nat.le_trans Z0 sz_b6
    have K6 : Keep h0 h6 [] := K4.ext E6
    have V6 : Arv Z h6 b6 k6 .int (4 : Int32) [(.int 0), (.int 0), (.int 0), (.int 0)] (.int 0) := (Arv.new A6 (by decide)).pad (pad_rep [] (.int 0) 4)
    refine Go.pull (V := T6.setTop (mkF m 24 #[rv a, rv rn_3, .unset, .unset, .unset, .unset, .unset, .unset, .unset, .unset, .unset] [(.ref b6)])) st6 ?_
    refine Go.pull (V := T6.setTop (mkF m 25 #[rv a, rv rn_3, rv b6, .unset, .unset, .unset, .unset, .unset, .unset, .unset, .unset] [])) (fun t k => XS.astoreN X6.here hx rfl (hb hby dBB_24) rfl rfl (l' := #[rv a, rv rn_3, rv b6, .unset, .unset, .unset, .unset, .unset, .unset, .unset, .unset]) rfl k) ?_
    refine Go.pull (V := T6.setTop (mkF m 26 #[rv a, rv rn_3, rv b6, .unset, .unset, .unset, .unset, .unset, .unset, .unset, .unset] [(.int 0)])) (fun t k => XS.iconst X6.here hx rfl (hb hby dBB_25) k) ?_
    refine Go.pull (V := T6.setTop (mkF m 27 #[rv a, rv rn_3, rv b6, iv 0, .unset, .unset, .unset, .unset, .unset, .unset, .unset] [])) (fun t k => XS.istoreN X6.here hx rfl (hb hby dBB_26) rfl (l' := #[rv a, rv rn_3, rv b6, iv 0, .unset, .unset, .unset, .unset, .unset, .unset, .unset]) rfl k) ?_
    refine Go.pull (V := T6.setTop (mkF m 28 #[rv a, rv rn_3, rv b6, iv 0, .unset, .unset, .unset, .unset, .unset, .unset, .unset] [(.ref rn_3)])) (fun t k => XS.aloadN X6.here hx rfl (hb hby dBB_27) rfl rfl k) ?_
    refine Go.pull (V := T6.setTop (mkF m 30 #[rv a, rv rn_3, rv b6, iv 0, rv rn_3, .unset, .unset, .unset, .unset, .unset, .unset] [])) (fun t k => XS.astore X6.here hx rfl (hb hby dBB_28) rfl rfl (l' := #[rv a, rv rn_3, rv b6, iv 0, rv rn_3, .unset, .unset, .unset, .unset, .unset, .unset]) rfl k) ?_
    refine Go.pull (V := T6.setTop (mkF m 32 #[rv a, rv rn_3, rv b6, iv 0, rv rn_3, .unset, .unset, .unset, .unset, .unset, .unset] [(.ref rn_3)])) (fun t k => XS.aload X6.here hx rfl (hb hby dBB_30) rfl rfl k) ?_
    obtain ⟨cl7, Ar7, q7, S7, M7, Hs7, G7⟩ := id (Fc4_0.ext E6)
    refine Go.pull (V := T6.setTop (mkF m 33 #[rv a, rv rn_3, rv b6, iv 0, rv rn_3, .unset, .unset, .unset, .unset, .unset, .unset] [(.int 2)])) (fun t k => X6.arraylength hx (by rw [e6]; exact Ar7.1) (State.isArrayOf_alike hZ.alike Ar7.2.1) (g := (mkF m 32 #[rv a, rv rn_3, rv b6, iv 0, rv rn_3, .unset, .unset, .unset, .unset, .unset, .unset] [(.ref rn_3)])) rfl rfl (hb hby dBB_32) _ (by rw [len_of S7 M7]; exact k)) ?_
    refine Go.pull (V := T6.setTop (mkF m 35 #[rv a, rv rn_3, rv b6, iv 0, rv rn_3, iv 2, .unset, .unset, .unset, .unset, .unset] [])) (fun t k => XS.istore X6.here hx rfl (hb hby dBB_33) rfl (l' := #[rv a, rv rn_3, rv b6, iv 0, rv rn_3, iv 2, .unset, .unset, .unset, .unset, .unset]) rfl k) ?_
    refine Go.pull (V := T6.setTop (mkF m 36 #[rv a, rv rn_3, rv b6, iv 0, rv rn_3, iv 2, .unset, .unset, .unset, .unset, .unset] [(.int 0)])) (fun t k => XS.iconst X6.here hx rfl (hb hby dBB_35) k) ?_
    refine Go.pull (V := T6.setTop (mkF m 38 #[rv a, rv rn_3, rv b6, iv 0, rv rn_3, iv 2, iv 0, .unset, .unset, .unset, .unset] [])) (fun t k => XS.istore X6.here hx rfl (hb hby dBB_36) rfl (l' := #[rv a, rv rn_3, rv b6, iv 0, rv rn_3, iv 2, iv 0, .unset, .unset, .unset, .unset]) rfl k) ?_
    refine Go.pull (V := T6.setTop (mkF m 40 #[rv a, rv rn_3, rv b6, iv 0, rv rn_3, iv 2, iv 0, .unset, .unset, .unset, .unset] [(.int 0)])) (fun t k => XS.iload X6.here hx rfl (hb hby dBB_38) rfl  k) ?_
    refine Go.pull (V := T6.setTop (mkF m 42 #[rv a, rv rn_3, rv b6, iv 0, rv rn_3, iv 2, iv 0, .unset, .unset, .unset, .unset] [(.int 2), (.int 0)])) (fun t k => XS.iload X6.here hx rfl (hb hby dBB_40) rfl  k) ?_
    refine Go.pull (V := T6.setTop (mkF m 45 #[rv a, rv rn_3, rv b6, iv 0, rv rn_3, iv 2, iv 0, .unset, .unset, .unset, .unset] [])) (fun t k => XS.icmpNo X6.here hx rfl (hb hby dBB_42) rfl (XT.ii_ge_f (by decide)) k) ?_
    refine Go.pull (V := T6.setTop (mkF m 47 #[rv a, rv rn_3, rv b6, iv 0, rv rn_3, iv 2, iv 0, .unset, .unset, .unset, .unset] [(.ref rn_3)])) (fun t k => XS.aload X6.here hx rfl (hb hby dBB_45) rfl rfl k) ?_
    refine Go.pull (V := T6.setTop (mkF m 49 #[rv a, rv rn_3, rv b6, iv 0, rv rn_3, iv 2, iv 0, .unset, .unset, .unset, .unset] [(.int 0), (.ref rn_3)])) (fun t k => XS.iload X6.here hx rfl (hb hby dBB_47) rfl  k) ?_
    obtain ⟨cl8, Ar8, q8, S8, M8, Hs8, G8⟩ := id (Fc4_0.ext E6)
    have hin8 : ¬ ((0 : Int32) < 0 ∨ cl8.slots.size ≤ ((0 : Int32)).toNatClampNeg) := inb_of S8 ⟨by decide, by decide⟩
    have hat8 : cl8.slots[((0 : Int32)).toNatClampNeg]? = some (.long (own_pk p2 q2)) := Has.at Hs8 hin8 rfl
    refine Go.pull (V := T6.setTop (mkF m 50 #[rv a, rv rn_3, rv b6, iv 0, rv rn_3, iv 2, iv 0, .unset, .unset, .unset, .unset] [(.long (own_pk p2 q2))])) (fun t k => X6.laload hx (j := (0 : Int32)) (v := (.long (own_pk p2 q2))) (by rw [e6]; exact Ar8.1) (State.isArrayOf_alike hZ.alike Ar8.2.1) Ar8.2.2 hin8 hat8 (g := (mkF m 49 #[rv a, rv rn_3, rv b6, iv 0, rv rn_3, iv 2, iv 0, .unset, .unset, .unset, .unset] [(.int 0), (.ref rn_3)])) rfl rfl (hb hby dBB_49) _ k) ?_
    refine Go.pull (V := T6.setTop (mkF m 52 #[rv a, rv rn_3, rv b6, iv 0, rv rn_3, iv 2, iv 0, .val (.long (own_pk p2 q2)), .second, .unset, .unset] [])) (fun t k => XS.lstore X6.here hx rfl (hb hby dBB_50) rfl (l' := #[rv a, rv rn_3, rv b6, iv 0, rv rn_3, iv 2, iv 0, .val (.long (own_pk p2 q2)), .second, .unset, .unset]) rfl k) ?_
    refine Go.pull (V := T6.setTop (mkF m 54 #[rv a, rv rn_3, rv b6, iv 0, rv rn_3, iv 2, iv 0, .val (.long (own_pk p2 q2)), .second, .unset, .unset] [(.long (own_pk p2 q2))])) (fun t k => XS.lload X6.here hx rfl (hb hby dBB_52) rfl  k) ?_
    refine Go.pull (V := T6.setTop (mkF m 56 #[rv a, rv rn_3, rv b6, iv 0, rv rn_3, iv 2, iv 0, .val (.long (own_pk p2 q2)), .second, .unset, .unset] [(.int 32), (.long (own_pk p2 q2))])) (fun t k => XS.bipush X6.here hx rfl (hb hby dBB_54) k) ?_
    refine Go.pull (V := T6.setTop (mkF m 57 #[rv a, rv rn_3, rv b6, iv 0, rv rn_3, iv 2, iv 0, .val (.long (own_pk p2 q2)), .second, .unset, .unset] [(.long (((own_pk p2 q2).toUInt64 >>> ((32 : Int32) &&& 0x3f).toInt64.toUInt64).toInt64))])) (fun t k => XS.lushr X6.here hx rfl (hb hby dBB_56) rfl k) ?_
    refine Go.pull (V := T6.setTop (mkF m 58 #[rv a, rv rn_3, rv b6, iv 0, rv rn_3, iv 2, iv 0, .val (.long (own_pk p2 q2)), .second, .unset, .unset] [(.int ((((own_pk p2 q2).toUInt64 >>> ((32 : Int32) &&& 0x3f).toInt64.toUInt64).toInt64).toInt32))])) (fun t k => XS.l2i X6.here hx rfl (hb hby dBB_57) rfl k) ?_
    refine Go.pull (V := T6.setTop (mkF m 60 #[rv a, rv rn_3, rv b6, iv 0, rv rn_3, iv 2, iv 0, .val (.long (own_pk p2 q2)), .second, iv ((((own_pk p2 q2).toUInt64 >>> ((32 : Int32) &&& 0x3f).toInt64.toUInt64).toInt64).toInt32), .unset] [])) (fun t k => XS.istore X6.here hx rfl (hb hby dBB_58) rfl (l' := #[rv a, rv rn_3, rv b6, iv 0, rv rn_3, iv 2, iv 0, .val (.long (own_pk p2 q2)), .second, iv ((((own_pk p2 q2).toUInt64 >>> ((32 : Int32) &&& 0x3f).toInt64.toUInt64).toInt64).toInt32), .unset]) rfl k) ?_
    rw [show ((((own_pk p2 q2).toUInt64 >>> ((32 : Int32) &&& 0x3f).toInt64.toUInt64).toInt64).toInt32) = p2 from own_hi hr2]
    refine Go.pull (V := T6.setTop (mkF m 62 #[rv a, rv rn_3, rv b6, iv 0, rv rn_3, iv 2, iv 0, .val (.long (own_pk p2 q2)), .second, iv p2, .unset] [(.long (own_pk p2 q2))])) (fun t k => XS.lload X6.here hx rfl (hb hby dBB_60) rfl  k) ?_
    refine Go.pull (V := T6.setTop (mkF m 63 #[rv a, rv rn_3, rv b6, iv 0, rv rn_3, iv 2, iv 0, .val (.long (own_pk p2 q2)), .second, iv p2, .unset] [(.int ((own_pk p2 q2).toInt32))])) (fun t k => XS.l2i X6.here hx rfl (hb hby dBB_62) rfl k) ?_
    refine Go.pull (V := T6.setTop (mkF m 65 #[rv a, rv rn_3, rv b6, iv 0, rv rn_3, iv 2, iv 0, .val (.long (own_pk p2 q2)), .second, iv p2, iv ((own_pk p2 q2).toInt32)] [])) (fun t k => XS.istore X6.here hx rfl (hb hby dBB_63) rfl (l' := #[rv a, rv rn_3, rv b6, iv 0, rv rn_3, iv 2, iv 0, .val (.long (own_pk p2 q2)), .second, iv p2, iv ((own_pk p2 q2).toInt32)]) rfl k) ?_
    rw [show ((own_pk p2 q2).toInt32) = q2 from own_lo hr2]
    refine Go.pull (V := T6.setTop (mkF m 66 #[rv a, rv rn_3, rv b6, iv 0, rv rn_3, iv 2, iv 0, .val (.long (own_pk p2 q2)), .second, iv p2, iv q2] [(.int 0)])) (fun t k => XS.iloadN X6.here hx rfl (hb hby dBB_65) rfl  k) ?_
    refine Go.pull (V := T6.setTop (mkF m 99 #[rv a, rv rn_3, rv b6, iv 0, rv rn_3, iv 2, iv 0, .val (.long (own_pk p2 q2)), .second, iv p2, iv q2] [])) (fun t k => XS.ifYes X6.here hx rfl (pc0 := 66) (pc' := 99) rfl (hb hby dBB_66) rfl (XT.i0_le_t (by decide)) (by decide) (by decide) k) ?_
    refine Go.pull (V := T6.setTop (mkF m 100 #[rv a, rv rn_3, rv b6, iv 0, rv rn_3, iv 2, iv 0, .val (.long (own_pk p2 q2)), .second, iv p2, iv q2] [(.ref b6)])) (fun t k => XS.aloadN X6.here hx rfl (hb hby dBB_99) rfl rfl k) ?_
    refine Go.pull (V := T6.setTop (mkF m 101 #[rv a, rv rn_3, rv b6, iv 0, rv rn_3, iv 2, iv 0, .val (.long (own_pk p2 q2)), .second, iv p2, iv q2] [(.int 0), (.ref b6)])) (fun t k => XS.iloadN X6.here hx rfl (hb hby dBB_100) rfl  k) ?_
    refine Go.pull (V := T6.setTop (mkF m 104 #[rv a, rv rn_3, rv b6, iv 1, rv rn_3, iv 2, iv 0, .val (.long (own_pk p2 q2)), .second, iv p2, iv q2] [(.int 0), (.ref b6)])) (fun t k => XS.iinc X6.here hx rfl (hb hby dBB_101) rfl (l' := #[rv a, rv rn_3, rv b6, iv 1, rv rn_3, iv 2, iv 0, .val (.long (own_pk p2 q2)), .second, iv p2, iv q2]) rfl k) ?_
    refine Go.pull (V := T6.setTop (mkF m 106 #[rv a, rv rn_3, rv b6, iv 1, rv rn_3, iv 2, iv 0, .val (.long (own_pk p2 q2)), .second, iv p2, iv q2] [(.int p2), (.int 0), (.ref b6)])) (fun t k => XS.iload X6.here hx rfl (hb hby dBB_104) rfl  k) ?_
    obtain ⟨cl9, Ar9, q9, S9, M9, Hs9, G9⟩ := id V6
    have hin9 : ¬ ((0 : Int32) < 0 ∨ cl9.slots.size ≤ ((0 : Int32)).toNatClampNeg) := inb_of S9 ⟨by decide, by decide⟩
    obtain ⟨T10, h10, X10, e10, W10, st10⟩ := stI X6 hx hZ e6 Ar9 (j := (0 : Int32)) hin9 (g := (mkF m 106 #[rv a, rv rn_3, rv b6, iv 1, rv rn_3, iv 2, iv 0, .val (.long (own_pk p2 q2)), .second, iv p2, iv q2] [(.int p2), (.int 0), (.ref b6)])) rfl rfl (hb hby dBB_106)
    have V10 : Arv Z h10 b6 k6 .int (4 : Int32) [(.int p2), (.int 0), (.int 0), (.int 0)] (.int 0) := Arv.set Ar9 q9 S9 M9 Hs9 G9 rfl W10 0 rfl (Nat.le_of_ble_eq_true rfl)
    have K10 : Keep h0 h10 [] := K6.wr W10 (Or.inr sz_b6)
    have N10 := Fr.snoc X10 N4 g_b6
    refine Go.pull (V := T10.setTop (mkF m 107 #[rv a, rv rn_3, rv b6, iv 1, rv rn_3, iv 2, iv 0, .val (.long (own_pk p2 q2)), .second, iv p2, iv q2] [])) st10 ?_
    refine Go.pull (V := T10.setTop (mkF m 108 #[rv a, rv rn_3, rv b6, iv 1, rv rn_3, iv 2, iv 0, .val (.long (own_pk p2 q2)), .second, iv p2, iv q2] [(.ref b6)])) (fun t k => XS.aloadN X10.here hx rfl (hb hby dBB_107) rfl rfl k) ?_
    refine Go.pull (V := T10.setTop (mkF m 109 #[rv a, rv rn_3, rv b6, iv 1, rv rn_3, iv 2, iv 0, .val (.long (own_pk p2 q2)), .second, iv p2, iv q2] [(.int 1), (.ref b6)])) (fun t k => XS.iloadN X10.here hx rfl (hb hby dBB_108) rfl  k) ?_
    refine Go.pull (V := T10.setTop (mkF m 112 #[rv a, rv rn_3, rv b6, iv 2, rv rn_3, iv 2, iv 0, .val (.long (own_pk p2 q2)), .second, iv p2, iv q2] [(.int 1), (.ref b6)])) (fun t k => XS.iinc X10.here hx rfl (hb hby dBB_109) rfl (l' := #[rv a, rv rn_3, rv b6, iv 2, rv rn_3, iv 2, iv 0, .val (.long (own_pk p2 q2)), .second, iv p2, iv q2]) rfl k) ?_
    refine Go.pull (V := T10.setTop (mkF m 114 #[rv a, rv rn_3, rv b6, iv 2, rv rn_3, iv 2, iv 0, .val (.long (own_pk p2 q2)), .second, iv p2, iv q2] [(.int q2), (.int 1), (.ref b6)])) (fun t k => XS.iload X10.here hx rfl (hb hby dBB_112) rfl  k) ?_
    obtain ⟨cl11, Ar11, q11, S11, M11, Hs11, G11⟩ := id V10
    have hin11 : ¬ ((1 : Int32) < 0 ∨ cl11.slots.size ≤ ((1 : Int32)).toNatClampNeg) := inb_of S11 ⟨by decide, by decide⟩
    obtain ⟨T12, h12, X12, e12, W12, st12⟩ := stI X10 hx hZ e10 Ar11 (j := (1 : Int32)) hin11 (g := (mkF m 114 #[rv a, rv rn_3, rv b6, iv 2, rv rn_3, iv 2, iv 0, .val (.long (own_pk p2 q2)), .second, iv p2, iv q2] [(.int q2), (.int 1), (.ref b6)])) rfl rfl (hb hby dBB_114)
    have V12 : Arv Z h12 b6 k6 .int (4 : Int32) [(.int p2), (.int q2), (.int 0), (.int 0)] (.int 0) := Arv.set Ar11 q11 S11 M11 Hs11 G11 rfl W12 1 rfl (Nat.le_of_ble_eq_true rfl)
    have K12 : Keep h0 h12 [] := K10.wr W12 (Or.inr sz_b6)
    have N12 := Fr.snoc X12 N10 g_b6
    refine Go.pull (V := T12.setTop (mkF m 115 #[rv a, rv rn_3, rv b6, iv 2, rv rn_3, iv 2, iv 0, .val (.long (own_pk p2 q2)), .second, iv p2, iv q2] [])) st12 ?_
    refine Go.pull (V := T12.setTop (mkF m 118 #[rv a, rv rn_3, rv b6, iv 2, rv rn_3, iv 2, iv 1, .val (.long (own_pk p2 q2)), .second, iv p2, iv q2] [])) (fun t k => XS.iinc X12.here hx rfl (hb hby dBB_115) rfl (l' := #[rv a, rv rn_3, rv b6, iv 2, rv rn_3, iv 2, iv 1, .val (.long (own_pk p2 q2)), .second, iv p2, iv q2]) rfl k) ?_
    refine Go.pull (V := T12.setTop (mkF m 38 #[rv a, rv rn_3, rv b6, iv 2, rv rn_3, iv 2, iv 1, .val (.long (own_pk p2 q2)), .second, iv p2, iv q2] [])) (fun t k => XS.goto X12.here hx rfl (pc0 := 118) (pc' := 38) rfl (hb hby dBB_118) (by decide) (by decide) k) ?_
    refine Go.pull (V := T12.setTop (mkF m 40 #[rv a, rv rn_3, rv b6, iv 2, rv rn_3, iv 2, iv 1, .val (.long (own_pk p2 q2)), .second, iv p2, iv q2] [(.int 1)])) (fun t k => XS.iload X12.here hx rfl (hb hby dBB_38) rfl  k) ?_
    refine Go.pull (V := T12.setTop (mkF m 42 #[rv a, rv rn_3, rv b6, iv 2, rv rn_3, iv 2, iv 1, .val (.long (own_pk p2 q2)), .second, iv p2, iv q2] [(.int 2), (.int 1)])) (fun t k => XS.iload X12.here hx rfl (hb hby dBB_40) rfl  k) ?_
    refine Go.pull (V := T12.setTop (mkF m 45 #[rv a, rv rn_3, rv b6, iv 2, rv rn_3, iv 2, iv 1, .val (.long (own_pk p2 q2)), .second, iv p2, iv q2] [])) (fun t k => XS.icmpNo X12.here hx rfl (hb hby dBB_42) rfl (XT.ii_ge_f (by decide)) k) ?_
    refine Go.pull (V := T12.setTop (mkF m 47 #[rv a, rv rn_3, rv b6, iv 2, rv rn_3, iv 2, iv 1, .val (.long (own_pk p2 q2)), .second, iv p2, iv q2] [(.ref rn_3)])) (fun t k => XS.aload X12.here hx rfl (hb hby dBB_45) rfl rfl k) ?_
    refine Go.pull (V := T12.setTop (mkF m 49 #[rv a, rv rn_3, rv b6, iv 2, rv rn_3, iv 2, iv 1, .val (.long (own_pk p2 q2)), .second, iv p2, iv q2] [(.int 1), (.ref rn_3)])) (fun t k => XS.iload X12.here hx rfl (hb hby dBB_47) rfl  k) ?_
    obtain ⟨cl13, Ar13, q13, S13, M13, Hs13, G13⟩ := id (((Fc4_0.ext E6).other W10 (ne_rn_3_b6)).other W12 (ne_rn_3_b6))
    have hin13 : ¬ ((1 : Int32) < 0 ∨ cl13.slots.size ≤ ((1 : Int32)).toNatClampNeg) := inb_of S13 ⟨by decide, by decide⟩
    have hat13 : cl13.slots[((1 : Int32)).toNatClampNeg]? = some (.long (own_pk p1 q1)) := Has.at Hs13 hin13 rfl
    refine Go.pull (V := T12.setTop (mkF m 50 #[rv a, rv rn_3, rv b6, iv 2, rv rn_3, iv 2, iv 1, .val (.long (own_pk p2 q2)), .second, iv p2, iv q2] [(.long (own_pk p1 q1))])) (fun t k => X12.laload hx (j := (1 : Int32)) (v := (.long (own_pk p1 q1))) (by rw [e12]; exact Ar13.1) (State.isArrayOf_alike hZ.alike Ar13.2.1) Ar13.2.2 hin13 hat13 (g := (mkF m 49 #[rv a, rv rn_3, rv b6, iv 2, rv rn_3, iv 2, iv 1, .val (.long (own_pk p2 q2)), .second, iv p2, iv q2] [(.int 1), (.ref rn_3)])) rfl rfl (hb hby dBB_49) _ k) ?_
    refine Go.pull (V := T12.setTop (mkF m 52 #[rv a, rv rn_3, rv b6, iv 2, rv rn_3, iv 2, iv 1, .val (.long (own_pk p1 q1)), .second, iv p2, iv q2] [])) (fun t k => XS.lstore X12.here hx rfl (hb hby dBB_50) rfl (l' := #[rv a, rv rn_3, rv b6, iv 2, rv rn_3, iv 2, iv 1, .val (.long (own_pk p1 q1)), .second, iv p2, iv q2]) rfl k) ?_
    refine Go.pull (V := T12.setTop (mkF m 54 #[rv a, rv rn_3, rv b6, iv 2, rv rn_3, iv 2, iv 1, .val (.long (own_pk p1 q1)), .second, iv p2, iv q2] [(.long (own_pk p1 q1))])) (fun t k => XS.lload X12.here hx rfl (hb hby dBB_52) rfl  k) ?_
    refine Go.pull (V := T12.setTop (mkF m 56 #[rv a, rv rn_3, rv b6, iv 2, rv rn_3, iv 2, iv 1, .val (.long (own_pk p1 q1)), .second, iv p2, iv q2] [(.int 32), (.long (own_pk p1 q1))])) (fun t k => XS.bipush X12.here hx rfl (hb hby dBB_54) k) ?_
    refine Go.pull (V := T12.setTop (mkF m 57 #[rv a, rv rn_3, rv b6, iv 2, rv rn_3, iv 2, iv 1, .val (.long (own_pk p1 q1)), .second, iv p2, iv q2] [(.long (((own_pk p1 q1).toUInt64 >>> ((32 : Int32) &&& 0x3f).toInt64.toUInt64).toInt64))])) (fun t k => XS.lushr X12.here hx rfl (hb hby dBB_56) rfl k) ?_
    refine Go.pull (V := T12.setTop (mkF m 58 #[rv a, rv rn_3, rv b6, iv 2, rv rn_3, iv 2, iv 1, .val (.long (own_pk p1 q1)), .second, iv p2, iv q2] [(.int ((((own_pk p1 q1).toUInt64 >>> ((32 : Int32) &&& 0x3f).toInt64.toUInt64).toInt64).toInt32))])) (fun t k => XS.l2i X12.here hx rfl (hb hby dBB_57) rfl k) ?_
    refine Go.pull (V := T12.setTop (mkF m 60 #[rv a, rv rn_3, rv b6, iv 2, rv rn_3, iv 2, iv 1, .val (.long (own_pk p1 q1)), .second, iv ((((own_pk p1 q1).toUInt64 >>> ((32 : Int32) &&& 0x3f).toInt64.toUInt64).toInt64).toInt32), iv q2] [])) (fun t k => XS.istore X12.here hx rfl (hb hby dBB_58) rfl (l' := #[rv a, rv rn_3, rv b6, iv 2, rv rn_3, iv 2, iv 1, .val (.long (own_pk p1 q1)), .second, iv ((((own_pk p1 q1).toUInt64 >>> ((32 : Int32) &&& 0x3f).toInt64.toUInt64).toInt64).toInt32), iv q2]) rfl k) ?_
    rw [show ((((own_pk p1 q1).toUInt64 >>> ((32 : Int32) &&& 0x3f).toInt64.toUInt64).toInt64).toInt32) = p1 from own_hi hr1]
    refine Go.pull (V := T12.setTop (mkF m 62 #[rv a, rv rn_3, rv b6, iv 2, rv rn_3, iv 2, iv 1, .val (.long (own_pk p1 q1)), .second, iv p1, iv q2] [(.long (own_pk p1 q1))])) (fun t k => XS.lload X12.here hx rfl (hb hby dBB_60) rfl  k) ?_
    refine Go.pull (V := T12.setTop (mkF m 63 #[rv a, rv rn_3, rv b6, iv 2, rv rn_3, iv 2, iv 1, .val (.long (own_pk p1 q1)), .second, iv p1, iv q2] [(.int ((own_pk p1 q1).toInt32))])) (fun t k => XS.l2i X12.here hx rfl (hb hby dBB_62) rfl k) ?_
    refine Go.pull (V := T12.setTop (mkF m 65 #[rv a, rv rn_3, rv b6, iv 2, rv rn_3, iv 2, iv 1, .val (.long (own_pk p1 q1)), .second, iv p1, iv ((own_pk p1 q1).toInt32)] [])) (fun t k => XS.istore X12.here hx rfl (hb hby dBB_63) rfl (l' := #[rv a, rv rn_3, rv b6, iv 2, rv rn_3, iv 2, iv 1, .val (.long (own_pk p1 q1)), .second, iv p1, iv ((own_pk p1 q1).toInt32)]) rfl k) ?_
    rw [show ((own_pk p1 q1).toInt32) = q1 from own_lo hr1]
    refine Go.pull (V := T12.setTop (mkF m 66 #[rv a, rv rn_3, rv b6, iv 2, rv rn_3, iv 2, iv 1, .val (.long (own_pk p1 q1)), .second, iv p1, iv q1] [(.int 2)])) (fun t k => XS.iloadN X12.here hx rfl (hb hby dBB_65) rfl  k) ?_
    refine Go.pull (V := T12.setTop (mkF m 69 #[rv a, rv rn_3, rv b6, iv 2, rv rn_3, iv 2, iv 1, .val (.long (own_pk p1 q1)), .second, iv p1, iv q1] [])) (fun t k => XS.ifNo X12.here hx rfl (hb hby dBB_66) rfl (XT.i0_le_f (by decide)) k) ?_
    refine Go.pull (V := T12.setTop (mkF m 71 #[rv a, rv rn_3, rv b6, iv 2, rv rn_3, iv 2, iv 1, .val (.long (own_pk p1 q1)), .second, iv p1, iv q1] [(.int p1)])) (fun t k => XS.iload X12.here hx rfl (hb hby dBB_69) rfl  k) ?_
    refine Go.pull (V := T12.setTop (mkF m 72 #[rv a, rv rn_3, rv b6, iv 2, rv rn_3, iv 2, iv 1, .val (.long (own_pk p1 q1)), .second, iv p1, iv q1] [(.ref b6), (.int p1)])) (fun t k => XS.aloadN X12.here hx rfl (hb hby dBB_71) rfl rfl k) ?_
    refine Go.pull (V := T12.setTop (mkF m 73 #[rv a, rv rn_3, rv b6, iv 2, rv rn_3, iv 2, iv 1, .val (.long (own_pk p1 q1)), .second, iv p1, iv q1] [(.int 2), (.ref b6), (.int p1)])) (fun t k => XS.iloadN X12.here hx rfl (hb hby dBB_72) rfl  k) ?_
    refine Go.pull (V := T12.setTop (mkF m 74 #[rv a, rv rn_3, rv b6, iv 2, rv rn_3, iv 2, iv 1, .val (.long (own_pk p1 q1)), .second, iv p1, iv q1] [(.int 1), (.int 2), (.ref b6), (.int p1)])) (fun t k => XS.iconst X12.here hx rfl (hb hby dBB_73) k) ?_
    refine Go.pull (V := T12.setTop (mkF m 75 #[rv a, rv rn_3, rv b6, iv 2, rv rn_3, iv 2, iv 1, .val (.long (own_pk p1 q1)), .second, iv p1, iv q1] [(.int 1), (.ref b6), (.int p1)])) (fun t k => XS.isub X12.here hx rfl (hb hby dBB_74) rfl k) ?_
    obtain ⟨cl14, Ar14, q14, S14, M14, Hs14, G14⟩ := id V12
    have hin14 : ¬ ((1 : Int32) < 0 ∨ cl14.slots.size ≤ ((1 : Int32)).toNatClampNeg) := inb_of S14 ⟨by decide, by decide⟩
    have hat14 : cl14.slots[((1 : Int32)).toNatClampNeg]? = some (.int q2) := Has.at Hs14 hin14 rfl
    refine Go.pull (V := T12.setTop (mkF m 76 #[rv a, rv rn_3, rv b6, iv 2, rv rn_3, iv 2, iv 1, .val (.long (own_pk p1 q1)), .second, iv p1, iv q1] [(.int q2), (.int p1)])) (fun t k => X12.iaload hx (j := (1 : Int32)) (v := (.int q2)) (by rw [e12]; exact Ar14.1) (State.isArrayOf_alike hZ.alike Ar14.2.1) Ar14.2.2 hin14 hat14 (g := (mkF m 75 #[rv a, rv rn_3, rv b6, iv 2, rv rn_3, iv 2, iv 1, .val (.long (own_pk p1 q1)), .second, iv p1, iv q1] [(.int 1), (.ref b6), (.int p1)])) rfl rfl (hb hby dBB_75) _ k) ?_
    refine Go.pull (V := T12.setTop (mkF m 77 #[rv a, rv rn_3, rv b6, iv 2, rv rn_3, iv 2, iv 1, .val (.long (own_pk p1 q1)), .second, iv p1, iv q1] [(.int 1), (.int q2), (.int p1)])) (fun t k => XS.iconst X12.here hx rfl (hb hby dBB_76) k) ?_
    refine Go.pull (V := T12.setTop (mkF m 78 #[rv a, rv rn_3, rv b6, iv 2, rv rn_3, iv 2, iv 1, .val (.long (own_pk p1 q1)), .second, iv p1, iv q1] [(.int (q2 + (1 : Int32))), (.int p1)])) (fun t k => XS.iadd X12.here hx rfl (hb hby dBB_77) rfl k) ?_
    by_cases hc78_15 : (q2 + (1 : Int32)) < p1
    · skip
      refine Go.pull (V := T12.setTop (mkF m 99 #[rv a, rv rn_3, rv b6, iv 2, rv rn_3, iv 2, iv 1, .val (.long (own_pk p1 q1)), .second, iv p1, iv q1] [])) (fun t k => XS.icmpYes X12.here hx rfl (pc0 := 78) (pc' := 99) rfl (hb hby dBB_78) rfl (XT.ii_gt_t hc78_15) (by decide) (by decide) k) ?_
      refine Go.pull (V := T12.setTop (mkF m 100 #[rv a, rv rn_3, rv b6, iv 2, rv rn_3, iv 2, iv 1, .val (.long (own_pk p1 q1)), .second, iv p1, iv q1] [(.ref b6)])) (fun t k => XS.aloadN X12.here hx rfl (hb hby dBB_99) rfl rfl k) ?_
      refine Go.pull (V := T12.setTop (mkF m 101 #[rv a, rv rn_3, rv b6, iv 2, rv rn_3, iv 2, iv 1, .val (.long (own_pk p1 q1)), .second, iv p1, iv q1] [(.int 2), (.ref b6)])) (fun t k => XS.iloadN X12.here hx rfl (hb hby dBB_100) rfl  k) ?_
      refine Go.pull (V := T12.setTop (mkF m 104 #[rv a, rv rn_3, rv b6, iv 3, rv rn_3, iv 2, iv 1, .val (.long (own_pk p1 q1)), .second, iv p1, iv q1] [(.int 2), (.ref b6)])) (fun t k => XS.iinc X12.here hx rfl (hb hby dBB_101) rfl (l' := #[rv a, rv rn_3, rv b6, iv 3, rv rn_3, iv 2, iv 1, .val (.long (own_pk p1 q1)), .second, iv p1, iv q1]) rfl k) ?_
      refine Go.pull (V := T12.setTop (mkF m 106 #[rv a, rv rn_3, rv b6, iv 3, rv rn_3, iv 2, iv 1, .val (.long (own_pk p1 q1)), .second, iv p1, iv q1] [(.int p1), (.int 2), (.ref b6)])) (fun t k => XS.iload X12.here hx rfl (hb hby dBB_104) rfl  k) ?_
      obtain ⟨cl16, Ar16, q16, S16, M16, Hs16, G16⟩ := id V12
      have hin16 : ¬ ((2 : Int32) < 0 ∨ cl16.slots.size ≤ ((2 : Int32)).toNatClampNeg) := inb_of S16 ⟨by decide, by decide⟩
      obtain ⟨T17, h17, X17, e17, W17, st17⟩ := stI X12 hx hZ e12 Ar16 (j := (2 : Int32)) hin16 (g := (mkF m 106 #[rv a, rv rn_3, rv b6, iv 3, rv rn_3, iv 2, iv 1, .val (.long (own_pk p1 q1)), .second, iv p1, iv q1] [(.int p1), (.int 2), (.ref b6)])) rfl rfl (hb hby dBB_106)
      have V17 : Arv Z h17 b6 k6 .int (4 : Int32) [(.int p2), (.int q2), (.int p1), (.int 0)] (.int 0) := Arv.set Ar16 q16 S16 M16 Hs16 G16 rfl W17 2 rfl (Nat.le_of_ble_eq_true rfl)
      have K17 : Keep h0 h17 [] := K12.wr W17 (Or.inr sz_b6)
      have N17 := Fr.snoc X17 N12 g_b6
      refine Go.pull (V := T17.setTop (mkF m 107 #[rv a, rv rn_3, rv b6, iv 3, rv rn_3, iv 2, iv 1, .val (.long (own_pk p1 q1)), .second, iv p1, iv q1] [])) st17 ?_
      refine Go.pull (V := T17.setTop (mkF m 108 #[rv a, rv rn_3, rv b6, iv 3, rv rn_3, iv 2, iv 1, .val (.long (own_pk p1 q1)), .second, iv p1, iv q1] [(.ref b6)])) (fun t k => XS.aloadN X17.here hx rfl (hb hby dBB_107) rfl rfl k) ?_
      refine Go.pull (V := T17.setTop (mkF m 109 #[rv a, rv rn_3, rv b6, iv 3, rv rn_3, iv 2, iv 1, .val (.long (own_pk p1 q1)), .second, iv p1, iv q1] [(.int 3), (.ref b6)])) (fun t k => XS.iloadN X17.here hx rfl (hb hby dBB_108) rfl  k) ?_
      refine Go.pull (V := T17.setTop (mkF m 112 #[rv a, rv rn_3, rv b6, iv 4, rv rn_3, iv 2, iv 1, .val (.long (own_pk p1 q1)), .second, iv p1, iv q1] [(.int 3), (.ref b6)])) (fun t k => XS.iinc X17.here hx rfl (hb hby dBB_109) rfl (l' := #[rv a, rv rn_3, rv b6, iv 4, rv rn_3, iv 2, iv 1, .val (.long (own_pk p1 q1)), .second, iv p1, iv q1]) rfl k) ?_
      refine Go.pull (V := T17.setTop (mkF m 114 #[rv a, rv rn_3, rv b6, iv 4, rv rn_3, iv 2, iv 1, .val (.long (own_pk p1 q1)), .second, iv p1, iv q1] [(.int q1), (.int 3), (.ref b6)])) (fun t k => XS.iload X17.here hx rfl (hb hby dBB_112) rfl  k) ?_
      obtain ⟨cl18, Ar18, q18, S18, M18, Hs18, G18⟩ := id V17
      have hin18 : ¬ ((3 : Int32) < 0 ∨ cl18.slots.size ≤ ((3 : Int32)).toNatClampNeg) := inb_of S18 ⟨by decide, by decide⟩
      obtain ⟨T19, h19, X19, e19, W19, st19⟩ := stI X17 hx hZ e17 Ar18 (j := (3 : Int32)) hin18 (g := (mkF m 114 #[rv a, rv rn_3, rv b6, iv 4, rv rn_3, iv 2, iv 1, .val (.long (own_pk p1 q1)), .second, iv p1, iv q1] [(.int q1), (.int 3), (.ref b6)])) rfl rfl (hb hby dBB_114)
      have V19 : Arv Z h19 b6 k6 .int (4 : Int32) [(.int p2), (.int q2), (.int p1), (.int q1)] (.int 0) := Arv.set Ar18 q18 S18 M18 Hs18 G18 rfl W19 3 rfl (Nat.le_of_ble_eq_true rfl)
      have K19 : Keep h0 h19 [] := K17.wr W19 (Or.inr sz_b6)
      have N19 := Fr.snoc X19 N17 g_b6
      refine Go.pull (V := T19.setTop (mkF m 115 #[rv a, rv rn_3, rv b6, iv 4, rv rn_3, iv 2, iv 1, .val (.long (own_pk p1 q1)), .second, iv p1, iv q1] [])) st19 ?_
      refine Go.pull (V := T19.setTop (mkF m 118 #[rv a, rv rn_3, rv b6, iv 4, rv rn_3, iv 2, iv 2, .val (.long (own_pk p1 q1)), .second, iv p1, iv q1] [])) (fun t k => XS.iinc X19.here hx rfl (hb hby dBB_115) rfl (l' := #[rv a, rv rn_3, rv b6, iv 4, rv rn_3, iv 2, iv 2, .val (.long (own_pk p1 q1)), .second, iv p1, iv q1]) rfl k) ?_
      refine Go.pull (V := T19.setTop (mkF m 38 #[rv a, rv rn_3, rv b6, iv 4, rv rn_3, iv 2, iv 2, .val (.long (own_pk p1 q1)), .second, iv p1, iv q1] [])) (fun t k => XS.goto X19.here hx rfl (pc0 := 118) (pc' := 38) rfl (hb hby dBB_118) (by decide) (by decide) k) ?_
      refine Go.pull (V := T19.setTop (mkF m 40 #[rv a, rv rn_3, rv b6, iv 4, rv rn_3, iv 2, iv 2, .val (.long (own_pk p1 q1)), .second, iv p1, iv q1] [(.int 2)])) (fun t k => XS.iload X19.here hx rfl (hb hby dBB_38) rfl  k) ?_
      refine Go.pull (V := T19.setTop (mkF m 42 #[rv a, rv rn_3, rv b6, iv 4, rv rn_3, iv 2, iv 2, .val (.long (own_pk p1 q1)), .second, iv p1, iv q1] [(.int 2), (.int 2)])) (fun t k => XS.iload X19.here hx rfl (hb hby dBB_40) rfl  k) ?_
      refine Go.pull (V := T19.setTop (mkF m 121 #[rv a, rv rn_3, rv b6, iv 4, rv rn_3, iv 2, iv 2, .val (.long (own_pk p1 q1)), .second, iv p1, iv q1] [])) (fun t k => XS.icmpYes X19.here hx rfl (pc0 := 42) (pc' := 121) rfl (hb hby dBB_42) rfl (XT.ii_ge_t (by decide)) (by decide) (by decide) k) ?_
      obtain ⟨T20, h20, X20, e20, E20, A20, D20, -, st20⟩ := newO X19 hx hZ hown (hw _ (List.mem_of_getElem? (i := 62) rfl)) (hw _ (List.mem_of_getElem? (i := 63) rfl)) (hw _ (List.mem_of_getElem? (i := 64) rfl)) e19 (g := (mkF m 121 #[rv a, rv rn_3, rv b6, iv 4, rv rn_3, iv 2, iv 2, .val (.long (own_pk p1 q1)), .second, iv p1, iv q1] [])) rfl (hb hby dBB_121) (by decide) (by decide)
      obtain ⟨b20, g20⟩ : ∃ z, z = h19.size := ⟨_, rfl⟩
      rw [← g20] at A20 D20 st20
      have ne_a_b20 : a ≠ b20 := Nat.ne_of_lt (Nat.lt_of_lt_of_le (((((((Fr'.keep Kc3 nin0).keep Kc4 (ninS (ne_a_rn_3) nin0)).ext E6).other W10 (Or.inl (ne_a_b6))).other W12 (Or.inl (ne_a_b6))).other W17 (Or.inl (ne_a_b6))).other W19 (Or.inl (ne_a_b6))).lt (Nat.le_of_eq g20.symm))
      have ne_ra_b20 : ra ≠ b20 := Nat.ne_of_lt (Nat.lt_of_lt_of_le (((((((Vr.keep Kc3 nin0).keep Kc4 (ninS (ne_ra_rn_3) nin0)).ext E6).other W10 (ne_ra_b6)).other W12 (ne_ra_b6)).other W17 (ne_ra_b6)).other W19 (ne_ra_b6)).lt (Nat.le_of_eq g20.symm))
      have ne_rn_3_b20 : rn_3 ≠ b20 := Nat.ne_of_lt (Nat.lt_of_lt_of_le (((((Fc4_0.ext E6).other W10 (ne_rn_3_b6)).other W12 (ne_rn_3_b6)).other W17 (ne_rn_3_b6)).other W19 (ne_rn_3_b6)).lt (Nat.le_of_eq g20.symm))
      have ne_b6_b20 : b6 ≠ b20 := Nat.ne_of_lt (Nat.lt_of_lt_of_le V19.lt (Nat.le_of_eq g20.symm))
      have sz_b20 : h0.size ≤ b20 := Nat.le_trans (K19).1 (Nat.le_of_eq g20.symm)
      have g_b20 : n0 ≤ b20 := Nat.le_trans Z0 sz_b20
      have K20 : Keep h0 h20 [] := K19.ext E20
      have F21 : Fld Z h20 b20 "com/example/salish/salish/regex/CodePointSet" "bounds" "[I" .null := D20 (Or.inr (hw _ (List.mem_of_getElem? (i := 73) rfl))) (ty := (.array .int)) (by decide)
      refine Go.pull (V := T20.setTop (mkF m 124 #[rv a, rv rn_3, rv b6, iv 4, rv rn_3, iv 2, iv 2, .val (.long (own_pk p1 q1)), .second, iv p1, iv q1] [(.ref b20)])) st20 ?_
      refine Go.pull (V := T20.setTop (mkF m 125 #[rv a, rv rn_3, rv b6, iv 4, rv rn_3, iv 2, iv 2, .val (.long (own_pk p1 q1)), .second, iv p1, iv q1] [(.ref b20), (.ref b20)])) (fun t k => XS.dup X20.here hx rfl (hb hby dBB_124) rfl rfl k) ?_
      refine Go.pull (V := T20.setTop (mkF m 126 #[rv a, rv rn_3, rv b6, iv 4, rv rn_3, iv 2, iv 2, .val (.long (own_pk p1 q1)), .second, iv p1, iv q1] [(.ref b6), (.ref b20), (.ref b20)])) (fun t k => XS.aloadN X20.here hx rfl (hb hby dBB_125) rfl rfl k) ?_
      refine Go.pull (V := T20.setTop (mkF m 127 #[rv a, rv rn_3, rv b6, iv 4, rv rn_3, iv 2, iv 2, .val (.long (own_pk p1 q1)), .second, iv p1, iv q1] [(.int 4), (.ref b6), (.ref b20), (.ref b20)])) (fun t k => XS.iloadN X20.here hx rfl (hb hby dBB_126) rfl  k) ?_
      obtain ⟨_, _, ⟨T22, L22, k22, n22⟩, -, X22, ⟨Lc22, hQ22, l22, y22, z22⟩, st22⟩ := Jvm.LawKit.callS X20 hx (y := (⟨"java/util/Arrays", "copyOf", "([II)[I"⟩ : MethodName)) hown (mvT hZ (hw _ (List.mem_of_getElem? (i := 65) rfl))) (mvT hZ (hw _ (List.mem_of_getElem? (i := 66) rfl))) (mvT hZ (hw _ (List.mem_of_getElem? (i := 40) rfl))) (mvT hZ (hw _ (List.mem_of_getElem? (i := 67) rfl))) (by decide) (backOf (W := 2) (rmCI4 l Z a0 hw [] b6 k6 p2 q2 p1 q1 h20 n0 (Nat.le_trans Z0 (K20).1) (V19.ext E20) (((((D6.wr W10).wr W12).wr W17).wr W19).ext E20)) hZ (hw _ (List.mem_of_getElem? (i := 67) rfl)) (hw _ (List.mem_of_getElem? (i := 40) rfl)) (by decide) (by decide)) (g := (mkF m 127 #[rv a, rv rn_3, rv b6, iv 4, rv rn_3, iv 2, iv 2, .val (.long (own_pk p1 q1)), .second, iv p1, iv q1] [(.int 4), (.ref b6), (.ref b20), (.ref b20)])) rfl (by rw [hml]; rfl) (argsL := [(.ref b6), (.int 4)]) (rest := [(.ref b20), (.ref b20)]) (lenOf pd_6 rfl) rfl (by show 2 * 0 + _ ≤ _; exact Nat.le_of_eq rfl) (hb hby dBB_127) (fun _ _ => ⟨rfl, e20, (by decide : 3 + 1 ≤ _), (by decide : 7 + 4 ≤ _)⟩)
      dsimp only [Pt.U, Pt.locs, Pt.cells, Pt.slots] at X22 l22 y22 z22 st22 hQ22
      subst l22 y22 z22
      obtain ⟨rn_22, kn_22, rfl, N22q, Kc22, nex22_0, Fc22_0⟩ := hQ22
      have ne_a_rn_22 : a ≠ rn_22 := Nat.ne_of_lt (Nat.lt_of_lt_of_le ((((((((Fr'.keep Kc3 nin0).keep Kc4 (ninS (ne_a_rn_3) nin0)).ext E6).other W10 (Or.inl (ne_a_b6))).other W12 (Or.inl (ne_a_b6))).other W17 (Or.inl (ne_a_b6))).other W19 (Or.inl (ne_a_b6))).ext E20).lt nex22_0)
      have ne_ra_rn_22 : ra ≠ rn_22 := Nat.ne_of_lt (Nat.lt_of_lt_of_le ((((((((Vr.keep Kc3 nin0).keep Kc4 (ninS (ne_ra_rn_3) nin0)).ext E6).other W10 (ne_ra_b6)).other W12 (ne_ra_b6)).other W17 (ne_ra_b6)).other W19 (ne_ra_b6)).ext E20).lt nex22_0)
      have ne_rn_3_rn_22 : rn_3 ≠ rn_22 := Nat.ne_of_lt (Nat.lt_of_lt_of_le ((((((Fc4_0.ext E6).other W10 (ne_rn_3_b6)).other W12 (ne_rn_3_b6)).other W17 (ne_rn_3_b6)).other W19 (ne_rn_3_b6)).ext E20).lt nex22_0)
      have ne_b6_rn_22 : b6 ≠ rn_22 := Nat.ne_of_lt (Nat.lt_of_lt_of_le (V19.ext E20).lt nex22_0)
      have ne_b20_rn_22 : b20 ≠ rn_22 := Nat.ne_of_lt (Nat.lt_of_lt_of_le A20.lt nex22_0)
      have sz_rn_22 : h0.size ≤ rn_22 := Nat.le_trans (K20).1 nex22_0
      have g_rn_22 : n0 ≤ rn_22 := Nat.le_trans Z0 sz_rn_22
      have K22 : Keep h0 T22.heap [] := K20.trans Kc22 (all0)
      have N22 := Fr.app N19 N22q
      refine Go.pull (V := T22.setTop (mkF m 130 #[rv a, rv rn_3, rv b6, iv 4, rv rn_3, iv 2, iv 2, .val (.long (own_pk p1 q1)), .second, iv p1, iv q1] [(.ref rn_22), (.ref b20), (.ref b20)])) st22 ?_
      obtain ⟨_, _, ⟨T23, L23, k23, n23⟩, -, X23, ⟨Lc23, hQ23, l23, y23, z23⟩, st23⟩ := X22.specialBackNest hx (y := (⟨"com/example/salish/salish/regex/CodePointSet", "<init>", "([I)V"⟩ : MethodName)) rfl hown (own_mvM hZ (hw _ (List.mem_of_getElem? (i := 68) rfl))) (mvT hZ (hw _ (List.mem_of_getElem? (i := 69) rfl))) (mvT hZ (hw _ (List.mem_of_getElem? (i := 70) rfl))) (by decide) (backOf (W := 1) (rmSI l Z a0 hw [] b20 rn_22 .null T22.heap n0 (g_b20) (A20.keep Kc22) (F21.keep Kc22 nin0)) hZ (hw _ (List.mem_of_getElem? (i := 70) rfl)) (hw _ (List.mem_of_getElem? (i := 64) rfl)) (by decide) (by decide)) (g := (mkF m 130 #[rv a, rv rn_3, rv b6, iv 4, rv rn_3, iv 2, iv 2, .val (.long (own_pk p1 q1)), .second, iv p1, iv q1] [(.ref rn_22), (.ref b20), (.ref b20)])) rfl (by rw [hml]; rfl) (Steps.refl _) (a := b20) (argsL := [(.ref rn_22)]) (rest := [(.ref b20)]) (lenOf pd_7 rfl) rfl (by show 2 * 0 + _ ≤ _; exact Nat.le_of_eq rfl) (hb hby dBB_130) (fun _ _ => ⟨rfl, rfl, (by decide : 4 + 0 ≤ _), (by decide : 11 + 0 ≤ _)⟩)
      dsimp only [Pt.U, Pt.locs, Pt.cells, Pt.slots] at X23 l23 y23 z23 st23 hQ23
      subst l23 y23 z23
      obtain ⟨rfl, N23q, Kc23, Fc23_0⟩ := hQ23
      have K23 : Keep h0 T23.heap [] := K22.trans Kc23 ((allS (Or.inr sz_b20) all0))
      have N23 := Fr.app N22 N23q
      refine Go.pull (V := T23.setTop (mkF m 133 #[rv a, rv rn_3, rv b6, iv 4, rv rn_3, iv 2, iv 2, .val (.long (own_pk p1 q1)), .second, iv p1, iv q1] [(.ref b20)])) (fun _ k => st23.trans k) ?_
      exact Go.retR X23 hx Bd.notSynchronized Bd.returns rfl rfl rfl (hb hby dBB_133) (by exact ⟨b20, rn_22, kn_22, (4 : Int32), [(.int p2), (.int q2), (.int p1), (.int q1)], rfl, N23, K23, sz_b20, sz_rn_22, ((A20.keep Kc22).keep Kc23), Fc23_0, (Fc22_0.keep Kc23 (ninS (Ne.symm (ne_b20_rn_22)) nin0)), (Or.inl ⟨hs1, hc78_15, rfl, rfl⟩)⟩) (by decide) (by decide)
    · skip
      refine Go.pull (V := T12.setTop (mkF m 81 #[rv a, rv rn_3, rv b6, iv 2, rv rn_3, iv 2, iv 1, .val (.long (own_pk p1 q1)), .second, iv p1, iv q1] [])) (fun t k => XS.icmpNo X12.here hx rfl (hb hby dBB_78) rfl (XT.ii_gt_f hc78_15) k) ?_
      refine Go.pull (V := T12.setTop (mkF m 82 #[rv a, rv rn_3, rv b6, iv 2, rv rn_3, iv 2, iv 1, .val (.long (own_pk p1 q1)), .second, iv p1, iv q1] [(.ref b6)])) (fun t k => XS.aloadN X12.here hx rfl (hb hby dBB_81) rfl rfl k) ?_
      refine Go.pull (V := T12.setTop (mkF m 83 #[rv a, rv rn_3, rv b6, iv 2, rv rn_3, iv 2, iv 1, .val (.long (own_pk p1 q1)), .second, iv p1, iv q1] [(.int 2), (.ref b6)])) (fun t k => XS.iloadN X12.here hx rfl (hb hby dBB_82) rfl  k) ?_
      refine Go.pull (V := T12.setTop (mkF m 84 #[rv a, rv rn_3, rv b6, iv 2, rv rn_3, iv 2, iv 1, .val (.long (own_pk p1 q1)), .second, iv p1, iv q1] [(.int 1), (.int 2), (.ref b6)])) (fun t k => XS.iconst X12.here hx rfl (hb hby dBB_83) k) ?_
      refine Go.pull (V := T12.setTop (mkF m 85 #[rv a, rv rn_3, rv b6, iv 2, rv rn_3, iv 2, iv 1, .val (.long (own_pk p1 q1)), .second, iv p1, iv q1] [(.int 1), (.ref b6)])) (fun t k => XS.isub X12.here hx rfl (hb hby dBB_84) rfl k) ?_
      refine Go.pull (V := T12.setTop (mkF m 86 #[rv a, rv rn_3, rv b6, iv 2, rv rn_3, iv 2, iv 1, .val (.long (own_pk p1 q1)), .second, iv p1, iv q1] [(.ref b6), (.int 1), (.ref b6)])) (fun t k => XS.aloadN X12.here hx rfl (hb hby dBB_85) rfl rfl k) ?_
      refine Go.pull (V := T12.setTop (mkF m 87 #[rv a, rv rn_3, rv b6, iv 2, rv rn_3, iv 2, iv 1, .val (.long (own_pk p1 q1)), .second, iv p1, iv q1] [(.int 2), (.ref b6), (.int 1), (.ref b6)])) (fun t k => XS.iloadN X12.here hx rfl (hb hby dBB_86) rfl  k) ?_
      refine Go.pull (V := T12.setTop (mkF m 88 #[rv a, rv rn_3, rv b6, iv 2, rv rn_3, iv 2, iv 1, .val (.long (own_pk p1 q1)), .second, iv p1, iv q1] [(.int 1), (.int 2), (.ref b6), (.int 1), (.ref b6)])) (fun t k => XS.iconst X12.here hx rfl (hb hby dBB_87) k) ?_
      refine Go.pull (V := T12.setTop (mkF m 89 #[rv a, rv rn_3, rv b6, iv 2, rv rn_3, iv 2, iv 1, .val (.long (own_pk p1 q1)), .second, iv p1, iv q1] [(.int 1), (.ref b6), (.int 1), (.ref b6)])) (fun t k => XS.isub X12.here hx rfl (hb hby dBB_88) rfl k) ?_
      obtain ⟨cl24, Ar24, q24, S24, M24, Hs24, G24⟩ := id V12
      have hin24 : ¬ ((1 : Int32) < 0 ∨ cl24.slots.size ≤ ((1 : Int32)).toNatClampNeg) := inb_of S24 ⟨by decide, by decide⟩
      have hat24 : cl24.slots[((1 : Int32)).toNatClampNeg]? = some (.int q2) := Has.at Hs24 hin24 rfl
      refine Go.pull (V := T12.setTop (mkF m 90 #[rv a, rv rn_3, rv b6, iv 2, rv rn_3, iv 2, iv 1, .val (.long (own_pk p1 q1)), .second, iv p1, iv q1] [(.int q2), (.int 1), (.ref b6)])) (fun t k => X12.iaload hx (j := (1 : Int32)) (v := (.int q2)) (by rw [e12]; exact Ar24.1) (State.isArrayOf_alike hZ.alike Ar24.2.1) Ar24.2.2 hin24 hat24 (g := (mkF m 89 #[rv a, rv rn_3, rv b6, iv 2, rv rn_3, iv 2, iv 1, .val (.long (own_pk p1 q1)), .second, iv p1, iv q1] [(.int 1), (.ref b6), (.int 1), (.ref b6)])) rfl rfl (hb hby dBB_89) _ k) ?_
      refine Go.pull (V := T12.setTop (mkF m 92 #[rv a, rv rn_3, rv b6, iv 2, rv rn_3, iv 2, iv 1, .val (.long (own_pk p1 q1)), .second, iv p1, iv q1] [(.int q1), (.int q2), (.int 1), (.ref b6)])) (fun t k => XS.iload X12.here hx rfl (hb hby dBB_90) rfl  k) ?_
      obtain ⟨_, _, ⟨T25, L25, k25, n25⟩, -, X25, ⟨Lc25, hQ25, l25, y25, z25⟩, st25⟩ := Jvm.LawKit.callS X12 hx (y := (⟨"java/lang/Math", "max", "(II)I"⟩ : MethodName)) hown (mvT hZ (hw _ (List.mem_of_getElem? (i := 61) rfl))) (mvT hZ (hw _ (List.mem_of_getElem? (i := 11) rfl))) (mvT hZ (hw _ (List.mem_of_getElem? (i := 8) rfl))) (mvT hZ (hw _ (List.mem_of_getElem? (i := 12) rfl))) (by decide) (backOf (W := 2) (rmMx l Z a0 hw [] q2 q1 h12 n0 ) hZ (hw _ (List.mem_of_getElem? (i := 12) rfl)) (hw _ (List.mem_of_getElem? (i := 8) rfl)) (by decide) (by decide)) (g := (mkF m 92 #[rv a, rv rn_3, rv b6, iv 2, rv rn_3, iv 2, iv 1, .val (.long (own_pk p1 q1)), .second, iv p1, iv q1] [(.int q1), (.int q2), (.int 1), (.ref b6)])) rfl (by rw [hml]; rfl) (argsL := [(.int q2), (.int q1)]) (rest := [(.int 1), (.ref b6)]) (lenOf pd_0 rfl) rfl (by show 2 * 0 + _ ≤ _; exact Nat.le_of_eq rfl) (hb hby dBB_92) (fun _ _ => ⟨rfl, e12, (by decide : 2 + 0 ≤ _), (by decide : 6 + 0 ≤ _)⟩)
      dsimp only [Pt.U, Pt.locs, Pt.cells, Pt.slots] at X25 l25 y25 z25 st25 hQ25
      subst l25 y25 z25
      obtain ⟨rfl, N25q, e25⟩ := hQ25
      have N25 := Fr.app N12 N25q
      refine Go.pull (V := T25.setTop (mkF m 95 #[rv a, rv rn_3, rv b6, iv 2, rv rn_3, iv 2, iv 1, .val (.long (own_pk p1 q1)), .second, iv p1, iv q1] [(.int (own_max q2 q1)), (.int 1), (.ref b6)])) st25 ?_
      obtain ⟨cl26, Ar26, q26, S26, M26, Hs26, G26⟩ := id V12
      have hin26 : ¬ ((1 : Int32) < 0 ∨ cl26.slots.size ≤ ((1 : Int32)).toNatClampNeg) := inb_of S26 ⟨by decide, by decide⟩
      obtain ⟨T27, h27, X27, e27, W27, st27⟩ := stI X25 hx hZ e25 Ar26 (j := (1 : Int32)) hin26 (g := (mkF m 95 #[rv a, rv rn_3, rv b6, iv 2, rv rn_3, iv 2, iv 1, .val (.long (own_pk p1 q1)), .second, iv p1, iv q1] [(.int (own_max q2 q1)), (.int 1), (.ref b6)])) rfl rfl (hb hby dBB_95)
      have V27 : Arv Z h27 b6 k6 .int (4 : Int32) [(.int p2), (.int (own_max q2 q1)), (.int 0), (.int 0)] (.int 0) := Arv.set Ar26 q26 S26 M26 Hs26 G26 rfl W27 1 rfl (Nat.le_of_ble_eq_true rfl)
      have K27 : Keep h0 h27 [] := K12.wr W27 (Or.inr sz_b6)
      have N27 := Fr.snoc X27 N25 g_b6
      refine Go.pull (V := T27.setTop (mkF m 96 #[rv a, rv rn_3, rv b6, iv 2, rv rn_3, iv 2, iv 1, .val (.long (own_pk p1 q1)), .second, iv p1, iv q1] [])) st27 ?_
      refine Go.pull (V := T27.setTop (mkF m 115 #[rv a, rv rn_3, rv b6, iv 2, rv rn_3, iv 2, iv 1, .val (.long (own_pk p1 q1)), .second, iv p1, iv q1] [])) (fun t k => XS.goto X27.here hx rfl (pc0 := 96) (pc' := 115) rfl (hb hby dBB_96) (by decide) (by decide) k) ?_
      refine Go.pull (V := T27.setTop (mkF m 118 #[rv a, rv rn_3, rv b6, iv 2, rv rn_3, iv 2, iv 2, .val (.long (own_pk p1 q1)), .second, iv p1, iv q1] [])) (fun t k => XS.iinc X27.here hx rfl (hb hby dBB_115) rfl (l' := #[rv a, rv rn_3, rv b6, iv 2, rv rn_3, iv 2, iv 2, .val (.long (own_pk p1 q1)), .second, iv p1, iv q1]) rfl k) ?_
      refine Go.pull (V := T27.setTop (mkF m 38 #[rv a, rv rn_3, rv b6, iv 2, rv rn_3, iv 2, iv 2, .val (.long (own_pk p1 q1)), .second, iv p1, iv q1] [])) (fun t k => XS.goto X27.here hx rfl (pc0 := 118) (pc' := 38) rfl (hb hby dBB_118) (by decide) (by decide) k) ?_
      refine Go.pull (V := T27.setTop (mkF m 40 #[rv a, rv rn_3, rv b6, iv 2, rv rn_3, iv 2, iv 2, .val (.long (own_pk p1 q1)), .second, iv p1, iv q1] [(.int 2)])) (fun t k => XS.iload X27.here hx rfl (hb hby dBB_38) rfl  k) ?_
      refine Go.pull (V := T27.setTop (mkF m 42 #[rv a, rv rn_3, rv b6, iv 2, rv rn_3, iv 2, iv 2, .val (.long (own_pk p1 q1)), .second, iv p1, iv q1] [(.int 2), (.int 2)])) (fun t k => XS.iload X27.here hx rfl (hb hby dBB_40) rfl  k) ?_
      refine Go.pull (V := T27.setTop (mkF m 121 #[rv a, rv rn_3, rv b6, iv 2, rv rn_3, iv 2, iv 2, .val (.long (own_pk p1 q1)), .second, iv p1, iv q1] [])) (fun t k => XS.icmpYes X27.here hx rfl (pc0 := 42) (pc' := 121) rfl (hb hby dBB_42) rfl (XT.ii_ge_t (by decide)) (by decide) (by decide) k) ?_
      obtain ⟨T28, h28, X28, e28, E28, A28, D28, -, st28⟩ := newO X27 hx hZ hown (hw _ (List.mem_of_getElem? (i := 62) rfl)) (hw _ (List.mem_of_getElem? (i := 63) rfl)) (hw _ (List.mem_of_getElem? (i := 64) rfl)) e27 (g := (mkF m 121 #[rv a, rv rn_3, rv b6, iv 2, rv rn_3, iv 2, iv 2, .val (.long (own_pk p1 q1)), .second, iv p1, iv q1] [])) rfl (hb hby dBB_121) (by decide) (by decide)
      obtain ⟨b28, g28⟩ : ∃ z, z = h27.size := ⟨_, rfl⟩
      rw [← g28] at A28 D28 st28
      have ne_a_b28 : a ≠ b28 := Nat.ne_of_lt (Nat.lt_of_lt_of_le ((((((Fr'.keep Kc3 nin0).keep Kc4 (ninS (ne_a_rn_3) nin0)).ext E6).other W10 (Or.inl (ne_a_b6))).other W12 (Or.inl (ne_a_b6))).other W27 (Or.inl (ne_a_b6))).lt (Nat.le_of_eq g28.symm))
      have ne_ra_b28 : ra ≠ b28 := Nat.ne_of_lt (Nat.lt_of_lt_of_le ((((((Vr.keep Kc3 nin0).keep Kc4 (ninS (ne_ra_rn_3) nin0)).ext E6).other W10 (ne_ra_b6)).other W12 (ne_ra_b6)).other W27 (ne_ra_b6)).lt (Nat.le_of_eq g28.symm))
      have ne_rn_3_b28 : rn_3 ≠ b28 := Nat.ne_of_lt (Nat.lt_of_lt_of_le ((((Fc4_0.ext E6).other W10 (ne_rn_3_b6)).other W12 (ne_rn_3_b6)).other W27 (ne_rn_3_b6)).lt (Nat.le_of_eq g28.symm))
      have ne_b6_b28 : b6 ≠ b28 := Nat.ne_of_lt (Nat.lt_of_lt_of_le V27.lt (Nat.le_of_eq g28.symm))
      have sz_b28 : h0.size ≤ b28 := Nat.le_trans (K27).1 (Nat.le_of_eq g28.symm)
      have g_b28 : n0 ≤ b28 := Nat.le_trans Z0 sz_b28
      have K28 : Keep h0 h28 [] := K27.ext E28
      have F29 : Fld Z h28 b28 "com/example/salish/salish/regex/CodePointSet" "bounds" "[I" .null := D28 (Or.inr (hw _ (List.mem_of_getElem? (i := 73) rfl))) (ty := (.array .int)) (by decide)
      refine Go.pull (V := T28.setTop (mkF m 124 #[rv a, rv rn_3, rv b6, iv 2, rv rn_3, iv 2, iv 2, .val (.long (own_pk p1 q1)), .second, iv p1, iv q1] [(.ref b28)])) st28 ?_
      refine Go.pull (V := T28.setTop (mkF m 125 #[rv a, rv rn_3, rv b6, iv 2, rv rn_3, iv 2, iv 2, .val (.long (own_pk p1 q1)), .second, iv p1, iv q1] [(.ref b28), (.ref b28)])) (fun t k => XS.dup X28.here hx rfl (hb hby dBB_124) rfl rfl k) ?_
      refine Go.pull (V := T28.setTop (mkF m 126 #[rv a, rv rn_3, rv b6, iv 2, rv rn_3, iv 2, iv 2, .val (.long (own_pk p1 q1)), .second, iv p1, iv q1] [(.ref b6), (.ref b28), (.ref b28)])) (fun t k => XS.aloadN X28.here hx rfl (hb hby dBB_125) rfl rfl k) ?_
      refine Go.pull (V := T28.setTop (mkF m 127 #[rv a, rv rn_3, rv b6, iv 2, rv rn_3, iv 2, iv 2, .val (.long (own_pk p1 q1)), .second, iv p1, iv q1] [(.int 2), (.ref b6), (.ref b28), (.ref b28)])) (fun t k => XS.iloadN X28.here hx rfl (hb hby dBB_126) rfl  k) ?_
      obtain ⟨_, _, ⟨T30, L30, k30, n30⟩, -, X30, ⟨Lc30, hQ30, l30, y30, z30⟩, st30⟩ := Jvm.LawKit.callS X28 hx (y := (⟨"java/util/Arrays", "copyOf", "([II)[I"⟩ : MethodName)) hown (mvT hZ (hw _ (List.mem_of_getElem? (i := 65) rfl))) (mvT hZ (hw _ (List.mem_of_getElem? (i := 66) rfl))) (mvT hZ (hw _ (List.mem_of_getElem? (i := 40) rfl))) (mvT hZ (hw _ (List.mem_of_getElem? (i := 67) rfl))) (by decide) (backOf (W := 2) (rmCI2 l Z a0 hw [] b6 k6 p2 (own_max q2 q1) (0 : Int32) (0 : Int32) h28 n0 (Nat.le_trans Z0 (K28).1) (V27.ext E28)) hZ (hw _ (List.mem_of_getElem? (i := 67) rfl)) (hw _ (List.mem_of_getElem? (i := 40) rfl)) (by decide) (by decide)) (g := (mkF m 127 #[rv a, rv rn_3, rv b6, iv 2, rv rn_3, iv 2, iv 2, .val (.long (own_pk p1 q1)), .second, iv p1, iv q1] [(.int 2), (.ref b6), (.ref b28), (.ref b28)])) rfl (by rw [hml]; rfl) (argsL := [(.ref b6), (.int 2)]) (rest := [(.ref b28), (.ref b28)]) (lenOf pd_6 rfl) rfl (by show 2 * 0 + _ ≤ _; exact Nat.le_of_eq rfl) (hb hby dBB_127) (fun _ _ => ⟨rfl, e28, (by decide : 3 + 1 ≤ _), (by decide : 7 + 2 ≤ _)⟩)
      dsimp only [Pt.U, Pt.locs, Pt.cells, Pt.slots] at X30 l30 y30 z30 st30 hQ30
      subst l30 y30 z30
      obtain ⟨rn_30, kn_30, rfl, N30q, Kc30, nex30_0, Fc30_0⟩ := hQ30
      have ne_a_rn_30 : a ≠ rn_30 := Nat.ne_of_lt (Nat.lt_of_lt_of_le (((((((Fr'.keep Kc3 nin0).keep Kc4 (ninS (ne_a_rn_3) nin0)).ext E6).other W10 (Or.inl (ne_a_b6))).other W12 (Or.inl (ne_a_b6))).other W27 (Or.inl (ne_a_b6))).ext E28).lt nex30_0)
      have ne_ra_rn_30 : ra ≠ rn_30 := Nat.ne_of_lt (Nat.lt_of_lt_of_le (((((((Vr.keep Kc3 nin0).keep Kc4 (ninS (ne_ra_rn_3) nin0)).ext E6).other W10 (ne_ra_b6)).other W12 (ne_ra_b6)).other W27 (ne_ra_b6)).ext E28).lt nex30_0)
      have ne_rn_3_rn_30 : rn_3 ≠ rn_30 := Nat.ne_of_lt (Nat.lt_of_lt_of_le (((((Fc4_0.ext E6).other W10 (ne_rn_3_b6)).other W12 (ne_rn_3_b6)).other W27 (ne_rn_3_b6)).ext E28).lt nex30_0)
      have ne_b6_rn_30 : b6 ≠ rn_30 := Nat.ne_of_lt (Nat.lt_of_lt_of_le (V27.ext E28).lt nex30_0)
      have ne_b28_rn_30 : b28 ≠ rn_30 := Nat.ne_of_lt (Nat.lt_of_lt_of_le A28.lt nex30_0)
      have sz_rn_30 : h0.size ≤ rn_30 := Nat.le_trans (K28).1 nex30_0
      have g_rn_30 : n0 ≤ rn_30 := Nat.le_trans Z0 sz_rn_30
      have K30 : Keep h0 T30.heap [] := K28.trans Kc30 (all0)
      have N30 := Fr.app N27 N30q
      refine Go.pull (V := T30.setTop (mkF m 130 #[rv a, rv rn_3, rv b6, iv 2, rv rn_3, iv 2, iv 2, .val (.long (own_pk p1 q1)), .second, iv p1, iv q1] [(.ref rn_30), (.ref b28), (.ref b28)])) st30 ?_
      obtain ⟨_, _, ⟨T31, L31, k31, n31⟩, -, X31, ⟨Lc31, hQ31, l31, y31, z31⟩, st31⟩ := X30.specialBackNest hx (y := (⟨"com/example/salish/salish/regex/CodePointSet", "<init>", "([I)V"⟩ : MethodName)) rfl hown (own_mvM hZ (hw _ (List.mem_of_getElem? (i := 68) rfl))) (mvT hZ (hw _ (List.mem_of_getElem? (i := 69) rfl))) (mvT hZ (hw _ (List.mem_of_getElem? (i := 70) rfl))) (by decide) (backOf (W := 1) (rmSI l Z a0 hw [] b28 rn_30 .null T30.heap n0 (g_b28) (A28.keep Kc30) (F29.keep Kc30 nin0)) hZ (hw _ (List.mem_of_getElem? (i := 70) rfl)) (hw _ (List.mem_of_getElem? (i := 64) rfl)) (by decide) (by decide)) (g := (mkF m 130 #[rv a, rv rn_3, rv b6, iv 2, rv rn_3, iv 2, iv 2, .val (.long (own_pk p1 q1)), .second, iv p1, iv q1] [(.ref rn_30), (.ref b28), (.ref b28)])) rfl (by rw [hml]; rfl) (Steps.refl _) (a := b28) (argsL := [(.ref rn_30)]) (rest := [(.ref b28)]) (lenOf pd_7 rfl) rfl (by show 2 * 0 + _ ≤ _; exact Nat.le_of_eq rfl) (hb hby dBB_130) (fun _ _ => ⟨rfl, rfl, (by decide : 4 + 0 ≤ _), (by decide : 9 + 0 ≤ _)⟩)
      dsimp only [Pt.U, Pt.locs, Pt.cells, Pt.slots] at X31 l31 y31 z31 st31 hQ31
      subst l31 y31 z31
      obtain ⟨rfl, N31q, Kc31, Fc31_0⟩ := hQ31
      have K31 : Keep h0 T31.heap [] := K30.trans Kc31 ((allS (Or.inr sz_b28) all0))
      have N31 := Fr.app N30 N31q
      refine Go.pull (V := T31.setTop (mkF m 133 #[rv a, rv rn_3, rv b6, iv 2, rv rn_3, iv 2, iv 2, .val (.long (own_pk p1 q1)), .second, iv p1, iv q1] [(.ref b28)])) (fun _ k => st31.trans k) ?_
      exact Go.retR X31 hx Bd.notSynchronized Bd.returns rfl rfl rfl (hb hby dBB_133) (by exact ⟨b28, rn_30, kn_30, (2 : Int32), [(.int p2), (.int (own_max q2 q1))], rfl, N31, K31, sz_b28, sz_rn_30, ((A28.keep Kc30).keep Kc31), Fc31_0, (Fc30_0.keep Kc31 (ninS (Ne.symm (ne_b28_rn_30)) nin0)), (Or.inr (Or.inl ⟨hs1, hc78_15, rfl, rfl⟩))⟩) (by decide) (by decide)
  · skip
    refine Go.pull (V := T4.setTop (mkF m 17 #[rv a, rv rn_3, .unset, .unset, .unset, .unset, .unset, .unset, .unset, .unset, .unset] [(.int 2)])) (fun t k => XS.iconst X4.here hx rfl (hb hby dBB_16) k) ?_
    refine Go.pull (V := T4.setTop (mkF m 18 #[rv a, rv rn_3, .unset, .unset, .unset, .unset, .unset, .unset, .unset, .unset, .unset] [(.ref a), (.int 2)])) (fun t k => XS.aloadN X4.here hx rfl (hb hby dBB_17) rfl rfl k) ?_
    obtain ⟨T32, X32, e32, st32⟩ := getF X4 hx hZ hown (host := "") (Or.inl (hw _ (List.mem_of_getElem? (i := 31) rfl))) Via.refl rfl ((Fc.keep Kc3 nin0).keep Kc4 (ninS (ne_a_rn_3) nin0)) (g := (mkF m 18 #[rv a, rv rn_3, .unset, .unset, .unset, .unset, .unset, .unset, .unset, .unset, .unset] [(.ref a), (.int 2)])) rfl rfl (hb hby dBB_18)
    refine Go.pull (V := T32.setTop (mkF m 21 #[rv a, rv rn_3, .unset, .unset, .unset, .unset, .unset, .unset, .unset, .unset, .unset] [(.int 2), (.int 2)])) st32 ?_
    refine Go.pull (V := T32.setTop (mkF m 22 #[rv a, rv rn_3, .unset, .unset, .unset, .unset, .unset, .unset, .unset, .unset, .unset] [(.int 4)])) (fun t k => XS.imul X32.here hx rfl (hb hby dBB_21) rfl k) ?_
    obtain ⟨T33, h33, k33, X33, e33, E33, A33, D33, st33⟩ := newPE X32 hx hZ (hw _ (List.mem_of_getElem? (i := 60) rfl)) e32 (g := (mkF m 22 #[rv a, rv rn_3, .unset, .unset, .unset, .unset, .unset, .unset, .unset, .unset, .unset] [(.int 4)])) rfl (hb hby dBB_22) rfl (by decide) (cap := 4) (by decide) (by decide) (by decide) (by decide) (ad := "[I") rfl
    obtain ⟨b33, g33⟩ : ∃ z, z = T4.heap.size := ⟨_, rfl⟩
    rw [← g33] at A33 D33 st33
    have ne_a_b33 : a ≠ b33 := Nat.ne_of_lt (Nat.lt_of_lt_of_le ((Fr'.keep Kc3 nin0).keep Kc4 (ninS (ne_a_rn_3) nin0)).lt (Nat.le_of_eq g33.symm))
    have ne_ra_b33 : ra ≠ b33 := Nat.ne_of_lt (Nat.lt_of_lt_of_le ((Vr.keep Kc3 nin0).keep Kc4 (ninS (ne_ra_rn_3) nin0)).lt (Nat.le_of_eq g33.symm))
    have ne_rn_3_b33 : rn_3 ≠ b33 := Nat.ne_of_lt (Nat.lt_of_lt_of_le Fc4_0.lt (Nat.le_of_eq g33.symm))
    have sz_b33 : h0.size ≤ b33 := Nat.le_trans (K4).1 (Nat.le_of_eq g33.symm)
    have g_b33 : n0 ≤ b33 := Nat.le_trans Z0 sz_b33
    have K33 : Keep h0 h33 [] := K4.ext E33
    have V33 : Arv Z h33 b33 k33 .int (4 : Int32) [(.int 0), (.int 0), (.int 0), (.int 0)] (.int 0) := (Arv.new A33 (by decide)).pad (pad_rep [] (.int 0) 4)
    refine Go.pull (V := T33.setTop (mkF m 24 #[rv a, rv rn_3, .unset, .unset, .unset, .unset, .unset, .unset, .unset, .unset, .unset] [(.ref b33)])) st33 ?_
    refine Go.pull (V := T33.setTop (mkF m 25 #[rv a, rv rn_3, rv b33, .unset, .unset, .unset, .unset, .unset, .unset, .unset, .unset] [])) (fun t k => XS.astoreN X33.here hx rfl (hb hby dBB_24) rfl rfl (l' := #[rv a, rv rn_3, rv b33, .unset, .unset, .unset, .unset, .unset, .unset, .unset, .unset]) rfl k) ?_
    refine Go.pull (V := T33.setTop (mkF m 26 #[rv a, rv rn_3, rv b33, .unset, .unset, .unset, .unset, .unset, .unset, .unset, .unset] [(.int 0)])) (fun t k => XS.iconst X33.here hx rfl (hb hby dBB_25) k) ?_
    refine Go.pull (V := T33.setTop (mkF m 27 #[rv a, rv rn_3, rv b33, iv 0, .unset, .unset, .unset, .unset, .unset, .unset, .unset] [])) (fun t k => XS.istoreN X33.here hx rfl (hb hby dBB_26) rfl (l' := #[rv a, rv rn_3, rv b33, iv 0, .unset, .unset, .unset, .unset, .unset, .unset, .unset]) rfl k) ?_
    refine Go.pull (V := T33.setTop (mkF m 28 #[rv a, rv rn_3, rv b33, iv 0, .unset, .unset, .unset, .unset, .unset, .unset, .unset] [(.ref rn_3)])) (fun t k => XS.aloadN X33.here hx rfl (hb hby dBB_27) rfl rfl k) ?_
    refine Go.pull (V := T33.setTop (mkF m 30 #[rv a, rv rn_3, rv b33, iv 0, rv rn_3, .unset, .unset, .unset, .unset, .unset, .unset] [])) (fun t k => XS.astore X33.here hx rfl (hb hby dBB_28) rfl rfl (l' := #[rv a, rv rn_3, rv b33, iv 0, rv rn_3, .unset, .unset, .unset, .unset, .unset, .unset]) rfl k) ?_
    refine Go.pull (V := T33.setTop (mkF m 32 #[rv a, rv rn_3, rv b33, iv 0, rv rn_3, .unset, .unset, .unset, .unset, .unset, .unset] [(.ref rn_3)])) (fun t k => XS.aload X33.here hx rfl (hb hby dBB_30) rfl rfl k) ?_
    obtain ⟨cl34, Ar34, q34, S34, M34, Hs34, G34⟩ := id (Fc4_0.ext E33)
    refine Go.pull (V := T33.setTop (mkF m 33 #[rv a, rv rn_3, rv b33, iv 0, rv rn_3, .unset, .unset, .unset, .unset, .unset, .unset] [(.int 2)])) (fun t k => X33.arraylength hx (by rw [e33]; exact Ar34.1) (State.isArrayOf_alike hZ.alike Ar34.2.1) (g := (mkF m 32 #[rv a, rv rn_3, rv b33, iv 0, rv rn_3, .unset, .unset, .unset, .unset, .unset, .unset] [(.ref rn_3)])) rfl rfl (hb hby dBB_32) _ (by rw [len_of S34 M34]; exact k)) ?_
    refine Go.pull (V := T33.setTop (mkF m 35 #[rv a, rv rn_3, rv b33, iv 0, rv rn_3, iv 2, .unset, .unset, .unset, .unset, .unset] [])) (fun t k => XS.istore X33.here hx rfl (hb hby dBB_33) rfl (l' := #[rv a, rv rn_3, rv b33, iv 0, rv rn_3, iv 2, .unset, .unset, .unset, .unset, .unset]) rfl k) ?_
    refine Go.pull (V := T33.setTop (mkF m 36 #[rv a, rv rn_3, rv b33, iv 0, rv rn_3, iv 2, .unset, .unset, .unset, .unset, .unset] [(.int 0)])) (fun t k => XS.iconst X33.here hx rfl (hb hby dBB_35) k) ?_
    refine Go.pull (V := T33.setTop (mkF m 38 #[rv a, rv rn_3, rv b33, iv 0, rv rn_3, iv 2, iv 0, .unset, .unset, .unset, .unset] [])) (fun t k => XS.istore X33.here hx rfl (hb hby dBB_36) rfl (l' := #[rv a, rv rn_3, rv b33, iv 0, rv rn_3, iv 2, iv 0, .unset, .unset, .unset, .unset]) rfl k) ?_
    refine Go.pull (V := T33.setTop (mkF m 40 #[rv a, rv rn_3, rv b33, iv 0, rv rn_3, iv 2, iv 0, .unset, .unset, .unset, .unset] [(.int 0)])) (fun t k => XS.iload X33.here hx rfl (hb hby dBB_38) rfl  k) ?_
    refine Go.pull (V := T33.setTop (mkF m 42 #[rv a, rv rn_3, rv b33, iv 0, rv rn_3, iv 2, iv 0, .unset, .unset, .unset, .unset] [(.int 2), (.int 0)])) (fun t k => XS.iload X33.here hx rfl (hb hby dBB_40) rfl  k) ?_
    refine Go.pull (V := T33.setTop (mkF m 45 #[rv a, rv rn_3, rv b33, iv 0, rv rn_3, iv 2, iv 0, .unset, .unset, .unset, .unset] [])) (fun t k => XS.icmpNo X33.here hx rfl (hb hby dBB_42) rfl (XT.ii_ge_f (by decide)) k) ?_
    refine Go.pull (V := T33.setTop (mkF m 47 #[rv a, rv rn_3, rv b33, iv 0, rv rn_3, iv 2, iv 0, .unset, .unset, .unset, .unset] [(.ref rn_3)])) (fun t k => XS.aload X33.here hx rfl (hb hby dBB_45) rfl rfl k) ?_
    refine Go.pull (V := T33.setTop (mkF m 49 #[rv a, rv rn_3, rv b33, iv 0, rv rn_3, iv 2, iv 0, .unset, .unset, .unset, .unset] [(.int 0), (.ref rn_3)])) (fun t k => XS.iload X33.here hx rfl (hb hby dBB_47) rfl  k) ?_
    obtain ⟨cl35, Ar35, q35, S35, M35, Hs35, G35⟩ := id (Fc4_0.ext E33)
    have hin35 : ¬ ((0 : Int32) < 0 ∨ cl35.slots.size ≤ ((0 : Int32)).toNatClampNeg) := inb_of S35 ⟨by decide, by decide⟩
    have hat35 : cl35.slots[((0 : Int32)).toNatClampNeg]? = some (.long (own_pk p1 q1)) := Has.at Hs35 hin35 rfl
    refine Go.pull (V := T33.setTop (mkF m 50 #[rv a, rv rn_3, rv b33, iv 0, rv rn_3, iv 2, iv 0, .unset, .unset, .unset, .unset] [(.long (own_pk p1 q1))])) (fun t k => X33.laload hx (j := (0 : Int32)) (v := (.long (own_pk p1 q1))) (by rw [e33]; exact Ar35.1) (State.isArrayOf_alike hZ.alike Ar35.2.1) Ar35.2.2 hin35 hat35 (g := (mkF m 49 #[rv a, rv rn_3, rv b33, iv 0, rv rn_3, iv 2, iv 0, .unset, .unset, .unset, .unset] [(.int 0), (.ref rn_3)])) rfl rfl (hb hby dBB_49) _ k) ?_
    refine Go.pull (V := T33.setTop (mkF m 52 #[rv a, rv rn_3, rv b33, iv 0, rv rn_3, iv 2, iv 0, .val (.long (own_pk p1 q1)), .second, .unset, .unset] [])) (fun t k => XS.lstore X33.here hx rfl (hb hby dBB_50) rfl (l' := #[rv a, rv rn_3, rv b33, iv 0, rv rn_3, iv 2, iv 0, .val (.long (own_pk p1 q1)), .second, .unset, .unset]) rfl k) ?_
    refine Go.pull (V := T33.setTop (mkF m 54 #[rv a, rv rn_3, rv b33, iv 0, rv rn_3, iv 2, iv 0, .val (.long (own_pk p1 q1)), .second, .unset, .unset] [(.long (own_pk p1 q1))])) (fun t k => XS.lload X33.here hx rfl (hb hby dBB_52) rfl  k) ?_
    refine Go.pull (V := T33.setTop (mkF m 56 #[rv a, rv rn_3, rv b33, iv 0, rv rn_3, iv 2, iv 0, .val (.long (own_pk p1 q1)), .second, .unset, .unset] [(.int 32), (.long (own_pk p1 q1))])) (fun t k => XS.bipush X33.here hx rfl (hb hby dBB_54) k) ?_
    refine Go.pull (V := T33.setTop (mkF m 57 #[rv a, rv rn_3, rv b33, iv 0, rv rn_3, iv 2, iv 0, .val (.long (own_pk p1 q1)), .second, .unset, .unset] [(.long (((own_pk p1 q1).toUInt64 >>> ((32 : Int32) &&& 0x3f).toInt64.toUInt64).toInt64))])) (fun t k => XS.lushr X33.here hx rfl (hb hby dBB_56) rfl k) ?_
    refine Go.pull (V := T33.setTop (mkF m 58 #[rv a, rv rn_3, rv b33, iv 0, rv rn_3, iv 2, iv 0, .val (.long (own_pk p1 q1)), .second, .unset, .unset] [(.int ((((own_pk p1 q1).toUInt64 >>> ((32 : Int32) &&& 0x3f).toInt64.toUInt64).toInt64).toInt32))])) (fun t k => XS.l2i X33.here hx rfl (hb hby dBB_57) rfl k) ?_
    refine Go.pull (V := T33.setTop (mkF m 60 #[rv a, rv rn_3, rv b33, iv 0, rv rn_3, iv 2, iv 0, .val (.long (own_pk p1 q1)), .second, iv ((((own_pk p1 q1).toUInt64 >>> ((32 : Int32) &&& 0x3f).toInt64.toUInt64).toInt64).toInt32), .unset] [])) (fun t k => XS.istore X33.here hx rfl (hb hby dBB_58) rfl (l' := #[rv a, rv rn_3, rv b33, iv 0, rv rn_3, iv 2, iv 0, .val (.long (own_pk p1 q1)), .second, iv ((((own_pk p1 q1).toUInt64 >>> ((32 : Int32) &&& 0x3f).toInt64.toUInt64).toInt64).toInt32), .unset]) rfl k) ?_
    rw [show ((((own_pk p1 q1).toUInt64 >>> ((32 : Int32) &&& 0x3f).toInt64.toUInt64).toInt64).toInt32) = p1 from own_hi hr1]
    refine Go.pull (V := T33.setTop (mkF m 62 #[rv a, rv rn_3, rv b33, iv 0, rv rn_3, iv 2, iv 0, .val (.long (own_pk p1 q1)), .second, iv p1, .unset] [(.long (own_pk p1 q1))])) (fun t k => XS.lload X33.here hx rfl (hb hby dBB_60) rfl  k) ?_
    refine Go.pull (V := T33.setTop (mkF m 63 #[rv a, rv rn_3, rv b33, iv 0, rv rn_3, iv 2, iv 0, .val (.long (own_pk p1 q1)), .second, iv p1, .unset] [(.int ((own_pk p1 q1).toInt32))])) (fun t k => XS.l2i X33.here hx rfl (hb hby dBB_62) rfl k) ?_
    refine Go.pull (V := T33.setTop (mkF m 65 #[rv a, rv rn_3, rv b33, iv 0, rv rn_3, iv 2, iv 0, .val (.long (own_pk p1 q1)), .second, iv p1, iv ((own_pk p1 q1).toInt32)] [])) (fun t k => XS.istore X33.here hx rfl (hb hby dBB_63) rfl (l' := #[rv a, rv rn_3, rv b33, iv 0, rv rn_3, iv 2, iv 0, .val (.long (own_pk p1 q1)), .second, iv p1, iv ((own_pk p1 q1).toInt32)]) rfl k) ?_
    rw [show ((own_pk p1 q1).toInt32) = q1 from own_lo hr1]
    refine Go.pull (V := T33.setTop (mkF m 66 #[rv a, rv rn_3, rv b33, iv 0, rv rn_3, iv 2, iv 0, .val (.long (own_pk p1 q1)), .second, iv p1, iv q1] [(.int 0)])) (fun t k => XS.iloadN X33.here hx rfl (hb hby dBB_65) rfl  k) ?_
    refine Go.pull (V := T33.setTop (mkF m 99 #[rv a, rv rn_3, rv b33, iv 0, rv rn_3, iv 2, iv 0, .val (.long (own_pk p1 q1)), .second, iv p1, iv q1] [])) (fun t k => XS.ifYes X33.here hx rfl (pc0 := 66) (pc' := 99) rfl (hb hby dBB_66) rfl (XT.i0_le_t (by decide)) (by decide) (by decide) k) ?_
    refine Go.pull (V := T33.setTop (mkF m 100 #[rv a, rv rn_3, rv b33, iv 0, rv rn_3, iv 2, iv 0, .val (.long (own_pk p1 q1)), .second, iv p1, iv q1] [(.ref b33)])) (fun t k => XS.aloadN X33.here hx rfl (hb hby dBB_99) rfl rfl k) ?_
    refine Go.pull (V := T33.setTop (mkF m 101 #[rv a, rv rn_3, rv b33, iv 0, rv rn_3, iv 2, iv 0, .val (.long (own_pk p1 q1)), .second, iv p1, iv q1] [(.int 0), (.ref b33)])) (fun t k => XS.iloadN X33.here hx rfl (hb hby dBB_100) rfl  k) ?_
    refine Go.pull (V := T33.setTop (mkF m 104 #[rv a, rv rn_3, rv b33, iv 1, rv rn_3, iv 2, iv 0, .val (.long (own_pk p1 q1)), .second, iv p1, iv q1] [(.int 0), (.ref b33)])) (fun t k => XS.iinc X33.here hx rfl (hb hby dBB_101) rfl (l' := #[rv a, rv rn_3, rv b33, iv 1, rv rn_3, iv 2, iv 0, .val (.long (own_pk p1 q1)), .second, iv p1, iv q1]) rfl k) ?_
    refine Go.pull (V := T33.setTop (mkF m 106 #[rv a, rv rn_3, rv b33, iv 1, rv rn_3, iv 2, iv 0, .val (.long (own_pk p1 q1)), .second, iv p1, iv q1] [(.int p1), (.int 0), (.ref b33)])) (fun t k => XS.iload X33.here hx rfl (hb hby dBB_104) rfl  k) ?_
    obtain ⟨cl36, Ar36, q36, S36, M36, Hs36, G36⟩ := id V33
    have hin36 : ¬ ((0 : Int32) < 0 ∨ cl36.slots.size ≤ ((0 : Int32)).toNatClampNeg) := inb_of S36 ⟨by decide, by decide⟩
    obtain ⟨T37, h37, X37, e37, W37, st37⟩ := stI X33 hx hZ e33 Ar36 (j := (0 : Int32)) hin36 (g := (mkF m 106 #[rv a, rv rn_3, rv b33, iv 1, rv rn_3, iv 2, iv 0, .val (.long (own_pk p1 q1)), .second, iv p1, iv q1] [(.int p1), (.int 0), (.ref b33)])) rfl rfl (hb hby dBB_106)
    have V37 : Arv Z h37 b33 k33 .int (4 : Int32) [(.int p1), (.int 0), (.int 0), (.int 0)] (.int 0) := Arv.set Ar36 q36 S36 M36 Hs36 G36 rfl W37 0 rfl (Nat.le_of_ble_eq_true rfl)
    have K37 : Keep h0 h37 [] := K33.wr W37 (Or.inr sz_b33)
    have N37 := Fr.snoc X37 N4 g_b33
    refine Go.pull (V := T37.setTop (mkF m 107 #[rv a, rv rn_3, rv b33, iv 1, rv rn_3, iv 2, iv 0, .val (.long (own_pk p1 q1)), .second, iv p1, iv q1] [])) st37 ?_
    refine Go.pull (V := T37.setTop (mkF m 108 #[rv a, rv rn_3, rv b33, iv 1, rv rn_3, iv 2, iv 0, .val (.long (own_pk p1 q1)), .second, iv p1, iv q1] [(.ref b33)])) (fun t k => XS.aloadN X37.here hx rfl (hb hby dBB_107) rfl rfl k) ?_
    refine Go.pull (V := T37.setTop (mkF m 109 #[rv a, rv rn_3, rv b33, iv 1, rv rn_3, iv 2, iv 0, .val (.long (own_pk p1 q1)), .second, iv p1, iv q1] [(.int 1), (.ref b33)])) (fun t k => XS.iloadN X37.here hx rfl (hb hby dBB_108) rfl  k) ?_
    refine Go.pull (V := T37.setTop (mkF m 112 #[rv a, rv rn_3, rv b33, iv 2, rv rn_3, iv 2, iv 0, .val (.long (own_pk p1 q1)), .second, iv p1, iv q1] [(.int 1), (.ref b33)])) (fun t k => XS.iinc X37.here hx rfl (hb hby dBB_109) rfl (l' := #[rv a, rv rn_3, rv b33, iv 2, rv rn_3, iv 2, iv 0, .val (.long (own_pk p1 q1)), .second, iv p1, iv q1]) rfl k) ?_
    refine Go.pull (V := T37.setTop (mkF m 114 #[rv a, rv rn_3, rv b33, iv 2, rv rn_3, iv 2, iv 0, .val (.long (own_pk p1 q1)), .second, iv p1, iv q1] [(.int q1), (.int 1), (.ref b33)])) (fun t k => XS.iload X37.here hx rfl (hb hby dBB_112) rfl  k) ?_
    obtain ⟨cl38, Ar38, q38, S38, M38, Hs38, G38⟩ := id V37
    have hin38 : ¬ ((1 : Int32) < 0 ∨ cl38.slots.size ≤ ((1 : Int32)).toNatClampNeg) := inb_of S38 ⟨by decide, by decide⟩
    obtain ⟨T39, h39, X39, e39, W39, st39⟩ := stI X37 hx hZ e37 Ar38 (j := (1 : Int32)) hin38 (g := (mkF m 114 #[rv a, rv rn_3, rv b33, iv 2, rv rn_3, iv 2, iv 0, .val (.long (own_pk p1 q1)), .second, iv p1, iv q1] [(.int q1), (.int 1), (.ref b33)])) rfl rfl (hb hby dBB_114)
    have V39 : Arv Z h39 b33 k33 .int (4 : Int32) [(.int p1), (.int q1), (.int 0), (.int 0)] (.int 0) := Arv.set Ar38 q38 S38 M38 Hs38 G38 rfl W39 1 rfl (Nat.le_of_ble_eq_true rfl)
    have K39 : Keep h0 h39 [] := K37.wr W39 (Or.inr sz_b33)
    have N39 := Fr.snoc X39 N37 g_b33
    refine Go.pull (V := T39.setTop (mkF m 115 #[rv a, rv rn_3, rv b33, iv 2, rv rn_3, iv 2, iv 0, .val (.long (own_pk p1 q1)), .second, iv p1, iv q1] [])) st39 ?_
    refine Go.pull (V := T39.setTop (mkF m 118 #[rv a, rv rn_3, rv b33, iv 2, rv rn_3, iv 2, iv 1, .val (.long (own_pk p1 q1)), .second, iv p1, iv q1] [])) (fun t k => XS.iinc X39.here hx rfl (hb hby dBB_115) rfl (l' := #[rv a, rv rn_3, rv b33, iv 2, rv rn_3, iv 2, iv 1, .val (.long (own_pk p1 q1)), .second, iv p1, iv q1]) rfl k) ?_
    refine Go.pull (V := T39.setTop (mkF m 38 #[rv a, rv rn_3, rv b33, iv 2, rv rn_3, iv 2, iv 1, .val (.long (own_pk p1 q1)), .second, iv p1, iv q1] [])) (fun t k => XS.goto X39.here hx rfl (pc0 := 118) (pc' := 38) rfl (hb hby dBB_118) (by decide) (by decide) k) ?_
    refine Go.pull (V := T39.setTop (mkF m 40 #[rv a, rv rn_3, rv b33, iv 2, rv rn_3, iv 2, iv 1, .val (.long (own_pk p1 q1)), .second, iv p1, iv q1] [(.int 1)])) (fun t k => XS.iload X39.here hx rfl (hb hby dBB_38) rfl  k) ?_
    refine Go.pull (V := T39.setTop (mkF m 42 #[rv a, rv rn_3, rv b33, iv 2, rv rn_3, iv 2, iv 1, .val (.long (own_pk p1 q1)), .second, iv p1, iv q1] [(.int 2), (.int 1)])) (fun t k => XS.iload X39.here hx rfl (hb hby dBB_40) rfl  k) ?_
    refine Go.pull (V := T39.setTop (mkF m 45 #[rv a, rv rn_3, rv b33, iv 2, rv rn_3, iv 2, iv 1, .val (.long (own_pk p1 q1)), .second, iv p1, iv q1] [])) (fun t k => XS.icmpNo X39.here hx rfl (hb hby dBB_42) rfl (XT.ii_ge_f (by decide)) k) ?_
    refine Go.pull (V := T39.setTop (mkF m 47 #[rv a, rv rn_3, rv b33, iv 2, rv rn_3, iv 2, iv 1, .val (.long (own_pk p1 q1)), .second, iv p1, iv q1] [(.ref rn_3)])) (fun t k => XS.aload X39.here hx rfl (hb hby dBB_45) rfl rfl k) ?_
    refine Go.pull (V := T39.setTop (mkF m 49 #[rv a, rv rn_3, rv b33, iv 2, rv rn_3, iv 2, iv 1, .val (.long (own_pk p1 q1)), .second, iv p1, iv q1] [(.int 1), (.ref rn_3)])) (fun t k => XS.iload X39.here hx rfl (hb hby dBB_47) rfl  k) ?_
    obtain ⟨cl40, Ar40, q40, S40, M40, Hs40, G40⟩ := id (((Fc4_0.ext E33).other W37 (ne_rn_3_b33)).other W39 (ne_rn_3_b33))
    have hin40 : ¬ ((1 : Int32) < 0 ∨ cl40.slots.size ≤ ((1 : Int32)).toNatClampNeg) := inb_of S40 ⟨by decide, by decide⟩
    have hat40 : cl40.slots[((1 : Int32)).toNatClampNeg]? = some (.long (own_pk p2 q2)) := Has.at Hs40 hin40 rfl
    refine Go.pull (V := T39.setTop (mkF m 50 #[rv a, rv rn_3, rv b33, iv 2, rv rn_3, iv 2, iv 1, .val (.long (own_pk p1 q1)), .second, iv p1, iv q1] [(.long (own_pk p2 q2))])) (fun t k => X39.laload hx (j := (1 : Int32)) (v := (.long (own_pk p2 q2))) (by rw [e39]; exact Ar40.1) (State.isArrayOf_alike hZ.alike Ar40.2.1) Ar40.2.2 hin40 hat40 (g := (mkF m 49 #[rv a, rv rn_3, rv b33, iv 2, rv rn_3, iv 2, iv 1, .val (.long (own_pk p1 q1)), .second, iv p1, iv q1] [(.int 1), (.ref rn_3)])) rfl rfl (hb hby dBB_49) _ k) ?_
    refine Go.pull (V := T39.setTop (mkF m 52 #[rv a, rv rn_3, rv b33, iv 2, rv rn_3, iv 2, iv 1, .val (.long (own_pk p2 q2)), .second, iv p1, iv q1] [])) (fun t k => XS.lstore X39.here hx rfl (hb hby dBB_50) rfl (l' := #[rv a, rv rn_3, rv b33, iv 2, rv rn_3, iv 2, iv 1, .val (.long (own_pk p2 q2)), .second, iv p1, iv q1]) rfl k) ?_
    refine Go.pull (V := T39.setTop (mkF m 54 #[rv a, rv rn_3, rv b33, iv 2, rv rn_3, iv 2, iv 1, .val (.long (own_pk p2 q2)), .second, iv p1, iv q1] [(.long (own_pk p2 q2))])) (fun t k => XS.lload X39.here hx rfl (hb hby dBB_52) rfl  k) ?_
    refine Go.pull (V := T39.setTop (mkF m 56 #[rv a, rv rn_3, rv b33, iv 2, rv rn_3, iv 2, iv 1, .val (.long (own_pk p2 q2)), .second, iv p1, iv q1] [(.int 32), (.long (own_pk p2 q2))])) (fun t k => XS.bipush X39.here hx rfl (hb hby dBB_54) k) ?_
    refine Go.pull (V := T39.setTop (mkF m 57 #[rv a, rv rn_3, rv b33, iv 2, rv rn_3, iv 2, iv 1, .val (.long (own_pk p2 q2)), .second, iv p1, iv q1] [(.long (((own_pk p2 q2).toUInt64 >>> ((32 : Int32) &&& 0x3f).toInt64.toUInt64).toInt64))])) (fun t k => XS.lushr X39.here hx rfl (hb hby dBB_56) rfl k) ?_
    refine Go.pull (V := T39.setTop (mkF m 58 #[rv a, rv rn_3, rv b33, iv 2, rv rn_3, iv 2, iv 1, .val (.long (own_pk p2 q2)), .second, iv p1, iv q1] [(.int ((((own_pk p2 q2).toUInt64 >>> ((32 : Int32) &&& 0x3f).toInt64.toUInt64).toInt64).toInt32))])) (fun t k => XS.l2i X39.here hx rfl (hb hby dBB_57) rfl k) ?_
    refine Go.pull (V := T39.setTop (mkF m 60 #[rv a, rv rn_3, rv b33, iv 2, rv rn_3, iv 2, iv 1, .val (.long (own_pk p2 q2)), .second, iv ((((own_pk p2 q2).toUInt64 >>> ((32 : Int32) &&& 0x3f).toInt64.toUInt64).toInt64).toInt32), iv q1] [])) (fun t k => XS.istore X39.here hx rfl (hb hby dBB_58) rfl (l' := #[rv a, rv rn_3, rv b33, iv 2, rv rn_3, iv 2, iv 1, .val (.long (own_pk p2 q2)), .second, iv ((((own_pk p2 q2).toUInt64 >>> ((32 : Int32) &&& 0x3f).toInt64.toUInt64).toInt64).toInt32), iv q1]) rfl k) ?_
    rw [show ((((own_pk p2 q2).toUInt64 >>> ((32 : Int32) &&& 0x3f).toInt64.toUInt64).toInt64).toInt32) = p2 from own_hi hr2]
    refine Go.pull (V := T39.setTop (mkF m 62 #[rv a, rv rn_3, rv b33, iv 2, rv rn_3, iv 2, iv 1, .val (.long (own_pk p2 q2)), .second, iv p2, iv q1] [(.long (own_pk p2 q2))])) (fun t k => XS.lload X39.here hx rfl (hb hby dBB_60) rfl  k) ?_
    refine Go.pull (V := T39.setTop (mkF m 63 #[rv a, rv rn_3, rv b33, iv 2, rv rn_3, iv 2, iv 1, .val (.long (own_pk p2 q2)), .second, iv p2, iv q1] [(.int ((own_pk p2 q2).toInt32))])) (fun t k => XS.l2i X39.here hx rfl (hb hby dBB_62) rfl k) ?_
    refine Go.pull (V := T39.setTop (mkF m 65 #[rv a, rv rn_3, rv b33, iv 2, rv rn_3, iv 2, iv 1, .val (.long (own_pk p2 q2)), .second, iv p2, iv ((own_pk p2 q2).toInt32)] [])) (fun t k => XS.istore X39.here hx rfl (hb hby dBB_63) rfl (l' := #[rv a, rv rn_3, rv b33, iv 2, rv rn_3, iv 2, iv 1, .val (.long (own_pk p2 q2)), .second, iv p2, iv ((own_pk p2 q2).toInt32)]) rfl k) ?_
    rw [show ((own_pk p2 q2).toInt32) = q2 from own_lo hr2]
    refine Go.pull (V := T39.setTop (mkF m 66 #[rv a, rv rn_3, rv b33, iv 2, rv rn_3, iv 2, iv 1, .val (.long (own_pk p2 q2)), .second, iv p2, iv q2] [(.int 2)])) (fun t k => XS.iloadN X39.here hx rfl (hb hby dBB_65) rfl  k) ?_
    refine Go.pull (V := T39.setTop (mkF m 69 #[rv a, rv rn_3, rv b33, iv 2, rv rn_3, iv 2, iv 1, .val (.long (own_pk p2 q2)), .second, iv p2, iv q2] [])) (fun t k => XS.ifNo X39.here hx rfl (hb hby dBB_66) rfl (XT.i0_le_f (by decide)) k) ?_
    refine Go.pull (V := T39.setTop (mkF m 71 #[rv a, rv rn_3, rv b33, iv 2, rv rn_3, iv 2, iv 1, .val (.long (own_pk p2 q2)), .second, iv p2, iv q2] [(.int p2)])) (fun t k => XS.iload X39.here hx rfl (hb hby dBB_69) rfl  k) ?_
    refine Go.pull (V := T39.setTop (mkF m 72 #[rv a, rv rn_3, rv b33, iv 2, rv rn_3, iv 2, iv 1, .val (.long (own_pk p2 q2)), .second, iv p2, iv q2] [(.ref b33), (.int p2)])) (fun t k => XS.aloadN X39.here hx rfl (hb hby dBB_71) rfl rfl k) ?_
    refine Go.pull (V := T39.setTop (mkF m 73 #[rv a, rv rn_3, rv b33, iv 2, rv rn_3, iv 2, iv 1, .val (.long (own_pk p2 q2)), .second, iv p2, iv q2] [(.int 2), (.ref b33), (.int p2)])) (fun t k => XS.iloadN X39.here hx rfl (hb hby dBB_72) rfl  k) ?_
    refine Go.pull (V := T39.setTop (mkF m 74 #[rv a, rv rn_3, rv b33, iv 2, rv rn_3, iv 2, iv 1, .val (.long (own_pk p2 q2)), .second, iv p2, iv q2] [(.int 1), (.int 2), (.ref b33), (.int p2)])) (fun t k => XS.iconst X39.here hx rfl (hb hby dBB_73) k) ?_
    refine Go.pull (V := T39.setTop (mkF m 75 #[rv a, rv rn_3, rv b33, iv 2, rv rn_3, iv 2, iv 1, .val (.long (own_pk p2 q2)), .second, iv p2, iv q2] [(.int 1), (.ref b33), (.int p2)])) (fun t k => XS.isub X39.here hx rfl (hb hby dBB_74) rfl k) ?_
    obtain ⟨cl41, Ar41, q41, S41, M41, Hs41, G41⟩ := id V39
    have hin41 : ¬ ((1 : Int32) < 0 ∨ cl41.slots.size ≤ ((1 : Int32)).toNatClampNeg) := inb_of S41 ⟨by decide, by decide⟩
    have hat41 : cl41.slots[((1 : Int32)).toNatClampNeg]? = some (.int q1) := Has.at Hs41 hin41 rfl
    refine Go.pull (V := T39.setTop (mkF m 76 #[rv a, rv rn_3, rv b33, iv 2, rv rn_3, iv 2, iv 1, .val (.long (own_pk p2 q2)), .second, iv p2, iv q2] [(.int q1), (.int p2)])) (fun t k => X39.iaload hx (j := (1 : Int32)) (v := (.int q1)) (by rw [e39]; exact Ar41.1) (State.isArrayOf_alike hZ.alike Ar41.2.1) Ar41.2.2 hin41 hat41 (g := (mkF m 75 #[rv a, rv rn_3, rv b33, iv 2, rv rn_3, iv 2, iv 1, .val (.long (own_pk p2 q2)), .second, iv p2, iv q2] [(.int 1), (.ref b33), (.int p2)])) rfl rfl (hb hby dBB_75) _ k) ?_
    refine Go.pull (V := T39.setTop (mkF m 77 #[rv a, rv rn_3, rv b33, iv 2, rv rn_3, iv 2, iv 1, .val (.long (own_pk p2 q2)), .second, iv p2, iv q2] [(.int 1), (.int q1), (.int p2)])) (fun t k => XS.iconst X39.here hx rfl (hb hby dBB_76) k) ?_
    refine Go.pull (V := T39.setTop (mkF m 78 #[rv a, rv rn_3, rv b33, iv 2, rv rn_3, iv 2, iv 1, .val (.long (own_pk p2 q2)), .second, iv p2, iv q2] [(.int (q1 + (1 : Int32))), (.int p2)])) (fun t k => XS.iadd X39.here hx rfl (hb hby dBB_77) rfl k) ?_
    by_cases hc78_42 : (q1 + (1 : Int32)) < p2
    · skip
      refine Go.pull (V := T39.setTop (mkF m 99 #[rv a, rv rn_3, rv b33, iv 2, rv rn_3, iv 2, iv 1, .val (.long (own_pk p2 q2)), .second, iv p2, iv q2] [])) (fun t k => XS.icmpYes X39.here hx rfl (pc0 := 78) (pc' := 99) rfl (hb hby dBB_78) rfl (XT.ii_gt_t hc78_42) (by decide) (by decide) k) ?_
      refine Go.pull (V := T39.setTop (mkF m 100 #[rv a, rv rn_3, rv b33, iv 2, rv rn_3, iv 2, iv 1, .val (.long (own_pk p2 q2)), .second, iv p2, iv q2] [(.ref b33)])) (fun t k => XS.aloadN X39.here hx rfl (hb hby dBB_99) rfl rfl k) ?_
      refine Go.pull (V := T39.setTop (mkF m 101 #[rv a, rv rn_3, rv b33, iv 2, rv rn_3, iv 2, iv 1, .val (.long (own_pk p2 q2)), .second, iv p2, iv q2] [(.int 2), (.ref b33)])) (fun t k => XS.iloadN X39.here hx rfl (hb hby dBB_100) rfl  k) ?_
      refine Go.pull (V := T39.setTop (mkF m 104 #[rv a, rv rn_3, rv b33, iv 3, rv rn_3, iv 2, iv 1, .val (.long (own_pk p2 q2)), .second, iv p2, iv q2] [(.int 2), (.ref b33)])) (fun t k => XS.iinc X39.here hx rfl (hb hby dBB_101) rfl (l' := #[rv a, rv rn_3, rv b33, iv 3, rv rn_3, iv 2, iv 1, .val (.long (own_pk p2 q2)), .second, iv p2, iv q2]) rfl k) ?_
      refine Go.pull (V := T39.setTop (mkF m 106 #[rv a, rv rn_3, rv b33, iv 3, rv rn_3, iv 2, iv 1, .val (.long (own_pk p2 q2)), .second, iv p2, iv q2] [(.int p2), (.int 2), (.ref b33)])) (fun t k => XS.iload X39.here hx rfl (hb hby dBB_104) rfl  k) ?_
      obtain ⟨cl43, Ar43, q43, S43, M43, Hs43, G43⟩ := id V39
      have hin43 : ¬ ((2 : Int32) < 0 ∨ cl43.slots.size ≤ ((2 : Int32)).toNatClampNeg) := inb_of S43 ⟨by decide, by decide⟩
      obtain ⟨T44, h44, X44, e44, W44, st44⟩ := stI X39 hx hZ e39 Ar43 (j := (2 : Int32)) hin43 (g := (mkF m 106 #[rv a, rv rn_3, rv b33, iv 3, rv rn_3, iv 2, iv 1, .val (.long (own_pk p2 q2)), .second, iv p2, iv q2] [(.int p2), (.int 2), (.ref b33)])) rfl rfl (hb hby dBB_106)
      have V44 : Arv Z h44 b33 k33 .int (4 : Int32) [(.int p1), (.int q1), (.int p2), (.int 0)] (.int 0) := Arv.set Ar43 q43 S43 M43 Hs43 G43 rfl W44 2 rfl (Nat.le_of_ble_eq_true rfl)
      have K44 : Keep h0 h44 [] := K39.wr W44 (Or.inr sz_b33)
      have N44 := Fr.snoc X44 N39 g_b33
      refine Go.pull (V := T44.setTop (mkF m 107 #[rv a, rv rn_3, rv b33, iv 3, rv rn_3, iv 2, iv 1, .val (.long (own_pk p2 q2)), .second, iv p2, iv q2] [])) st44 ?_
      refine Go.pull (V := T44.setTop (mkF m 108 #[rv a, rv rn_3, rv b33, iv 3, rv rn_3, iv 2, iv 1, .val (.long (own_pk p2 q2)), .second, iv p2, iv q2] [(.ref b33)])) (fun t k => XS.aloadN X44.here hx rfl (hb hby dBB_107) rfl rfl k) ?_
      refine Go.pull (V := T44.setTop (mkF m 109 #[rv a, rv rn_3, rv b33, iv 3, rv rn_3, iv 2, iv 1, .val (.long (own_pk p2 q2)), .second, iv p2, iv q2] [(.int 3), (.ref b33)])) (fun t k => XS.iloadN X44.here hx rfl (hb hby dBB_108) rfl  k) ?_
      refine Go.pull (V := T44.setTop (mkF m 112 #[rv a, rv rn_3, rv b33, iv 4, rv rn_3, iv 2, iv 1, .val (.long (own_pk p2 q2)), .second, iv p2, iv q2] [(.int 3), (.ref b33)])) (fun t k => XS.iinc X44.here hx rfl (hb hby dBB_109) rfl (l' := #[rv a, rv rn_3, rv b33, iv 4, rv rn_3, iv 2, iv 1, .val (.long (own_pk p2 q2)), .second, iv p2, iv q2]) rfl k) ?_
      refine Go.pull (V := T44.setTop (mkF m 114 #[rv a, rv rn_3, rv b33, iv 4, rv rn_3, iv 2, iv 1, .val (.long (own_pk p2 q2)), .second, iv p2, iv q2] [(.int q2), (.int 3), (.ref b33)])) (fun t k => XS.iload X44.here hx rfl (hb hby dBB_112) rfl  k) ?_
      obtain ⟨cl45, Ar45, q45, S45, M45, Hs45, G45⟩ := id V44
      have hin45 : ¬ ((3 : Int32) < 0 ∨ cl45.slots.size ≤ ((3 : Int32)).toNatClampNeg) := inb_of S45 ⟨by decide, by decide⟩
      obtain ⟨T46, h46, X46, e46, W46, st46⟩ := stI X44 hx hZ e44 Ar45 (j := (3 : Int32)) hin45 (g := (mkF m 114 #[rv a, rv rn_3, rv b33, iv 4, rv rn_3, iv 2, iv 1, .val (.long (own_pk p2 q2)), .second, iv p2, iv q2] [(.int q2), (.int 3), (.ref b33)])) rfl rfl (hb hby dBB_114)
      have V46 : Arv Z h46 b33 k33 .int (4 : Int32) [(.int p1), (.int q1), (.int p2), (.int q2)] (.int 0) := Arv.set Ar45 q45 S45 M45 Hs45 G45 rfl W46 3 rfl (Nat.le_of_ble_eq_true rfl)
      have K46 : Keep h0 h46 [] := K44.wr W46 (Or.inr sz_b33)
      have N46 := Fr.snoc X46 N44 g_b33
      refine Go.pull (V := T46.setTop (mkF m 115 #[rv a, rv rn_3, rv b33, iv 4, rv rn_3, iv 2, iv 1, .val (.long (own_pk p2 q2)), .second, iv p2, iv q2] [])) st46 ?_
      refine Go.pull (V := T46.setTop (mkF m 118 #[rv a, rv rn_3, rv b33, iv 4, rv rn_3, iv 2, iv 2, .val (.long (own_pk p2 q2)), .second, iv p2, iv q2] [])) (fun t k => XS.iinc X46.here hx rfl (hb hby dBB_115) rfl (l' := #[rv a, rv rn_3, rv b33, iv 4, rv rn_3, iv 2, iv 2, .val (.long (own_pk p2 q2)), .second, iv p2, iv q2]) rfl k) ?_
      refine Go.pull (V := T46.setTop (mkF m 38 #[rv a, rv rn_3, rv b33, iv 4, rv rn_3, iv 2, iv 2, .val (.long (own_pk p2 q2)), .second, iv p2, iv q2] [])) (fun t k => XS.goto X46.here hx rfl (pc0 := 118) (pc' := 38) rfl (hb hby dBB_118) (by decide) (by decide) k) ?_
      refine Go.pull (V := T46.setTop (mkF m 40 #[rv a, rv rn_3, rv b33, iv 4, rv rn_3, iv 2, iv 2, .val (.long (own_pk p2 q2)), .second, iv p2, iv q2] [(.int 2)])) (fun t k => XS.iload X46.here hx rfl (hb hby dBB_38) rfl  k) ?_
      refine Go.pull (V := T46.setTop (mkF m 42 #[rv a, rv rn_3, rv b33, iv 4, rv rn_3, iv 2, iv 2, .val (.long (own_pk p2 q2)), .second, iv p2, iv q2] [(.int 2), (.int 2)])) (fun t k => XS.iload X46.here hx rfl (hb hby dBB_40) rfl  k) ?_
      refine Go.pull (V := T46.setTop (mkF m 121 #[rv a, rv rn_3, rv b33, iv 4, rv rn_3, iv 2, iv 2, .val (.long (own_pk p2 q2)), .second, iv p2, iv q2] [])) (fun t k => XS.icmpYes X46.here hx rfl (pc0 := 42) (pc' := 121) rfl (hb hby dBB_42) rfl (XT.ii_ge_t (by decide)) (by decide) (by decide) k) ?_
      obtain ⟨T47, h47, X47, e47, E47, A47, D47, -, st47⟩ := newO X46 hx hZ hown (hw _ (List.mem_of_getElem? (i := 62) rfl)) (hw _ (List.mem_of_getElem? (i := 63) rfl)) (hw _ (List.mem_of_getElem? (i := 64) rfl)) e46 (g := (mkF m 121 #[rv a, rv rn_3, rv b33, iv 4, rv rn_3, iv 2, iv 2, .val (.long (own_pk p2 q2)), .second, iv p2, iv q2] [])) rfl (hb hby dBB_121) (by decide) (by decide)
      obtain ⟨b47, g47⟩ : ∃ z, z = h46.size := ⟨_, rfl⟩
      rw [← g47] at A47 D47 st47
      have ne_a_b47 : a ≠ b47 := Nat.ne_of_lt (Nat.lt_of_lt_of_le (((((((Fr'.keep Kc3 nin0).keep Kc4 (ninS (ne_a_rn_3) nin0)).ext E33).other W37 (Or.inl (ne_a_b33))).other W39 (Or.inl (ne_a_b33))).other W44 (Or.inl (ne_a_b33))).other W46 (Or.inl (ne_a_b33))).lt (Nat.le_of_eq g47.symm))
      have ne_ra_b47 : ra ≠ b47 := Nat.ne_of_lt (Nat.lt_of_lt_of_le (((((((Vr.keep Kc3 nin0).keep Kc4 (ninS (ne_ra_rn_3) nin0)).ext E33).other W37 (ne_ra_b33)).other W39 (ne_ra_b33)).other W44 (ne_ra_b33)).other W46 (ne_ra_b33)).lt (Nat.le_of_eq g47.symm))
      have ne_rn_3_b47 : rn_3 ≠ b47 := Nat.ne_of_lt (Nat.lt_of_lt_of_le (((((Fc4_0.ext E33).other W37 (ne_rn_3_b33)).other W39 (ne_rn_3_b33)).other W44 (ne_rn_3_b33)).other W46 (ne_rn_3_b33)).lt (Nat.le_of_eq g47.symm))
      have ne_b33_b47 : b33 ≠ b47 := Nat.ne_of_lt (Nat.lt_of_lt_of_le V46.lt (Nat.le_of_eq g47.symm))
      have sz_b47 : h0.size ≤ b47 := Nat.le_trans (K46).1 (Nat.le_of_eq g47.symm)
      have g_b47 : n0 ≤ b47 := Nat.le_trans Z0 sz_b47
      have K47 : Keep h0 h47 [] := K46.ext E47
      have F48 : Fld Z h47 b47 "com/example/salish/salish/regex/CodePointSet" "bounds" "[I" .null := D47 (Or.inr (hw _ (List.mem_of_getElem? (i := 73) rfl))) (ty := (.array .int)) (by decide)
      refine Go.pull (V := T47.setTop (mkF m 124 #[rv a, rv rn_3, rv b33, iv 4, rv rn_3, iv 2, iv 2, .val (.long (own_pk p2 q2)), .second, iv p2, iv q2] [(.ref b47)])) st47 ?_
      refine Go.pull (V := T47.setTop (mkF m 125 #[rv a, rv rn_3, rv b33, iv 4, rv rn_3, iv 2, iv 2, .val (.long (own_pk p2 q2)), .second, iv p2, iv q2] [(.ref b47), (.ref b47)])) (fun t k => XS.dup X47.here hx rfl (hb hby dBB_124) rfl rfl k) ?_
      refine Go.pull (V := T47.setTop (mkF m 126 #[rv a, rv rn_3, rv b33, iv 4, rv rn_3, iv 2, iv 2, .val (.long (own_pk p2 q2)), .second, iv p2, iv q2] [(.ref b33), (.ref b47), (.ref b47)])) (fun t k => XS.aloadN X47.here hx rfl (hb hby dBB_125) rfl rfl k) ?_
      refine Go.pull (V := T47.setTop (mkF m 127 #[rv a, rv rn_3, rv b33, iv 4, rv rn_3, iv 2, iv 2, .val (.long (own_pk p2 q2)), .second, iv p2, iv q2] [(.int 4), (.ref b33), (.ref b47), (.ref b47)])) (fun t k => XS.iloadN X47.here hx rfl (hb hby dBB_126) rfl  k) ?_
      obtain ⟨_, _, ⟨T49, L49, k49, n49⟩, -, X49, ⟨Lc49, hQ49, l49, y49, z49⟩, st49⟩ := Jvm.LawKit.callS X47 hx (y := (⟨"java/util/Arrays", "copyOf", "([II)[I"⟩ : MethodName)) hown (mvT hZ (hw _ (List.mem_of_getElem? (i := 65) rfl))) (mvT hZ (hw _ (List.mem_of_getElem? (i := 66) rfl))) (mvT hZ (hw _ (List.mem_of_getElem? (i := 40) rfl))) (mvT hZ (hw _ (List.mem_of_getElem? (i := 67) rfl))) (by decide) (backOf (W := 2) (rmCI4 l Z a0 hw [] b33 k33 p1 q1 p2 q2 h47 n0 (Nat.le_trans Z0 (K47).1) (V46.ext E47) (((((D33.wr W37).wr W39).wr W44).wr W46).ext E47)) hZ (hw _ (List.mem_of_getElem? (i := 67) rfl)) (hw _ (List.mem_of_getElem? (i := 40) rfl)) (by decide) (by decide)) (g := (mkF m 127 #[rv a, rv rn_3, rv b33, iv 4, rv rn_3, iv 2, iv 2, .val (.long (own_pk p2 q2)), .second, iv p2, iv q2] [(.int 4), (.ref b33), (.ref b47), (.ref b47)])) rfl (by rw [hml]; rfl) (argsL := [(.ref b33), (.int 4)]) (rest := [(.ref b47), (.ref b47)]) (lenOf pd_6 rfl) rfl (by show 2 * 0 + _ ≤ _; exact Nat.le_of_eq rfl) (hb hby dBB_127) (fun _ _ => ⟨rfl, e47, (by decide : 3 + 1 ≤ _), (by decide : 7 + 4 ≤ _)⟩)
      dsimp only [Pt.U, Pt.locs, Pt.cells, Pt.slots] at X49 l49 y49 z49 st49 hQ49
      subst l49 y49 z49
      obtain ⟨rn_49, kn_49, rfl, N49q, Kc49, nex49_0, Fc49_0⟩ := hQ49
      have ne_a_rn_49 : a ≠ rn_49 := Nat.ne_of_lt (Nat.lt_of_lt_of_le ((((((((Fr'.keep Kc3 nin0).keep Kc4 (ninS (ne_a_rn_3) nin0)).ext E33).other W37 (Or.inl (ne_a_b33))).other W39 (Or.inl (ne_a_b33))).other W44 (Or.inl (ne_a_b33))).other W46 (Or.inl (ne_a_b33))).ext E47).lt nex49_0)
      have ne_ra_rn_49 : ra ≠ rn_49 := Nat.ne_of_lt (Nat.lt_of_lt_of_le ((((((((Vr.keep Kc3 nin0).keep Kc4 (ninS (ne_ra_rn_3) nin0)).ext E33).other W37 (ne_ra_b33)).other W39 (ne_ra_b33)).other W44 (ne_ra_b33)).other W46 (ne_ra_b33)).ext E47).lt nex49_0)
      have ne_rn_3_rn_49 : rn_3 ≠ rn_49 := Nat.ne_of_lt (Nat.lt_of_lt_of_le ((((((Fc4_0.ext E33).other W37 (ne_rn_3_b33)).other W39 (ne_rn_3_b33)).other W44 (ne_rn_3_b33)).other W46 (ne_rn_3_b33)).ext E47).lt nex49_0)
      have ne_b33_rn_49 : b33 ≠ rn_49 := Nat.ne_of_lt (Nat.lt_of_lt_of_le (V46.ext E47).lt nex49_0)
      have ne_b47_rn_49 : b47 ≠ rn_49 := Nat.ne_of_lt (Nat.lt_of_lt_of_le A47.lt nex49_0)
      have sz_rn_49 : h0.size ≤ rn_49 := Nat.le_trans (K47).1 nex49_0
      have g_rn_49 : n0 ≤ rn_49 := Nat.le_trans Z0 sz_rn_49
      have K49 : Keep h0 T49.heap [] := K47.trans Kc49 (all0)
      have N49 := Fr.app N46 N49q
      refine Go.pull (V := T49.setTop (mkF m 130 #[rv a, rv rn_3, rv b33, iv 4, rv rn_3, iv 2, iv 2, .val (.long (own_pk p2 q2)), .second, iv p2, iv q2] [(.ref rn_49), (.ref b47), (.ref b47)])) st49 ?_
      obtain ⟨_, _, ⟨T50, L50, k50, n50⟩, -, X50, ⟨Lc50, hQ50, l50, y50, z50⟩, st50⟩ := X49.specialBackNest hx (y := (⟨"com/example/salish/salish/regex/CodePointSet", "<init>", "([I)V"⟩ : MethodName)) rfl hown (own_mvM hZ (hw _ (List.mem_of_getElem? (i := 68) rfl))) (mvT hZ (hw _ (List.mem_of_getElem? (i := 69) rfl))) (mvT hZ (hw _ (List.mem_of_getElem? (i := 70) rfl))) (by decide) (backOf (W := 1) (rmSI l Z a0 hw [] b47 rn_49 .null T49.heap n0 (g_b47) (A47.keep Kc49) (F48.keep Kc49 nin0)) hZ (hw _ (List.mem_of_getElem? (i := 70) rfl)) (hw _ (List.mem_of_getElem? (i := 64) rfl)) (by decide) (by decide)) (g := (mkF m 130 #[rv a, rv rn_3, rv b33, iv 4, rv rn_3, iv 2, iv 2, .val (.long (own_pk p2 q2)), .second, iv p2, iv q2] [(.ref rn_49), (.ref b47), (.ref b47)])) rfl (by rw [hml]; rfl) (Steps.refl _) (a := b47) (argsL := [(.ref rn_49)]) (rest := [(.ref b47)]) (lenOf pd_7 rfl) rfl (by show 2 * 0 + _ ≤ _; exact Nat.le_of_eq rfl) (hb hby dBB_130) (fun _ _ => ⟨rfl, rfl, (by decide : 4 + 0 ≤ _), (by decide : 11 + 0 ≤ _)⟩)
      dsimp only [Pt.U, Pt.locs, Pt.cells, Pt.slots] at X50 l50 y50 z50 st50 hQ50
      subst l50 y50 z50
      obtain ⟨rfl, N50q, Kc50, Fc50_0⟩ := hQ50
      have K50 : Keep h0 T50.heap [] := K49.trans Kc50 ((allS (Or.inr sz_b47) all0))
      have N50 := Fr.app N49 N50q
      refine Go.pull (V := T50.setTop (mkF m 133 #[rv a, rv rn_3, rv b33, iv 4, rv rn_3, iv 2, iv 2, .val (.long (own_pk p2 q2)), .second, iv p2, iv q2] [(.ref b47)])) (fun _ k => st50.trans k) ?_
      exact Go.retR X50 hx Bd.notSynchronized Bd.returns rfl rfl rfl (hb hby dBB_133) (by exact ⟨b47, rn_49, kn_49, (4 : Int32), [(.int p1), (.int q1), (.int p2), (.int q2)], rfl, N50, K50, sz_b47, sz_rn_49, ((A47.keep Kc49).keep Kc50), Fc50_0, (Fc49_0.keep Kc50 (ninS (Ne.symm (ne_b47_rn_49)) nin0)), (Or.inr (Or.inr (Or.inl ⟨hs1, hc78_42, rfl, rfl⟩)))⟩) (by decide) (by decide)
    · skip
      refine Go.pull (V := T39.setTop (mkF m 81 #[rv a, rv rn_3, rv b33, iv 2, rv rn_3, iv 2, iv 1, .val (.long (own_pk p2 q2)), .second, iv p2, iv q2] [])) (fun t k => XS.icmpNo X39.here hx rfl (hb hby dBB_78) rfl (XT.ii_gt_f hc78_42) k) ?_
      refine Go.pull (V := T39.setTop (mkF m 82 #[rv a, rv rn_3, rv b33, iv 2, rv rn_3, iv 2, iv 1, .val (.long (own_pk p2 q2)), .second, iv p2, iv q2] [(.ref b33)])) (fun t k => XS.aloadN X39.here hx rfl (hb hby dBB_81) rfl rfl k) ?_
      refine Go.pull (V := T39.setTop (mkF m 83 #[rv a, rv rn_3, rv b33, iv 2, rv rn_3, iv 2, iv 1, .val (.long (own_pk p2 q2)), .second, iv p2, iv q2] [(.int 2), (.ref b33)])) (fun t k => XS.iloadN X39.here hx rfl (hb hby dBB_82) rfl  k) ?_
      refine Go.pull (V := T39.setTop (mkF m 84 #[rv a, rv rn_3, rv b33, iv 2, rv rn_3, iv 2, iv 1, .val (.long (own_pk p2 q2)), .second, iv p2, iv q2] [(.int 1), (.int 2), (.ref b33)])) (fun t k => XS.iconst X39.here hx rfl (hb hby dBB_83) k) ?_
      refine Go.pull (V := T39.setTop (mkF m 85 #[rv a, rv rn_3, rv b33, iv 2, rv rn_3, iv 2, iv 1, .val (.long (own_pk p2 q2)), .second, iv p2, iv q2] [(.int 1), (.ref b33)])) (fun t k => XS.isub X39.here hx rfl (hb hby dBB_84) rfl k) ?_
      refine Go.pull (V := T39.setTop (mkF m 86 #[rv a, rv rn_3, rv b33, iv 2, rv rn_3, iv 2, iv 1, .val (.long (own_pk p2 q2)), .second, iv p2, iv q2] [(.ref b33), (.int 1), (.ref b33)])) (fun t k => XS.aloadN X39.here hx rfl (hb hby dBB_85) rfl rfl k) ?_
      refine Go.pull (V := T39.setTop (mkF m 87 #[rv a, rv rn_3, rv b33, iv 2, rv rn_3, iv 2, iv 1, .val (.long (own_pk p2 q2)), .second, iv p2, iv q2] [(.int 2), (.ref b33), (.int 1), (.ref b33)])) (fun t k => XS.iloadN X39.here hx rfl (hb hby dBB_86) rfl  k) ?_
      refine Go.pull (V := T39.setTop (mkF m 88 #[rv a, rv rn_3, rv b33, iv 2, rv rn_3, iv 2, iv 1, .val (.long (own_pk p2 q2)), .second, iv p2, iv q2] [(.int 1), (.int 2), (.ref b33), (.int 1), (.ref b33)])) (fun t k => XS.iconst X39.here hx rfl (hb hby dBB_87) k) ?_
      refine Go.pull (V := T39.setTop (mkF m 89 #[rv a, rv rn_3, rv b33, iv 2, rv rn_3, iv 2, iv 1, .val (.long (own_pk p2 q2)), .second, iv p2, iv q2] [(.int 1), (.ref b33), (.int 1), (.ref b33)])) (fun t k => XS.isub X39.here hx rfl (hb hby dBB_88) rfl k) ?_
      obtain ⟨cl51, Ar51, q51, S51, M51, Hs51, G51⟩ := id V39
      have hin51 : ¬ ((1 : Int32) < 0 ∨ cl51.slots.size ≤ ((1 : Int32)).toNatClampNeg) := inb_of S51 ⟨by decide, by decide⟩
      have hat51 : cl51.slots[((1 : Int32)).toNatClampNeg]? = some (.int q1) := Has.at Hs51 hin51 rfl
      refine Go.pull (V := T39.setTop (mkF m 90 #[rv a, rv rn_3, rv b33, iv 2, rv rn_3, iv 2, iv 1, .val (.long (own_pk p2 q2)), .second, iv p2, iv q2] [(.int q1), (.int 1), (.ref b33)])) (fun t k => X39.iaload hx (j := (1 : Int32)) (v := (.int q1)) (by rw [e39]; exact Ar51.1) (State.isArrayOf_alike hZ.alike Ar51.2.1) Ar51.2.2 hin51 hat51 (g := (mkF m 89 #[rv a, rv rn_3, rv b33, iv 2, rv rn_3, iv 2, iv 1, .val (.long (own_pk p2 q2)), .second, iv p2, iv q2] [(.int 1), (.ref b33), (.int 1), (.ref b33)])) rfl rfl (hb hby dBB_89) _ k) ?_
      refine Go.pull (V := T39.setTop (mkF m 92 #[rv a, rv rn_3, rv b33, iv 2, rv rn_3, iv 2, iv 1, .val (.long (own_pk p2 q2)), .second, iv p2, iv q2] [(.int q2), (.int q1), (.int 1), (.ref b33)])) (fun t k => XS.iload X39.here hx rfl (hb hby dBB_90) rfl  k) ?_
      obtain ⟨_, _, ⟨T52, L52, k52, n52⟩, -, X52, ⟨Lc52, hQ52, l52, y52, z52⟩, st52⟩ := Jvm.LawKit.callS X39 hx (y := (⟨"java/lang/Math", "max", "(II)I"⟩ : MethodName)) hown (mvT hZ (hw _ (List.mem_of_getElem? (i := 61) rfl))) (mvT hZ (hw _ (List.mem_of_getElem? (i := 11) rfl))) (mvT hZ (hw _ (List.mem_of_getElem? (i := 8) rfl))) (mvT hZ (hw _ (List.mem_of_getElem? (i := 12) rfl))) (by decide) (backOf (W := 2) (rmMx l Z a0 hw [] q1 q2 h39 n0 ) hZ (hw _ (List.mem_of_getElem? (i := 12) rfl)) (hw _ (List.mem_of_getElem? (i := 8) rfl)) (by decide) (by decide)) (g := (mkF m 92 #[rv a, rv rn_3, rv b33, iv 2, rv rn_3, iv 2, iv 1, .val (.long (own_pk p2 q2)), .second, iv p2, iv q2] [(.int q2), (.int q1), (.int 1), (.ref b33)])) rfl (by rw [hml]; rfl) (argsL := [(.int q1), (.int q2)]) (rest := [(.int 1), (.ref b33)]) (lenOf pd_0 rfl) rfl (by show 2 * 0 + _ ≤ _; exact Nat.le_of_eq rfl) (hb hby dBB_92) (fun _ _ => ⟨rfl, e39, (by decide : 2 + 0 ≤ _), (by decide : 6 + 0 ≤ _)⟩)
      dsimp only [Pt.U, Pt.locs, Pt.cells, Pt.slots] at X52 l52 y52 z52 st52 hQ52
      subst l52 y52 z52
      obtain ⟨rfl, N52q, e52⟩ := hQ52
      have N52 := Fr.app N39 N52q
      refine Go.pull (V := T52.setTop (mkF m 95 #[rv a, rv rn_3, rv b33, iv 2, rv rn_3, iv 2, iv 1, .val (.long (own_pk p2 q2)), .second, iv p2, iv q2] [(.int (own_max q1 q2)), (.int 1), (.ref b33)])) st52 ?_
      obtain ⟨cl53, Ar53, q53, S53, M53, Hs53, G53⟩ := id V39
      have hin53 : ¬ ((1 : Int32) < 0 ∨ cl53.slots.size ≤ ((1 : Int32)).toNatClampNeg) := inb_of S53 ⟨by decide, by decide⟩
      obtain ⟨T54, h54, X54, e54, W54, st54⟩ := stI X52 hx hZ e52 Ar53 (j := (1 : Int32)) hin53 (g := (mkF m 95 #[rv a, rv rn_3, rv b33, iv 2, rv rn_3, iv 2, iv 1, .val (.long (own_pk p2 q2)), .second, iv p2, iv q2] [(.int (own_max q1 q2)), (.int 1), (.ref b33)])) rfl rfl (hb hby dBB_95)
      have V54 : Arv Z h54 b33 k33 .int (4 : Int32) [(.int p1), (.int (own_max q1 q2)), (.int 0), (.int 0)] (.int 0) := Arv.set Ar53 q53 S53 M53 Hs53 G53 rfl W54 1 rfl (Nat.le_of_ble_eq_true rfl)
      have K54 : Keep h0 h54 [] := K39.wr W54 (Or.inr sz_b33)
      have N54 := Fr.snoc X54 N52 g_b33
      refine Go.pull (V := T54.setTop (mkF m 96 #[rv a, rv rn_3, rv b33, iv 2, rv rn_3, iv 2, iv 1, .val (.long (own_pk p2 q2)), .second, iv p2, iv q2] [])) st54 ?_
      refine Go.pull (V := T54.setTop (mkF m 115 #[rv a, rv rn_3, rv b33, iv 2, rv rn_3, iv 2, iv 1, .val (.long (own_pk p2 q2)), .second, iv p2, iv q2] [])) (fun t k => XS.goto X54.here hx rfl (pc0 := 96) (pc' := 115) rfl (hb hby dBB_96) (by decide) (by decide) k) ?_
      refine Go.pull (V := T54.setTop (mkF m 118 #[rv a, rv rn_3, rv b33, iv 2, rv rn_3, iv 2, iv 2, .val (.long (own_pk p2 q2)), .second, iv p2, iv q2] [])) (fun t k => XS.iinc X54.here hx rfl (hb hby dBB_115) rfl (l' := #[rv a, rv rn_3, rv b33, iv 2, rv rn_3, iv 2, iv 2, .val (.long (own_pk p2 q2)), .second, iv p2, iv q2]) rfl k) ?_
      refine Go.pull (V := T54.setTop (mkF m 38 #[rv a, rv rn_3, rv b33, iv 2, rv rn_3, iv 2, iv 2, .val (.long (own_pk p2 q2)), .second, iv p2, iv q2] [])) (fun t k => XS.goto X54.here hx rfl (pc0 := 118) (pc' := 38) rfl (hb hby dBB_118) (by decide) (by decide) k) ?_
      refine Go.pull (V := T54.setTop (mkF m 40 #[rv a, rv rn_3, rv b33, iv 2, rv rn_3, iv 2, iv 2, .val (.long (own_pk p2 q2)), .second, iv p2, iv q2] [(.int 2)])) (fun t k => XS.iload X54.here hx rfl (hb hby dBB_38) rfl  k) ?_
      refine Go.pull (V := T54.setTop (mkF m 42 #[rv a, rv rn_3, rv b33, iv 2, rv rn_3, iv 2, iv 2, .val (.long (own_pk p2 q2)), .second, iv p2, iv q2] [(.int 2), (.int 2)])) (fun t k => XS.iload X54.here hx rfl (hb hby dBB_40) rfl  k) ?_
      refine Go.pull (V := T54.setTop (mkF m 121 #[rv a, rv rn_3, rv b33, iv 2, rv rn_3, iv 2, iv 2, .val (.long (own_pk p2 q2)), .second, iv p2, iv q2] [])) (fun t k => XS.icmpYes X54.here hx rfl (pc0 := 42) (pc' := 121) rfl (hb hby dBB_42) rfl (XT.ii_ge_t (by decide)) (by decide) (by decide) k) ?_
      obtain ⟨T55, h55, X55, e55, E55, A55, D55, -, st55⟩ := newO X54 hx hZ hown (hw _ (List.mem_of_getElem? (i := 62) rfl)) (hw _ (List.mem_of_getElem? (i := 63) rfl)) (hw _ (List.mem_of_getElem? (i := 64) rfl)) e54 (g := (mkF m 121 #[rv a, rv rn_3, rv b33, iv 2, rv rn_3, iv 2, iv 2, .val (.long (own_pk p2 q2)), .second, iv p2, iv q2] [])) rfl (hb hby dBB_121) (by decide) (by decide)
      obtain ⟨b55, g55⟩ : ∃ z, z = h54.size := ⟨_, rfl⟩
      rw [← g55] at A55 D55 st55
      have ne_a_b55 : a ≠ b55 := Nat.ne_of_lt (Nat.lt_of_lt_of_le ((((((Fr'.keep Kc3 nin0).keep Kc4 (ninS (ne_a_rn_3) nin0)).ext E33).other W37 (Or.inl (ne_a_b33))).other W39 (Or.inl (ne_a_b33))).other W54 (Or.inl (ne_a_b33))).lt (Nat.le_of_eq g55.symm))
      have ne_ra_b55 : ra ≠ b55 := Nat.ne_of_lt (Nat.lt_of_lt_of_le ((((((Vr.keep Kc3 nin0).keep Kc4 (ninS (ne_ra_rn_3) nin0)).ext E33).other W37 (ne_ra_b33)).other W39 (ne_ra_b33)).other W54 (ne_ra_b33)).lt (Nat.le_of_eq g55.symm))
      have ne_rn_3_b55 : rn_3 ≠ b55 := Nat.ne_of_lt (Nat.lt_of_lt_of_le ((((Fc4_0.ext E33).other W37 (ne_rn_3_b33)).other W39 (ne_rn_3_b33)).other W54 (ne_rn_3_b33)).lt (Nat.le_of_eq g55.symm))
      have ne_b33_b55 : b33 ≠ b55 := Nat.ne_of_lt (Nat.lt_of_lt_of_le V54.lt (Nat.le_of_eq g55.symm))
      have sz_b55 : h0.size ≤ b55 := Nat.le_trans (K54).1 (Nat.le_of_eq g55.symm)
      have g_b55 : n0 ≤ b55 := Nat.le_trans Z0 sz_b55
      have K55 : Keep h0 h55 [] := K54.ext E55
      have F56 : Fld Z h55 b55 "com/example/salish/salish/regex/CodePointSet" "bounds" "[I" .null := D55 (Or.inr (hw _ (List.mem_of_getElem? (i := 73) rfl))) (ty := (.array .int)) (by decide)
      refine Go.pull (V := T55.setTop (mkF m 124 #[rv a, rv rn_3, rv b33, iv 2, rv rn_3, iv 2, iv 2, .val (.long (own_pk p2 q2)), .second, iv p2, iv q2] [(.ref b55)])) st55 ?_
      refine Go.pull (V := T55.setTop (mkF m 125 #[rv a, rv rn_3, rv b33, iv 2, rv rn_3, iv 2, iv 2, .val (.long (own_pk p2 q2)), .second, iv p2, iv q2] [(.ref b55), (.ref b55)])) (fun t k => XS.dup X55.here hx rfl (hb hby dBB_124) rfl rfl k) ?_
      refine Go.pull (V := T55.setTop (mkF m 126 #[rv a, rv rn_3, rv b33, iv 2, rv rn_3, iv 2, iv 2, .val (.long (own_pk p2 q2)), .second, iv p2, iv q2] [(.ref b33), (.ref b55), (.ref b55)])) (fun t k => XS.aloadN X55.here hx rfl (hb hby dBB_125) rfl rfl k) ?_
      refine Go.pull (V := T55.setTop (mkF m 127 #[rv a, rv rn_3, rv b33, iv 2, rv rn_3, iv 2, iv 2, .val (.long (own_pk p2 q2)), .second, iv p2, iv q2] [(.int 2), (.ref b33), (.ref b55), (.ref b55)])) (fun t k => XS.iloadN X55.here hx rfl (hb hby dBB_126) rfl  k) ?_
      obtain ⟨_, _, ⟨T57, L57, k57, n57⟩, -, X57, ⟨Lc57, hQ57, l57, y57, z57⟩, st57⟩ := Jvm.LawKit.callS X55 hx (y := (⟨"java/util/Arrays", "copyOf", "([II)[I"⟩ : MethodName)) hown (mvT hZ (hw _ (List.mem_of_getElem? (i := 65) rfl))) (mvT hZ (hw _ (List.mem_of_getElem? (i := 66) rfl))) (mvT hZ (hw _ (List.mem_of_getElem? (i := 40) rfl))) (mvT hZ (hw _ (List.mem_of_getElem? (i := 67) rfl))) (by decide) (backOf (W := 2) (rmCI2 l Z a0 hw [] b33 k33 p1 (own_max q1 q2) (0 : Int32) (0 : Int32) h55 n0 (Nat.le_trans Z0 (K55).1) (V54.ext E55)) hZ (hw _ (List.mem_of_getElem? (i := 67) rfl)) (hw _ (List.mem_of_getElem? (i := 40) rfl)) (by decide) (by decide)) (g := (mkF m 127 #[rv a, rv rn_3, rv b33, iv 2, rv rn_3, iv 2, iv 2, .val (.long (own_pk p2 q2)), .second, iv p2, iv q2] [(.int 2), (.ref b33), (.ref b55), (.ref b55)])) rfl (by rw [hml]; rfl) (argsL := [(.ref b33), (.int 2)]) (rest := [(.ref b55), (.ref b55)]) (lenOf pd_6 rfl) rfl (by show 2 * 0 + _ ≤ _; exact Nat.le_of_eq rfl) (hb hby dBB_127) (fun _ _ => ⟨rfl, e55, (by decide : 3 + 1 ≤ _), (by decide : 7 + 2 ≤ _)⟩)
      dsimp only [Pt.U, Pt.locs, Pt.cells, Pt.slots] at X57 l57 y57 z57 st57 hQ57
      subst l57 y57 z57
      obtain ⟨rn_57, kn_57, rfl, N57q, Kc57, nex57_0, Fc57_0⟩ := hQ57
      have ne_a_rn_57 : a ≠ rn_57 := Nat.ne_of_lt (Nat.lt_of_lt_of_le (((((((Fr'.keep Kc3 nin0).keep Kc4 (ninS (ne_a_rn_3) nin0)).ext E33).other W37 (Or.inl (ne_a_b33))).other W39 (Or.inl (ne_a_b33))).other W54 (Or.inl (ne_a_b33))).ext E55).lt nex57_0)
      have ne_ra_rn_57 : ra ≠ rn_57 := Nat.ne_of_lt (Nat.lt_of_lt_of_le (((((((Vr.keep Kc3 nin0).keep Kc4 (ninS (ne_ra_rn_3) nin0)).ext E33).other W37 (ne_ra_b33)).other W39 (ne_ra_b33)).other W54 (ne_ra_b33)).ext E55).lt nex57_0)
      have ne_rn_3_rn_57 : rn_3 ≠ rn_57 := Nat.ne_of_lt (Nat.lt_of_lt_of_le (((((Fc4_0.ext E33).other W37 (ne_rn_3_b33)).other W39 (ne_rn_3_b33)).other W54 (ne_rn_3_b33)).ext E55).lt nex57_0)
      have ne_b33_rn_57 : b33 ≠ rn_57 := Nat.ne_of_lt (Nat.lt_of_lt_of_le (V54.ext E55).lt nex57_0)
      have ne_b55_rn_57 : b55 ≠ rn_57 := Nat.ne_of_lt (Nat.lt_of_lt_of_le A55.lt nex57_0)
      have sz_rn_57 : h0.size ≤ rn_57 := Nat.le_trans (K55).1 nex57_0
      have g_rn_57 : n0 ≤ rn_57 := Nat.le_trans Z0 sz_rn_57
      have K57 : Keep h0 T57.heap [] := K55.trans Kc57 (all0)
      have N57 := Fr.app N54 N57q
      refine Go.pull (V := T57.setTop (mkF m 130 #[rv a, rv rn_3, rv b33, iv 2, rv rn_3, iv 2, iv 2, .val (.long (own_pk p2 q2)), .second, iv p2, iv q2] [(.ref rn_57), (.ref b55), (.ref b55)])) st57 ?_
      obtain ⟨_, _, ⟨T58, L58, k58, n58⟩, -, X58, ⟨Lc58, hQ58, l58, y58, z58⟩, st58⟩ := X57.specialBackNest hx (y := (⟨"com/example/salish/salish/regex/CodePointSet", "<init>", "([I)V"⟩ : MethodName)) rfl hown (own_mvM hZ (hw _ (List.mem_of_getElem? (i := 68) rfl))) (mvT hZ (hw _ (List.mem_of_getElem? (i := 69) rfl))) (mvT hZ (hw _ (List.mem_of_getElem? (i := 70) rfl))) (by decide) (backOf (W := 1) (rmSI l Z a0 hw [] b55 rn_57 .null T57.heap n0 (g_b55) (A55.keep Kc57) (F56.keep Kc57 nin0)) hZ (hw _ (List.mem_of_getElem? (i := 70) rfl)) (hw _ (List.mem_of_getElem? (i := 64) rfl)) (by decide) (by decide)) (g := (mkF m 130 #[rv a, rv rn_3, rv b33, iv 2, rv rn_3, iv 2, iv 2, .val (.long (own_pk p2 q2)), .second, iv p2, iv q2] [(.ref rn_57), (.ref b55), (.ref b55)])) rfl (by rw [hml]; rfl) (Steps.refl _) (a := b55) (argsL := [(.ref rn_57)]) (rest := [(.ref b55)]) (lenOf pd_7 rfl) rfl (by show 2 * 0 + _ ≤ _; exact Nat.le_of_eq rfl) (hb hby dBB_130) (fun _ _ => ⟨rfl, rfl, (by decide : 4 + 0 ≤ _), (by decide : 9 + 0 ≤ _)⟩)
      dsimp only [Pt.U, Pt.locs, Pt.cells, Pt.slots] at X58 l58 y58 z58 st58 hQ58
      subst l58 y58 z58
      obtain ⟨rfl, N58q, Kc58, Fc58_0⟩ := hQ58
      have K58 : Keep h0 T58.heap [] := K57.trans Kc58 ((allS (Or.inr sz_b55) all0))
      have N58 := Fr.app N57 N58q
      refine Go.pull (V := T58.setTop (mkF m 133 #[rv a, rv rn_3, rv b33, iv 2, rv rn_3, iv 2, iv 2, .val (.long (own_pk p2 q2)), .second, iv p2, iv q2] [(.ref b55)])) (fun _ k => st58.trans k) ?_
      exact Go.retR X58 hx Bd.notSynchronized Bd.returns rfl rfl rfl (hb hby dBB_133) (by exact ⟨b55, rn_57, kn_57, (2 : Int32), [(.int p1), (.int (own_max q1 q2))], rfl, N58, K58, sz_b55, sz_rn_57, ((A55.keep Kc57).keep Kc58), Fc58_0, (Fc57_0.keep Kc58 (ninS (Ne.symm (ne_b55_rn_57)) nin0)), (Or.inr (Or.inr (Or.inr ⟨hs1, hc78_42, rfl, rfl⟩)))⟩) (by decide) (by decide)
theorem dRC_0 : decode prog_16_method_5_code 0 = .ok (.aload_n 0, 1) := by decide +kernel
theorem dRC_1 : decode prog_16_method_5_code 1 = .ok (.getfield 7, 3) := by decide +kernel
theorem dRC_4 : decode prog_16_method_5_code 4 = .ok (.arraylength, 1) := by decide +kernel
theorem dRC_5 : decode prog_16_method_5_code 5 = .ok (.iconst 2, 1) := by decide +kernel
theorem dRC_6 : decode prog_16_method_5_code 6 = .ok (.idiv, 1) := by decide +kernel
theorem dRC_7 : decode prog_16_method_5_code 7 = .ok (.ireturn, 1) := by decide +kernel
theorem efRC (m : MethodId) (x0 : Addr) : entryFrame m #[(.ref x0)] 1 = mkF m 0 #[rv x0] [] := by first | (simp [entryFrame, mkF, argsToLocals, Value.category]; done) | rfl
def QRC (Z : State) (a : Addr) (rb : Addr) (kb : ClassId) (zn : Int32) (vs : List Value) (h0 : Heap) (n0 : Nat) (v : Option Value) (h : Heap) (L : List Loc) : Prop := v = some (.int (zn / (2 : Int32))) ∧ Fr n0 L ∧ h = h0
set_option maxRecDepth 65536 in
set_option maxHeartbeats 40000000 in
theorem rmRC (l : Launch) (Z : State) (a0 : Array Value) (hw : ∀ d ∈ tables_1, d.before a0 Z = true) (ws : List Jvm.Cond) (a : Addr) (rb : Addr) (kb : ClassId) (zn : Int32) (vs : List Value) (h0 : Heap) (n0 : Nat) (Fb : Fld Z h0 a "com/example/salish/salish/regex/CodePointSet" "bounds" "[I" (.ref rb)) (Vb : Arv Z h0 rb kb .int zn vs (.int 0)) :
    MetFree l (⟨"com/example/salish/salish/regex/CodePointSet", "rangeCount", "()I"⟩ : MethodName) (head1 (Jvm.Cond.code (⟨"com/example/salish/salish/regex/CodePointSet", "rangeCount", "()I"⟩ : MethodName) prog_16_method_5_code 1 (some .int) :: ws) ({ frames := 0, cells := 0, slots := 0, locals := 0 } : Room)) (fun as' U => as' = #[(.ref a)] ∧ Z.Warmed39 U.vm ∧ U.heap = h0) (fun _ _ _ _ _ => True) (fun _ U o U' => ∃ v L, o = .returned v ∧ QRC Z a rb kb zn vs h0 n0 v U'.heap L ∧ FrameEnd U o U' L ({ frames := 0, cells := 0, slots := 0, locals := 0 } : Room).cells ({ frames := 0, cells := 0, slots := 0, locals := 0 } : Room).slots) := by
  refine MetFree.of_bodySF (plainFor_of_name pn_com_example_salish_salish_regex_CodePointSet) hisR ?_
  intro p e s m args below meth c s₁ Bd hml0 hP hK
  obtain ⟨rfl, hZ, hh⟩ := hP
  have hx := Bd.exec
  have hby := Bd.bytes
  have hml : c.maxLocals = 1 := hml0
  have hown : s.vm.findClass "com/example/salish/salish/regex/CodePointSet" = some m.cls := findClass_of_methodNamed Bd.named
  have hnm := (name_of_methodNamed Bd.named Bd.method).1
  have X0 : Stand p l e ({ frames := 0, cells := 0, slots := 0, locals := 0 } : Room) s m #[(.ref a)] below meth c s₁ [] 0 0 := Stand.of_body Bd
  have e0 : s₁.heap = h0 := by rw [← hh, Bd.state]; rfl
  have N0 := Fr.nil n0
  show Go p e below s (fun v h L => QRC Z a rb kb zn vs h0 n0 v h L) 0 0 _
  refine Go.pull (V := s₁.setTop (mkF m 0 #[rv a] [])) (fun t k => castTop (efRC m a) k) ?_
  refine Go.pull (V := s₁.setTop (mkF m 1 #[rv a] [(.ref a)])) (fun t k => XS.aloadN X0.here hx rfl (hb hby dRC_0) rfl rfl k) ?_
  obtain ⟨T1, X1, e1, st1⟩ := getF X0 hx hZ hown (host := "") (Or.inl (hw _ (List.mem_of_getElem? (i := 72) rfl))) Via.refl e0 Fb (g := (mkF m 1 #[rv a] [(.ref a)])) rfl rfl (hb hby dRC_1)
  refine Go.pull (V := T1.setTop (mkF m 4 #[rv a] [(.ref rb)])) st1 ?_
  obtain ⟨cl2, Ar2, q2, S2, M2, Hs2, G2⟩ := id Vb
  refine Go.pull (V := T1.setTop (mkF m 5 #[rv a] [(.int zn)])) (fun t k => X1.arraylength hx (by rw [e1]; exact Ar2.1) (State.isArrayOf_alike hZ.alike Ar2.2.1) (g := (mkF m 4 #[rv a] [(.ref rb)])) rfl rfl (hb hby dRC_4) _ (by rw [len_of S2 M2]; exact k)) ?_
  refine Go.pull (V := T1.setTop (mkF m 6 #[rv a] [(.int 2), (.int zn)])) (fun t k => XS.iconst X1.here hx rfl (hb hby dRC_5) k) ?_
  refine Go.pull (V := T1.setTop (mkF m 7 #[rv a] [(.int (zn / (2 : Int32)))])) (fun t k => XS.idiv X1.here hx rfl (hb hby dRC_6) rfl (by decide) k) ?_
  exact Go.retI X1 hx Bd.notSynchronized Bd.returns (hb hby dRC_7) ⟨rfl, N0, e1⟩ (by decide) (by decide)
theorem dFI_0 : decode prog_16_method_6_code 0 = .ok (.aload_n 0, 1) := by decide +kernel
theorem dFI_1 : decode prog_16_method_6_code 1 = .ok (.getfield 7, 3) := by decide +kernel
theorem dFI_4 : decode prog_16_method_6_code 4 = .ok (.iconst 2, 1) := by decide +kernel
theorem dFI_5 : decode prog_16_method_6_code 5 = .ok (.iload_n 1, 1) := by decide +kernel
theorem dFI_6 : decode prog_16_method_6_code 6 = .ok (.imul, 1) := by decide +kernel
theorem dFI_7 : decode prog_16_method_6_code 7 = .ok (.iaload, 1) := by decide +kernel
theorem dFI_8 : decode prog_16_method_6_code 8 = .ok (.ireturn, 1) := by decide +kernel
theorem efFI (m : MethodId) (x0 : Addr) (x1 : Int32) : entryFrame m #[(.ref x0), (.int x1)] 2 = mkF m 0 #[rv x0, iv x1] [] := by first | (simp [entryFrame, mkF, argsToLocals, Value.category]; done) | rfl
def QFI (Z : State) (a : Addr) (pi : Int32) (rb : Addr) (kb : ClassId) (zn : Int32) (vs : List Value) (pw : Int32) (h0 : Heap) (n0 : Nat) (v : Option Value) (h : Heap) (L : List Loc) : Prop := v = some (.int pw) ∧ Fr n0 L ∧ h = h0
set_option maxRecDepth 65536 in
set_option maxHeartbeats 40000000 in
theorem rmFI (l : Launch) (Z : State) (a0 : Array Value) (hw : ∀ d ∈ tables_1, d.before a0 Z = true) (ws : List Jvm.Cond) (a : Addr) (pi : Int32) (rb : Addr) (kb : ClassId) (zn : Int32) (vs : List Value) (pw : Int32) (h0 : Heap) (n0 : Nat) (Fb : Fld Z h0 a "com/example/salish/salish/regex/CodePointSet" "bounds" "[I" (.ref rb)) (Vb : Arv Z h0 rb kb .int zn vs (.int 0)) (hge : vs.getD ((2 : Int32) * pi).toNatClampNeg (.int 0) = .int pw) (hin : ¬ ((2 : Int32) * pi) < 0 ∧ ((2 : Int32) * pi) < zn) :
    MetFree l (⟨"com/example/salish/salish/regex/CodePointSet", "first", "(I)I"⟩ : MethodName) (head1 (Jvm.Cond.code (⟨"com/example/salish/salish/regex/CodePointSet", "first", "(I)I"⟩ : MethodName) prog_16_method_6_code 2 (some .int) :: ws) ({ frames := 0, cells := 0, slots := 0, locals := 0 } : Room)) (fun as' U => as' = #[(.ref a), (.int pi)] ∧ Z.Warmed39 U.vm ∧ U.heap = h0) (fun _ _ _ _ _ => True) (fun _ U o U' => ∃ v L, o = .returned v ∧ QFI Z a pi rb kb zn vs pw h0 n0 v U'.heap L ∧ FrameEnd U o U' L ({ frames := 0, cells := 0, slots := 0, locals := 0 } : Room).cells ({ frames := 0, cells := 0, slots := 0, locals := 0 } : Room).slots) := by
  refine MetFree.of_bodySF (plainFor_of_name pn_com_example_salish_salish_regex_CodePointSet) hisR ?_
  intro p e s m args below meth c s₁ Bd hml0 hP hK
  obtain ⟨rfl, hZ, hh⟩ := hP
  have hx := Bd.exec
  have hby := Bd.bytes
  have hml : c.maxLocals = 2 := hml0
  have hown : s.vm.findClass "com/example/salish/salish/regex/CodePointSet" = some m.cls := findClass_of_methodNamed Bd.named
  have hnm := (name_of_methodNamed Bd.named Bd.method).1
  have X0 : Stand p l e ({ frames := 0, cells := 0, slots := 0, locals := 0 } : Room) s m #[(.ref a), (.int pi)] below meth c s₁ [] 0 0 := Stand.of_body Bd
  have e0 : s₁.heap = h0 := by rw [← hh, Bd.state]; rfl
  have N0 := Fr.nil n0
  show Go p e below s (fun v h L => QFI Z a pi rb kb zn vs pw h0 n0 v h L) 0 0 _
  refine Go.pull (V := s₁.setTop (mkF m 0 #[rv a, iv pi] [])) (fun t k => castTop (efFI m a pi) k) ?_
  refine Go.pull (V := s₁.setTop (mkF m 1 #[rv a, iv pi] [(.ref a)])) (fun t k => XS.aloadN X0.here hx rfl (hb hby dFI_0) rfl rfl k) ?_
  obtain ⟨T1, X1, e1, st1⟩ := getF X0 hx hZ hown (host := "") (Or.inl (hw _ (List.mem_of_getElem? (i := 72) rfl))) Via.refl e0 Fb (g := (mkF m 1 #[rv a, iv pi] [(.ref a)])) rfl rfl (hb hby dFI_1)
  refine Go.pull (V := T1.setTop (mkF m 4 #[rv a, iv pi] [(.ref rb)])) st1 ?_
  refine Go.pull (V := T1.setTop (mkF m 5 #[rv a, iv pi] [(.int 2), (.ref rb)])) (fun t k => XS.iconst X1.here hx rfl (hb hby dFI_4) k) ?_
  refine Go.pull (V := T1.setTop (mkF m 6 #[rv a, iv pi] [(.int pi), (.int 2), (.ref rb)])) (fun t k => XS.iloadN X1.here hx rfl (hb hby dFI_5) rfl  k) ?_
  refine Go.pull (V := T1.setTop (mkF m 7 #[rv a, iv pi] [(.int ((2 : Int32) * pi)), (.ref rb)])) (fun t k => XS.imul X1.here hx rfl (hb hby dFI_6) rfl k) ?_
  obtain ⟨cl2, Ar2, q2, S2, M2, Hs2, G2⟩ := id Vb
  have hin2 : ¬ (((2 : Int32) * pi) < 0 ∨ cl2.slots.size ≤ (((2 : Int32) * pi)).toNatClampNeg) := inb_of S2 hin
  have hat2 : cl2.slots[(((2 : Int32) * pi)).toNatClampNeg]? = some (.int pw) := Has.at Hs2 hin2 hge
  refine Go.pull (V := T1.setTop (mkF m 8 #[rv a, iv pi] [(.int pw)])) (fun t k => X1.iaload hx (j := ((2 : Int32) * pi)) (v := (.int pw)) (by rw [e1]; exact Ar2.1) (State.isArrayOf_alike hZ.alike Ar2.2.1) Ar2.2.2 hin2 hat2 (g := (mkF m 7 #[rv a, iv pi] [(.int ((2 : Int32) * pi)), (.ref rb)])) rfl rfl (hb hby dFI_7) _ k) ?_
  exact Go.retI X1 hx Bd.notSynchronized Bd.returns (hb hby dFI_8) ⟨rfl, N0, e1⟩ (by decide) (by decide)
theorem dLA_0 : decode prog_16_method_7_code 0 = .ok (.aload_n 0, 1) := by decide +kernel
theorem dLA_1 : decode prog_16_method_7_code 1 = .ok (.getfield 7, 3) := by decide +kernel
theorem dLA_4 : decode prog_16_method_7_code 4 = .ok (.iconst 2, 1) := by decide +kernel
theorem dLA_5 : decode prog_16_method_7_code 5 = .ok (.iload_n 1, 1) := by decide +kernel
theorem dLA_6 : decode prog_16_method_7_code 6 = .ok (.imul, 1) := by decide +kernel
theorem dLA_7 : decode prog_16_method_7_code 7 = .ok (.iconst 1, 1) := by decide +kernel
theorem dLA_8 : decode prog_16_method_7_code 8 = .ok (.iadd, 1) := by decide +kernel
theorem dLA_9 : decode prog_16_method_7_code 9 = .ok (.iaload, 1) := by decide +kernel
theorem dLA_10 : decode prog_16_method_7_code 10 = .ok (.ireturn, 1) := by decide +kernel
theorem efLA (m : MethodId) (x0 : Addr) (x1 : Int32) : entryFrame m #[(.ref x0), (.int x1)] 2 = mkF m 0 #[rv x0, iv x1] [] := by first | (simp [entryFrame, mkF, argsToLocals, Value.category]; done) | rfl
def QLA (Z : State) (a : Addr) (pi : Int32) (rb : Addr) (kb : ClassId) (zn : Int32) (vs : List Value) (pw : Int32) (h0 : Heap) (n0 : Nat) (v : Option Value) (h : Heap) (L : List Loc) : Prop := v = some (.int pw) ∧ Fr n0 L ∧ h = h0
set_option maxRecDepth 65536 in
set_option maxHeartbeats 40000000 in
theorem rmLA (l : Launch) (Z : State) (a0 : Array Value) (hw : ∀ d ∈ tables_1, d.before a0 Z = true) (ws : List Jvm.Cond) (a : Addr) (pi : Int32) (rb : Addr) (kb : ClassId) (zn : Int32) (vs : List Value) (pw : Int32) (h0 : Heap) (n0 : Nat) (Fb : Fld Z h0 a "com/example/salish/salish/regex/CodePointSet" "bounds" "[I" (.ref rb)) (Vb : Arv Z h0 rb kb .int zn vs (.int 0)) (hge : vs.getD (((2 : Int32) * pi) + (1 : Int32)).toNatClampNeg (.int 0) = .int pw) (hin : ¬ (((2 : Int32) * pi) + (1 : Int32)) < 0 ∧ (((2 : Int32) * pi) + (1 : Int32)) < zn) :
    MetFree l (⟨"com/example/salish/salish/regex/CodePointSet", "last", "(I)I"⟩ : MethodName) (head1 (Jvm.Cond.code (⟨"com/example/salish/salish/regex/CodePointSet", "last", "(I)I"⟩ : MethodName) prog_16_method_7_code 2 (some .int) :: ws) ({ frames := 0, cells := 0, slots := 0, locals := 0 } : Room)) (fun as' U => as' = #[(.ref a), (.int pi)] ∧ Z.Warmed39 U.vm ∧ U.heap = h0) (fun _ _ _ _ _ => True) (fun _ U o U' => ∃ v L, o = .returned v ∧ QLA Z a pi rb kb zn vs pw h0 n0 v U'.heap L ∧ FrameEnd U o U' L ({ frames := 0, cells := 0, slots := 0, locals := 0 } : Room).cells ({ frames := 0, cells := 0, slots := 0, locals := 0 } : Room).slots) := by
  refine MetFree.of_bodySF (plainFor_of_name pn_com_example_salish_salish_regex_CodePointSet) hisR ?_
  intro p e s m args below meth c s₁ Bd hml0 hP hK
  obtain ⟨rfl, hZ, hh⟩ := hP
  have hx := Bd.exec
  have hby := Bd.bytes
  have hml : c.maxLocals = 2 := hml0
  have hown : s.vm.findClass "com/example/salish/salish/regex/CodePointSet" = some m.cls := findClass_of_methodNamed Bd.named
  have hnm := (name_of_methodNamed Bd.named Bd.method).1
  have X0 : Stand p l e ({ frames := 0, cells := 0, slots := 0, locals := 0 } : Room) s m #[(.ref a), (.int pi)] below meth c s₁ [] 0 0 := Stand.of_body Bd
  have e0 : s₁.heap = h0 := by rw [← hh, Bd.state]; rfl
  have N0 := Fr.nil n0
  show Go p e below s (fun v h L => QLA Z a pi rb kb zn vs pw h0 n0 v h L) 0 0 _
  refine Go.pull (V := s₁.setTop (mkF m 0 #[rv a, iv pi] [])) (fun t k => castTop (efLA m a pi) k) ?_
  refine Go.pull (V := s₁.setTop (mkF m 1 #[rv a, iv pi] [(.ref a)])) (fun t k => XS.aloadN X0.here hx rfl (hb hby dLA_0) rfl rfl k) ?_
  obtain ⟨T1, X1, e1, st1⟩ := getF X0 hx hZ hown (host := "") (Or.inl (hw _ (List.mem_of_getElem? (i := 72) rfl))) Via.refl e0 Fb (g := (mkF m 1 #[rv a, iv pi] [(.ref a)])) rfl rfl (hb hby dLA_1)
  refine Go.pull (V := T1.setTop (mkF m 4 #[rv a, iv pi] [(.ref rb)])) st1 ?_
  refine Go.pull (V := T1.setTop (mkF m 5 #[rv a, iv pi] [(.int 2), (.ref rb)])) (fun t k => XS.iconst X1.here hx rfl (hb hby dLA_4) k) ?_
  refine Go.pull (V := T1.setTop (mkF m 6 #[rv a, iv pi] [(.int pi), (.int 2), (.ref rb)])) (fun t k => XS.iloadN X1.here hx rfl (hb hby dLA_5) rfl  k) ?_
  refine Go.pull (V := T1.setTop (mkF m 7 #[rv a, iv pi] [(.int ((2 : Int32) * pi)), (.ref rb)])) (fun t k => XS.imul X1.here hx rfl (hb hby dLA_6) rfl k) ?_
  refine Go.pull (V := T1.setTop (mkF m 8 #[rv a, iv pi] [(.int 1), (.int ((2 : Int32) * pi)), (.ref rb)])) (fun t k => XS.iconst X1.here hx rfl (hb hby dLA_7) k) ?_
  refine Go.pull (V := T1.setTop (mkF m 9 #[rv a, iv pi] [(.int (((2 : Int32) * pi) + (1 : Int32))), (.ref rb)])) (fun t k => XS.iadd X1.here hx rfl (hb hby dLA_8) rfl k) ?_
  obtain ⟨cl2, Ar2, q2, S2, M2, Hs2, G2⟩ := id Vb
  have hin2 : ¬ ((((2 : Int32) * pi) + (1 : Int32)) < 0 ∨ cl2.slots.size ≤ ((((2 : Int32) * pi) + (1 : Int32))).toNatClampNeg) := inb_of S2 hin
  have hat2 : cl2.slots[((((2 : Int32) * pi) + (1 : Int32))).toNatClampNeg]? = some (.int pw) := Has.at Hs2 hin2 hge
  refine Go.pull (V := T1.setTop (mkF m 10 #[rv a, iv pi] [(.int pw)])) (fun t k => X1.iaload hx (j := (((2 : Int32) * pi) + (1 : Int32))) (v := (.int pw)) (by rw [e1]; exact Ar2.1) (State.isArrayOf_alike hZ.alike Ar2.2.1) Ar2.2.2 hin2 hat2 (g := (mkF m 9 #[rv a, iv pi] [(.int (((2 : Int32) * pi) + (1 : Int32))), (.ref rb)])) rfl rfl (hb hby dLA_9) _ k) ?_
  exact Go.retI X1 hx Bd.notSynchronized Bd.returns (hb hby dLA_10) ⟨rfl, N0, e1⟩ (by decide) (by decide)
theorem ef0 (m : MethodId) (x0 : Int32) (x1 : Int32) (x2 : Int32) (x3 : Int32) (x4 : Int32) : entryFrame m #[(.int x0), (.int x1), (.int x2), (.int x3), (.int x4)] maxLocals = mkF m 0 #[iv x0, iv x1, iv x2, iv x3, iv x4, .unset, .unset, .unset, .unset, .unset, .unset, .unset, .unset, .unset, .unset, .unset, .unset, .unset, .unset, .unset, .unset, .unset] [] := by first | (simp [entryFrame, mkF, argsToLocals, Value.category, maxLocals]; done) | rfl
def Q0 (Z : State) (pp : Int32) (pq : Int32) (pr' : Int32) (ps : Int32) (pm : Int32) (h0 : Heap) (n0 : Nat) (v : Option Value) (h : Heap) (L : List Loc) : Prop := v = some (.int 1) ∧ Fr n0 L
set_option maxRecDepth 65536 in
set_option maxHeartbeats 40000000 in
theorem rm0 (l : Launch) (Z : State) (a0 : Array Value) (hw : ∀ d ∈ tables_1, d.before a0 Z = true) (ws : List Jvm.Cond) (pp : Int32) (pq : Int32) (pr' : Int32) (ps : Int32) (pm : Int32) (h0 : Heap) (n0 : Nat) (Z0 : n0 ≤ h0.size) :
    MetFree l x (head1 (Jvm.Cond.code x code maxLocals ret :: ws) room_1) (fun as' U => as' = #[(.int pp), (.int pq), (.int pr'), (.int ps), (.int pm)] ∧ Z.Warmed39 U.vm ∧ U.heap = h0) (fun _ _ _ _ _ => True) (fun _ U o U' => ∃ v L, o = .returned v ∧ Q0 Z pp pq pr' ps pm h0 n0 v U'.heap L ∧ FrameEnd U o U' L 24 128) := by
  refine MetFree.of_bodySF (plainFor_of_name pn_com_example_salish_salish_regex_BuilderAddPinLaw) hisR ?_
  intro p e s m args below meth c s₁ Bd hml0 hP hK
  obtain ⟨rfl, hZ, hh⟩ := hP
  have hx := Bd.exec
  have hby := Bd.bytes
  have hml : c.maxLocals = 22 := hml0
  have hown : s.vm.findClass "com/example/salish/salish/regex/BuilderAddPinLaw" = some m.cls := findClass_of_methodNamed Bd.named
  have hnm := (name_of_methodNamed Bd.named Bd.method).1
  have X0 : Stand p l e room_1 s m #[(.int pp), (.int pq), (.int pr'), (.int ps), (.int pm)] below meth c s₁ [] 0 0 := Stand.of_body Bd
  have e0 : s₁.heap = h0 := by rw [← hh, Bd.state]; rfl
  have N0 := Fr.nil n0
  show Go p e below s (fun v h L => Q0 Z pp pq pr' ps pm h0 n0 v h L) 24 128 _
  refine Go.pull (V := s₁.setTop (mkF m 0 #[iv pp, iv pq, iv pr', iv ps, iv pm, .unset, .unset, .unset, .unset, .unset, .unset, .unset, .unset, .unset, .unset, .unset, .unset, .unset, .unset, .unset, .unset, .unset] [])) (fun t k => castTop (ef0 m pp pq pr' ps pm) k) ?_
  refine Go.pull (V := s₁.setTop (mkF m 1 #[iv pp, iv pq, iv pr', iv ps, iv pm, .unset, .unset, .unset, .unset, .unset, .unset, .unset, .unset, .unset, .unset, .unset, .unset, .unset, .unset, .unset, .unset, .unset] [(.int pp)])) (fun t k => XS.iloadN X0.here hx rfl (hb hby at_0) rfl  k) ?_
  refine Go.pull (V := s₁.setTop (mkF m 3 #[iv pp, iv pq, iv pr', iv ps, iv pm, .unset, .unset, .unset, .unset, .unset, .unset, .unset, .unset, .unset, .unset, .unset, .unset, .unset, .unset, .unset, .unset, .unset] [(.int pm), (.int pp)])) (fun t k => XS.iload X0.here hx rfl (hb hby at_1) rfl  k) ?_
  obtain ⟨_, _, ⟨T1, L1, k1, n1⟩, -, X1, ⟨Lc1, hQ1, l1, y1, z1⟩, st1⟩ := Jvm.LawKit.callS X0 hx (y := (⟨"com/example/salish/salish/regex/BuilderAddPinLaw", "cp", "(II)I"⟩ : MethodName)) hown (mvT hZ (hw _ (List.mem_of_getElem? (i := 0) rfl))) (mvT hZ (hw _ (List.mem_of_getElem? (i := 1) rfl))) (mvT hZ (hw _ (List.mem_of_getElem? (i := 2) rfl))) (mvT hZ (hw _ (List.mem_of_getElem? (i := 3) rfl))) (by decide) (backOf (W := 0) (rmC l Z a0 hw [] pp pm h0 n0 ) hZ (hw _ (List.mem_of_getElem? (i := 3) rfl)) (hw _ (List.mem_of_getElem? (i := 2) rfl)) (by decide) (by decide)) (g := (mkF m 3 #[iv pp, iv pq, iv pr', iv ps, iv pm, .unset, .unset, .unset, .unset, .unset, .unset, .unset, .unset, .unset, .unset, .unset, .unset, .unset, .unset, .unset, .unset, .unset] [(.int pm), (.int pp)])) rfl (by rw [hml]; rfl) (argsL := [(.int pp), (.int pm)]) (rest := []) (lenOf pd_0 rfl) rfl (by show 2 * 0 + _ ≤ _; exact Nat.le_of_eq rfl) (hb hby at_3) (fun _ _ => ⟨rfl, e0, (by decide : 0 + 0 ≤ _), (by decide : 0 + 0 ≤ _)⟩)
  dsimp only [Pt.U, Pt.locs, Pt.cells, Pt.slots] at X1 l1 y1 z1 st1 hQ1
  subst l1 y1 z1
  obtain ⟨pr_1, rfl, N1q, Kc1, Qx1_0⟩ := hQ1
  have N1 := Fr.app N0 N1q
  refine Go.pull (V := T1.setTop (mkF m 6 #[iv pp, iv pq, iv pr', iv ps, iv pm, .unset, .unset, .unset, .unset, .unset, .unset, .unset, .unset, .unset, .unset, .unset, .unset, .unset, .unset, .unset, .unset, .unset] [(.int pr_1)])) st1 ?_
  refine Go.pull (V := T1.setTop (mkF m 8 #[iv pp, iv pq, iv pr', iv ps, iv pm, iv pr_1, .unset, .unset, .unset, .unset, .unset, .unset, .unset, .unset, .unset, .unset, .unset, .unset, .unset, .unset, .unset, .unset] [])) (fun t k => XS.istore X1.here hx rfl (hb hby at_6) rfl (l' := #[iv pp, iv pq, iv pr', iv ps, iv pm, iv pr_1, .unset, .unset, .unset, .unset, .unset, .unset, .unset, .unset, .unset, .unset, .unset, .unset, .unset, .unset, .unset, .unset]) rfl k) ?_
  refine Go.pull (V := T1.setTop (mkF m 9 #[iv pp, iv pq, iv pr', iv ps, iv pm, iv pr_1, .unset, .unset, .unset, .unset, .unset, .unset, .unset, .unset, .unset, .unset, .unset, .unset, .unset, .unset, .unset, .unset] [(.int pq)])) (fun t k => XS.iloadN X1.here hx rfl (hb hby at_8) rfl  k) ?_
  refine Go.pull (V := T1.setTop (mkF m 11 #[iv pp, iv pq, iv pr', iv ps, iv pm, iv pr_1, .unset, .unset, .unset, .unset, .unset, .unset, .unset, .unset, .unset, .unset, .unset, .unset, .unset, .unset, .unset, .unset] [(.int pm), (.int pq)])) (fun t k => XS.iload X1.here hx rfl (hb hby at_9) rfl  k) ?_
  obtain ⟨_, _, ⟨T2, L2, k2, n2⟩, -, X2, ⟨Lc2, hQ2, l2, y2, z2⟩, st2⟩ := Jvm.LawKit.callS X1 hx (y := (⟨"com/example/salish/salish/regex/BuilderAddPinLaw", "cp", "(II)I"⟩ : MethodName)) hown (mvT hZ (hw _ (List.mem_of_getElem? (i := 0) rfl))) (mvT hZ (hw _ (List.mem_of_getElem? (i := 1) rfl))) (mvT hZ (hw _ (List.mem_of_getElem? (i := 2) rfl))) (mvT hZ (hw _ (List.mem_of_getElem? (i := 3) rfl))) (by decide) (backOf (W := 0) (rmC l Z a0 hw [] pq pm h0 n0 ) hZ (hw _ (List.mem_of_getElem? (i := 3) rfl)) (hw _ (List.mem_of_getElem? (i := 2) rfl)) (by decide) (by decide)) (g := (mkF m 11 #[iv pp, iv pq, iv pr', iv ps, iv pm, iv pr_1, .unset, .unset, .unset, .unset, .unset, .unset, .unset, .unset, .unset, .unset, .unset, .unset, .unset, .unset, .unset, .unset] [(.int pm), (.int pq)])) rfl (by rw [hml]; rfl) (argsL := [(.int pq), (.int pm)]) (rest := []) (lenOf pd_0 rfl) rfl (by show 2 * 0 + _ ≤ _; exact Nat.le_of_eq rfl) (hb hby at_11) (fun _ _ => ⟨rfl, Kc1, (by decide : 0 + 0 ≤ _), (by decide : 0 + 0 ≤ _)⟩)
  dsimp only [Pt.U, Pt.locs, Pt.cells, Pt.slots] at X2 l2 y2 z2 st2 hQ2
  subst l2 y2 z2
  obtain ⟨pr_2, rfl, N2q, Kc2, Qx2_0⟩ := hQ2
  have N2 := Fr.app N1 N2q
  refine Go.pull (V := T2.setTop (mkF m 14 #[iv pp, iv pq, iv pr', iv ps, iv pm, iv pr_1, .unset, .unset, .unset, .unset, .unset, .unset, .unset, .unset, .unset, .unset, .unset, .unset, .unset, .unset, .unset, .unset] [(.int pr_2)])) st2 ?_
  refine Go.pull (V := T2.setTop (mkF m 16 #[iv pp, iv pq, iv pr', iv ps, iv pm, iv pr_1, iv pr_2, .unset, .unset, .unset, .unset, .unset, .unset, .unset, .unset, .unset, .unset, .unset, .unset, .unset, .unset, .unset] [])) (fun t k => XS.istore X2.here hx rfl (hb hby at_14) rfl (l' := #[iv pp, iv pq, iv pr', iv ps, iv pm, iv pr_1, iv pr_2, .unset, .unset, .unset, .unset, .unset, .unset, .unset, .unset, .unset, .unset, .unset, .unset, .unset, .unset, .unset]) rfl k) ?_
  refine Go.pull (V := T2.setTop (mkF m 17 #[iv pp, iv pq, iv pr', iv ps, iv pm, iv pr_1, iv pr_2, .unset, .unset, .unset, .unset, .unset, .unset, .unset, .unset, .unset, .unset, .unset, .unset, .unset, .unset, .unset] [(.int pr')])) (fun t k => XS.iloadN X2.here hx rfl (hb hby at_16) rfl  k) ?_
  refine Go.pull (V := T2.setTop (mkF m 19 #[iv pp, iv pq, iv pr', iv ps, iv pm, iv pr_1, iv pr_2, .unset, .unset, .unset, .unset, .unset, .unset, .unset, .unset, .unset, .unset, .unset, .unset, .unset, .unset, .unset] [(.int pm), (.int pr')])) (fun t k => XS.iload X2.here hx rfl (hb hby at_17) rfl  k) ?_
  obtain ⟨_, _, ⟨T3, L3, k3, n3⟩, -, X3, ⟨Lc3, hQ3, l3, y3, z3⟩, st3⟩ := Jvm.LawKit.callS X2 hx (y := (⟨"com/example/salish/salish/regex/BuilderAddPinLaw", "cp", "(II)I"⟩ : MethodName)) hown (mvT hZ (hw _ (List.mem_of_getElem? (i := 0) rfl))) (mvT hZ (hw _ (List.mem_of_getElem? (i := 1) rfl))) (mvT hZ (hw _ (List.mem_of_getElem? (i := 2) rfl))) (mvT hZ (hw _ (List.mem_of_getElem? (i := 3) rfl))) (by decide) (backOf (W := 0) (rmC l Z a0 hw [] pr' pm h0 n0 ) hZ (hw _ (List.mem_of_getElem? (i := 3) rfl)) (hw _ (List.mem_of_getElem? (i := 2) rfl)) (by decide) (by decide)) (g := (mkF m 19 #[iv pp, iv pq, iv pr', iv ps, iv pm, iv pr_1, iv pr_2, .unset, .unset, .unset, .unset, .unset, .unset, .unset, .unset, .unset, .unset, .unset, .unset, .unset, .unset, .unset] [(.int pm), (.int pr')])) rfl (by rw [hml]; rfl) (argsL := [(.int pr'), (.int pm)]) (rest := []) (lenOf pd_0 rfl) rfl (by show 2 * 0 + _ ≤ _; exact Nat.le_of_eq rfl) (hb hby at_19) (fun _ _ => ⟨rfl, Kc2, (by decide : 0 + 0 ≤ _), (by decide : 0 + 0 ≤ _)⟩)
  dsimp only [Pt.U, Pt.locs, Pt.cells, Pt.slots] at X3 l3 y3 z3 st3 hQ3
  subst l3 y3 z3
  obtain ⟨pr_3, rfl, N3q, Kc3, Qx3_0⟩ := hQ3
  have N3 := Fr.app N2 N3q
  refine Go.pull (V := T3.setTop (mkF m 22 #[iv pp, iv pq, iv pr', iv ps, iv pm, iv pr_1, iv pr_2, .unset, .unset, .unset, .unset, .unset, .unset, .unset, .unset, .unset, .unset, .unset, .unset, .unset, .unset, .unset] [(.int pr_3)])) st3 ?_
  refine Go.pull (V := T3.setTop (mkF m 24 #[iv pp, iv pq, iv pr', iv ps, iv pm, iv pr_1, iv pr_2, iv pr_3, .unset, .unset, .unset, .unset, .unset, .unset, .unset, .unset, .unset, .unset, .unset, .unset, .unset, .unset] [])) (fun t k => XS.istore X3.here hx rfl (hb hby at_22) rfl (l' := #[iv pp, iv pq, iv pr', iv ps, iv pm, iv pr_1, iv pr_2, iv pr_3, .unset, .unset, .unset, .unset, .unset, .unset, .unset, .unset, .unset, .unset, .unset, .unset, .unset, .unset]) rfl k) ?_
  refine Go.pull (V := T3.setTop (mkF m 25 #[iv pp, iv pq, iv pr', iv ps, iv pm, iv pr_1, iv pr_2, iv pr_3, .unset, .unset, .unset, .unset, .unset, .unset, .unset, .unset, .unset, .unset, .unset, .unset, .unset, .unset] [(.int ps)])) (fun t k => XS.iloadN X3.here hx rfl (hb hby at_24) rfl  k) ?_
  refine Go.pull (V := T3.setTop (mkF m 27 #[iv pp, iv pq, iv pr', iv ps, iv pm, iv pr_1, iv pr_2, iv pr_3, .unset, .unset, .unset, .unset, .unset, .unset, .unset, .unset, .unset, .unset, .unset, .unset, .unset, .unset] [(.int pm), (.int ps)])) (fun t k => XS.iload X3.here hx rfl (hb hby at_25) rfl  k) ?_
  obtain ⟨_, _, ⟨T4, L4, k4, n4⟩, -, X4, ⟨Lc4, hQ4, l4, y4, z4⟩, st4⟩ := Jvm.LawKit.callS X3 hx (y := (⟨"com/example/salish/salish/regex/BuilderAddPinLaw", "cp", "(II)I"⟩ : MethodName)) hown (mvT hZ (hw _ (List.mem_of_getElem? (i := 0) rfl))) (mvT hZ (hw _ (List.mem_of_getElem? (i := 1) rfl))) (mvT hZ (hw _ (List.mem_of_getElem? (i := 2) rfl))) (mvT hZ (hw _ (List.mem_of_getElem? (i := 3) rfl))) (by decide) (backOf (W := 0) (rmC l Z a0 hw [] ps pm h0 n0 ) hZ (hw _ (List.mem_of_getElem? (i := 3) rfl)) (hw _ (List.mem_of_getElem? (i := 2) rfl)) (by decide) (by decide)) (g := (mkF m 27 #[iv pp, iv pq, iv pr', iv ps, iv pm, iv pr_1, iv pr_2, iv pr_3, .unset, .unset, .unset, .unset, .unset, .unset, .unset, .unset, .unset, .unset, .unset, .unset, .unset, .unset] [(.int pm), (.int ps)])) rfl (by rw [hml]; rfl) (argsL := [(.int ps), (.int pm)]) (rest := []) (lenOf pd_0 rfl) rfl (by show 2 * 0 + _ ≤ _; exact Nat.le_of_eq rfl) (hb hby at_27) (fun _ _ => ⟨rfl, Kc3, (by decide : 0 + 0 ≤ _), (by decide : 0 + 0 ≤ _)⟩)
  dsimp only [Pt.U, Pt.locs, Pt.cells, Pt.slots] at X4 l4 y4 z4 st4 hQ4
  subst l4 y4 z4
  obtain ⟨pr_4, rfl, N4q, Kc4, Qx4_0⟩ := hQ4
  have N4 := Fr.app N3 N4q
  refine Go.pull (V := T4.setTop (mkF m 30 #[iv pp, iv pq, iv pr', iv ps, iv pm, iv pr_1, iv pr_2, iv pr_3, .unset, .unset, .unset, .unset, .unset, .unset, .unset, .unset, .unset, .unset, .unset, .unset, .unset, .unset] [(.int pr_4)])) st4 ?_
  refine Go.pull (V := T4.setTop (mkF m 32 #[iv pp, iv pq, iv pr', iv ps, iv pm, iv pr_1, iv pr_2, iv pr_3, iv pr_4, .unset, .unset, .unset, .unset, .unset, .unset, .unset, .unset, .unset, .unset, .unset, .unset, .unset] [])) (fun t k => XS.istore X4.here hx rfl (hb hby at_30) rfl (l' := #[iv pp, iv pq, iv pr', iv ps, iv pm, iv pr_1, iv pr_2, iv pr_3, iv pr_4, .unset, .unset, .unset, .unset, .unset, .unset, .unset, .unset, .unset, .unset, .unset, .unset, .unset]) rfl k) ?_
  refine Go.pull (V := T4.setTop (mkF m 34 #[iv pp, iv pq, iv pr', iv ps, iv pm, iv pr_1, iv pr_2, iv pr_3, iv pr_4, .unset, .unset, .unset, .unset, .unset, .unset, .unset, .unset, .unset, .unset, .unset, .unset, .unset] [(.int pr_1)])) (fun t k => XS.iload X4.here hx rfl (hb hby at_32) rfl  k) ?_
  refine Go.pull (V := T4.setTop (mkF m 36 #[iv pp, iv pq, iv pr', iv ps, iv pm, iv pr_1, iv pr_2, iv pr_3, iv pr_4, .unset, .unset, .unset, .unset, .unset, .unset, .unset, .unset, .unset, .unset, .unset, .unset, .unset] [(.int pr_2), (.int pr_1)])) (fun t k => XS.iload X4.here hx rfl (hb hby at_34) rfl  k) ?_
  obtain ⟨_, _, ⟨T5, L5, k5, n5⟩, -, X5, ⟨Lc5, hQ5, l5, y5, z5⟩, st5⟩ := Jvm.LawKit.callS X4 hx (y := (⟨"java/lang/Math", "min", "(II)I"⟩ : MethodName)) hown (mvT hZ (hw _ (List.mem_of_getElem? (i := 6) rfl))) (mvT hZ (hw _ (List.mem_of_getElem? (i := 7) rfl))) (mvT hZ (hw _ (List.mem_of_getElem? (i := 8) rfl))) (mvT hZ (hw _ (List.mem_of_getElem? (i := 9) rfl))) (by decide) (backOf (W := 0) (rmMn l Z a0 hw [] pr_1 pr_2 h0 n0 ) hZ (hw _ (List.mem_of_getElem? (i := 9) rfl)) (hw _ (List.mem_of_getElem? (i := 8) rfl)) (by decide) (by decide)) (g := (mkF m 36 #[iv pp, iv pq, iv pr', iv ps, iv pm, iv pr_1, iv pr_2, iv pr_3, iv pr_4, .unset, .unset, .unset, .unset, .unset, .unset, .unset, .unset, .unset, .unset, .unset, .unset, .unset] [(.int pr_2), (.int pr_1)])) rfl (by rw [hml]; rfl) (argsL := [(.int pr_1), (.int pr_2)]) (rest := []) (lenOf pd_0 rfl) rfl (by show 2 * 0 + _ ≤ _; exact Nat.le_of_eq rfl) (hb hby at_36) (fun _ _ => ⟨rfl, Kc4, (by decide : 0 + 0 ≤ _), (by decide : 0 + 0 ≤ _)⟩)
  dsimp only [Pt.U, Pt.locs, Pt.cells, Pt.slots] at X5 l5 y5 z5 st5 hQ5
  subst l5 y5 z5
  obtain ⟨rfl, N5q, e5⟩ := hQ5
  have N5 := Fr.app N4 N5q
  refine Go.pull (V := T5.setTop (mkF m 39 #[iv pp, iv pq, iv pr', iv ps, iv pm, iv pr_1, iv pr_2, iv pr_3, iv pr_4, .unset, .unset, .unset, .unset, .unset, .unset, .unset, .unset, .unset, .unset, .unset, .unset, .unset] [(.int (own_min pr_1 pr_2))])) st5 ?_
  refine Go.pull (V := T5.setTop (mkF m 41 #[iv pp, iv pq, iv pr', iv ps, iv pm, iv pr_1, iv pr_2, iv pr_3, iv pr_4, iv (own_min pr_1 pr_2), .unset, .unset, .unset, .unset, .unset, .unset, .unset, .unset, .unset, .unset, .unset, .unset] [])) (fun t k => XS.istore X5.here hx rfl (hb hby at_39) rfl (l' := #[iv pp, iv pq, iv pr', iv ps, iv pm, iv pr_1, iv pr_2, iv pr_3, iv pr_4, iv (own_min pr_1 pr_2), .unset, .unset, .unset, .unset, .unset, .unset, .unset, .unset, .unset, .unset, .unset, .unset]) rfl k) ?_
  refine Go.pull (V := T5.setTop (mkF m 43 #[iv pp, iv pq, iv pr', iv ps, iv pm, iv pr_1, iv pr_2, iv pr_3, iv pr_4, iv (own_min pr_1 pr_2), .unset, .unset, .unset, .unset, .unset, .unset, .unset, .unset, .unset, .unset, .unset, .unset] [(.int pr_1)])) (fun t k => XS.iload X5.here hx rfl (hb hby at_41) rfl  k) ?_
  refine Go.pull (V := T5.setTop (mkF m 45 #[iv pp, iv pq, iv pr', iv ps, iv pm, iv pr_1, iv pr_2, iv pr_3, iv pr_4, iv (own_min pr_1 pr_2), .unset, .unset, .unset, .unset, .unset, .unset, .unset, .unset, .unset, .unset, .unset, .unset] [(.int pr_2), (.int pr_1)])) (fun t k => XS.iload X5.here hx rfl (hb hby at_43) rfl  k) ?_
  obtain ⟨_, _, ⟨T6, L6, k6, n6⟩, -, X6, ⟨Lc6, hQ6, l6, y6, z6⟩, st6⟩ := Jvm.LawKit.callS X5 hx (y := (⟨"java/lang/Math", "max", "(II)I"⟩ : MethodName)) hown (mvT hZ (hw _ (List.mem_of_getElem? (i := 10) rfl))) (mvT hZ (hw _ (List.mem_of_getElem? (i := 11) rfl))) (mvT hZ (hw _ (List.mem_of_getElem? (i := 8) rfl))) (mvT hZ (hw _ (List.mem_of_getElem? (i := 12) rfl))) (by decide) (backOf (W := 0) (rmMx l Z a0 hw [] pr_1 pr_2 h0 n0 ) hZ (hw _ (List.mem_of_getElem? (i := 12) rfl)) (hw _ (List.mem_of_getElem? (i := 8) rfl)) (by decide) (by decide)) (g := (mkF m 45 #[iv pp, iv pq, iv pr', iv ps, iv pm, iv pr_1, iv pr_2, iv pr_3, iv pr_4, iv (own_min pr_1 pr_2), .unset, .unset, .unset, .unset, .unset, .unset, .unset, .unset, .unset, .unset, .unset, .unset] [(.int pr_2), (.int pr_1)])) rfl (by rw [hml]; rfl) (argsL := [(.int pr_1), (.int pr_2)]) (rest := []) (lenOf pd_0 rfl) rfl (by show 2 * 0 + _ ≤ _; exact Nat.le_of_eq rfl) (hb hby at_45) (fun _ _ => ⟨rfl, e5, (by decide : 0 + 0 ≤ _), (by decide : 0 + 0 ≤ _)⟩)
  dsimp only [Pt.U, Pt.locs, Pt.cells, Pt.slots] at X6 l6 y6 z6 st6 hQ6
  subst l6 y6 z6
  obtain ⟨rfl, N6q, e6⟩ := hQ6
  have N6 := Fr.app N5 N6q
  refine Go.pull (V := T6.setTop (mkF m 48 #[iv pp, iv pq, iv pr', iv ps, iv pm, iv pr_1, iv pr_2, iv pr_3, iv pr_4, iv (own_min pr_1 pr_2), .unset, .unset, .unset, .unset, .unset, .unset, .unset, .unset, .unset, .unset, .unset, .unset] [(.int (own_max pr_1 pr_2))])) st6 ?_
  refine Go.pull (V := T6.setTop (mkF m 50 #[iv pp, iv pq, iv pr', iv ps, iv pm, iv pr_1, iv pr_2, iv pr_3, iv pr_4, iv (own_min pr_1 pr_2), iv (own_max pr_1 pr_2), .unset, .unset, .unset, .unset, .unset, .unset, .unset, .unset, .unset, .unset, .unset] [])) (fun t k => XS.istore X6.here hx rfl (hb hby at_48) rfl (l' := #[iv pp, iv pq, iv pr', iv ps, iv pm, iv pr_1, iv pr_2, iv pr_3, iv pr_4, iv (own_min pr_1 pr_2), iv (own_max pr_1 pr_2), .unset, .unset, .unset, .unset, .unset, .unset, .unset, .unset, .unset, .unset, .unset]) rfl k) ?_
  refine Go.pull (V := T6.setTop (mkF m 52 #[iv pp, iv pq, iv pr', iv ps, iv pm, iv pr_1, iv pr_2, iv pr_3, iv pr_4, iv (own_min pr_1 pr_2), iv (own_max pr_1 pr_2), .unset, .unset, .unset, .unset, .unset, .unset, .unset, .unset, .unset, .unset, .unset] [(.int pr_3)])) (fun t k => XS.iload X6.here hx rfl (hb hby at_50) rfl  k) ?_
  refine Go.pull (V := T6.setTop (mkF m 54 #[iv pp, iv pq, iv pr', iv ps, iv pm, iv pr_1, iv pr_2, iv pr_3, iv pr_4, iv (own_min pr_1 pr_2), iv (own_max pr_1 pr_2), .unset, .unset, .unset, .unset, .unset, .unset, .unset, .unset, .unset, .unset, .unset] [(.int pr_4), (.int pr_3)])) (fun t k => XS.iload X6.here hx rfl (hb hby at_52) rfl  k) ?_
  obtain ⟨_, _, ⟨T7, L7, k7, n7⟩, -, X7, ⟨Lc7, hQ7, l7, y7, z7⟩, st7⟩ := Jvm.LawKit.callS X6 hx (y := (⟨"java/lang/Math", "min", "(II)I"⟩ : MethodName)) hown (mvT hZ (hw _ (List.mem_of_getElem? (i := 6) rfl))) (mvT hZ (hw _ (List.mem_of_getElem? (i := 7) rfl))) (mvT hZ (hw _ (List.mem_of_getElem? (i := 8) rfl))) (mvT hZ (hw _ (List.mem_of_getElem? (i := 9) rfl))) (by decide) (backOf (W := 0) (rmMn l Z a0 hw [] pr_3 pr_4 h0 n0 ) hZ (hw _ (List.mem_of_getElem? (i := 9) rfl)) (hw _ (List.mem_of_getElem? (i := 8) rfl)) (by decide) (by decide)) (g := (mkF m 54 #[iv pp, iv pq, iv pr', iv ps, iv pm, iv pr_1, iv pr_2, iv pr_3, iv pr_4, iv (own_min pr_1 pr_2), iv (own_max pr_1 pr_2), .unset, .unset, .unset, .unset, .unset, .unset, .unset, .unset, .unset, .unset, .unset] [(.int pr_4), (.int pr_3)])) rfl (by rw [hml]; rfl) (argsL := [(.int pr_3), (.int pr_4)]) (rest := []) (lenOf pd_0 rfl) rfl (by show 2 * 0 + _ ≤ _; exact Nat.le_of_eq rfl) (hb hby at_54) (fun _ _ => ⟨rfl, e6, (by decide : 0 + 0 ≤ _), (by decide : 0 + 0 ≤ _)⟩)
  dsimp only [Pt.U, Pt.locs, Pt.cells, Pt.slots] at X7 l7 y7 z7 st7 hQ7
  subst l7 y7 z7
  obtain ⟨rfl, N7q, e7⟩ := hQ7
  have N7 := Fr.app N6 N7q
  refine Go.pull (V := T7.setTop (mkF m 57 #[iv pp, iv pq, iv pr', iv ps, iv pm, iv pr_1, iv pr_2, iv pr_3, iv pr_4, iv (own_min pr_1 pr_2), iv (own_max pr_1 pr_2), .unset, .unset, .unset, .unset, .unset, .unset, .unset, .unset, .unset, .unset, .unset] [(.int (own_min pr_3 pr_4))])) st7 ?_
  refine Go.pull (V := T7.setTop (mkF m 59 #[iv pp, iv pq, iv pr', iv ps, iv pm, iv pr_1, iv pr_2, iv pr_3, iv pr_4, iv (own_min pr_1 pr_2), iv (own_max pr_1 pr_2), iv (own_min pr_3 pr_4), .unset, .unset, .unset, .unset, .unset, .unset, .unset, .unset, .unset, .unset] [])) (fun t k => XS.istore X7.here hx rfl (hb hby at_57) rfl (l' := #[iv pp, iv pq, iv pr', iv ps, iv pm, iv pr_1, iv pr_2, iv pr_3, iv pr_4, iv (own_min pr_1 pr_2), iv (own_max pr_1 pr_2), iv (own_min pr_3 pr_4), .unset, .unset, .unset, .unset, .unset, .unset, .unset, .unset, .unset, .unset]) rfl k) ?_
  refine Go.pull (V := T7.setTop (mkF m 61 #[iv pp, iv pq, iv pr', iv ps, iv pm, iv pr_1, iv pr_2, iv pr_3, iv pr_4, iv (own_min pr_1 pr_2), iv (own_max pr_1 pr_2), iv (own_min pr_3 pr_4), .unset, .unset, .unset, .unset, .unset, .unset, .unset, .unset, .unset, .unset] [(.int pr_3)])) (fun t k => XS.iload X7.here hx rfl (hb hby at_59) rfl  k) ?_
  refine Go.pull (V := T7.setTop (mkF m 63 #[iv pp, iv pq, iv pr', iv ps, iv pm, iv pr_1, iv pr_2, iv pr_3, iv pr_4, iv (own_min pr_1 pr_2), iv (own_max pr_1 pr_2), iv (own_min pr_3 pr_4), .unset, .unset, .unset, .unset, .unset, .unset, .unset, .unset, .unset, .unset] [(.int pr_4), (.int pr_3)])) (fun t k => XS.iload X7.here hx rfl (hb hby at_61) rfl  k) ?_
  obtain ⟨_, _, ⟨T8, L8, k8, n8⟩, -, X8, ⟨Lc8, hQ8, l8, y8, z8⟩, st8⟩ := Jvm.LawKit.callS X7 hx (y := (⟨"java/lang/Math", "max", "(II)I"⟩ : MethodName)) hown (mvT hZ (hw _ (List.mem_of_getElem? (i := 10) rfl))) (mvT hZ (hw _ (List.mem_of_getElem? (i := 11) rfl))) (mvT hZ (hw _ (List.mem_of_getElem? (i := 8) rfl))) (mvT hZ (hw _ (List.mem_of_getElem? (i := 12) rfl))) (by decide) (backOf (W := 0) (rmMx l Z a0 hw [] pr_3 pr_4 h0 n0 ) hZ (hw _ (List.mem_of_getElem? (i := 12) rfl)) (hw _ (List.mem_of_getElem? (i := 8) rfl)) (by decide) (by decide)) (g := (mkF m 63 #[iv pp, iv pq, iv pr', iv ps, iv pm, iv pr_1, iv pr_2, iv pr_3, iv pr_4, iv (own_min pr_1 pr_2), iv (own_max pr_1 pr_2), iv (own_min pr_3 pr_4), .unset, .unset, .unset, .unset, .unset, .unset, .unset, .unset, .unset, .unset] [(.int pr_4), (.int pr_3)])) rfl (by rw [hml]; rfl) (argsL := [(.int pr_3), (.int pr_4)]) (rest := []) (lenOf pd_0 rfl) rfl (by show 2 * 0 + _ ≤ _; exact Nat.le_of_eq rfl) (hb hby at_63) (fun _ _ => ⟨rfl, e7, (by decide : 0 + 0 ≤ _), (by decide : 0 + 0 ≤ _)⟩)
  dsimp only [Pt.U, Pt.locs, Pt.cells, Pt.slots] at X8 l8 y8 z8 st8 hQ8
  subst l8 y8 z8
  obtain ⟨rfl, N8q, e8⟩ := hQ8
  have N8 := Fr.app N7 N8q
  refine Go.pull (V := T8.setTop (mkF m 66 #[iv pp, iv pq, iv pr', iv ps, iv pm, iv pr_1, iv pr_2, iv pr_3, iv pr_4, iv (own_min pr_1 pr_2), iv (own_max pr_1 pr_2), iv (own_min pr_3 pr_4), .unset, .unset, .unset, .unset, .unset, .unset, .unset, .unset, .unset, .unset] [(.int (own_max pr_3 pr_4))])) st8 ?_
  refine Go.pull (V := T8.setTop (mkF m 68 #[iv pp, iv pq, iv pr', iv ps, iv pm, iv pr_1, iv pr_2, iv pr_3, iv pr_4, iv (own_min pr_1 pr_2), iv (own_max pr_1 pr_2), iv (own_min pr_3 pr_4), iv (own_max pr_3 pr_4), .unset, .unset, .unset, .unset, .unset, .unset, .unset, .unset, .unset] [])) (fun t k => XS.istore X8.here hx rfl (hb hby at_66) rfl (l' := #[iv pp, iv pq, iv pr', iv ps, iv pm, iv pr_1, iv pr_2, iv pr_3, iv pr_4, iv (own_min pr_1 pr_2), iv (own_max pr_1 pr_2), iv (own_min pr_3 pr_4), iv (own_max pr_3 pr_4), .unset, .unset, .unset, .unset, .unset, .unset, .unset, .unset, .unset]) rfl k) ?_
  have hA := own_mm Qx1_0 Qx2_0
  have hB := own_mm Qx3_0 Qx4_0
  generalize (own_min pr_1 pr_2) = za1 at hA ⊢
  generalize (own_max pr_1 pr_2) = zb1 at hA ⊢
  generalize (own_min pr_3 pr_4) = za2 at hB ⊢
  generalize (own_max pr_3 pr_4) = zb2 at hB ⊢
  have hb1p := own_p1 (q := zb1) (by omega)
  have hb2p := own_p1 (q := zb2) (by omega)
  obtain ⟨T9, h9, X9, e9, E9, A9, D9, -, st9⟩ := newO X8 hx hZ hown (hw _ (List.mem_of_getElem? (i := 13) rfl)) (hw _ (List.mem_of_getElem? (i := 14) rfl)) (hw _ (List.mem_of_getElem? (i := 15) rfl)) e8 (g := (mkF m 68 #[iv pp, iv pq, iv pr', iv ps, iv pm, iv pr_1, iv pr_2, iv pr_3, iv pr_4, iv za1, iv zb1, iv za2, iv zb2, .unset, .unset, .unset, .unset, .unset, .unset, .unset, .unset, .unset] [])) rfl (hb hby at_68) (by decide) (by decide)
  obtain ⟨b9, g9⟩ : ∃ z, z = h0.size := ⟨_, rfl⟩
  rw [← g9] at A9 D9 st9
  have sz_b9 : h0.size ≤ b9 := Nat.le_trans ((Keep.refl h0 [])).1 (Nat.le_of_eq g9.symm)
  have g_b9 : n0 ≤ b9 := Nat.le_trans Z0 sz_b9
  have K9 : Keep h0 h9 [] := (Keep.refl h0 []).ext E9
  have F10 : Fld Z h9 b9 "com/example/salish/salish/regex/CodePointSet$Builder" "ranges" "[J" .null := D9 (Or.inl (hw _ (List.mem_of_getElem? (i := 24) rfl))) (ty := (.array .long)) (by decide)
  have F11 : Fld Z h9 b9 "com/example/salish/salish/regex/CodePointSet$Builder" "count" "I" (.int 0) := D9 (Or.inl (hw _ (List.mem_of_getElem? (i := 32) rfl))) (ty := .int) (by decide)
  refine Go.pull (V := T9.setTop (mkF m 71 #[iv pp, iv pq, iv pr', iv ps, iv pm, iv pr_1, iv pr_2, iv pr_3, iv pr_4, iv za1, iv zb1, iv za2, iv zb2, .unset, .unset, .unset, .unset, .unset, .unset, .unset, .unset, .unset] [(.ref b9)])) st9 ?_
  refine Go.pull (V := T9.setTop (mkF m 72 #[iv pp, iv pq, iv pr', iv ps, iv pm, iv pr_1, iv pr_2, iv pr_3, iv pr_4, iv za1, iv zb1, iv za2, iv zb2, .unset, .unset, .unset, .unset, .unset, .unset, .unset, .unset, .unset] [(.ref b9), (.ref b9)])) (fun t k => XS.dup X9.here hx rfl (hb hby at_71) rfl rfl k) ?_
  obtain ⟨_, _, ⟨T12, L12, k12, n12⟩, -, X12, ⟨Lc12, hQ12, l12, y12, z12⟩, st12⟩ := X9.specialBack hx (y := (⟨"com/example/salish/salish/regex/CodePointSet$Builder", "<init>", "()V"⟩ : MethodName)) rfl hown (mvT hZ (hw _ (List.mem_of_getElem? (i := 16) rfl))) (mvT hZ (hw _ (List.mem_of_getElem? (i := 17) rfl))) (mvT hZ (hw _ (List.mem_of_getElem? (i := 18) rfl))) (by decide) (backOf (W := 1) (rmBI l Z a0 hw [] b9 .null h9 n0 (Nat.le_trans Z0 (K9).1) (g_b9) A9 F10 F11) hZ (hw _ (List.mem_of_getElem? (i := 18) rfl)) (hw _ (List.mem_of_getElem? (i := 15) rfl)) (by decide) (by decide)) (g := (mkF m 72 #[iv pp, iv pq, iv pr', iv ps, iv pm, iv pr_1, iv pr_2, iv pr_3, iv pr_4, iv za1, iv zb1, iv za2, iv zb2, .unset, .unset, .unset, .unset, .unset, .unset, .unset, .unset, .unset] [(.ref b9), (.ref b9)])) rfl (by rw [hml]; rfl) (Steps.refl _) (a := b9) (argsL := []) (rest := [(.ref b9)]) (lenOf pd_8 rfl) rfl (by show 2 * 0 + _ ≤ _; exact Nat.le_of_eq rfl) (hb hby at_72) (fun _ _ => ⟨rfl, e9, (by decide : 1 + 1 ≤ _), (by decide : 2 + 8 ≤ _)⟩)
  dsimp only [Pt.U, Pt.locs, Pt.cells, Pt.slots] at X12 l12 y12 z12 st12 hQ12
  subst l12 y12 z12
  obtain ⟨ra_12, ka_12, rfl, N12q, Kc12, nex12_0, Fc12_0, Fc12_1, Fc12_2⟩ := hQ12
  have ne_b9_ra_12 : b9 ≠ ra_12 := Nat.ne_of_lt (Nat.lt_of_lt_of_le A9.lt nex12_0)
  have sz_ra_12 : h0.size ≤ ra_12 := Nat.le_trans (K9).1 nex12_0
  have g_ra_12 : n0 ≤ ra_12 := Nat.le_trans Z0 sz_ra_12
  have K12 : Keep h0 T12.heap [] := K9.trans Kc12 ((allS (Or.inr sz_b9) all0))
  have N12 := Fr.app N8 N12q
  refine Go.pull (V := T12.setTop (mkF m 75 #[iv pp, iv pq, iv pr', iv ps, iv pm, iv pr_1, iv pr_2, iv pr_3, iv pr_4, iv za1, iv zb1, iv za2, iv zb2, .unset, .unset, .unset, .unset, .unset, .unset, .unset, .unset, .unset] [(.ref b9)])) (fun _ k => st12.trans k) ?_
  refine Go.pull (V := T12.setTop (mkF m 77 #[iv pp, iv pq, iv pr', iv ps, iv pm, iv pr_1, iv pr_2, iv pr_3, iv pr_4, iv za1, iv zb1, iv za2, iv zb2, rv b9, .unset, .unset, .unset, .unset, .unset, .unset, .unset, .unset] [])) (fun t k => XS.astore X12.here hx rfl (hb hby at_75) rfl rfl (l' := #[iv pp, iv pq, iv pr', iv ps, iv pm, iv pr_1, iv pr_2, iv pr_3, iv pr_4, iv za1, iv zb1, iv za2, iv zb2, rv b9, .unset, .unset, .unset, .unset, .unset, .unset, .unset, .unset]) rfl k) ?_
  refine Go.pull (V := T12.setTop (mkF m 79 #[iv pp, iv pq, iv pr', iv ps, iv pm, iv pr_1, iv pr_2, iv pr_3, iv pr_4, iv za1, iv zb1, iv za2, iv zb2, rv b9, .unset, .unset, .unset, .unset, .unset, .unset, .unset, .unset] [(.ref b9)])) (fun t k => XS.aload X12.here hx rfl (hb hby at_77) rfl rfl k) ?_
  refine Go.pull (V := T12.setTop (mkF m 81 #[iv pp, iv pq, iv pr', iv ps, iv pm, iv pr_1, iv pr_2, iv pr_3, iv pr_4, iv za1, iv zb1, iv za2, iv zb2, rv b9, .unset, .unset, .unset, .unset, .unset, .unset, .unset, .unset] [(.int za1), (.ref b9)])) (fun t k => XS.iload X12.here hx rfl (hb hby at_79) rfl  k) ?_
  refine Go.pull (V := T12.setTop (mkF m 83 #[iv pp, iv pq, iv pr', iv ps, iv pm, iv pr_1, iv pr_2, iv pr_3, iv pr_4, iv za1, iv zb1, iv za2, iv zb2, rv b9, .unset, .unset, .unset, .unset, .unset, .unset, .unset, .unset] [(.int zb1), (.int za1), (.ref b9)])) (fun t k => XS.iload X12.here hx rfl (hb hby at_81) rfl  k) ?_
  obtain ⟨cq13, kq13, q13a, q13b, q13c⟩ := isOf hZ rfl (A9.keep Kc12)
  obtain ⟨_, _, ⟨T13, L13, k13, n13⟩, -, X13, ⟨Lc13, hQ13, l13, y13, z13⟩, st13⟩ := X12.virtualBack hx (y := (⟨"com/example/salish/salish/regex/CodePointSet$Builder", "add", "(II)Lcom/example/salish/salish/regex/CodePointSet$Builder;"⟩ : MethodName)) (z := (⟨"com/example/salish/salish/regex/CodePointSet$Builder", "add", "(II)Lcom/example/salish/salish/regex/CodePointSet$Builder;"⟩ : MethodName)) hown (mvT hZ (hw _ (List.mem_of_getElem? (i := 25) rfl))) (mvT hZ (hw _ (List.mem_of_getElem? (i := 26) rfl))) (notFace_of_selects (args := #[]) (mvT hZ (hw _ (List.mem_of_getElem? (i := 28) rfl)))) (mvT hZ (hw _ (List.mem_of_getElem? (i := 28) rfl))) (mvT hZ (hw _ (List.mem_of_getElem? (i := 27) rfl))) (by decide) (backOf (W := 0) (rmA0 l Z a0 hw [] b9 za1 zb1 ra_12 ka_12 T12.heap n0 (g_b9) (g_ra_12) (A9.keep Kc12) Fc12_0 Fc12_1 Fc12_2 (own_nlt (by omega)) (own_n0 (by omega)) (own_nm (by omega)) (ne_b9_ra_12)) hZ (hw _ (List.mem_of_getElem? (i := 29) rfl)) (hw _ (List.mem_of_getElem? (i := 15) rfl)) (by decide) (by decide)) q13a q13c (g := (mkF m 83 #[iv pp, iv pq, iv pr', iv ps, iv pm, iv pr_1, iv pr_2, iv pr_3, iv pr_4, iv za1, iv zb1, iv za2, iv zb2, rv b9, .unset, .unset, .unset, .unset, .unset, .unset, .unset, .unset] [(.int zb1), (.int za1), (.ref b9)])) rfl (by rw [hml]; rfl) (Steps.refl _) (argsL := [(.int za1), (.int zb1)]) (rest := []) (lenOf pd_9 rfl) rfl (by show 2 * 0 + _ ≤ _; exact Nat.le_of_eq rfl) (hb hby at_83) (fun _ _ => ⟨rfl, rfl, (by decide : 2 + 0 ≤ _), (by decide : 10 + 0 ≤ _)⟩)
  dsimp only [Pt.U, Pt.locs, Pt.cells, Pt.slots] at X13 l13 y13 z13 st13 hQ13
  subst l13 y13 z13
  obtain ⟨rfl, N13q, Kc13, Fc13_0, Fc13_1, Fc13_2⟩ := hQ13
  have K13 : Keep h0 T13.heap [] := K12.trans Kc13 ((allS (Or.inr sz_b9) (allS (Or.inr sz_ra_12) all0)))
  have N13 := Fr.app N12 N13q
  refine Go.pull (V := T13.setTop (mkF m 86 #[iv pp, iv pq, iv pr', iv ps, iv pm, iv pr_1, iv pr_2, iv pr_3, iv pr_4, iv za1, iv zb1, iv za2, iv zb2, rv b9, .unset, .unset, .unset, .unset, .unset, .unset, .unset, .unset] [(.ref b9)])) (fun _ k => st13.trans k) ?_
  refine Go.pull (V := T13.setTop (mkF m 88 #[iv pp, iv pq, iv pr', iv ps, iv pm, iv pr_1, iv pr_2, iv pr_3, iv pr_4, iv za1, iv zb1, iv za2, iv zb2, rv b9, rv b9, .unset, .unset, .unset, .unset, .unset, .unset, .unset] [])) (fun t k => XS.astore X13.here hx rfl (hb hby at_86) rfl rfl (l' := #[iv pp, iv pq, iv pr', iv ps, iv pm, iv pr_1, iv pr_2, iv pr_3, iv pr_4, iv za1, iv zb1, iv za2, iv zb2, rv b9, rv b9, .unset, .unset, .unset, .unset, .unset, .unset, .unset]) rfl k) ?_
  refine Go.pull (V := T13.setTop (mkF m 90 #[iv pp, iv pq, iv pr', iv ps, iv pm, iv pr_1, iv pr_2, iv pr_3, iv pr_4, iv za1, iv zb1, iv za2, iv zb2, rv b9, rv b9, .unset, .unset, .unset, .unset, .unset, .unset, .unset] [(.ref b9)])) (fun t k => XS.aload X13.here hx rfl (hb hby at_88) rfl rfl k) ?_
  refine Go.pull (V := T13.setTop (mkF m 92 #[iv pp, iv pq, iv pr', iv ps, iv pm, iv pr_1, iv pr_2, iv pr_3, iv pr_4, iv za1, iv zb1, iv za2, iv zb2, rv b9, rv b9, .unset, .unset, .unset, .unset, .unset, .unset, .unset] [(.int za2), (.ref b9)])) (fun t k => XS.iload X13.here hx rfl (hb hby at_90) rfl  k) ?_
  refine Go.pull (V := T13.setTop (mkF m 94 #[iv pp, iv pq, iv pr', iv ps, iv pm, iv pr_1, iv pr_2, iv pr_3, iv pr_4, iv za1, iv zb1, iv za2, iv zb2, rv b9, rv b9, .unset, .unset, .unset, .unset, .unset, .unset, .unset] [(.int zb2), (.int za2), (.ref b9)])) (fun t k => XS.iload X13.here hx rfl (hb hby at_92) rfl  k) ?_
  obtain ⟨cq14, kq14, q14a, q14b, q14c⟩ := isOf hZ rfl ((A9.keep Kc12).keep Kc13)
  obtain ⟨_, _, ⟨T14, L14, k14, n14⟩, -, X14, ⟨Lc14, hQ14, l14, y14, z14⟩, st14⟩ := X13.virtualBack hx (y := (⟨"com/example/salish/salish/regex/CodePointSet$Builder", "add", "(II)Lcom/example/salish/salish/regex/CodePointSet$Builder;"⟩ : MethodName)) (z := (⟨"com/example/salish/salish/regex/CodePointSet$Builder", "add", "(II)Lcom/example/salish/salish/regex/CodePointSet$Builder;"⟩ : MethodName)) hown (mvT hZ (hw _ (List.mem_of_getElem? (i := 25) rfl))) (mvT hZ (hw _ (List.mem_of_getElem? (i := 26) rfl))) (notFace_of_selects (args := #[]) (mvT hZ (hw _ (List.mem_of_getElem? (i := 28) rfl)))) (mvT hZ (hw _ (List.mem_of_getElem? (i := 28) rfl))) (mvT hZ (hw _ (List.mem_of_getElem? (i := 27) rfl))) (by decide) (backOf (W := 0) (rmA1 l Z a0 hw [] b9 za2 zb2 ra_12 ka_12 (own_pk za1 zb1) T13.heap n0 (g_b9) (g_ra_12) ((A9.keep Kc12).keep Kc13) Fc13_0 Fc13_1 Fc13_2 (own_nlt (by omega)) (own_n0 (by omega)) (own_nm (by omega)) (ne_b9_ra_12)) hZ (hw _ (List.mem_of_getElem? (i := 29) rfl)) (hw _ (List.mem_of_getElem? (i := 15) rfl)) (by decide) (by decide)) q14a q14c (g := (mkF m 94 #[iv pp, iv pq, iv pr', iv ps, iv pm, iv pr_1, iv pr_2, iv pr_3, iv pr_4, iv za1, iv zb1, iv za2, iv zb2, rv b9, rv b9, .unset, .unset, .unset, .unset, .unset, .unset, .unset] [(.int zb2), (.int za2), (.ref b9)])) rfl (by rw [hml]; rfl) (Steps.refl _) (argsL := [(.int za2), (.int zb2)]) (rest := []) (lenOf pd_9 rfl) rfl (by show 2 * 0 + _ ≤ _; exact Nat.le_of_eq rfl) (hb hby at_94) (fun _ _ => ⟨rfl, rfl, (by decide : 2 + 0 ≤ _), (by decide : 10 + 0 ≤ _)⟩)
  dsimp only [Pt.U, Pt.locs, Pt.cells, Pt.slots] at X14 l14 y14 z14 st14 hQ14
  subst l14 y14 z14
  obtain ⟨rfl, N14q, Kc14, Fc14_0, Fc14_1, Fc14_2⟩ := hQ14
  have K14 : Keep h0 T14.heap [] := K13.trans Kc14 ((allS (Or.inr sz_b9) (allS (Or.inr sz_ra_12) all0)))
  have N14 := Fr.app N13 N14q
  refine Go.pull (V := T14.setTop (mkF m 97 #[iv pp, iv pq, iv pr', iv ps, iv pm, iv pr_1, iv pr_2, iv pr_3, iv pr_4, iv za1, iv zb1, iv za2, iv zb2, rv b9, rv b9, .unset, .unset, .unset, .unset, .unset, .unset, .unset] [(.ref b9)])) (fun _ k => st14.trans k) ?_
  refine Go.pull (V := T14.setTop (mkF m 99 #[iv pp, iv pq, iv pr', iv ps, iv pm, iv pr_1, iv pr_2, iv pr_3, iv pr_4, iv za1, iv zb1, iv za2, iv zb2, rv b9, rv b9, rv b9, .unset, .unset, .unset, .unset, .unset, .unset] [])) (fun t k => XS.astore X14.here hx rfl (hb hby at_97) rfl rfl (l' := #[iv pp, iv pq, iv pr', iv ps, iv pm, iv pr_1, iv pr_2, iv pr_3, iv pr_4, iv za1, iv zb1, iv za2, iv zb2, rv b9, rv b9, rv b9, .unset, .unset, .unset, .unset, .unset, .unset]) rfl k) ?_
  refine Go.pull (V := T14.setTop (mkF m 101 #[iv pp, iv pq, iv pr', iv ps, iv pm, iv pr_1, iv pr_2, iv pr_3, iv pr_4, iv za1, iv zb1, iv za2, iv zb2, rv b9, rv b9, rv b9, .unset, .unset, .unset, .unset, .unset, .unset] [(.ref b9)])) (fun t k => XS.aload X14.here hx rfl (hb hby at_99) rfl rfl k) ?_
  obtain ⟨cq15, kq15, q15a, q15b, q15c⟩ := isOf hZ rfl (((A9.keep Kc12).keep Kc13).keep Kc14)
  obtain ⟨_, _, ⟨T15, L15, k15, n15⟩, -, X15, ⟨Lc15, hQ15, l15, y15, z15⟩, st15⟩ := X14.virtualBack hx (y := (⟨"com/example/salish/salish/regex/CodePointSet$Builder", "build", "()Lcom/example/salish/salish/regex/CodePointSet;"⟩ : MethodName)) (z := (⟨"com/example/salish/salish/regex/CodePointSet$Builder", "build", "()Lcom/example/salish/salish/regex/CodePointSet;"⟩ : MethodName)) hown (mvT hZ (hw _ (List.mem_of_getElem? (i := 33) rfl))) (mvT hZ (hw _ (List.mem_of_getElem? (i := 34) rfl))) (notFace_of_selects (args := #[]) (mvT hZ (hw _ (List.mem_of_getElem? (i := 36) rfl)))) (mvT hZ (hw _ (List.mem_of_getElem? (i := 36) rfl))) (mvT hZ (hw _ (List.mem_of_getElem? (i := 35) rfl))) (by decide) (backOf (W := 0) (rmBB l Z a0 hw [] b9 ra_12 ka_12 za1 zb1 za2 zb2 T14.heap n0 (Nat.le_trans Z0 (K14).1) Fc14_0 Fc14_1 Fc14_2 hA hB) hZ (hw _ (List.mem_of_getElem? (i := 37) rfl)) (hw _ (List.mem_of_getElem? (i := 15) rfl)) (by decide) (by decide)) q15a q15c (g := (mkF m 101 #[iv pp, iv pq, iv pr', iv ps, iv pm, iv pr_1, iv pr_2, iv pr_3, iv pr_4, iv za1, iv zb1, iv za2, iv zb2, rv b9, rv b9, rv b9, .unset, .unset, .unset, .unset, .unset, .unset] [(.ref b9)])) rfl (by rw [hml]; rfl) (Steps.refl _) (argsL := []) (rest := []) (lenOf pd_10 rfl) rfl (by show 2 * 0 + _ ≤ _; exact Nat.le_of_eq rfl) (hb hby at_101) (fun _ _ => ⟨rfl, rfl, (by decide : 2 + 4 ≤ _), (by decide : 10 + 11 ≤ _)⟩)
  dsimp only [Pt.U, Pt.locs, Pt.cells, Pt.slots] at X15 l15 y15 z15 st15 hQ15
  subst l15 y15 z15
  obtain ⟨rs_15, rb_15, kb_15, zn_15, vs_15, rfl, N15q, Kc15, nex15_0, nex15_1, Fc15_0, Fc15_1, Fc15_2, Qx15_0⟩ := hQ15
  have ne_b9_rs_15 : b9 ≠ rs_15 := Nat.ne_of_lt (Nat.lt_of_lt_of_le (((A9.keep Kc12).keep Kc13).keep Kc14).lt nex15_0)
  have ne_ra_12_rs_15 : ra_12 ≠ rs_15 := Nat.ne_of_lt (Nat.lt_of_lt_of_le Fc14_2.lt nex15_0)
  have sz_rs_15 : h0.size ≤ rs_15 := Nat.le_trans (K14).1 nex15_0
  have g_rs_15 : n0 ≤ rs_15 := Nat.le_trans Z0 sz_rs_15
  have ne_b9_rb_15 : b9 ≠ rb_15 := Nat.ne_of_lt (Nat.lt_of_lt_of_le (((A9.keep Kc12).keep Kc13).keep Kc14).lt nex15_1)
  have ne_ra_12_rb_15 : ra_12 ≠ rb_15 := Nat.ne_of_lt (Nat.lt_of_lt_of_le Fc14_2.lt nex15_1)
  have sz_rb_15 : h0.size ≤ rb_15 := Nat.le_trans (K14).1 nex15_1
  have g_rb_15 : n0 ≤ rb_15 := Nat.le_trans Z0 sz_rb_15
  have K15 : Keep h0 T15.heap [] := K14.trans Kc15 (all0)
  have N15 := Fr.app N14 N15q
  refine Go.pull (V := T15.setTop (mkF m 104 #[iv pp, iv pq, iv pr', iv ps, iv pm, iv pr_1, iv pr_2, iv pr_3, iv pr_4, iv za1, iv zb1, iv za2, iv zb2, rv b9, rv b9, rv b9, .unset, .unset, .unset, .unset, .unset, .unset] [(.ref rs_15)])) (fun _ k => st15.trans k) ?_
  rcases Qx15_0 with ⟨hs, hj, rfl, rfl⟩ | ⟨hs, hj, rfl, rfl⟩ | ⟨hs, hj, rfl, rfl⟩ | ⟨hs, hj, rfl, rfl⟩
  · rw [Int64.lt_iff_toInt_lt, own_pkI hA, own_pkI hB] at hs; rw [Int32.lt_iff_toInt_lt] at hj
    refine Go.pull (V := T15.setTop (mkF m 106 #[iv pp, iv pq, iv pr', iv ps, iv pm, iv pr_1, iv pr_2, iv pr_3, iv pr_4, iv za1, iv zb1, iv za2, iv zb2, rv b9, rv b9, rv b9, rv rs_15, .unset, .unset, .unset, .unset, .unset] [])) (fun t k => XS.astore X15.here hx rfl (hb hby at_104) rfl rfl (l' := #[iv pp, iv pq, iv pr', iv ps, iv pm, iv pr_1, iv pr_2, iv pr_3, iv pr_4, iv za1, iv zb1, iv za2, iv zb2, rv b9, rv b9, rv b9, rv rs_15, .unset, .unset, .unset, .unset, .unset]) rfl k) ?_
    refine Go.pull (V := T15.setTop (mkF m 108 #[iv pp, iv pq, iv pr', iv ps, iv pm, iv pr_1, iv pr_2, iv pr_3, iv pr_4, iv za1, iv zb1, iv za2, iv zb2, rv b9, rv b9, rv b9, rv rs_15, .unset, .unset, .unset, .unset, .unset] [(.ref b9)])) (fun t k => XS.aload X15.here hx rfl (hb hby at_106) rfl rfl k) ?_
    refine Go.pull (V := T15.setTop (mkF m 110 #[iv pp, iv pq, iv pr', iv ps, iv pm, iv pr_1, iv pr_2, iv pr_3, iv pr_4, iv za1, iv zb1, iv za2, iv zb2, rv b9, rv b9, rv b9, rv rs_15, .unset, .unset, .unset, .unset, .unset] [(.ref b9), (.ref b9)])) (fun t k => XS.aload X15.here hx rfl (hb hby at_108) rfl rfl k) ?_
    refine Go.pull (V := T15.setTop (mkF m 113 #[iv pp, iv pq, iv pr', iv ps, iv pm, iv pr_1, iv pr_2, iv pr_3, iv pr_4, iv za1, iv zb1, iv za2, iv zb2, rv b9, rv b9, rv b9, rv rs_15, .unset, .unset, .unset, .unset, .unset] [])) (fun t k => XT.acmpNo X15.here hx rfl (hb hby at_110) rfl rfl rfl (XT.aa_ne_f rfl) k) ?_
    refine Go.pull (V := T15.setTop (mkF m 115 #[iv pp, iv pq, iv pr', iv ps, iv pm, iv pr_1, iv pr_2, iv pr_3, iv pr_4, iv za1, iv zb1, iv za2, iv zb2, rv b9, rv b9, rv b9, rv rs_15, .unset, .unset, .unset, .unset, .unset] [(.ref b9)])) (fun t k => XS.aload X15.here hx rfl (hb hby at_113) rfl rfl k) ?_
    refine Go.pull (V := T15.setTop (mkF m 117 #[iv pp, iv pq, iv pr', iv ps, iv pm, iv pr_1, iv pr_2, iv pr_3, iv pr_4, iv za1, iv zb1, iv za2, iv zb2, rv b9, rv b9, rv b9, rv rs_15, .unset, .unset, .unset, .unset, .unset] [(.ref b9), (.ref b9)])) (fun t k => XS.aload X15.here hx rfl (hb hby at_115) rfl rfl k) ?_
    refine Go.pull (V := T15.setTop (mkF m 122 #[iv pp, iv pq, iv pr', iv ps, iv pm, iv pr_1, iv pr_2, iv pr_3, iv pr_4, iv za1, iv zb1, iv za2, iv zb2, rv b9, rv b9, rv b9, rv rs_15, .unset, .unset, .unset, .unset, .unset] [])) (fun t k => XT.acmpYes X15.here hx rfl (pc0 := 117) (pc' := 122) rfl (hb hby at_117) rfl rfl rfl (XT.aa_eq_t rfl) (by decide) (by decide) k) ?_
    refine Go.pull (V := T15.setTop (mkF m 124 #[iv pp, iv pq, iv pr', iv ps, iv pm, iv pr_1, iv pr_2, iv pr_3, iv pr_4, iv za1, iv zb1, iv za2, iv zb2, rv b9, rv b9, rv b9, rv rs_15, .unset, .unset, .unset, .unset, .unset] [(.int za2)])) (fun t k => XS.iload X15.here hx rfl (hb hby at_122) rfl  k) ?_
    refine Go.pull (V := T15.setTop (mkF m 126 #[iv pp, iv pq, iv pr', iv ps, iv pm, iv pr_1, iv pr_2, iv pr_3, iv pr_4, iv za1, iv zb1, iv za2, iv zb2, rv b9, rv b9, rv b9, rv rs_15, .unset, .unset, .unset, .unset, .unset] [(.int zb1), (.int za2)])) (fun t k => XS.iload X15.here hx rfl (hb hby at_124) rfl  k) ?_
    refine Go.pull (V := T15.setTop (mkF m 127 #[iv pp, iv pq, iv pr', iv ps, iv pm, iv pr_1, iv pr_2, iv pr_3, iv pr_4, iv za1, iv zb1, iv za2, iv zb2, rv b9, rv b9, rv b9, rv rs_15, .unset, .unset, .unset, .unset, .unset] [(.int 1), (.int zb1), (.int za2)])) (fun t k => XS.iconst X15.here hx rfl (hb hby at_126) k) ?_
    refine Go.pull (V := T15.setTop (mkF m 128 #[iv pp, iv pq, iv pr', iv ps, iv pm, iv pr_1, iv pr_2, iv pr_3, iv pr_4, iv za1, iv zb1, iv za2, iv zb2, rv b9, rv b9, rv b9, rv rs_15, .unset, .unset, .unset, .unset, .unset] [(.int (zb1 + (1 : Int32))), (.int za2)])) (fun t k => XS.iadd X15.here hx rfl (hb hby at_127) rfl k) ?_
    refine Go.pull (V := T15.setTop (mkF m 131 #[iv pp, iv pq, iv pr', iv ps, iv pm, iv pr_1, iv pr_2, iv pr_3, iv pr_4, iv za1, iv zb1, iv za2, iv zb2, rv b9, rv b9, rv b9, rv rs_15, .unset, .unset, .unset, .unset, .unset] [])) (fun t k => XS.icmpNo X15.here hx rfl (hb hby at_128) rfl (XT.ii_gt_f (by rw [Int32.lt_iff_toInt_lt]; omega)) k) ?_
    refine Go.pull (V := T15.setTop (mkF m 133 #[iv pp, iv pq, iv pr', iv ps, iv pm, iv pr_1, iv pr_2, iv pr_3, iv pr_4, iv za1, iv zb1, iv za2, iv zb2, rv b9, rv b9, rv b9, rv rs_15, .unset, .unset, .unset, .unset, .unset] [(.int za1)])) (fun t k => XS.iload X15.here hx rfl (hb hby at_131) rfl  k) ?_
    refine Go.pull (V := T15.setTop (mkF m 135 #[iv pp, iv pq, iv pr', iv ps, iv pm, iv pr_1, iv pr_2, iv pr_3, iv pr_4, iv za1, iv zb1, iv za2, iv zb2, rv b9, rv b9, rv b9, rv rs_15, .unset, .unset, .unset, .unset, .unset] [(.int zb2), (.int za1)])) (fun t k => XS.iload X15.here hx rfl (hb hby at_133) rfl  k) ?_
    refine Go.pull (V := T15.setTop (mkF m 136 #[iv pp, iv pq, iv pr', iv ps, iv pm, iv pr_1, iv pr_2, iv pr_3, iv pr_4, iv za1, iv zb1, iv za2, iv zb2, rv b9, rv b9, rv b9, rv rs_15, .unset, .unset, .unset, .unset, .unset] [(.int 1), (.int zb2), (.int za1)])) (fun t k => XS.iconst X15.here hx rfl (hb hby at_135) k) ?_
    refine Go.pull (V := T15.setTop (mkF m 137 #[iv pp, iv pq, iv pr', iv ps, iv pm, iv pr_1, iv pr_2, iv pr_3, iv pr_4, iv za1, iv zb1, iv za2, iv zb2, rv b9, rv b9, rv b9, rv rs_15, .unset, .unset, .unset, .unset, .unset] [(.int (zb2 + (1 : Int32))), (.int za1)])) (fun t k => XS.iadd X15.here hx rfl (hb hby at_136) rfl k) ?_
    refine Go.pull (V := T15.setTop (mkF m 144 #[iv pp, iv pq, iv pr', iv ps, iv pm, iv pr_1, iv pr_2, iv pr_3, iv pr_4, iv za1, iv zb1, iv za2, iv zb2, rv b9, rv b9, rv b9, rv rs_15, .unset, .unset, .unset, .unset, .unset] [])) (fun t k => XS.icmpYes X15.here hx rfl (pc0 := 137) (pc' := 144) rfl (hb hby at_137) rfl (XT.ii_gt_t (by rw [Int32.lt_iff_toInt_lt]; omega)) (by decide) (by decide) k) ?_
    refine Go.pull (V := T15.setTop (mkF m 145 #[iv pp, iv pq, iv pr', iv ps, iv pm, iv pr_1, iv pr_2, iv pr_3, iv pr_4, iv za1, iv zb1, iv za2, iv zb2, rv b9, rv b9, rv b9, rv rs_15, .unset, .unset, .unset, .unset, .unset] [(.int 0)])) (fun t k => XS.iconst X15.here hx rfl (hb hby at_144) k) ?_
    refine Go.pull (V := T15.setTop (mkF m 147 #[iv pp, iv pq, iv pr', iv ps, iv pm, iv pr_1, iv pr_2, iv pr_3, iv pr_4, iv za1, iv zb1, iv za2, iv zb2, rv b9, rv b9, rv b9, rv rs_15, iv 0, .unset, .unset, .unset, .unset] [])) (fun t k => XS.istore X15.here hx rfl (hb hby at_145) rfl (l' := #[iv pp, iv pq, iv pr', iv ps, iv pm, iv pr_1, iv pr_2, iv pr_3, iv pr_4, iv za1, iv zb1, iv za2, iv zb2, rv b9, rv b9, rv b9, rv rs_15, iv 0, .unset, .unset, .unset, .unset]) rfl k) ?_
    refine Go.pull (V := T15.setTop (mkF m 149 #[iv pp, iv pq, iv pr', iv ps, iv pm, iv pr_1, iv pr_2, iv pr_3, iv pr_4, iv za1, iv zb1, iv za2, iv zb2, rv b9, rv b9, rv b9, rv rs_15, iv 0, .unset, .unset, .unset, .unset] [(.int 0)])) (fun t k => XS.iload X15.here hx rfl (hb hby at_147) rfl  k) ?_
    refine Go.pull (V := T15.setTop (mkF m 199 #[iv pp, iv pq, iv pr', iv ps, iv pm, iv pr_1, iv pr_2, iv pr_3, iv pr_4, iv za1, iv zb1, iv za2, iv zb2, rv b9, rv b9, rv b9, rv rs_15, iv 0, .unset, .unset, .unset, .unset] [])) (fun t k => XS.ifYes X15.here hx rfl (pc0 := 149) (pc' := 199) rfl (hb hby at_149) rfl (XT.i0_eq_t (by decide)) (by decide) (by decide) k) ?_
    refine Go.pull (V := T15.setTop (mkF m 201 #[iv pp, iv pq, iv pr', iv ps, iv pm, iv pr_1, iv pr_2, iv pr_3, iv pr_4, iv za1, iv zb1, iv za2, iv zb2, rv b9, rv b9, rv b9, rv rs_15, iv 0, .unset, .unset, .unset, .unset] [(.ref rs_15)])) (fun t k => XS.aload X15.here hx rfl (hb hby at_199) rfl rfl k) ?_
    obtain ⟨cq16, kq16, q16a, q16b, q16c⟩ := isOf hZ rfl Fc15_0
    obtain ⟨_, _, ⟨T16, L16, k16, n16⟩, -, X16, ⟨Lc16, hQ16, l16, y16, z16⟩, st16⟩ := X15.virtualBack hx (y := (⟨"com/example/salish/salish/regex/CodePointSet", "rangeCount", "()I"⟩ : MethodName)) (z := (⟨"com/example/salish/salish/regex/CodePointSet", "rangeCount", "()I"⟩ : MethodName)) hown (mvT hZ (hw _ (List.mem_of_getElem? (i := 74) rfl))) (mvT hZ (hw _ (List.mem_of_getElem? (i := 75) rfl))) (notFace_of_selects (args := #[]) (mvT hZ (hw _ (List.mem_of_getElem? (i := 77) rfl)))) (mvT hZ (hw _ (List.mem_of_getElem? (i := 77) rfl))) (mvT hZ (hw _ (List.mem_of_getElem? (i := 76) rfl))) (by decide) (backOf (W := 0) (rmRC l Z a0 hw [] rs_15 rb_15 kb_15 (4 : Int32) ([(.int za2), (.int zb2), (.int za1), (.int zb1)] : List Value) T15.heap n0 Fc15_1 Fc15_2) hZ (hw _ (List.mem_of_getElem? (i := 78) rfl)) (hw _ (List.mem_of_getElem? (i := 64) rfl)) (by decide) (by decide)) q16a q16c (g := (mkF m 201 #[iv pp, iv pq, iv pr', iv ps, iv pm, iv pr_1, iv pr_2, iv pr_3, iv pr_4, iv za1, iv zb1, iv za2, iv zb2, rv b9, rv b9, rv b9, rv rs_15, iv 0, .unset, .unset, .unset, .unset] [(.ref rs_15)])) rfl (by rw [hml]; rfl) (Steps.refl _) (argsL := []) (rest := []) (lenOf pd_11 rfl) rfl (by show 2 * 0 + _ ≤ _; exact Nat.le_of_eq rfl) (hb hby at_201) (fun _ _ => ⟨rfl, rfl, (by decide : 6 + 0 ≤ _), (by decide : 21 + 0 ≤ _)⟩)
    dsimp only [Pt.U, Pt.locs, Pt.cells, Pt.slots] at X16 l16 y16 z16 st16 hQ16
    subst l16 y16 z16
    obtain ⟨hv16, N16q, e16⟩ := hQ16
    rw [(show ((4 : Int32) / (2 : Int32)) = (2 : Int32) from by decide)] at hv16; subst hv16
    have N16 := Fr.app N15 N16q
    refine Go.pull (V := T16.setTop (mkF m 204 #[iv pp, iv pq, iv pr', iv ps, iv pm, iv pr_1, iv pr_2, iv pr_3, iv pr_4, iv za1, iv zb1, iv za2, iv zb2, rv b9, rv b9, rv b9, rv rs_15, iv 0, .unset, .unset, .unset, .unset] [(.int 2)])) (fun _ k => st16.trans k) ?_
    refine Go.pull (V := T16.setTop (mkF m 205 #[iv pp, iv pq, iv pr', iv ps, iv pm, iv pr_1, iv pr_2, iv pr_3, iv pr_4, iv za1, iv zb1, iv za2, iv zb2, rv b9, rv b9, rv b9, rv rs_15, iv 0, .unset, .unset, .unset, .unset] [(.int 2), (.int 2)])) (fun t k => XS.iconst X16.here hx rfl (hb hby at_204) k) ?_
    refine Go.pull (V := T16.setTop (mkF m 210 #[iv pp, iv pq, iv pr', iv ps, iv pm, iv pr_1, iv pr_2, iv pr_3, iv pr_4, iv za1, iv zb1, iv za2, iv zb2, rv b9, rv b9, rv b9, rv rs_15, iv 0, .unset, .unset, .unset, .unset] [])) (fun t k => XS.icmpYes X16.here hx rfl (pc0 := 205) (pc' := 210) rfl (hb hby at_205) rfl (XT.ii_eq_t (by decide)) (by decide) (by decide) k) ?_
    refine Go.pull (V := T16.setTop (mkF m 212 #[iv pp, iv pq, iv pr', iv ps, iv pm, iv pr_1, iv pr_2, iv pr_3, iv pr_4, iv za1, iv zb1, iv za2, iv zb2, rv b9, rv b9, rv b9, rv rs_15, iv 0, .unset, .unset, .unset, .unset] [(.int za1)])) (fun t k => XS.iload X16.here hx rfl (hb hby at_210) rfl  k) ?_
    refine Go.pull (V := T16.setTop (mkF m 214 #[iv pp, iv pq, iv pr', iv ps, iv pm, iv pr_1, iv pr_2, iv pr_3, iv pr_4, iv za1, iv zb1, iv za2, iv zb2, rv b9, rv b9, rv b9, rv rs_15, iv 0, .unset, .unset, .unset, .unset] [(.int za2), (.int za1)])) (fun t k => XS.iload X16.here hx rfl (hb hby at_212) rfl  k) ?_
    refine Go.pull (V := T16.setTop (mkF m 222 #[iv pp, iv pq, iv pr', iv ps, iv pm, iv pr_1, iv pr_2, iv pr_3, iv pr_4, iv za1, iv zb1, iv za2, iv zb2, rv b9, rv b9, rv b9, rv rs_15, iv 0, .unset, .unset, .unset, .unset] [])) (fun t k => XS.icmpYes X16.here hx rfl (pc0 := 214) (pc' := 222) rfl (hb hby at_214) rfl (XT.ii_ge_t (by rw [Int32.lt_iff_toInt_lt]; omega)) (by decide) (by decide) k) ?_
    refine Go.pull (V := T16.setTop (mkF m 224 #[iv pp, iv pq, iv pr', iv ps, iv pm, iv pr_1, iv pr_2, iv pr_3, iv pr_4, iv za1, iv zb1, iv za2, iv zb2, rv b9, rv b9, rv b9, rv rs_15, iv 0, .unset, .unset, .unset, .unset] [(.int za2)])) (fun t k => XS.iload X16.here hx rfl (hb hby at_222) rfl  k) ?_
    refine Go.pull (V := T16.setTop (mkF m 226 #[iv pp, iv pq, iv pr', iv ps, iv pm, iv pr_1, iv pr_2, iv pr_3, iv pr_4, iv za1, iv zb1, iv za2, iv zb2, rv b9, rv b9, rv b9, rv rs_15, iv 0, iv za2, .unset, .unset, .unset] [])) (fun t k => XS.istore X16.here hx rfl (hb hby at_224) rfl (l' := #[iv pp, iv pq, iv pr', iv ps, iv pm, iv pr_1, iv pr_2, iv pr_3, iv pr_4, iv za1, iv zb1, iv za2, iv zb2, rv b9, rv b9, rv b9, rv rs_15, iv 0, iv za2, .unset, .unset, .unset]) rfl k) ?_
    refine Go.pull (V := T16.setTop (mkF m 228 #[iv pp, iv pq, iv pr', iv ps, iv pm, iv pr_1, iv pr_2, iv pr_3, iv pr_4, iv za1, iv zb1, iv za2, iv zb2, rv b9, rv b9, rv b9, rv rs_15, iv 0, iv za2, .unset, .unset, .unset] [(.int za1)])) (fun t k => XS.iload X16.here hx rfl (hb hby at_226) rfl  k) ?_
    refine Go.pull (V := T16.setTop (mkF m 230 #[iv pp, iv pq, iv pr', iv ps, iv pm, iv pr_1, iv pr_2, iv pr_3, iv pr_4, iv za1, iv zb1, iv za2, iv zb2, rv b9, rv b9, rv b9, rv rs_15, iv 0, iv za2, .unset, .unset, .unset] [(.int za2), (.int za1)])) (fun t k => XS.iload X16.here hx rfl (hb hby at_228) rfl  k) ?_
    refine Go.pull (V := T16.setTop (mkF m 238 #[iv pp, iv pq, iv pr', iv ps, iv pm, iv pr_1, iv pr_2, iv pr_3, iv pr_4, iv za1, iv zb1, iv za2, iv zb2, rv b9, rv b9, rv b9, rv rs_15, iv 0, iv za2, .unset, .unset, .unset] [])) (fun t k => XS.icmpYes X16.here hx rfl (pc0 := 230) (pc' := 238) rfl (hb hby at_230) rfl (XT.ii_ge_t (by rw [Int32.lt_iff_toInt_lt]; omega)) (by decide) (by decide) k) ?_
    refine Go.pull (V := T16.setTop (mkF m 240 #[iv pp, iv pq, iv pr', iv ps, iv pm, iv pr_1, iv pr_2, iv pr_3, iv pr_4, iv za1, iv zb1, iv za2, iv zb2, rv b9, rv b9, rv b9, rv rs_15, iv 0, iv za2, .unset, .unset, .unset] [(.int zb2)])) (fun t k => XS.iload X16.here hx rfl (hb hby at_238) rfl  k) ?_
    refine Go.pull (V := T16.setTop (mkF m 242 #[iv pp, iv pq, iv pr', iv ps, iv pm, iv pr_1, iv pr_2, iv pr_3, iv pr_4, iv za1, iv zb1, iv za2, iv zb2, rv b9, rv b9, rv b9, rv rs_15, iv 0, iv za2, iv zb2, .unset, .unset] [])) (fun t k => XS.istore X16.here hx rfl (hb hby at_240) rfl (l' := #[iv pp, iv pq, iv pr', iv ps, iv pm, iv pr_1, iv pr_2, iv pr_3, iv pr_4, iv za1, iv zb1, iv za2, iv zb2, rv b9, rv b9, rv b9, rv rs_15, iv 0, iv za2, iv zb2, .unset, .unset]) rfl k) ?_
    refine Go.pull (V := T16.setTop (mkF m 244 #[iv pp, iv pq, iv pr', iv ps, iv pm, iv pr_1, iv pr_2, iv pr_3, iv pr_4, iv za1, iv zb1, iv za2, iv zb2, rv b9, rv b9, rv b9, rv rs_15, iv 0, iv za2, iv zb2, .unset, .unset] [(.int za1)])) (fun t k => XS.iload X16.here hx rfl (hb hby at_242) rfl  k) ?_
    refine Go.pull (V := T16.setTop (mkF m 246 #[iv pp, iv pq, iv pr', iv ps, iv pm, iv pr_1, iv pr_2, iv pr_3, iv pr_4, iv za1, iv zb1, iv za2, iv zb2, rv b9, rv b9, rv b9, rv rs_15, iv 0, iv za2, iv zb2, .unset, .unset] [(.int za2), (.int za1)])) (fun t k => XS.iload X16.here hx rfl (hb hby at_244) rfl  k) ?_
    refine Go.pull (V := T16.setTop (mkF m 254 #[iv pp, iv pq, iv pr', iv ps, iv pm, iv pr_1, iv pr_2, iv pr_3, iv pr_4, iv za1, iv zb1, iv za2, iv zb2, rv b9, rv b9, rv b9, rv rs_15, iv 0, iv za2, iv zb2, .unset, .unset] [])) (fun t k => XS.icmpYes X16.here hx rfl (pc0 := 246) (pc' := 254) rfl (hb hby at_246) rfl (XT.ii_ge_t (by rw [Int32.lt_iff_toInt_lt]; omega)) (by decide) (by decide) k) ?_
    refine Go.pull (V := T16.setTop (mkF m 256 #[iv pp, iv pq, iv pr', iv ps, iv pm, iv pr_1, iv pr_2, iv pr_3, iv pr_4, iv za1, iv zb1, iv za2, iv zb2, rv b9, rv b9, rv b9, rv rs_15, iv 0, iv za2, iv zb2, .unset, .unset] [(.int za1)])) (fun t k => XS.iload X16.here hx rfl (hb hby at_254) rfl  k) ?_
    refine Go.pull (V := T16.setTop (mkF m 258 #[iv pp, iv pq, iv pr', iv ps, iv pm, iv pr_1, iv pr_2, iv pr_3, iv pr_4, iv za1, iv zb1, iv za2, iv zb2, rv b9, rv b9, rv b9, rv rs_15, iv 0, iv za2, iv zb2, iv za1, .unset] [])) (fun t k => XS.istore X16.here hx rfl (hb hby at_256) rfl (l' := #[iv pp, iv pq, iv pr', iv ps, iv pm, iv pr_1, iv pr_2, iv pr_3, iv pr_4, iv za1, iv zb1, iv za2, iv zb2, rv b9, rv b9, rv b9, rv rs_15, iv 0, iv za2, iv zb2, iv za1, .unset]) rfl k) ?_
    refine Go.pull (V := T16.setTop (mkF m 260 #[iv pp, iv pq, iv pr', iv ps, iv pm, iv pr_1, iv pr_2, iv pr_3, iv pr_4, iv za1, iv zb1, iv za2, iv zb2, rv b9, rv b9, rv b9, rv rs_15, iv 0, iv za2, iv zb2, iv za1, .unset] [(.int za1)])) (fun t k => XS.iload X16.here hx rfl (hb hby at_258) rfl  k) ?_
    refine Go.pull (V := T16.setTop (mkF m 262 #[iv pp, iv pq, iv pr', iv ps, iv pm, iv pr_1, iv pr_2, iv pr_3, iv pr_4, iv za1, iv zb1, iv za2, iv zb2, rv b9, rv b9, rv b9, rv rs_15, iv 0, iv za2, iv zb2, iv za1, .unset] [(.int za2), (.int za1)])) (fun t k => XS.iload X16.here hx rfl (hb hby at_260) rfl  k) ?_
    refine Go.pull (V := T16.setTop (mkF m 270 #[iv pp, iv pq, iv pr', iv ps, iv pm, iv pr_1, iv pr_2, iv pr_3, iv pr_4, iv za1, iv zb1, iv za2, iv zb2, rv b9, rv b9, rv b9, rv rs_15, iv 0, iv za2, iv zb2, iv za1, .unset] [])) (fun t k => XS.icmpYes X16.here hx rfl (pc0 := 262) (pc' := 270) rfl (hb hby at_262) rfl (XT.ii_ge_t (by rw [Int32.lt_iff_toInt_lt]; omega)) (by decide) (by decide) k) ?_
    refine Go.pull (V := T16.setTop (mkF m 272 #[iv pp, iv pq, iv pr', iv ps, iv pm, iv pr_1, iv pr_2, iv pr_3, iv pr_4, iv za1, iv zb1, iv za2, iv zb2, rv b9, rv b9, rv b9, rv rs_15, iv 0, iv za2, iv zb2, iv za1, .unset] [(.int zb1)])) (fun t k => XS.iload X16.here hx rfl (hb hby at_270) rfl  k) ?_
    refine Go.pull (V := T16.setTop (mkF m 274 #[iv pp, iv pq, iv pr', iv ps, iv pm, iv pr_1, iv pr_2, iv pr_3, iv pr_4, iv za1, iv zb1, iv za2, iv zb2, rv b9, rv b9, rv b9, rv rs_15, iv 0, iv za2, iv zb2, iv za1, iv zb1] [])) (fun t k => XS.istore X16.here hx rfl (hb hby at_272) rfl (l' := #[iv pp, iv pq, iv pr', iv ps, iv pm, iv pr_1, iv pr_2, iv pr_3, iv pr_4, iv za1, iv zb1, iv za2, iv zb2, rv b9, rv b9, rv b9, rv rs_15, iv 0, iv za2, iv zb2, iv za1, iv zb1]) rfl k) ?_
    refine Go.pull (V := T16.setTop (mkF m 276 #[iv pp, iv pq, iv pr', iv ps, iv pm, iv pr_1, iv pr_2, iv pr_3, iv pr_4, iv za1, iv zb1, iv za2, iv zb2, rv b9, rv b9, rv b9, rv rs_15, iv 0, iv za2, iv zb2, iv za1, iv zb1] [(.ref rs_15)])) (fun t k => XS.aload X16.here hx rfl (hb hby at_274) rfl rfl k) ?_
    refine Go.pull (V := T16.setTop (mkF m 277 #[iv pp, iv pq, iv pr', iv ps, iv pm, iv pr_1, iv pr_2, iv pr_3, iv pr_4, iv za1, iv zb1, iv za2, iv zb2, rv b9, rv b9, rv b9, rv rs_15, iv 0, iv za2, iv zb2, iv za1, iv zb1] [(.int 0), (.ref rs_15)])) (fun t k => XS.iconst X16.here hx rfl (hb hby at_276) k) ?_
    obtain ⟨cq17, kq17, q17a, q17b, q17c⟩ := isOf hZ e16 Fc15_0
    obtain ⟨_, _, ⟨T17, L17, k17, n17⟩, -, X17, ⟨Lc17, hQ17, l17, y17, z17⟩, st17⟩ := X16.virtualBack hx (y := (⟨"com/example/salish/salish/regex/CodePointSet", "first", "(I)I"⟩ : MethodName)) (z := (⟨"com/example/salish/salish/regex/CodePointSet", "first", "(I)I"⟩ : MethodName)) hown (mvT hZ (hw _ (List.mem_of_getElem? (i := 79) rfl))) (mvT hZ (hw _ (List.mem_of_getElem? (i := 80) rfl))) (notFace_of_selects (args := #[]) (mvT hZ (hw _ (List.mem_of_getElem? (i := 82) rfl)))) (mvT hZ (hw _ (List.mem_of_getElem? (i := 82) rfl))) (mvT hZ (hw _ (List.mem_of_getElem? (i := 81) rfl))) (by decide) (backOf (W := 0) (rmFI l Z a0 hw [] rs_15 (0 : Int32) rb_15 kb_15 (4 : Int32) ([(.int za2), (.int zb2), (.int za1), (.int zb1)] : List Value) za2 T15.heap n0 Fc15_1 Fc15_2 rfl (by decide)) hZ (hw _ (List.mem_of_getElem? (i := 83) rfl)) (hw _ (List.mem_of_getElem? (i := 64) rfl)) (by decide) (by decide)) q17a q17c (g := (mkF m 277 #[iv pp, iv pq, iv pr', iv ps, iv pm, iv pr_1, iv pr_2, iv pr_3, iv pr_4, iv za1, iv zb1, iv za2, iv zb2, rv b9, rv b9, rv b9, rv rs_15, iv 0, iv za2, iv zb2, iv za1, iv zb1] [(.int 0), (.ref rs_15)])) rfl (by rw [hml]; rfl) (Steps.refl _) (argsL := [(.int 0)]) (rest := []) (lenOf pd_12 rfl) rfl (by show 2 * 0 + _ ≤ _; exact Nat.le_of_eq rfl) (hb hby at_277) (fun _ _ => ⟨rfl, e16, (by decide : 6 + 0 ≤ _), (by decide : 21 + 0 ≤ _)⟩)
    dsimp only [Pt.U, Pt.locs, Pt.cells, Pt.slots] at X17 l17 y17 z17 st17 hQ17
    subst l17 y17 z17
    obtain ⟨rfl, N17q, e17⟩ := hQ17
    have N17 := Fr.app N16 N17q
    refine Go.pull (V := T17.setTop (mkF m 280 #[iv pp, iv pq, iv pr', iv ps, iv pm, iv pr_1, iv pr_2, iv pr_3, iv pr_4, iv za1, iv zb1, iv za2, iv zb2, rv b9, rv b9, rv b9, rv rs_15, iv 0, iv za2, iv zb2, iv za1, iv zb1] [(.int za2)])) (fun _ k => st17.trans k) ?_
    refine Go.pull (V := T17.setTop (mkF m 282 #[iv pp, iv pq, iv pr', iv ps, iv pm, iv pr_1, iv pr_2, iv pr_3, iv pr_4, iv za1, iv zb1, iv za2, iv zb2, rv b9, rv b9, rv b9, rv rs_15, iv 0, iv za2, iv zb2, iv za1, iv zb1] [(.int za2), (.int za2)])) (fun t k => XS.iload X17.here hx rfl (hb hby at_280) rfl  k) ?_
    refine Go.pull (V := T17.setTop (mkF m 285 #[iv pp, iv pq, iv pr', iv ps, iv pm, iv pr_1, iv pr_2, iv pr_3, iv pr_4, iv za1, iv zb1, iv za2, iv zb2, rv b9, rv b9, rv b9, rv rs_15, iv 0, iv za2, iv zb2, iv za1, iv zb1] [])) (fun t k => XS.icmpNo X17.here hx rfl (hb hby at_282) rfl (XT.ii_ne_f rfl) k) ?_
    refine Go.pull (V := T17.setTop (mkF m 287 #[iv pp, iv pq, iv pr', iv ps, iv pm, iv pr_1, iv pr_2, iv pr_3, iv pr_4, iv za1, iv zb1, iv za2, iv zb2, rv b9, rv b9, rv b9, rv rs_15, iv 0, iv za2, iv zb2, iv za1, iv zb1] [(.ref rs_15)])) (fun t k => XS.aload X17.here hx rfl (hb hby at_285) rfl rfl k) ?_
    refine Go.pull (V := T17.setTop (mkF m 288 #[iv pp, iv pq, iv pr', iv ps, iv pm, iv pr_1, iv pr_2, iv pr_3, iv pr_4, iv za1, iv zb1, iv za2, iv zb2, rv b9, rv b9, rv b9, rv rs_15, iv 0, iv za2, iv zb2, iv za1, iv zb1] [(.int 0), (.ref rs_15)])) (fun t k => XS.iconst X17.here hx rfl (hb hby at_287) k) ?_
    obtain ⟨cq18, kq18, q18a, q18b, q18c⟩ := isOf hZ e17 Fc15_0
    obtain ⟨_, _, ⟨T18, L18, k18, n18⟩, -, X18, ⟨Lc18, hQ18, l18, y18, z18⟩, st18⟩ := X17.virtualBack hx (y := (⟨"com/example/salish/salish/regex/CodePointSet", "last", "(I)I"⟩ : MethodName)) (z := (⟨"com/example/salish/salish/regex/CodePointSet", "last", "(I)I"⟩ : MethodName)) hown (mvT hZ (hw _ (List.mem_of_getElem? (i := 84) rfl))) (mvT hZ (hw _ (List.mem_of_getElem? (i := 85) rfl))) (notFace_of_selects (args := #[]) (mvT hZ (hw _ (List.mem_of_getElem? (i := 87) rfl)))) (mvT hZ (hw _ (List.mem_of_getElem? (i := 87) rfl))) (mvT hZ (hw _ (List.mem_of_getElem? (i := 86) rfl))) (by decide) (backOf (W := 0) (rmLA l Z a0 hw [] rs_15 (0 : Int32) rb_15 kb_15 (4 : Int32) ([(.int za2), (.int zb2), (.int za1), (.int zb1)] : List Value) zb2 T15.heap n0 Fc15_1 Fc15_2 rfl (by decide)) hZ (hw _ (List.mem_of_getElem? (i := 88) rfl)) (hw _ (List.mem_of_getElem? (i := 64) rfl)) (by decide) (by decide)) q18a q18c (g := (mkF m 288 #[iv pp, iv pq, iv pr', iv ps, iv pm, iv pr_1, iv pr_2, iv pr_3, iv pr_4, iv za1, iv zb1, iv za2, iv zb2, rv b9, rv b9, rv b9, rv rs_15, iv 0, iv za2, iv zb2, iv za1, iv zb1] [(.int 0), (.ref rs_15)])) rfl (by rw [hml]; rfl) (Steps.refl _) (argsL := [(.int 0)]) (rest := []) (lenOf pd_12 rfl) rfl (by show 2 * 0 + _ ≤ _; exact Nat.le_of_eq rfl) (hb hby at_288) (fun _ _ => ⟨rfl, e17, (by decide : 6 + 0 ≤ _), (by decide : 21 + 0 ≤ _)⟩)
    dsimp only [Pt.U, Pt.locs, Pt.cells, Pt.slots] at X18 l18 y18 z18 st18 hQ18
    subst l18 y18 z18
    obtain ⟨rfl, N18q, e18⟩ := hQ18
    have N18 := Fr.app N17 N18q
    refine Go.pull (V := T18.setTop (mkF m 291 #[iv pp, iv pq, iv pr', iv ps, iv pm, iv pr_1, iv pr_2, iv pr_3, iv pr_4, iv za1, iv zb1, iv za2, iv zb2, rv b9, rv b9, rv b9, rv rs_15, iv 0, iv za2, iv zb2, iv za1, iv zb1] [(.int zb2)])) (fun _ k => st18.trans k) ?_
    refine Go.pull (V := T18.setTop (mkF m 293 #[iv pp, iv pq, iv pr', iv ps, iv pm, iv pr_1, iv pr_2, iv pr_3, iv pr_4, iv za1, iv zb1, iv za2, iv zb2, rv b9, rv b9, rv b9, rv rs_15, iv 0, iv za2, iv zb2, iv za1, iv zb1] [(.int zb2), (.int zb2)])) (fun t k => XS.iload X18.here hx rfl (hb hby at_291) rfl  k) ?_
    refine Go.pull (V := T18.setTop (mkF m 296 #[iv pp, iv pq, iv pr', iv ps, iv pm, iv pr_1, iv pr_2, iv pr_3, iv pr_4, iv za1, iv zb1, iv za2, iv zb2, rv b9, rv b9, rv b9, rv rs_15, iv 0, iv za2, iv zb2, iv za1, iv zb1] [])) (fun t k => XS.icmpNo X18.here hx rfl (hb hby at_293) rfl (XT.ii_ne_f rfl) k) ?_
    refine Go.pull (V := T18.setTop (mkF m 298 #[iv pp, iv pq, iv pr', iv ps, iv pm, iv pr_1, iv pr_2, iv pr_3, iv pr_4, iv za1, iv zb1, iv za2, iv zb2, rv b9, rv b9, rv b9, rv rs_15, iv 0, iv za2, iv zb2, iv za1, iv zb1] [(.ref rs_15)])) (fun t k => XS.aload X18.here hx rfl (hb hby at_296) rfl rfl k) ?_
    refine Go.pull (V := T18.setTop (mkF m 299 #[iv pp, iv pq, iv pr', iv ps, iv pm, iv pr_1, iv pr_2, iv pr_3, iv pr_4, iv za1, iv zb1, iv za2, iv zb2, rv b9, rv b9, rv b9, rv rs_15, iv 0, iv za2, iv zb2, iv za1, iv zb1] [(.int 1), (.ref rs_15)])) (fun t k => XS.iconst X18.here hx rfl (hb hby at_298) k) ?_
    obtain ⟨cq19, kq19, q19a, q19b, q19c⟩ := isOf hZ e18 Fc15_0
    obtain ⟨_, _, ⟨T19, L19, k19, n19⟩, -, X19, ⟨Lc19, hQ19, l19, y19, z19⟩, st19⟩ := X18.virtualBack hx (y := (⟨"com/example/salish/salish/regex/CodePointSet", "first", "(I)I"⟩ : MethodName)) (z := (⟨"com/example/salish/salish/regex/CodePointSet", "first", "(I)I"⟩ : MethodName)) hown (mvT hZ (hw _ (List.mem_of_getElem? (i := 79) rfl))) (mvT hZ (hw _ (List.mem_of_getElem? (i := 80) rfl))) (notFace_of_selects (args := #[]) (mvT hZ (hw _ (List.mem_of_getElem? (i := 82) rfl)))) (mvT hZ (hw _ (List.mem_of_getElem? (i := 82) rfl))) (mvT hZ (hw _ (List.mem_of_getElem? (i := 81) rfl))) (by decide) (backOf (W := 0) (rmFI l Z a0 hw [] rs_15 (1 : Int32) rb_15 kb_15 (4 : Int32) ([(.int za2), (.int zb2), (.int za1), (.int zb1)] : List Value) za1 T15.heap n0 Fc15_1 Fc15_2 rfl (by decide)) hZ (hw _ (List.mem_of_getElem? (i := 83) rfl)) (hw _ (List.mem_of_getElem? (i := 64) rfl)) (by decide) (by decide)) q19a q19c (g := (mkF m 299 #[iv pp, iv pq, iv pr', iv ps, iv pm, iv pr_1, iv pr_2, iv pr_3, iv pr_4, iv za1, iv zb1, iv za2, iv zb2, rv b9, rv b9, rv b9, rv rs_15, iv 0, iv za2, iv zb2, iv za1, iv zb1] [(.int 1), (.ref rs_15)])) rfl (by rw [hml]; rfl) (Steps.refl _) (argsL := [(.int 1)]) (rest := []) (lenOf pd_12 rfl) rfl (by show 2 * 0 + _ ≤ _; exact Nat.le_of_eq rfl) (hb hby at_299) (fun _ _ => ⟨rfl, e18, (by decide : 6 + 0 ≤ _), (by decide : 21 + 0 ≤ _)⟩)
    dsimp only [Pt.U, Pt.locs, Pt.cells, Pt.slots] at X19 l19 y19 z19 st19 hQ19
    subst l19 y19 z19
    obtain ⟨rfl, N19q, e19⟩ := hQ19
    have N19 := Fr.app N18 N19q
    refine Go.pull (V := T19.setTop (mkF m 302 #[iv pp, iv pq, iv pr', iv ps, iv pm, iv pr_1, iv pr_2, iv pr_3, iv pr_4, iv za1, iv zb1, iv za2, iv zb2, rv b9, rv b9, rv b9, rv rs_15, iv 0, iv za2, iv zb2, iv za1, iv zb1] [(.int za1)])) (fun _ k => st19.trans k) ?_
    refine Go.pull (V := T19.setTop (mkF m 304 #[iv pp, iv pq, iv pr', iv ps, iv pm, iv pr_1, iv pr_2, iv pr_3, iv pr_4, iv za1, iv zb1, iv za2, iv zb2, rv b9, rv b9, rv b9, rv rs_15, iv 0, iv za2, iv zb2, iv za1, iv zb1] [(.int za1), (.int za1)])) (fun t k => XS.iload X19.here hx rfl (hb hby at_302) rfl  k) ?_
    refine Go.pull (V := T19.setTop (mkF m 307 #[iv pp, iv pq, iv pr', iv ps, iv pm, iv pr_1, iv pr_2, iv pr_3, iv pr_4, iv za1, iv zb1, iv za2, iv zb2, rv b9, rv b9, rv b9, rv rs_15, iv 0, iv za2, iv zb2, iv za1, iv zb1] [])) (fun t k => XS.icmpNo X19.here hx rfl (hb hby at_304) rfl (XT.ii_ne_f rfl) k) ?_
    refine Go.pull (V := T19.setTop (mkF m 309 #[iv pp, iv pq, iv pr', iv ps, iv pm, iv pr_1, iv pr_2, iv pr_3, iv pr_4, iv za1, iv zb1, iv za2, iv zb2, rv b9, rv b9, rv b9, rv rs_15, iv 0, iv za2, iv zb2, iv za1, iv zb1] [(.ref rs_15)])) (fun t k => XS.aload X19.here hx rfl (hb hby at_307) rfl rfl k) ?_
    refine Go.pull (V := T19.setTop (mkF m 310 #[iv pp, iv pq, iv pr', iv ps, iv pm, iv pr_1, iv pr_2, iv pr_3, iv pr_4, iv za1, iv zb1, iv za2, iv zb2, rv b9, rv b9, rv b9, rv rs_15, iv 0, iv za2, iv zb2, iv za1, iv zb1] [(.int 1), (.ref rs_15)])) (fun t k => XS.iconst X19.here hx rfl (hb hby at_309) k) ?_
    obtain ⟨cq20, kq20, q20a, q20b, q20c⟩ := isOf hZ e19 Fc15_0
    obtain ⟨_, _, ⟨T20, L20, k20, n20⟩, -, X20, ⟨Lc20, hQ20, l20, y20, z20⟩, st20⟩ := X19.virtualBack hx (y := (⟨"com/example/salish/salish/regex/CodePointSet", "last", "(I)I"⟩ : MethodName)) (z := (⟨"com/example/salish/salish/regex/CodePointSet", "last", "(I)I"⟩ : MethodName)) hown (mvT hZ (hw _ (List.mem_of_getElem? (i := 84) rfl))) (mvT hZ (hw _ (List.mem_of_getElem? (i := 85) rfl))) (notFace_of_selects (args := #[]) (mvT hZ (hw _ (List.mem_of_getElem? (i := 87) rfl)))) (mvT hZ (hw _ (List.mem_of_getElem? (i := 87) rfl))) (mvT hZ (hw _ (List.mem_of_getElem? (i := 86) rfl))) (by decide) (backOf (W := 0) (rmLA l Z a0 hw [] rs_15 (1 : Int32) rb_15 kb_15 (4 : Int32) ([(.int za2), (.int zb2), (.int za1), (.int zb1)] : List Value) zb1 T15.heap n0 Fc15_1 Fc15_2 rfl (by decide)) hZ (hw _ (List.mem_of_getElem? (i := 88) rfl)) (hw _ (List.mem_of_getElem? (i := 64) rfl)) (by decide) (by decide)) q20a q20c (g := (mkF m 310 #[iv pp, iv pq, iv pr', iv ps, iv pm, iv pr_1, iv pr_2, iv pr_3, iv pr_4, iv za1, iv zb1, iv za2, iv zb2, rv b9, rv b9, rv b9, rv rs_15, iv 0, iv za2, iv zb2, iv za1, iv zb1] [(.int 1), (.ref rs_15)])) rfl (by rw [hml]; rfl) (Steps.refl _) (argsL := [(.int 1)]) (rest := []) (lenOf pd_12 rfl) rfl (by show 2 * 0 + _ ≤ _; exact Nat.le_of_eq rfl) (hb hby at_310) (fun _ _ => ⟨rfl, e19, (by decide : 6 + 0 ≤ _), (by decide : 21 + 0 ≤ _)⟩)
    dsimp only [Pt.U, Pt.locs, Pt.cells, Pt.slots] at X20 l20 y20 z20 st20 hQ20
    subst l20 y20 z20
    obtain ⟨rfl, N20q, e20⟩ := hQ20
    have N20 := Fr.app N19 N20q
    refine Go.pull (V := T20.setTop (mkF m 313 #[iv pp, iv pq, iv pr', iv ps, iv pm, iv pr_1, iv pr_2, iv pr_3, iv pr_4, iv za1, iv zb1, iv za2, iv zb2, rv b9, rv b9, rv b9, rv rs_15, iv 0, iv za2, iv zb2, iv za1, iv zb1] [(.int zb1)])) (fun _ k => st20.trans k) ?_
    refine Go.pull (V := T20.setTop (mkF m 315 #[iv pp, iv pq, iv pr', iv ps, iv pm, iv pr_1, iv pr_2, iv pr_3, iv pr_4, iv za1, iv zb1, iv za2, iv zb2, rv b9, rv b9, rv b9, rv rs_15, iv 0, iv za2, iv zb2, iv za1, iv zb1] [(.int zb1), (.int zb1)])) (fun t k => XS.iload X20.here hx rfl (hb hby at_313) rfl  k) ?_
    refine Go.pull (V := T20.setTop (mkF m 318 #[iv pp, iv pq, iv pr', iv ps, iv pm, iv pr_1, iv pr_2, iv pr_3, iv pr_4, iv za1, iv zb1, iv za2, iv zb2, rv b9, rv b9, rv b9, rv rs_15, iv 0, iv za2, iv zb2, iv za1, iv zb1] [])) (fun t k => XS.icmpNo X20.here hx rfl (hb hby at_315) rfl (XT.ii_ne_f rfl) k) ?_
    refine Go.pull (V := T20.setTop (mkF m 319 #[iv pp, iv pq, iv pr', iv ps, iv pm, iv pr_1, iv pr_2, iv pr_3, iv pr_4, iv za1, iv zb1, iv za2, iv zb2, rv b9, rv b9, rv b9, rv rs_15, iv 0, iv za2, iv zb2, iv za1, iv zb1] [(.int 1)])) (fun t k => XS.iconst X20.here hx rfl (hb hby at_318) k) ?_
    refine Go.pull (V := T20.setTop (mkF m 323 #[iv pp, iv pq, iv pr', iv ps, iv pm, iv pr_1, iv pr_2, iv pr_3, iv pr_4, iv za1, iv zb1, iv za2, iv zb2, rv b9, rv b9, rv b9, rv rs_15, iv 0, iv za2, iv zb2, iv za1, iv zb1] [(.int 1)])) (fun t k => XS.goto X20.here hx rfl (pc0 := 319) (pc' := 323) rfl (hb hby at_319) (by decide) (by decide) k) ?_
    exact Go.retN X20 hx Bd.notSynchronized (t := .boolean) Bd.returns (by simp) (hb hby at_323) ⟨rfl, N20⟩ (by decide) (by decide)
  · rw [Int64.lt_iff_toInt_lt, own_pkI hA, own_pkI hB] at hs; rw [Int32.lt_iff_toInt_lt] at hj
    refine Go.pull (V := T15.setTop (mkF m 106 #[iv pp, iv pq, iv pr', iv ps, iv pm, iv pr_1, iv pr_2, iv pr_3, iv pr_4, iv za1, iv zb1, iv za2, iv zb2, rv b9, rv b9, rv b9, rv rs_15, .unset, .unset, .unset, .unset, .unset] [])) (fun t k => XS.astore X15.here hx rfl (hb hby at_104) rfl rfl (l' := #[iv pp, iv pq, iv pr', iv ps, iv pm, iv pr_1, iv pr_2, iv pr_3, iv pr_4, iv za1, iv zb1, iv za2, iv zb2, rv b9, rv b9, rv b9, rv rs_15, .unset, .unset, .unset, .unset, .unset]) rfl k) ?_
    refine Go.pull (V := T15.setTop (mkF m 108 #[iv pp, iv pq, iv pr', iv ps, iv pm, iv pr_1, iv pr_2, iv pr_3, iv pr_4, iv za1, iv zb1, iv za2, iv zb2, rv b9, rv b9, rv b9, rv rs_15, .unset, .unset, .unset, .unset, .unset] [(.ref b9)])) (fun t k => XS.aload X15.here hx rfl (hb hby at_106) rfl rfl k) ?_
    refine Go.pull (V := T15.setTop (mkF m 110 #[iv pp, iv pq, iv pr', iv ps, iv pm, iv pr_1, iv pr_2, iv pr_3, iv pr_4, iv za1, iv zb1, iv za2, iv zb2, rv b9, rv b9, rv b9, rv rs_15, .unset, .unset, .unset, .unset, .unset] [(.ref b9), (.ref b9)])) (fun t k => XS.aload X15.here hx rfl (hb hby at_108) rfl rfl k) ?_
    refine Go.pull (V := T15.setTop (mkF m 113 #[iv pp, iv pq, iv pr', iv ps, iv pm, iv pr_1, iv pr_2, iv pr_3, iv pr_4, iv za1, iv zb1, iv za2, iv zb2, rv b9, rv b9, rv b9, rv rs_15, .unset, .unset, .unset, .unset, .unset] [])) (fun t k => XT.acmpNo X15.here hx rfl (hb hby at_110) rfl rfl rfl (XT.aa_ne_f rfl) k) ?_
    refine Go.pull (V := T15.setTop (mkF m 115 #[iv pp, iv pq, iv pr', iv ps, iv pm, iv pr_1, iv pr_2, iv pr_3, iv pr_4, iv za1, iv zb1, iv za2, iv zb2, rv b9, rv b9, rv b9, rv rs_15, .unset, .unset, .unset, .unset, .unset] [(.ref b9)])) (fun t k => XS.aload X15.here hx rfl (hb hby at_113) rfl rfl k) ?_
    refine Go.pull (V := T15.setTop (mkF m 117 #[iv pp, iv pq, iv pr', iv ps, iv pm, iv pr_1, iv pr_2, iv pr_3, iv pr_4, iv za1, iv zb1, iv za2, iv zb2, rv b9, rv b9, rv b9, rv rs_15, .unset, .unset, .unset, .unset, .unset] [(.ref b9), (.ref b9)])) (fun t k => XS.aload X15.here hx rfl (hb hby at_115) rfl rfl k) ?_
    refine Go.pull (V := T15.setTop (mkF m 122 #[iv pp, iv pq, iv pr', iv ps, iv pm, iv pr_1, iv pr_2, iv pr_3, iv pr_4, iv za1, iv zb1, iv za2, iv zb2, rv b9, rv b9, rv b9, rv rs_15, .unset, .unset, .unset, .unset, .unset] [])) (fun t k => XT.acmpYes X15.here hx rfl (pc0 := 117) (pc' := 122) rfl (hb hby at_117) rfl rfl rfl (XT.aa_eq_t rfl) (by decide) (by decide) k) ?_
    refine Go.pull (V := T15.setTop (mkF m 124 #[iv pp, iv pq, iv pr', iv ps, iv pm, iv pr_1, iv pr_2, iv pr_3, iv pr_4, iv za1, iv zb1, iv za2, iv zb2, rv b9, rv b9, rv b9, rv rs_15, .unset, .unset, .unset, .unset, .unset] [(.int za2)])) (fun t k => XS.iload X15.here hx rfl (hb hby at_122) rfl  k) ?_
    refine Go.pull (V := T15.setTop (mkF m 126 #[iv pp, iv pq, iv pr', iv ps, iv pm, iv pr_1, iv pr_2, iv pr_3, iv pr_4, iv za1, iv zb1, iv za2, iv zb2, rv b9, rv b9, rv b9, rv rs_15, .unset, .unset, .unset, .unset, .unset] [(.int zb1), (.int za2)])) (fun t k => XS.iload X15.here hx rfl (hb hby at_124) rfl  k) ?_
    refine Go.pull (V := T15.setTop (mkF m 127 #[iv pp, iv pq, iv pr', iv ps, iv pm, iv pr_1, iv pr_2, iv pr_3, iv pr_4, iv za1, iv zb1, iv za2, iv zb2, rv b9, rv b9, rv b9, rv rs_15, .unset, .unset, .unset, .unset, .unset] [(.int 1), (.int zb1), (.int za2)])) (fun t k => XS.iconst X15.here hx rfl (hb hby at_126) k) ?_
    refine Go.pull (V := T15.setTop (mkF m 128 #[iv pp, iv pq, iv pr', iv ps, iv pm, iv pr_1, iv pr_2, iv pr_3, iv pr_4, iv za1, iv zb1, iv za2, iv zb2, rv b9, rv b9, rv b9, rv rs_15, .unset, .unset, .unset, .unset, .unset] [(.int (zb1 + (1 : Int32))), (.int za2)])) (fun t k => XS.iadd X15.here hx rfl (hb hby at_127) rfl k) ?_
    refine Go.pull (V := T15.setTop (mkF m 131 #[iv pp, iv pq, iv pr', iv ps, iv pm, iv pr_1, iv pr_2, iv pr_3, iv pr_4, iv za1, iv zb1, iv za2, iv zb2, rv b9, rv b9, rv b9, rv rs_15, .unset, .unset, .unset, .unset, .unset] [])) (fun t k => XS.icmpNo X15.here hx rfl (hb hby at_128) rfl (XT.ii_gt_f (by rw [Int32.lt_iff_toInt_lt]; omega)) k) ?_
    refine Go.pull (V := T15.setTop (mkF m 133 #[iv pp, iv pq, iv pr', iv ps, iv pm, iv pr_1, iv pr_2, iv pr_3, iv pr_4, iv za1, iv zb1, iv za2, iv zb2, rv b9, rv b9, rv b9, rv rs_15, .unset, .unset, .unset, .unset, .unset] [(.int za1)])) (fun t k => XS.iload X15.here hx rfl (hb hby at_131) rfl  k) ?_
    refine Go.pull (V := T15.setTop (mkF m 135 #[iv pp, iv pq, iv pr', iv ps, iv pm, iv pr_1, iv pr_2, iv pr_3, iv pr_4, iv za1, iv zb1, iv za2, iv zb2, rv b9, rv b9, rv b9, rv rs_15, .unset, .unset, .unset, .unset, .unset] [(.int zb2), (.int za1)])) (fun t k => XS.iload X15.here hx rfl (hb hby at_133) rfl  k) ?_
    refine Go.pull (V := T15.setTop (mkF m 136 #[iv pp, iv pq, iv pr', iv ps, iv pm, iv pr_1, iv pr_2, iv pr_3, iv pr_4, iv za1, iv zb1, iv za2, iv zb2, rv b9, rv b9, rv b9, rv rs_15, .unset, .unset, .unset, .unset, .unset] [(.int 1), (.int zb2), (.int za1)])) (fun t k => XS.iconst X15.here hx rfl (hb hby at_135) k) ?_
    refine Go.pull (V := T15.setTop (mkF m 137 #[iv pp, iv pq, iv pr', iv ps, iv pm, iv pr_1, iv pr_2, iv pr_3, iv pr_4, iv za1, iv zb1, iv za2, iv zb2, rv b9, rv b9, rv b9, rv rs_15, .unset, .unset, .unset, .unset, .unset] [(.int (zb2 + (1 : Int32))), (.int za1)])) (fun t k => XS.iadd X15.here hx rfl (hb hby at_136) rfl k) ?_
    refine Go.pull (V := T15.setTop (mkF m 140 #[iv pp, iv pq, iv pr', iv ps, iv pm, iv pr_1, iv pr_2, iv pr_3, iv pr_4, iv za1, iv zb1, iv za2, iv zb2, rv b9, rv b9, rv b9, rv rs_15, .unset, .unset, .unset, .unset, .unset] [])) (fun t k => XS.icmpNo X15.here hx rfl (hb hby at_137) rfl (XT.ii_gt_f (by rw [Int32.lt_iff_toInt_lt]; omega)) k) ?_
    refine Go.pull (V := T15.setTop (mkF m 141 #[iv pp, iv pq, iv pr', iv ps, iv pm, iv pr_1, iv pr_2, iv pr_3, iv pr_4, iv za1, iv zb1, iv za2, iv zb2, rv b9, rv b9, rv b9, rv rs_15, .unset, .unset, .unset, .unset, .unset] [(.int 1)])) (fun t k => XS.iconst X15.here hx rfl (hb hby at_140) k) ?_
    refine Go.pull (V := T15.setTop (mkF m 145 #[iv pp, iv pq, iv pr', iv ps, iv pm, iv pr_1, iv pr_2, iv pr_3, iv pr_4, iv za1, iv zb1, iv za2, iv zb2, rv b9, rv b9, rv b9, rv rs_15, .unset, .unset, .unset, .unset, .unset] [(.int 1)])) (fun t k => XS.goto X15.here hx rfl (pc0 := 141) (pc' := 145) rfl (hb hby at_141) (by decide) (by decide) k) ?_
    refine Go.pull (V := T15.setTop (mkF m 147 #[iv pp, iv pq, iv pr', iv ps, iv pm, iv pr_1, iv pr_2, iv pr_3, iv pr_4, iv za1, iv zb1, iv za2, iv zb2, rv b9, rv b9, rv b9, rv rs_15, iv 1, .unset, .unset, .unset, .unset] [])) (fun t k => XS.istore X15.here hx rfl (hb hby at_145) rfl (l' := #[iv pp, iv pq, iv pr', iv ps, iv pm, iv pr_1, iv pr_2, iv pr_3, iv pr_4, iv za1, iv zb1, iv za2, iv zb2, rv b9, rv b9, rv b9, rv rs_15, iv 1, .unset, .unset, .unset, .unset]) rfl k) ?_
    refine Go.pull (V := T15.setTop (mkF m 149 #[iv pp, iv pq, iv pr', iv ps, iv pm, iv pr_1, iv pr_2, iv pr_3, iv pr_4, iv za1, iv zb1, iv za2, iv zb2, rv b9, rv b9, rv b9, rv rs_15, iv 1, .unset, .unset, .unset, .unset] [(.int 1)])) (fun t k => XS.iload X15.here hx rfl (hb hby at_147) rfl  k) ?_
    refine Go.pull (V := T15.setTop (mkF m 152 #[iv pp, iv pq, iv pr', iv ps, iv pm, iv pr_1, iv pr_2, iv pr_3, iv pr_4, iv za1, iv zb1, iv za2, iv zb2, rv b9, rv b9, rv b9, rv rs_15, iv 1, .unset, .unset, .unset, .unset] [])) (fun t k => XS.ifNo X15.here hx rfl (hb hby at_149) rfl (XT.i0_eq_f (by decide)) k) ?_
    refine Go.pull (V := T15.setTop (mkF m 154 #[iv pp, iv pq, iv pr', iv ps, iv pm, iv pr_1, iv pr_2, iv pr_3, iv pr_4, iv za1, iv zb1, iv za2, iv zb2, rv b9, rv b9, rv b9, rv rs_15, iv 1, .unset, .unset, .unset, .unset] [(.ref rs_15)])) (fun t k => XS.aload X15.here hx rfl (hb hby at_152) rfl rfl k) ?_
    obtain ⟨cq21, kq21, q21a, q21b, q21c⟩ := isOf hZ rfl Fc15_0
    obtain ⟨_, _, ⟨T21, L21, k21, n21⟩, -, X21, ⟨Lc21, hQ21, l21, y21, z21⟩, st21⟩ := X15.virtualBack hx (y := (⟨"com/example/salish/salish/regex/CodePointSet", "rangeCount", "()I"⟩ : MethodName)) (z := (⟨"com/example/salish/salish/regex/CodePointSet", "rangeCount", "()I"⟩ : MethodName)) hown (mvT hZ (hw _ (List.mem_of_getElem? (i := 74) rfl))) (mvT hZ (hw _ (List.mem_of_getElem? (i := 75) rfl))) (notFace_of_selects (args := #[]) (mvT hZ (hw _ (List.mem_of_getElem? (i := 77) rfl)))) (mvT hZ (hw _ (List.mem_of_getElem? (i := 77) rfl))) (mvT hZ (hw _ (List.mem_of_getElem? (i := 76) rfl))) (by decide) (backOf (W := 0) (rmRC l Z a0 hw [] rs_15 rb_15 kb_15 (2 : Int32) ([(.int za2), (.int (own_max zb2 zb1))] : List Value) T15.heap n0 Fc15_1 Fc15_2) hZ (hw _ (List.mem_of_getElem? (i := 78) rfl)) (hw _ (List.mem_of_getElem? (i := 64) rfl)) (by decide) (by decide)) q21a q21c (g := (mkF m 154 #[iv pp, iv pq, iv pr', iv ps, iv pm, iv pr_1, iv pr_2, iv pr_3, iv pr_4, iv za1, iv zb1, iv za2, iv zb2, rv b9, rv b9, rv b9, rv rs_15, iv 1, .unset, .unset, .unset, .unset] [(.ref rs_15)])) rfl (by rw [hml]; rfl) (Steps.refl _) (argsL := []) (rest := []) (lenOf pd_11 rfl) rfl (by show 2 * 0 + _ ≤ _; exact Nat.le_of_eq rfl) (hb hby at_154) (fun _ _ => ⟨rfl, rfl, (by decide : 6 + 0 ≤ _), (by decide : 21 + 0 ≤ _)⟩)
    dsimp only [Pt.U, Pt.locs, Pt.cells, Pt.slots] at X21 l21 y21 z21 st21 hQ21
    subst l21 y21 z21
    obtain ⟨hv21, N21q, e21⟩ := hQ21
    rw [(show ((2 : Int32) / (2 : Int32)) = (1 : Int32) from by decide)] at hv21; subst hv21
    have N21 := Fr.app N15 N21q
    refine Go.pull (V := T21.setTop (mkF m 157 #[iv pp, iv pq, iv pr', iv ps, iv pm, iv pr_1, iv pr_2, iv pr_3, iv pr_4, iv za1, iv zb1, iv za2, iv zb2, rv b9, rv b9, rv b9, rv rs_15, iv 1, .unset, .unset, .unset, .unset] [(.int 1)])) (fun _ k => st21.trans k) ?_
    refine Go.pull (V := T21.setTop (mkF m 158 #[iv pp, iv pq, iv pr', iv ps, iv pm, iv pr_1, iv pr_2, iv pr_3, iv pr_4, iv za1, iv zb1, iv za2, iv zb2, rv b9, rv b9, rv b9, rv rs_15, iv 1, .unset, .unset, .unset, .unset] [(.int 1), (.int 1)])) (fun t k => XS.iconst X21.here hx rfl (hb hby at_157) k) ?_
    refine Go.pull (V := T21.setTop (mkF m 161 #[iv pp, iv pq, iv pr', iv ps, iv pm, iv pr_1, iv pr_2, iv pr_3, iv pr_4, iv za1, iv zb1, iv za2, iv zb2, rv b9, rv b9, rv b9, rv rs_15, iv 1, .unset, .unset, .unset, .unset] [])) (fun t k => XS.icmpNo X21.here hx rfl (hb hby at_158) rfl (XT.ii_ne_f (by decide)) k) ?_
    refine Go.pull (V := T21.setTop (mkF m 163 #[iv pp, iv pq, iv pr', iv ps, iv pm, iv pr_1, iv pr_2, iv pr_3, iv pr_4, iv za1, iv zb1, iv za2, iv zb2, rv b9, rv b9, rv b9, rv rs_15, iv 1, .unset, .unset, .unset, .unset] [(.ref rs_15)])) (fun t k => XS.aload X21.here hx rfl (hb hby at_161) rfl rfl k) ?_
    refine Go.pull (V := T21.setTop (mkF m 164 #[iv pp, iv pq, iv pr', iv ps, iv pm, iv pr_1, iv pr_2, iv pr_3, iv pr_4, iv za1, iv zb1, iv za2, iv zb2, rv b9, rv b9, rv b9, rv rs_15, iv 1, .unset, .unset, .unset, .unset] [(.int 0), (.ref rs_15)])) (fun t k => XS.iconst X21.here hx rfl (hb hby at_163) k) ?_
    obtain ⟨cq22, kq22, q22a, q22b, q22c⟩ := isOf hZ e21 Fc15_0
    obtain ⟨_, _, ⟨T22, L22, k22, n22⟩, -, X22, ⟨Lc22, hQ22, l22, y22, z22⟩, st22⟩ := X21.virtualBack hx (y := (⟨"com/example/salish/salish/regex/CodePointSet", "first", "(I)I"⟩ : MethodName)) (z := (⟨"com/example/salish/salish/regex/CodePointSet", "first", "(I)I"⟩ : MethodName)) hown (mvT hZ (hw _ (List.mem_of_getElem? (i := 79) rfl))) (mvT hZ (hw _ (List.mem_of_getElem? (i := 80) rfl))) (notFace_of_selects (args := #[]) (mvT hZ (hw _ (List.mem_of_getElem? (i := 82) rfl)))) (mvT hZ (hw _ (List.mem_of_getElem? (i := 82) rfl))) (mvT hZ (hw _ (List.mem_of_getElem? (i := 81) rfl))) (by decide) (backOf (W := 0) (rmFI l Z a0 hw [] rs_15 (0 : Int32) rb_15 kb_15 (2 : Int32) ([(.int za2), (.int (own_max zb2 zb1))] : List Value) za2 T15.heap n0 Fc15_1 Fc15_2 rfl (by decide)) hZ (hw _ (List.mem_of_getElem? (i := 83) rfl)) (hw _ (List.mem_of_getElem? (i := 64) rfl)) (by decide) (by decide)) q22a q22c (g := (mkF m 164 #[iv pp, iv pq, iv pr', iv ps, iv pm, iv pr_1, iv pr_2, iv pr_3, iv pr_4, iv za1, iv zb1, iv za2, iv zb2, rv b9, rv b9, rv b9, rv rs_15, iv 1, .unset, .unset, .unset, .unset] [(.int 0), (.ref rs_15)])) rfl (by rw [hml]; rfl) (Steps.refl _) (argsL := [(.int 0)]) (rest := []) (lenOf pd_12 rfl) rfl (by show 2 * 0 + _ ≤ _; exact Nat.le_of_eq rfl) (hb hby at_164) (fun _ _ => ⟨rfl, e21, (by decide : 6 + 0 ≤ _), (by decide : 21 + 0 ≤ _)⟩)
    dsimp only [Pt.U, Pt.locs, Pt.cells, Pt.slots] at X22 l22 y22 z22 st22 hQ22
    subst l22 y22 z22
    obtain ⟨rfl, N22q, e22⟩ := hQ22
    have N22 := Fr.app N21 N22q
    refine Go.pull (V := T22.setTop (mkF m 167 #[iv pp, iv pq, iv pr', iv ps, iv pm, iv pr_1, iv pr_2, iv pr_3, iv pr_4, iv za1, iv zb1, iv za2, iv zb2, rv b9, rv b9, rv b9, rv rs_15, iv 1, .unset, .unset, .unset, .unset] [(.int za2)])) (fun _ k => st22.trans k) ?_
    refine Go.pull (V := T22.setTop (mkF m 169 #[iv pp, iv pq, iv pr', iv ps, iv pm, iv pr_1, iv pr_2, iv pr_3, iv pr_4, iv za1, iv zb1, iv za2, iv zb2, rv b9, rv b9, rv b9, rv rs_15, iv 1, .unset, .unset, .unset, .unset] [(.int za1), (.int za2)])) (fun t k => XS.iload X22.here hx rfl (hb hby at_167) rfl  k) ?_
    refine Go.pull (V := T22.setTop (mkF m 171 #[iv pp, iv pq, iv pr', iv ps, iv pm, iv pr_1, iv pr_2, iv pr_3, iv pr_4, iv za1, iv zb1, iv za2, iv zb2, rv b9, rv b9, rv b9, rv rs_15, iv 1, .unset, .unset, .unset, .unset] [(.int za2), (.int za1), (.int za2)])) (fun t k => XS.iload X22.here hx rfl (hb hby at_169) rfl  k) ?_
    obtain ⟨_, _, ⟨T23, L23, k23, n23⟩, -, X23, ⟨Lc23, hQ23, l23, y23, z23⟩, st23⟩ := Jvm.LawKit.callS X22 hx (y := (⟨"java/lang/Math", "min", "(II)I"⟩ : MethodName)) hown (mvT hZ (hw _ (List.mem_of_getElem? (i := 6) rfl))) (mvT hZ (hw _ (List.mem_of_getElem? (i := 7) rfl))) (mvT hZ (hw _ (List.mem_of_getElem? (i := 8) rfl))) (mvT hZ (hw _ (List.mem_of_getElem? (i := 9) rfl))) (by decide) (backOf (W := 1) (rmMn l Z a0 hw [] za1 za2 T15.heap n0 ) hZ (hw _ (List.mem_of_getElem? (i := 9) rfl)) (hw _ (List.mem_of_getElem? (i := 8) rfl)) (by decide) (by decide)) (g := (mkF m 171 #[iv pp, iv pq, iv pr', iv ps, iv pm, iv pr_1, iv pr_2, iv pr_3, iv pr_4, iv za1, iv zb1, iv za2, iv zb2, rv b9, rv b9, rv b9, rv rs_15, iv 1, .unset, .unset, .unset, .unset] [(.int za2), (.int za1), (.int za2)])) rfl (by rw [hml]; rfl) (argsL := [(.int za1), (.int za2)]) (rest := [(.int za2)]) (lenOf pd_0 rfl) rfl (by show 2 * 0 + _ ≤ _; exact Nat.le_of_eq rfl) (hb hby at_171) (fun _ _ => ⟨rfl, e22, (by decide : 6 + 0 ≤ _), (by decide : 21 + 0 ≤ _)⟩)
    dsimp only [Pt.U, Pt.locs, Pt.cells, Pt.slots] at X23 l23 y23 z23 st23 hQ23
    subst l23 y23 z23
    obtain ⟨rfl, N23q, e23⟩ := hQ23
    have N23 := Fr.app N22 N23q
    refine Go.pull (V := T23.setTop (mkF m 174 #[iv pp, iv pq, iv pr', iv ps, iv pm, iv pr_1, iv pr_2, iv pr_3, iv pr_4, iv za1, iv zb1, iv za2, iv zb2, rv b9, rv b9, rv b9, rv rs_15, iv 1, .unset, .unset, .unset, .unset] [(.int (own_min za1 za2)), (.int za2)])) st23 ?_
    refine Go.pull (V := T23.setTop (mkF m 177 #[iv pp, iv pq, iv pr', iv ps, iv pm, iv pr_1, iv pr_2, iv pr_3, iv pr_4, iv za1, iv zb1, iv za2, iv zb2, rv b9, rv b9, rv b9, rv rs_15, iv 1, .unset, .unset, .unset, .unset] [])) (fun t k => XS.icmpNo X23.here hx rfl (hb hby at_174) rfl (XT.ii_ne_f (Int32.toInt_inj.mp (by have := own_mn za1 za2; omega))) k) ?_
    refine Go.pull (V := T23.setTop (mkF m 179 #[iv pp, iv pq, iv pr', iv ps, iv pm, iv pr_1, iv pr_2, iv pr_3, iv pr_4, iv za1, iv zb1, iv za2, iv zb2, rv b9, rv b9, rv b9, rv rs_15, iv 1, .unset, .unset, .unset, .unset] [(.ref rs_15)])) (fun t k => XS.aload X23.here hx rfl (hb hby at_177) rfl rfl k) ?_
    refine Go.pull (V := T23.setTop (mkF m 180 #[iv pp, iv pq, iv pr', iv ps, iv pm, iv pr_1, iv pr_2, iv pr_3, iv pr_4, iv za1, iv zb1, iv za2, iv zb2, rv b9, rv b9, rv b9, rv rs_15, iv 1, .unset, .unset, .unset, .unset] [(.int 0), (.ref rs_15)])) (fun t k => XS.iconst X23.here hx rfl (hb hby at_179) k) ?_
    obtain ⟨cq24, kq24, q24a, q24b, q24c⟩ := isOf hZ e23 Fc15_0
    obtain ⟨_, _, ⟨T24, L24, k24, n24⟩, -, X24, ⟨Lc24, hQ24, l24, y24, z24⟩, st24⟩ := X23.virtualBack hx (y := (⟨"com/example/salish/salish/regex/CodePointSet", "last", "(I)I"⟩ : MethodName)) (z := (⟨"com/example/salish/salish/regex/CodePointSet", "last", "(I)I"⟩ : MethodName)) hown (mvT hZ (hw _ (List.mem_of_getElem? (i := 84) rfl))) (mvT hZ (hw _ (List.mem_of_getElem? (i := 85) rfl))) (notFace_of_selects (args := #[]) (mvT hZ (hw _ (List.mem_of_getElem? (i := 87) rfl)))) (mvT hZ (hw _ (List.mem_of_getElem? (i := 87) rfl))) (mvT hZ (hw _ (List.mem_of_getElem? (i := 86) rfl))) (by decide) (backOf (W := 0) (rmLA l Z a0 hw [] rs_15 (0 : Int32) rb_15 kb_15 (2 : Int32) ([(.int za2), (.int (own_max zb2 zb1))] : List Value) (own_max zb2 zb1) T15.heap n0 Fc15_1 Fc15_2 rfl (by decide)) hZ (hw _ (List.mem_of_getElem? (i := 88) rfl)) (hw _ (List.mem_of_getElem? (i := 64) rfl)) (by decide) (by decide)) q24a q24c (g := (mkF m 180 #[iv pp, iv pq, iv pr', iv ps, iv pm, iv pr_1, iv pr_2, iv pr_3, iv pr_4, iv za1, iv zb1, iv za2, iv zb2, rv b9, rv b9, rv b9, rv rs_15, iv 1, .unset, .unset, .unset, .unset] [(.int 0), (.ref rs_15)])) rfl (by rw [hml]; rfl) (Steps.refl _) (argsL := [(.int 0)]) (rest := []) (lenOf pd_12 rfl) rfl (by show 2 * 0 + _ ≤ _; exact Nat.le_of_eq rfl) (hb hby at_180) (fun _ _ => ⟨rfl, e23, (by decide : 6 + 0 ≤ _), (by decide : 21 + 0 ≤ _)⟩)
    dsimp only [Pt.U, Pt.locs, Pt.cells, Pt.slots] at X24 l24 y24 z24 st24 hQ24
    subst l24 y24 z24
    obtain ⟨rfl, N24q, e24⟩ := hQ24
    have N24 := Fr.app N23 N24q
    refine Go.pull (V := T24.setTop (mkF m 183 #[iv pp, iv pq, iv pr', iv ps, iv pm, iv pr_1, iv pr_2, iv pr_3, iv pr_4, iv za1, iv zb1, iv za2, iv zb2, rv b9, rv b9, rv b9, rv rs_15, iv 1, .unset, .unset, .unset, .unset] [(.int (own_max zb2 zb1))])) (fun _ k => st24.trans k) ?_
    refine Go.pull (V := T24.setTop (mkF m 185 #[iv pp, iv pq, iv pr', iv ps, iv pm, iv pr_1, iv pr_2, iv pr_3, iv pr_4, iv za1, iv zb1, iv za2, iv zb2, rv b9, rv b9, rv b9, rv rs_15, iv 1, .unset, .unset, .unset, .unset] [(.int zb1), (.int (own_max zb2 zb1))])) (fun t k => XS.iload X24.here hx rfl (hb hby at_183) rfl  k) ?_
    refine Go.pull (V := T24.setTop (mkF m 187 #[iv pp, iv pq, iv pr', iv ps, iv pm, iv pr_1, iv pr_2, iv pr_3, iv pr_4, iv za1, iv zb1, iv za2, iv zb2, rv b9, rv b9, rv b9, rv rs_15, iv 1, .unset, .unset, .unset, .unset] [(.int zb2), (.int zb1), (.int (own_max zb2 zb1))])) (fun t k => XS.iload X24.here hx rfl (hb hby at_185) rfl  k) ?_
    obtain ⟨_, _, ⟨T25, L25, k25, n25⟩, -, X25, ⟨Lc25, hQ25, l25, y25, z25⟩, st25⟩ := Jvm.LawKit.callS X24 hx (y := (⟨"java/lang/Math", "max", "(II)I"⟩ : MethodName)) hown (mvT hZ (hw _ (List.mem_of_getElem? (i := 10) rfl))) (mvT hZ (hw _ (List.mem_of_getElem? (i := 11) rfl))) (mvT hZ (hw _ (List.mem_of_getElem? (i := 8) rfl))) (mvT hZ (hw _ (List.mem_of_getElem? (i := 12) rfl))) (by decide) (backOf (W := 1) (rmMx l Z a0 hw [] zb1 zb2 T15.heap n0 ) hZ (hw _ (List.mem_of_getElem? (i := 12) rfl)) (hw _ (List.mem_of_getElem? (i := 8) rfl)) (by decide) (by decide)) (g := (mkF m 187 #[iv pp, iv pq, iv pr', iv ps, iv pm, iv pr_1, iv pr_2, iv pr_3, iv pr_4, iv za1, iv zb1, iv za2, iv zb2, rv b9, rv b9, rv b9, rv rs_15, iv 1, .unset, .unset, .unset, .unset] [(.int zb2), (.int zb1), (.int (own_max zb2 zb1))])) rfl (by rw [hml]; rfl) (argsL := [(.int zb1), (.int zb2)]) (rest := [(.int (own_max zb2 zb1))]) (lenOf pd_0 rfl) rfl (by show 2 * 0 + _ ≤ _; exact Nat.le_of_eq rfl) (hb hby at_187) (fun _ _ => ⟨rfl, e24, (by decide : 6 + 0 ≤ _), (by decide : 21 + 0 ≤ _)⟩)
    dsimp only [Pt.U, Pt.locs, Pt.cells, Pt.slots] at X25 l25 y25 z25 st25 hQ25
    subst l25 y25 z25
    obtain ⟨rfl, N25q, e25⟩ := hQ25
    have N25 := Fr.app N24 N25q
    refine Go.pull (V := T25.setTop (mkF m 190 #[iv pp, iv pq, iv pr', iv ps, iv pm, iv pr_1, iv pr_2, iv pr_3, iv pr_4, iv za1, iv zb1, iv za2, iv zb2, rv b9, rv b9, rv b9, rv rs_15, iv 1, .unset, .unset, .unset, .unset] [(.int (own_max zb1 zb2)), (.int (own_max zb2 zb1))])) st25 ?_
    refine Go.pull (V := T25.setTop (mkF m 193 #[iv pp, iv pq, iv pr', iv ps, iv pm, iv pr_1, iv pr_2, iv pr_3, iv pr_4, iv za1, iv zb1, iv za2, iv zb2, rv b9, rv b9, rv b9, rv rs_15, iv 1, .unset, .unset, .unset, .unset] [])) (fun t k => XS.icmpNo X25.here hx rfl (hb hby at_190) rfl (XT.ii_ne_f (Int32.toInt_inj.mp (by have := own_mx zb1 zb2; have := own_mx zb2 zb1; omega))) k) ?_
    refine Go.pull (V := T25.setTop (mkF m 194 #[iv pp, iv pq, iv pr', iv ps, iv pm, iv pr_1, iv pr_2, iv pr_3, iv pr_4, iv za1, iv zb1, iv za2, iv zb2, rv b9, rv b9, rv b9, rv rs_15, iv 1, .unset, .unset, .unset, .unset] [(.int 1)])) (fun t k => XS.iconst X25.here hx rfl (hb hby at_193) k) ?_
    refine Go.pull (V := T25.setTop (mkF m 198 #[iv pp, iv pq, iv pr', iv ps, iv pm, iv pr_1, iv pr_2, iv pr_3, iv pr_4, iv za1, iv zb1, iv za2, iv zb2, rv b9, rv b9, rv b9, rv rs_15, iv 1, .unset, .unset, .unset, .unset] [(.int 1)])) (fun t k => XS.goto X25.here hx rfl (pc0 := 194) (pc' := 198) rfl (hb hby at_194) (by decide) (by decide) k) ?_
    exact Go.retN X25 hx Bd.notSynchronized (t := .boolean) Bd.returns (by simp) (hb hby at_198) ⟨rfl, N25⟩ (by decide) (by decide)
  · rw [Int64.lt_iff_toInt_lt, own_pkI hA, own_pkI hB] at hs; rw [Int32.lt_iff_toInt_lt] at hj
    refine Go.pull (V := T15.setTop (mkF m 106 #[iv pp, iv pq, iv pr', iv ps, iv pm, iv pr_1, iv pr_2, iv pr_3, iv pr_4, iv za1, iv zb1, iv za2, iv zb2, rv b9, rv b9, rv b9, rv rs_15, .unset, .unset, .unset, .unset, .unset] [])) (fun t k => XS.astore X15.here hx rfl (hb hby at_104) rfl rfl (l' := #[iv pp, iv pq, iv pr', iv ps, iv pm, iv pr_1, iv pr_2, iv pr_3, iv pr_4, iv za1, iv zb1, iv za2, iv zb2, rv b9, rv b9, rv b9, rv rs_15, .unset, .unset, .unset, .unset, .unset]) rfl k) ?_
    refine Go.pull (V := T15.setTop (mkF m 108 #[iv pp, iv pq, iv pr', iv ps, iv pm, iv pr_1, iv pr_2, iv pr_3, iv pr_4, iv za1, iv zb1, iv za2, iv zb2, rv b9, rv b9, rv b9, rv rs_15, .unset, .unset, .unset, .unset, .unset] [(.ref b9)])) (fun t k => XS.aload X15.here hx rfl (hb hby at_106) rfl rfl k) ?_
    refine Go.pull (V := T15.setTop (mkF m 110 #[iv pp, iv pq, iv pr', iv ps, iv pm, iv pr_1, iv pr_2, iv pr_3, iv pr_4, iv za1, iv zb1, iv za2, iv zb2, rv b9, rv b9, rv b9, rv rs_15, .unset, .unset, .unset, .unset, .unset] [(.ref b9), (.ref b9)])) (fun t k => XS.aload X15.here hx rfl (hb hby at_108) rfl rfl k) ?_
    refine Go.pull (V := T15.setTop (mkF m 113 #[iv pp, iv pq, iv pr', iv ps, iv pm, iv pr_1, iv pr_2, iv pr_3, iv pr_4, iv za1, iv zb1, iv za2, iv zb2, rv b9, rv b9, rv b9, rv rs_15, .unset, .unset, .unset, .unset, .unset] [])) (fun t k => XT.acmpNo X15.here hx rfl (hb hby at_110) rfl rfl rfl (XT.aa_ne_f rfl) k) ?_
    refine Go.pull (V := T15.setTop (mkF m 115 #[iv pp, iv pq, iv pr', iv ps, iv pm, iv pr_1, iv pr_2, iv pr_3, iv pr_4, iv za1, iv zb1, iv za2, iv zb2, rv b9, rv b9, rv b9, rv rs_15, .unset, .unset, .unset, .unset, .unset] [(.ref b9)])) (fun t k => XS.aload X15.here hx rfl (hb hby at_113) rfl rfl k) ?_
    refine Go.pull (V := T15.setTop (mkF m 117 #[iv pp, iv pq, iv pr', iv ps, iv pm, iv pr_1, iv pr_2, iv pr_3, iv pr_4, iv za1, iv zb1, iv za2, iv zb2, rv b9, rv b9, rv b9, rv rs_15, .unset, .unset, .unset, .unset, .unset] [(.ref b9), (.ref b9)])) (fun t k => XS.aload X15.here hx rfl (hb hby at_115) rfl rfl k) ?_
    refine Go.pull (V := T15.setTop (mkF m 122 #[iv pp, iv pq, iv pr', iv ps, iv pm, iv pr_1, iv pr_2, iv pr_3, iv pr_4, iv za1, iv zb1, iv za2, iv zb2, rv b9, rv b9, rv b9, rv rs_15, .unset, .unset, .unset, .unset, .unset] [])) (fun t k => XT.acmpYes X15.here hx rfl (pc0 := 117) (pc' := 122) rfl (hb hby at_117) rfl rfl rfl (XT.aa_eq_t rfl) (by decide) (by decide) k) ?_
    refine Go.pull (V := T15.setTop (mkF m 124 #[iv pp, iv pq, iv pr', iv ps, iv pm, iv pr_1, iv pr_2, iv pr_3, iv pr_4, iv za1, iv zb1, iv za2, iv zb2, rv b9, rv b9, rv b9, rv rs_15, .unset, .unset, .unset, .unset, .unset] [(.int za2)])) (fun t k => XS.iload X15.here hx rfl (hb hby at_122) rfl  k) ?_
    refine Go.pull (V := T15.setTop (mkF m 126 #[iv pp, iv pq, iv pr', iv ps, iv pm, iv pr_1, iv pr_2, iv pr_3, iv pr_4, iv za1, iv zb1, iv za2, iv zb2, rv b9, rv b9, rv b9, rv rs_15, .unset, .unset, .unset, .unset, .unset] [(.int zb1), (.int za2)])) (fun t k => XS.iload X15.here hx rfl (hb hby at_124) rfl  k) ?_
    refine Go.pull (V := T15.setTop (mkF m 127 #[iv pp, iv pq, iv pr', iv ps, iv pm, iv pr_1, iv pr_2, iv pr_3, iv pr_4, iv za1, iv zb1, iv za2, iv zb2, rv b9, rv b9, rv b9, rv rs_15, .unset, .unset, .unset, .unset, .unset] [(.int 1), (.int zb1), (.int za2)])) (fun t k => XS.iconst X15.here hx rfl (hb hby at_126) k) ?_
    refine Go.pull (V := T15.setTop (mkF m 128 #[iv pp, iv pq, iv pr', iv ps, iv pm, iv pr_1, iv pr_2, iv pr_3, iv pr_4, iv za1, iv zb1, iv za2, iv zb2, rv b9, rv b9, rv b9, rv rs_15, .unset, .unset, .unset, .unset, .unset] [(.int (zb1 + (1 : Int32))), (.int za2)])) (fun t k => XS.iadd X15.here hx rfl (hb hby at_127) rfl k) ?_
    refine Go.pull (V := T15.setTop (mkF m 144 #[iv pp, iv pq, iv pr', iv ps, iv pm, iv pr_1, iv pr_2, iv pr_3, iv pr_4, iv za1, iv zb1, iv za2, iv zb2, rv b9, rv b9, rv b9, rv rs_15, .unset, .unset, .unset, .unset, .unset] [])) (fun t k => XS.icmpYes X15.here hx rfl (pc0 := 128) (pc' := 144) rfl (hb hby at_128) rfl (XT.ii_gt_t (by rw [Int32.lt_iff_toInt_lt]; omega)) (by decide) (by decide) k) ?_
    refine Go.pull (V := T15.setTop (mkF m 145 #[iv pp, iv pq, iv pr', iv ps, iv pm, iv pr_1, iv pr_2, iv pr_3, iv pr_4, iv za1, iv zb1, iv za2, iv zb2, rv b9, rv b9, rv b9, rv rs_15, .unset, .unset, .unset, .unset, .unset] [(.int 0)])) (fun t k => XS.iconst X15.here hx rfl (hb hby at_144) k) ?_
    refine Go.pull (V := T15.setTop (mkF m 147 #[iv pp, iv pq, iv pr', iv ps, iv pm, iv pr_1, iv pr_2, iv pr_3, iv pr_4, iv za1, iv zb1, iv za2, iv zb2, rv b9, rv b9, rv b9, rv rs_15, iv 0, .unset, .unset, .unset, .unset] [])) (fun t k => XS.istore X15.here hx rfl (hb hby at_145) rfl (l' := #[iv pp, iv pq, iv pr', iv ps, iv pm, iv pr_1, iv pr_2, iv pr_3, iv pr_4, iv za1, iv zb1, iv za2, iv zb2, rv b9, rv b9, rv b9, rv rs_15, iv 0, .unset, .unset, .unset, .unset]) rfl k) ?_
    refine Go.pull (V := T15.setTop (mkF m 149 #[iv pp, iv pq, iv pr', iv ps, iv pm, iv pr_1, iv pr_2, iv pr_3, iv pr_4, iv za1, iv zb1, iv za2, iv zb2, rv b9, rv b9, rv b9, rv rs_15, iv 0, .unset, .unset, .unset, .unset] [(.int 0)])) (fun t k => XS.iload X15.here hx rfl (hb hby at_147) rfl  k) ?_
    refine Go.pull (V := T15.setTop (mkF m 199 #[iv pp, iv pq, iv pr', iv ps, iv pm, iv pr_1, iv pr_2, iv pr_3, iv pr_4, iv za1, iv zb1, iv za2, iv zb2, rv b9, rv b9, rv b9, rv rs_15, iv 0, .unset, .unset, .unset, .unset] [])) (fun t k => XS.ifYes X15.here hx rfl (pc0 := 149) (pc' := 199) rfl (hb hby at_149) rfl (XT.i0_eq_t (by decide)) (by decide) (by decide) k) ?_
    refine Go.pull (V := T15.setTop (mkF m 201 #[iv pp, iv pq, iv pr', iv ps, iv pm, iv pr_1, iv pr_2, iv pr_3, iv pr_4, iv za1, iv zb1, iv za2, iv zb2, rv b9, rv b9, rv b9, rv rs_15, iv 0, .unset, .unset, .unset, .unset] [(.ref rs_15)])) (fun t k => XS.aload X15.here hx rfl (hb hby at_199) rfl rfl k) ?_
    obtain ⟨cq26, kq26, q26a, q26b, q26c⟩ := isOf hZ rfl Fc15_0
    obtain ⟨_, _, ⟨T26, L26, k26, n26⟩, -, X26, ⟨Lc26, hQ26, l26, y26, z26⟩, st26⟩ := X15.virtualBack hx (y := (⟨"com/example/salish/salish/regex/CodePointSet", "rangeCount", "()I"⟩ : MethodName)) (z := (⟨"com/example/salish/salish/regex/CodePointSet", "rangeCount", "()I"⟩ : MethodName)) hown (mvT hZ (hw _ (List.mem_of_getElem? (i := 74) rfl))) (mvT hZ (hw _ (List.mem_of_getElem? (i := 75) rfl))) (notFace_of_selects (args := #[]) (mvT hZ (hw _ (List.mem_of_getElem? (i := 77) rfl)))) (mvT hZ (hw _ (List.mem_of_getElem? (i := 77) rfl))) (mvT hZ (hw _ (List.mem_of_getElem? (i := 76) rfl))) (by decide) (backOf (W := 0) (rmRC l Z a0 hw [] rs_15 rb_15 kb_15 (4 : Int32) ([(.int za1), (.int zb1), (.int za2), (.int zb2)] : List Value) T15.heap n0 Fc15_1 Fc15_2) hZ (hw _ (List.mem_of_getElem? (i := 78) rfl)) (hw _ (List.mem_of_getElem? (i := 64) rfl)) (by decide) (by decide)) q26a q26c (g := (mkF m 201 #[iv pp, iv pq, iv pr', iv ps, iv pm, iv pr_1, iv pr_2, iv pr_3, iv pr_4, iv za1, iv zb1, iv za2, iv zb2, rv b9, rv b9, rv b9, rv rs_15, iv 0, .unset, .unset, .unset, .unset] [(.ref rs_15)])) rfl (by rw [hml]; rfl) (Steps.refl _) (argsL := []) (rest := []) (lenOf pd_11 rfl) rfl (by show 2 * 0 + _ ≤ _; exact Nat.le_of_eq rfl) (hb hby at_201) (fun _ _ => ⟨rfl, rfl, (by decide : 6 + 0 ≤ _), (by decide : 21 + 0 ≤ _)⟩)
    dsimp only [Pt.U, Pt.locs, Pt.cells, Pt.slots] at X26 l26 y26 z26 st26 hQ26
    subst l26 y26 z26
    obtain ⟨hv26, N26q, e26⟩ := hQ26
    rw [(show ((4 : Int32) / (2 : Int32)) = (2 : Int32) from by decide)] at hv26; subst hv26
    have N26 := Fr.app N15 N26q
    refine Go.pull (V := T26.setTop (mkF m 204 #[iv pp, iv pq, iv pr', iv ps, iv pm, iv pr_1, iv pr_2, iv pr_3, iv pr_4, iv za1, iv zb1, iv za2, iv zb2, rv b9, rv b9, rv b9, rv rs_15, iv 0, .unset, .unset, .unset, .unset] [(.int 2)])) (fun _ k => st26.trans k) ?_
    refine Go.pull (V := T26.setTop (mkF m 205 #[iv pp, iv pq, iv pr', iv ps, iv pm, iv pr_1, iv pr_2, iv pr_3, iv pr_4, iv za1, iv zb1, iv za2, iv zb2, rv b9, rv b9, rv b9, rv rs_15, iv 0, .unset, .unset, .unset, .unset] [(.int 2), (.int 2)])) (fun t k => XS.iconst X26.here hx rfl (hb hby at_204) k) ?_
    refine Go.pull (V := T26.setTop (mkF m 210 #[iv pp, iv pq, iv pr', iv ps, iv pm, iv pr_1, iv pr_2, iv pr_3, iv pr_4, iv za1, iv zb1, iv za2, iv zb2, rv b9, rv b9, rv b9, rv rs_15, iv 0, .unset, .unset, .unset, .unset] [])) (fun t k => XS.icmpYes X26.here hx rfl (pc0 := 205) (pc' := 210) rfl (hb hby at_205) rfl (XT.ii_eq_t (by decide)) (by decide) (by decide) k) ?_
    refine Go.pull (V := T26.setTop (mkF m 212 #[iv pp, iv pq, iv pr', iv ps, iv pm, iv pr_1, iv pr_2, iv pr_3, iv pr_4, iv za1, iv zb1, iv za2, iv zb2, rv b9, rv b9, rv b9, rv rs_15, iv 0, .unset, .unset, .unset, .unset] [(.int za1)])) (fun t k => XS.iload X26.here hx rfl (hb hby at_210) rfl  k) ?_
    refine Go.pull (V := T26.setTop (mkF m 214 #[iv pp, iv pq, iv pr', iv ps, iv pm, iv pr_1, iv pr_2, iv pr_3, iv pr_4, iv za1, iv zb1, iv za2, iv zb2, rv b9, rv b9, rv b9, rv rs_15, iv 0, .unset, .unset, .unset, .unset] [(.int za2), (.int za1)])) (fun t k => XS.iload X26.here hx rfl (hb hby at_212) rfl  k) ?_
    refine Go.pull (V := T26.setTop (mkF m 217 #[iv pp, iv pq, iv pr', iv ps, iv pm, iv pr_1, iv pr_2, iv pr_3, iv pr_4, iv za1, iv zb1, iv za2, iv zb2, rv b9, rv b9, rv b9, rv rs_15, iv 0, .unset, .unset, .unset, .unset] [])) (fun t k => XS.icmpNo X26.here hx rfl (hb hby at_214) rfl (XT.ii_ge_f (by rw [Int32.lt_iff_toInt_lt]; omega)) k) ?_
    refine Go.pull (V := T26.setTop (mkF m 219 #[iv pp, iv pq, iv pr', iv ps, iv pm, iv pr_1, iv pr_2, iv pr_3, iv pr_4, iv za1, iv zb1, iv za2, iv zb2, rv b9, rv b9, rv b9, rv rs_15, iv 0, .unset, .unset, .unset, .unset] [(.int za1)])) (fun t k => XS.iload X26.here hx rfl (hb hby at_217) rfl  k) ?_
    refine Go.pull (V := T26.setTop (mkF m 224 #[iv pp, iv pq, iv pr', iv ps, iv pm, iv pr_1, iv pr_2, iv pr_3, iv pr_4, iv za1, iv zb1, iv za2, iv zb2, rv b9, rv b9, rv b9, rv rs_15, iv 0, .unset, .unset, .unset, .unset] [(.int za1)])) (fun t k => XS.goto X26.here hx rfl (pc0 := 219) (pc' := 224) rfl (hb hby at_219) (by decide) (by decide) k) ?_
    refine Go.pull (V := T26.setTop (mkF m 226 #[iv pp, iv pq, iv pr', iv ps, iv pm, iv pr_1, iv pr_2, iv pr_3, iv pr_4, iv za1, iv zb1, iv za2, iv zb2, rv b9, rv b9, rv b9, rv rs_15, iv 0, iv za1, .unset, .unset, .unset] [])) (fun t k => XS.istore X26.here hx rfl (hb hby at_224) rfl (l' := #[iv pp, iv pq, iv pr', iv ps, iv pm, iv pr_1, iv pr_2, iv pr_3, iv pr_4, iv za1, iv zb1, iv za2, iv zb2, rv b9, rv b9, rv b9, rv rs_15, iv 0, iv za1, .unset, .unset, .unset]) rfl k) ?_
    refine Go.pull (V := T26.setTop (mkF m 228 #[iv pp, iv pq, iv pr', iv ps, iv pm, iv pr_1, iv pr_2, iv pr_3, iv pr_4, iv za1, iv zb1, iv za2, iv zb2, rv b9, rv b9, rv b9, rv rs_15, iv 0, iv za1, .unset, .unset, .unset] [(.int za1)])) (fun t k => XS.iload X26.here hx rfl (hb hby at_226) rfl  k) ?_
    refine Go.pull (V := T26.setTop (mkF m 230 #[iv pp, iv pq, iv pr', iv ps, iv pm, iv pr_1, iv pr_2, iv pr_3, iv pr_4, iv za1, iv zb1, iv za2, iv zb2, rv b9, rv b9, rv b9, rv rs_15, iv 0, iv za1, .unset, .unset, .unset] [(.int za2), (.int za1)])) (fun t k => XS.iload X26.here hx rfl (hb hby at_228) rfl  k) ?_
    refine Go.pull (V := T26.setTop (mkF m 233 #[iv pp, iv pq, iv pr', iv ps, iv pm, iv pr_1, iv pr_2, iv pr_3, iv pr_4, iv za1, iv zb1, iv za2, iv zb2, rv b9, rv b9, rv b9, rv rs_15, iv 0, iv za1, .unset, .unset, .unset] [])) (fun t k => XS.icmpNo X26.here hx rfl (hb hby at_230) rfl (XT.ii_ge_f (by rw [Int32.lt_iff_toInt_lt]; omega)) k) ?_
    refine Go.pull (V := T26.setTop (mkF m 235 #[iv pp, iv pq, iv pr', iv ps, iv pm, iv pr_1, iv pr_2, iv pr_3, iv pr_4, iv za1, iv zb1, iv za2, iv zb2, rv b9, rv b9, rv b9, rv rs_15, iv 0, iv za1, .unset, .unset, .unset] [(.int zb1)])) (fun t k => XS.iload X26.here hx rfl (hb hby at_233) rfl  k) ?_
    refine Go.pull (V := T26.setTop (mkF m 240 #[iv pp, iv pq, iv pr', iv ps, iv pm, iv pr_1, iv pr_2, iv pr_3, iv pr_4, iv za1, iv zb1, iv za2, iv zb2, rv b9, rv b9, rv b9, rv rs_15, iv 0, iv za1, .unset, .unset, .unset] [(.int zb1)])) (fun t k => XS.goto X26.here hx rfl (pc0 := 235) (pc' := 240) rfl (hb hby at_235) (by decide) (by decide) k) ?_
    refine Go.pull (V := T26.setTop (mkF m 242 #[iv pp, iv pq, iv pr', iv ps, iv pm, iv pr_1, iv pr_2, iv pr_3, iv pr_4, iv za1, iv zb1, iv za2, iv zb2, rv b9, rv b9, rv b9, rv rs_15, iv 0, iv za1, iv zb1, .unset, .unset] [])) (fun t k => XS.istore X26.here hx rfl (hb hby at_240) rfl (l' := #[iv pp, iv pq, iv pr', iv ps, iv pm, iv pr_1, iv pr_2, iv pr_3, iv pr_4, iv za1, iv zb1, iv za2, iv zb2, rv b9, rv b9, rv b9, rv rs_15, iv 0, iv za1, iv zb1, .unset, .unset]) rfl k) ?_
    refine Go.pull (V := T26.setTop (mkF m 244 #[iv pp, iv pq, iv pr', iv ps, iv pm, iv pr_1, iv pr_2, iv pr_3, iv pr_4, iv za1, iv zb1, iv za2, iv zb2, rv b9, rv b9, rv b9, rv rs_15, iv 0, iv za1, iv zb1, .unset, .unset] [(.int za1)])) (fun t k => XS.iload X26.here hx rfl (hb hby at_242) rfl  k) ?_
    refine Go.pull (V := T26.setTop (mkF m 246 #[iv pp, iv pq, iv pr', iv ps, iv pm, iv pr_1, iv pr_2, iv pr_3, iv pr_4, iv za1, iv zb1, iv za2, iv zb2, rv b9, rv b9, rv b9, rv rs_15, iv 0, iv za1, iv zb1, .unset, .unset] [(.int za2), (.int za1)])) (fun t k => XS.iload X26.here hx rfl (hb hby at_244) rfl  k) ?_
    refine Go.pull (V := T26.setTop (mkF m 249 #[iv pp, iv pq, iv pr', iv ps, iv pm, iv pr_1, iv pr_2, iv pr_3, iv pr_4, iv za1, iv zb1, iv za2, iv zb2, rv b9, rv b9, rv b9, rv rs_15, iv 0, iv za1, iv zb1, .unset, .unset] [])) (fun t k => XS.icmpNo X26.here hx rfl (hb hby at_246) rfl (XT.ii_ge_f (by rw [Int32.lt_iff_toInt_lt]; omega)) k) ?_
    refine Go.pull (V := T26.setTop (mkF m 251 #[iv pp, iv pq, iv pr', iv ps, iv pm, iv pr_1, iv pr_2, iv pr_3, iv pr_4, iv za1, iv zb1, iv za2, iv zb2, rv b9, rv b9, rv b9, rv rs_15, iv 0, iv za1, iv zb1, .unset, .unset] [(.int za2)])) (fun t k => XS.iload X26.here hx rfl (hb hby at_249) rfl  k) ?_
    refine Go.pull (V := T26.setTop (mkF m 256 #[iv pp, iv pq, iv pr', iv ps, iv pm, iv pr_1, iv pr_2, iv pr_3, iv pr_4, iv za1, iv zb1, iv za2, iv zb2, rv b9, rv b9, rv b9, rv rs_15, iv 0, iv za1, iv zb1, .unset, .unset] [(.int za2)])) (fun t k => XS.goto X26.here hx rfl (pc0 := 251) (pc' := 256) rfl (hb hby at_251) (by decide) (by decide) k) ?_
    refine Go.pull (V := T26.setTop (mkF m 258 #[iv pp, iv pq, iv pr', iv ps, iv pm, iv pr_1, iv pr_2, iv pr_3, iv pr_4, iv za1, iv zb1, iv za2, iv zb2, rv b9, rv b9, rv b9, rv rs_15, iv 0, iv za1, iv zb1, iv za2, .unset] [])) (fun t k => XS.istore X26.here hx rfl (hb hby at_256) rfl (l' := #[iv pp, iv pq, iv pr', iv ps, iv pm, iv pr_1, iv pr_2, iv pr_3, iv pr_4, iv za1, iv zb1, iv za2, iv zb2, rv b9, rv b9, rv b9, rv rs_15, iv 0, iv za1, iv zb1, iv za2, .unset]) rfl k) ?_
    refine Go.pull (V := T26.setTop (mkF m 260 #[iv pp, iv pq, iv pr', iv ps, iv pm, iv pr_1, iv pr_2, iv pr_3, iv pr_4, iv za1, iv zb1, iv za2, iv zb2, rv b9, rv b9, rv b9, rv rs_15, iv 0, iv za1, iv zb1, iv za2, .unset] [(.int za1)])) (fun t k => XS.iload X26.here hx rfl (hb hby at_258) rfl  k) ?_
    refine Go.pull (V := T26.setTop (mkF m 262 #[iv pp, iv pq, iv pr', iv ps, iv pm, iv pr_1, iv pr_2, iv pr_3, iv pr_4, iv za1, iv zb1, iv za2, iv zb2, rv b9, rv b9, rv b9, rv rs_15, iv 0, iv za1, iv zb1, iv za2, .unset] [(.int za2), (.int za1)])) (fun t k => XS.iload X26.here hx rfl (hb hby at_260) rfl  k) ?_
    refine Go.pull (V := T26.setTop (mkF m 265 #[iv pp, iv pq, iv pr', iv ps, iv pm, iv pr_1, iv pr_2, iv pr_3, iv pr_4, iv za1, iv zb1, iv za2, iv zb2, rv b9, rv b9, rv b9, rv rs_15, iv 0, iv za1, iv zb1, iv za2, .unset] [])) (fun t k => XS.icmpNo X26.here hx rfl (hb hby at_262) rfl (XT.ii_ge_f (by rw [Int32.lt_iff_toInt_lt]; omega)) k) ?_
    refine Go.pull (V := T26.setTop (mkF m 267 #[iv pp, iv pq, iv pr', iv ps, iv pm, iv pr_1, iv pr_2, iv pr_3, iv pr_4, iv za1, iv zb1, iv za2, iv zb2, rv b9, rv b9, rv b9, rv rs_15, iv 0, iv za1, iv zb1, iv za2, .unset] [(.int zb2)])) (fun t k => XS.iload X26.here hx rfl (hb hby at_265) rfl  k) ?_
    refine Go.pull (V := T26.setTop (mkF m 272 #[iv pp, iv pq, iv pr', iv ps, iv pm, iv pr_1, iv pr_2, iv pr_3, iv pr_4, iv za1, iv zb1, iv za2, iv zb2, rv b9, rv b9, rv b9, rv rs_15, iv 0, iv za1, iv zb1, iv za2, .unset] [(.int zb2)])) (fun t k => XS.goto X26.here hx rfl (pc0 := 267) (pc' := 272) rfl (hb hby at_267) (by decide) (by decide) k) ?_
    refine Go.pull (V := T26.setTop (mkF m 274 #[iv pp, iv pq, iv pr', iv ps, iv pm, iv pr_1, iv pr_2, iv pr_3, iv pr_4, iv za1, iv zb1, iv za2, iv zb2, rv b9, rv b9, rv b9, rv rs_15, iv 0, iv za1, iv zb1, iv za2, iv zb2] [])) (fun t k => XS.istore X26.here hx rfl (hb hby at_272) rfl (l' := #[iv pp, iv pq, iv pr', iv ps, iv pm, iv pr_1, iv pr_2, iv pr_3, iv pr_4, iv za1, iv zb1, iv za2, iv zb2, rv b9, rv b9, rv b9, rv rs_15, iv 0, iv za1, iv zb1, iv za2, iv zb2]) rfl k) ?_
    refine Go.pull (V := T26.setTop (mkF m 276 #[iv pp, iv pq, iv pr', iv ps, iv pm, iv pr_1, iv pr_2, iv pr_3, iv pr_4, iv za1, iv zb1, iv za2, iv zb2, rv b9, rv b9, rv b9, rv rs_15, iv 0, iv za1, iv zb1, iv za2, iv zb2] [(.ref rs_15)])) (fun t k => XS.aload X26.here hx rfl (hb hby at_274) rfl rfl k) ?_
    refine Go.pull (V := T26.setTop (mkF m 277 #[iv pp, iv pq, iv pr', iv ps, iv pm, iv pr_1, iv pr_2, iv pr_3, iv pr_4, iv za1, iv zb1, iv za2, iv zb2, rv b9, rv b9, rv b9, rv rs_15, iv 0, iv za1, iv zb1, iv za2, iv zb2] [(.int 0), (.ref rs_15)])) (fun t k => XS.iconst X26.here hx rfl (hb hby at_276) k) ?_
    obtain ⟨cq27, kq27, q27a, q27b, q27c⟩ := isOf hZ e26 Fc15_0
    obtain ⟨_, _, ⟨T27, L27, k27, n27⟩, -, X27, ⟨Lc27, hQ27, l27, y27, z27⟩, st27⟩ := X26.virtualBack hx (y := (⟨"com/example/salish/salish/regex/CodePointSet", "first", "(I)I"⟩ : MethodName)) (z := (⟨"com/example/salish/salish/regex/CodePointSet", "first", "(I)I"⟩ : MethodName)) hown (mvT hZ (hw _ (List.mem_of_getElem? (i := 79) rfl))) (mvT hZ (hw _ (List.mem_of_getElem? (i := 80) rfl))) (notFace_of_selects (args := #[]) (mvT hZ (hw _ (List.mem_of_getElem? (i := 82) rfl)))) (mvT hZ (hw _ (List.mem_of_getElem? (i := 82) rfl))) (mvT hZ (hw _ (List.mem_of_getElem? (i := 81) rfl))) (by decide) (backOf (W := 0) (rmFI l Z a0 hw [] rs_15 (0 : Int32) rb_15 kb_15 (4 : Int32) ([(.int za1), (.int zb1), (.int za2), (.int zb2)] : List Value) za1 T15.heap n0 Fc15_1 Fc15_2 rfl (by decide)) hZ (hw _ (List.mem_of_getElem? (i := 83) rfl)) (hw _ (List.mem_of_getElem? (i := 64) rfl)) (by decide) (by decide)) q27a q27c (g := (mkF m 277 #[iv pp, iv pq, iv pr', iv ps, iv pm, iv pr_1, iv pr_2, iv pr_3, iv pr_4, iv za1, iv zb1, iv za2, iv zb2, rv b9, rv b9, rv b9, rv rs_15, iv 0, iv za1, iv zb1, iv za2, iv zb2] [(.int 0), (.ref rs_15)])) rfl (by rw [hml]; rfl) (Steps.refl _) (argsL := [(.int 0)]) (rest := []) (lenOf pd_12 rfl) rfl (by show 2 * 0 + _ ≤ _; exact Nat.le_of_eq rfl) (hb hby at_277) (fun _ _ => ⟨rfl, e26, (by decide : 6 + 0 ≤ _), (by decide : 21 + 0 ≤ _)⟩)
    dsimp only [Pt.U, Pt.locs, Pt.cells, Pt.slots] at X27 l27 y27 z27 st27 hQ27
    subst l27 y27 z27
    obtain ⟨rfl, N27q, e27⟩ := hQ27
    have N27 := Fr.app N26 N27q
    refine Go.pull (V := T27.setTop (mkF m 280 #[iv pp, iv pq, iv pr', iv ps, iv pm, iv pr_1, iv pr_2, iv pr_3, iv pr_4, iv za1, iv zb1, iv za2, iv zb2, rv b9, rv b9, rv b9, rv rs_15, iv 0, iv za1, iv zb1, iv za2, iv zb2] [(.int za1)])) (fun _ k => st27.trans k) ?_
    refine Go.pull (V := T27.setTop (mkF m 282 #[iv pp, iv pq, iv pr', iv ps, iv pm, iv pr_1, iv pr_2, iv pr_3, iv pr_4, iv za1, iv zb1, iv za2, iv zb2, rv b9, rv b9, rv b9, rv rs_15, iv 0, iv za1, iv zb1, iv za2, iv zb2] [(.int za1), (.int za1)])) (fun t k => XS.iload X27.here hx rfl (hb hby at_280) rfl  k) ?_
    refine Go.pull (V := T27.setTop (mkF m 285 #[iv pp, iv pq, iv pr', iv ps, iv pm, iv pr_1, iv pr_2, iv pr_3, iv pr_4, iv za1, iv zb1, iv za2, iv zb2, rv b9, rv b9, rv b9, rv rs_15, iv 0, iv za1, iv zb1, iv za2, iv zb2] [])) (fun t k => XS.icmpNo X27.here hx rfl (hb hby at_282) rfl (XT.ii_ne_f rfl) k) ?_
    refine Go.pull (V := T27.setTop (mkF m 287 #[iv pp, iv pq, iv pr', iv ps, iv pm, iv pr_1, iv pr_2, iv pr_3, iv pr_4, iv za1, iv zb1, iv za2, iv zb2, rv b9, rv b9, rv b9, rv rs_15, iv 0, iv za1, iv zb1, iv za2, iv zb2] [(.ref rs_15)])) (fun t k => XS.aload X27.here hx rfl (hb hby at_285) rfl rfl k) ?_
    refine Go.pull (V := T27.setTop (mkF m 288 #[iv pp, iv pq, iv pr', iv ps, iv pm, iv pr_1, iv pr_2, iv pr_3, iv pr_4, iv za1, iv zb1, iv za2, iv zb2, rv b9, rv b9, rv b9, rv rs_15, iv 0, iv za1, iv zb1, iv za2, iv zb2] [(.int 0), (.ref rs_15)])) (fun t k => XS.iconst X27.here hx rfl (hb hby at_287) k) ?_
    obtain ⟨cq28, kq28, q28a, q28b, q28c⟩ := isOf hZ e27 Fc15_0
    obtain ⟨_, _, ⟨T28, L28, k28, n28⟩, -, X28, ⟨Lc28, hQ28, l28, y28, z28⟩, st28⟩ := X27.virtualBack hx (y := (⟨"com/example/salish/salish/regex/CodePointSet", "last", "(I)I"⟩ : MethodName)) (z := (⟨"com/example/salish/salish/regex/CodePointSet", "last", "(I)I"⟩ : MethodName)) hown (mvT hZ (hw _ (List.mem_of_getElem? (i := 84) rfl))) (mvT hZ (hw _ (List.mem_of_getElem? (i := 85) rfl))) (notFace_of_selects (args := #[]) (mvT hZ (hw _ (List.mem_of_getElem? (i := 87) rfl)))) (mvT hZ (hw _ (List.mem_of_getElem? (i := 87) rfl))) (mvT hZ (hw _ (List.mem_of_getElem? (i := 86) rfl))) (by decide) (backOf (W := 0) (rmLA l Z a0 hw [] rs_15 (0 : Int32) rb_15 kb_15 (4 : Int32) ([(.int za1), (.int zb1), (.int za2), (.int zb2)] : List Value) zb1 T15.heap n0 Fc15_1 Fc15_2 rfl (by decide)) hZ (hw _ (List.mem_of_getElem? (i := 88) rfl)) (hw _ (List.mem_of_getElem? (i := 64) rfl)) (by decide) (by decide)) q28a q28c (g := (mkF m 288 #[iv pp, iv pq, iv pr', iv ps, iv pm, iv pr_1, iv pr_2, iv pr_3, iv pr_4, iv za1, iv zb1, iv za2, iv zb2, rv b9, rv b9, rv b9, rv rs_15, iv 0, iv za1, iv zb1, iv za2, iv zb2] [(.int 0), (.ref rs_15)])) rfl (by rw [hml]; rfl) (Steps.refl _) (argsL := [(.int 0)]) (rest := []) (lenOf pd_12 rfl) rfl (by show 2 * 0 + _ ≤ _; exact Nat.le_of_eq rfl) (hb hby at_288) (fun _ _ => ⟨rfl, e27, (by decide : 6 + 0 ≤ _), (by decide : 21 + 0 ≤ _)⟩)
    dsimp only [Pt.U, Pt.locs, Pt.cells, Pt.slots] at X28 l28 y28 z28 st28 hQ28
    subst l28 y28 z28
    obtain ⟨rfl, N28q, e28⟩ := hQ28
    have N28 := Fr.app N27 N28q
    refine Go.pull (V := T28.setTop (mkF m 291 #[iv pp, iv pq, iv pr', iv ps, iv pm, iv pr_1, iv pr_2, iv pr_3, iv pr_4, iv za1, iv zb1, iv za2, iv zb2, rv b9, rv b9, rv b9, rv rs_15, iv 0, iv za1, iv zb1, iv za2, iv zb2] [(.int zb1)])) (fun _ k => st28.trans k) ?_
    refine Go.pull (V := T28.setTop (mkF m 293 #[iv pp, iv pq, iv pr', iv ps, iv pm, iv pr_1, iv pr_2, iv pr_3, iv pr_4, iv za1, iv zb1, iv za2, iv zb2, rv b9, rv b9, rv b9, rv rs_15, iv 0, iv za1, iv zb1, iv za2, iv zb2] [(.int zb1), (.int zb1)])) (fun t k => XS.iload X28.here hx rfl (hb hby at_291) rfl  k) ?_
    refine Go.pull (V := T28.setTop (mkF m 296 #[iv pp, iv pq, iv pr', iv ps, iv pm, iv pr_1, iv pr_2, iv pr_3, iv pr_4, iv za1, iv zb1, iv za2, iv zb2, rv b9, rv b9, rv b9, rv rs_15, iv 0, iv za1, iv zb1, iv za2, iv zb2] [])) (fun t k => XS.icmpNo X28.here hx rfl (hb hby at_293) rfl (XT.ii_ne_f rfl) k) ?_
    refine Go.pull (V := T28.setTop (mkF m 298 #[iv pp, iv pq, iv pr', iv ps, iv pm, iv pr_1, iv pr_2, iv pr_3, iv pr_4, iv za1, iv zb1, iv za2, iv zb2, rv b9, rv b9, rv b9, rv rs_15, iv 0, iv za1, iv zb1, iv za2, iv zb2] [(.ref rs_15)])) (fun t k => XS.aload X28.here hx rfl (hb hby at_296) rfl rfl k) ?_
    refine Go.pull (V := T28.setTop (mkF m 299 #[iv pp, iv pq, iv pr', iv ps, iv pm, iv pr_1, iv pr_2, iv pr_3, iv pr_4, iv za1, iv zb1, iv za2, iv zb2, rv b9, rv b9, rv b9, rv rs_15, iv 0, iv za1, iv zb1, iv za2, iv zb2] [(.int 1), (.ref rs_15)])) (fun t k => XS.iconst X28.here hx rfl (hb hby at_298) k) ?_
    obtain ⟨cq29, kq29, q29a, q29b, q29c⟩ := isOf hZ e28 Fc15_0
    obtain ⟨_, _, ⟨T29, L29, k29, n29⟩, -, X29, ⟨Lc29, hQ29, l29, y29, z29⟩, st29⟩ := X28.virtualBack hx (y := (⟨"com/example/salish/salish/regex/CodePointSet", "first", "(I)I"⟩ : MethodName)) (z := (⟨"com/example/salish/salish/regex/CodePointSet", "first", "(I)I"⟩ : MethodName)) hown (mvT hZ (hw _ (List.mem_of_getElem? (i := 79) rfl))) (mvT hZ (hw _ (List.mem_of_getElem? (i := 80) rfl))) (notFace_of_selects (args := #[]) (mvT hZ (hw _ (List.mem_of_getElem? (i := 82) rfl)))) (mvT hZ (hw _ (List.mem_of_getElem? (i := 82) rfl))) (mvT hZ (hw _ (List.mem_of_getElem? (i := 81) rfl))) (by decide) (backOf (W := 0) (rmFI l Z a0 hw [] rs_15 (1 : Int32) rb_15 kb_15 (4 : Int32) ([(.int za1), (.int zb1), (.int za2), (.int zb2)] : List Value) za2 T15.heap n0 Fc15_1 Fc15_2 rfl (by decide)) hZ (hw _ (List.mem_of_getElem? (i := 83) rfl)) (hw _ (List.mem_of_getElem? (i := 64) rfl)) (by decide) (by decide)) q29a q29c (g := (mkF m 299 #[iv pp, iv pq, iv pr', iv ps, iv pm, iv pr_1, iv pr_2, iv pr_3, iv pr_4, iv za1, iv zb1, iv za2, iv zb2, rv b9, rv b9, rv b9, rv rs_15, iv 0, iv za1, iv zb1, iv za2, iv zb2] [(.int 1), (.ref rs_15)])) rfl (by rw [hml]; rfl) (Steps.refl _) (argsL := [(.int 1)]) (rest := []) (lenOf pd_12 rfl) rfl (by show 2 * 0 + _ ≤ _; exact Nat.le_of_eq rfl) (hb hby at_299) (fun _ _ => ⟨rfl, e28, (by decide : 6 + 0 ≤ _), (by decide : 21 + 0 ≤ _)⟩)
    dsimp only [Pt.U, Pt.locs, Pt.cells, Pt.slots] at X29 l29 y29 z29 st29 hQ29
    subst l29 y29 z29
    obtain ⟨rfl, N29q, e29⟩ := hQ29
    have N29 := Fr.app N28 N29q
    refine Go.pull (V := T29.setTop (mkF m 302 #[iv pp, iv pq, iv pr', iv ps, iv pm, iv pr_1, iv pr_2, iv pr_3, iv pr_4, iv za1, iv zb1, iv za2, iv zb2, rv b9, rv b9, rv b9, rv rs_15, iv 0, iv za1, iv zb1, iv za2, iv zb2] [(.int za2)])) (fun _ k => st29.trans k) ?_
    refine Go.pull (V := T29.setTop (mkF m 304 #[iv pp, iv pq, iv pr', iv ps, iv pm, iv pr_1, iv pr_2, iv pr_3, iv pr_4, iv za1, iv zb1, iv za2, iv zb2, rv b9, rv b9, rv b9, rv rs_15, iv 0, iv za1, iv zb1, iv za2, iv zb2] [(.int za2), (.int za2)])) (fun t k => XS.iload X29.here hx rfl (hb hby at_302) rfl  k) ?_
    refine Go.pull (V := T29.setTop (mkF m 307 #[iv pp, iv pq, iv pr', iv ps, iv pm, iv pr_1, iv pr_2, iv pr_3, iv pr_4, iv za1, iv zb1, iv za2, iv zb2, rv b9, rv b9, rv b9, rv rs_15, iv 0, iv za1, iv zb1, iv za2, iv zb2] [])) (fun t k => XS.icmpNo X29.here hx rfl (hb hby at_304) rfl (XT.ii_ne_f rfl) k) ?_
    refine Go.pull (V := T29.setTop (mkF m 309 #[iv pp, iv pq, iv pr', iv ps, iv pm, iv pr_1, iv pr_2, iv pr_3, iv pr_4, iv za1, iv zb1, iv za2, iv zb2, rv b9, rv b9, rv b9, rv rs_15, iv 0, iv za1, iv zb1, iv za2, iv zb2] [(.ref rs_15)])) (fun t k => XS.aload X29.here hx rfl (hb hby at_307) rfl rfl k) ?_
    refine Go.pull (V := T29.setTop (mkF m 310 #[iv pp, iv pq, iv pr', iv ps, iv pm, iv pr_1, iv pr_2, iv pr_3, iv pr_4, iv za1, iv zb1, iv za2, iv zb2, rv b9, rv b9, rv b9, rv rs_15, iv 0, iv za1, iv zb1, iv za2, iv zb2] [(.int 1), (.ref rs_15)])) (fun t k => XS.iconst X29.here hx rfl (hb hby at_309) k) ?_
    obtain ⟨cq30, kq30, q30a, q30b, q30c⟩ := isOf hZ e29 Fc15_0
    obtain ⟨_, _, ⟨T30, L30, k30, n30⟩, -, X30, ⟨Lc30, hQ30, l30, y30, z30⟩, st30⟩ := X29.virtualBack hx (y := (⟨"com/example/salish/salish/regex/CodePointSet", "last", "(I)I"⟩ : MethodName)) (z := (⟨"com/example/salish/salish/regex/CodePointSet", "last", "(I)I"⟩ : MethodName)) hown (mvT hZ (hw _ (List.mem_of_getElem? (i := 84) rfl))) (mvT hZ (hw _ (List.mem_of_getElem? (i := 85) rfl))) (notFace_of_selects (args := #[]) (mvT hZ (hw _ (List.mem_of_getElem? (i := 87) rfl)))) (mvT hZ (hw _ (List.mem_of_getElem? (i := 87) rfl))) (mvT hZ (hw _ (List.mem_of_getElem? (i := 86) rfl))) (by decide) (backOf (W := 0) (rmLA l Z a0 hw [] rs_15 (1 : Int32) rb_15 kb_15 (4 : Int32) ([(.int za1), (.int zb1), (.int za2), (.int zb2)] : List Value) zb2 T15.heap n0 Fc15_1 Fc15_2 rfl (by decide)) hZ (hw _ (List.mem_of_getElem? (i := 88) rfl)) (hw _ (List.mem_of_getElem? (i := 64) rfl)) (by decide) (by decide)) q30a q30c (g := (mkF m 310 #[iv pp, iv pq, iv pr', iv ps, iv pm, iv pr_1, iv pr_2, iv pr_3, iv pr_4, iv za1, iv zb1, iv za2, iv zb2, rv b9, rv b9, rv b9, rv rs_15, iv 0, iv za1, iv zb1, iv za2, iv zb2] [(.int 1), (.ref rs_15)])) rfl (by rw [hml]; rfl) (Steps.refl _) (argsL := [(.int 1)]) (rest := []) (lenOf pd_12 rfl) rfl (by show 2 * 0 + _ ≤ _; exact Nat.le_of_eq rfl) (hb hby at_310) (fun _ _ => ⟨rfl, e29, (by decide : 6 + 0 ≤ _), (by decide : 21 + 0 ≤ _)⟩)
    dsimp only [Pt.U, Pt.locs, Pt.cells, Pt.slots] at X30 l30 y30 z30 st30 hQ30
    subst l30 y30 z30
    obtain ⟨rfl, N30q, e30⟩ := hQ30
    have N30 := Fr.app N29 N30q
    refine Go.pull (V := T30.setTop (mkF m 313 #[iv pp, iv pq, iv pr', iv ps, iv pm, iv pr_1, iv pr_2, iv pr_3, iv pr_4, iv za1, iv zb1, iv za2, iv zb2, rv b9, rv b9, rv b9, rv rs_15, iv 0, iv za1, iv zb1, iv za2, iv zb2] [(.int zb2)])) (fun _ k => st30.trans k) ?_
    refine Go.pull (V := T30.setTop (mkF m 315 #[iv pp, iv pq, iv pr', iv ps, iv pm, iv pr_1, iv pr_2, iv pr_3, iv pr_4, iv za1, iv zb1, iv za2, iv zb2, rv b9, rv b9, rv b9, rv rs_15, iv 0, iv za1, iv zb1, iv za2, iv zb2] [(.int zb2), (.int zb2)])) (fun t k => XS.iload X30.here hx rfl (hb hby at_313) rfl  k) ?_
    refine Go.pull (V := T30.setTop (mkF m 318 #[iv pp, iv pq, iv pr', iv ps, iv pm, iv pr_1, iv pr_2, iv pr_3, iv pr_4, iv za1, iv zb1, iv za2, iv zb2, rv b9, rv b9, rv b9, rv rs_15, iv 0, iv za1, iv zb1, iv za2, iv zb2] [])) (fun t k => XS.icmpNo X30.here hx rfl (hb hby at_315) rfl (XT.ii_ne_f rfl) k) ?_
    refine Go.pull (V := T30.setTop (mkF m 319 #[iv pp, iv pq, iv pr', iv ps, iv pm, iv pr_1, iv pr_2, iv pr_3, iv pr_4, iv za1, iv zb1, iv za2, iv zb2, rv b9, rv b9, rv b9, rv rs_15, iv 0, iv za1, iv zb1, iv za2, iv zb2] [(.int 1)])) (fun t k => XS.iconst X30.here hx rfl (hb hby at_318) k) ?_
    refine Go.pull (V := T30.setTop (mkF m 323 #[iv pp, iv pq, iv pr', iv ps, iv pm, iv pr_1, iv pr_2, iv pr_3, iv pr_4, iv za1, iv zb1, iv za2, iv zb2, rv b9, rv b9, rv b9, rv rs_15, iv 0, iv za1, iv zb1, iv za2, iv zb2] [(.int 1)])) (fun t k => XS.goto X30.here hx rfl (pc0 := 319) (pc' := 323) rfl (hb hby at_319) (by decide) (by decide) k) ?_
    exact Go.retN X30 hx Bd.notSynchronized (t := .boolean) Bd.returns (by simp) (hb hby at_323) ⟨rfl, N30⟩ (by decide) (by decide)
  · rw [Int64.lt_iff_toInt_lt, own_pkI hA, own_pkI hB] at hs; rw [Int32.lt_iff_toInt_lt] at hj
    refine Go.pull (V := T15.setTop (mkF m 106 #[iv pp, iv pq, iv pr', iv ps, iv pm, iv pr_1, iv pr_2, iv pr_3, iv pr_4, iv za1, iv zb1, iv za2, iv zb2, rv b9, rv b9, rv b9, rv rs_15, .unset, .unset, .unset, .unset, .unset] [])) (fun t k => XS.astore X15.here hx rfl (hb hby at_104) rfl rfl (l' := #[iv pp, iv pq, iv pr', iv ps, iv pm, iv pr_1, iv pr_2, iv pr_3, iv pr_4, iv za1, iv zb1, iv za2, iv zb2, rv b9, rv b9, rv b9, rv rs_15, .unset, .unset, .unset, .unset, .unset]) rfl k) ?_
    refine Go.pull (V := T15.setTop (mkF m 108 #[iv pp, iv pq, iv pr', iv ps, iv pm, iv pr_1, iv pr_2, iv pr_3, iv pr_4, iv za1, iv zb1, iv za2, iv zb2, rv b9, rv b9, rv b9, rv rs_15, .unset, .unset, .unset, .unset, .unset] [(.ref b9)])) (fun t k => XS.aload X15.here hx rfl (hb hby at_106) rfl rfl k) ?_
    refine Go.pull (V := T15.setTop (mkF m 110 #[iv pp, iv pq, iv pr', iv ps, iv pm, iv pr_1, iv pr_2, iv pr_3, iv pr_4, iv za1, iv zb1, iv za2, iv zb2, rv b9, rv b9, rv b9, rv rs_15, .unset, .unset, .unset, .unset, .unset] [(.ref b9), (.ref b9)])) (fun t k => XS.aload X15.here hx rfl (hb hby at_108) rfl rfl k) ?_
    refine Go.pull (V := T15.setTop (mkF m 113 #[iv pp, iv pq, iv pr', iv ps, iv pm, iv pr_1, iv pr_2, iv pr_3, iv pr_4, iv za1, iv zb1, iv za2, iv zb2, rv b9, rv b9, rv b9, rv rs_15, .unset, .unset, .unset, .unset, .unset] [])) (fun t k => XT.acmpNo X15.here hx rfl (hb hby at_110) rfl rfl rfl (XT.aa_ne_f rfl) k) ?_
    refine Go.pull (V := T15.setTop (mkF m 115 #[iv pp, iv pq, iv pr', iv ps, iv pm, iv pr_1, iv pr_2, iv pr_3, iv pr_4, iv za1, iv zb1, iv za2, iv zb2, rv b9, rv b9, rv b9, rv rs_15, .unset, .unset, .unset, .unset, .unset] [(.ref b9)])) (fun t k => XS.aload X15.here hx rfl (hb hby at_113) rfl rfl k) ?_
    refine Go.pull (V := T15.setTop (mkF m 117 #[iv pp, iv pq, iv pr', iv ps, iv pm, iv pr_1, iv pr_2, iv pr_3, iv pr_4, iv za1, iv zb1, iv za2, iv zb2, rv b9, rv b9, rv b9, rv rs_15, .unset, .unset, .unset, .unset, .unset] [(.ref b9), (.ref b9)])) (fun t k => XS.aload X15.here hx rfl (hb hby at_115) rfl rfl k) ?_
    refine Go.pull (V := T15.setTop (mkF m 122 #[iv pp, iv pq, iv pr', iv ps, iv pm, iv pr_1, iv pr_2, iv pr_3, iv pr_4, iv za1, iv zb1, iv za2, iv zb2, rv b9, rv b9, rv b9, rv rs_15, .unset, .unset, .unset, .unset, .unset] [])) (fun t k => XT.acmpYes X15.here hx rfl (pc0 := 117) (pc' := 122) rfl (hb hby at_117) rfl rfl rfl (XT.aa_eq_t rfl) (by decide) (by decide) k) ?_
    refine Go.pull (V := T15.setTop (mkF m 124 #[iv pp, iv pq, iv pr', iv ps, iv pm, iv pr_1, iv pr_2, iv pr_3, iv pr_4, iv za1, iv zb1, iv za2, iv zb2, rv b9, rv b9, rv b9, rv rs_15, .unset, .unset, .unset, .unset, .unset] [(.int za2)])) (fun t k => XS.iload X15.here hx rfl (hb hby at_122) rfl  k) ?_
    refine Go.pull (V := T15.setTop (mkF m 126 #[iv pp, iv pq, iv pr', iv ps, iv pm, iv pr_1, iv pr_2, iv pr_3, iv pr_4, iv za1, iv zb1, iv za2, iv zb2, rv b9, rv b9, rv b9, rv rs_15, .unset, .unset, .unset, .unset, .unset] [(.int zb1), (.int za2)])) (fun t k => XS.iload X15.here hx rfl (hb hby at_124) rfl  k) ?_
    refine Go.pull (V := T15.setTop (mkF m 127 #[iv pp, iv pq, iv pr', iv ps, iv pm, iv pr_1, iv pr_2, iv pr_3, iv pr_4, iv za1, iv zb1, iv za2, iv zb2, rv b9, rv b9, rv b9, rv rs_15, .unset, .unset, .unset, .unset, .unset] [(.int 1), (.int zb1), (.int za2)])) (fun t k => XS.iconst X15.here hx rfl (hb hby at_126) k) ?_
    refine Go.pull (V := T15.setTop (mkF m 128 #[iv pp, iv pq, iv pr', iv ps, iv pm, iv pr_1, iv pr_2, iv pr_3, iv pr_4, iv za1, iv zb1, iv za2, iv zb2, rv b9, rv b9, rv b9, rv rs_15, .unset, .unset, .unset, .unset, .unset] [(.int (zb1 + (1 : Int32))), (.int za2)])) (fun t k => XS.iadd X15.here hx rfl (hb hby at_127) rfl k) ?_
    refine Go.pull (V := T15.setTop (mkF m 131 #[iv pp, iv pq, iv pr', iv ps, iv pm, iv pr_1, iv pr_2, iv pr_3, iv pr_4, iv za1, iv zb1, iv za2, iv zb2, rv b9, rv b9, rv b9, rv rs_15, .unset, .unset, .unset, .unset, .unset] [])) (fun t k => XS.icmpNo X15.here hx rfl (hb hby at_128) rfl (XT.ii_gt_f (by rw [Int32.lt_iff_toInt_lt]; omega)) k) ?_
    refine Go.pull (V := T15.setTop (mkF m 133 #[iv pp, iv pq, iv pr', iv ps, iv pm, iv pr_1, iv pr_2, iv pr_3, iv pr_4, iv za1, iv zb1, iv za2, iv zb2, rv b9, rv b9, rv b9, rv rs_15, .unset, .unset, .unset, .unset, .unset] [(.int za1)])) (fun t k => XS.iload X15.here hx rfl (hb hby at_131) rfl  k) ?_
    refine Go.pull (V := T15.setTop (mkF m 135 #[iv pp, iv pq, iv pr', iv ps, iv pm, iv pr_1, iv pr_2, iv pr_3, iv pr_4, iv za1, iv zb1, iv za2, iv zb2, rv b9, rv b9, rv b9, rv rs_15, .unset, .unset, .unset, .unset, .unset] [(.int zb2), (.int za1)])) (fun t k => XS.iload X15.here hx rfl (hb hby at_133) rfl  k) ?_
    refine Go.pull (V := T15.setTop (mkF m 136 #[iv pp, iv pq, iv pr', iv ps, iv pm, iv pr_1, iv pr_2, iv pr_3, iv pr_4, iv za1, iv zb1, iv za2, iv zb2, rv b9, rv b9, rv b9, rv rs_15, .unset, .unset, .unset, .unset, .unset] [(.int 1), (.int zb2), (.int za1)])) (fun t k => XS.iconst X15.here hx rfl (hb hby at_135) k) ?_
    refine Go.pull (V := T15.setTop (mkF m 137 #[iv pp, iv pq, iv pr', iv ps, iv pm, iv pr_1, iv pr_2, iv pr_3, iv pr_4, iv za1, iv zb1, iv za2, iv zb2, rv b9, rv b9, rv b9, rv rs_15, .unset, .unset, .unset, .unset, .unset] [(.int (zb2 + (1 : Int32))), (.int za1)])) (fun t k => XS.iadd X15.here hx rfl (hb hby at_136) rfl k) ?_
    refine Go.pull (V := T15.setTop (mkF m 140 #[iv pp, iv pq, iv pr', iv ps, iv pm, iv pr_1, iv pr_2, iv pr_3, iv pr_4, iv za1, iv zb1, iv za2, iv zb2, rv b9, rv b9, rv b9, rv rs_15, .unset, .unset, .unset, .unset, .unset] [])) (fun t k => XS.icmpNo X15.here hx rfl (hb hby at_137) rfl (XT.ii_gt_f (by rw [Int32.lt_iff_toInt_lt]; omega)) k) ?_
    refine Go.pull (V := T15.setTop (mkF m 141 #[iv pp, iv pq, iv pr', iv ps, iv pm, iv pr_1, iv pr_2, iv pr_3, iv pr_4, iv za1, iv zb1, iv za2, iv zb2, rv b9, rv b9, rv b9, rv rs_15, .unset, .unset, .unset, .unset, .unset] [(.int 1)])) (fun t k => XS.iconst X15.here hx rfl (hb hby at_140) k) ?_
    refine Go.pull (V := T15.setTop (mkF m 145 #[iv pp, iv pq, iv pr', iv ps, iv pm, iv pr_1, iv pr_2, iv pr_3, iv pr_4, iv za1, iv zb1, iv za2, iv zb2, rv b9, rv b9, rv b9, rv rs_15, .unset, .unset, .unset, .unset, .unset] [(.int 1)])) (fun t k => XS.goto X15.here hx rfl (pc0 := 141) (pc' := 145) rfl (hb hby at_141) (by decide) (by decide) k) ?_
    refine Go.pull (V := T15.setTop (mkF m 147 #[iv pp, iv pq, iv pr', iv ps, iv pm, iv pr_1, iv pr_2, iv pr_3, iv pr_4, iv za1, iv zb1, iv za2, iv zb2, rv b9, rv b9, rv b9, rv rs_15, iv 1, .unset, .unset, .unset, .unset] [])) (fun t k => XS.istore X15.here hx rfl (hb hby at_145) rfl (l' := #[iv pp, iv pq, iv pr', iv ps, iv pm, iv pr_1, iv pr_2, iv pr_3, iv pr_4, iv za1, iv zb1, iv za2, iv zb2, rv b9, rv b9, rv b9, rv rs_15, iv 1, .unset, .unset, .unset, .unset]) rfl k) ?_
    refine Go.pull (V := T15.setTop (mkF m 149 #[iv pp, iv pq, iv pr', iv ps, iv pm, iv pr_1, iv pr_2, iv pr_3, iv pr_4, iv za1, iv zb1, iv za2, iv zb2, rv b9, rv b9, rv b9, rv rs_15, iv 1, .unset, .unset, .unset, .unset] [(.int 1)])) (fun t k => XS.iload X15.here hx rfl (hb hby at_147) rfl  k) ?_
    refine Go.pull (V := T15.setTop (mkF m 152 #[iv pp, iv pq, iv pr', iv ps, iv pm, iv pr_1, iv pr_2, iv pr_3, iv pr_4, iv za1, iv zb1, iv za2, iv zb2, rv b9, rv b9, rv b9, rv rs_15, iv 1, .unset, .unset, .unset, .unset] [])) (fun t k => XS.ifNo X15.here hx rfl (hb hby at_149) rfl (XT.i0_eq_f (by decide)) k) ?_
    refine Go.pull (V := T15.setTop (mkF m 154 #[iv pp, iv pq, iv pr', iv ps, iv pm, iv pr_1, iv pr_2, iv pr_3, iv pr_4, iv za1, iv zb1, iv za2, iv zb2, rv b9, rv b9, rv b9, rv rs_15, iv 1, .unset, .unset, .unset, .unset] [(.ref rs_15)])) (fun t k => XS.aload X15.here hx rfl (hb hby at_152) rfl rfl k) ?_
    obtain ⟨cq31, kq31, q31a, q31b, q31c⟩ := isOf hZ rfl Fc15_0
    obtain ⟨_, _, ⟨T31, L31, k31, n31⟩, -, X31, ⟨Lc31, hQ31, l31, y31, z31⟩, st31⟩ := X15.virtualBack hx (y := (⟨"com/example/salish/salish/regex/CodePointSet", "rangeCount", "()I"⟩ : MethodName)) (z := (⟨"com/example/salish/salish/regex/CodePointSet", "rangeCount", "()I"⟩ : MethodName)) hown (mvT hZ (hw _ (List.mem_of_getElem? (i := 74) rfl))) (mvT hZ (hw _ (List.mem_of_getElem? (i := 75) rfl))) (notFace_of_selects (args := #[]) (mvT hZ (hw _ (List.mem_of_getElem? (i := 77) rfl)))) (mvT hZ (hw _ (List.mem_of_getElem? (i := 77) rfl))) (mvT hZ (hw _ (List.mem_of_getElem? (i := 76) rfl))) (by decide) (backOf (W := 0) (rmRC l Z a0 hw [] rs_15 rb_15 kb_15 (2 : Int32) ([(.int za1), (.int (own_max zb1 zb2))] : List Value) T15.heap n0 Fc15_1 Fc15_2) hZ (hw _ (List.mem_of_getElem? (i := 78) rfl)) (hw _ (List.mem_of_getElem? (i := 64) rfl)) (by decide) (by decide)) q31a q31c (g := (mkF m 154 #[iv pp, iv pq, iv pr', iv ps, iv pm, iv pr_1, iv pr_2, iv pr_3, iv pr_4, iv za1, iv zb1, iv za2, iv zb2, rv b9, rv b9, rv b9, rv rs_15, iv 1, .unset, .unset, .unset, .unset] [(.ref rs_15)])) rfl (by rw [hml]; rfl) (Steps.refl _) (argsL := []) (rest := []) (lenOf pd_11 rfl) rfl (by show 2 * 0 + _ ≤ _; exact Nat.le_of_eq rfl) (hb hby at_154) (fun _ _ => ⟨rfl, rfl, (by decide : 6 + 0 ≤ _), (by decide : 21 + 0 ≤ _)⟩)
    dsimp only [Pt.U, Pt.locs, Pt.cells, Pt.slots] at X31 l31 y31 z31 st31 hQ31
    subst l31 y31 z31
    obtain ⟨hv31, N31q, e31⟩ := hQ31
    rw [(show ((2 : Int32) / (2 : Int32)) = (1 : Int32) from by decide)] at hv31; subst hv31
    have N31 := Fr.app N15 N31q
    refine Go.pull (V := T31.setTop (mkF m 157 #[iv pp, iv pq, iv pr', iv ps, iv pm, iv pr_1, iv pr_2, iv pr_3, iv pr_4, iv za1, iv zb1, iv za2, iv zb2, rv b9, rv b9, rv b9, rv rs_15, iv 1, .unset, .unset, .unset, .unset] [(.int 1)])) (fun _ k => st31.trans k) ?_
    refine Go.pull (V := T31.setTop (mkF m 158 #[iv pp, iv pq, iv pr', iv ps, iv pm, iv pr_1, iv pr_2, iv pr_3, iv pr_4, iv za1, iv zb1, iv za2, iv zb2, rv b9, rv b9, rv b9, rv rs_15, iv 1, .unset, .unset, .unset, .unset] [(.int 1), (.int 1)])) (fun t k => XS.iconst X31.here hx rfl (hb hby at_157) k) ?_
    refine Go.pull (V := T31.setTop (mkF m 161 #[iv pp, iv pq, iv pr', iv ps, iv pm, iv pr_1, iv pr_2, iv pr_3, iv pr_4, iv za1, iv zb1, iv za2, iv zb2, rv b9, rv b9, rv b9, rv rs_15, iv 1, .unset, .unset, .unset, .unset] [])) (fun t k => XS.icmpNo X31.here hx rfl (hb hby at_158) rfl (XT.ii_ne_f (by decide)) k) ?_
    refine Go.pull (V := T31.setTop (mkF m 163 #[iv pp, iv pq, iv pr', iv ps, iv pm, iv pr_1, iv pr_2, iv pr_3, iv pr_4, iv za1, iv zb1, iv za2, iv zb2, rv b9, rv b9, rv b9, rv rs_15, iv 1, .unset, .unset, .unset, .unset] [(.ref rs_15)])) (fun t k => XS.aload X31.here hx rfl (hb hby at_161) rfl rfl k) ?_
    refine Go.pull (V := T31.setTop (mkF m 164 #[iv pp, iv pq, iv pr', iv ps, iv pm, iv pr_1, iv pr_2, iv pr_3, iv pr_4, iv za1, iv zb1, iv za2, iv zb2, rv b9, rv b9, rv b9, rv rs_15, iv 1, .unset, .unset, .unset, .unset] [(.int 0), (.ref rs_15)])) (fun t k => XS.iconst X31.here hx rfl (hb hby at_163) k) ?_
    obtain ⟨cq32, kq32, q32a, q32b, q32c⟩ := isOf hZ e31 Fc15_0
    obtain ⟨_, _, ⟨T32, L32, k32, n32⟩, -, X32, ⟨Lc32, hQ32, l32, y32, z32⟩, st32⟩ := X31.virtualBack hx (y := (⟨"com/example/salish/salish/regex/CodePointSet", "first", "(I)I"⟩ : MethodName)) (z := (⟨"com/example/salish/salish/regex/CodePointSet", "first", "(I)I"⟩ : MethodName)) hown (mvT hZ (hw _ (List.mem_of_getElem? (i := 79) rfl))) (mvT hZ (hw _ (List.mem_of_getElem? (i := 80) rfl))) (notFace_of_selects (args := #[]) (mvT hZ (hw _ (List.mem_of_getElem? (i := 82) rfl)))) (mvT hZ (hw _ (List.mem_of_getElem? (i := 82) rfl))) (mvT hZ (hw _ (List.mem_of_getElem? (i := 81) rfl))) (by decide) (backOf (W := 0) (rmFI l Z a0 hw [] rs_15 (0 : Int32) rb_15 kb_15 (2 : Int32) ([(.int za1), (.int (own_max zb1 zb2))] : List Value) za1 T15.heap n0 Fc15_1 Fc15_2 rfl (by decide)) hZ (hw _ (List.mem_of_getElem? (i := 83) rfl)) (hw _ (List.mem_of_getElem? (i := 64) rfl)) (by decide) (by decide)) q32a q32c (g := (mkF m 164 #[iv pp, iv pq, iv pr', iv ps, iv pm, iv pr_1, iv pr_2, iv pr_3, iv pr_4, iv za1, iv zb1, iv za2, iv zb2, rv b9, rv b9, rv b9, rv rs_15, iv 1, .unset, .unset, .unset, .unset] [(.int 0), (.ref rs_15)])) rfl (by rw [hml]; rfl) (Steps.refl _) (argsL := [(.int 0)]) (rest := []) (lenOf pd_12 rfl) rfl (by show 2 * 0 + _ ≤ _; exact Nat.le_of_eq rfl) (hb hby at_164) (fun _ _ => ⟨rfl, e31, (by decide : 6 + 0 ≤ _), (by decide : 21 + 0 ≤ _)⟩)
    dsimp only [Pt.U, Pt.locs, Pt.cells, Pt.slots] at X32 l32 y32 z32 st32 hQ32
    subst l32 y32 z32
    obtain ⟨rfl, N32q, e32⟩ := hQ32
    have N32 := Fr.app N31 N32q
    refine Go.pull (V := T32.setTop (mkF m 167 #[iv pp, iv pq, iv pr', iv ps, iv pm, iv pr_1, iv pr_2, iv pr_3, iv pr_4, iv za1, iv zb1, iv za2, iv zb2, rv b9, rv b9, rv b9, rv rs_15, iv 1, .unset, .unset, .unset, .unset] [(.int za1)])) (fun _ k => st32.trans k) ?_
    refine Go.pull (V := T32.setTop (mkF m 169 #[iv pp, iv pq, iv pr', iv ps, iv pm, iv pr_1, iv pr_2, iv pr_3, iv pr_4, iv za1, iv zb1, iv za2, iv zb2, rv b9, rv b9, rv b9, rv rs_15, iv 1, .unset, .unset, .unset, .unset] [(.int za1), (.int za1)])) (fun t k => XS.iload X32.here hx rfl (hb hby at_167) rfl  k) ?_
    refine Go.pull (V := T32.setTop (mkF m 171 #[iv pp, iv pq, iv pr', iv ps, iv pm, iv pr_1, iv pr_2, iv pr_3, iv pr_4, iv za1, iv zb1, iv za2, iv zb2, rv b9, rv b9, rv b9, rv rs_15, iv 1, .unset, .unset, .unset, .unset] [(.int za2), (.int za1), (.int za1)])) (fun t k => XS.iload X32.here hx rfl (hb hby at_169) rfl  k) ?_
    obtain ⟨_, _, ⟨T33, L33, k33, n33⟩, -, X33, ⟨Lc33, hQ33, l33, y33, z33⟩, st33⟩ := Jvm.LawKit.callS X32 hx (y := (⟨"java/lang/Math", "min", "(II)I"⟩ : MethodName)) hown (mvT hZ (hw _ (List.mem_of_getElem? (i := 6) rfl))) (mvT hZ (hw _ (List.mem_of_getElem? (i := 7) rfl))) (mvT hZ (hw _ (List.mem_of_getElem? (i := 8) rfl))) (mvT hZ (hw _ (List.mem_of_getElem? (i := 9) rfl))) (by decide) (backOf (W := 1) (rmMn l Z a0 hw [] za1 za2 T15.heap n0 ) hZ (hw _ (List.mem_of_getElem? (i := 9) rfl)) (hw _ (List.mem_of_getElem? (i := 8) rfl)) (by decide) (by decide)) (g := (mkF m 171 #[iv pp, iv pq, iv pr', iv ps, iv pm, iv pr_1, iv pr_2, iv pr_3, iv pr_4, iv za1, iv zb1, iv za2, iv zb2, rv b9, rv b9, rv b9, rv rs_15, iv 1, .unset, .unset, .unset, .unset] [(.int za2), (.int za1), (.int za1)])) rfl (by rw [hml]; rfl) (argsL := [(.int za1), (.int za2)]) (rest := [(.int za1)]) (lenOf pd_0 rfl) rfl (by show 2 * 0 + _ ≤ _; exact Nat.le_of_eq rfl) (hb hby at_171) (fun _ _ => ⟨rfl, e32, (by decide : 6 + 0 ≤ _), (by decide : 21 + 0 ≤ _)⟩)
    dsimp only [Pt.U, Pt.locs, Pt.cells, Pt.slots] at X33 l33 y33 z33 st33 hQ33
    subst l33 y33 z33
    obtain ⟨rfl, N33q, e33⟩ := hQ33
    have N33 := Fr.app N32 N33q
    refine Go.pull (V := T33.setTop (mkF m 174 #[iv pp, iv pq, iv pr', iv ps, iv pm, iv pr_1, iv pr_2, iv pr_3, iv pr_4, iv za1, iv zb1, iv za2, iv zb2, rv b9, rv b9, rv b9, rv rs_15, iv 1, .unset, .unset, .unset, .unset] [(.int (own_min za1 za2)), (.int za1)])) st33 ?_
    refine Go.pull (V := T33.setTop (mkF m 177 #[iv pp, iv pq, iv pr', iv ps, iv pm, iv pr_1, iv pr_2, iv pr_3, iv pr_4, iv za1, iv zb1, iv za2, iv zb2, rv b9, rv b9, rv b9, rv rs_15, iv 1, .unset, .unset, .unset, .unset] [])) (fun t k => XS.icmpNo X33.here hx rfl (hb hby at_174) rfl (XT.ii_ne_f (Int32.toInt_inj.mp (by have := own_mn za1 za2; omega))) k) ?_
    refine Go.pull (V := T33.setTop (mkF m 179 #[iv pp, iv pq, iv pr', iv ps, iv pm, iv pr_1, iv pr_2, iv pr_3, iv pr_4, iv za1, iv zb1, iv za2, iv zb2, rv b9, rv b9, rv b9, rv rs_15, iv 1, .unset, .unset, .unset, .unset] [(.ref rs_15)])) (fun t k => XS.aload X33.here hx rfl (hb hby at_177) rfl rfl k) ?_
    refine Go.pull (V := T33.setTop (mkF m 180 #[iv pp, iv pq, iv pr', iv ps, iv pm, iv pr_1, iv pr_2, iv pr_3, iv pr_4, iv za1, iv zb1, iv za2, iv zb2, rv b9, rv b9, rv b9, rv rs_15, iv 1, .unset, .unset, .unset, .unset] [(.int 0), (.ref rs_15)])) (fun t k => XS.iconst X33.here hx rfl (hb hby at_179) k) ?_
    obtain ⟨cq34, kq34, q34a, q34b, q34c⟩ := isOf hZ e33 Fc15_0
    obtain ⟨_, _, ⟨T34, L34, k34, n34⟩, -, X34, ⟨Lc34, hQ34, l34, y34, z34⟩, st34⟩ := X33.virtualBack hx (y := (⟨"com/example/salish/salish/regex/CodePointSet", "last", "(I)I"⟩ : MethodName)) (z := (⟨"com/example/salish/salish/regex/CodePointSet", "last", "(I)I"⟩ : MethodName)) hown (mvT hZ (hw _ (List.mem_of_getElem? (i := 84) rfl))) (mvT hZ (hw _ (List.mem_of_getElem? (i := 85) rfl))) (notFace_of_selects (args := #[]) (mvT hZ (hw _ (List.mem_of_getElem? (i := 87) rfl)))) (mvT hZ (hw _ (List.mem_of_getElem? (i := 87) rfl))) (mvT hZ (hw _ (List.mem_of_getElem? (i := 86) rfl))) (by decide) (backOf (W := 0) (rmLA l Z a0 hw [] rs_15 (0 : Int32) rb_15 kb_15 (2 : Int32) ([(.int za1), (.int (own_max zb1 zb2))] : List Value) (own_max zb1 zb2) T15.heap n0 Fc15_1 Fc15_2 rfl (by decide)) hZ (hw _ (List.mem_of_getElem? (i := 88) rfl)) (hw _ (List.mem_of_getElem? (i := 64) rfl)) (by decide) (by decide)) q34a q34c (g := (mkF m 180 #[iv pp, iv pq, iv pr', iv ps, iv pm, iv pr_1, iv pr_2, iv pr_3, iv pr_4, iv za1, iv zb1, iv za2, iv zb2, rv b9, rv b9, rv b9, rv rs_15, iv 1, .unset, .unset, .unset, .unset] [(.int 0), (.ref rs_15)])) rfl (by rw [hml]; rfl) (Steps.refl _) (argsL := [(.int 0)]) (rest := []) (lenOf pd_12 rfl) rfl (by show 2 * 0 + _ ≤ _; exact Nat.le_of_eq rfl) (hb hby at_180) (fun _ _ => ⟨rfl, e33, (by decide : 6 + 0 ≤ _), (by decide : 21 + 0 ≤ _)⟩)
    dsimp only [Pt.U, Pt.locs, Pt.cells, Pt.slots] at X34 l34 y34 z34 st34 hQ34
    subst l34 y34 z34
    obtain ⟨rfl, N34q, e34⟩ := hQ34
    have N34 := Fr.app N33 N34q
    refine Go.pull (V := T34.setTop (mkF m 183 #[iv pp, iv pq, iv pr', iv ps, iv pm, iv pr_1, iv pr_2, iv pr_3, iv pr_4, iv za1, iv zb1, iv za2, iv zb2, rv b9, rv b9, rv b9, rv rs_15, iv 1, .unset, .unset, .unset, .unset] [(.int (own_max zb1 zb2))])) (fun _ k => st34.trans k) ?_
    refine Go.pull (V := T34.setTop (mkF m 185 #[iv pp, iv pq, iv pr', iv ps, iv pm, iv pr_1, iv pr_2, iv pr_3, iv pr_4, iv za1, iv zb1, iv za2, iv zb2, rv b9, rv b9, rv b9, rv rs_15, iv 1, .unset, .unset, .unset, .unset] [(.int zb1), (.int (own_max zb1 zb2))])) (fun t k => XS.iload X34.here hx rfl (hb hby at_183) rfl  k) ?_
    refine Go.pull (V := T34.setTop (mkF m 187 #[iv pp, iv pq, iv pr', iv ps, iv pm, iv pr_1, iv pr_2, iv pr_3, iv pr_4, iv za1, iv zb1, iv za2, iv zb2, rv b9, rv b9, rv b9, rv rs_15, iv 1, .unset, .unset, .unset, .unset] [(.int zb2), (.int zb1), (.int (own_max zb1 zb2))])) (fun t k => XS.iload X34.here hx rfl (hb hby at_185) rfl  k) ?_
    obtain ⟨_, _, ⟨T35, L35, k35, n35⟩, -, X35, ⟨Lc35, hQ35, l35, y35, z35⟩, st35⟩ := Jvm.LawKit.callS X34 hx (y := (⟨"java/lang/Math", "max", "(II)I"⟩ : MethodName)) hown (mvT hZ (hw _ (List.mem_of_getElem? (i := 10) rfl))) (mvT hZ (hw _ (List.mem_of_getElem? (i := 11) rfl))) (mvT hZ (hw _ (List.mem_of_getElem? (i := 8) rfl))) (mvT hZ (hw _ (List.mem_of_getElem? (i := 12) rfl))) (by decide) (backOf (W := 1) (rmMx l Z a0 hw [] zb1 zb2 T15.heap n0 ) hZ (hw _ (List.mem_of_getElem? (i := 12) rfl)) (hw _ (List.mem_of_getElem? (i := 8) rfl)) (by decide) (by decide)) (g := (mkF m 187 #[iv pp, iv pq, iv pr', iv ps, iv pm, iv pr_1, iv pr_2, iv pr_3, iv pr_4, iv za1, iv zb1, iv za2, iv zb2, rv b9, rv b9, rv b9, rv rs_15, iv 1, .unset, .unset, .unset, .unset] [(.int zb2), (.int zb1), (.int (own_max zb1 zb2))])) rfl (by rw [hml]; rfl) (argsL := [(.int zb1), (.int zb2)]) (rest := [(.int (own_max zb1 zb2))]) (lenOf pd_0 rfl) rfl (by show 2 * 0 + _ ≤ _; exact Nat.le_of_eq rfl) (hb hby at_187) (fun _ _ => ⟨rfl, e34, (by decide : 6 + 0 ≤ _), (by decide : 21 + 0 ≤ _)⟩)
    dsimp only [Pt.U, Pt.locs, Pt.cells, Pt.slots] at X35 l35 y35 z35 st35 hQ35
    subst l35 y35 z35
    obtain ⟨rfl, N35q, e35⟩ := hQ35
    have N35 := Fr.app N34 N35q
    refine Go.pull (V := T35.setTop (mkF m 190 #[iv pp, iv pq, iv pr', iv ps, iv pm, iv pr_1, iv pr_2, iv pr_3, iv pr_4, iv za1, iv zb1, iv za2, iv zb2, rv b9, rv b9, rv b9, rv rs_15, iv 1, .unset, .unset, .unset, .unset] [(.int (own_max zb1 zb2)), (.int (own_max zb1 zb2))])) st35 ?_
    refine Go.pull (V := T35.setTop (mkF m 193 #[iv pp, iv pq, iv pr', iv ps, iv pm, iv pr_1, iv pr_2, iv pr_3, iv pr_4, iv za1, iv zb1, iv za2, iv zb2, rv b9, rv b9, rv b9, rv rs_15, iv 1, .unset, .unset, .unset, .unset] [])) (fun t k => XS.icmpNo X35.here hx rfl (hb hby at_190) rfl (XT.ii_ne_f rfl) k) ?_
    refine Go.pull (V := T35.setTop (mkF m 194 #[iv pp, iv pq, iv pr', iv ps, iv pm, iv pr_1, iv pr_2, iv pr_3, iv pr_4, iv za1, iv zb1, iv za2, iv zb2, rv b9, rv b9, rv b9, rv rs_15, iv 1, .unset, .unset, .unset, .unset] [(.int 1)])) (fun t k => XS.iconst X35.here hx rfl (hb hby at_193) k) ?_
    refine Go.pull (V := T35.setTop (mkF m 198 #[iv pp, iv pq, iv pr', iv ps, iv pm, iv pr_1, iv pr_2, iv pr_3, iv pr_4, iv za1, iv zb1, iv za2, iv zb2, rv b9, rv b9, rv b9, rv rs_15, iv 1, .unset, .unset, .unset, .unset] [(.int 1)])) (fun t k => XS.goto X35.here hx rfl (pc0 := 194) (pc' := 198) rfl (hb hby at_194) (by decide) (by decide) k) ?_
    exact Go.retN X35 hx Bd.notSynchronized (t := .boolean) Bd.returns (by simp) (hb hby at_198) ⟨rfl, N35⟩ (by decide) (by decide)
set_option maxRecDepth 65536 in
set_option maxHeartbeats 40000000 in
theorem comes_1 {Post : Tables → Env → Array Value → State → Outcome → State → Prop} (hpost : ∀ tb e args s v u, (limb_1_1.after args s (.returned v) u = true ∧ limb_1_2.after args s (.returned v) u = true ∧ True) → FrameEnd s (.returned v) u (Jvm.fieldLocs frame_1_writes args s ++ Jvm.arrayLocs frame_1_arrays args s ++ Jvm.staticLocs frame_1_statics s) 24 128 → Post tb e args s (.returned v) u) :
    ArmFor flags0 classFile x code maxLocals ret World_1 tables_1 room_1 Calls_1 rest_1 Pre_1 Post := by
  intro l hfl _ _ p e ha hc hk s m args below hf hA hF happ hP
  obtain ⟨hcalls, hrest, hpre⟩ := hP
  obtain ⟨-, -, -, hnamed, -, -, -, hat⟩ := (Spec.applies_iff hf).mp happ
  obtain ⟨hg, hn⟩ := and_e (Cond.before_iff.mp (show (Jvm.Cond.and given_1 narrow_1).before args s = true from hpre))
  obtain ⟨y1, y2⟩ := and_e hg
  obtain ⟨y3, y4⟩ := and_e y2
  obtain ⟨y5, y6⟩ := and_e y4
  obtain ⟨y7, y8⟩ := and_e y6
  obtain ⟨y9, y10⟩ := and_e y8
  obtain ⟨w0, w1, w2, w3, w4, rfl⟩ : ∃ w0 w1 w2 w3 w4 : Value, args = #[w0, w1, w2, w3, w4] := by
    have hs : args.size = 5 := by simpa [Cond.value, given_1] using y1
    obtain ⟨L⟩ := args
    match L, hs with
    | [w0, w1, w2, w3, w4], _ => exact ⟨w0, w1, w2, w3, w4, rfl⟩
  have hw := fun d (hd : d ∈ tables_1) => atoms_spec (ws := Jvm.Cond.code x code maxLocals ret :: tables_1) hat d (List.mem_cons_of_mem _ hd)
  have hfit : Fit s := fun {y c} hc i hi => by
    obtain ⟨ha, rfl⟩ := Array.getElem?_eq_some_iff.mp hc
    have q := List.all_eq_true.mp ((Array.all_eq_true_iff_forall_mem.mp hF) _ (Array.getElem_mem ha)) i (List.mem_range.mpr hi)
    simpa [Array.getElem?_eq_getElem hi] using q
  obtain ⟨i0, ei0⟩ := is_v y3
  obtain rfl : w0 = (.int i0) := Option.some.inj ei0
  obtain ⟨i1, ei1⟩ := is_v y5
  obtain rfl : w1 = (.int i1) := Option.some.inj ei1
  obtain ⟨i2, ei2⟩ := is_v y7
  obtain rfl : w2 = (.int i2) := Option.some.inj ei2
  obtain ⟨i3, ei3⟩ := is_v y9
  obtain rfl : w3 = (.int i3) := Option.some.inj ei3
  obtain ⟨i4, ei4⟩ := is_v y10
  obtain rfl : w4 = (.int i4) := Option.some.inj ei4
  obtain ⟨n, o, h1, h2, h3, _, L, rfl, ⟨rfl, N⟩, hq⟩ := rm0 l s _ hw tables_1 i0 i1 i2 i3 i4 s.heap s.heap.size (Nat.le_refl _)  p e ha hc hk s m _ below hf ((Spec.applies_iff_loose hf).mp happ).1 ⟨rfl, State.Warmed39.refl s, rfl⟩ trivial
  refine ⟨n, _, h1, h2, h3, hpost _ _ _ _ _ _ ⟨Cond.after_iff.mpr rfl, Cond.after_iff.mpr (eq_i res_at (Term.int_eval (1)) rfl), trivial⟩ ⟨hq.1, hq.2.1, (hq.2.2.sift fun y hy => Or.inr (N y hy)).mono (by decide) (by decide)⟩⟩
theorem main_1_1 : Claimed_1_1 := comes_1 fun _ _ _ _ _ _ h hF => ⟨h.1, hF⟩
theorem main_1_2 : Claimed_1_2 := comes_1 fun _ _ _ _ _ _ h hF => ⟨h.2.1, hF⟩
end Jvm.Pilot.@@N@@
namespace Jvm.Pilot.@@N@@
open Jvm Jvm.ClassFile Sem Op Lib Jvm.Free Jvm.Stand Jvm.Pilot.@@N@@.Jvm.D
/-! MADE BY PROGRAM (witnessworld.py) out of the Statement's table words and the real class files: 16 classes; the members and pool entries that the words name. The judged class is class 1, her method 2. -/
namespace start1
open Jvm.ClassFile
def u (s : String) : CpInfo := .utf8 (stringToUtf16 s)
/-- a pool by its gaps: so many unusable entries, then the entry; so many at the end -/
def gap : Nat → List CpInfo → List CpInfo
  | 0, r => r
  | n + 1, r => .unusable :: gap n r
def poolList (es : List (Nat × CpInfo)) (last : Nat) : List CpInfo := es.foldr (fun e r => gap e.1 (e.2 :: r)) (gap last [])
def pool (es : List (Nat × CpInfo)) (last : Nat) : Array CpInfo := ⟨poolList es last⟩
def fileOf (pool : Array CpInfo) (this : Nat) (attrs : Array Attribute := #[]) (ms : Array MethodInfo := #[]) (fl : Nat := 33) (sup : Nat := 0) (ifs : Array Nat := #[]) (fds : Array FieldInfo := #[]) : ClassFile where
  minorVersion := 0
  majorVersion := 65
  constantPool := pool
  accessFlags := fl
  thisClass := this
  superClass := sup
  interfaces := ifs
  fields := fds
  methods := ms
  attributes := attrs
def plain (name : String) (sup : Option ClassId) : Class where
  name := name
  kind := .ordinary
  loader := none
  accessFlags := 33
  super := sup
  interfaces := #[]
  cf := none
  fields := #[]
  methods := #[]
  instanceTypes := #[]
  staticTypes := #[]
  resolved := #[]
  callSites := []
  init := .initialized
  statics := none
  mirror := none

def pool0 : Array CpInfo := pool [(5, u "<init>"), (0, u "()V"), (1, .class_ 10), (1, u "java/lang/Object"), (85, u "clone"), (0, u "()Ljava/lang/Object;")] 26

def k0c0 : Code := { maxStack := 0, maxLocals := 1, code := object_method_1_code, exceptionTable := #[], attributes := #[] }
def k0m0 : Method := { name := "<init>", desc := "()V", sig := { parameters := [], returnType := none }, accessFlags := 1, code := some k0c0 }
def k0m1 : Method := { name := "clone", desc := "()Ljava/lang/Object;", sig := { parameters := [], returnType := some (.object "java/lang/Object") }, accessFlags := 260, code := none }
/-- java/lang/Object -/
def k0 : Class := { plain "java/lang/Object" none with
  accessFlags := 33
  interfaces := #[]
  cf := some (fileOf pool0 8 #[] #[{ accessFlags := 1, nameIndex := 5, descriptorIndex := 6, attributes := #[] }, { accessFlags := 260, nameIndex := 96, descriptorIndex := 97, attributes := #[] }] 33 0 #[] #[])
  fields := #[]
  methods := #[k0m0, k0m1]
  instanceTypes := #[]
  staticTypes := #[]
  resolved := Array.replicate 124 none
  statics := none }

def pool1 : Array CpInfo := pool [(2, .class_ 4), (0, .nameAndType 5 6), (0, u "java/lang/Object"), (0, u "<init>"), (0, u "()V"), (0, .integer 1114096), (0, .integer 2147483647), (0, .integer 1114112), (0, .methodref 11 12), (0, .class_ 13), (0, .nameAndType 14 15), (0, u "com/example/salish/salish/regex/BuilderAddPinLaw"), (0, u "cp"), (0, u "(II)I"), (0, .methodref 17 18), (0, .class_ 19), (0, .nameAndType 20 15), (0, u "java/lang/Math"), (0, u "min"), (0, .methodref 17 22), (0, .nameAndType 23 15), (0, u "max"), (0, .class_ 25), (0, u "com/example/salish/salish/regex/CodePointSet$Builder"), (0, .methodref 24 3), (0, .methodref 24 28), (0, .nameAndType 29 30), (0, u "add"), (0, u "(II)Lcom/example/salish/salish/regex/CodePointSet$Builder;"), (0, .methodref 24 32), (0, .nameAndType 33 34), (0, u "build"), (0, u "()Lcom/example/salish/salish/regex/CodePointSet;"), (0, .methodref 36 37), (0, .class_ 38), (0, .nameAndType 39 40), (0, u "com/example/salish/salish/regex/CodePointSet"), (0, u "rangeCount"), (0, u "()I"), (0, .methodref 36 42), (0, .nameAndType 43 44), (0, u "first"), (0, u "(I)I"), (0, .methodref 36 46), (0, .nameAndType 47 44), (0, u "last"), (3, u "law"), (0, u "(IIIII)Z")] 4

def k1m0 : Method := { name := "<init>", desc := "()V", sig := { parameters := [], returnType := none }, accessFlags := 1, code := none }
def k1c1 : Code := { maxStack := 3, maxLocals := 4, code := method_2_code, exceptionTable := #[], attributes := #[] }
def k1m1 : Method := { name := "cp", desc := "(II)I", sig := { parameters := [.int, .int], returnType := some .int }, accessFlags := 10, code := some k1c1 }
def k1c2 : Code := { maxStack := 3, maxLocals := 22, code := code, exceptionTable := #[], attributes := #[] }
def k1m2 : Method := { name := "law", desc := "(IIIII)Z", sig := { parameters := [.int, .int, .int, .int, .int], returnType := some .boolean }, accessFlags := 9, code := some k1c2 }
/-- com/example/salish/salish/regex/BuilderAddPinLaw -/
def k1 : Class := { plain "com/example/salish/salish/regex/BuilderAddPinLaw" (some 0) with
  accessFlags := 49
  interfaces := #[]
  cf := some (fileOf pool1 11 #[] #[{ accessFlags := 1, nameIndex := 5, descriptorIndex := 6, attributes := #[] }, { accessFlags := 10, nameIndex := 14, descriptorIndex := 15, attributes := #[] }, { accessFlags := 9, nameIndex := 51, descriptorIndex := 52, attributes := #[] }] 49 2 #[] #[])
  fields := #[]
  methods := #[k1m0, k1m1, k1m2]
  instanceTypes := #[]
  staticTypes := #[]
  resolved := Array.replicate 57 none
  statics := none }

def pool2 : Array CpInfo := pool [(1, .class_ 2), (0, u "java/lang/Math"), (1, .class_ 6), (1, u "java/lang/Object"), (0, u "<init>"), (0, u "()V"), (89, .class_ 100), (1, u "java/lang/Math$RandomNumberGeneratorHolder"), (71, u "negativeZeroFloatBits"), (0, u "J"), (2, u "negativeZeroDoubleBits"), (21, u "max"), (2, u "min"), (43, u "$assertionsDisabled"), (0, u "Z"), (88, u "(II)I"), (2, u "twoToTheDoubleScaleDown"), (0, u "D"), (4, u "twoToTheDoubleScaleUp"), (9, u "E"), (3, u "PI"), (2, u "TAU"), (2, u "DEGREES_TO_RADIANS"), (0, u "RADIANS_TO_DEGREES")] 94

def k2m0 : Method := { name := "<init>", desc := "()V", sig := { parameters := [], returnType := none }, accessFlags := 2, code := none }
def k2c1 : Code := { maxStack := 2, maxLocals := 2, code := jdk_29_method_65_code, exceptionTable := #[], attributes := #[] }
def k2m1 : Method := { name := "max", desc := "(II)I", sig := { parameters := [.int, .int], returnType := some .int }, accessFlags := 9, code := some k2c1 }
def k2c2 : Code := { maxStack := 2, maxLocals := 2, code := jdk_29_method_69_code, exceptionTable := #[], attributes := #[] }
def k2m2 : Method := { name := "min", desc := "(II)I", sig := { parameters := [.int, .int], returnType := some .int }, accessFlags := 9, code := some k2c2 }
/-- java/lang/Math -/
def k2 : Class := { plain "java/lang/Math" (some 0) with
  accessFlags := 49
  interfaces := #[]
  cf := some (fileOf pool2 1 #[.nestMembers #[98]] #[{ accessFlags := 2, nameIndex := 7, descriptorIndex := 8, attributes := #[] }, { accessFlags := 9, nameIndex := 198, descriptorIndex := 335, attributes := #[] }, { accessFlags := 9, nameIndex := 201, descriptorIndex := 335, attributes := #[] }] 49 4 #[] #[{ accessFlags := 25, nameIndex := 354, descriptorIndex := 339, attributes := #[] }, { accessFlags := 25, nameIndex := 358, descriptorIndex := 339, attributes := #[] }, { accessFlags := 25, nameIndex := 361, descriptorIndex := 339, attributes := #[] }, { accessFlags := 26, nameIndex := 364, descriptorIndex := 339, attributes := #[] }, { accessFlags := 26, nameIndex := 365, descriptorIndex := 339, attributes := #[] }, { accessFlags := 26, nameIndex := 172, descriptorIndex := 173, attributes := #[] }, { accessFlags := 26, nameIndex := 176, descriptorIndex := 173, attributes := #[] }, { accessFlags := 8, nameIndex := 344, descriptorIndex := 339, attributes := #[] }, { accessFlags := 8, nameIndex := 338, descriptorIndex := 339, attributes := #[] }, { accessFlags := 4120, nameIndex := 245, descriptorIndex := 246, attributes := #[] }])
  fields := #[{ name := "E", type := .double, accessFlags := 25, slot := 0, constantValue := 0 }, { name := "PI", type := .double, accessFlags := 25, slot := 1, constantValue := 0 }, { name := "TAU", type := .double, accessFlags := 25, slot := 2, constantValue := 0 }, { name := "DEGREES_TO_RADIANS", type := .double, accessFlags := 26, slot := 3, constantValue := 0 }, { name := "RADIANS_TO_DEGREES", type := .double, accessFlags := 26, slot := 4, constantValue := 0 }, { name := "negativeZeroFloatBits", type := .long, accessFlags := 26, slot := 5, constantValue := 0 }, { name := "negativeZeroDoubleBits", type := .long, accessFlags := 26, slot := 6, constantValue := 0 }, { name := "twoToTheDoubleScaleUp", type := .double, accessFlags := 8, slot := 7, constantValue := 0 }, { name := "twoToTheDoubleScaleDown", type := .double, accessFlags := 8, slot := 8, constantValue := 0 }, { name := "$assertionsDisabled", type := .boolean, accessFlags := 4120, slot := 9, constantValue := 0 }]
  methods := #[k2m0, k2m1, k2m2]
  instanceTypes := #[]
  staticTypes := #[.double, .double, .double, .double, .double, .long, .long, .double, .double, .boolean]
  resolved := Array.replicate 460 none
  statics := none }

def pool3 : Array CpInfo := pool [(1, .methodref 2 3), (0, .class_ 4), (0, .nameAndType 5 6), (0, u "java/lang/Object"), (0, u "<init>"), (0, u "()V"), (0, .fieldref 8 9), (0, .class_ 10), (0, .nameAndType 11 12), (0, u "com/example/salish/salish/regex/CodePointSet$Builder"), (0, u "ranges"), (0, u "[J"), (2, .integer 1114111), (9, .fieldref 8 26), (0, .nameAndType 27 28), (0, u "count"), (0, u "I"), (0, .methodref 30 31), (0, .class_ 32), (0, .nameAndType 33 34), (0, u "java/util/Arrays"), (0, u "copyOf"), (0, u "([JI)[J"), (1, .class_ 38), (1, u "com/example/salish/salish/regex/CodePointSet"), (11, u "add"), (0, u "(II)Lcom/example/salish/salish/regex/CodePointSet$Builder;"), (0, .methodref 30 53), (0, .nameAndType 54 55), (0, u "sort"), (0, u "([J)V"), (0, .methodref 57 58), (0, .class_ 59), (0, .nameAndType 60 61), (0, u "java/lang/Math"), (0, u "max"), (0, u "(II)I"), (0, .methodref 30 63), (0, .nameAndType 33 64), (0, u "([II)[I"), (0, .methodref 36 66), (0, .nameAndType 5 67), (0, u "([I)V"), (5, u "build"), (0, u "()Lcom/example/salish/salish/regex/CodePointSet;")] 22

def k3c0 : Code := { maxStack := 2, maxLocals := 1, code := prog_17_method_1_code, exceptionTable := #[], attributes := #[] }
def k3m0 : Method := { name := "<init>", desc := "()V", sig := { parameters := [], returnType := none }, accessFlags := 0, code := some k3c0 }
def k3c1 : Code := { maxStack := 6, maxLocals := 3, code := prog_17_method_2_code, exceptionTable := #[], attributes := #[] }
def k3m1 : Method := { name := "add", desc := "(II)Lcom/example/salish/salish/regex/CodePointSet$Builder;", sig := { parameters := [.int, .int], returnType := some (.object "com/example/salish/salish/regex/CodePointSet$Builder") }, accessFlags := 0, code := some k3c1 }
def k3c2 : Code := { maxStack := 5, maxLocals := 11, code := prog_17_method_4_code, exceptionTable := #[], attributes := #[] }
def k3m2 : Method := { name := "build", desc := "()Lcom/example/salish/salish/regex/CodePointSet;", sig := { parameters := [], returnType := some (.object "com/example/salish/salish/regex/CodePointSet") }, accessFlags := 0, code := some k3c2 }
/-- com/example/salish/salish/regex/CodePointSet$Builder -/
def k3 : Class := { plain "com/example/salish/salish/regex/CodePointSet$Builder" (some 0) with
  accessFlags := 48
  interfaces := #[]
  cf := some (fileOf pool3 8 #[.nestHost 36] #[{ accessFlags := 0, nameIndex := 5, descriptorIndex := 6, attributes := #[] }, { accessFlags := 0, nameIndex := 50, descriptorIndex := 51, attributes := #[] }, { accessFlags := 0, nameIndex := 73, descriptorIndex := 74, attributes := #[] }] 48 2 #[] #[{ accessFlags := 2, nameIndex := 11, descriptorIndex := 12, attributes := #[] }, { accessFlags := 2, nameIndex := 27, descriptorIndex := 28, attributes := #[] }])
  fields := #[{ name := "ranges", type := (.array .long), accessFlags := 2, slot := 0, constantValue := 0 }, { name := "count", type := .int, accessFlags := 2, slot := 1, constantValue := 0 }]
  methods := #[k3m0, k3m1, k3m2]
  instanceTypes := #[(.array .long), .int]
  staticTypes := #[]
  resolved := Array.replicate 97 none
  statics := none }

def pool4 : Array CpInfo := pool [(2, .class_ 4), (1, u "java/lang/Object"), (0, u "<init>"), (0, u "()V"), (1, .class_ 10), (1, u "java/util/DualPivotQuicksort"), (0, u "sort"), (2, .class_ 16), (1, u "java/util/Arrays"), (2, .methodref 8 20), (0, .nameAndType 11 21), (0, u "([JIII)V"), (52, .class_ 76), (1, u "java/util/Arrays$NaturalOrder"), (32, u "()Ljava/lang/Object;"), (3, .class_ 115), (1, u "java/util/Arrays$LegacyMergeSort"), (1, u "Z"), (10, .nameAndType 129 109), (0, u "clone"), (20, .methodref 151 152), (0, .class_ 153), (0, .nameAndType 154 155), (0, u "java/lang/System"), (0, u "arraycopy"), (0, u "(Ljava/lang/Object;ILjava/lang/Object;II)V"), (146, u "copyOf"), (1, .methodref 305 306), (0, .class_ 307), (0, .nameAndType 308 309), (0, u "java/lang/Math"), (0, u "min"), (0, u "(II)I"), (6, .methodref 317 128), (0, .class_ 318), (0, u "[I"), (56, .class_ 376), (0, u "java/util/Arrays$ArrayList"), (68, u "$assertionsDisabled"), (269, u "MIN_ARRAY_SORT_GRAN"), (0, u "I"), (2, u "INSERTIONSORT_THRESHOLD"), (11, u "([J)V"), (139, u "([II)[I"), (0, u "([JI)[J"), (102, .class_ 976), (0, u "java/util/Arrays$ArrayItr")] 52

def k4m0 : Method := { name := "<init>", desc := "()V", sig := { parameters := [], returnType := none }, accessFlags := 2, code := none }
def k4c1 : Code := { maxStack := 4, maxLocals := 1, code := jdk_65_method_4_code, exceptionTable := #[], attributes := #[] }
def k4m1 : Method := { name := "sort", desc := "([J)V", sig := { parameters := [(.array .long)], returnType := none }, accessFlags := 9, code := some k4c1 }
def k4c2 : Code := { maxStack := 6, maxLocals := 3, code := jdk_65_method_123_code, exceptionTable := #[], attributes := #[] }
def k4m2 : Method := { name := "copyOf", desc := "([II)[I", sig := { parameters := [(.array .int), .int], returnType := some (.array .int) }, accessFlags := 9, code := some k4c2 }
def k4c3 : Code := { maxStack := 6, maxLocals := 3, code := jdk_65_method_124_code, exceptionTable := #[], attributes := #[] }
def k4m3 : Method := { name := "copyOf", desc := "([JI)[J", sig := { parameters := [(.array .long), .int], returnType := some (.array .long) }, accessFlags := 9, code := some k4c3 }
/-- java/util/Arrays -/
def k4 : Class := { plain "java/util/Arrays" (some 0) with
  accessFlags := 49
  interfaces := #[]
  cf := some (fileOf pool4 14 #[.nestMembers #[975, 375, 113, 74]] #[{ accessFlags := 2, nameIndex := 5, descriptorIndex := 6, attributes := #[] }, { accessFlags := 9, nameIndex := 11, descriptorIndex := 731, attributes := #[] }, { accessFlags := 9, nameIndex := 302, descriptorIndex := 871, attributes := #[] }, { accessFlags := 9, nameIndex := 302, descriptorIndex := 872, attributes := #[] }] 49 2 #[] #[{ accessFlags := 26, nameIndex := 715, descriptorIndex := 716, attributes := #[] }, { accessFlags := 26, nameIndex := 719, descriptorIndex := 716, attributes := #[] }, { accessFlags := 4120, nameIndex := 445, descriptorIndex := 117, attributes := #[] }])
  fields := #[{ name := "MIN_ARRAY_SORT_GRAN", type := .int, accessFlags := 26, slot := 0, constantValue := 0 }, { name := "INSERTIONSORT_THRESHOLD", type := .int, accessFlags := 26, slot := 1, constantValue := 0 }, { name := "$assertionsDisabled", type := .boolean, accessFlags := 4120, slot := 2, constantValue := 0 }]
  methods := #[k4m0, k4m1, k4m2, k4m3]
  instanceTypes := #[]
  staticTypes := #[.int, .int, .boolean]
  resolved := Array.replicate 1029 none
  statics := none }

def pool5 : Array CpInfo := pool [(2, .class_ 4), (1, u "java/lang/Object"), (0, u "<init>"), (0, u "()V"), (1, .class_ 10), (1, u "java/lang/System"), (0, u "allowSecurityManager"), (0, u "I"), (16, u "cons"), (0, u "Ljava/io/Console;"), (77, .class_ 110), (1, u "java/lang/System$CallersHolder"), (43, u "initialErrStream"), (0, u "Ljava/io/PrintStream;"), (19, u "security"), (0, u "Ljava/lang/SecurityManager;"), (31, .class_ 209), (0, u "java/lang/System$1"), (7, u "props"), (0, u "Ljava/util/Properties;"), (2, u "lineSeparator"), (0, u "Ljava/lang/String;"), (96, .class_ 321), (1, u "java/lang/System$LoggerFinder"), (5, .class_ 328), (0, u "java/lang/System$Logger"), (67, u "err"), (2, u "out"), (91, u "notSupportedJnuEncoding"), (15, u "in"), (17, u "initialIn"), (0, u "Ljava/io/InputStream;"), (35, u "bootLayer"), (0, u "Ljava/lang/ModuleLayer;"), (99, .class_ 664), (0, u "java/lang/System$2"), (9, u "NEVER"), (2, u "MAYBE"), (49, u "arraycopy"), (0, u "(Ljava/lang/Object;ILjava/lang/Object;II)V"), (72, .class_ 802), (0, u "java/lang/System$Logger$Level")] 31

def k5m0 : Method := { name := "<init>", desc := "()V", sig := { parameters := [], returnType := none }, accessFlags := 2, code := none }
def k5m1 : Method := { name := "arraycopy", desc := "(Ljava/lang/Object;ILjava/lang/Object;II)V", sig := { parameters := [(.object "java/lang/Object"), .int, (.object "java/lang/Object"), .int, .int], returnType := none }, accessFlags := 265, code := none }
/-- java/lang/System -/
def k5 : Class := { plain "java/lang/System" (some 0) with
  accessFlags := 49
  interfaces := #[]
  cf := some (fileOf pool5 8 #[.nestMembers #[319, 327, 801, 108, 663, 208]] #[{ accessFlags := 2, nameIndex := 5, descriptorIndex := 6, attributes := #[] }, { accessFlags := 265, nameIndex := 727, descriptorIndex := 728, attributes := #[] }] 49 2 #[] #[{ accessFlags := 25, nameIndex := 507, descriptorIndex := 526, attributes := #[] }, { accessFlags := 25, nameIndex := 399, descriptorIndex := 155, attributes := #[] }, { accessFlags := 25, nameIndex := 396, descriptorIndex := 155, attributes := #[] }, { accessFlags := 10, nameIndex := 525, descriptorIndex := 526, attributes := #[] }, { accessFlags := 26, nameIndex := 674, descriptorIndex := 12, attributes := #[] }, { accessFlags := 26, nameIndex := 677, descriptorIndex := 12, attributes := #[] }, { accessFlags := 10, nameIndex := 11, descriptorIndex := 12, attributes := #[] }, { accessFlags := 74, nameIndex := 175, descriptorIndex := 176, attributes := #[] }, { accessFlags := 10, nameIndex := 491, descriptorIndex := 222, attributes := #[] }, { accessFlags := 74, nameIndex := 29, descriptorIndex := 30, attributes := #[] }, { accessFlags := 74, nameIndex := 154, descriptorIndex := 155, attributes := #[] }, { accessFlags := 10, nameIndex := 217, descriptorIndex := 218, attributes := #[] }, { accessFlags := 10, nameIndex := 221, descriptorIndex := 222, attributes := #[] }, { accessFlags := 8, nameIndex := 562, descriptorIndex := 563, attributes := #[] }])
  fields := #[{ name := "in", type := (.object "java/io/InputStream"), accessFlags := 25, slot := 0, constantValue := 0 }, { name := "out", type := (.object "java/io/PrintStream"), accessFlags := 25, slot := 1, constantValue := 0 }, { name := "err", type := (.object "java/io/PrintStream"), accessFlags := 25, slot := 2, constantValue := 0 }, { name := "initialIn", type := (.object "java/io/InputStream"), accessFlags := 10, slot := 3, constantValue := 0 }, { name := "NEVER", type := .int, accessFlags := 26, slot := 4, constantValue := 0 }, { name := "MAYBE", type := .int, accessFlags := 26, slot := 5, constantValue := 0 }, { name := "allowSecurityManager", type := .int, accessFlags := 10, slot := 6, constantValue := 0 }, { name := "security", type := (.object "java/lang/SecurityManager"), accessFlags := 74, slot := 7, constantValue := 0 }, { name := "notSupportedJnuEncoding", type := (.object "java/lang/String"), accessFlags := 10, slot := 8, constantValue := 0 }, { name := "cons", type := (.object "java/io/Console"), accessFlags := 74, slot := 9, constantValue := 0 }, { name := "initialErrStream", type := (.object "java/io/PrintStream"), accessFlags := 74, slot := 10, constantValue := 0 }, { name := "props", type := (.object "java/util/Properties"), accessFlags := 10, slot := 11, constantValue := 0 }, { name := "lineSeparator", type := (.object "java/lang/String"), accessFlags := 10, slot := 12, constantValue := 0 }, { name := "bootLayer", type := (.object "java/lang/ModuleLayer"), accessFlags := 8, slot := 13, constantValue := 0 }]
  methods := #[k5m0, k5m1]
  instanceTypes := #[]
  staticTypes := #[(.object "java/io/InputStream"), (.object "java/io/PrintStream"), (.object "java/io/PrintStream"), (.object "java/io/InputStream"), .int, .int, .int, (.object "java/lang/SecurityManager"), (.object "java/lang/String"), (.object "java/io/Console"), (.object "java/io/PrintStream"), (.object "java/util/Properties"), (.object "java/lang/String"), (.object "java/lang/ModuleLayer")]
  resolved := Array.replicate 834 none
  statics := none }

def pool6 : Array CpInfo := pool [(1, .class_ 2), (0, u "java/util/DualPivotQuicksort"), (5, .class_ 10), (1, u "java/lang/Object"), (0, u "<init>"), (0, u "()V"), (4, .class_ 18), (0, u "java/util/DualPivotQuicksort$Sorter"), (9, u "sort"), (7, u "insertionSort"), (31, u "I"), (4, .class_ 74), (0, u "java/util/DualPivotQuicksort$RunMerger"), (10, .class_ 86), (0, u "java/util/DualPivotQuicksort$Merger"), (12, .methodref 1 100), (0, .nameAndType 28 101), (0, u "(Ljava/util/DualPivotQuicksort$Sorter;[JIII)V"), (2, u "([JIII)V"), (0, .methodref 1 106), (0, .nameAndType 36 107), (0, u "([JII)V"), (106, u "MAX_MIXED_INSERTION_SORT_SIZE"), (2, u "MAX_INSERTION_SORT_SIZE"), (1, u "MIN_PARALLEL_SORT_SIZE"), (1, u "MIN_TRY_MERGE_SIZE"), (0, u "MIN_FIRST_RUN_SIZE"), (1, u "MIN_FIRST_RUNS_FACTOR"), (1, u "MAX_RUN_CAPACITY"), (1, u "MIN_RUN_COUNT"), (1, u "MIN_PARALLEL_MERGE_PARTS_SIZE"), (0, u "MIN_BYTE_COUNTING_SORT_SIZE"), (1, u "MIN_SHORT_OR_CHAR_COUNTING_SORT_SIZE"), (1, u "DELTA"), (1, u "MAX_RECURSION_DEPTH"), (1, u "NUM_BYTE_VALUES"), (1, u "MAX_BYTE_INDEX"), (0, u "NUM_CHAR_VALUES"), (0, u "NUM_SHORT_VALUES"), (0, u "MAX_SHORT_INDEX")] 86

def k6m0 : Method := { name := "<init>", desc := "()V", sig := { parameters := [], returnType := none }, accessFlags := 2, code := none }
def k6c1 : Code := { maxStack := 9, maxLocals := 7, code := jdk_2529_method_12_code, exceptionTable := #[], attributes := #[] }
def k6m1 : Method := { name := "sort", desc := "([JIII)V", sig := { parameters := [(.array .long), .int, .int, .int], returnType := none }, accessFlags := 8, code := some k6c1 }
def k6c2 : Code := { maxStack := 6, maxLocals := 25, code := jdk_2529_method_13_code, exceptionTable := #[], attributes := #[] }
def k6m2 : Method := { name := "sort", desc := "(Ljava/util/DualPivotQuicksort$Sorter;[JIII)V", sig := { parameters := [(.object "java/util/DualPivotQuicksort$Sorter"), (.array .long), .int, .int, .int], returnType := none }, accessFlags := 8, code := some k6c2 }
def k6c3 : Code := { maxStack := 5, maxLocals := 7, code := jdk_2529_method_15_code, exceptionTable := #[], attributes := #[] }
def k6m3 : Method := { name := "insertionSort", desc := "([JII)V", sig := { parameters := [(.array .long), .int, .int], returnType := none }, accessFlags := 10, code := some k6c3 }
/-- java/util/DualPivotQuicksort -/
def k6 : Class := { plain "java/util/DualPivotQuicksort" (some 0) with
  accessFlags := 48
  interfaces := #[]
  cf := some (fileOf pool6 1 #[.nestMembers #[73, 85, 17]] #[{ accessFlags := 2, nameIndex := 11, descriptorIndex := 12, attributes := #[] }, { accessFlags := 8, nameIndex := 28, descriptorIndex := 104, attributes := #[] }, { accessFlags := 8, nameIndex := 28, descriptorIndex := 101, attributes := #[] }, { accessFlags := 10, nameIndex := 36, descriptorIndex := 107, attributes := #[] }] 48 8 #[] #[{ accessFlags := 26, nameIndex := 214, descriptorIndex := 68, attributes := #[] }, { accessFlags := 26, nameIndex := 217, descriptorIndex := 68, attributes := #[] }, { accessFlags := 26, nameIndex := 219, descriptorIndex := 68, attributes := #[] }, { accessFlags := 26, nameIndex := 221, descriptorIndex := 68, attributes := #[] }, { accessFlags := 26, nameIndex := 222, descriptorIndex := 68, attributes := #[] }, { accessFlags := 26, nameIndex := 224, descriptorIndex := 68, attributes := #[] }, { accessFlags := 26, nameIndex := 226, descriptorIndex := 68, attributes := #[] }, { accessFlags := 26, nameIndex := 228, descriptorIndex := 68, attributes := #[] }, { accessFlags := 26, nameIndex := 230, descriptorIndex := 68, attributes := #[] }, { accessFlags := 26, nameIndex := 231, descriptorIndex := 68, attributes := #[] }, { accessFlags := 26, nameIndex := 233, descriptorIndex := 68, attributes := #[] }, { accessFlags := 26, nameIndex := 235, descriptorIndex := 68, attributes := #[] }, { accessFlags := 26, nameIndex := 237, descriptorIndex := 68, attributes := #[] }, { accessFlags := 26, nameIndex := 239, descriptorIndex := 68, attributes := #[] }, { accessFlags := 26, nameIndex := 241, descriptorIndex := 68, attributes := #[] }, { accessFlags := 26, nameIndex := 242, descriptorIndex := 68, attributes := #[] }, { accessFlags := 26, nameIndex := 243, descriptorIndex := 68, attributes := #[] }, { accessFlags := 26, nameIndex := 244, descriptorIndex := 68, attributes := #[] }])
  fields := #[{ name := "MAX_MIXED_INSERTION_SORT_SIZE", type := .int, accessFlags := 26, slot := 0, constantValue := 0 }, { name := "MAX_INSERTION_SORT_SIZE", type := .int, accessFlags := 26, slot := 1, constantValue := 0 }, { name := "MIN_PARALLEL_SORT_SIZE", type := .int, accessFlags := 26, slot := 2, constantValue := 0 }, { name := "MIN_TRY_MERGE_SIZE", type := .int, accessFlags := 26, slot := 3, constantValue := 0 }, { name := "MIN_FIRST_RUN_SIZE", type := .int, accessFlags := 26, slot := 4, constantValue := 0 }, { name := "MIN_FIRST_RUNS_FACTOR", type := .int, accessFlags := 26, slot := 5, constantValue := 0 }, { name := "MAX_RUN_CAPACITY", type := .int, accessFlags := 26, slot := 6, constantValue := 0 }, { name := "MIN_RUN_COUNT", type := .int, accessFlags := 26, slot := 7, constantValue := 0 }, { name := "MIN_PARALLEL_MERGE_PARTS_SIZE", type := .int, accessFlags := 26, slot := 8, constantValue := 0 }, { name := "MIN_BYTE_COUNTING_SORT_SIZE", type := .int, accessFlags := 26, slot := 9, constantValue := 0 }, { name := "MIN_SHORT_OR_CHAR_COUNTING_SORT_SIZE", type := .int, accessFlags := 26, slot := 10, constantValue := 0 }, { name := "DELTA", type := .int, accessFlags := 26, slot := 11, constantValue := 0 }, { name := "MAX_RECURSION_DEPTH", type := .int, accessFlags := 26, slot := 12, constantValue := 0 }, { name := "NUM_BYTE_VALUES", type := .int, accessFlags := 26, slot := 13, constantValue := 0 }, { name := "MAX_BYTE_INDEX", type := .int, accessFlags := 26, slot := 14, constantValue := 0 }, { name := "NUM_CHAR_VALUES", type := .int, accessFlags := 26, slot := 15, constantValue := 0 }, { name := "NUM_SHORT_VALUES", type := .int, accessFlags := 26, slot := 16, constantValue := 0 }, { name := "MAX_SHORT_INDEX", type := .int, accessFlags := 26, slot := 17, constantValue := 0 }]
  methods := #[k6m0, k6m1, k6m2, k6m3]
  instanceTypes := #[]
  staticTypes := #[.int, .int, .int, .int, .int, .int, .int, .int, .int, .int, .int, .int, .int, .int, .int, .int, .int, .int]
  resolved := Array.replicate 331 none
  statics := none }

def pool7 : Array CpInfo := pool [(1, .methodref 2 3), (0, .class_ 4), (0, .nameAndType 5 6), (0, u "java/lang/Object"), (0, u "<init>"), (0, u "()V"), (0, .fieldref 8 9), (0, .class_ 10), (0, .nameAndType 11 12), (0, u "com/example/salish/salish/regex/CodePointSet"), (0, u "bounds"), (0, u "[I"), (0, .class_ 14), (0, u "com/example/salish/salish/regex/CodePointSet$Builder"), (11, u "rangeCount"), (0, u "()I"), (2, u "first"), (0, u "(I)I"), (2, u "last"), (8, .class_ 45), (1, u "com/example/salish/salish/regex/CodePointSet$Cases"), (21, u "([I)V")] 17

def k7c0 : Code := { maxStack := 2, maxLocals := 2, code := prog_16_method_1_code, exceptionTable := #[], attributes := #[] }
def k7m0 : Method := { name := "<init>", desc := "([I)V", sig := { parameters := [(.array .int)], returnType := none }, accessFlags := 2, code := some k7c0 }
def k7c1 : Code := { maxStack := 2, maxLocals := 1, code := prog_16_method_5_code, exceptionTable := #[], attributes := #[] }
def k7m1 : Method := { name := "rangeCount", desc := "()I", sig := { parameters := [], returnType := some .int }, accessFlags := 0, code := some k7c1 }
def k7c2 : Code := { maxStack := 3, maxLocals := 2, code := prog_16_method_6_code, exceptionTable := #[], attributes := #[] }
def k7m2 : Method := { name := "first", desc := "(I)I", sig := { parameters := [.int], returnType := some .int }, accessFlags := 0, code := some k7c2 }
def k7c3 : Code := { maxStack := 3, maxLocals := 2, code := prog_16_method_7_code, exceptionTable := #[], attributes := #[] }
def k7m3 : Method := { name := "last", desc := "(I)I", sig := { parameters := [.int], returnType := some .int }, accessFlags := 0, code := some k7c3 }
/-- com/example/salish/salish/regex/CodePointSet -/
def k7 : Class := { plain "com/example/salish/salish/regex/CodePointSet" (some 0) with
  accessFlags := 48
  interfaces := #[]
  cf := some (fileOf pool7 8 #[.nestMembers #[13, 43]] #[{ accessFlags := 2, nameIndex := 5, descriptorIndex := 67, attributes := #[] }, { accessFlags := 0, nameIndex := 26, descriptorIndex := 27, attributes := #[] }, { accessFlags := 0, nameIndex := 30, descriptorIndex := 31, attributes := #[] }, { accessFlags := 0, nameIndex := 34, descriptorIndex := 31, attributes := #[] }] 48 2 #[] #[{ accessFlags := 18, nameIndex := 11, descriptorIndex := 12, attributes := #[] }])
  fields := #[{ name := "bounds", type := (.array .int), accessFlags := 18, slot := 0, constantValue := 0 }]
  methods := #[k7m0, k7m1, k7m2, k7m3]
  instanceTypes := #[(.array .int)]
  staticTypes := #[]
  resolved := Array.replicate 85 none
  statics := none }

def pool8 : Array CpInfo := pool [(1, .class_ 2), (0, u "java/lang/Cloneable"), (0, .class_ 4), (0, u "java/lang/Object")] 2

/-- java/lang/Cloneable -/
def k8 : Class := { plain "java/lang/Cloneable" (some 0) with
  accessFlags := 1537
  interfaces := #[]
  cf := some (fileOf pool8 1 #[] #[] 1537 3 #[] #[])
  fields := #[]
  methods := #[]
  instanceTypes := #[]
  staticTypes := #[]
  resolved := Array.replicate 7 none
  statics := none }

def pool9 : Array CpInfo := pool [(1, u "java/io/Serializable"), (0, .class_ 1), (0, u "java/lang/Object"), (0, .class_ 3)] 3

/-- java/io/Serializable -/
def k9 : Class := { plain "java/io/Serializable" (some 0) with
  accessFlags := 1537
  interfaces := #[]
  cf := some (fileOf pool9 2 #[] #[] 1537 4 #[] #[])
  fields := #[]
  methods := #[]
  instanceTypes := #[]
  staticTypes := #[]
  resolved := Array.replicate 8 none
  statics := none }

/-- the primitive byte -/
def k10 : Class := { plain "byte" none with kind := .primitive 'B', accessFlags := 0x411 }
/-- [B -/
def k11 : Class := { plain "[B" (some 0) with kind := .array 10 .byte, interfaces := #[8, 9], accessFlags := 1041 }

/-- the primitive int -/
def k12 : Class := { plain "int" none with kind := .primitive 'I', accessFlags := 0x411 }
/-- [I -/
def k13 : Class := { plain "[I" (some 0) with kind := .array 12 .int, interfaces := #[8, 9], accessFlags := 1041 }

/-- the primitive long -/
def k14 : Class := { plain "long" none with kind := .primitive 'J', accessFlags := 0x411 }
/-- [J -/
def k15 : Class := { plain "[J" (some 0) with kind := .array 14 .long, interfaces := #[8, 9], accessFlags := 1041 }

def heap : Heap := #[]
def classes : Array Class := #[k0, k1, k2, k3, k4, k5, k6, k7, k8, k9, k10, k11, k12, k13, k14, k15]
def interned : List (Array UInt16 × Addr) := []
def slotsUsed : Nat := 0
def theMethod : MethodId := ⟨1, 2⟩
def args0 : Array Value := #[.int 3, .int 5, .int 10, .int 12, .int 1]
def aboutOver (below : List Frame) : State where
  vm := { classes := classes, interned := interned.toArray }
  heap := heap
  slotsUsed := slotsUsed
  threads := #[{ frames := .invoking theMethod args0 :: below }]
def below0 : List Frame := [.native { method := ⟨0, 0⟩, args := #[] }]
def about1 : State := aboutOver below0
def p0 : Program := .bare "" "" ""
def e0 : Env := launch0.env 0 0 0
theorem w_frames : about1.frames = Frame.invoking theMethod args0 :: below0 := rfl
set_option maxRecDepth 65536 in
theorem w_args : argsFit about1.vm theMethod args0 = true := by decide +kernel
set_option maxRecDepth 65536 in
theorem w_heap : heapFits about1 = true := by decide +kernel
set_option maxRecDepth 65536 in
theorem w_runnable : about1.curStatus? = some .runnable := by decide +kernel
set_option maxRecDepth 65536 in
theorem w_alone : about1.alone = true := by decide +kernel
set_option maxRecDepth 65536 in
theorem w_named : about1.methodNamed? x = some theMethod := by decide +kernel
set_option maxRecDepth 65536 in
theorem w_hears : about1.hears theMethod below0 = true := by decide +kernel
set_option maxRecDepth 65536 in
theorem w_ripe : about1.ripe theMethod args0 below0 = true := by decide +kernel
theorem w_running : about1.status = .running := rfl
set_option maxRecDepth 65536 in
theorem w_room : about1.hasRoom e0.platform room_1 = true :=
  launch0.hasRoom_least _ room_1 (by decide +kernel) (by decide +kernel) (by decide +kernel) (by decide +kernel) (by decide +kernel) (by decide +kernel)
theorem allAtoms_all (ts : List Jvm.Cond) (a : Array Jvm.Value) (st : Jvm.State) : (allAtoms ts).before a st = ts.all (fun c => c.before a st) := by
  induction ts with
  | nil => rfl
  | cons c t ih =>
    show (Jvm.Cond.and c (allAtoms t)).before a st = _
    rw [Jvm.Cond.before_and, ih, List.all_cons]
def words1 : List Jvm.Cond := Jvm.Cond.code x code maxLocals ret :: tables_1
/-- a 'code' word, met by the world's own term for the bytes: nothing is compared byte by byte -/
theorem code_word {y : MethodName} {bytes : ByteArray} {mx : Nat} {rt : Option FieldType} {a : Array Value} {s : State} {m : MethodId} {meth : Method} {c : Code} (h1 : s.methodNamed? y = some m) (h2 : s.vm.method? m = some meth) (h3 : meth.code = some c) (h4 : c.code = bytes)
    (h5 : (c.maxLocals == mx && c.exceptionTable.isEmpty && decide (c.maxStack ≤ mostOperands) && decide (meth.sig.returnType = rt) && !meth.locks && decide (parseMethodDescriptor y.desc = some meth.sig)) = true) : (Jvm.Cond.code y bytes mx rt).before a s = true := by
  simp only [Bool.and_eq_true, beq_iff_eq, Bool.not_eq_true', decide_eq_true_eq] at h5
  obtain ⟨⟨⟨⟨⟨g1, g2⟩, g3⟩, g4⟩, g5⟩, g6⟩ := h5
  simp [Cond.before, Cond.holds, Cond.value, h1, h2, h3, h4, g1, g2, g3, g4, g5, g6]
def isCode : Jvm.Cond → Bool
  | .code _ _ _ _ => true
  | _ => false
theorem all_split {L : List Jvm.Cond} {P : Jvm.Cond → Bool} (h1 : L.all (fun c => isCode c || P c) = true) (h2 : ∀ c ∈ L.filter isCode, P c = true) : L.all P = true := by
  refine List.all_eq_true.mpr fun c hc => ?_
  have h := List.all_eq_true.mp h1 c hc
  rcases Bool.eq_false_or_eq_true (isCode c) with hi | hi
  · exact h2 c (List.mem_filter.mpr ⟨hc, hi⟩)
  · simpa [hi] using h
set_option maxRecDepth 65536 in
theorem w_c0 : (Jvm.Cond.code x code maxLocals ret).before args0 about1 = true := code_word (m := ⟨1, 2⟩) (meth := k1m2) (c := k1c2) (by decide +kernel) rfl rfl rfl (by decide +kernel)
set_option maxRecDepth 65536 in
theorem w_c1 : (Jvm.Cond.code ({ cls := "com/example/salish/salish/regex/BuilderAddPinLaw", name := "cp", desc := "(II)I" } : Jvm.MethodName) method_2_code (4 : Nat) (Option.some Jvm.ClassFile.FieldType.int)).before args0 about1 = true := code_word (m := ⟨1, 1⟩) (meth := k1m1) (c := k1c1) (by decide +kernel) rfl rfl rfl (by decide +kernel)
set_option maxRecDepth 65536 in
theorem w_c2 : (Jvm.Cond.code ({ cls := "java/lang/Math", name := "min", desc := "(II)I" } : Jvm.MethodName) jdk_29_method_69_code (2 : Nat) (Option.some Jvm.ClassFile.FieldType.int)).before args0 about1 = true := code_word (m := ⟨2, 2⟩) (meth := k2m2) (c := k2c2) (by decide +kernel) rfl rfl rfl (by decide +kernel)
set_option maxRecDepth 65536 in
theorem w_c3 : (Jvm.Cond.code ({ cls := "java/lang/Math", name := "max", desc := "(II)I" } : Jvm.MethodName) jdk_29_method_65_code (2 : Nat) (Option.some Jvm.ClassFile.FieldType.int)).before args0 about1 = true := code_word (m := ⟨2, 1⟩) (meth := k2m1) (c := k2c1) (by decide +kernel) rfl rfl rfl (by decide +kernel)
set_option maxRecDepth 65536 in
theorem w_c4 : (Jvm.Cond.code ({ cls := "com/example/salish/salish/regex/CodePointSet$Builder", name := "<init>", desc := "()V" } : Jvm.MethodName) prog_17_method_1_code (1 : Nat) (Option.none : Option Jvm.ClassFile.FieldType)).before args0 about1 = true := code_word (m := ⟨3, 0⟩) (meth := k3m0) (c := k3c0) (by decide +kernel) rfl rfl rfl (by decide +kernel)
set_option maxRecDepth 65536 in
theorem w_c5 : (Jvm.Cond.code ({ cls := "java/lang/Object", name := "<init>", desc := "()V" } : Jvm.MethodName) object_method_1_code (1 : Nat) (Option.none : Option Jvm.ClassFile.FieldType)).before args0 about1 = true := code_word (m := ⟨0, 0⟩) (meth := k0m0) (c := k0c0) (by decide +kernel) rfl rfl rfl (by decide +kernel)
set_option maxRecDepth 65536 in
theorem w_c6 : (Jvm.Cond.code ({ cls := "com/example/salish/salish/regex/CodePointSet$Builder", name := "add", desc := "(II)Lcom/example/salish/salish/regex/CodePointSet$Builder;" } : Jvm.MethodName) prog_17_method_2_code (3 : Nat) (Option.some (Jvm.ClassFile.FieldType.object "com/example/salish/salish/regex/CodePointSet$Builder"))).before args0 about1 = true := code_word (m := ⟨3, 1⟩) (meth := k3m1) (c := k3c1) (by decide +kernel) rfl rfl rfl (by decide +kernel)
set_option maxRecDepth 65536 in
theorem w_c7 : (Jvm.Cond.code ({ cls := "com/example/salish/salish/regex/CodePointSet$Builder", name := "build", desc := "()Lcom/example/salish/salish/regex/CodePointSet;" } : Jvm.MethodName) prog_17_method_4_code (11 : Nat) (Option.some (Jvm.ClassFile.FieldType.object "com/example/salish/salish/regex/CodePointSet"))).before args0 about1 = true := code_word (m := ⟨3, 2⟩) (meth := k3m2) (c := k3c2) (by decide +kernel) rfl rfl rfl (by decide +kernel)
set_option maxRecDepth 65536 in
theorem w_c8 : (Jvm.Cond.code ({ cls := "java/util/Arrays", name := "copyOf", desc := "([JI)[J" } : Jvm.MethodName) jdk_65_method_124_code (3 : Nat) (Option.some (Jvm.ClassFile.FieldType.array Jvm.ClassFile.FieldType.long))).before args0 about1 = true := code_word (m := ⟨4, 3⟩) (meth := k4m3) (c := k4c3) (by decide +kernel) rfl rfl rfl (by decide +kernel)
set_option maxRecDepth 65536 in
theorem w_c9 : (Jvm.Cond.code ({ cls := "java/util/Arrays", name := "sort", desc := "([J)V" } : Jvm.MethodName) jdk_65_method_4_code (1 : Nat) (Option.none : Option Jvm.ClassFile.FieldType)).before args0 about1 = true := code_word (m := ⟨4, 1⟩) (meth := k4m1) (c := k4c1) (by decide +kernel) rfl rfl rfl (by decide +kernel)
set_option maxRecDepth 65536 in
theorem w_c10 : (Jvm.Cond.code ({ cls := "java/util/DualPivotQuicksort", name := "sort", desc := "([JIII)V" } : Jvm.MethodName) jdk_2529_method_12_code (7 : Nat) (Option.none : Option Jvm.ClassFile.FieldType)).before args0 about1 = true := code_word (m := ⟨6, 1⟩) (meth := k6m1) (c := k6c1) (by decide +kernel) rfl rfl rfl (by decide +kernel)
set_option maxRecDepth 65536 in
theorem w_c11 : (Jvm.Cond.code ({ cls := "java/util/DualPivotQuicksort", name := "sort", desc := "(Ljava/util/DualPivotQuicksort$Sorter;[JIII)V" } : Jvm.MethodName) jdk_2529_method_13_code (25 : Nat) (Option.none : Option Jvm.ClassFile.FieldType)).before args0 about1 = true := code_word (m := ⟨6, 2⟩) (meth := k6m2) (c := k6c2) (by decide +kernel) rfl rfl rfl (by decide +kernel)
set_option maxRecDepth 65536 in
theorem w_c12 : (Jvm.Cond.code ({ cls := "java/util/DualPivotQuicksort", name := "insertionSort", desc := "([JII)V" } : Jvm.MethodName) jdk_2529_method_15_code (7 : Nat) (Option.none : Option Jvm.ClassFile.FieldType)).before args0 about1 = true := code_word (m := ⟨6, 3⟩) (meth := k6m3) (c := k6c3) (by decide +kernel) rfl rfl rfl (by decide +kernel)
set_option maxRecDepth 65536 in
theorem w_c13 : (Jvm.Cond.code ({ cls := "java/util/Arrays", name := "copyOf", desc := "([II)[I" } : Jvm.MethodName) jdk_65_method_123_code (3 : Nat) (Option.some (Jvm.ClassFile.FieldType.array Jvm.ClassFile.FieldType.int))).before args0 about1 = true := code_word (m := ⟨4, 2⟩) (meth := k4m2) (c := k4c2) (by decide +kernel) rfl rfl rfl (by decide +kernel)
set_option maxRecDepth 65536 in
theorem w_c14 : (Jvm.Cond.code ({ cls := "com/example/salish/salish/regex/CodePointSet", name := "<init>", desc := "([I)V" } : Jvm.MethodName) prog_16_method_1_code (2 : Nat) (Option.none : Option Jvm.ClassFile.FieldType)).before args0 about1 = true := code_word (m := ⟨7, 0⟩) (meth := k7m0) (c := k7c0) (by decide +kernel) rfl rfl rfl (by decide +kernel)
set_option maxRecDepth 65536 in
theorem w_c15 : (Jvm.Cond.code ({ cls := "com/example/salish/salish/regex/CodePointSet", name := "rangeCount", desc := "()I" } : Jvm.MethodName) prog_16_method_5_code (1 : Nat) (Option.some Jvm.ClassFile.FieldType.int)).before args0 about1 = true := code_word (m := ⟨7, 1⟩) (meth := k7m1) (c := k7c1) (by decide +kernel) rfl rfl rfl (by decide +kernel)
set_option maxRecDepth 65536 in
theorem w_c16 : (Jvm.Cond.code ({ cls := "com/example/salish/salish/regex/CodePointSet", name := "first", desc := "(I)I" } : Jvm.MethodName) prog_16_method_6_code (2 : Nat) (Option.some Jvm.ClassFile.FieldType.int)).before args0 about1 = true := code_word (m := ⟨7, 2⟩) (meth := k7m2) (c := k7c2) (by decide +kernel) rfl rfl rfl (by decide +kernel)
set_option maxRecDepth 65536 in
theorem w_c17 : (Jvm.Cond.code ({ cls := "com/example/salish/salish/regex/CodePointSet", name := "last", desc := "(I)I" } : Jvm.MethodName) prog_16_method_7_code (2 : Nat) (Option.some Jvm.ClassFile.FieldType.int)).before args0 about1 = true := code_word (m := ⟨7, 3⟩) (meth := k7m3) (c := k7c3) (by decide +kernel) rfl rfl rfl (by decide +kernel)
def codes1 : List Jvm.Cond := [Jvm.Cond.code x code maxLocals ret, Jvm.Cond.code ({ cls := "com/example/salish/salish/regex/BuilderAddPinLaw", name := "cp", desc := "(II)I" } : Jvm.MethodName) method_2_code (4 : Nat) (Option.some Jvm.ClassFile.FieldType.int), Jvm.Cond.code ({ cls := "java/lang/Math", name := "min", desc := "(II)I" } : Jvm.MethodName) jdk_29_method_69_code (2 : Nat) (Option.some Jvm.ClassFile.FieldType.int), Jvm.Cond.code ({ cls := "java/lang/Math", name := "max", desc := "(II)I" } : Jvm.MethodName) jdk_29_method_65_code (2 : Nat) (Option.some Jvm.ClassFile.FieldType.int), Jvm.Cond.code ({ cls := "com/example/salish/salish/regex/CodePointSet$Builder", name := "<init>", desc := "()V" } : Jvm.MethodName) prog_17_method_1_code (1 : Nat) (Option.none : Option Jvm.ClassFile.FieldType), Jvm.Cond.code ({ cls := "java/lang/Object", name := "<init>", desc := "()V" } : Jvm.MethodName) object_method_1_code (1 : Nat) (Option.none : Option Jvm.ClassFile.FieldType), Jvm.Cond.code ({ cls := "com/example/salish/salish/regex/CodePointSet$Builder", name := "add", desc := "(II)Lcom/example/salish/salish/regex/CodePointSet$Builder;" } : Jvm.MethodName) prog_17_method_2_code (3 : Nat) (Option.some (Jvm.ClassFile.FieldType.object "com/example/salish/salish/regex/CodePointSet$Builder")), Jvm.Cond.code ({ cls := "com/example/salish/salish/regex/CodePointSet$Builder", name := "build", desc := "()Lcom/example/salish/salish/regex/CodePointSet;" } : Jvm.MethodName) prog_17_method_4_code (11 : Nat) (Option.some (Jvm.ClassFile.FieldType.object "com/example/salish/salish/regex/CodePointSet")), Jvm.Cond.code ({ cls := "java/util/Arrays", name := "copyOf", desc := "([JI)[J" } : Jvm.MethodName) jdk_65_method_124_code (3 : Nat) (Option.some (Jvm.ClassFile.FieldType.array Jvm.ClassFile.FieldType.long)), Jvm.Cond.code ({ cls := "java/util/Arrays", name := "sort", desc := "([J)V" } : Jvm.MethodName) jdk_65_method_4_code (1 : Nat) (Option.none : Option Jvm.ClassFile.FieldType), Jvm.Cond.code ({ cls := "java/util/DualPivotQuicksort", name := "sort", desc := "([JIII)V" } : Jvm.MethodName) jdk_2529_method_12_code (7 : Nat) (Option.none : Option Jvm.ClassFile.FieldType), Jvm.Cond.code ({ cls := "java/util/DualPivotQuicksort", name := "sort", desc := "(Ljava/util/DualPivotQuicksort$Sorter;[JIII)V" } : Jvm.MethodName) jdk_2529_method_13_code (25 : Nat) (Option.none : Option Jvm.ClassFile.FieldType), Jvm.Cond.code ({ cls := "java/util/DualPivotQuicksort", name := "insertionSort", desc := "([JII)V" } : Jvm.MethodName) jdk_2529_method_15_code (7 : Nat) (Option.none : Option Jvm.ClassFile.FieldType), Jvm.Cond.code ({ cls := "java/util/Arrays", name := "copyOf", desc := "([II)[I" } : Jvm.MethodName) jdk_65_method_123_code (3 : Nat) (Option.some (Jvm.ClassFile.FieldType.array Jvm.ClassFile.FieldType.int)), Jvm.Cond.code ({ cls := "com/example/salish/salish/regex/CodePointSet", name := "<init>", desc := "([I)V" } : Jvm.MethodName) prog_16_method_1_code (2 : Nat) (Option.none : Option Jvm.ClassFile.FieldType), Jvm.Cond.code ({ cls := "com/example/salish/salish/regex/CodePointSet", name := "rangeCount", desc := "()I" } : Jvm.MethodName) prog_16_method_5_code (1 : Nat) (Option.some Jvm.ClassFile.FieldType.int), Jvm.Cond.code ({ cls := "com/example/salish/salish/regex/CodePointSet", name := "first", desc := "(I)I" } : Jvm.MethodName) prog_16_method_6_code (2 : Nat) (Option.some Jvm.ClassFile.FieldType.int), Jvm.Cond.code ({ cls := "com/example/salish/salish/regex/CodePointSet", name := "last", desc := "(I)I" } : Jvm.MethodName) prog_16_method_7_code (2 : Nat) (Option.some Jvm.ClassFile.FieldType.int)]
set_option maxRecDepth 65536 in
theorem codes_eq : words1.filter isCode = codes1 := rfl
theorem w_codes : ∀ c ∈ words1.filter isCode, c.before args0 about1 = true := by
  rw [codes_eq]
  intro c hc
  simp only [codes1, List.mem_cons, List.not_mem_nil, or_false] at hc
  rcases hc with rfl | rfl | rfl | rfl | rfl | rfl | rfl | rfl | rfl | rfl | rfl | rfl | rfl | rfl | rfl | rfl | rfl | rfl
  · exact w_c0
  · exact w_c1
  · exact w_c2
  · exact w_c3
  · exact w_c4
  · exact w_c5
  · exact w_c6
  · exact w_c7
  · exact w_c8
  · exact w_c9
  · exact w_c10
  · exact w_c11
  · exact w_c12
  · exact w_c13
  · exact w_c14
  · exact w_c15
  · exact w_c16
  · exact w_c17
set_option maxRecDepth 65536 in
theorem w_t1 : (words1.take 24).all (fun c => isCode c || c.before args0 about1) = true := by decide +kernel
set_option maxRecDepth 65536 in
theorem w_t2 : ((words1.drop 24).take 24).all (fun c => isCode c || c.before args0 about1) = true := by decide +kernel
set_option maxRecDepth 65536 in
theorem w_t3 : (((words1.drop 24).drop 24).take 24).all (fun c => isCode c || c.before args0 about1) = true := by decide +kernel
set_option maxRecDepth 65536 in
theorem w_t4 : ((((words1.drop 24).drop 24).drop 24).take 24).all (fun c => isCode c || c.before args0 about1) = true := by decide +kernel
set_option maxRecDepth 65536 in
theorem w_t5 : ((((words1.drop 24).drop 24).drop 24).drop 24).all (fun c => isCode c || c.before args0 about1) = true := by decide +kernel
theorem w_tables : (allAtoms (Jvm.Cond.code x code maxLocals ret :: tables_1)).before args0 about1 = true := by
  rw [allAtoms_all]
  show words1.all (fun c => c.before args0 about1) = true
  refine all_split ?_ w_codes
  rw [← List.take_append_drop 24 words1, List.all_append, w_t1, ← List.take_append_drop 24 (words1.drop 24), List.all_append, w_t2, ← List.take_append_drop 24 ((words1.drop 24).drop 24), List.all_append, w_t3, ← List.take_append_drop 24 (((words1.drop 24).drop 24).drop 24), List.all_append, w_t4, w_t5]
  rfl
set_option maxRecDepth 65536 in
theorem w_case : (Jvm.Cond.and given_1 narrow_1).before args0 about1 = true := by decide +kernel
theorem w_applies : (headSpec (Jvm.Cond.code x code maxLocals ret :: tables_1) room_1).applies x e0.platform about1 = true :=
  (Spec.applies_iff w_frames).mpr ⟨w_running, w_runnable, w_alone, w_named, w_hears, w_ripe, w_room, w_tables⟩
theorem atStart : AtStart classFile x code maxLocals ret World_1 tables_1 room_1 Calls_1 rest_1 Pre_1 launch0 p0 e0 about1 theMethod args0 below0 :=
  ⟨lists_1, trivial, launch0.admits_env _ _ _, launch0.least_env, fairChoices_fair.cas, fairChoices_fair.clock, w_frames, w_args, w_heap, w_applies, trivial, trivial, w_case⟩
end start1
theorem witness_1 : WitnessClaimed_1 := ⟨start1.p0, start1.e0, start1.about1, start1.theMethod, start1.args0, start1.below0, start1.atStart⟩
end Jvm.Pilot.@@N@@
