import JvmDerived
import JvmDerived.Pilot.@@N@@Statement
import JvmDerived.Pilot.@@N@@Code
set_option linter.unusedVariables false
set_option linter.unusedSimpArgs false
namespace Jvm.Pilot.@@N@@
open Jvm Jvm.ClassFile Sem Op Lib Jvm.Free Jvm.Stand Jvm.LawKit Jvm.RoadKit Bundle Jvm.Pilot.@@N@@.Jvm.D
section Own
variable {p : Program} {l : Launch} {e : Env} {R : Room} {s : State} {m : MethodId} {args : Array Value} {below : List Frame} {meth : Method} {c : Code} {T : State} {locs : List Loc} {cells slots : Nat} {P : Option Value → Heap → List Loc → Prop} {kk nn : Nat}
/-- from U a run comes to an end at which P holds, within kk cells and nn slots -/
def Go (p : Program) (e : Env) (below : List Frame) (s : State) (P : Option Value → Heap → List Loc → Prop) (kk nn : Nat) (U : State) : Prop :=
  ∃ s₂ o, Steps p.tables e below U s₂ ∧ s₂.status = .running ∧ Ended s₂ below o ∧ ∃ v L, o = .returned v ∧ P v s₂.heap L ∧ FrameEnd s o s₂ L kk nn
theorem Go.pull {U V : State} (h : ∀ t, Steps p.tables e below V t → Steps p.tables e below U t) (g : Go p e below s P kk nn V) : Go p e below s P kk nn U := by
  obtain ⟨s2, o, h1, h2⟩ := g
  exact ⟨s2, o, h _ h1, h2⟩
theorem Go.fin (X : Stand p l e R s m args below meth c T locs cells slots) {f : JFrame} {v : Option Value} (hlk : meth.locks = false) (hv : meth.sig.returnType = none → v = none)
    (hs : ∀ fs, (∀ (f : JFrame) (acts : List Action), f.method = m → f.locked = none → f.entered = [] → (doReturn e (T.setTop f) acts v).1 = T.setFrames fs) → Steps p.tables e below (T.setTop f) (T.setFrames fs))
    (hP : P v T.heap locs) (hk : cells ≤ kk) (hn : slots ≤ nn) : Go p e below s P kk nn (T.setTop f) := by
  obtain ⟨fs, hr, hrun, hended, hW, hsame⟩ := X.leave (v := v) hv hlk
  exact ⟨_, _, hs fs hr, hrun, hended, _, _, rfl, hP, ⟨_, rfl⟩, hW, hsame.mono hk hn⟩
theorem Go.retN (X : Stand p l e R s m args below meth c T locs cells slots) (hx : p.tables.exec = Jvm.exec) (hlk : meth.locks = false) {pc : Nat} {Ls : Array Slot} {z : Int32} {t : FieldType} {rest : List Value} (hret : meth.sig.returnType = some t) (ht : t = .boolean ∨ t = .byte ∨ t = .char ∨ t = .short)
    (hd : decode c.code pc = .ok (.ireturn, 1)) (hP : P (some (.int (nar t z))) T.heap locs) (hk : cells ≤ kk) (hn : slots ≤ nn) : Go p e below s P kk nn (T.setTop (mkF m pc Ls (.int z :: rest))) :=
  Go.fin X hlk (fun h => by rw [hret] at h; cases h) (fun fs hr => RoadKit.retN X hx hret ht hd hr) hP hk hn
theorem Go.retI (X : Stand p l e R s m args below meth c T locs cells slots) (hx : p.tables.exec = Jvm.exec) (hlk : meth.locks = false) {pc : Nat} {Ls : Array Slot} {z : Int32} {rest : List Value} (hret : meth.sig.returnType = some .int)
    (hd : decode c.code pc = .ok (.ireturn, 1)) (hP : P (some (.int z)) T.heap locs) (hk : cells ≤ kk) (hn : slots ≤ nn) : Go p e below s P kk nn (T.setTop (mkF m pc Ls (.int z :: rest))) :=
  Go.fin X hlk (fun h => by rw [hret] at h; cases h) (fun fs hr => retOut X hx hret rfl (Or.inl ⟨rfl, Or.inl rfl, z, rfl⟩) hd hr) hP hk hn
theorem Go.retJ (X : Stand p l e R s m args below meth c T locs cells slots) (hx : p.tables.exec = Jvm.exec) (hlk : meth.locks = false) {pc : Nat} {Ls : Array Slot} {z : Int64} {rest : List Value} (hret : meth.sig.returnType = some .long)
    (hd : decode c.code pc = .ok (.lreturn, 1)) (hP : P (some (.long z)) T.heap locs) (hk : cells ≤ kk) (hn : slots ≤ nn) : Go p e below s P kk nn (T.setTop (mkF m pc Ls (.long z :: rest))) :=
  Go.fin X hlk (fun h => by rw [hret] at h; cases h) (fun fs hr => retOut X hx hret rfl (Or.inr (Or.inl ⟨rfl, rfl, z, rfl⟩)) hd hr) hP hk hn
theorem Go.retR (X : Stand p l e R s m args below meth c T locs cells slots) (hx : p.tables.exec = Jvm.exec) (hlk : meth.locks = false) {pc : Nat} {Ls : Array Slot} {w : Value} {t : FieldType} {rest : List Value} (hret : meth.sig.returnType = some t) (hna : narrow t w = w) (ht : t.isReference = true) (hw : w.isRef = true)
    (hd : decode c.code pc = .ok (.areturn, 1)) (hP : P (some w) T.heap locs) (hk : cells ≤ kk) (hn : slots ≤ nn) : Go p e below s P kk nn (T.setTop (mkF m pc Ls (w :: rest))) :=
  Go.fin X hlk (fun h => by rw [hret] at h; cases h) (fun fs hr => retOut X hx hret hna (Or.inr (Or.inr (Or.inr (Or.inr ⟨rfl, ht, hw⟩)))) hd hr) hP hk hn
theorem Go.ret0 (X : Stand p l e R s m args below meth c T locs cells slots) (hx : p.tables.exec = Jvm.exec) (hlk : meth.locks = false) {pc : Nat} {Ls : Array Slot} (hret : meth.sig.returnType = none)
    (hd : decode c.code pc = .ok (.return_, 1)) (hP : P none T.heap locs) (hk : cells ≤ kk) (hn : slots ≤ nn) : Go p e below s P kk nn (T.setTop (mkF m pc Ls [])) :=
  Go.fin X hlk (fun _ => rfl) (fun fs hr => X.returnOut hx hret hd hr) hP hk hn
theorem own_lsw {tb : Tables} [Ours tb] {e : Env} {below : List Frame} {T target : State} {m : MethodId} {c : Code} {g : JFrame} (h : At T m c below) (hx : tb.exec = Jvm.exec) (hg : g.method = m) {dflt : Int} {prs : Array (Int × Int)} {len : Nat} {o : Int} {pc0 pc' : Nat} (hpc : g.pc = pc0)
    (hd : decode c.code g.pc = .ok (.lookupswitch dflt prs, len)) {i : Int32} {rest : List Value} (hs : g.stack = .int i :: rest) (hord : (prs.toList.zip (prs.toList.drop 1)).all (fun (a, next) => a.1 < next.1) = true) (hoff : lookupswitch.offset prs.toList dflt i.toInt = o)
    (ho : 0 ≤ (pc0 : Int) + o) (hp : ((pc0 : Int) + o).toNat = pc') (hr : Steps tb e below (T.setTop { g with pc := pc', stack := rest }) target) : Steps tb e below (T.setTop g) target := by
  subst hg hpc hp hoff
  jvm_step h [h.top, hx, hd, hs, ho, lookupswitch.wp_chain]
  exact ⟨by simpa using hord, hr⟩
theorem own_eq_i {t : Term} {n : Int32} {first : State} {o : Option Outcome} {idx : List Nat} (h : (Cond.eq t (.int n)).value args first o s idx = some true) : t.eval args first o idx s = some (.int n) := by
  obtain ⟨x, y, e1, e2, k1, k2⟩ := cmp_v (Or.inl h)
  cases (Term.int_eval n).symm.trans e2
  obtain ⟨z, rfl⟩ : ∃ z, x = .int z := k2
  rw [e1, gotT (Cond.eq_ints e1 e2) h]
theorem own_eq_l {t : Term} {n : Int64} {first : State} {o : Option Outcome} {idx : List Nat} (h : (Cond.eq t (.long n)).value args first o s idx = some true) : t.eval args first o idx s = some (.long n) := by
  obtain ⟨x, y, e1, e2, k1, k2⟩ := cmp_v (Or.inl h)
  have e3 : (Term.long n).eval args first o idx s = some (.long n) := rfl
  cases e3.symm.trans e2
  obtain ⟨z, rfl⟩ : ∃ z, x = .long z := k2
  rw [e1, gotT (eq_L e1 e2) h]
theorem own_eq_r {t u : Term} {a : Addr} {first : State} {o : Option Outcome} {idx : List Nat} (hu : u.eval args first o idx s = some (.ref a)) (h : (Cond.eq t u).value args first o s idx = some true) : t.eval args first o idx s = some (.ref a) := by
  obtain ⟨x, y, e1, e2, k1, k2⟩ := cmp_v (Or.inl h)
  cases hu.symm.trans e2
  have k3 : (Value.ref a).isRef = true ∧ x.isRef = true := k2
  rw [e1, gotT (eq_R e1 e2 k3.2 rfl) h]
theorem own_sta_keep {Z : State} {h h' : Heap} {C n d : String} {w : Value} {ws : List Addr} (F : Sta Z h C n d w) (K : Keep h h' ws) (q : ∀ x ∈ ws, ∃ c : Cell, h[x]? = some c ∧ ∀ q, c.vm ≠ .statics q) : Sta Z h' C n d w := by
  obtain ⟨cf, i, k, f, st, cell, h1, h2, h3, h4, h5, h6, h7⟩ := F
  refine ⟨cf, i, k, f, st, cell, h1, h2, h3, h4, K.2.1 st cell h5 (fun hm => ?_), h6, h7⟩
  obtain ⟨c, hc, hq⟩ := q st hm
  cases h5.symm.trans hc
  cases hv : cell.vm with
  | statics r => exact hq r hv
  | _ => rw [hv] at h6; cases h6
end Own
theorem pd_0 : parseMethodDescriptor "()I" = some ⟨[], some .int⟩ := by decide +kernel
theorem pd_1 : parseMethodDescriptor "(C)Z" = some ⟨[.char], some .boolean⟩ := by decide +kernel
def own_dig (pch : Int32) : Int32 := if pch < 48 then 0 else if 57 < pch then 0 else 1
def own_let (pch : Int32) : Int32 := if pch < 65 then 0 else if 90 < pch then 0 else 1
def own_lod (pch : Int32) : Int32 := if pch < 48 then (if pch < 65 then 0 else if 90 < pch then 0 else 1) else if 57 < pch then (if pch < 65 then 0 else if 90 < pch then 0 else 1) else 1
theorem own_sub {c d n : Int32} (h : 0 ≤ c.toInt ∧ c.toInt < 65536) (hd : 0 ≤ d.toInt ∧ d.toInt < 100) : (c - d < n) ↔ c.toInt - d.toInt < n.toInt := by
  have := c_isub c d; have := rng32 (c - d); rw [Int32.lt_iff_toInt_lt]; constructor <;> intro <;> omega
theorem own_lt {c n : Int32} : (c < n) ↔ c.toInt < n.toInt := Int32.lt_iff_toInt_lt
theorem own_chr (x : Int32) : 0 ≤ (x.toUInt32.toUInt16.toUInt32.toInt32).toInt ∧ (x.toUInt32.toUInt16.toUInt32.toInt32).toInt < 65536 := by
  have h : (x.toUInt32.toUInt16.toUInt32.toInt32).toInt = (x.toUInt32.toUInt16.toNat : Int) := by
    have h2 : x.toUInt32.toUInt16.toUInt32.toInt32.toInt = x.toUInt32.toUInt16.toUInt32.toNat := by
      have h3 : x.toUInt32.toUInt16.toUInt32.toNat < 65536 := by rw [UInt16.toNat_toUInt32]; exact x.toUInt32.toUInt16.toNat_lt
      rw [Int32.toInt, BitVec.toInt_eq_toNat_of_lt]
      · rfl
      · show 2 * x.toUInt32.toUInt16.toUInt32.toNat < 2 ^ 32; omega
    rw [h2, UInt16.toNat_toUInt32]
  have := x.toUInt32.toUInt16.toNat_lt
  omega
theorem own_a {c d n k : Int32} (h : 0 ≤ c.toInt ∧ c.toInt < 65536) (hd : 0 ≤ d.toInt ∧ d.toInt < 100) (e : k.toInt = n.toInt + d.toInt) : (c - d < n) ↔ c < k := by
  rw [own_sub h hd, own_lt]; constructor <;> intro <;> omega
theorem own_b {c d n k : Int32} (h : 0 ≤ c.toInt ∧ c.toInt < 65536) (hd : 0 ≤ d.toInt ∧ d.toInt < 100) (e : k.toInt + 1 = n.toInt + d.toInt) : (c - d < n) ↔ ¬ k < c := by
  rw [own_sub h hd, own_lt]; constructor <;> intro <;> omega
theorem own_rem3 (x : Int32) {v : Int32} (h : ((x &&& (2147483647 : Int32)) % (3 : Int32)) = v) : v = 0 ∨ v = 1 ∨ v = 2 := by
  subst h
  have h0 : (x &&& (2147483647 : Int32)).toInt = x.toInt % (2 ^ 31 : Nat) := c_mask x 2147483647 31 (by decide) (by decide)
  have h1 : ((x &&& (2147483647 : Int32)) % (3 : Int32)).toInt = (x.toInt % (2 ^ 31 : Nat)) % 3 := by
    rw [← h0]; exact (c_irem _ _ 3 (by decide)).1 (by rw [h0]; omega)
  have h2 : (x.toInt % (2 ^ 31 : Nat)) % 3 = 0 ∨ (x.toInt % (2 ^ 31 : Nat)) % 3 = 1 ∨ (x.toInt % (2 ^ 31 : Nat)) % 3 = 2 := by omega
  rcases h2 with h2 | h2 | h2
  · exact (Or.inl (Int32.toInt_inj.mp (by rw [h1, h2] <;> rfl)))
  · exact (Or.inr (Or.inl (Int32.toInt_inj.mp (by rw [h1, h2] <;> rfl))))
  · exact (Or.inr (Or.inr (Int32.toInt_inj.mp (by rw [h1, h2] <;> rfl))))
theorem dO_0 : decode jdk_37_method_2_code 0 = .ok (.aload_n 0, 1) := by decide +kernel
theorem dO_1 : decode jdk_37_method_2_code 1 = .ok (.getfield 7, 3) := by decide +kernel
theorem dO_4 : decode jdk_37_method_2_code 4 = .ok (.ireturn, 1) := by decide +kernel
theorem efO (m : MethodId) (x0 : Addr) : entryFrame m #[(.ref x0)] 1 = mkF m 0 #[rv x0] [] := by first | (simp [entryFrame, mkF, argsToLocals, Value.category]; done) | rfl
theorem pn_java_lang_Enum : plainName "java/lang/Enum" = true := by first | (simp [plainName, overriddenIn]; done) | decide +kernel
def QO (Z : State) (a : Addr) (po : Int32) (h0 : Heap) (n0 : Nat) (v : Option Value) (h : Heap) (L : List Loc) : Prop := v = some (.int po) ∧ Fr n0 L ∧ h = h0
set_option maxRecDepth 65536 in
set_option maxHeartbeats 40000000 in
theorem rmO (l : Launch) (Z : State) (a0 : Array Value) (hw : ∀ d ∈ tables_1, d.before a0 Z = true) (ws : List Jvm.Cond) (a : Addr) (po : Int32) (h0 : Heap) (n0 : Nat) (Fo : Fld Z h0 a "java/lang/Enum" "ordinal" "I" (.int po)) :
    MetFree l (⟨"java/lang/Enum", "ordinal", "()I"⟩ : MethodName) (head1 (Jvm.Cond.code (⟨"java/lang/Enum", "ordinal", "()I"⟩ : MethodName) jdk_37_method_2_code 1 (some .int) :: ws) ({ frames := 0, cells := 0, slots := 0, locals := 0 } : Room)) (fun as' U => as' = #[(.ref a)] ∧ Z.Warmed39 U.vm ∧ U.heap = h0) (fun _ _ _ _ _ => True) (fun _ U o U' => ∃ v L, o = .returned v ∧ QO Z a po h0 n0 v U'.heap L ∧ FrameEnd U o U' L ({ frames := 0, cells := 0, slots := 0, locals := 0 } : Room).cells ({ frames := 0, cells := 0, slots := 0, locals := 0 } : Room).slots) := by
  refine MetFree.of_bodySF (plainFor_of_name pn_java_lang_Enum) hisR ?_
  intro p e s m args below meth c s₁ Bd hml0 hP hK
  obtain ⟨rfl, hZ, hh⟩ := hP
  have hx := Bd.exec
  have hby := Bd.bytes
  have hml : c.maxLocals = 1 := hml0
  have hown : s.vm.findClass "java/lang/Enum" = some m.cls := findClass_of_methodNamed Bd.named
  have hnm := (name_of_methodNamed Bd.named Bd.method).1
  have X0 : Stand p l e ({ frames := 0, cells := 0, slots := 0, locals := 0 } : Room) s m #[(.ref a)] below meth c s₁ [] 0 0 := Stand.of_body Bd
  have e0 : s₁.heap = h0 := by rw [← hh, Bd.state]; rfl
  have N0 := Fr.nil n0
  show Go p e below s (fun v h L => QO Z a po h0 n0 v h L) 0 0 _
  refine Go.pull (V := s₁.setTop (mkF m 0 #[rv a] [])) (fun t k => castTop (efO m a) k) ?_
  refine Go.pull (V := s₁.setTop (mkF m 1 #[rv a] [(.ref a)])) (fun t k => XS.aloadN X0.here hx rfl (hb hby dO_0) rfl rfl k) ?_
  obtain ⟨T1, X1, e1, st1⟩ := getF X0 hx hZ hown (host := "") (Or.inl (hw _ (List.mem_of_getElem? (i := 16) rfl))) Via.refl e0 Fo (g := (mkF m 1 #[rv a] [(.ref a)])) rfl rfl (hb hby dO_1)
  refine Go.pull (V := T1.setTop (mkF m 4 #[rv a] [(.int po)])) st1 ?_
  exact Go.retI X1 hx Bd.notSynchronized Bd.returns (hb hby dO_4) ⟨rfl, N0, e1⟩ (by decide) (by decide)
theorem dA0_0 : decode prog_27_method_4_code 0 = .ok (.iload_n 1, 1) := by decide +kernel
theorem dA0_1 : decode prog_27_method_4_code 1 = .ok (.bipush 48, 2) := by decide +kernel
theorem dA0_3 : decode prog_27_method_4_code 3 = .ok (.if_icmp .lt 13, 3) := by decide +kernel
theorem dA0_6 : decode prog_27_method_4_code 6 = .ok (.iload_n 1, 1) := by decide +kernel
theorem dA0_7 : decode prog_27_method_4_code 7 = .ok (.bipush 57, 2) := by decide +kernel
theorem dA0_9 : decode prog_27_method_4_code 9 = .ok (.if_icmp .gt 7, 3) := by decide +kernel
theorem dA0_12 : decode prog_27_method_4_code 12 = .ok (.iconst 1, 1) := by decide +kernel
theorem dA0_13 : decode prog_27_method_4_code 13 = .ok (.goto 4, 3) := by decide +kernel
theorem dA0_16 : decode prog_27_method_4_code 16 = .ok (.iconst 0, 1) := by decide +kernel
theorem dA0_17 : decode prog_27_method_4_code 17 = .ok (.istore_n 2, 1) := by decide +kernel
theorem dA0_18 : decode prog_27_method_4_code 18 = .ok (.iload_n 1, 1) := by decide +kernel
theorem dA0_19 : decode prog_27_method_4_code 19 = .ok (.bipush 65, 2) := by decide +kernel
theorem dA0_21 : decode prog_27_method_4_code 21 = .ok (.if_icmp .lt 13, 3) := by decide +kernel
theorem dA0_24 : decode prog_27_method_4_code 24 = .ok (.iload_n 1, 1) := by decide +kernel
theorem dA0_25 : decode prog_27_method_4_code 25 = .ok (.bipush 90, 2) := by decide +kernel
theorem dA0_27 : decode prog_27_method_4_code 27 = .ok (.if_icmp .gt 7, 3) := by decide +kernel
theorem dA0_30 : decode prog_27_method_4_code 30 = .ok (.iconst 1, 1) := by decide +kernel
theorem dA0_31 : decode prog_27_method_4_code 31 = .ok (.goto 4, 3) := by decide +kernel
theorem dA0_34 : decode prog_27_method_4_code 34 = .ok (.iconst 0, 1) := by decide +kernel
theorem dA0_35 : decode prog_27_method_4_code 35 = .ok (.istore_n 3, 1) := by decide +kernel
theorem dA0_36 : decode prog_27_method_4_code 36 = .ok (.aload_n 0, 1) := by decide +kernel
theorem dA0_37 : decode prog_27_method_4_code 37 = .ok (.invokevirtual 43, 3) := by decide +kernel
theorem dA0_40 : decode prog_27_method_4_code 40 = .ok (.tableswitch 28 0 2 #[38, 42, 46], 28) := by decide +kernel
theorem dA0_78 : decode prog_27_method_4_code 78 = .ok (.iload_n 2, 1) := by decide +kernel
theorem dA0_79 : decode prog_27_method_4_code 79 = .ok (.goto 20, 3) := by decide +kernel
theorem dA0_99 : decode prog_27_method_4_code 99 = .ok (.ireturn, 1) := by decide +kernel
theorem efA0 (m : MethodId) (x0 : Addr) (x1 : Int32) : entryFrame m #[(.ref x0), (.int x1)] 4 = mkF m 0 #[rv x0, iv x1, .unset, .unset] [] := by first | (simp [entryFrame, mkF, argsToLocals, Value.category]; done) | rfl
theorem pn_com_example_disburse_disburse_core_IbanRegistry_Kind : plainName "com/example/disburse/disburse/core/IbanRegistry$Kind" = true := by first | (simp [plainName, overriddenIn]; done) | decide +kernel
def QA0 (Z : State) (a : Addr) (pch : Int32) (h0 : Heap) (n0 : Nat) (v : Option Value) (h : Heap) (L : List Loc) : Prop := v = some (.int (own_dig pch)) ∧ Fr n0 L ∧ h = h0
set_option maxRecDepth 65536 in
set_option maxHeartbeats 40000000 in
theorem rmA0 (l : Launch) (Z : State) (a0 : Array Value) (hw : ∀ d ∈ tables_1, d.before a0 Z = true) (ws : List Jvm.Cond) (a : Addr) (pch : Int32) (h0 : Heap) (n0 : Nat) (Ea : Exa Z h0 a "com/example/disburse/disburse/core/IbanRegistry$Kind") (Fo : Fld Z h0 a "java/lang/Enum" "ordinal" "I" (.int 0)) :
    MetFree l (⟨"com/example/disburse/disburse/core/IbanRegistry$Kind", "admits", "(C)Z"⟩ : MethodName) (head1 (Jvm.Cond.code (⟨"com/example/disburse/disburse/core/IbanRegistry$Kind", "admits", "(C)Z"⟩ : MethodName) prog_27_method_4_code 4 (some .boolean) :: ws) ({ frames := 1, cells := 0, slots := 0, locals := 12 } : Room)) (fun as' U => as' = #[(.ref a), (.int pch)] ∧ Z.Warmed39 U.vm ∧ U.heap = h0) (fun _ _ _ _ _ => True) (fun _ U o U' => ∃ v L, o = .returned v ∧ QA0 Z a pch h0 n0 v U'.heap L ∧ FrameEnd U o U' L ({ frames := 1, cells := 0, slots := 0, locals := 12 } : Room).cells ({ frames := 1, cells := 0, slots := 0, locals := 12 } : Room).slots) := by
  refine MetFree.of_bodySF (plainFor_of_name pn_com_example_disburse_disburse_core_IbanRegistry_Kind) hisR ?_
  intro p e s m args below meth c s₁ Bd hml0 hP hK
  obtain ⟨rfl, hZ, hh⟩ := hP
  have hx := Bd.exec
  have hby := Bd.bytes
  have hml : c.maxLocals = 4 := hml0
  have hown : s.vm.findClass "com/example/disburse/disburse/core/IbanRegistry$Kind" = some m.cls := findClass_of_methodNamed Bd.named
  have hnm := (name_of_methodNamed Bd.named Bd.method).1
  have X0 : Stand p l e ({ frames := 1, cells := 0, slots := 0, locals := 12 } : Room) s m #[(.ref a), (.int pch)] below meth c s₁ [] 0 0 := Stand.of_body Bd
  have e0 : s₁.heap = h0 := by rw [← hh, Bd.state]; rfl
  have N0 := Fr.nil n0
  show Go p e below s (fun v h L => QA0 Z a pch h0 n0 v h L) 0 0 _
  refine Go.pull (V := s₁.setTop (mkF m 0 #[rv a, iv pch, .unset, .unset] [])) (fun t k => castTop (efA0 m a pch) k) ?_
  refine Go.pull (V := s₁.setTop (mkF m 1 #[rv a, iv pch, .unset, .unset] [(.int pch)])) (fun t k => XS.iloadN X0.here hx rfl (hb hby dA0_0) rfl  k) ?_
  refine Go.pull (V := s₁.setTop (mkF m 3 #[rv a, iv pch, .unset, .unset] [(.int 48), (.int pch)])) (fun t k => XS.bipush X0.here hx rfl (hb hby dA0_1) k) ?_
  by_cases hc3_1 : pch < (48 : Int32)
  · skip
    refine Go.pull (V := s₁.setTop (mkF m 16 #[rv a, iv pch, .unset, .unset] [])) (fun t k => XS.icmpYes X0.here hx rfl (pc0 := 3) (pc' := 16) rfl (hb hby dA0_3) rfl (XT.ii_lt_t hc3_1) (by decide) (by decide) k) ?_
    refine Go.pull (V := s₁.setTop (mkF m 17 #[rv a, iv pch, .unset, .unset] [(.int 0)])) (fun t k => XS.iconst X0.here hx rfl (hb hby dA0_16) k) ?_
    refine Go.pull (V := s₁.setTop (mkF m 18 #[rv a, iv pch, iv 0, .unset] [])) (fun t k => XS.istoreN X0.here hx rfl (hb hby dA0_17) rfl (l' := #[rv a, iv pch, iv 0, .unset]) rfl k) ?_
    refine Go.pull (V := s₁.setTop (mkF m 19 #[rv a, iv pch, iv 0, .unset] [(.int pch)])) (fun t k => XS.iloadN X0.here hx rfl (hb hby dA0_18) rfl  k) ?_
    refine Go.pull (V := s₁.setTop (mkF m 21 #[rv a, iv pch, iv 0, .unset] [(.int 65), (.int pch)])) (fun t k => XS.bipush X0.here hx rfl (hb hby dA0_19) k) ?_
    by_cases hc21_2 : pch < (65 : Int32)
    · skip
      refine Go.pull (V := s₁.setTop (mkF m 34 #[rv a, iv pch, iv 0, .unset] [])) (fun t k => XS.icmpYes X0.here hx rfl (pc0 := 21) (pc' := 34) rfl (hb hby dA0_21) rfl (XT.ii_lt_t hc21_2) (by decide) (by decide) k) ?_
      refine Go.pull (V := s₁.setTop (mkF m 35 #[rv a, iv pch, iv 0, .unset] [(.int 0)])) (fun t k => XS.iconst X0.here hx rfl (hb hby dA0_34) k) ?_
      refine Go.pull (V := s₁.setTop (mkF m 36 #[rv a, iv pch, iv 0, iv 0] [])) (fun t k => XS.istoreN X0.here hx rfl (hb hby dA0_35) rfl (l' := #[rv a, iv pch, iv 0, iv 0]) rfl k) ?_
      refine Go.pull (V := s₁.setTop (mkF m 37 #[rv a, iv pch, iv 0, iv 0] [(.ref a)])) (fun t k => XS.aloadN X0.here hx rfl (hb hby dA0_36) rfl rfl k) ?_
      obtain ⟨cq3, kq3, q3a, q3b, q3c⟩ := isOf hZ e0 Ea
      obtain ⟨_, _, ⟨T3, L3, k3, n3⟩, -, X3, ⟨Lc3, hQ3, l3, y3, z3⟩, st3⟩ := X0.virtualBackUp hx (x := (⟨"com/example/disburse/disburse/core/IbanRegistry$Kind", "ordinal", "()I"⟩ : MethodName)) (y := (⟨"java/lang/Enum", "ordinal", "()I"⟩ : MethodName)) (owner := "java/lang/Enum") hown (mvT hZ (hw _ (List.mem_of_getElem? (i := 9) rfl))) (mvT hZ (hw _ (List.mem_of_getElem? (i := 10) rfl))) (mvT hZ (hw _ (List.mem_of_getElem? (i := 11) rfl))) (by decide) (mvT hZ (hw _ (List.mem_of_getElem? (i := 13) rfl))) (mvT hZ (hw _ (List.mem_of_getElem? (i := 12) rfl))) (backOf (W := 0) (rmO l Z a0 hw [] a (0 : Int32) h0 n0 Fo) hZ (hw _ (List.mem_of_getElem? (i := 15) rfl)) (hw _ (List.mem_of_getElem? (i := 14) rfl)) (by decide) (by decide)) q3a q3c (g := (mkF m 37 #[rv a, iv pch, iv 0, iv 0] [(.ref a)])) rfl (by rw [hml]; rfl) (Steps.refl _) (argsL := []) (rest := []) (lenOf pd_0 rfl) rfl (by show 2 * 0 + _ ≤ _; exact Nat.le_of_eq rfl) (hb hby dA0_37) (fun _ _ => ⟨rfl, e0, (by decide : 0 + 0 ≤ _), (by decide : 0 + 0 ≤ _)⟩)
      dsimp only [Pt.U, Pt.locs, Pt.cells, Pt.slots] at X3 l3 y3 z3 st3 hQ3
      subst l3 y3 z3
      obtain ⟨rfl, N3q, e3⟩ := hQ3
      have N3 := Fr.app N0 N3q
      refine Go.pull (V := T3.setTop (mkF m 40 #[rv a, iv pch, iv 0, iv 0] [(.int 0)])) (fun _ k => st3.trans k) ?_
      refine Go.pull (V := T3.setTop (mkF m 78 #[rv a, iv pch, iv 0, iv 0] [])) (fun t k => XS.tswIn X3.here hx rfl (pc0 := 40) (pc' := 78) rfl (hb hby dA0_40) rfl (by decide) rfl (by decide) (by decide) k) ?_
      refine Go.pull (V := T3.setTop (mkF m 79 #[rv a, iv pch, iv 0, iv 0] [(.int 0)])) (fun t k => XS.iloadN X3.here hx rfl (hb hby dA0_78) rfl  k) ?_
      refine Go.pull (V := T3.setTop (mkF m 99 #[rv a, iv pch, iv 0, iv 0] [(.int 0)])) (fun t k => XS.goto X3.here hx rfl (pc0 := 79) (pc' := 99) rfl (hb hby dA0_79) (by decide) (by decide) k) ?_
      exact Go.retN X3 hx Bd.notSynchronized (t := .boolean) Bd.returns (by simp) (hb hby dA0_99) ⟨(by rw [own_dig, if_pos hc3_1] <;> rfl), N3, e3⟩ (by decide) (by decide)
    · skip
      refine Go.pull (V := s₁.setTop (mkF m 24 #[rv a, iv pch, iv 0, .unset] [])) (fun t k => XS.icmpNo X0.here hx rfl (hb hby dA0_21) rfl (XT.ii_lt_f hc21_2) k) ?_
      refine Go.pull (V := s₁.setTop (mkF m 25 #[rv a, iv pch, iv 0, .unset] [(.int pch)])) (fun t k => XS.iloadN X0.here hx rfl (hb hby dA0_24) rfl  k) ?_
      refine Go.pull (V := s₁.setTop (mkF m 27 #[rv a, iv pch, iv 0, .unset] [(.int 90), (.int pch)])) (fun t k => XS.bipush X0.here hx rfl (hb hby dA0_25) k) ?_
      by_cases hc27_4 : (90 : Int32) < pch
      · skip
        refine Go.pull (V := s₁.setTop (mkF m 34 #[rv a, iv pch, iv 0, .unset] [])) (fun t k => XS.icmpYes X0.here hx rfl (pc0 := 27) (pc' := 34) rfl (hb hby dA0_27) rfl (XT.ii_gt_t hc27_4) (by decide) (by decide) k) ?_
        refine Go.pull (V := s₁.setTop (mkF m 35 #[rv a, iv pch, iv 0, .unset] [(.int 0)])) (fun t k => XS.iconst X0.here hx rfl (hb hby dA0_34) k) ?_
        refine Go.pull (V := s₁.setTop (mkF m 36 #[rv a, iv pch, iv 0, iv 0] [])) (fun t k => XS.istoreN X0.here hx rfl (hb hby dA0_35) rfl (l' := #[rv a, iv pch, iv 0, iv 0]) rfl k) ?_
        refine Go.pull (V := s₁.setTop (mkF m 37 #[rv a, iv pch, iv 0, iv 0] [(.ref a)])) (fun t k => XS.aloadN X0.here hx rfl (hb hby dA0_36) rfl rfl k) ?_
        obtain ⟨cq5, kq5, q5a, q5b, q5c⟩ := isOf hZ e0 Ea
        obtain ⟨_, _, ⟨T5, L5, k5, n5⟩, -, X5, ⟨Lc5, hQ5, l5, y5, z5⟩, st5⟩ := X0.virtualBackUp hx (x := (⟨"com/example/disburse/disburse/core/IbanRegistry$Kind", "ordinal", "()I"⟩ : MethodName)) (y := (⟨"java/lang/Enum", "ordinal", "()I"⟩ : MethodName)) (owner := "java/lang/Enum") hown (mvT hZ (hw _ (List.mem_of_getElem? (i := 9) rfl))) (mvT hZ (hw _ (List.mem_of_getElem? (i := 10) rfl))) (mvT hZ (hw _ (List.mem_of_getElem? (i := 11) rfl))) (by decide) (mvT hZ (hw _ (List.mem_of_getElem? (i := 13) rfl))) (mvT hZ (hw _ (List.mem_of_getElem? (i := 12) rfl))) (backOf (W := 0) (rmO l Z a0 hw [] a (0 : Int32) h0 n0 Fo) hZ (hw _ (List.mem_of_getElem? (i := 15) rfl)) (hw _ (List.mem_of_getElem? (i := 14) rfl)) (by decide) (by decide)) q5a q5c (g := (mkF m 37 #[rv a, iv pch, iv 0, iv 0] [(.ref a)])) rfl (by rw [hml]; rfl) (Steps.refl _) (argsL := []) (rest := []) (lenOf pd_0 rfl) rfl (by show 2 * 0 + _ ≤ _; exact Nat.le_of_eq rfl) (hb hby dA0_37) (fun _ _ => ⟨rfl, e0, (by decide : 0 + 0 ≤ _), (by decide : 0 + 0 ≤ _)⟩)
        dsimp only [Pt.U, Pt.locs, Pt.cells, Pt.slots] at X5 l5 y5 z5 st5 hQ5
        subst l5 y5 z5
        obtain ⟨rfl, N5q, e5⟩ := hQ5
        have N5 := Fr.app N0 N5q
        refine Go.pull (V := T5.setTop (mkF m 40 #[rv a, iv pch, iv 0, iv 0] [(.int 0)])) (fun _ k => st5.trans k) ?_
        refine Go.pull (V := T5.setTop (mkF m 78 #[rv a, iv pch, iv 0, iv 0] [])) (fun t k => XS.tswIn X5.here hx rfl (pc0 := 40) (pc' := 78) rfl (hb hby dA0_40) rfl (by decide) rfl (by decide) (by decide) k) ?_
        refine Go.pull (V := T5.setTop (mkF m 79 #[rv a, iv pch, iv 0, iv 0] [(.int 0)])) (fun t k => XS.iloadN X5.here hx rfl (hb hby dA0_78) rfl  k) ?_
        refine Go.pull (V := T5.setTop (mkF m 99 #[rv a, iv pch, iv 0, iv 0] [(.int 0)])) (fun t k => XS.goto X5.here hx rfl (pc0 := 79) (pc' := 99) rfl (hb hby dA0_79) (by decide) (by decide) k) ?_
        exact Go.retN X5 hx Bd.notSynchronized (t := .boolean) Bd.returns (by simp) (hb hby dA0_99) ⟨(by rw [own_dig, if_pos hc3_1] <;> rfl), N5, e5⟩ (by decide) (by decide)
      · skip
        refine Go.pull (V := s₁.setTop (mkF m 30 #[rv a, iv pch, iv 0, .unset] [])) (fun t k => XS.icmpNo X0.here hx rfl (hb hby dA0_27) rfl (XT.ii_gt_f hc27_4) k) ?_
        refine Go.pull (V := s₁.setTop (mkF m 31 #[rv a, iv pch, iv 0, .unset] [(.int 1)])) (fun t k => XS.iconst X0.here hx rfl (hb hby dA0_30) k) ?_
        refine Go.pull (V := s₁.setTop (mkF m 35 #[rv a, iv pch, iv 0, .unset] [(.int 1)])) (fun t k => XS.goto X0.here hx rfl (pc0 := 31) (pc' := 35) rfl (hb hby dA0_31) (by decide) (by decide) k) ?_
        refine Go.pull (V := s₁.setTop (mkF m 36 #[rv a, iv pch, iv 0, iv 1] [])) (fun t k => XS.istoreN X0.here hx rfl (hb hby dA0_35) rfl (l' := #[rv a, iv pch, iv 0, iv 1]) rfl k) ?_
        refine Go.pull (V := s₁.setTop (mkF m 37 #[rv a, iv pch, iv 0, iv 1] [(.ref a)])) (fun t k => XS.aloadN X0.here hx rfl (hb hby dA0_36) rfl rfl k) ?_
        obtain ⟨cq6, kq6, q6a, q6b, q6c⟩ := isOf hZ e0 Ea
        obtain ⟨_, _, ⟨T6, L6, k6, n6⟩, -, X6, ⟨Lc6, hQ6, l6, y6, z6⟩, st6⟩ := X0.virtualBackUp hx (x := (⟨"com/example/disburse/disburse/core/IbanRegistry$Kind", "ordinal", "()I"⟩ : MethodName)) (y := (⟨"java/lang/Enum", "ordinal", "()I"⟩ : MethodName)) (owner := "java/lang/Enum") hown (mvT hZ (hw _ (List.mem_of_getElem? (i := 9) rfl))) (mvT hZ (hw _ (List.mem_of_getElem? (i := 10) rfl))) (mvT hZ (hw _ (List.mem_of_getElem? (i := 11) rfl))) (by decide) (mvT hZ (hw _ (List.mem_of_getElem? (i := 13) rfl))) (mvT hZ (hw _ (List.mem_of_getElem? (i := 12) rfl))) (backOf (W := 0) (rmO l Z a0 hw [] a (0 : Int32) h0 n0 Fo) hZ (hw _ (List.mem_of_getElem? (i := 15) rfl)) (hw _ (List.mem_of_getElem? (i := 14) rfl)) (by decide) (by decide)) q6a q6c (g := (mkF m 37 #[rv a, iv pch, iv 0, iv 1] [(.ref a)])) rfl (by rw [hml]; rfl) (Steps.refl _) (argsL := []) (rest := []) (lenOf pd_0 rfl) rfl (by show 2 * 0 + _ ≤ _; exact Nat.le_of_eq rfl) (hb hby dA0_37) (fun _ _ => ⟨rfl, e0, (by decide : 0 + 0 ≤ _), (by decide : 0 + 0 ≤ _)⟩)
        dsimp only [Pt.U, Pt.locs, Pt.cells, Pt.slots] at X6 l6 y6 z6 st6 hQ6
        subst l6 y6 z6
        obtain ⟨rfl, N6q, e6⟩ := hQ6
        have N6 := Fr.app N0 N6q
        refine Go.pull (V := T6.setTop (mkF m 40 #[rv a, iv pch, iv 0, iv 1] [(.int 0)])) (fun _ k => st6.trans k) ?_
        refine Go.pull (V := T6.setTop (mkF m 78 #[rv a, iv pch, iv 0, iv 1] [])) (fun t k => XS.tswIn X6.here hx rfl (pc0 := 40) (pc' := 78) rfl (hb hby dA0_40) rfl (by decide) rfl (by decide) (by decide) k) ?_
        refine Go.pull (V := T6.setTop (mkF m 79 #[rv a, iv pch, iv 0, iv 1] [(.int 0)])) (fun t k => XS.iloadN X6.here hx rfl (hb hby dA0_78) rfl  k) ?_
        refine Go.pull (V := T6.setTop (mkF m 99 #[rv a, iv pch, iv 0, iv 1] [(.int 0)])) (fun t k => XS.goto X6.here hx rfl (pc0 := 79) (pc' := 99) rfl (hb hby dA0_79) (by decide) (by decide) k) ?_
        exact Go.retN X6 hx Bd.notSynchronized (t := .boolean) Bd.returns (by simp) (hb hby dA0_99) ⟨(by rw [own_dig, if_pos hc3_1] <;> rfl), N6, e6⟩ (by decide) (by decide)
  · skip
    refine Go.pull (V := s₁.setTop (mkF m 6 #[rv a, iv pch, .unset, .unset] [])) (fun t k => XS.icmpNo X0.here hx rfl (hb hby dA0_3) rfl (XT.ii_lt_f hc3_1) k) ?_
    refine Go.pull (V := s₁.setTop (mkF m 7 #[rv a, iv pch, .unset, .unset] [(.int pch)])) (fun t k => XS.iloadN X0.here hx rfl (hb hby dA0_6) rfl  k) ?_
    refine Go.pull (V := s₁.setTop (mkF m 9 #[rv a, iv pch, .unset, .unset] [(.int 57), (.int pch)])) (fun t k => XS.bipush X0.here hx rfl (hb hby dA0_7) k) ?_
    by_cases hc9_7 : (57 : Int32) < pch
    · skip
      refine Go.pull (V := s₁.setTop (mkF m 16 #[rv a, iv pch, .unset, .unset] [])) (fun t k => XS.icmpYes X0.here hx rfl (pc0 := 9) (pc' := 16) rfl (hb hby dA0_9) rfl (XT.ii_gt_t hc9_7) (by decide) (by decide) k) ?_
      refine Go.pull (V := s₁.setTop (mkF m 17 #[rv a, iv pch, .unset, .unset] [(.int 0)])) (fun t k => XS.iconst X0.here hx rfl (hb hby dA0_16) k) ?_
      refine Go.pull (V := s₁.setTop (mkF m 18 #[rv a, iv pch, iv 0, .unset] [])) (fun t k => XS.istoreN X0.here hx rfl (hb hby dA0_17) rfl (l' := #[rv a, iv pch, iv 0, .unset]) rfl k) ?_
      refine Go.pull (V := s₁.setTop (mkF m 19 #[rv a, iv pch, iv 0, .unset] [(.int pch)])) (fun t k => XS.iloadN X0.here hx rfl (hb hby dA0_18) rfl  k) ?_
      refine Go.pull (V := s₁.setTop (mkF m 21 #[rv a, iv pch, iv 0, .unset] [(.int 65), (.int pch)])) (fun t k => XS.bipush X0.here hx rfl (hb hby dA0_19) k) ?_
      by_cases hc21_8 : pch < (65 : Int32)
      · skip
        refine Go.pull (V := s₁.setTop (mkF m 34 #[rv a, iv pch, iv 0, .unset] [])) (fun t k => XS.icmpYes X0.here hx rfl (pc0 := 21) (pc' := 34) rfl (hb hby dA0_21) rfl (XT.ii_lt_t hc21_8) (by decide) (by decide) k) ?_
        refine Go.pull (V := s₁.setTop (mkF m 35 #[rv a, iv pch, iv 0, .unset] [(.int 0)])) (fun t k => XS.iconst X0.here hx rfl (hb hby dA0_34) k) ?_
        refine Go.pull (V := s₁.setTop (mkF m 36 #[rv a, iv pch, iv 0, iv 0] [])) (fun t k => XS.istoreN X0.here hx rfl (hb hby dA0_35) rfl (l' := #[rv a, iv pch, iv 0, iv 0]) rfl k) ?_
        refine Go.pull (V := s₁.setTop (mkF m 37 #[rv a, iv pch, iv 0, iv 0] [(.ref a)])) (fun t k => XS.aloadN X0.here hx rfl (hb hby dA0_36) rfl rfl k) ?_
        obtain ⟨cq9, kq9, q9a, q9b, q9c⟩ := isOf hZ e0 Ea
        obtain ⟨_, _, ⟨T9, L9, k9, n9⟩, -, X9, ⟨Lc9, hQ9, l9, y9, z9⟩, st9⟩ := X0.virtualBackUp hx (x := (⟨"com/example/disburse/disburse/core/IbanRegistry$Kind", "ordinal", "()I"⟩ : MethodName)) (y := (⟨"java/lang/Enum", "ordinal", "()I"⟩ : MethodName)) (owner := "java/lang/Enum") hown (mvT hZ (hw _ (List.mem_of_getElem? (i := 9) rfl))) (mvT hZ (hw _ (List.mem_of_getElem? (i := 10) rfl))) (mvT hZ (hw _ (List.mem_of_getElem? (i := 11) rfl))) (by decide) (mvT hZ (hw _ (List.mem_of_getElem? (i := 13) rfl))) (mvT hZ (hw _ (List.mem_of_getElem? (i := 12) rfl))) (backOf (W := 0) (rmO l Z a0 hw [] a (0 : Int32) h0 n0 Fo) hZ (hw _ (List.mem_of_getElem? (i := 15) rfl)) (hw _ (List.mem_of_getElem? (i := 14) rfl)) (by decide) (by decide)) q9a q9c (g := (mkF m 37 #[rv a, iv pch, iv 0, iv 0] [(.ref a)])) rfl (by rw [hml]; rfl) (Steps.refl _) (argsL := []) (rest := []) (lenOf pd_0 rfl) rfl (by show 2 * 0 + _ ≤ _; exact Nat.le_of_eq rfl) (hb hby dA0_37) (fun _ _ => ⟨rfl, e0, (by decide : 0 + 0 ≤ _), (by decide : 0 + 0 ≤ _)⟩)
        dsimp only [Pt.U, Pt.locs, Pt.cells, Pt.slots] at X9 l9 y9 z9 st9 hQ9
        subst l9 y9 z9
        obtain ⟨rfl, N9q, e9⟩ := hQ9
        have N9 := Fr.app N0 N9q
        refine Go.pull (V := T9.setTop (mkF m 40 #[rv a, iv pch, iv 0, iv 0] [(.int 0)])) (fun _ k => st9.trans k) ?_
        refine Go.pull (V := T9.setTop (mkF m 78 #[rv a, iv pch, iv 0, iv 0] [])) (fun t k => XS.tswIn X9.here hx rfl (pc0 := 40) (pc' := 78) rfl (hb hby dA0_40) rfl (by decide) rfl (by decide) (by decide) k) ?_
        refine Go.pull (V := T9.setTop (mkF m 79 #[rv a, iv pch, iv 0, iv 0] [(.int 0)])) (fun t k => XS.iloadN X9.here hx rfl (hb hby dA0_78) rfl  k) ?_
        refine Go.pull (V := T9.setTop (mkF m 99 #[rv a, iv pch, iv 0, iv 0] [(.int 0)])) (fun t k => XS.goto X9.here hx rfl (pc0 := 79) (pc' := 99) rfl (hb hby dA0_79) (by decide) (by decide) k) ?_
        exact Go.retN X9 hx Bd.notSynchronized (t := .boolean) Bd.returns (by simp) (hb hby dA0_99) ⟨(by rw [own_dig, if_neg hc3_1, if_pos hc9_7] <;> rfl), N9, e9⟩ (by decide) (by decide)
      · skip
        refine Go.pull (V := s₁.setTop (mkF m 24 #[rv a, iv pch, iv 0, .unset] [])) (fun t k => XS.icmpNo X0.here hx rfl (hb hby dA0_21) rfl (XT.ii_lt_f hc21_8) k) ?_
        refine Go.pull (V := s₁.setTop (mkF m 25 #[rv a, iv pch, iv 0, .unset] [(.int pch)])) (fun t k => XS.iloadN X0.here hx rfl (hb hby dA0_24) rfl  k) ?_
        refine Go.pull (V := s₁.setTop (mkF m 27 #[rv a, iv pch, iv 0, .unset] [(.int 90), (.int pch)])) (fun t k => XS.bipush X0.here hx rfl (hb hby dA0_25) k) ?_
        by_cases hc27_10 : (90 : Int32) < pch
        · skip
          refine Go.pull (V := s₁.setTop (mkF m 34 #[rv a, iv pch, iv 0, .unset] [])) (fun t k => XS.icmpYes X0.here hx rfl (pc0 := 27) (pc' := 34) rfl (hb hby dA0_27) rfl (XT.ii_gt_t hc27_10) (by decide) (by decide) k) ?_
          refine Go.pull (V := s₁.setTop (mkF m 35 #[rv a, iv pch, iv 0, .unset] [(.int 0)])) (fun t k => XS.iconst X0.here hx rfl (hb hby dA0_34) k) ?_
          refine Go.pull (V := s₁.setTop (mkF m 36 #[rv a, iv pch, iv 0, iv 0] [])) (fun t k => XS.istoreN X0.here hx rfl (hb hby dA0_35) rfl (l' := #[rv a, iv pch, iv 0, iv 0]) rfl k) ?_
          refine Go.pull (V := s₁.setTop (mkF m 37 #[rv a, iv pch, iv 0, iv 0] [(.ref a)])) (fun t k => XS.aloadN X0.here hx rfl (hb hby dA0_36) rfl rfl k) ?_
          obtain ⟨cq11, kq11, q11a, q11b, q11c⟩ := isOf hZ e0 Ea
          obtain ⟨_, _, ⟨T11, L11, k11, n11⟩, -, X11, ⟨Lc11, hQ11, l11, y11, z11⟩, st11⟩ := X0.virtualBackUp hx (x := (⟨"com/example/disburse/disburse/core/IbanRegistry$Kind", "ordinal", "()I"⟩ : MethodName)) (y := (⟨"java/lang/Enum", "ordinal", "()I"⟩ : MethodName)) (owner := "java/lang/Enum") hown (mvT hZ (hw _ (List.mem_of_getElem? (i := 9) rfl))) (mvT hZ (hw _ (List.mem_of_getElem? (i := 10) rfl))) (mvT hZ (hw _ (List.mem_of_getElem? (i := 11) rfl))) (by decide) (mvT hZ (hw _ (List.mem_of_getElem? (i := 13) rfl))) (mvT hZ (hw _ (List.mem_of_getElem? (i := 12) rfl))) (backOf (W := 0) (rmO l Z a0 hw [] a (0 : Int32) h0 n0 Fo) hZ (hw _ (List.mem_of_getElem? (i := 15) rfl)) (hw _ (List.mem_of_getElem? (i := 14) rfl)) (by decide) (by decide)) q11a q11c (g := (mkF m 37 #[rv a, iv pch, iv 0, iv 0] [(.ref a)])) rfl (by rw [hml]; rfl) (Steps.refl _) (argsL := []) (rest := []) (lenOf pd_0 rfl) rfl (by show 2 * 0 + _ ≤ _; exact Nat.le_of_eq rfl) (hb hby dA0_37) (fun _ _ => ⟨rfl, e0, (by decide : 0 + 0 ≤ _), (by decide : 0 + 0 ≤ _)⟩)
          dsimp only [Pt.U, Pt.locs, Pt.cells, Pt.slots] at X11 l11 y11 z11 st11 hQ11
          subst l11 y11 z11
          obtain ⟨rfl, N11q, e11⟩ := hQ11
          have N11 := Fr.app N0 N11q
          refine Go.pull (V := T11.setTop (mkF m 40 #[rv a, iv pch, iv 0, iv 0] [(.int 0)])) (fun _ k => st11.trans k) ?_
          refine Go.pull (V := T11.setTop (mkF m 78 #[rv a, iv pch, iv 0, iv 0] [])) (fun t k => XS.tswIn X11.here hx rfl (pc0 := 40) (pc' := 78) rfl (hb hby dA0_40) rfl (by decide) rfl (by decide) (by decide) k) ?_
          refine Go.pull (V := T11.setTop (mkF m 79 #[rv a, iv pch, iv 0, iv 0] [(.int 0)])) (fun t k => XS.iloadN X11.here hx rfl (hb hby dA0_78) rfl  k) ?_
          refine Go.pull (V := T11.setTop (mkF m 99 #[rv a, iv pch, iv 0, iv 0] [(.int 0)])) (fun t k => XS.goto X11.here hx rfl (pc0 := 79) (pc' := 99) rfl (hb hby dA0_79) (by decide) (by decide) k) ?_
          exact Go.retN X11 hx Bd.notSynchronized (t := .boolean) Bd.returns (by simp) (hb hby dA0_99) ⟨(by rw [own_dig, if_neg hc3_1, if_pos hc9_7] <;> rfl), N11, e11⟩ (by decide) (by decide)
        · skip
          refine Go.pull (V := s₁.setTop (mkF m 30 #[rv a, iv pch, iv 0, .unset] [])) (fun t k => XS.icmpNo X0.here hx rfl (hb hby dA0_27) rfl (XT.ii_gt_f hc27_10) k) ?_
          refine Go.pull (V := s₁.setTop (mkF m 31 #[rv a, iv pch, iv 0, .unset] [(.int 1)])) (fun t k => XS.iconst X0.here hx rfl (hb hby dA0_30) k) ?_
          refine Go.pull (V := s₁.setTop (mkF m 35 #[rv a, iv pch, iv 0, .unset] [(.int 1)])) (fun t k => XS.goto X0.here hx rfl (pc0 := 31) (pc' := 35) rfl (hb hby dA0_31) (by decide) (by decide) k) ?_
          refine Go.pull (V := s₁.setTop (mkF m 36 #[rv a, iv pch, iv 0, iv 1] [])) (fun t k => XS.istoreN X0.here hx rfl (hb hby dA0_35) rfl (l' := #[rv a, iv pch, iv 0, iv 1]) rfl k) ?_
          refine Go.pull (V := s₁.setTop (mkF m 37 #[rv a, iv pch, iv 0, iv 1] [(.ref a)])) (fun t k => XS.aloadN X0.here hx rfl (hb hby dA0_36) rfl rfl k) ?_
          obtain ⟨cq12, kq12, q12a, q12b, q12c⟩ := isOf hZ e0 Ea
          obtain ⟨_, _, ⟨T12, L12, k12, n12⟩, -, X12, ⟨Lc12, hQ12, l12, y12, z12⟩, st12⟩ := X0.virtualBackUp hx (x := (⟨"com/example/disburse/disburse/core/IbanRegistry$Kind", "ordinal", "()I"⟩ : MethodName)) (y := (⟨"java/lang/Enum", "ordinal", "()I"⟩ : MethodName)) (owner := "java/lang/Enum") hown (mvT hZ (hw _ (List.mem_of_getElem? (i := 9) rfl))) (mvT hZ (hw _ (List.mem_of_getElem? (i := 10) rfl))) (mvT hZ (hw _ (List.mem_of_getElem? (i := 11) rfl))) (by decide) (mvT hZ (hw _ (List.mem_of_getElem? (i := 13) rfl))) (mvT hZ (hw _ (List.mem_of_getElem? (i := 12) rfl))) (backOf (W := 0) (rmO l Z a0 hw [] a (0 : Int32) h0 n0 Fo) hZ (hw _ (List.mem_of_getElem? (i := 15) rfl)) (hw _ (List.mem_of_getElem? (i := 14) rfl)) (by decide) (by decide)) q12a q12c (g := (mkF m 37 #[rv a, iv pch, iv 0, iv 1] [(.ref a)])) rfl (by rw [hml]; rfl) (Steps.refl _) (argsL := []) (rest := []) (lenOf pd_0 rfl) rfl (by show 2 * 0 + _ ≤ _; exact Nat.le_of_eq rfl) (hb hby dA0_37) (fun _ _ => ⟨rfl, e0, (by decide : 0 + 0 ≤ _), (by decide : 0 + 0 ≤ _)⟩)
          dsimp only [Pt.U, Pt.locs, Pt.cells, Pt.slots] at X12 l12 y12 z12 st12 hQ12
          subst l12 y12 z12
          obtain ⟨rfl, N12q, e12⟩ := hQ12
          have N12 := Fr.app N0 N12q
          refine Go.pull (V := T12.setTop (mkF m 40 #[rv a, iv pch, iv 0, iv 1] [(.int 0)])) (fun _ k => st12.trans k) ?_
          refine Go.pull (V := T12.setTop (mkF m 78 #[rv a, iv pch, iv 0, iv 1] [])) (fun t k => XS.tswIn X12.here hx rfl (pc0 := 40) (pc' := 78) rfl (hb hby dA0_40) rfl (by decide) rfl (by decide) (by decide) k) ?_
          refine Go.pull (V := T12.setTop (mkF m 79 #[rv a, iv pch, iv 0, iv 1] [(.int 0)])) (fun t k => XS.iloadN X12.here hx rfl (hb hby dA0_78) rfl  k) ?_
          refine Go.pull (V := T12.setTop (mkF m 99 #[rv a, iv pch, iv 0, iv 1] [(.int 0)])) (fun t k => XS.goto X12.here hx rfl (pc0 := 79) (pc' := 99) rfl (hb hby dA0_79) (by decide) (by decide) k) ?_
          exact Go.retN X12 hx Bd.notSynchronized (t := .boolean) Bd.returns (by simp) (hb hby dA0_99) ⟨(by rw [own_dig, if_neg hc3_1, if_pos hc9_7] <;> rfl), N12, e12⟩ (by decide) (by decide)
    · skip
      refine Go.pull (V := s₁.setTop (mkF m 12 #[rv a, iv pch, .unset, .unset] [])) (fun t k => XS.icmpNo X0.here hx rfl (hb hby dA0_9) rfl (XT.ii_gt_f hc9_7) k) ?_
      refine Go.pull (V := s₁.setTop (mkF m 13 #[rv a, iv pch, .unset, .unset] [(.int 1)])) (fun t k => XS.iconst X0.here hx rfl (hb hby dA0_12) k) ?_
      refine Go.pull (V := s₁.setTop (mkF m 17 #[rv a, iv pch, .unset, .unset] [(.int 1)])) (fun t k => XS.goto X0.here hx rfl (pc0 := 13) (pc' := 17) rfl (hb hby dA0_13) (by decide) (by decide) k) ?_
      refine Go.pull (V := s₁.setTop (mkF m 18 #[rv a, iv pch, iv 1, .unset] [])) (fun t k => XS.istoreN X0.here hx rfl (hb hby dA0_17) rfl (l' := #[rv a, iv pch, iv 1, .unset]) rfl k) ?_
      refine Go.pull (V := s₁.setTop (mkF m 19 #[rv a, iv pch, iv 1, .unset] [(.int pch)])) (fun t k => XS.iloadN X0.here hx rfl (hb hby dA0_18) rfl  k) ?_
      refine Go.pull (V := s₁.setTop (mkF m 21 #[rv a, iv pch, iv 1, .unset] [(.int 65), (.int pch)])) (fun t k => XS.bipush X0.here hx rfl (hb hby dA0_19) k) ?_
      by_cases hc21_13 : pch < (65 : Int32)
      · skip
        refine Go.pull (V := s₁.setTop (mkF m 34 #[rv a, iv pch, iv 1, .unset] [])) (fun t k => XS.icmpYes X0.here hx rfl (pc0 := 21) (pc' := 34) rfl (hb hby dA0_21) rfl (XT.ii_lt_t hc21_13) (by decide) (by decide) k) ?_
        refine Go.pull (V := s₁.setTop (mkF m 35 #[rv a, iv pch, iv 1, .unset] [(.int 0)])) (fun t k => XS.iconst X0.here hx rfl (hb hby dA0_34) k) ?_
        refine Go.pull (V := s₁.setTop (mkF m 36 #[rv a, iv pch, iv 1, iv 0] [])) (fun t k => XS.istoreN X0.here hx rfl (hb hby dA0_35) rfl (l' := #[rv a, iv pch, iv 1, iv 0]) rfl k) ?_
        refine Go.pull (V := s₁.setTop (mkF m 37 #[rv a, iv pch, iv 1, iv 0] [(.ref a)])) (fun t k => XS.aloadN X0.here hx rfl (hb hby dA0_36) rfl rfl k) ?_
        obtain ⟨cq14, kq14, q14a, q14b, q14c⟩ := isOf hZ e0 Ea
        obtain ⟨_, _, ⟨T14, L14, k14, n14⟩, -, X14, ⟨Lc14, hQ14, l14, y14, z14⟩, st14⟩ := X0.virtualBackUp hx (x := (⟨"com/example/disburse/disburse/core/IbanRegistry$Kind", "ordinal", "()I"⟩ : MethodName)) (y := (⟨"java/lang/Enum", "ordinal", "()I"⟩ : MethodName)) (owner := "java/lang/Enum") hown (mvT hZ (hw _ (List.mem_of_getElem? (i := 9) rfl))) (mvT hZ (hw _ (List.mem_of_getElem? (i := 10) rfl))) (mvT hZ (hw _ (List.mem_of_getElem? (i := 11) rfl))) (by decide) (mvT hZ (hw _ (List.mem_of_getElem? (i := 13) rfl))) (mvT hZ (hw _ (List.mem_of_getElem? (i := 12) rfl))) (backOf (W := 0) (rmO l Z a0 hw [] a (0 : Int32) h0 n0 Fo) hZ (hw _ (List.mem_of_getElem? (i := 15) rfl)) (hw _ (List.mem_of_getElem? (i := 14) rfl)) (by decide) (by decide)) q14a q14c (g := (mkF m 37 #[rv a, iv pch, iv 1, iv 0] [(.ref a)])) rfl (by rw [hml]; rfl) (Steps.refl _) (argsL := []) (rest := []) (lenOf pd_0 rfl) rfl (by show 2 * 0 + _ ≤ _; exact Nat.le_of_eq rfl) (hb hby dA0_37) (fun _ _ => ⟨rfl, e0, (by decide : 0 + 0 ≤ _), (by decide : 0 + 0 ≤ _)⟩)
        dsimp only [Pt.U, Pt.locs, Pt.cells, Pt.slots] at X14 l14 y14 z14 st14 hQ14
        subst l14 y14 z14
        obtain ⟨rfl, N14q, e14⟩ := hQ14
        have N14 := Fr.app N0 N14q
        refine Go.pull (V := T14.setTop (mkF m 40 #[rv a, iv pch, iv 1, iv 0] [(.int 0)])) (fun _ k => st14.trans k) ?_
        refine Go.pull (V := T14.setTop (mkF m 78 #[rv a, iv pch, iv 1, iv 0] [])) (fun t k => XS.tswIn X14.here hx rfl (pc0 := 40) (pc' := 78) rfl (hb hby dA0_40) rfl (by decide) rfl (by decide) (by decide) k) ?_
        refine Go.pull (V := T14.setTop (mkF m 79 #[rv a, iv pch, iv 1, iv 0] [(.int 1)])) (fun t k => XS.iloadN X14.here hx rfl (hb hby dA0_78) rfl  k) ?_
        refine Go.pull (V := T14.setTop (mkF m 99 #[rv a, iv pch, iv 1, iv 0] [(.int 1)])) (fun t k => XS.goto X14.here hx rfl (pc0 := 79) (pc' := 99) rfl (hb hby dA0_79) (by decide) (by decide) k) ?_
        exact Go.retN X14 hx Bd.notSynchronized (t := .boolean) Bd.returns (by simp) (hb hby dA0_99) ⟨(by rw [own_dig, if_neg hc3_1, if_neg hc9_7] <;> rfl), N14, e14⟩ (by decide) (by decide)
      · skip
        refine Go.pull (V := s₁.setTop (mkF m 24 #[rv a, iv pch, iv 1, .unset] [])) (fun t k => XS.icmpNo X0.here hx rfl (hb hby dA0_21) rfl (XT.ii_lt_f hc21_13) k) ?_
        refine Go.pull (V := s₁.setTop (mkF m 25 #[rv a, iv pch, iv 1, .unset] [(.int pch)])) (fun t k => XS.iloadN X0.here hx rfl (hb hby dA0_24) rfl  k) ?_
        refine Go.pull (V := s₁.setTop (mkF m 27 #[rv a, iv pch, iv 1, .unset] [(.int 90), (.int pch)])) (fun t k => XS.bipush X0.here hx rfl (hb hby dA0_25) k) ?_
        by_cases hc27_15 : (90 : Int32) < pch
        · skip
          refine Go.pull (V := s₁.setTop (mkF m 34 #[rv a, iv pch, iv 1, .unset] [])) (fun t k => XS.icmpYes X0.here hx rfl (pc0 := 27) (pc' := 34) rfl (hb hby dA0_27) rfl (XT.ii_gt_t hc27_15) (by decide) (by decide) k) ?_
          refine Go.pull (V := s₁.setTop (mkF m 35 #[rv a, iv pch, iv 1, .unset] [(.int 0)])) (fun t k => XS.iconst X0.here hx rfl (hb hby dA0_34) k) ?_
          refine Go.pull (V := s₁.setTop (mkF m 36 #[rv a, iv pch, iv 1, iv 0] [])) (fun t k => XS.istoreN X0.here hx rfl (hb hby dA0_35) rfl (l' := #[rv a, iv pch, iv 1, iv 0]) rfl k) ?_
          refine Go.pull (V := s₁.setTop (mkF m 37 #[rv a, iv pch, iv 1, iv 0] [(.ref a)])) (fun t k => XS.aloadN X0.here hx rfl (hb hby dA0_36) rfl rfl k) ?_
          obtain ⟨cq16, kq16, q16a, q16b, q16c⟩ := isOf hZ e0 Ea
          obtain ⟨_, _, ⟨T16, L16, k16, n16⟩, -, X16, ⟨Lc16, hQ16, l16, y16, z16⟩, st16⟩ := X0.virtualBackUp hx (x := (⟨"com/example/disburse/disburse/core/IbanRegistry$Kind", "ordinal", "()I"⟩ : MethodName)) (y := (⟨"java/lang/Enum", "ordinal", "()I"⟩ : MethodName)) (owner := "java/lang/Enum") hown (mvT hZ (hw _ (List.mem_of_getElem? (i := 9) rfl))) (mvT hZ (hw _ (List.mem_of_getElem? (i := 10) rfl))) (mvT hZ (hw _ (List.mem_of_getElem? (i := 11) rfl))) (by decide) (mvT hZ (hw _ (List.mem_of_getElem? (i := 13) rfl))) (mvT hZ (hw _ (List.mem_of_getElem? (i := 12) rfl))) (backOf (W := 0) (rmO l Z a0 hw [] a (0 : Int32) h0 n0 Fo) hZ (hw _ (List.mem_of_getElem? (i := 15) rfl)) (hw _ (List.mem_of_getElem? (i := 14) rfl)) (by decide) (by decide)) q16a q16c (g := (mkF m 37 #[rv a, iv pch, iv 1, iv 0] [(.ref a)])) rfl (by rw [hml]; rfl) (Steps.refl _) (argsL := []) (rest := []) (lenOf pd_0 rfl) rfl (by show 2 * 0 + _ ≤ _; exact Nat.le_of_eq rfl) (hb hby dA0_37) (fun _ _ => ⟨rfl, e0, (by decide : 0 + 0 ≤ _), (by decide : 0 + 0 ≤ _)⟩)
          dsimp only [Pt.U, Pt.locs, Pt.cells, Pt.slots] at X16 l16 y16 z16 st16 hQ16
          subst l16 y16 z16
          obtain ⟨rfl, N16q, e16⟩ := hQ16
          have N16 := Fr.app N0 N16q
          refine Go.pull (V := T16.setTop (mkF m 40 #[rv a, iv pch, iv 1, iv 0] [(.int 0)])) (fun _ k => st16.trans k) ?_
          refine Go.pull (V := T16.setTop (mkF m 78 #[rv a, iv pch, iv 1, iv 0] [])) (fun t k => XS.tswIn X16.here hx rfl (pc0 := 40) (pc' := 78) rfl (hb hby dA0_40) rfl (by decide) rfl (by decide) (by decide) k) ?_
          refine Go.pull (V := T16.setTop (mkF m 79 #[rv a, iv pch, iv 1, iv 0] [(.int 1)])) (fun t k => XS.iloadN X16.here hx rfl (hb hby dA0_78) rfl  k) ?_
          refine Go.pull (V := T16.setTop (mkF m 99 #[rv a, iv pch, iv 1, iv 0] [(.int 1)])) (fun t k => XS.goto X16.here hx rfl (pc0 := 79) (pc' := 99) rfl (hb hby dA0_79) (by decide) (by decide) k) ?_
          exact Go.retN X16 hx Bd.notSynchronized (t := .boolean) Bd.returns (by simp) (hb hby dA0_99) ⟨(by rw [own_dig, if_neg hc3_1, if_neg hc9_7] <;> rfl), N16, e16⟩ (by decide) (by decide)
        · skip
          refine Go.pull (V := s₁.setTop (mkF m 30 #[rv a, iv pch, iv 1, .unset] [])) (fun t k => XS.icmpNo X0.here hx rfl (hb hby dA0_27) rfl (XT.ii_gt_f hc27_15) k) ?_
          refine Go.pull (V := s₁.setTop (mkF m 31 #[rv a, iv pch, iv 1, .unset] [(.int 1)])) (fun t k => XS.iconst X0.here hx rfl (hb hby dA0_30) k) ?_
          refine Go.pull (V := s₁.setTop (mkF m 35 #[rv a, iv pch, iv 1, .unset] [(.int 1)])) (fun t k => XS.goto X0.here hx rfl (pc0 := 31) (pc' := 35) rfl (hb hby dA0_31) (by decide) (by decide) k) ?_
          refine Go.pull (V := s₁.setTop (mkF m 36 #[rv a, iv pch, iv 1, iv 1] [])) (fun t k => XS.istoreN X0.here hx rfl (hb hby dA0_35) rfl (l' := #[rv a, iv pch, iv 1, iv 1]) rfl k) ?_
          refine Go.pull (V := s₁.setTop (mkF m 37 #[rv a, iv pch, iv 1, iv 1] [(.ref a)])) (fun t k => XS.aloadN X0.here hx rfl (hb hby dA0_36) rfl rfl k) ?_
          obtain ⟨cq17, kq17, q17a, q17b, q17c⟩ := isOf hZ e0 Ea
          obtain ⟨_, _, ⟨T17, L17, k17, n17⟩, -, X17, ⟨Lc17, hQ17, l17, y17, z17⟩, st17⟩ := X0.virtualBackUp hx (x := (⟨"com/example/disburse/disburse/core/IbanRegistry$Kind", "ordinal", "()I"⟩ : MethodName)) (y := (⟨"java/lang/Enum", "ordinal", "()I"⟩ : MethodName)) (owner := "java/lang/Enum") hown (mvT hZ (hw _ (List.mem_of_getElem? (i := 9) rfl))) (mvT hZ (hw _ (List.mem_of_getElem? (i := 10) rfl))) (mvT hZ (hw _ (List.mem_of_getElem? (i := 11) rfl))) (by decide) (mvT hZ (hw _ (List.mem_of_getElem? (i := 13) rfl))) (mvT hZ (hw _ (List.mem_of_getElem? (i := 12) rfl))) (backOf (W := 0) (rmO l Z a0 hw [] a (0 : Int32) h0 n0 Fo) hZ (hw _ (List.mem_of_getElem? (i := 15) rfl)) (hw _ (List.mem_of_getElem? (i := 14) rfl)) (by decide) (by decide)) q17a q17c (g := (mkF m 37 #[rv a, iv pch, iv 1, iv 1] [(.ref a)])) rfl (by rw [hml]; rfl) (Steps.refl _) (argsL := []) (rest := []) (lenOf pd_0 rfl) rfl (by show 2 * 0 + _ ≤ _; exact Nat.le_of_eq rfl) (hb hby dA0_37) (fun _ _ => ⟨rfl, e0, (by decide : 0 + 0 ≤ _), (by decide : 0 + 0 ≤ _)⟩)
          dsimp only [Pt.U, Pt.locs, Pt.cells, Pt.slots] at X17 l17 y17 z17 st17 hQ17
          subst l17 y17 z17
          obtain ⟨rfl, N17q, e17⟩ := hQ17
          have N17 := Fr.app N0 N17q
          refine Go.pull (V := T17.setTop (mkF m 40 #[rv a, iv pch, iv 1, iv 1] [(.int 0)])) (fun _ k => st17.trans k) ?_
          refine Go.pull (V := T17.setTop (mkF m 78 #[rv a, iv pch, iv 1, iv 1] [])) (fun t k => XS.tswIn X17.here hx rfl (pc0 := 40) (pc' := 78) rfl (hb hby dA0_40) rfl (by decide) rfl (by decide) (by decide) k) ?_
          refine Go.pull (V := T17.setTop (mkF m 79 #[rv a, iv pch, iv 1, iv 1] [(.int 1)])) (fun t k => XS.iloadN X17.here hx rfl (hb hby dA0_78) rfl  k) ?_
          refine Go.pull (V := T17.setTop (mkF m 99 #[rv a, iv pch, iv 1, iv 1] [(.int 1)])) (fun t k => XS.goto X17.here hx rfl (pc0 := 79) (pc' := 99) rfl (hb hby dA0_79) (by decide) (by decide) k) ?_
          exact Go.retN X17 hx Bd.notSynchronized (t := .boolean) Bd.returns (by simp) (hb hby dA0_99) ⟨(by rw [own_dig, if_neg hc3_1, if_neg hc9_7] <;> rfl), N17, e17⟩ (by decide) (by decide)
theorem dA1_0 : decode prog_27_method_4_code 0 = .ok (.iload_n 1, 1) := by decide +kernel
theorem dA1_1 : decode prog_27_method_4_code 1 = .ok (.bipush 48, 2) := by decide +kernel
theorem dA1_3 : decode prog_27_method_4_code 3 = .ok (.if_icmp .lt 13, 3) := by decide +kernel
theorem dA1_6 : decode prog_27_method_4_code 6 = .ok (.iload_n 1, 1) := by decide +kernel
theorem dA1_7 : decode prog_27_method_4_code 7 = .ok (.bipush 57, 2) := by decide +kernel
theorem dA1_9 : decode prog_27_method_4_code 9 = .ok (.if_icmp .gt 7, 3) := by decide +kernel
theorem dA1_12 : decode prog_27_method_4_code 12 = .ok (.iconst 1, 1) := by decide +kernel
theorem dA1_13 : decode prog_27_method_4_code 13 = .ok (.goto 4, 3) := by decide +kernel
theorem dA1_16 : decode prog_27_method_4_code 16 = .ok (.iconst 0, 1) := by decide +kernel
theorem dA1_17 : decode prog_27_method_4_code 17 = .ok (.istore_n 2, 1) := by decide +kernel
theorem dA1_18 : decode prog_27_method_4_code 18 = .ok (.iload_n 1, 1) := by decide +kernel
theorem dA1_19 : decode prog_27_method_4_code 19 = .ok (.bipush 65, 2) := by decide +kernel
theorem dA1_21 : decode prog_27_method_4_code 21 = .ok (.if_icmp .lt 13, 3) := by decide +kernel
theorem dA1_24 : decode prog_27_method_4_code 24 = .ok (.iload_n 1, 1) := by decide +kernel
theorem dA1_25 : decode prog_27_method_4_code 25 = .ok (.bipush 90, 2) := by decide +kernel
theorem dA1_27 : decode prog_27_method_4_code 27 = .ok (.if_icmp .gt 7, 3) := by decide +kernel
theorem dA1_30 : decode prog_27_method_4_code 30 = .ok (.iconst 1, 1) := by decide +kernel
theorem dA1_31 : decode prog_27_method_4_code 31 = .ok (.goto 4, 3) := by decide +kernel
theorem dA1_34 : decode prog_27_method_4_code 34 = .ok (.iconst 0, 1) := by decide +kernel
theorem dA1_35 : decode prog_27_method_4_code 35 = .ok (.istore_n 3, 1) := by decide +kernel
theorem dA1_36 : decode prog_27_method_4_code 36 = .ok (.aload_n 0, 1) := by decide +kernel
theorem dA1_37 : decode prog_27_method_4_code 37 = .ok (.invokevirtual 43, 3) := by decide +kernel
theorem dA1_40 : decode prog_27_method_4_code 40 = .ok (.tableswitch 28 0 2 #[38, 42, 46], 28) := by decide +kernel
theorem dA1_82 : decode prog_27_method_4_code 82 = .ok (.iload_n 3, 1) := by decide +kernel
theorem dA1_83 : decode prog_27_method_4_code 83 = .ok (.goto 16, 3) := by decide +kernel
theorem dA1_99 : decode prog_27_method_4_code 99 = .ok (.ireturn, 1) := by decide +kernel
theorem efA1 (m : MethodId) (x0 : Addr) (x1 : Int32) : entryFrame m #[(.ref x0), (.int x1)] 4 = mkF m 0 #[rv x0, iv x1, .unset, .unset] [] := by first | (simp [entryFrame, mkF, argsToLocals, Value.category]; done) | rfl
def QA1 (Z : State) (a : Addr) (pch : Int32) (h0 : Heap) (n0 : Nat) (v : Option Value) (h : Heap) (L : List Loc) : Prop := v = some (.int (own_let pch)) ∧ Fr n0 L ∧ h = h0
set_option maxRecDepth 65536 in
set_option maxHeartbeats 40000000 in
theorem rmA1 (l : Launch) (Z : State) (a0 : Array Value) (hw : ∀ d ∈ tables_1, d.before a0 Z = true) (ws : List Jvm.Cond) (a : Addr) (pch : Int32) (h0 : Heap) (n0 : Nat) (Ea : Exa Z h0 a "com/example/disburse/disburse/core/IbanRegistry$Kind") (Fo : Fld Z h0 a "java/lang/Enum" "ordinal" "I" (.int 1)) :
    MetFree l (⟨"com/example/disburse/disburse/core/IbanRegistry$Kind", "admits", "(C)Z"⟩ : MethodName) (head1 (Jvm.Cond.code (⟨"com/example/disburse/disburse/core/IbanRegistry$Kind", "admits", "(C)Z"⟩ : MethodName) prog_27_method_4_code 4 (some .boolean) :: ws) ({ frames := 1, cells := 0, slots := 0, locals := 12 } : Room)) (fun as' U => as' = #[(.ref a), (.int pch)] ∧ Z.Warmed39 U.vm ∧ U.heap = h0) (fun _ _ _ _ _ => True) (fun _ U o U' => ∃ v L, o = .returned v ∧ QA1 Z a pch h0 n0 v U'.heap L ∧ FrameEnd U o U' L ({ frames := 1, cells := 0, slots := 0, locals := 12 } : Room).cells ({ frames := 1, cells := 0, slots := 0, locals := 12 } : Room).slots) := by
  refine MetFree.of_bodySF (plainFor_of_name pn_com_example_disburse_disburse_core_IbanRegistry_Kind) hisR ?_
  intro p e s m args below meth c s₁ Bd hml0 hP hK
  obtain ⟨rfl, hZ, hh⟩ := hP
  have hx := Bd.exec
  have hby := Bd.bytes
  have hml : c.maxLocals = 4 := hml0
  have hown : s.vm.findClass "com/example/disburse/disburse/core/IbanRegistry$Kind" = some m.cls := findClass_of_methodNamed Bd.named
  have hnm := (name_of_methodNamed Bd.named Bd.method).1
  have X0 : Stand p l e ({ frames := 1, cells := 0, slots := 0, locals := 12 } : Room) s m #[(.ref a), (.int pch)] below meth c s₁ [] 0 0 := Stand.of_body Bd
  have e0 : s₁.heap = h0 := by rw [← hh, Bd.state]; rfl
  have N0 := Fr.nil n0
  show Go p e below s (fun v h L => QA1 Z a pch h0 n0 v h L) 0 0 _
  refine Go.pull (V := s₁.setTop (mkF m 0 #[rv a, iv pch, .unset, .unset] [])) (fun t k => castTop (efA1 m a pch) k) ?_
  refine Go.pull (V := s₁.setTop (mkF m 1 #[rv a, iv pch, .unset, .unset] [(.int pch)])) (fun t k => XS.iloadN X0.here hx rfl (hb hby dA1_0) rfl  k) ?_
  refine Go.pull (V := s₁.setTop (mkF m 3 #[rv a, iv pch, .unset, .unset] [(.int 48), (.int pch)])) (fun t k => XS.bipush X0.here hx rfl (hb hby dA1_1) k) ?_
  by_cases hc3_1 : pch < (48 : Int32)
  · skip
    refine Go.pull (V := s₁.setTop (mkF m 16 #[rv a, iv pch, .unset, .unset] [])) (fun t k => XS.icmpYes X0.here hx rfl (pc0 := 3) (pc' := 16) rfl (hb hby dA1_3) rfl (XT.ii_lt_t hc3_1) (by decide) (by decide) k) ?_
    refine Go.pull (V := s₁.setTop (mkF m 17 #[rv a, iv pch, .unset, .unset] [(.int 0)])) (fun t k => XS.iconst X0.here hx rfl (hb hby dA1_16) k) ?_
    refine Go.pull (V := s₁.setTop (mkF m 18 #[rv a, iv pch, iv 0, .unset] [])) (fun t k => XS.istoreN X0.here hx rfl (hb hby dA1_17) rfl (l' := #[rv a, iv pch, iv 0, .unset]) rfl k) ?_
    refine Go.pull (V := s₁.setTop (mkF m 19 #[rv a, iv pch, iv 0, .unset] [(.int pch)])) (fun t k => XS.iloadN X0.here hx rfl (hb hby dA1_18) rfl  k) ?_
    refine Go.pull (V := s₁.setTop (mkF m 21 #[rv a, iv pch, iv 0, .unset] [(.int 65), (.int pch)])) (fun t k => XS.bipush X0.here hx rfl (hb hby dA1_19) k) ?_
    by_cases hc21_2 : pch < (65 : Int32)
    · skip
      refine Go.pull (V := s₁.setTop (mkF m 34 #[rv a, iv pch, iv 0, .unset] [])) (fun t k => XS.icmpYes X0.here hx rfl (pc0 := 21) (pc' := 34) rfl (hb hby dA1_21) rfl (XT.ii_lt_t hc21_2) (by decide) (by decide) k) ?_
      refine Go.pull (V := s₁.setTop (mkF m 35 #[rv a, iv pch, iv 0, .unset] [(.int 0)])) (fun t k => XS.iconst X0.here hx rfl (hb hby dA1_34) k) ?_
      refine Go.pull (V := s₁.setTop (mkF m 36 #[rv a, iv pch, iv 0, iv 0] [])) (fun t k => XS.istoreN X0.here hx rfl (hb hby dA1_35) rfl (l' := #[rv a, iv pch, iv 0, iv 0]) rfl k) ?_
      refine Go.pull (V := s₁.setTop (mkF m 37 #[rv a, iv pch, iv 0, iv 0] [(.ref a)])) (fun t k => XS.aloadN X0.here hx rfl (hb hby dA1_36) rfl rfl k) ?_
      obtain ⟨cq3, kq3, q3a, q3b, q3c⟩ := isOf hZ e0 Ea
      obtain ⟨_, _, ⟨T3, L3, k3, n3⟩, -, X3, ⟨Lc3, hQ3, l3, y3, z3⟩, st3⟩ := X0.virtualBackUp hx (x := (⟨"com/example/disburse/disburse/core/IbanRegistry$Kind", "ordinal", "()I"⟩ : MethodName)) (y := (⟨"java/lang/Enum", "ordinal", "()I"⟩ : MethodName)) (owner := "java/lang/Enum") hown (mvT hZ (hw _ (List.mem_of_getElem? (i := 9) rfl))) (mvT hZ (hw _ (List.mem_of_getElem? (i := 10) rfl))) (mvT hZ (hw _ (List.mem_of_getElem? (i := 11) rfl))) (by decide) (mvT hZ (hw _ (List.mem_of_getElem? (i := 13) rfl))) (mvT hZ (hw _ (List.mem_of_getElem? (i := 12) rfl))) (backOf (W := 0) (rmO l Z a0 hw [] a (1 : Int32) h0 n0 Fo) hZ (hw _ (List.mem_of_getElem? (i := 15) rfl)) (hw _ (List.mem_of_getElem? (i := 14) rfl)) (by decide) (by decide)) q3a q3c (g := (mkF m 37 #[rv a, iv pch, iv 0, iv 0] [(.ref a)])) rfl (by rw [hml]; rfl) (Steps.refl _) (argsL := []) (rest := []) (lenOf pd_0 rfl) rfl (by show 2 * 0 + _ ≤ _; exact Nat.le_of_eq rfl) (hb hby dA1_37) (fun _ _ => ⟨rfl, e0, (by decide : 0 + 0 ≤ _), (by decide : 0 + 0 ≤ _)⟩)
      dsimp only [Pt.U, Pt.locs, Pt.cells, Pt.slots] at X3 l3 y3 z3 st3 hQ3
      subst l3 y3 z3
      obtain ⟨rfl, N3q, e3⟩ := hQ3
      have N3 := Fr.app N0 N3q
      refine Go.pull (V := T3.setTop (mkF m 40 #[rv a, iv pch, iv 0, iv 0] [(.int 1)])) (fun _ k => st3.trans k) ?_
      refine Go.pull (V := T3.setTop (mkF m 82 #[rv a, iv pch, iv 0, iv 0] [])) (fun t k => XS.tswIn X3.here hx rfl (pc0 := 40) (pc' := 82) rfl (hb hby dA1_40) rfl (by decide) rfl (by decide) (by decide) k) ?_
      refine Go.pull (V := T3.setTop (mkF m 83 #[rv a, iv pch, iv 0, iv 0] [(.int 0)])) (fun t k => XS.iloadN X3.here hx rfl (hb hby dA1_82) rfl  k) ?_
      refine Go.pull (V := T3.setTop (mkF m 99 #[rv a, iv pch, iv 0, iv 0] [(.int 0)])) (fun t k => XS.goto X3.here hx rfl (pc0 := 83) (pc' := 99) rfl (hb hby dA1_83) (by decide) (by decide) k) ?_
      exact Go.retN X3 hx Bd.notSynchronized (t := .boolean) Bd.returns (by simp) (hb hby dA1_99) ⟨(by rw [own_let, if_pos hc21_2] <;> rfl), N3, e3⟩ (by decide) (by decide)
    · skip
      refine Go.pull (V := s₁.setTop (mkF m 24 #[rv a, iv pch, iv 0, .unset] [])) (fun t k => XS.icmpNo X0.here hx rfl (hb hby dA1_21) rfl (XT.ii_lt_f hc21_2) k) ?_
      refine Go.pull (V := s₁.setTop (mkF m 25 #[rv a, iv pch, iv 0, .unset] [(.int pch)])) (fun t k => XS.iloadN X0.here hx rfl (hb hby dA1_24) rfl  k) ?_
      refine Go.pull (V := s₁.setTop (mkF m 27 #[rv a, iv pch, iv 0, .unset] [(.int 90), (.int pch)])) (fun t k => XS.bipush X0.here hx rfl (hb hby dA1_25) k) ?_
      by_cases hc27_4 : (90 : Int32) < pch
      · skip
        refine Go.pull (V := s₁.setTop (mkF m 34 #[rv a, iv pch, iv 0, .unset] [])) (fun t k => XS.icmpYes X0.here hx rfl (pc0 := 27) (pc' := 34) rfl (hb hby dA1_27) rfl (XT.ii_gt_t hc27_4) (by decide) (by decide) k) ?_
        refine Go.pull (V := s₁.setTop (mkF m 35 #[rv a, iv pch, iv 0, .unset] [(.int 0)])) (fun t k => XS.iconst X0.here hx rfl (hb hby dA1_34) k) ?_
        refine Go.pull (V := s₁.setTop (mkF m 36 #[rv a, iv pch, iv 0, iv 0] [])) (fun t k => XS.istoreN X0.here hx rfl (hb hby dA1_35) rfl (l' := #[rv a, iv pch, iv 0, iv 0]) rfl k) ?_
        refine Go.pull (V := s₁.setTop (mkF m 37 #[rv a, iv pch, iv 0, iv 0] [(.ref a)])) (fun t k => XS.aloadN X0.here hx rfl (hb hby dA1_36) rfl rfl k) ?_
        obtain ⟨cq5, kq5, q5a, q5b, q5c⟩ := isOf hZ e0 Ea
        obtain ⟨_, _, ⟨T5, L5, k5, n5⟩, -, X5, ⟨Lc5, hQ5, l5, y5, z5⟩, st5⟩ := X0.virtualBackUp hx (x := (⟨"com/example/disburse/disburse/core/IbanRegistry$Kind", "ordinal", "()I"⟩ : MethodName)) (y := (⟨"java/lang/Enum", "ordinal", "()I"⟩ : MethodName)) (owner := "java/lang/Enum") hown (mvT hZ (hw _ (List.mem_of_getElem? (i := 9) rfl))) (mvT hZ (hw _ (List.mem_of_getElem? (i := 10) rfl))) (mvT hZ (hw _ (List.mem_of_getElem? (i := 11) rfl))) (by decide) (mvT hZ (hw _ (List.mem_of_getElem? (i := 13) rfl))) (mvT hZ (hw _ (List.mem_of_getElem? (i := 12) rfl))) (backOf (W := 0) (rmO l Z a0 hw [] a (1 : Int32) h0 n0 Fo) hZ (hw _ (List.mem_of_getElem? (i := 15) rfl)) (hw _ (List.mem_of_getElem? (i := 14) rfl)) (by decide) (by decide)) q5a q5c (g := (mkF m 37 #[rv a, iv pch, iv 0, iv 0] [(.ref a)])) rfl (by rw [hml]; rfl) (Steps.refl _) (argsL := []) (rest := []) (lenOf pd_0 rfl) rfl (by show 2 * 0 + _ ≤ _; exact Nat.le_of_eq rfl) (hb hby dA1_37) (fun _ _ => ⟨rfl, e0, (by decide : 0 + 0 ≤ _), (by decide : 0 + 0 ≤ _)⟩)
        dsimp only [Pt.U, Pt.locs, Pt.cells, Pt.slots] at X5 l5 y5 z5 st5 hQ5
        subst l5 y5 z5
        obtain ⟨rfl, N5q, e5⟩ := hQ5
        have N5 := Fr.app N0 N5q
        refine Go.pull (V := T5.setTop (mkF m 40 #[rv a, iv pch, iv 0, iv 0] [(.int 1)])) (fun _ k => st5.trans k) ?_
        refine Go.pull (V := T5.setTop (mkF m 82 #[rv a, iv pch, iv 0, iv 0] [])) (fun t k => XS.tswIn X5.here hx rfl (pc0 := 40) (pc' := 82) rfl (hb hby dA1_40) rfl (by decide) rfl (by decide) (by decide) k) ?_
        refine Go.pull (V := T5.setTop (mkF m 83 #[rv a, iv pch, iv 0, iv 0] [(.int 0)])) (fun t k => XS.iloadN X5.here hx rfl (hb hby dA1_82) rfl  k) ?_
        refine Go.pull (V := T5.setTop (mkF m 99 #[rv a, iv pch, iv 0, iv 0] [(.int 0)])) (fun t k => XS.goto X5.here hx rfl (pc0 := 83) (pc' := 99) rfl (hb hby dA1_83) (by decide) (by decide) k) ?_
        exact Go.retN X5 hx Bd.notSynchronized (t := .boolean) Bd.returns (by simp) (hb hby dA1_99) ⟨(by rw [own_let, if_neg hc21_2, if_pos hc27_4] <;> rfl), N5, e5⟩ (by decide) (by decide)
      · skip
        refine Go.pull (V := s₁.setTop (mkF m 30 #[rv a, iv pch, iv 0, .unset] [])) (fun t k => XS.icmpNo X0.here hx rfl (hb hby dA1_27) rfl (XT.ii_gt_f hc27_4) k) ?_
        refine Go.pull (V := s₁.setTop (mkF m 31 #[rv a, iv pch, iv 0, .unset] [(.int 1)])) (fun t k => XS.iconst X0.here hx rfl (hb hby dA1_30) k) ?_
        refine Go.pull (V := s₁.setTop (mkF m 35 #[rv a, iv pch, iv 0, .unset] [(.int 1)])) (fun t k => XS.goto X0.here hx rfl (pc0 := 31) (pc' := 35) rfl (hb hby dA1_31) (by decide) (by decide) k) ?_
        refine Go.pull (V := s₁.setTop (mkF m 36 #[rv a, iv pch, iv 0, iv 1] [])) (fun t k => XS.istoreN X0.here hx rfl (hb hby dA1_35) rfl (l' := #[rv a, iv pch, iv 0, iv 1]) rfl k) ?_
        refine Go.pull (V := s₁.setTop (mkF m 37 #[rv a, iv pch, iv 0, iv 1] [(.ref a)])) (fun t k => XS.aloadN X0.here hx rfl (hb hby dA1_36) rfl rfl k) ?_
        obtain ⟨cq6, kq6, q6a, q6b, q6c⟩ := isOf hZ e0 Ea
        obtain ⟨_, _, ⟨T6, L6, k6, n6⟩, -, X6, ⟨Lc6, hQ6, l6, y6, z6⟩, st6⟩ := X0.virtualBackUp hx (x := (⟨"com/example/disburse/disburse/core/IbanRegistry$Kind", "ordinal", "()I"⟩ : MethodName)) (y := (⟨"java/lang/Enum", "ordinal", "()I"⟩ : MethodName)) (owner := "java/lang/Enum") hown (mvT hZ (hw _ (List.mem_of_getElem? (i := 9) rfl))) (mvT hZ (hw _ (List.mem_of_getElem? (i := 10) rfl))) (mvT hZ (hw _ (List.mem_of_getElem? (i := 11) rfl))) (by decide) (mvT hZ (hw _ (List.mem_of_getElem? (i := 13) rfl))) (mvT hZ (hw _ (List.mem_of_getElem? (i := 12) rfl))) (backOf (W := 0) (rmO l Z a0 hw [] a (1 : Int32) h0 n0 Fo) hZ (hw _ (List.mem_of_getElem? (i := 15) rfl)) (hw _ (List.mem_of_getElem? (i := 14) rfl)) (by decide) (by decide)) q6a q6c (g := (mkF m 37 #[rv a, iv pch, iv 0, iv 1] [(.ref a)])) rfl (by rw [hml]; rfl) (Steps.refl _) (argsL := []) (rest := []) (lenOf pd_0 rfl) rfl (by show 2 * 0 + _ ≤ _; exact Nat.le_of_eq rfl) (hb hby dA1_37) (fun _ _ => ⟨rfl, e0, (by decide : 0 + 0 ≤ _), (by decide : 0 + 0 ≤ _)⟩)
        dsimp only [Pt.U, Pt.locs, Pt.cells, Pt.slots] at X6 l6 y6 z6 st6 hQ6
        subst l6 y6 z6
        obtain ⟨rfl, N6q, e6⟩ := hQ6
        have N6 := Fr.app N0 N6q
        refine Go.pull (V := T6.setTop (mkF m 40 #[rv a, iv pch, iv 0, iv 1] [(.int 1)])) (fun _ k => st6.trans k) ?_
        refine Go.pull (V := T6.setTop (mkF m 82 #[rv a, iv pch, iv 0, iv 1] [])) (fun t k => XS.tswIn X6.here hx rfl (pc0 := 40) (pc' := 82) rfl (hb hby dA1_40) rfl (by decide) rfl (by decide) (by decide) k) ?_
        refine Go.pull (V := T6.setTop (mkF m 83 #[rv a, iv pch, iv 0, iv 1] [(.int 1)])) (fun t k => XS.iloadN X6.here hx rfl (hb hby dA1_82) rfl  k) ?_
        refine Go.pull (V := T6.setTop (mkF m 99 #[rv a, iv pch, iv 0, iv 1] [(.int 1)])) (fun t k => XS.goto X6.here hx rfl (pc0 := 83) (pc' := 99) rfl (hb hby dA1_83) (by decide) (by decide) k) ?_
        exact Go.retN X6 hx Bd.notSynchronized (t := .boolean) Bd.returns (by simp) (hb hby dA1_99) ⟨(by rw [own_let, if_neg hc21_2, if_neg hc27_4] <;> rfl), N6, e6⟩ (by decide) (by decide)
  · skip
    refine Go.pull (V := s₁.setTop (mkF m 6 #[rv a, iv pch, .unset, .unset] [])) (fun t k => XS.icmpNo X0.here hx rfl (hb hby dA1_3) rfl (XT.ii_lt_f hc3_1) k) ?_
    refine Go.pull (V := s₁.setTop (mkF m 7 #[rv a, iv pch, .unset, .unset] [(.int pch)])) (fun t k => XS.iloadN X0.here hx rfl (hb hby dA1_6) rfl  k) ?_
    refine Go.pull (V := s₁.setTop (mkF m 9 #[rv a, iv pch, .unset, .unset] [(.int 57), (.int pch)])) (fun t k => XS.bipush X0.here hx rfl (hb hby dA1_7) k) ?_
    by_cases hc9_7 : (57 : Int32) < pch
    · skip
      refine Go.pull (V := s₁.setTop (mkF m 16 #[rv a, iv pch, .unset, .unset] [])) (fun t k => XS.icmpYes X0.here hx rfl (pc0 := 9) (pc' := 16) rfl (hb hby dA1_9) rfl (XT.ii_gt_t hc9_7) (by decide) (by decide) k) ?_
      refine Go.pull (V := s₁.setTop (mkF m 17 #[rv a, iv pch, .unset, .unset] [(.int 0)])) (fun t k => XS.iconst X0.here hx rfl (hb hby dA1_16) k) ?_
      refine Go.pull (V := s₁.setTop (mkF m 18 #[rv a, iv pch, iv 0, .unset] [])) (fun t k => XS.istoreN X0.here hx rfl (hb hby dA1_17) rfl (l' := #[rv a, iv pch, iv 0, .unset]) rfl k) ?_
      refine Go.pull (V := s₁.setTop (mkF m 19 #[rv a, iv pch, iv 0, .unset] [(.int pch)])) (fun t k => XS.iloadN X0.here hx rfl (hb hby dA1_18) rfl  k) ?_
      refine Go.pull (V := s₁.setTop (mkF m 21 #[rv a, iv pch, iv 0, .unset] [(.int 65), (.int pch)])) (fun t k => XS.bipush X0.here hx rfl (hb hby dA1_19) k) ?_
      by_cases hc21_8 : pch < (65 : Int32)
      · skip
        refine Go.pull (V := s₁.setTop (mkF m 34 #[rv a, iv pch, iv 0, .unset] [])) (fun t k => XS.icmpYes X0.here hx rfl (pc0 := 21) (pc' := 34) rfl (hb hby dA1_21) rfl (XT.ii_lt_t hc21_8) (by decide) (by decide) k) ?_
        refine Go.pull (V := s₁.setTop (mkF m 35 #[rv a, iv pch, iv 0, .unset] [(.int 0)])) (fun t k => XS.iconst X0.here hx rfl (hb hby dA1_34) k) ?_
        refine Go.pull (V := s₁.setTop (mkF m 36 #[rv a, iv pch, iv 0, iv 0] [])) (fun t k => XS.istoreN X0.here hx rfl (hb hby dA1_35) rfl (l' := #[rv a, iv pch, iv 0, iv 0]) rfl k) ?_
        refine Go.pull (V := s₁.setTop (mkF m 37 #[rv a, iv pch, iv 0, iv 0] [(.ref a)])) (fun t k => XS.aloadN X0.here hx rfl (hb hby dA1_36) rfl rfl k) ?_
        obtain ⟨cq9, kq9, q9a, q9b, q9c⟩ := isOf hZ e0 Ea
        obtain ⟨_, _, ⟨T9, L9, k9, n9⟩, -, X9, ⟨Lc9, hQ9, l9, y9, z9⟩, st9⟩ := X0.virtualBackUp hx (x := (⟨"com/example/disburse/disburse/core/IbanRegistry$Kind", "ordinal", "()I"⟩ : MethodName)) (y := (⟨"java/lang/Enum", "ordinal", "()I"⟩ : MethodName)) (owner := "java/lang/Enum") hown (mvT hZ (hw _ (List.mem_of_getElem? (i := 9) rfl))) (mvT hZ (hw _ (List.mem_of_getElem? (i := 10) rfl))) (mvT hZ (hw _ (List.mem_of_getElem? (i := 11) rfl))) (by decide) (mvT hZ (hw _ (List.mem_of_getElem? (i := 13) rfl))) (mvT hZ (hw _ (List.mem_of_getElem? (i := 12) rfl))) (backOf (W := 0) (rmO l Z a0 hw [] a (1 : Int32) h0 n0 Fo) hZ (hw _ (List.mem_of_getElem? (i := 15) rfl)) (hw _ (List.mem_of_getElem? (i := 14) rfl)) (by decide) (by decide)) q9a q9c (g := (mkF m 37 #[rv a, iv pch, iv 0, iv 0] [(.ref a)])) rfl (by rw [hml]; rfl) (Steps.refl _) (argsL := []) (rest := []) (lenOf pd_0 rfl) rfl (by show 2 * 0 + _ ≤ _; exact Nat.le_of_eq rfl) (hb hby dA1_37) (fun _ _ => ⟨rfl, e0, (by decide : 0 + 0 ≤ _), (by decide : 0 + 0 ≤ _)⟩)
        dsimp only [Pt.U, Pt.locs, Pt.cells, Pt.slots] at X9 l9 y9 z9 st9 hQ9
        subst l9 y9 z9
        obtain ⟨rfl, N9q, e9⟩ := hQ9
        have N9 := Fr.app N0 N9q
        refine Go.pull (V := T9.setTop (mkF m 40 #[rv a, iv pch, iv 0, iv 0] [(.int 1)])) (fun _ k => st9.trans k) ?_
        refine Go.pull (V := T9.setTop (mkF m 82 #[rv a, iv pch, iv 0, iv 0] [])) (fun t k => XS.tswIn X9.here hx rfl (pc0 := 40) (pc' := 82) rfl (hb hby dA1_40) rfl (by decide) rfl (by decide) (by decide) k) ?_
        refine Go.pull (V := T9.setTop (mkF m 83 #[rv a, iv pch, iv 0, iv 0] [(.int 0)])) (fun t k => XS.iloadN X9.here hx rfl (hb hby dA1_82) rfl  k) ?_
        refine Go.pull (V := T9.setTop (mkF m 99 #[rv a, iv pch, iv 0, iv 0] [(.int 0)])) (fun t k => XS.goto X9.here hx rfl (pc0 := 83) (pc' := 99) rfl (hb hby dA1_83) (by decide) (by decide) k) ?_
        exact Go.retN X9 hx Bd.notSynchronized (t := .boolean) Bd.returns (by simp) (hb hby dA1_99) ⟨(by rw [own_let, if_pos hc21_8] <;> rfl), N9, e9⟩ (by decide) (by decide)
      · skip
        refine Go.pull (V := s₁.setTop (mkF m 24 #[rv a, iv pch, iv 0, .unset] [])) (fun t k => XS.icmpNo X0.here hx rfl (hb hby dA1_21) rfl (XT.ii_lt_f hc21_8) k) ?_
        refine Go.pull (V := s₁.setTop (mkF m 25 #[rv a, iv pch, iv 0, .unset] [(.int pch)])) (fun t k => XS.iloadN X0.here hx rfl (hb hby dA1_24) rfl  k) ?_
        refine Go.pull (V := s₁.setTop (mkF m 27 #[rv a, iv pch, iv 0, .unset] [(.int 90), (.int pch)])) (fun t k => XS.bipush X0.here hx rfl (hb hby dA1_25) k) ?_
        by_cases hc27_10 : (90 : Int32) < pch
        · skip
          refine Go.pull (V := s₁.setTop (mkF m 34 #[rv a, iv pch, iv 0, .unset] [])) (fun t k => XS.icmpYes X0.here hx rfl (pc0 := 27) (pc' := 34) rfl (hb hby dA1_27) rfl (XT.ii_gt_t hc27_10) (by decide) (by decide) k) ?_
          refine Go.pull (V := s₁.setTop (mkF m 35 #[rv a, iv pch, iv 0, .unset] [(.int 0)])) (fun t k => XS.iconst X0.here hx rfl (hb hby dA1_34) k) ?_
          refine Go.pull (V := s₁.setTop (mkF m 36 #[rv a, iv pch, iv 0, iv 0] [])) (fun t k => XS.istoreN X0.here hx rfl (hb hby dA1_35) rfl (l' := #[rv a, iv pch, iv 0, iv 0]) rfl k) ?_
          refine Go.pull (V := s₁.setTop (mkF m 37 #[rv a, iv pch, iv 0, iv 0] [(.ref a)])) (fun t k => XS.aloadN X0.here hx rfl (hb hby dA1_36) rfl rfl k) ?_
          obtain ⟨cq11, kq11, q11a, q11b, q11c⟩ := isOf hZ e0 Ea
          obtain ⟨_, _, ⟨T11, L11, k11, n11⟩, -, X11, ⟨Lc11, hQ11, l11, y11, z11⟩, st11⟩ := X0.virtualBackUp hx (x := (⟨"com/example/disburse/disburse/core/IbanRegistry$Kind", "ordinal", "()I"⟩ : MethodName)) (y := (⟨"java/lang/Enum", "ordinal", "()I"⟩ : MethodName)) (owner := "java/lang/Enum") hown (mvT hZ (hw _ (List.mem_of_getElem? (i := 9) rfl))) (mvT hZ (hw _ (List.mem_of_getElem? (i := 10) rfl))) (mvT hZ (hw _ (List.mem_of_getElem? (i := 11) rfl))) (by decide) (mvT hZ (hw _ (List.mem_of_getElem? (i := 13) rfl))) (mvT hZ (hw _ (List.mem_of_getElem? (i := 12) rfl))) (backOf (W := 0) (rmO l Z a0 hw [] a (1 : Int32) h0 n0 Fo) hZ (hw _ (List.mem_of_getElem? (i := 15) rfl)) (hw _ (List.mem_of_getElem? (i := 14) rfl)) (by decide) (by decide)) q11a q11c (g := (mkF m 37 #[rv a, iv pch, iv 0, iv 0] [(.ref a)])) rfl (by rw [hml]; rfl) (Steps.refl _) (argsL := []) (rest := []) (lenOf pd_0 rfl) rfl (by show 2 * 0 + _ ≤ _; exact Nat.le_of_eq rfl) (hb hby dA1_37) (fun _ _ => ⟨rfl, e0, (by decide : 0 + 0 ≤ _), (by decide : 0 + 0 ≤ _)⟩)
          dsimp only [Pt.U, Pt.locs, Pt.cells, Pt.slots] at X11 l11 y11 z11 st11 hQ11
          subst l11 y11 z11
          obtain ⟨rfl, N11q, e11⟩ := hQ11
          have N11 := Fr.app N0 N11q
          refine Go.pull (V := T11.setTop (mkF m 40 #[rv a, iv pch, iv 0, iv 0] [(.int 1)])) (fun _ k => st11.trans k) ?_
          refine Go.pull (V := T11.setTop (mkF m 82 #[rv a, iv pch, iv 0, iv 0] [])) (fun t k => XS.tswIn X11.here hx rfl (pc0 := 40) (pc' := 82) rfl (hb hby dA1_40) rfl (by decide) rfl (by decide) (by decide) k) ?_
          refine Go.pull (V := T11.setTop (mkF m 83 #[rv a, iv pch, iv 0, iv 0] [(.int 0)])) (fun t k => XS.iloadN X11.here hx rfl (hb hby dA1_82) rfl  k) ?_
          refine Go.pull (V := T11.setTop (mkF m 99 #[rv a, iv pch, iv 0, iv 0] [(.int 0)])) (fun t k => XS.goto X11.here hx rfl (pc0 := 83) (pc' := 99) rfl (hb hby dA1_83) (by decide) (by decide) k) ?_
          exact Go.retN X11 hx Bd.notSynchronized (t := .boolean) Bd.returns (by simp) (hb hby dA1_99) ⟨(by rw [own_let, if_neg hc21_8, if_pos hc27_10] <;> rfl), N11, e11⟩ (by decide) (by decide)
        · skip
          refine Go.pull (V := s₁.setTop (mkF m 30 #[rv a, iv pch, iv 0, .unset] [])) (fun t k => XS.icmpNo X0.here hx rfl (hb hby dA1_27) rfl (XT.ii_gt_f hc27_10) k) ?_
          refine Go.pull (V := s₁.setTop (mkF m 31 #[rv a, iv pch, iv 0, .unset] [(.int 1)])) (fun t k => XS.iconst X0.here hx rfl (hb hby dA1_30) k) ?_
          refine Go.pull (V := s₁.setTop (mkF m 35 #[rv a, iv pch, iv 0, .unset] [(.int 1)])) (fun t k => XS.goto X0.here hx rfl (pc0 := 31) (pc' := 35) rfl (hb hby dA1_31) (by decide) (by decide) k) ?_
          refine Go.pull (V := s₁.setTop (mkF m 36 #[rv a, iv pch, iv 0, iv 1] [])) (fun t k => XS.istoreN X0.here hx rfl (hb hby dA1_35) rfl (l' := #[rv a, iv pch, iv 0, iv 1]) rfl k) ?_
          refine Go.pull (V := s₁.setTop (mkF m 37 #[rv a, iv pch, iv 0, iv 1] [(.ref a)])) (fun t k => XS.aloadN X0.here hx rfl (hb hby dA1_36) rfl rfl k) ?_
          obtain ⟨cq12, kq12, q12a, q12b, q12c⟩ := isOf hZ e0 Ea
          obtain ⟨_, _, ⟨T12, L12, k12, n12⟩, -, X12, ⟨Lc12, hQ12, l12, y12, z12⟩, st12⟩ := X0.virtualBackUp hx (x := (⟨"com/example/disburse/disburse/core/IbanRegistry$Kind", "ordinal", "()I"⟩ : MethodName)) (y := (⟨"java/lang/Enum", "ordinal", "()I"⟩ : MethodName)) (owner := "java/lang/Enum") hown (mvT hZ (hw _ (List.mem_of_getElem? (i := 9) rfl))) (mvT hZ (hw _ (List.mem_of_getElem? (i := 10) rfl))) (mvT hZ (hw _ (List.mem_of_getElem? (i := 11) rfl))) (by decide) (mvT hZ (hw _ (List.mem_of_getElem? (i := 13) rfl))) (mvT hZ (hw _ (List.mem_of_getElem? (i := 12) rfl))) (backOf (W := 0) (rmO l Z a0 hw [] a (1 : Int32) h0 n0 Fo) hZ (hw _ (List.mem_of_getElem? (i := 15) rfl)) (hw _ (List.mem_of_getElem? (i := 14) rfl)) (by decide) (by decide)) q12a q12c (g := (mkF m 37 #[rv a, iv pch, iv 0, iv 1] [(.ref a)])) rfl (by rw [hml]; rfl) (Steps.refl _) (argsL := []) (rest := []) (lenOf pd_0 rfl) rfl (by show 2 * 0 + _ ≤ _; exact Nat.le_of_eq rfl) (hb hby dA1_37) (fun _ _ => ⟨rfl, e0, (by decide : 0 + 0 ≤ _), (by decide : 0 + 0 ≤ _)⟩)
          dsimp only [Pt.U, Pt.locs, Pt.cells, Pt.slots] at X12 l12 y12 z12 st12 hQ12
          subst l12 y12 z12
          obtain ⟨rfl, N12q, e12⟩ := hQ12
          have N12 := Fr.app N0 N12q
          refine Go.pull (V := T12.setTop (mkF m 40 #[rv a, iv pch, iv 0, iv 1] [(.int 1)])) (fun _ k => st12.trans k) ?_
          refine Go.pull (V := T12.setTop (mkF m 82 #[rv a, iv pch, iv 0, iv 1] [])) (fun t k => XS.tswIn X12.here hx rfl (pc0 := 40) (pc' := 82) rfl (hb hby dA1_40) rfl (by decide) rfl (by decide) (by decide) k) ?_
          refine Go.pull (V := T12.setTop (mkF m 83 #[rv a, iv pch, iv 0, iv 1] [(.int 1)])) (fun t k => XS.iloadN X12.here hx rfl (hb hby dA1_82) rfl  k) ?_
          refine Go.pull (V := T12.setTop (mkF m 99 #[rv a, iv pch, iv 0, iv 1] [(.int 1)])) (fun t k => XS.goto X12.here hx rfl (pc0 := 83) (pc' := 99) rfl (hb hby dA1_83) (by decide) (by decide) k) ?_
          exact Go.retN X12 hx Bd.notSynchronized (t := .boolean) Bd.returns (by simp) (hb hby dA1_99) ⟨(by rw [own_let, if_neg hc21_8, if_neg hc27_10] <;> rfl), N12, e12⟩ (by decide) (by decide)
    · skip
      refine Go.pull (V := s₁.setTop (mkF m 12 #[rv a, iv pch, .unset, .unset] [])) (fun t k => XS.icmpNo X0.here hx rfl (hb hby dA1_9) rfl (XT.ii_gt_f hc9_7) k) ?_
      refine Go.pull (V := s₁.setTop (mkF m 13 #[rv a, iv pch, .unset, .unset] [(.int 1)])) (fun t k => XS.iconst X0.here hx rfl (hb hby dA1_12) k) ?_
      refine Go.pull (V := s₁.setTop (mkF m 17 #[rv a, iv pch, .unset, .unset] [(.int 1)])) (fun t k => XS.goto X0.here hx rfl (pc0 := 13) (pc' := 17) rfl (hb hby dA1_13) (by decide) (by decide) k) ?_
      refine Go.pull (V := s₁.setTop (mkF m 18 #[rv a, iv pch, iv 1, .unset] [])) (fun t k => XS.istoreN X0.here hx rfl (hb hby dA1_17) rfl (l' := #[rv a, iv pch, iv 1, .unset]) rfl k) ?_
      refine Go.pull (V := s₁.setTop (mkF m 19 #[rv a, iv pch, iv 1, .unset] [(.int pch)])) (fun t k => XS.iloadN X0.here hx rfl (hb hby dA1_18) rfl  k) ?_
      refine Go.pull (V := s₁.setTop (mkF m 21 #[rv a, iv pch, iv 1, .unset] [(.int 65), (.int pch)])) (fun t k => XS.bipush X0.here hx rfl (hb hby dA1_19) k) ?_
      by_cases hc21_13 : pch < (65 : Int32)
      · skip
        refine Go.pull (V := s₁.setTop (mkF m 34 #[rv a, iv pch, iv 1, .unset] [])) (fun t k => XS.icmpYes X0.here hx rfl (pc0 := 21) (pc' := 34) rfl (hb hby dA1_21) rfl (XT.ii_lt_t hc21_13) (by decide) (by decide) k) ?_
        refine Go.pull (V := s₁.setTop (mkF m 35 #[rv a, iv pch, iv 1, .unset] [(.int 0)])) (fun t k => XS.iconst X0.here hx rfl (hb hby dA1_34) k) ?_
        refine Go.pull (V := s₁.setTop (mkF m 36 #[rv a, iv pch, iv 1, iv 0] [])) (fun t k => XS.istoreN X0.here hx rfl (hb hby dA1_35) rfl (l' := #[rv a, iv pch, iv 1, iv 0]) rfl k) ?_
        refine Go.pull (V := s₁.setTop (mkF m 37 #[rv a, iv pch, iv 1, iv 0] [(.ref a)])) (fun t k => XS.aloadN X0.here hx rfl (hb hby dA1_36) rfl rfl k) ?_
        obtain ⟨cq14, kq14, q14a, q14b, q14c⟩ := isOf hZ e0 Ea
        obtain ⟨_, _, ⟨T14, L14, k14, n14⟩, -, X14, ⟨Lc14, hQ14, l14, y14, z14⟩, st14⟩ := X0.virtualBackUp hx (x := (⟨"com/example/disburse/disburse/core/IbanRegistry$Kind", "ordinal", "()I"⟩ : MethodName)) (y := (⟨"java/lang/Enum", "ordinal", "()I"⟩ : MethodName)) (owner := "java/lang/Enum") hown (mvT hZ (hw _ (List.mem_of_getElem? (i := 9) rfl))) (mvT hZ (hw _ (List.mem_of_getElem? (i := 10) rfl))) (mvT hZ (hw _ (List.mem_of_getElem? (i := 11) rfl))) (by decide) (mvT hZ (hw _ (List.mem_of_getElem? (i := 13) rfl))) (mvT hZ (hw _ (List.mem_of_getElem? (i := 12) rfl))) (backOf (W := 0) (rmO l Z a0 hw [] a (1 : Int32) h0 n0 Fo) hZ (hw _ (List.mem_of_getElem? (i := 15) rfl)) (hw _ (List.mem_of_getElem? (i := 14) rfl)) (by decide) (by decide)) q14a q14c (g := (mkF m 37 #[rv a, iv pch, iv 1, iv 0] [(.ref a)])) rfl (by rw [hml]; rfl) (Steps.refl _) (argsL := []) (rest := []) (lenOf pd_0 rfl) rfl (by show 2 * 0 + _ ≤ _; exact Nat.le_of_eq rfl) (hb hby dA1_37) (fun _ _ => ⟨rfl, e0, (by decide : 0 + 0 ≤ _), (by decide : 0 + 0 ≤ _)⟩)
        dsimp only [Pt.U, Pt.locs, Pt.cells, Pt.slots] at X14 l14 y14 z14 st14 hQ14
        subst l14 y14 z14
        obtain ⟨rfl, N14q, e14⟩ := hQ14
        have N14 := Fr.app N0 N14q
        refine Go.pull (V := T14.setTop (mkF m 40 #[rv a, iv pch, iv 1, iv 0] [(.int 1)])) (fun _ k => st14.trans k) ?_
        refine Go.pull (V := T14.setTop (mkF m 82 #[rv a, iv pch, iv 1, iv 0] [])) (fun t k => XS.tswIn X14.here hx rfl (pc0 := 40) (pc' := 82) rfl (hb hby dA1_40) rfl (by decide) rfl (by decide) (by decide) k) ?_
        refine Go.pull (V := T14.setTop (mkF m 83 #[rv a, iv pch, iv 1, iv 0] [(.int 0)])) (fun t k => XS.iloadN X14.here hx rfl (hb hby dA1_82) rfl  k) ?_
        refine Go.pull (V := T14.setTop (mkF m 99 #[rv a, iv pch, iv 1, iv 0] [(.int 0)])) (fun t k => XS.goto X14.here hx rfl (pc0 := 83) (pc' := 99) rfl (hb hby dA1_83) (by decide) (by decide) k) ?_
        exact Go.retN X14 hx Bd.notSynchronized (t := .boolean) Bd.returns (by simp) (hb hby dA1_99) ⟨(by rw [own_let, if_pos hc21_13] <;> rfl), N14, e14⟩ (by decide) (by decide)
      · skip
        refine Go.pull (V := s₁.setTop (mkF m 24 #[rv a, iv pch, iv 1, .unset] [])) (fun t k => XS.icmpNo X0.here hx rfl (hb hby dA1_21) rfl (XT.ii_lt_f hc21_13) k) ?_
        refine Go.pull (V := s₁.setTop (mkF m 25 #[rv a, iv pch, iv 1, .unset] [(.int pch)])) (fun t k => XS.iloadN X0.here hx rfl (hb hby dA1_24) rfl  k) ?_
        refine Go.pull (V := s₁.setTop (mkF m 27 #[rv a, iv pch, iv 1, .unset] [(.int 90), (.int pch)])) (fun t k => XS.bipush X0.here hx rfl (hb hby dA1_25) k) ?_
        by_cases hc27_15 : (90 : Int32) < pch
        · skip
          refine Go.pull (V := s₁.setTop (mkF m 34 #[rv a, iv pch, iv 1, .unset] [])) (fun t k => XS.icmpYes X0.here hx rfl (pc0 := 27) (pc' := 34) rfl (hb hby dA1_27) rfl (XT.ii_gt_t hc27_15) (by decide) (by decide) k) ?_
          refine Go.pull (V := s₁.setTop (mkF m 35 #[rv a, iv pch, iv 1, .unset] [(.int 0)])) (fun t k => XS.iconst X0.here hx rfl (hb hby dA1_34) k) ?_
          refine Go.pull (V := s₁.setTop (mkF m 36 #[rv a, iv pch, iv 1, iv 0] [])) (fun t k => XS.istoreN X0.here hx rfl (hb hby dA1_35) rfl (l' := #[rv a, iv pch, iv 1, iv 0]) rfl k) ?_
          refine Go.pull (V := s₁.setTop (mkF m 37 #[rv a, iv pch, iv 1, iv 0] [(.ref a)])) (fun t k => XS.aloadN X0.here hx rfl (hb hby dA1_36) rfl rfl k) ?_
          obtain ⟨cq16, kq16, q16a, q16b, q16c⟩ := isOf hZ e0 Ea
          obtain ⟨_, _, ⟨T16, L16, k16, n16⟩, -, X16, ⟨Lc16, hQ16, l16, y16, z16⟩, st16⟩ := X0.virtualBackUp hx (x := (⟨"com/example/disburse/disburse/core/IbanRegistry$Kind", "ordinal", "()I"⟩ : MethodName)) (y := (⟨"java/lang/Enum", "ordinal", "()I"⟩ : MethodName)) (owner := "java/lang/Enum") hown (mvT hZ (hw _ (List.mem_of_getElem? (i := 9) rfl))) (mvT hZ (hw _ (List.mem_of_getElem? (i := 10) rfl))) (mvT hZ (hw _ (List.mem_of_getElem? (i := 11) rfl))) (by decide) (mvT hZ (hw _ (List.mem_of_getElem? (i := 13) rfl))) (mvT hZ (hw _ (List.mem_of_getElem? (i := 12) rfl))) (backOf (W := 0) (rmO l Z a0 hw [] a (1 : Int32) h0 n0 Fo) hZ (hw _ (List.mem_of_getElem? (i := 15) rfl)) (hw _ (List.mem_of_getElem? (i := 14) rfl)) (by decide) (by decide)) q16a q16c (g := (mkF m 37 #[rv a, iv pch, iv 1, iv 0] [(.ref a)])) rfl (by rw [hml]; rfl) (Steps.refl _) (argsL := []) (rest := []) (lenOf pd_0 rfl) rfl (by show 2 * 0 + _ ≤ _; exact Nat.le_of_eq rfl) (hb hby dA1_37) (fun _ _ => ⟨rfl, e0, (by decide : 0 + 0 ≤ _), (by decide : 0 + 0 ≤ _)⟩)
          dsimp only [Pt.U, Pt.locs, Pt.cells, Pt.slots] at X16 l16 y16 z16 st16 hQ16
          subst l16 y16 z16
          obtain ⟨rfl, N16q, e16⟩ := hQ16
          have N16 := Fr.app N0 N16q
          refine Go.pull (V := T16.setTop (mkF m 40 #[rv a, iv pch, iv 1, iv 0] [(.int 1)])) (fun _ k => st16.trans k) ?_
          refine Go.pull (V := T16.setTop (mkF m 82 #[rv a, iv pch, iv 1, iv 0] [])) (fun t k => XS.tswIn X16.here hx rfl (pc0 := 40) (pc' := 82) rfl (hb hby dA1_40) rfl (by decide) rfl (by decide) (by decide) k) ?_
          refine Go.pull (V := T16.setTop (mkF m 83 #[rv a, iv pch, iv 1, iv 0] [(.int 0)])) (fun t k => XS.iloadN X16.here hx rfl (hb hby dA1_82) rfl  k) ?_
          refine Go.pull (V := T16.setTop (mkF m 99 #[rv a, iv pch, iv 1, iv 0] [(.int 0)])) (fun t k => XS.goto X16.here hx rfl (pc0 := 83) (pc' := 99) rfl (hb hby dA1_83) (by decide) (by decide) k) ?_
          exact Go.retN X16 hx Bd.notSynchronized (t := .boolean) Bd.returns (by simp) (hb hby dA1_99) ⟨(by rw [own_let, if_neg hc21_13, if_pos hc27_15] <;> rfl), N16, e16⟩ (by decide) (by decide)
        · skip
          refine Go.pull (V := s₁.setTop (mkF m 30 #[rv a, iv pch, iv 1, .unset] [])) (fun t k => XS.icmpNo X0.here hx rfl (hb hby dA1_27) rfl (XT.ii_gt_f hc27_15) k) ?_
          refine Go.pull (V := s₁.setTop (mkF m 31 #[rv a, iv pch, iv 1, .unset] [(.int 1)])) (fun t k => XS.iconst X0.here hx rfl (hb hby dA1_30) k) ?_
          refine Go.pull (V := s₁.setTop (mkF m 35 #[rv a, iv pch, iv 1, .unset] [(.int 1)])) (fun t k => XS.goto X0.here hx rfl (pc0 := 31) (pc' := 35) rfl (hb hby dA1_31) (by decide) (by decide) k) ?_
          refine Go.pull (V := s₁.setTop (mkF m 36 #[rv a, iv pch, iv 1, iv 1] [])) (fun t k => XS.istoreN X0.here hx rfl (hb hby dA1_35) rfl (l' := #[rv a, iv pch, iv 1, iv 1]) rfl k) ?_
          refine Go.pull (V := s₁.setTop (mkF m 37 #[rv a, iv pch, iv 1, iv 1] [(.ref a)])) (fun t k => XS.aloadN X0.here hx rfl (hb hby dA1_36) rfl rfl k) ?_
          obtain ⟨cq17, kq17, q17a, q17b, q17c⟩ := isOf hZ e0 Ea
          obtain ⟨_, _, ⟨T17, L17, k17, n17⟩, -, X17, ⟨Lc17, hQ17, l17, y17, z17⟩, st17⟩ := X0.virtualBackUp hx (x := (⟨"com/example/disburse/disburse/core/IbanRegistry$Kind", "ordinal", "()I"⟩ : MethodName)) (y := (⟨"java/lang/Enum", "ordinal", "()I"⟩ : MethodName)) (owner := "java/lang/Enum") hown (mvT hZ (hw _ (List.mem_of_getElem? (i := 9) rfl))) (mvT hZ (hw _ (List.mem_of_getElem? (i := 10) rfl))) (mvT hZ (hw _ (List.mem_of_getElem? (i := 11) rfl))) (by decide) (mvT hZ (hw _ (List.mem_of_getElem? (i := 13) rfl))) (mvT hZ (hw _ (List.mem_of_getElem? (i := 12) rfl))) (backOf (W := 0) (rmO l Z a0 hw [] a (1 : Int32) h0 n0 Fo) hZ (hw _ (List.mem_of_getElem? (i := 15) rfl)) (hw _ (List.mem_of_getElem? (i := 14) rfl)) (by decide) (by decide)) q17a q17c (g := (mkF m 37 #[rv a, iv pch, iv 1, iv 1] [(.ref a)])) rfl (by rw [hml]; rfl) (Steps.refl _) (argsL := []) (rest := []) (lenOf pd_0 rfl) rfl (by show 2 * 0 + _ ≤ _; exact Nat.le_of_eq rfl) (hb hby dA1_37) (fun _ _ => ⟨rfl, e0, (by decide : 0 + 0 ≤ _), (by decide : 0 + 0 ≤ _)⟩)
          dsimp only [Pt.U, Pt.locs, Pt.cells, Pt.slots] at X17 l17 y17 z17 st17 hQ17
          subst l17 y17 z17
          obtain ⟨rfl, N17q, e17⟩ := hQ17
          have N17 := Fr.app N0 N17q
          refine Go.pull (V := T17.setTop (mkF m 40 #[rv a, iv pch, iv 1, iv 1] [(.int 1)])) (fun _ k => st17.trans k) ?_
          refine Go.pull (V := T17.setTop (mkF m 82 #[rv a, iv pch, iv 1, iv 1] [])) (fun t k => XS.tswIn X17.here hx rfl (pc0 := 40) (pc' := 82) rfl (hb hby dA1_40) rfl (by decide) rfl (by decide) (by decide) k) ?_
          refine Go.pull (V := T17.setTop (mkF m 83 #[rv a, iv pch, iv 1, iv 1] [(.int 1)])) (fun t k => XS.iloadN X17.here hx rfl (hb hby dA1_82) rfl  k) ?_
          refine Go.pull (V := T17.setTop (mkF m 99 #[rv a, iv pch, iv 1, iv 1] [(.int 1)])) (fun t k => XS.goto X17.here hx rfl (pc0 := 83) (pc' := 99) rfl (hb hby dA1_83) (by decide) (by decide) k) ?_
          exact Go.retN X17 hx Bd.notSynchronized (t := .boolean) Bd.returns (by simp) (hb hby dA1_99) ⟨(by rw [own_let, if_neg hc21_13, if_neg hc27_15] <;> rfl), N17, e17⟩ (by decide) (by decide)
theorem dA2_0 : decode prog_27_method_4_code 0 = .ok (.iload_n 1, 1) := by decide +kernel
theorem dA2_1 : decode prog_27_method_4_code 1 = .ok (.bipush 48, 2) := by decide +kernel
theorem dA2_3 : decode prog_27_method_4_code 3 = .ok (.if_icmp .lt 13, 3) := by decide +kernel
theorem dA2_6 : decode prog_27_method_4_code 6 = .ok (.iload_n 1, 1) := by decide +kernel
theorem dA2_7 : decode prog_27_method_4_code 7 = .ok (.bipush 57, 2) := by decide +kernel
theorem dA2_9 : decode prog_27_method_4_code 9 = .ok (.if_icmp .gt 7, 3) := by decide +kernel
theorem dA2_12 : decode prog_27_method_4_code 12 = .ok (.iconst 1, 1) := by decide +kernel
theorem dA2_13 : decode prog_27_method_4_code 13 = .ok (.goto 4, 3) := by decide +kernel
theorem dA2_16 : decode prog_27_method_4_code 16 = .ok (.iconst 0, 1) := by decide +kernel
theorem dA2_17 : decode prog_27_method_4_code 17 = .ok (.istore_n 2, 1) := by decide +kernel
theorem dA2_18 : decode prog_27_method_4_code 18 = .ok (.iload_n 1, 1) := by decide +kernel
theorem dA2_19 : decode prog_27_method_4_code 19 = .ok (.bipush 65, 2) := by decide +kernel
theorem dA2_21 : decode prog_27_method_4_code 21 = .ok (.if_icmp .lt 13, 3) := by decide +kernel
theorem dA2_24 : decode prog_27_method_4_code 24 = .ok (.iload_n 1, 1) := by decide +kernel
theorem dA2_25 : decode prog_27_method_4_code 25 = .ok (.bipush 90, 2) := by decide +kernel
theorem dA2_27 : decode prog_27_method_4_code 27 = .ok (.if_icmp .gt 7, 3) := by decide +kernel
theorem dA2_30 : decode prog_27_method_4_code 30 = .ok (.iconst 1, 1) := by decide +kernel
theorem dA2_31 : decode prog_27_method_4_code 31 = .ok (.goto 4, 3) := by decide +kernel
theorem dA2_34 : decode prog_27_method_4_code 34 = .ok (.iconst 0, 1) := by decide +kernel
theorem dA2_35 : decode prog_27_method_4_code 35 = .ok (.istore_n 3, 1) := by decide +kernel
theorem dA2_36 : decode prog_27_method_4_code 36 = .ok (.aload_n 0, 1) := by decide +kernel
theorem dA2_37 : decode prog_27_method_4_code 37 = .ok (.invokevirtual 43, 3) := by decide +kernel
theorem dA2_40 : decode prog_27_method_4_code 40 = .ok (.tableswitch 28 0 2 #[38, 42, 46], 28) := by decide +kernel
theorem dA2_86 : decode prog_27_method_4_code 86 = .ok (.iload_n 2, 1) := by decide +kernel
theorem dA2_87 : decode prog_27_method_4_code 87 = .ok (.ifCond .ne 7, 3) := by decide +kernel
theorem dA2_90 : decode prog_27_method_4_code 90 = .ok (.iload_n 3, 1) := by decide +kernel
theorem dA2_91 : decode prog_27_method_4_code 91 = .ok (.ifCond .eq 7, 3) := by decide +kernel
theorem dA2_94 : decode prog_27_method_4_code 94 = .ok (.iconst 1, 1) := by decide +kernel
theorem dA2_95 : decode prog_27_method_4_code 95 = .ok (.goto 4, 3) := by decide +kernel
theorem dA2_98 : decode prog_27_method_4_code 98 = .ok (.iconst 0, 1) := by decide +kernel
theorem dA2_99 : decode prog_27_method_4_code 99 = .ok (.ireturn, 1) := by decide +kernel
theorem efA2 (m : MethodId) (x0 : Addr) (x1 : Int32) : entryFrame m #[(.ref x0), (.int x1)] 4 = mkF m 0 #[rv x0, iv x1, .unset, .unset] [] := by first | (simp [entryFrame, mkF, argsToLocals, Value.category]; done) | rfl
def QA2 (Z : State) (a : Addr) (pch : Int32) (h0 : Heap) (n0 : Nat) (v : Option Value) (h : Heap) (L : List Loc) : Prop := v = some (.int (own_lod pch)) ∧ Fr n0 L ∧ h = h0
set_option maxRecDepth 65536 in
set_option maxHeartbeats 40000000 in
theorem rmA2 (l : Launch) (Z : State) (a0 : Array Value) (hw : ∀ d ∈ tables_1, d.before a0 Z = true) (ws : List Jvm.Cond) (a : Addr) (pch : Int32) (h0 : Heap) (n0 : Nat) (Ea : Exa Z h0 a "com/example/disburse/disburse/core/IbanRegistry$Kind") (Fo : Fld Z h0 a "java/lang/Enum" "ordinal" "I" (.int 2)) :
    MetFree l (⟨"com/example/disburse/disburse/core/IbanRegistry$Kind", "admits", "(C)Z"⟩ : MethodName) (head1 (Jvm.Cond.code (⟨"com/example/disburse/disburse/core/IbanRegistry$Kind", "admits", "(C)Z"⟩ : MethodName) prog_27_method_4_code 4 (some .boolean) :: ws) ({ frames := 1, cells := 0, slots := 0, locals := 12 } : Room)) (fun as' U => as' = #[(.ref a), (.int pch)] ∧ Z.Warmed39 U.vm ∧ U.heap = h0) (fun _ _ _ _ _ => True) (fun _ U o U' => ∃ v L, o = .returned v ∧ QA2 Z a pch h0 n0 v U'.heap L ∧ FrameEnd U o U' L ({ frames := 1, cells := 0, slots := 0, locals := 12 } : Room).cells ({ frames := 1, cells := 0, slots := 0, locals := 12 } : Room).slots) := by
  refine MetFree.of_bodySF (plainFor_of_name pn_com_example_disburse_disburse_core_IbanRegistry_Kind) hisR ?_
  intro p e s m args below meth c s₁ Bd hml0 hP hK
  obtain ⟨rfl, hZ, hh⟩ := hP
  have hx := Bd.exec
  have hby := Bd.bytes
  have hml : c.maxLocals = 4 := hml0
  have hown : s.vm.findClass "com/example/disburse/disburse/core/IbanRegistry$Kind" = some m.cls := findClass_of_methodNamed Bd.named
  have hnm := (name_of_methodNamed Bd.named Bd.method).1
  have X0 : Stand p l e ({ frames := 1, cells := 0, slots := 0, locals := 12 } : Room) s m #[(.ref a), (.int pch)] below meth c s₁ [] 0 0 := Stand.of_body Bd
  have e0 : s₁.heap = h0 := by rw [← hh, Bd.state]; rfl
  have N0 := Fr.nil n0
  show Go p e below s (fun v h L => QA2 Z a pch h0 n0 v h L) 0 0 _
  refine Go.pull (V := s₁.setTop (mkF m 0 #[rv a, iv pch, .unset, .unset] [])) (fun t k => castTop (efA2 m a pch) k) ?_
  refine Go.pull (V := s₁.setTop (mkF m 1 #[rv a, iv pch, .unset, .unset] [(.int pch)])) (fun t k => XS.iloadN X0.here hx rfl (hb hby dA2_0) rfl  k) ?_
  refine Go.pull (V := s₁.setTop (mkF m 3 #[rv a, iv pch, .unset, .unset] [(.int 48), (.int pch)])) (fun t k => XS.bipush X0.here hx rfl (hb hby dA2_1) k) ?_
  by_cases hc3_1 : pch < (48 : Int32)
  · skip
    refine Go.pull (V := s₁.setTop (mkF m 16 #[rv a, iv pch, .unset, .unset] [])) (fun t k => XS.icmpYes X0.here hx rfl (pc0 := 3) (pc' := 16) rfl (hb hby dA2_3) rfl (XT.ii_lt_t hc3_1) (by decide) (by decide) k) ?_
    refine Go.pull (V := s₁.setTop (mkF m 17 #[rv a, iv pch, .unset, .unset] [(.int 0)])) (fun t k => XS.iconst X0.here hx rfl (hb hby dA2_16) k) ?_
    refine Go.pull (V := s₁.setTop (mkF m 18 #[rv a, iv pch, iv 0, .unset] [])) (fun t k => XS.istoreN X0.here hx rfl (hb hby dA2_17) rfl (l' := #[rv a, iv pch, iv 0, .unset]) rfl k) ?_
    refine Go.pull (V := s₁.setTop (mkF m 19 #[rv a, iv pch, iv 0, .unset] [(.int pch)])) (fun t k => XS.iloadN X0.here hx rfl (hb hby dA2_18) rfl  k) ?_
    refine Go.pull (V := s₁.setTop (mkF m 21 #[rv a, iv pch, iv 0, .unset] [(.int 65), (.int pch)])) (fun t k => XS.bipush X0.here hx rfl (hb hby dA2_19) k) ?_
    by_cases hc21_2 : pch < (65 : Int32)
    · skip
      refine Go.pull (V := s₁.setTop (mkF m 34 #[rv a, iv pch, iv 0, .unset] [])) (fun t k => XS.icmpYes X0.here hx rfl (pc0 := 21) (pc' := 34) rfl (hb hby dA2_21) rfl (XT.ii_lt_t hc21_2) (by decide) (by decide) k) ?_
      refine Go.pull (V := s₁.setTop (mkF m 35 #[rv a, iv pch, iv 0, .unset] [(.int 0)])) (fun t k => XS.iconst X0.here hx rfl (hb hby dA2_34) k) ?_
      refine Go.pull (V := s₁.setTop (mkF m 36 #[rv a, iv pch, iv 0, iv 0] [])) (fun t k => XS.istoreN X0.here hx rfl (hb hby dA2_35) rfl (l' := #[rv a, iv pch, iv 0, iv 0]) rfl k) ?_
      refine Go.pull (V := s₁.setTop (mkF m 37 #[rv a, iv pch, iv 0, iv 0] [(.ref a)])) (fun t k => XS.aloadN X0.here hx rfl (hb hby dA2_36) rfl rfl k) ?_
      obtain ⟨cq3, kq3, q3a, q3b, q3c⟩ := isOf hZ e0 Ea
      obtain ⟨_, _, ⟨T3, L3, k3, n3⟩, -, X3, ⟨Lc3, hQ3, l3, y3, z3⟩, st3⟩ := X0.virtualBackUp hx (x := (⟨"com/example/disburse/disburse/core/IbanRegistry$Kind", "ordinal", "()I"⟩ : MethodName)) (y := (⟨"java/lang/Enum", "ordinal", "()I"⟩ : MethodName)) (owner := "java/lang/Enum") hown (mvT hZ (hw _ (List.mem_of_getElem? (i := 9) rfl))) (mvT hZ (hw _ (List.mem_of_getElem? (i := 10) rfl))) (mvT hZ (hw _ (List.mem_of_getElem? (i := 11) rfl))) (by decide) (mvT hZ (hw _ (List.mem_of_getElem? (i := 13) rfl))) (mvT hZ (hw _ (List.mem_of_getElem? (i := 12) rfl))) (backOf (W := 0) (rmO l Z a0 hw [] a (2 : Int32) h0 n0 Fo) hZ (hw _ (List.mem_of_getElem? (i := 15) rfl)) (hw _ (List.mem_of_getElem? (i := 14) rfl)) (by decide) (by decide)) q3a q3c (g := (mkF m 37 #[rv a, iv pch, iv 0, iv 0] [(.ref a)])) rfl (by rw [hml]; rfl) (Steps.refl _) (argsL := []) (rest := []) (lenOf pd_0 rfl) rfl (by show 2 * 0 + _ ≤ _; exact Nat.le_of_eq rfl) (hb hby dA2_37) (fun _ _ => ⟨rfl, e0, (by decide : 0 + 0 ≤ _), (by decide : 0 + 0 ≤ _)⟩)
      dsimp only [Pt.U, Pt.locs, Pt.cells, Pt.slots] at X3 l3 y3 z3 st3 hQ3
      subst l3 y3 z3
      obtain ⟨rfl, N3q, e3⟩ := hQ3
      have N3 := Fr.app N0 N3q
      refine Go.pull (V := T3.setTop (mkF m 40 #[rv a, iv pch, iv 0, iv 0] [(.int 2)])) (fun _ k => st3.trans k) ?_
      refine Go.pull (V := T3.setTop (mkF m 86 #[rv a, iv pch, iv 0, iv 0] [])) (fun t k => XS.tswIn X3.here hx rfl (pc0 := 40) (pc' := 86) rfl (hb hby dA2_40) rfl (by decide) rfl (by decide) (by decide) k) ?_
      refine Go.pull (V := T3.setTop (mkF m 87 #[rv a, iv pch, iv 0, iv 0] [(.int 0)])) (fun t k => XS.iloadN X3.here hx rfl (hb hby dA2_86) rfl  k) ?_
      refine Go.pull (V := T3.setTop (mkF m 90 #[rv a, iv pch, iv 0, iv 0] [])) (fun t k => XS.ifNo X3.here hx rfl (hb hby dA2_87) rfl (XT.i0_ne_f (by decide)) k) ?_
      refine Go.pull (V := T3.setTop (mkF m 91 #[rv a, iv pch, iv 0, iv 0] [(.int 0)])) (fun t k => XS.iloadN X3.here hx rfl (hb hby dA2_90) rfl  k) ?_
      refine Go.pull (V := T3.setTop (mkF m 98 #[rv a, iv pch, iv 0, iv 0] [])) (fun t k => XS.ifYes X3.here hx rfl (pc0 := 91) (pc' := 98) rfl (hb hby dA2_91) rfl (XT.i0_eq_t (by decide)) (by decide) (by decide) k) ?_
      refine Go.pull (V := T3.setTop (mkF m 99 #[rv a, iv pch, iv 0, iv 0] [(.int 0)])) (fun t k => XS.iconst X3.here hx rfl (hb hby dA2_98) k) ?_
      exact Go.retN X3 hx Bd.notSynchronized (t := .boolean) Bd.returns (by simp) (hb hby dA2_99) ⟨(by rw [own_lod, if_pos hc3_1, if_pos hc21_2] <;> rfl), N3, e3⟩ (by decide) (by decide)
    · skip
      refine Go.pull (V := s₁.setTop (mkF m 24 #[rv a, iv pch, iv 0, .unset] [])) (fun t k => XS.icmpNo X0.here hx rfl (hb hby dA2_21) rfl (XT.ii_lt_f hc21_2) k) ?_
      refine Go.pull (V := s₁.setTop (mkF m 25 #[rv a, iv pch, iv 0, .unset] [(.int pch)])) (fun t k => XS.iloadN X0.here hx rfl (hb hby dA2_24) rfl  k) ?_
      refine Go.pull (V := s₁.setTop (mkF m 27 #[rv a, iv pch, iv 0, .unset] [(.int 90), (.int pch)])) (fun t k => XS.bipush X0.here hx rfl (hb hby dA2_25) k) ?_
      by_cases hc27_4 : (90 : Int32) < pch
      · skip
        refine Go.pull (V := s₁.setTop (mkF m 34 #[rv a, iv pch, iv 0, .unset] [])) (fun t k => XS.icmpYes X0.here hx rfl (pc0 := 27) (pc' := 34) rfl (hb hby dA2_27) rfl (XT.ii_gt_t hc27_4) (by decide) (by decide) k) ?_
        refine Go.pull (V := s₁.setTop (mkF m 35 #[rv a, iv pch, iv 0, .unset] [(.int 0)])) (fun t k => XS.iconst X0.here hx rfl (hb hby dA2_34) k) ?_
        refine Go.pull (V := s₁.setTop (mkF m 36 #[rv a, iv pch, iv 0, iv 0] [])) (fun t k => XS.istoreN X0.here hx rfl (hb hby dA2_35) rfl (l' := #[rv a, iv pch, iv 0, iv 0]) rfl k) ?_
        refine Go.pull (V := s₁.setTop (mkF m 37 #[rv a, iv pch, iv 0, iv 0] [(.ref a)])) (fun t k => XS.aloadN X0.here hx rfl (hb hby dA2_36) rfl rfl k) ?_
        obtain ⟨cq5, kq5, q5a, q5b, q5c⟩ := isOf hZ e0 Ea
        obtain ⟨_, _, ⟨T5, L5, k5, n5⟩, -, X5, ⟨Lc5, hQ5, l5, y5, z5⟩, st5⟩ := X0.virtualBackUp hx (x := (⟨"com/example/disburse/disburse/core/IbanRegistry$Kind", "ordinal", "()I"⟩ : MethodName)) (y := (⟨"java/lang/Enum", "ordinal", "()I"⟩ : MethodName)) (owner := "java/lang/Enum") hown (mvT hZ (hw _ (List.mem_of_getElem? (i := 9) rfl))) (mvT hZ (hw _ (List.mem_of_getElem? (i := 10) rfl))) (mvT hZ (hw _ (List.mem_of_getElem? (i := 11) rfl))) (by decide) (mvT hZ (hw _ (List.mem_of_getElem? (i := 13) rfl))) (mvT hZ (hw _ (List.mem_of_getElem? (i := 12) rfl))) (backOf (W := 0) (rmO l Z a0 hw [] a (2 : Int32) h0 n0 Fo) hZ (hw _ (List.mem_of_getElem? (i := 15) rfl)) (hw _ (List.mem_of_getElem? (i := 14) rfl)) (by decide) (by decide)) q5a q5c (g := (mkF m 37 #[rv a, iv pch, iv 0, iv 0] [(.ref a)])) rfl (by rw [hml]; rfl) (Steps.refl _) (argsL := []) (rest := []) (lenOf pd_0 rfl) rfl (by show 2 * 0 + _ ≤ _; exact Nat.le_of_eq rfl) (hb hby dA2_37) (fun _ _ => ⟨rfl, e0, (by decide : 0 + 0 ≤ _), (by decide : 0 + 0 ≤ _)⟩)
        dsimp only [Pt.U, Pt.locs, Pt.cells, Pt.slots] at X5 l5 y5 z5 st5 hQ5
        subst l5 y5 z5
        obtain ⟨rfl, N5q, e5⟩ := hQ5
        have N5 := Fr.app N0 N5q
        refine Go.pull (V := T5.setTop (mkF m 40 #[rv a, iv pch, iv 0, iv 0] [(.int 2)])) (fun _ k => st5.trans k) ?_
        refine Go.pull (V := T5.setTop (mkF m 86 #[rv a, iv pch, iv 0, iv 0] [])) (fun t k => XS.tswIn X5.here hx rfl (pc0 := 40) (pc' := 86) rfl (hb hby dA2_40) rfl (by decide) rfl (by decide) (by decide) k) ?_
        refine Go.pull (V := T5.setTop (mkF m 87 #[rv a, iv pch, iv 0, iv 0] [(.int 0)])) (fun t k => XS.iloadN X5.here hx rfl (hb hby dA2_86) rfl  k) ?_
        refine Go.pull (V := T5.setTop (mkF m 90 #[rv a, iv pch, iv 0, iv 0] [])) (fun t k => XS.ifNo X5.here hx rfl (hb hby dA2_87) rfl (XT.i0_ne_f (by decide)) k) ?_
        refine Go.pull (V := T5.setTop (mkF m 91 #[rv a, iv pch, iv 0, iv 0] [(.int 0)])) (fun t k => XS.iloadN X5.here hx rfl (hb hby dA2_90) rfl  k) ?_
        refine Go.pull (V := T5.setTop (mkF m 98 #[rv a, iv pch, iv 0, iv 0] [])) (fun t k => XS.ifYes X5.here hx rfl (pc0 := 91) (pc' := 98) rfl (hb hby dA2_91) rfl (XT.i0_eq_t (by decide)) (by decide) (by decide) k) ?_
        refine Go.pull (V := T5.setTop (mkF m 99 #[rv a, iv pch, iv 0, iv 0] [(.int 0)])) (fun t k => XS.iconst X5.here hx rfl (hb hby dA2_98) k) ?_
        exact Go.retN X5 hx Bd.notSynchronized (t := .boolean) Bd.returns (by simp) (hb hby dA2_99) ⟨(by rw [own_lod, if_pos hc3_1, if_neg hc21_2, if_pos hc27_4] <;> rfl), N5, e5⟩ (by decide) (by decide)
      · skip
        refine Go.pull (V := s₁.setTop (mkF m 30 #[rv a, iv pch, iv 0, .unset] [])) (fun t k => XS.icmpNo X0.here hx rfl (hb hby dA2_27) rfl (XT.ii_gt_f hc27_4) k) ?_
        refine Go.pull (V := s₁.setTop (mkF m 31 #[rv a, iv pch, iv 0, .unset] [(.int 1)])) (fun t k => XS.iconst X0.here hx rfl (hb hby dA2_30) k) ?_
        refine Go.pull (V := s₁.setTop (mkF m 35 #[rv a, iv pch, iv 0, .unset] [(.int 1)])) (fun t k => XS.goto X0.here hx rfl (pc0 := 31) (pc' := 35) rfl (hb hby dA2_31) (by decide) (by decide) k) ?_
        refine Go.pull (V := s₁.setTop (mkF m 36 #[rv a, iv pch, iv 0, iv 1] [])) (fun t k => XS.istoreN X0.here hx rfl (hb hby dA2_35) rfl (l' := #[rv a, iv pch, iv 0, iv 1]) rfl k) ?_
        refine Go.pull (V := s₁.setTop (mkF m 37 #[rv a, iv pch, iv 0, iv 1] [(.ref a)])) (fun t k => XS.aloadN X0.here hx rfl (hb hby dA2_36) rfl rfl k) ?_
        obtain ⟨cq6, kq6, q6a, q6b, q6c⟩ := isOf hZ e0 Ea
        obtain ⟨_, _, ⟨T6, L6, k6, n6⟩, -, X6, ⟨Lc6, hQ6, l6, y6, z6⟩, st6⟩ := X0.virtualBackUp hx (x := (⟨"com/example/disburse/disburse/core/IbanRegistry$Kind", "ordinal", "()I"⟩ : MethodName)) (y := (⟨"java/lang/Enum", "ordinal", "()I"⟩ : MethodName)) (owner := "java/lang/Enum") hown (mvT hZ (hw _ (List.mem_of_getElem? (i := 9) rfl))) (mvT hZ (hw _ (List.mem_of_getElem? (i := 10) rfl))) (mvT hZ (hw _ (List.mem_of_getElem? (i := 11) rfl))) (by decide) (mvT hZ (hw _ (List.mem_of_getElem? (i := 13) rfl))) (mvT hZ (hw _ (List.mem_of_getElem? (i := 12) rfl))) (backOf (W := 0) (rmO l Z a0 hw [] a (2 : Int32) h0 n0 Fo) hZ (hw _ (List.mem_of_getElem? (i := 15) rfl)) (hw _ (List.mem_of_getElem? (i := 14) rfl)) (by decide) (by decide)) q6a q6c (g := (mkF m 37 #[rv a, iv pch, iv 0, iv 1] [(.ref a)])) rfl (by rw [hml]; rfl) (Steps.refl _) (argsL := []) (rest := []) (lenOf pd_0 rfl) rfl (by show 2 * 0 + _ ≤ _; exact Nat.le_of_eq rfl) (hb hby dA2_37) (fun _ _ => ⟨rfl, e0, (by decide : 0 + 0 ≤ _), (by decide : 0 + 0 ≤ _)⟩)
        dsimp only [Pt.U, Pt.locs, Pt.cells, Pt.slots] at X6 l6 y6 z6 st6 hQ6
        subst l6 y6 z6
        obtain ⟨rfl, N6q, e6⟩ := hQ6
        have N6 := Fr.app N0 N6q
        refine Go.pull (V := T6.setTop (mkF m 40 #[rv a, iv pch, iv 0, iv 1] [(.int 2)])) (fun _ k => st6.trans k) ?_
        refine Go.pull (V := T6.setTop (mkF m 86 #[rv a, iv pch, iv 0, iv 1] [])) (fun t k => XS.tswIn X6.here hx rfl (pc0 := 40) (pc' := 86) rfl (hb hby dA2_40) rfl (by decide) rfl (by decide) (by decide) k) ?_
        refine Go.pull (V := T6.setTop (mkF m 87 #[rv a, iv pch, iv 0, iv 1] [(.int 0)])) (fun t k => XS.iloadN X6.here hx rfl (hb hby dA2_86) rfl  k) ?_
        refine Go.pull (V := T6.setTop (mkF m 90 #[rv a, iv pch, iv 0, iv 1] [])) (fun t k => XS.ifNo X6.here hx rfl (hb hby dA2_87) rfl (XT.i0_ne_f (by decide)) k) ?_
        refine Go.pull (V := T6.setTop (mkF m 91 #[rv a, iv pch, iv 0, iv 1] [(.int 1)])) (fun t k => XS.iloadN X6.here hx rfl (hb hby dA2_90) rfl  k) ?_
        refine Go.pull (V := T6.setTop (mkF m 94 #[rv a, iv pch, iv 0, iv 1] [])) (fun t k => XS.ifNo X6.here hx rfl (hb hby dA2_91) rfl (XT.i0_eq_f (by decide)) k) ?_
        refine Go.pull (V := T6.setTop (mkF m 95 #[rv a, iv pch, iv 0, iv 1] [(.int 1)])) (fun t k => XS.iconst X6.here hx rfl (hb hby dA2_94) k) ?_
        refine Go.pull (V := T6.setTop (mkF m 99 #[rv a, iv pch, iv 0, iv 1] [(.int 1)])) (fun t k => XS.goto X6.here hx rfl (pc0 := 95) (pc' := 99) rfl (hb hby dA2_95) (by decide) (by decide) k) ?_
        exact Go.retN X6 hx Bd.notSynchronized (t := .boolean) Bd.returns (by simp) (hb hby dA2_99) ⟨(by rw [own_lod, if_pos hc3_1, if_neg hc21_2, if_neg hc27_4] <;> rfl), N6, e6⟩ (by decide) (by decide)
  · skip
    refine Go.pull (V := s₁.setTop (mkF m 6 #[rv a, iv pch, .unset, .unset] [])) (fun t k => XS.icmpNo X0.here hx rfl (hb hby dA2_3) rfl (XT.ii_lt_f hc3_1) k) ?_
    refine Go.pull (V := s₁.setTop (mkF m 7 #[rv a, iv pch, .unset, .unset] [(.int pch)])) (fun t k => XS.iloadN X0.here hx rfl (hb hby dA2_6) rfl  k) ?_
    refine Go.pull (V := s₁.setTop (mkF m 9 #[rv a, iv pch, .unset, .unset] [(.int 57), (.int pch)])) (fun t k => XS.bipush X0.here hx rfl (hb hby dA2_7) k) ?_
    by_cases hc9_7 : (57 : Int32) < pch
    · skip
      refine Go.pull (V := s₁.setTop (mkF m 16 #[rv a, iv pch, .unset, .unset] [])) (fun t k => XS.icmpYes X0.here hx rfl (pc0 := 9) (pc' := 16) rfl (hb hby dA2_9) rfl (XT.ii_gt_t hc9_7) (by decide) (by decide) k) ?_
      refine Go.pull (V := s₁.setTop (mkF m 17 #[rv a, iv pch, .unset, .unset] [(.int 0)])) (fun t k => XS.iconst X0.here hx rfl (hb hby dA2_16) k) ?_
      refine Go.pull (V := s₁.setTop (mkF m 18 #[rv a, iv pch, iv 0, .unset] [])) (fun t k => XS.istoreN X0.here hx rfl (hb hby dA2_17) rfl (l' := #[rv a, iv pch, iv 0, .unset]) rfl k) ?_
      refine Go.pull (V := s₁.setTop (mkF m 19 #[rv a, iv pch, iv 0, .unset] [(.int pch)])) (fun t k => XS.iloadN X0.here hx rfl (hb hby dA2_18) rfl  k) ?_
      refine Go.pull (V := s₁.setTop (mkF m 21 #[rv a, iv pch, iv 0, .unset] [(.int 65), (.int pch)])) (fun t k => XS.bipush X0.here hx rfl (hb hby dA2_19) k) ?_
      by_cases hc21_8 : pch < (65 : Int32)
      · skip
        refine Go.pull (V := s₁.setTop (mkF m 34 #[rv a, iv pch, iv 0, .unset] [])) (fun t k => XS.icmpYes X0.here hx rfl (pc0 := 21) (pc' := 34) rfl (hb hby dA2_21) rfl (XT.ii_lt_t hc21_8) (by decide) (by decide) k) ?_
        refine Go.pull (V := s₁.setTop (mkF m 35 #[rv a, iv pch, iv 0, .unset] [(.int 0)])) (fun t k => XS.iconst X0.here hx rfl (hb hby dA2_34) k) ?_
        refine Go.pull (V := s₁.setTop (mkF m 36 #[rv a, iv pch, iv 0, iv 0] [])) (fun t k => XS.istoreN X0.here hx rfl (hb hby dA2_35) rfl (l' := #[rv a, iv pch, iv 0, iv 0]) rfl k) ?_
        refine Go.pull (V := s₁.setTop (mkF m 37 #[rv a, iv pch, iv 0, iv 0] [(.ref a)])) (fun t k => XS.aloadN X0.here hx rfl (hb hby dA2_36) rfl rfl k) ?_
        obtain ⟨cq9, kq9, q9a, q9b, q9c⟩ := isOf hZ e0 Ea
        obtain ⟨_, _, ⟨T9, L9, k9, n9⟩, -, X9, ⟨Lc9, hQ9, l9, y9, z9⟩, st9⟩ := X0.virtualBackUp hx (x := (⟨"com/example/disburse/disburse/core/IbanRegistry$Kind", "ordinal", "()I"⟩ : MethodName)) (y := (⟨"java/lang/Enum", "ordinal", "()I"⟩ : MethodName)) (owner := "java/lang/Enum") hown (mvT hZ (hw _ (List.mem_of_getElem? (i := 9) rfl))) (mvT hZ (hw _ (List.mem_of_getElem? (i := 10) rfl))) (mvT hZ (hw _ (List.mem_of_getElem? (i := 11) rfl))) (by decide) (mvT hZ (hw _ (List.mem_of_getElem? (i := 13) rfl))) (mvT hZ (hw _ (List.mem_of_getElem? (i := 12) rfl))) (backOf (W := 0) (rmO l Z a0 hw [] a (2 : Int32) h0 n0 Fo) hZ (hw _ (List.mem_of_getElem? (i := 15) rfl)) (hw _ (List.mem_of_getElem? (i := 14) rfl)) (by decide) (by decide)) q9a q9c (g := (mkF m 37 #[rv a, iv pch, iv 0, iv 0] [(.ref a)])) rfl (by rw [hml]; rfl) (Steps.refl _) (argsL := []) (rest := []) (lenOf pd_0 rfl) rfl (by show 2 * 0 + _ ≤ _; exact Nat.le_of_eq rfl) (hb hby dA2_37) (fun _ _ => ⟨rfl, e0, (by decide : 0 + 0 ≤ _), (by decide : 0 + 0 ≤ _)⟩)
        dsimp only [Pt.U, Pt.locs, Pt.cells, Pt.slots] at X9 l9 y9 z9 st9 hQ9
        subst l9 y9 z9
        obtain ⟨rfl, N9q, e9⟩ := hQ9
        have N9 := Fr.app N0 N9q
        refine Go.pull (V := T9.setTop (mkF m 40 #[rv a, iv pch, iv 0, iv 0] [(.int 2)])) (fun _ k => st9.trans k) ?_
        refine Go.pull (V := T9.setTop (mkF m 86 #[rv a, iv pch, iv 0, iv 0] [])) (fun t k => XS.tswIn X9.here hx rfl (pc0 := 40) (pc' := 86) rfl (hb hby dA2_40) rfl (by decide) rfl (by decide) (by decide) k) ?_
        refine Go.pull (V := T9.setTop (mkF m 87 #[rv a, iv pch, iv 0, iv 0] [(.int 0)])) (fun t k => XS.iloadN X9.here hx rfl (hb hby dA2_86) rfl  k) ?_
        refine Go.pull (V := T9.setTop (mkF m 90 #[rv a, iv pch, iv 0, iv 0] [])) (fun t k => XS.ifNo X9.here hx rfl (hb hby dA2_87) rfl (XT.i0_ne_f (by decide)) k) ?_
        refine Go.pull (V := T9.setTop (mkF m 91 #[rv a, iv pch, iv 0, iv 0] [(.int 0)])) (fun t k => XS.iloadN X9.here hx rfl (hb hby dA2_90) rfl  k) ?_
        refine Go.pull (V := T9.setTop (mkF m 98 #[rv a, iv pch, iv 0, iv 0] [])) (fun t k => XS.ifYes X9.here hx rfl (pc0 := 91) (pc' := 98) rfl (hb hby dA2_91) rfl (XT.i0_eq_t (by decide)) (by decide) (by decide) k) ?_
        refine Go.pull (V := T9.setTop (mkF m 99 #[rv a, iv pch, iv 0, iv 0] [(.int 0)])) (fun t k => XS.iconst X9.here hx rfl (hb hby dA2_98) k) ?_
        exact Go.retN X9 hx Bd.notSynchronized (t := .boolean) Bd.returns (by simp) (hb hby dA2_99) ⟨(by rw [own_lod, if_neg hc3_1, if_pos hc9_7, if_pos hc21_8] <;> rfl), N9, e9⟩ (by decide) (by decide)
      · skip
        refine Go.pull (V := s₁.setTop (mkF m 24 #[rv a, iv pch, iv 0, .unset] [])) (fun t k => XS.icmpNo X0.here hx rfl (hb hby dA2_21) rfl (XT.ii_lt_f hc21_8) k) ?_
        refine Go.pull (V := s₁.setTop (mkF m 25 #[rv a, iv pch, iv 0, .unset] [(.int pch)])) (fun t k => XS.iloadN X0.here hx rfl (hb hby dA2_24) rfl  k) ?_
        refine Go.pull (V := s₁.setTop (mkF m 27 #[rv a, iv pch, iv 0, .unset] [(.int 90), (.int pch)])) (fun t k => XS.bipush X0.here hx rfl (hb hby dA2_25) k) ?_
        by_cases hc27_10 : (90 : Int32) < pch
        · skip
          refine Go.pull (V := s₁.setTop (mkF m 34 #[rv a, iv pch, iv 0, .unset] [])) (fun t k => XS.icmpYes X0.here hx rfl (pc0 := 27) (pc' := 34) rfl (hb hby dA2_27) rfl (XT.ii_gt_t hc27_10) (by decide) (by decide) k) ?_
          refine Go.pull (V := s₁.setTop (mkF m 35 #[rv a, iv pch, iv 0, .unset] [(.int 0)])) (fun t k => XS.iconst X0.here hx rfl (hb hby dA2_34) k) ?_
          refine Go.pull (V := s₁.setTop (mkF m 36 #[rv a, iv pch, iv 0, iv 0] [])) (fun t k => XS.istoreN X0.here hx rfl (hb hby dA2_35) rfl (l' := #[rv a, iv pch, iv 0, iv 0]) rfl k) ?_
          refine Go.pull (V := s₁.setTop (mkF m 37 #[rv a, iv pch, iv 0, iv 0] [(.ref a)])) (fun t k => XS.aloadN X0.here hx rfl (hb hby dA2_36) rfl rfl k) ?_
          obtain ⟨cq11, kq11, q11a, q11b, q11c⟩ := isOf hZ e0 Ea
          obtain ⟨_, _, ⟨T11, L11, k11, n11⟩, -, X11, ⟨Lc11, hQ11, l11, y11, z11⟩, st11⟩ := X0.virtualBackUp hx (x := (⟨"com/example/disburse/disburse/core/IbanRegistry$Kind", "ordinal", "()I"⟩ : MethodName)) (y := (⟨"java/lang/Enum", "ordinal", "()I"⟩ : MethodName)) (owner := "java/lang/Enum") hown (mvT hZ (hw _ (List.mem_of_getElem? (i := 9) rfl))) (mvT hZ (hw _ (List.mem_of_getElem? (i := 10) rfl))) (mvT hZ (hw _ (List.mem_of_getElem? (i := 11) rfl))) (by decide) (mvT hZ (hw _ (List.mem_of_getElem? (i := 13) rfl))) (mvT hZ (hw _ (List.mem_of_getElem? (i := 12) rfl))) (backOf (W := 0) (rmO l Z a0 hw [] a (2 : Int32) h0 n0 Fo) hZ (hw _ (List.mem_of_getElem? (i := 15) rfl)) (hw _ (List.mem_of_getElem? (i := 14) rfl)) (by decide) (by decide)) q11a q11c (g := (mkF m 37 #[rv a, iv pch, iv 0, iv 0] [(.ref a)])) rfl (by rw [hml]; rfl) (Steps.refl _) (argsL := []) (rest := []) (lenOf pd_0 rfl) rfl (by show 2 * 0 + _ ≤ _; exact Nat.le_of_eq rfl) (hb hby dA2_37) (fun _ _ => ⟨rfl, e0, (by decide : 0 + 0 ≤ _), (by decide : 0 + 0 ≤ _)⟩)
          dsimp only [Pt.U, Pt.locs, Pt.cells, Pt.slots] at X11 l11 y11 z11 st11 hQ11
          subst l11 y11 z11
          obtain ⟨rfl, N11q, e11⟩ := hQ11
          have N11 := Fr.app N0 N11q
          refine Go.pull (V := T11.setTop (mkF m 40 #[rv a, iv pch, iv 0, iv 0] [(.int 2)])) (fun _ k => st11.trans k) ?_
          refine Go.pull (V := T11.setTop (mkF m 86 #[rv a, iv pch, iv 0, iv 0] [])) (fun t k => XS.tswIn X11.here hx rfl (pc0 := 40) (pc' := 86) rfl (hb hby dA2_40) rfl (by decide) rfl (by decide) (by decide) k) ?_
          refine Go.pull (V := T11.setTop (mkF m 87 #[rv a, iv pch, iv 0, iv 0] [(.int 0)])) (fun t k => XS.iloadN X11.here hx rfl (hb hby dA2_86) rfl  k) ?_
          refine Go.pull (V := T11.setTop (mkF m 90 #[rv a, iv pch, iv 0, iv 0] [])) (fun t k => XS.ifNo X11.here hx rfl (hb hby dA2_87) rfl (XT.i0_ne_f (by decide)) k) ?_
          refine Go.pull (V := T11.setTop (mkF m 91 #[rv a, iv pch, iv 0, iv 0] [(.int 0)])) (fun t k => XS.iloadN X11.here hx rfl (hb hby dA2_90) rfl  k) ?_
          refine Go.pull (V := T11.setTop (mkF m 98 #[rv a, iv pch, iv 0, iv 0] [])) (fun t k => XS.ifYes X11.here hx rfl (pc0 := 91) (pc' := 98) rfl (hb hby dA2_91) rfl (XT.i0_eq_t (by decide)) (by decide) (by decide) k) ?_
          refine Go.pull (V := T11.setTop (mkF m 99 #[rv a, iv pch, iv 0, iv 0] [(.int 0)])) (fun t k => XS.iconst X11.here hx rfl (hb hby dA2_98) k) ?_
          exact Go.retN X11 hx Bd.notSynchronized (t := .boolean) Bd.returns (by simp) (hb hby dA2_99) ⟨(by rw [own_lod, if_neg hc3_1, if_pos hc9_7, if_neg hc21_8, if_pos hc27_10] <;> rfl), N11, e11⟩ (by decide) (by decide)
        · skip
          refine Go.pull (V := s₁.setTop (mkF m 30 #[rv a, iv pch, iv 0, .unset] [])) (fun t k => XS.icmpNo X0.here hx rfl (hb hby dA2_27) rfl (XT.ii_gt_f hc27_10) k) ?_
          refine Go.pull (V := s₁.setTop (mkF m 31 #[rv a, iv pch, iv 0, .unset] [(.int 1)])) (fun t k => XS.iconst X0.here hx rfl (hb hby dA2_30) k) ?_
          refine Go.pull (V := s₁.setTop (mkF m 35 #[rv a, iv pch, iv 0, .unset] [(.int 1)])) (fun t k => XS.goto X0.here hx rfl (pc0 := 31) (pc' := 35) rfl (hb hby dA2_31) (by decide) (by decide) k) ?_
          refine Go.pull (V := s₁.setTop (mkF m 36 #[rv a, iv pch, iv 0, iv 1] [])) (fun t k => XS.istoreN X0.here hx rfl (hb hby dA2_35) rfl (l' := #[rv a, iv pch, iv 0, iv 1]) rfl k) ?_
          refine Go.pull (V := s₁.setTop (mkF m 37 #[rv a, iv pch, iv 0, iv 1] [(.ref a)])) (fun t k => XS.aloadN X0.here hx rfl (hb hby dA2_36) rfl rfl k) ?_
          obtain ⟨cq12, kq12, q12a, q12b, q12c⟩ := isOf hZ e0 Ea
          obtain ⟨_, _, ⟨T12, L12, k12, n12⟩, -, X12, ⟨Lc12, hQ12, l12, y12, z12⟩, st12⟩ := X0.virtualBackUp hx (x := (⟨"com/example/disburse/disburse/core/IbanRegistry$Kind", "ordinal", "()I"⟩ : MethodName)) (y := (⟨"java/lang/Enum", "ordinal", "()I"⟩ : MethodName)) (owner := "java/lang/Enum") hown (mvT hZ (hw _ (List.mem_of_getElem? (i := 9) rfl))) (mvT hZ (hw _ (List.mem_of_getElem? (i := 10) rfl))) (mvT hZ (hw _ (List.mem_of_getElem? (i := 11) rfl))) (by decide) (mvT hZ (hw _ (List.mem_of_getElem? (i := 13) rfl))) (mvT hZ (hw _ (List.mem_of_getElem? (i := 12) rfl))) (backOf (W := 0) (rmO l Z a0 hw [] a (2 : Int32) h0 n0 Fo) hZ (hw _ (List.mem_of_getElem? (i := 15) rfl)) (hw _ (List.mem_of_getElem? (i := 14) rfl)) (by decide) (by decide)) q12a q12c (g := (mkF m 37 #[rv a, iv pch, iv 0, iv 1] [(.ref a)])) rfl (by rw [hml]; rfl) (Steps.refl _) (argsL := []) (rest := []) (lenOf pd_0 rfl) rfl (by show 2 * 0 + _ ≤ _; exact Nat.le_of_eq rfl) (hb hby dA2_37) (fun _ _ => ⟨rfl, e0, (by decide : 0 + 0 ≤ _), (by decide : 0 + 0 ≤ _)⟩)
          dsimp only [Pt.U, Pt.locs, Pt.cells, Pt.slots] at X12 l12 y12 z12 st12 hQ12
          subst l12 y12 z12
          obtain ⟨rfl, N12q, e12⟩ := hQ12
          have N12 := Fr.app N0 N12q
          refine Go.pull (V := T12.setTop (mkF m 40 #[rv a, iv pch, iv 0, iv 1] [(.int 2)])) (fun _ k => st12.trans k) ?_
          refine Go.pull (V := T12.setTop (mkF m 86 #[rv a, iv pch, iv 0, iv 1] [])) (fun t k => XS.tswIn X12.here hx rfl (pc0 := 40) (pc' := 86) rfl (hb hby dA2_40) rfl (by decide) rfl (by decide) (by decide) k) ?_
          refine Go.pull (V := T12.setTop (mkF m 87 #[rv a, iv pch, iv 0, iv 1] [(.int 0)])) (fun t k => XS.iloadN X12.here hx rfl (hb hby dA2_86) rfl  k) ?_
          refine Go.pull (V := T12.setTop (mkF m 90 #[rv a, iv pch, iv 0, iv 1] [])) (fun t k => XS.ifNo X12.here hx rfl (hb hby dA2_87) rfl (XT.i0_ne_f (by decide)) k) ?_
          refine Go.pull (V := T12.setTop (mkF m 91 #[rv a, iv pch, iv 0, iv 1] [(.int 1)])) (fun t k => XS.iloadN X12.here hx rfl (hb hby dA2_90) rfl  k) ?_
          refine Go.pull (V := T12.setTop (mkF m 94 #[rv a, iv pch, iv 0, iv 1] [])) (fun t k => XS.ifNo X12.here hx rfl (hb hby dA2_91) rfl (XT.i0_eq_f (by decide)) k) ?_
          refine Go.pull (V := T12.setTop (mkF m 95 #[rv a, iv pch, iv 0, iv 1] [(.int 1)])) (fun t k => XS.iconst X12.here hx rfl (hb hby dA2_94) k) ?_
          refine Go.pull (V := T12.setTop (mkF m 99 #[rv a, iv pch, iv 0, iv 1] [(.int 1)])) (fun t k => XS.goto X12.here hx rfl (pc0 := 95) (pc' := 99) rfl (hb hby dA2_95) (by decide) (by decide) k) ?_
          exact Go.retN X12 hx Bd.notSynchronized (t := .boolean) Bd.returns (by simp) (hb hby dA2_99) ⟨(by rw [own_lod, if_neg hc3_1, if_pos hc9_7, if_neg hc21_8, if_neg hc27_10] <;> rfl), N12, e12⟩ (by decide) (by decide)
    · skip
      refine Go.pull (V := s₁.setTop (mkF m 12 #[rv a, iv pch, .unset, .unset] [])) (fun t k => XS.icmpNo X0.here hx rfl (hb hby dA2_9) rfl (XT.ii_gt_f hc9_7) k) ?_
      refine Go.pull (V := s₁.setTop (mkF m 13 #[rv a, iv pch, .unset, .unset] [(.int 1)])) (fun t k => XS.iconst X0.here hx rfl (hb hby dA2_12) k) ?_
      refine Go.pull (V := s₁.setTop (mkF m 17 #[rv a, iv pch, .unset, .unset] [(.int 1)])) (fun t k => XS.goto X0.here hx rfl (pc0 := 13) (pc' := 17) rfl (hb hby dA2_13) (by decide) (by decide) k) ?_
      refine Go.pull (V := s₁.setTop (mkF m 18 #[rv a, iv pch, iv 1, .unset] [])) (fun t k => XS.istoreN X0.here hx rfl (hb hby dA2_17) rfl (l' := #[rv a, iv pch, iv 1, .unset]) rfl k) ?_
      refine Go.pull (V := s₁.setTop (mkF m 19 #[rv a, iv pch, iv 1, .unset] [(.int pch)])) (fun t k => XS.iloadN X0.here hx rfl (hb hby dA2_18) rfl  k) ?_
      refine Go.pull (V := s₁.setTop (mkF m 21 #[rv a, iv pch, iv 1, .unset] [(.int 65), (.int pch)])) (fun t k => XS.bipush X0.here hx rfl (hb hby dA2_19) k) ?_
      by_cases hc21_13 : pch < (65 : Int32)
      · skip
        refine Go.pull (V := s₁.setTop (mkF m 34 #[rv a, iv pch, iv 1, .unset] [])) (fun t k => XS.icmpYes X0.here hx rfl (pc0 := 21) (pc' := 34) rfl (hb hby dA2_21) rfl (XT.ii_lt_t hc21_13) (by decide) (by decide) k) ?_
        refine Go.pull (V := s₁.setTop (mkF m 35 #[rv a, iv pch, iv 1, .unset] [(.int 0)])) (fun t k => XS.iconst X0.here hx rfl (hb hby dA2_34) k) ?_
        refine Go.pull (V := s₁.setTop (mkF m 36 #[rv a, iv pch, iv 1, iv 0] [])) (fun t k => XS.istoreN X0.here hx rfl (hb hby dA2_35) rfl (l' := #[rv a, iv pch, iv 1, iv 0]) rfl k) ?_
        refine Go.pull (V := s₁.setTop (mkF m 37 #[rv a, iv pch, iv 1, iv 0] [(.ref a)])) (fun t k => XS.aloadN X0.here hx rfl (hb hby dA2_36) rfl rfl k) ?_
        obtain ⟨cq14, kq14, q14a, q14b, q14c⟩ := isOf hZ e0 Ea
        obtain ⟨_, _, ⟨T14, L14, k14, n14⟩, -, X14, ⟨Lc14, hQ14, l14, y14, z14⟩, st14⟩ := X0.virtualBackUp hx (x := (⟨"com/example/disburse/disburse/core/IbanRegistry$Kind", "ordinal", "()I"⟩ : MethodName)) (y := (⟨"java/lang/Enum", "ordinal", "()I"⟩ : MethodName)) (owner := "java/lang/Enum") hown (mvT hZ (hw _ (List.mem_of_getElem? (i := 9) rfl))) (mvT hZ (hw _ (List.mem_of_getElem? (i := 10) rfl))) (mvT hZ (hw _ (List.mem_of_getElem? (i := 11) rfl))) (by decide) (mvT hZ (hw _ (List.mem_of_getElem? (i := 13) rfl))) (mvT hZ (hw _ (List.mem_of_getElem? (i := 12) rfl))) (backOf (W := 0) (rmO l Z a0 hw [] a (2 : Int32) h0 n0 Fo) hZ (hw _ (List.mem_of_getElem? (i := 15) rfl)) (hw _ (List.mem_of_getElem? (i := 14) rfl)) (by decide) (by decide)) q14a q14c (g := (mkF m 37 #[rv a, iv pch, iv 1, iv 0] [(.ref a)])) rfl (by rw [hml]; rfl) (Steps.refl _) (argsL := []) (rest := []) (lenOf pd_0 rfl) rfl (by show 2 * 0 + _ ≤ _; exact Nat.le_of_eq rfl) (hb hby dA2_37) (fun _ _ => ⟨rfl, e0, (by decide : 0 + 0 ≤ _), (by decide : 0 + 0 ≤ _)⟩)
        dsimp only [Pt.U, Pt.locs, Pt.cells, Pt.slots] at X14 l14 y14 z14 st14 hQ14
        subst l14 y14 z14
        obtain ⟨rfl, N14q, e14⟩ := hQ14
        have N14 := Fr.app N0 N14q
        refine Go.pull (V := T14.setTop (mkF m 40 #[rv a, iv pch, iv 1, iv 0] [(.int 2)])) (fun _ k => st14.trans k) ?_
        refine Go.pull (V := T14.setTop (mkF m 86 #[rv a, iv pch, iv 1, iv 0] [])) (fun t k => XS.tswIn X14.here hx rfl (pc0 := 40) (pc' := 86) rfl (hb hby dA2_40) rfl (by decide) rfl (by decide) (by decide) k) ?_
        refine Go.pull (V := T14.setTop (mkF m 87 #[rv a, iv pch, iv 1, iv 0] [(.int 1)])) (fun t k => XS.iloadN X14.here hx rfl (hb hby dA2_86) rfl  k) ?_
        refine Go.pull (V := T14.setTop (mkF m 94 #[rv a, iv pch, iv 1, iv 0] [])) (fun t k => XS.ifYes X14.here hx rfl (pc0 := 87) (pc' := 94) rfl (hb hby dA2_87) rfl (XT.i0_ne_t (by decide)) (by decide) (by decide) k) ?_
        refine Go.pull (V := T14.setTop (mkF m 95 #[rv a, iv pch, iv 1, iv 0] [(.int 1)])) (fun t k => XS.iconst X14.here hx rfl (hb hby dA2_94) k) ?_
        refine Go.pull (V := T14.setTop (mkF m 99 #[rv a, iv pch, iv 1, iv 0] [(.int 1)])) (fun t k => XS.goto X14.here hx rfl (pc0 := 95) (pc' := 99) rfl (hb hby dA2_95) (by decide) (by decide) k) ?_
        exact Go.retN X14 hx Bd.notSynchronized (t := .boolean) Bd.returns (by simp) (hb hby dA2_99) ⟨(by rw [own_lod, if_neg hc3_1, if_neg hc9_7] <;> rfl), N14, e14⟩ (by decide) (by decide)
      · skip
        refine Go.pull (V := s₁.setTop (mkF m 24 #[rv a, iv pch, iv 1, .unset] [])) (fun t k => XS.icmpNo X0.here hx rfl (hb hby dA2_21) rfl (XT.ii_lt_f hc21_13) k) ?_
        refine Go.pull (V := s₁.setTop (mkF m 25 #[rv a, iv pch, iv 1, .unset] [(.int pch)])) (fun t k => XS.iloadN X0.here hx rfl (hb hby dA2_24) rfl  k) ?_
        refine Go.pull (V := s₁.setTop (mkF m 27 #[rv a, iv pch, iv 1, .unset] [(.int 90), (.int pch)])) (fun t k => XS.bipush X0.here hx rfl (hb hby dA2_25) k) ?_
        by_cases hc27_15 : (90 : Int32) < pch
        · skip
          refine Go.pull (V := s₁.setTop (mkF m 34 #[rv a, iv pch, iv 1, .unset] [])) (fun t k => XS.icmpYes X0.here hx rfl (pc0 := 27) (pc' := 34) rfl (hb hby dA2_27) rfl (XT.ii_gt_t hc27_15) (by decide) (by decide) k) ?_
          refine Go.pull (V := s₁.setTop (mkF m 35 #[rv a, iv pch, iv 1, .unset] [(.int 0)])) (fun t k => XS.iconst X0.here hx rfl (hb hby dA2_34) k) ?_
          refine Go.pull (V := s₁.setTop (mkF m 36 #[rv a, iv pch, iv 1, iv 0] [])) (fun t k => XS.istoreN X0.here hx rfl (hb hby dA2_35) rfl (l' := #[rv a, iv pch, iv 1, iv 0]) rfl k) ?_
          refine Go.pull (V := s₁.setTop (mkF m 37 #[rv a, iv pch, iv 1, iv 0] [(.ref a)])) (fun t k => XS.aloadN X0.here hx rfl (hb hby dA2_36) rfl rfl k) ?_
          obtain ⟨cq16, kq16, q16a, q16b, q16c⟩ := isOf hZ e0 Ea
          obtain ⟨_, _, ⟨T16, L16, k16, n16⟩, -, X16, ⟨Lc16, hQ16, l16, y16, z16⟩, st16⟩ := X0.virtualBackUp hx (x := (⟨"com/example/disburse/disburse/core/IbanRegistry$Kind", "ordinal", "()I"⟩ : MethodName)) (y := (⟨"java/lang/Enum", "ordinal", "()I"⟩ : MethodName)) (owner := "java/lang/Enum") hown (mvT hZ (hw _ (List.mem_of_getElem? (i := 9) rfl))) (mvT hZ (hw _ (List.mem_of_getElem? (i := 10) rfl))) (mvT hZ (hw _ (List.mem_of_getElem? (i := 11) rfl))) (by decide) (mvT hZ (hw _ (List.mem_of_getElem? (i := 13) rfl))) (mvT hZ (hw _ (List.mem_of_getElem? (i := 12) rfl))) (backOf (W := 0) (rmO l Z a0 hw [] a (2 : Int32) h0 n0 Fo) hZ (hw _ (List.mem_of_getElem? (i := 15) rfl)) (hw _ (List.mem_of_getElem? (i := 14) rfl)) (by decide) (by decide)) q16a q16c (g := (mkF m 37 #[rv a, iv pch, iv 1, iv 0] [(.ref a)])) rfl (by rw [hml]; rfl) (Steps.refl _) (argsL := []) (rest := []) (lenOf pd_0 rfl) rfl (by show 2 * 0 + _ ≤ _; exact Nat.le_of_eq rfl) (hb hby dA2_37) (fun _ _ => ⟨rfl, e0, (by decide : 0 + 0 ≤ _), (by decide : 0 + 0 ≤ _)⟩)
          dsimp only [Pt.U, Pt.locs, Pt.cells, Pt.slots] at X16 l16 y16 z16 st16 hQ16
          subst l16 y16 z16
          obtain ⟨rfl, N16q, e16⟩ := hQ16
          have N16 := Fr.app N0 N16q
          refine Go.pull (V := T16.setTop (mkF m 40 #[rv a, iv pch, iv 1, iv 0] [(.int 2)])) (fun _ k => st16.trans k) ?_
          refine Go.pull (V := T16.setTop (mkF m 86 #[rv a, iv pch, iv 1, iv 0] [])) (fun t k => XS.tswIn X16.here hx rfl (pc0 := 40) (pc' := 86) rfl (hb hby dA2_40) rfl (by decide) rfl (by decide) (by decide) k) ?_
          refine Go.pull (V := T16.setTop (mkF m 87 #[rv a, iv pch, iv 1, iv 0] [(.int 1)])) (fun t k => XS.iloadN X16.here hx rfl (hb hby dA2_86) rfl  k) ?_
          refine Go.pull (V := T16.setTop (mkF m 94 #[rv a, iv pch, iv 1, iv 0] [])) (fun t k => XS.ifYes X16.here hx rfl (pc0 := 87) (pc' := 94) rfl (hb hby dA2_87) rfl (XT.i0_ne_t (by decide)) (by decide) (by decide) k) ?_
          refine Go.pull (V := T16.setTop (mkF m 95 #[rv a, iv pch, iv 1, iv 0] [(.int 1)])) (fun t k => XS.iconst X16.here hx rfl (hb hby dA2_94) k) ?_
          refine Go.pull (V := T16.setTop (mkF m 99 #[rv a, iv pch, iv 1, iv 0] [(.int 1)])) (fun t k => XS.goto X16.here hx rfl (pc0 := 95) (pc' := 99) rfl (hb hby dA2_95) (by decide) (by decide) k) ?_
          exact Go.retN X16 hx Bd.notSynchronized (t := .boolean) Bd.returns (by simp) (hb hby dA2_99) ⟨(by rw [own_lod, if_neg hc3_1, if_neg hc9_7] <;> rfl), N16, e16⟩ (by decide) (by decide)
        · skip
          refine Go.pull (V := s₁.setTop (mkF m 30 #[rv a, iv pch, iv 1, .unset] [])) (fun t k => XS.icmpNo X0.here hx rfl (hb hby dA2_27) rfl (XT.ii_gt_f hc27_15) k) ?_
          refine Go.pull (V := s₁.setTop (mkF m 31 #[rv a, iv pch, iv 1, .unset] [(.int 1)])) (fun t k => XS.iconst X0.here hx rfl (hb hby dA2_30) k) ?_
          refine Go.pull (V := s₁.setTop (mkF m 35 #[rv a, iv pch, iv 1, .unset] [(.int 1)])) (fun t k => XS.goto X0.here hx rfl (pc0 := 31) (pc' := 35) rfl (hb hby dA2_31) (by decide) (by decide) k) ?_
          refine Go.pull (V := s₁.setTop (mkF m 36 #[rv a, iv pch, iv 1, iv 1] [])) (fun t k => XS.istoreN X0.here hx rfl (hb hby dA2_35) rfl (l' := #[rv a, iv pch, iv 1, iv 1]) rfl k) ?_
          refine Go.pull (V := s₁.setTop (mkF m 37 #[rv a, iv pch, iv 1, iv 1] [(.ref a)])) (fun t k => XS.aloadN X0.here hx rfl (hb hby dA2_36) rfl rfl k) ?_
          obtain ⟨cq17, kq17, q17a, q17b, q17c⟩ := isOf hZ e0 Ea
          obtain ⟨_, _, ⟨T17, L17, k17, n17⟩, -, X17, ⟨Lc17, hQ17, l17, y17, z17⟩, st17⟩ := X0.virtualBackUp hx (x := (⟨"com/example/disburse/disburse/core/IbanRegistry$Kind", "ordinal", "()I"⟩ : MethodName)) (y := (⟨"java/lang/Enum", "ordinal", "()I"⟩ : MethodName)) (owner := "java/lang/Enum") hown (mvT hZ (hw _ (List.mem_of_getElem? (i := 9) rfl))) (mvT hZ (hw _ (List.mem_of_getElem? (i := 10) rfl))) (mvT hZ (hw _ (List.mem_of_getElem? (i := 11) rfl))) (by decide) (mvT hZ (hw _ (List.mem_of_getElem? (i := 13) rfl))) (mvT hZ (hw _ (List.mem_of_getElem? (i := 12) rfl))) (backOf (W := 0) (rmO l Z a0 hw [] a (2 : Int32) h0 n0 Fo) hZ (hw _ (List.mem_of_getElem? (i := 15) rfl)) (hw _ (List.mem_of_getElem? (i := 14) rfl)) (by decide) (by decide)) q17a q17c (g := (mkF m 37 #[rv a, iv pch, iv 1, iv 1] [(.ref a)])) rfl (by rw [hml]; rfl) (Steps.refl _) (argsL := []) (rest := []) (lenOf pd_0 rfl) rfl (by show 2 * 0 + _ ≤ _; exact Nat.le_of_eq rfl) (hb hby dA2_37) (fun _ _ => ⟨rfl, e0, (by decide : 0 + 0 ≤ _), (by decide : 0 + 0 ≤ _)⟩)
          dsimp only [Pt.U, Pt.locs, Pt.cells, Pt.slots] at X17 l17 y17 z17 st17 hQ17
          subst l17 y17 z17
          obtain ⟨rfl, N17q, e17⟩ := hQ17
          have N17 := Fr.app N0 N17q
          refine Go.pull (V := T17.setTop (mkF m 40 #[rv a, iv pch, iv 1, iv 1] [(.int 2)])) (fun _ k => st17.trans k) ?_
          refine Go.pull (V := T17.setTop (mkF m 86 #[rv a, iv pch, iv 1, iv 1] [])) (fun t k => XS.tswIn X17.here hx rfl (pc0 := 40) (pc' := 86) rfl (hb hby dA2_40) rfl (by decide) rfl (by decide) (by decide) k) ?_
          refine Go.pull (V := T17.setTop (mkF m 87 #[rv a, iv pch, iv 1, iv 1] [(.int 1)])) (fun t k => XS.iloadN X17.here hx rfl (hb hby dA2_86) rfl  k) ?_
          refine Go.pull (V := T17.setTop (mkF m 94 #[rv a, iv pch, iv 1, iv 1] [])) (fun t k => XS.ifYes X17.here hx rfl (pc0 := 87) (pc' := 94) rfl (hb hby dA2_87) rfl (XT.i0_ne_t (by decide)) (by decide) (by decide) k) ?_
          refine Go.pull (V := T17.setTop (mkF m 95 #[rv a, iv pch, iv 1, iv 1] [(.int 1)])) (fun t k => XS.iconst X17.here hx rfl (hb hby dA2_94) k) ?_
          refine Go.pull (V := T17.setTop (mkF m 99 #[rv a, iv pch, iv 1, iv 1] [(.int 1)])) (fun t k => XS.goto X17.here hx rfl (pc0 := 95) (pc' := 99) rfl (hb hby dA2_95) (by decide) (by decide) k) ?_
          exact Go.retN X17 hx Bd.notSynchronized (t := .boolean) Bd.returns (by simp) (hb hby dA2_99) ⟨(by rw [own_lod, if_neg hc3_1, if_neg hc9_7] <;> rfl), N17, e17⟩ (by decide) (by decide)
theorem ef0 (m : MethodId) (x0 : Int32) (x1 : Int32) (x2 : Int32) : entryFrame m #[(.int x0), (.int x1), (.int x2)] maxLocals = mkF m 0 #[iv x0, iv x1, iv x2, .unset, .unset, .unset, .unset, .unset, .unset, .unset, .unset] [] := by first | (simp [entryFrame, mkF, argsToLocals, Value.category, maxLocals]; done) | rfl
theorem pn_com_example_disburse_disburse_core_IbanRegistryKindAdmitsPinLaw : plainName "com/example/disburse/disburse/core/IbanRegistryKindAdmitsPinLaw" = true := by first | (simp [plainName, overriddenIn]; done) | decide +kernel
def Q0 (Z : State) (pk : Int32) (px : Int32) (pf : Int32) (r_IbanRegistry_Kind_DIGIT : Addr) (r_IbanRegistry_Kind_LETTER : Addr) (r_IbanRegistry_Kind_LETTER_OR_DIGIT : Addr) (h0 : Heap) (n0 : Nat) (v : Option Value) (h : Heap) (L : List Loc) : Prop := v = some (.int 1) ∧ Fr n0 L
set_option maxRecDepth 65536 in
set_option maxHeartbeats 40000000 in
theorem rm0 (l : Launch) (Z : State) (a0 : Array Value) (hw : ∀ d ∈ tables_1, d.before a0 Z = true) (ws : List Jvm.Cond) (pk : Int32) (px : Int32) (pf : Int32) (r_IbanRegistry_Kind_DIGIT : Addr) (r_IbanRegistry_Kind_LETTER : Addr) (r_IbanRegistry_Kind_LETTER_OR_DIGIT : Addr) (h0 : Heap) (n0 : Nat) (Z0 : n0 ≤ h0.size) (S_r_IbanRegistry_Kind_DIGIT : Sta Z h0 "com/example/disburse/disburse/core/IbanRegistry$Kind" "DIGIT" "Lcom/example/disburse/disburse/core/IbanRegistry$Kind;" (.ref r_IbanRegistry_Kind_DIGIT)) (E_r_IbanRegistry_Kind_DIGIT : Exa Z h0 r_IbanRegistry_Kind_DIGIT "com/example/disburse/disburse/core/IbanRegistry$Kind") (S_r_IbanRegistry_Kind_LETTER : Sta Z h0 "com/example/disburse/disburse/core/IbanRegistry$Kind" "LETTER" "Lcom/example/disburse/disburse/core/IbanRegistry$Kind;" (.ref r_IbanRegistry_Kind_LETTER)) (E_r_IbanRegistry_Kind_LETTER : Exa Z h0 r_IbanRegistry_Kind_LETTER "com/example/disburse/disburse/core/IbanRegistry$Kind") (S_r_IbanRegistry_Kind_LETTER_OR_DIGIT : Sta Z h0 "com/example/disburse/disburse/core/IbanRegistry$Kind" "LETTER_OR_DIGIT" "Lcom/example/disburse/disburse/core/IbanRegistry$Kind;" (.ref r_IbanRegistry_Kind_LETTER_OR_DIGIT)) (E_r_IbanRegistry_Kind_LETTER_OR_DIGIT : Exa Z h0 r_IbanRegistry_Kind_LETTER_OR_DIGIT "com/example/disburse/disburse/core/IbanRegistry$Kind") (F_r_IbanRegistry_Kind_DIGIT_ordinal : Fld Z h0 r_IbanRegistry_Kind_DIGIT "java/lang/Enum" "ordinal" "I" (.int 0)) (F_r_IbanRegistry_Kind_LETTER_ordinal : Fld Z h0 r_IbanRegistry_Kind_LETTER "java/lang/Enum" "ordinal" "I" (.int 1)) (F_r_IbanRegistry_Kind_LETTER_OR_DIGIT_ordinal : Fld Z h0 r_IbanRegistry_Kind_LETTER_OR_DIGIT "java/lang/Enum" "ordinal" "I" (.int 2)) :
    MetFree l x (head1 (Jvm.Cond.code x code maxLocals ret :: ws) room_1) (fun as' U => as' = #[(.int pk), (.int px), (.int pf)] ∧ Z.Warmed39 U.vm ∧ U.heap = h0) (fun _ _ _ _ _ => True) (fun _ U o U' => ∃ v L, o = .returned v ∧ Q0 Z pk px pf r_IbanRegistry_Kind_DIGIT r_IbanRegistry_Kind_LETTER r_IbanRegistry_Kind_LETTER_OR_DIGIT h0 n0 v U'.heap L ∧ FrameEnd U o U' L 0 0) := by
  refine MetFree.of_bodySF (plainFor_of_name pn_com_example_disburse_disburse_core_IbanRegistryKindAdmitsPinLaw) hisR ?_
  intro p e s m args below meth c s₁ Bd hml0 hP hK
  obtain ⟨rfl, hZ, hh⟩ := hP
  have hx := Bd.exec
  have hby := Bd.bytes
  have hml : c.maxLocals = 11 := hml0
  have hown : s.vm.findClass "com/example/disburse/disburse/core/IbanRegistryKindAdmitsPinLaw" = some m.cls := findClass_of_methodNamed Bd.named
  have hnm := (name_of_methodNamed Bd.named Bd.method).1
  have X0 : Stand p l e room_1 s m #[(.int pk), (.int px), (.int pf)] below meth c s₁ [] 0 0 := Stand.of_body Bd
  have e0 : s₁.heap = h0 := by rw [← hh, Bd.state]; rfl
  have N0 := Fr.nil n0
  show Go p e below s (fun v h L => Q0 Z pk px pf r_IbanRegistry_Kind_DIGIT r_IbanRegistry_Kind_LETTER r_IbanRegistry_Kind_LETTER_OR_DIGIT h0 n0 v h L) 0 0 _
  refine Go.pull (V := s₁.setTop (mkF m 0 #[iv pk, iv px, iv pf, .unset, .unset, .unset, .unset, .unset, .unset, .unset, .unset] [])) (fun t k => castTop (ef0 m pk px pf) k) ?_
  refine Go.pull (V := s₁.setTop (mkF m 1 #[iv pk, iv px, iv pf, .unset, .unset, .unset, .unset, .unset, .unset, .unset, .unset] [(.int pk)])) (fun t k => XS.iloadN X0.here hx rfl (hb hby at_0) rfl  k) ?_
  refine Go.pull (V := s₁.setTop (mkF m 3 #[iv pk, iv px, iv pf, .unset, .unset, .unset, .unset, .unset, .unset, .unset, .unset] [(.int 2147483647), (.int pk)])) (fun t k => X0.ldcInt hx hown (mvT hZ (hw _ (List.mem_of_getElem? (i := 0) rfl))) (g := (mkF m 1 #[iv pk, iv px, iv pf, .unset, .unset, .unset, .unset, .unset, .unset, .unset, .unset] [(.int pk)])) rfl (hb hby at_1) _ k) ?_
  refine Go.pull (V := s₁.setTop (mkF m 4 #[iv pk, iv px, iv pf, .unset, .unset, .unset, .unset, .unset, .unset, .unset, .unset] [(.int (pk &&& (2147483647 : Int32)))])) (fun t k => XS.iand X0.here hx rfl (hb hby at_3) rfl k) ?_
  refine Go.pull (V := s₁.setTop (mkF m 5 #[iv pk, iv px, iv pf, .unset, .unset, .unset, .unset, .unset, .unset, .unset, .unset] [(.int 3), (.int (pk &&& (2147483647 : Int32)))])) (fun t k => XS.iconst X0.here hx rfl (hb hby at_4) k) ?_
  refine Go.pull (V := s₁.setTop (mkF m 6 #[iv pk, iv px, iv pf, .unset, .unset, .unset, .unset, .unset, .unset, .unset, .unset] [(.int ((pk &&& (2147483647 : Int32)) % (3 : Int32)))])) (fun t k => iremM X0 hx rfl (hb hby at_5) rfl (by decide) k) ?_
  refine Go.pull (V := s₁.setTop (mkF m 7 #[iv pk, iv px, iv pf, iv ((pk &&& (2147483647 : Int32)) % (3 : Int32)), .unset, .unset, .unset, .unset, .unset, .unset, .unset] [])) (fun t k => XS.istoreN X0.here hx rfl (hb hby at_6) rfl (l' := #[iv pk, iv px, iv pf, iv ((pk &&& (2147483647 : Int32)) % (3 : Int32)), .unset, .unset, .unset, .unset, .unset, .unset, .unset]) rfl k) ?_
  generalize gv1 : ((pk &&& (2147483647 : Int32)) % (3 : Int32)) = v1
  obtain hv1 | hv1 | hv1 := own_rem3 _ gv1
  · subst hv1
    have J25_2 : ∀ (zc : Int32) (_ : 0 ≤ zc.toInt ∧ zc.toInt < 65536), Go p e below s (fun v h L => Q0 Z pk px pf r_IbanRegistry_Kind_DIGIT r_IbanRegistry_Kind_LETTER r_IbanRegistry_Kind_LETTER_OR_DIGIT h0 n0 v h L) 0 0 (s₁.setTop (mkF m 25 #[iv pk, iv px, iv pf, iv 0, iv zc, .unset, .unset, .unset, .unset, .unset, .unset] [])) := by
      intro zc hzc
      refine Go.pull (V := s₁.setTop (mkF m 26 #[iv pk, iv px, iv pf, iv 0, iv zc, .unset, .unset, .unset, .unset, .unset, .unset] [(.int 0)])) (fun t k => XS.iloadN X0.here hx rfl (hb hby at_25) rfl  k) ?_
      refine Go.pull (V := s₁.setTop (mkF m 29 #[iv pk, iv px, iv pf, iv 0, iv zc, .unset, .unset, .unset, .unset, .unset, .unset] [])) (fun t k => XS.ifNo X0.here hx rfl (hb hby at_26) rfl (XT.i0_ne_f (by decide)) k) ?_
      obtain ⟨T3, X3, e3, st3⟩ := getS2 X0 hx hZ hown (host := "") (Or.inl (hw _ (List.mem_of_getElem? (i := 1) rfl))) Via.refl e0 S_r_IbanRegistry_Kind_DIGIT (g := (mkF m 29 #[iv pk, iv px, iv pf, iv 0, iv zc, .unset, .unset, .unset, .unset, .unset, .unset] [])) rfl (hb hby at_29)
      refine Go.pull (V := T3.setTop (mkF m 32 #[iv pk, iv px, iv pf, iv 0, iv zc, .unset, .unset, .unset, .unset, .unset, .unset] [(.ref r_IbanRegistry_Kind_DIGIT)])) st3 ?_
      refine Go.pull (V := T3.setTop (mkF m 34 #[iv pk, iv px, iv pf, iv 0, iv zc, rv r_IbanRegistry_Kind_DIGIT, .unset, .unset, .unset, .unset, .unset] [])) (fun t k => XS.astore X3.here hx rfl (hb hby at_32) rfl rfl (l' := #[iv pk, iv px, iv pf, iv 0, iv zc, rv r_IbanRegistry_Kind_DIGIT, .unset, .unset, .unset, .unset, .unset]) rfl k) ?_
      refine Go.pull (V := T3.setTop (mkF m 55 #[iv pk, iv px, iv pf, iv 0, iv zc, rv r_IbanRegistry_Kind_DIGIT, .unset, .unset, .unset, .unset, .unset] [])) (fun t k => XS.goto X3.here hx rfl (pc0 := 34) (pc' := 55) rfl (hb hby at_34) (by decide) (by decide) k) ?_
      refine Go.pull (V := T3.setTop (mkF m 57 #[iv pk, iv px, iv pf, iv 0, iv zc, rv r_IbanRegistry_Kind_DIGIT, .unset, .unset, .unset, .unset, .unset] [(.int zc)])) (fun t k => XS.iload X3.here hx rfl (hb hby at_55) rfl  k) ?_
      refine Go.pull (V := T3.setTop (mkF m 59 #[iv pk, iv px, iv pf, iv 0, iv zc, rv r_IbanRegistry_Kind_DIGIT, .unset, .unset, .unset, .unset, .unset] [(.int 48), (.int zc)])) (fun t k => XS.bipush X3.here hx rfl (hb hby at_57) k) ?_
      refine Go.pull (V := T3.setTop (mkF m 60 #[iv pk, iv px, iv pf, iv 0, iv zc, rv r_IbanRegistry_Kind_DIGIT, .unset, .unset, .unset, .unset, .unset] [(.int (zc - (48 : Int32)))])) (fun t k => XS.isub X3.here hx rfl (hb hby at_59) rfl k) ?_
      refine Go.pull (V := T3.setTop (mkF m 62 #[iv pk, iv px, iv pf, iv 0, iv zc, rv r_IbanRegistry_Kind_DIGIT, iv (zc - (48 : Int32)), .unset, .unset, .unset, .unset] [])) (fun t k => XS.istore X3.here hx rfl (hb hby at_60) rfl (l' := #[iv pk, iv px, iv pf, iv 0, iv zc, rv r_IbanRegistry_Kind_DIGIT, iv (zc - (48 : Int32)), .unset, .unset, .unset, .unset]) rfl k) ?_
      refine Go.pull (V := T3.setTop (mkF m 64 #[iv pk, iv px, iv pf, iv 0, iv zc, rv r_IbanRegistry_Kind_DIGIT, iv (zc - (48 : Int32)), .unset, .unset, .unset, .unset] [(.int (zc - (48 : Int32)))])) (fun t k => XS.iload X3.here hx rfl (hb hby at_62) rfl  k) ?_
      by_cases hp4 : zc < (48 : Int32)
      · skip
        refine Go.pull (V := T3.setTop (mkF m 78 #[iv pk, iv px, iv pf, iv 0, iv zc, rv r_IbanRegistry_Kind_DIGIT, iv (zc - (48 : Int32)), .unset, .unset, .unset, .unset] [])) (fun t k => XS.ifYes X3.here hx rfl (pc0 := 64) (pc' := 78) rfl (hb hby at_64) rfl (XT.i0_lt_t ((own_a (k := 48) hzc (by decide) (by decide)).mpr hp4)) (by decide) (by decide) k) ?_
        refine Go.pull (V := T3.setTop (mkF m 79 #[iv pk, iv px, iv pf, iv 0, iv zc, rv r_IbanRegistry_Kind_DIGIT, iv (zc - (48 : Int32)), .unset, .unset, .unset, .unset] [(.int 0)])) (fun t k => XS.iconst X3.here hx rfl (hb hby at_78) k) ?_
        refine Go.pull (V := T3.setTop (mkF m 81 #[iv pk, iv px, iv pf, iv 0, iv zc, rv r_IbanRegistry_Kind_DIGIT, iv (zc - (48 : Int32)), iv 0, .unset, .unset, .unset] [])) (fun t k => XS.istore X3.here hx rfl (hb hby at_79) rfl (l' := #[iv pk, iv px, iv pf, iv 0, iv zc, rv r_IbanRegistry_Kind_DIGIT, iv (zc - (48 : Int32)), iv 0, .unset, .unset, .unset]) rfl k) ?_
        refine Go.pull (V := T3.setTop (mkF m 83 #[iv pk, iv px, iv pf, iv 0, iv zc, rv r_IbanRegistry_Kind_DIGIT, iv (zc - (48 : Int32)), iv 0, .unset, .unset, .unset] [(.int zc)])) (fun t k => XS.iload X3.here hx rfl (hb hby at_81) rfl  k) ?_
        refine Go.pull (V := T3.setTop (mkF m 85 #[iv pk, iv px, iv pf, iv 0, iv zc, rv r_IbanRegistry_Kind_DIGIT, iv (zc - (48 : Int32)), iv 0, .unset, .unset, .unset] [(.int 65), (.int zc)])) (fun t k => XS.bipush X3.here hx rfl (hb hby at_83) k) ?_
        refine Go.pull (V := T3.setTop (mkF m 86 #[iv pk, iv px, iv pf, iv 0, iv zc, rv r_IbanRegistry_Kind_DIGIT, iv (zc - (48 : Int32)), iv 0, .unset, .unset, .unset] [(.int (zc - (65 : Int32)))])) (fun t k => XS.isub X3.here hx rfl (hb hby at_85) rfl k) ?_
        refine Go.pull (V := T3.setTop (mkF m 88 #[iv pk, iv px, iv pf, iv 0, iv zc, rv r_IbanRegistry_Kind_DIGIT, iv (zc - (48 : Int32)), iv 0, iv (zc - (65 : Int32)), .unset, .unset] [])) (fun t k => XS.istore X3.here hx rfl (hb hby at_86) rfl (l' := #[iv pk, iv px, iv pf, iv 0, iv zc, rv r_IbanRegistry_Kind_DIGIT, iv (zc - (48 : Int32)), iv 0, iv (zc - (65 : Int32)), .unset, .unset]) rfl k) ?_
        refine Go.pull (V := T3.setTop (mkF m 90 #[iv pk, iv px, iv pf, iv 0, iv zc, rv r_IbanRegistry_Kind_DIGIT, iv (zc - (48 : Int32)), iv 0, iv (zc - (65 : Int32)), .unset, .unset] [(.int (zc - (65 : Int32)))])) (fun t k => XS.iload X3.here hx rfl (hb hby at_88) rfl  k) ?_
        by_cases hp5 : zc < (65 : Int32)
        · skip
          refine Go.pull (V := T3.setTop (mkF m 104 #[iv pk, iv px, iv pf, iv 0, iv zc, rv r_IbanRegistry_Kind_DIGIT, iv (zc - (48 : Int32)), iv 0, iv (zc - (65 : Int32)), .unset, .unset] [])) (fun t k => XS.ifYes X3.here hx rfl (pc0 := 90) (pc' := 104) rfl (hb hby at_90) rfl (XT.i0_lt_t ((own_a (k := 65) hzc (by decide) (by decide)).mpr hp5)) (by decide) (by decide) k) ?_
          refine Go.pull (V := T3.setTop (mkF m 105 #[iv pk, iv px, iv pf, iv 0, iv zc, rv r_IbanRegistry_Kind_DIGIT, iv (zc - (48 : Int32)), iv 0, iv (zc - (65 : Int32)), .unset, .unset] [(.int 0)])) (fun t k => XS.iconst X3.here hx rfl (hb hby at_104) k) ?_
          refine Go.pull (V := T3.setTop (mkF m 107 #[iv pk, iv px, iv pf, iv 0, iv zc, rv r_IbanRegistry_Kind_DIGIT, iv (zc - (48 : Int32)), iv 0, iv (zc - (65 : Int32)), iv 0, .unset] [])) (fun t k => XS.istore X3.here hx rfl (hb hby at_105) rfl (l' := #[iv pk, iv px, iv pf, iv 0, iv zc, rv r_IbanRegistry_Kind_DIGIT, iv (zc - (48 : Int32)), iv 0, iv (zc - (65 : Int32)), iv 0, .unset]) rfl k) ?_
          refine Go.pull (V := T3.setTop (mkF m 108 #[iv pk, iv px, iv pf, iv 0, iv zc, rv r_IbanRegistry_Kind_DIGIT, iv (zc - (48 : Int32)), iv 0, iv (zc - (65 : Int32)), iv 0, .unset] [(.int 0)])) (fun t k => XS.iloadN X3.here hx rfl (hb hby at_107) rfl  k) ?_
          refine Go.pull (V := T3.setTop (mkF m 111 #[iv pk, iv px, iv pf, iv 0, iv zc, rv r_IbanRegistry_Kind_DIGIT, iv (zc - (48 : Int32)), iv 0, iv (zc - (65 : Int32)), iv 0, .unset] [])) (fun t k => XS.ifNo X3.here hx rfl (hb hby at_108) rfl (XT.i0_ne_f (by decide)) k) ?_
          refine Go.pull (V := T3.setTop (mkF m 113 #[iv pk, iv px, iv pf, iv 0, iv zc, rv r_IbanRegistry_Kind_DIGIT, iv (zc - (48 : Int32)), iv 0, iv (zc - (65 : Int32)), iv 0, .unset] [(.int 0)])) (fun t k => XS.iload X3.here hx rfl (hb hby at_111) rfl  k) ?_
          refine Go.pull (V := T3.setTop (mkF m 115 #[iv pk, iv px, iv pf, iv 0, iv zc, rv r_IbanRegistry_Kind_DIGIT, iv (zc - (48 : Int32)), iv 0, iv (zc - (65 : Int32)), iv 0, iv 0] [])) (fun t k => XS.istore X3.here hx rfl (hb hby at_113) rfl (l' := #[iv pk, iv px, iv pf, iv 0, iv zc, rv r_IbanRegistry_Kind_DIGIT, iv (zc - (48 : Int32)), iv 0, iv (zc - (65 : Int32)), iv 0, iv 0]) rfl k) ?_
          refine Go.pull (V := T3.setTop (mkF m 147 #[iv pk, iv px, iv pf, iv 0, iv zc, rv r_IbanRegistry_Kind_DIGIT, iv (zc - (48 : Int32)), iv 0, iv (zc - (65 : Int32)), iv 0, iv 0] [])) (fun t k => XS.goto X3.here hx rfl (pc0 := 115) (pc' := 147) rfl (hb hby at_115) (by decide) (by decide) k) ?_
          refine Go.pull (V := T3.setTop (mkF m 149 #[iv pk, iv px, iv pf, iv 0, iv zc, rv r_IbanRegistry_Kind_DIGIT, iv (zc - (48 : Int32)), iv 0, iv (zc - (65 : Int32)), iv 0, iv 0] [(.ref r_IbanRegistry_Kind_DIGIT)])) (fun t k => XS.aload X3.here hx rfl (hb hby at_147) rfl rfl k) ?_
          refine Go.pull (V := T3.setTop (mkF m 151 #[iv pk, iv px, iv pf, iv 0, iv zc, rv r_IbanRegistry_Kind_DIGIT, iv (zc - (48 : Int32)), iv 0, iv (zc - (65 : Int32)), iv 0, iv 0] [(.int zc), (.ref r_IbanRegistry_Kind_DIGIT)])) (fun t k => XS.iload X3.here hx rfl (hb hby at_149) rfl  k) ?_
          obtain ⟨cq6, kq6, q6a, q6b, q6c⟩ := isOf hZ e3 E_r_IbanRegistry_Kind_DIGIT
          obtain ⟨_, _, ⟨T6, L6, k6, n6⟩, -, X6, ⟨Lc6, hQ6, l6, y6, z6⟩, st6⟩ := X3.virtualBack hx (y := (⟨"com/example/disburse/disburse/core/IbanRegistry$Kind", "admits", "(C)Z"⟩ : MethodName)) (z := (⟨"com/example/disburse/disburse/core/IbanRegistry$Kind", "admits", "(C)Z"⟩ : MethodName)) hown (mvT hZ (hw _ (List.mem_of_getElem? (i := 4) rfl))) (mvT hZ (hw _ (List.mem_of_getElem? (i := 5) rfl))) (notFace_of_selects (args := #[]) (mvT hZ (hw _ (List.mem_of_getElem? (i := 7) rfl)))) (mvT hZ (hw _ (List.mem_of_getElem? (i := 7) rfl))) (mvT hZ (hw _ (List.mem_of_getElem? (i := 6) rfl))) (by decide) (backOf (W := 0) (rmA0 l Z a0 hw [] r_IbanRegistry_Kind_DIGIT zc h0 n0 E_r_IbanRegistry_Kind_DIGIT F_r_IbanRegistry_Kind_DIGIT_ordinal) hZ (hw _ (List.mem_of_getElem? (i := 8) rfl)) (hw _ (List.mem_of_getElem? (i := 2) rfl)) (by decide) (by decide)) q6a q6c (g := (mkF m 151 #[iv pk, iv px, iv pf, iv 0, iv zc, rv r_IbanRegistry_Kind_DIGIT, iv (zc - (48 : Int32)), iv 0, iv (zc - (65 : Int32)), iv 0, iv 0] [(.int zc), (.ref r_IbanRegistry_Kind_DIGIT)])) rfl (by rw [hml]; rfl) (Steps.refl _) (argsL := [(.int zc)]) (rest := []) (lenOf pd_1 rfl) rfl (by show 2 * 0 + _ ≤ _; exact Nat.le_of_eq rfl) (hb hby at_151) (fun _ _ => ⟨rfl, e3, (by decide : 0 + 0 ≤ _), (by decide : 0 + 0 ≤ _)⟩)
          dsimp only [Pt.U, Pt.locs, Pt.cells, Pt.slots] at X6 l6 y6 z6 st6 hQ6
          subst l6 y6 z6
          obtain ⟨hv6, N6q, e6⟩ := hQ6
          rw [(show (own_dig zc) = (0 : Int32) from by rw [own_dig, if_pos hp4])] at hv6; subst hv6
          have N6 := Fr.app N0 N6q
          refine Go.pull (V := T6.setTop (mkF m 154 #[iv pk, iv px, iv pf, iv 0, iv zc, rv r_IbanRegistry_Kind_DIGIT, iv (zc - (48 : Int32)), iv 0, iv (zc - (65 : Int32)), iv 0, iv 0] [(.int 0)])) (fun _ k => st6.trans k) ?_
          refine Go.pull (V := T6.setTop (mkF m 156 #[iv pk, iv px, iv pf, iv 0, iv zc, rv r_IbanRegistry_Kind_DIGIT, iv (zc - (48 : Int32)), iv 0, iv (zc - (65 : Int32)), iv 0, iv 0] [(.int 0), (.int 0)])) (fun t k => XS.iload X6.here hx rfl (hb hby at_154) rfl  k) ?_
          refine Go.pull (V := T6.setTop (mkF m 159 #[iv pk, iv px, iv pf, iv 0, iv zc, rv r_IbanRegistry_Kind_DIGIT, iv (zc - (48 : Int32)), iv 0, iv (zc - (65 : Int32)), iv 0, iv 0] [])) (fun t k => XS.icmpNo X6.here hx rfl (hb hby at_156) rfl (XT.ii_ne_f (by decide)) k) ?_
          refine Go.pull (V := T6.setTop (mkF m 160 #[iv pk, iv px, iv pf, iv 0, iv zc, rv r_IbanRegistry_Kind_DIGIT, iv (zc - (48 : Int32)), iv 0, iv (zc - (65 : Int32)), iv 0, iv 0] [(.int 1)])) (fun t k => XS.iconst X6.here hx rfl (hb hby at_159) k) ?_
          refine Go.pull (V := T6.setTop (mkF m 164 #[iv pk, iv px, iv pf, iv 0, iv zc, rv r_IbanRegistry_Kind_DIGIT, iv (zc - (48 : Int32)), iv 0, iv (zc - (65 : Int32)), iv 0, iv 0] [(.int 1)])) (fun t k => XS.goto X6.here hx rfl (pc0 := 160) (pc' := 164) rfl (hb hby at_160) (by decide) (by decide) k) ?_
          exact Go.retN X6 hx Bd.notSynchronized (t := .boolean) Bd.returns (by simp) (hb hby at_164) ⟨rfl, N6⟩ (by decide) (by decide)
        · skip
          refine Go.pull (V := T3.setTop (mkF m 93 #[iv pk, iv px, iv pf, iv 0, iv zc, rv r_IbanRegistry_Kind_DIGIT, iv (zc - (48 : Int32)), iv 0, iv (zc - (65 : Int32)), .unset, .unset] [])) (fun t k => XS.ifNo X3.here hx rfl (hb hby at_90) rfl (XT.i0_lt_f (fun q => hp5 ((own_a (k := 65) hzc (by decide) (by decide)).mp q))) k) ?_
          refine Go.pull (V := T3.setTop (mkF m 95 #[iv pk, iv px, iv pf, iv 0, iv zc, rv r_IbanRegistry_Kind_DIGIT, iv (zc - (48 : Int32)), iv 0, iv (zc - (65 : Int32)), .unset, .unset] [(.int (zc - (65 : Int32)))])) (fun t k => XS.iload X3.here hx rfl (hb hby at_93) rfl  k) ?_
          refine Go.pull (V := T3.setTop (mkF m 97 #[iv pk, iv px, iv pf, iv 0, iv zc, rv r_IbanRegistry_Kind_DIGIT, iv (zc - (48 : Int32)), iv 0, iv (zc - (65 : Int32)), .unset, .unset] [(.int 26), (.int (zc - (65 : Int32)))])) (fun t k => XS.bipush X3.here hx rfl (hb hby at_95) k) ?_
          by_cases hp7 : (90 : Int32) < zc
          · skip
            refine Go.pull (V := T3.setTop (mkF m 104 #[iv pk, iv px, iv pf, iv 0, iv zc, rv r_IbanRegistry_Kind_DIGIT, iv (zc - (48 : Int32)), iv 0, iv (zc - (65 : Int32)), .unset, .unset] [])) (fun t k => XS.icmpYes X3.here hx rfl (pc0 := 97) (pc' := 104) rfl (hb hby at_97) rfl (XT.ii_ge_t (fun q => (own_b (k := 90) hzc (by decide) (by decide)).mp q hp7)) (by decide) (by decide) k) ?_
            refine Go.pull (V := T3.setTop (mkF m 105 #[iv pk, iv px, iv pf, iv 0, iv zc, rv r_IbanRegistry_Kind_DIGIT, iv (zc - (48 : Int32)), iv 0, iv (zc - (65 : Int32)), .unset, .unset] [(.int 0)])) (fun t k => XS.iconst X3.here hx rfl (hb hby at_104) k) ?_
            refine Go.pull (V := T3.setTop (mkF m 107 #[iv pk, iv px, iv pf, iv 0, iv zc, rv r_IbanRegistry_Kind_DIGIT, iv (zc - (48 : Int32)), iv 0, iv (zc - (65 : Int32)), iv 0, .unset] [])) (fun t k => XS.istore X3.here hx rfl (hb hby at_105) rfl (l' := #[iv pk, iv px, iv pf, iv 0, iv zc, rv r_IbanRegistry_Kind_DIGIT, iv (zc - (48 : Int32)), iv 0, iv (zc - (65 : Int32)), iv 0, .unset]) rfl k) ?_
            refine Go.pull (V := T3.setTop (mkF m 108 #[iv pk, iv px, iv pf, iv 0, iv zc, rv r_IbanRegistry_Kind_DIGIT, iv (zc - (48 : Int32)), iv 0, iv (zc - (65 : Int32)), iv 0, .unset] [(.int 0)])) (fun t k => XS.iloadN X3.here hx rfl (hb hby at_107) rfl  k) ?_
            refine Go.pull (V := T3.setTop (mkF m 111 #[iv pk, iv px, iv pf, iv 0, iv zc, rv r_IbanRegistry_Kind_DIGIT, iv (zc - (48 : Int32)), iv 0, iv (zc - (65 : Int32)), iv 0, .unset] [])) (fun t k => XS.ifNo X3.here hx rfl (hb hby at_108) rfl (XT.i0_ne_f (by decide)) k) ?_
            refine Go.pull (V := T3.setTop (mkF m 113 #[iv pk, iv px, iv pf, iv 0, iv zc, rv r_IbanRegistry_Kind_DIGIT, iv (zc - (48 : Int32)), iv 0, iv (zc - (65 : Int32)), iv 0, .unset] [(.int 0)])) (fun t k => XS.iload X3.here hx rfl (hb hby at_111) rfl  k) ?_
            refine Go.pull (V := T3.setTop (mkF m 115 #[iv pk, iv px, iv pf, iv 0, iv zc, rv r_IbanRegistry_Kind_DIGIT, iv (zc - (48 : Int32)), iv 0, iv (zc - (65 : Int32)), iv 0, iv 0] [])) (fun t k => XS.istore X3.here hx rfl (hb hby at_113) rfl (l' := #[iv pk, iv px, iv pf, iv 0, iv zc, rv r_IbanRegistry_Kind_DIGIT, iv (zc - (48 : Int32)), iv 0, iv (zc - (65 : Int32)), iv 0, iv 0]) rfl k) ?_
            refine Go.pull (V := T3.setTop (mkF m 147 #[iv pk, iv px, iv pf, iv 0, iv zc, rv r_IbanRegistry_Kind_DIGIT, iv (zc - (48 : Int32)), iv 0, iv (zc - (65 : Int32)), iv 0, iv 0] [])) (fun t k => XS.goto X3.here hx rfl (pc0 := 115) (pc' := 147) rfl (hb hby at_115) (by decide) (by decide) k) ?_
            refine Go.pull (V := T3.setTop (mkF m 149 #[iv pk, iv px, iv pf, iv 0, iv zc, rv r_IbanRegistry_Kind_DIGIT, iv (zc - (48 : Int32)), iv 0, iv (zc - (65 : Int32)), iv 0, iv 0] [(.ref r_IbanRegistry_Kind_DIGIT)])) (fun t k => XS.aload X3.here hx rfl (hb hby at_147) rfl rfl k) ?_
            refine Go.pull (V := T3.setTop (mkF m 151 #[iv pk, iv px, iv pf, iv 0, iv zc, rv r_IbanRegistry_Kind_DIGIT, iv (zc - (48 : Int32)), iv 0, iv (zc - (65 : Int32)), iv 0, iv 0] [(.int zc), (.ref r_IbanRegistry_Kind_DIGIT)])) (fun t k => XS.iload X3.here hx rfl (hb hby at_149) rfl  k) ?_
            obtain ⟨cq8, kq8, q8a, q8b, q8c⟩ := isOf hZ e3 E_r_IbanRegistry_Kind_DIGIT
            obtain ⟨_, _, ⟨T8, L8, k8, n8⟩, -, X8, ⟨Lc8, hQ8, l8, y8, z8⟩, st8⟩ := X3.virtualBack hx (y := (⟨"com/example/disburse/disburse/core/IbanRegistry$Kind", "admits", "(C)Z"⟩ : MethodName)) (z := (⟨"com/example/disburse/disburse/core/IbanRegistry$Kind", "admits", "(C)Z"⟩ : MethodName)) hown (mvT hZ (hw _ (List.mem_of_getElem? (i := 4) rfl))) (mvT hZ (hw _ (List.mem_of_getElem? (i := 5) rfl))) (notFace_of_selects (args := #[]) (mvT hZ (hw _ (List.mem_of_getElem? (i := 7) rfl)))) (mvT hZ (hw _ (List.mem_of_getElem? (i := 7) rfl))) (mvT hZ (hw _ (List.mem_of_getElem? (i := 6) rfl))) (by decide) (backOf (W := 0) (rmA0 l Z a0 hw [] r_IbanRegistry_Kind_DIGIT zc h0 n0 E_r_IbanRegistry_Kind_DIGIT F_r_IbanRegistry_Kind_DIGIT_ordinal) hZ (hw _ (List.mem_of_getElem? (i := 8) rfl)) (hw _ (List.mem_of_getElem? (i := 2) rfl)) (by decide) (by decide)) q8a q8c (g := (mkF m 151 #[iv pk, iv px, iv pf, iv 0, iv zc, rv r_IbanRegistry_Kind_DIGIT, iv (zc - (48 : Int32)), iv 0, iv (zc - (65 : Int32)), iv 0, iv 0] [(.int zc), (.ref r_IbanRegistry_Kind_DIGIT)])) rfl (by rw [hml]; rfl) (Steps.refl _) (argsL := [(.int zc)]) (rest := []) (lenOf pd_1 rfl) rfl (by show 2 * 0 + _ ≤ _; exact Nat.le_of_eq rfl) (hb hby at_151) (fun _ _ => ⟨rfl, e3, (by decide : 0 + 0 ≤ _), (by decide : 0 + 0 ≤ _)⟩)
            dsimp only [Pt.U, Pt.locs, Pt.cells, Pt.slots] at X8 l8 y8 z8 st8 hQ8
            subst l8 y8 z8
            obtain ⟨hv8, N8q, e8⟩ := hQ8
            rw [(show (own_dig zc) = (0 : Int32) from by rw [own_dig, if_pos hp4])] at hv8; subst hv8
            have N8 := Fr.app N0 N8q
            refine Go.pull (V := T8.setTop (mkF m 154 #[iv pk, iv px, iv pf, iv 0, iv zc, rv r_IbanRegistry_Kind_DIGIT, iv (zc - (48 : Int32)), iv 0, iv (zc - (65 : Int32)), iv 0, iv 0] [(.int 0)])) (fun _ k => st8.trans k) ?_
            refine Go.pull (V := T8.setTop (mkF m 156 #[iv pk, iv px, iv pf, iv 0, iv zc, rv r_IbanRegistry_Kind_DIGIT, iv (zc - (48 : Int32)), iv 0, iv (zc - (65 : Int32)), iv 0, iv 0] [(.int 0), (.int 0)])) (fun t k => XS.iload X8.here hx rfl (hb hby at_154) rfl  k) ?_
            refine Go.pull (V := T8.setTop (mkF m 159 #[iv pk, iv px, iv pf, iv 0, iv zc, rv r_IbanRegistry_Kind_DIGIT, iv (zc - (48 : Int32)), iv 0, iv (zc - (65 : Int32)), iv 0, iv 0] [])) (fun t k => XS.icmpNo X8.here hx rfl (hb hby at_156) rfl (XT.ii_ne_f (by decide)) k) ?_
            refine Go.pull (V := T8.setTop (mkF m 160 #[iv pk, iv px, iv pf, iv 0, iv zc, rv r_IbanRegistry_Kind_DIGIT, iv (zc - (48 : Int32)), iv 0, iv (zc - (65 : Int32)), iv 0, iv 0] [(.int 1)])) (fun t k => XS.iconst X8.here hx rfl (hb hby at_159) k) ?_
            refine Go.pull (V := T8.setTop (mkF m 164 #[iv pk, iv px, iv pf, iv 0, iv zc, rv r_IbanRegistry_Kind_DIGIT, iv (zc - (48 : Int32)), iv 0, iv (zc - (65 : Int32)), iv 0, iv 0] [(.int 1)])) (fun t k => XS.goto X8.here hx rfl (pc0 := 160) (pc' := 164) rfl (hb hby at_160) (by decide) (by decide) k) ?_
            exact Go.retN X8 hx Bd.notSynchronized (t := .boolean) Bd.returns (by simp) (hb hby at_164) ⟨rfl, N8⟩ (by decide) (by decide)
          · skip
            refine Go.pull (V := T3.setTop (mkF m 100 #[iv pk, iv px, iv pf, iv 0, iv zc, rv r_IbanRegistry_Kind_DIGIT, iv (zc - (48 : Int32)), iv 0, iv (zc - (65 : Int32)), .unset, .unset] [])) (fun t k => XS.icmpNo X3.here hx rfl (hb hby at_97) rfl (XT.ii_ge_f ((own_b (k := 90) hzc (by decide) (by decide)).mpr hp7)) k) ?_
            refine Go.pull (V := T3.setTop (mkF m 101 #[iv pk, iv px, iv pf, iv 0, iv zc, rv r_IbanRegistry_Kind_DIGIT, iv (zc - (48 : Int32)), iv 0, iv (zc - (65 : Int32)), .unset, .unset] [(.int 1)])) (fun t k => XS.iconst X3.here hx rfl (hb hby at_100) k) ?_
            refine Go.pull (V := T3.setTop (mkF m 105 #[iv pk, iv px, iv pf, iv 0, iv zc, rv r_IbanRegistry_Kind_DIGIT, iv (zc - (48 : Int32)), iv 0, iv (zc - (65 : Int32)), .unset, .unset] [(.int 1)])) (fun t k => XS.goto X3.here hx rfl (pc0 := 101) (pc' := 105) rfl (hb hby at_101) (by decide) (by decide) k) ?_
            refine Go.pull (V := T3.setTop (mkF m 107 #[iv pk, iv px, iv pf, iv 0, iv zc, rv r_IbanRegistry_Kind_DIGIT, iv (zc - (48 : Int32)), iv 0, iv (zc - (65 : Int32)), iv 1, .unset] [])) (fun t k => XS.istore X3.here hx rfl (hb hby at_105) rfl (l' := #[iv pk, iv px, iv pf, iv 0, iv zc, rv r_IbanRegistry_Kind_DIGIT, iv (zc - (48 : Int32)), iv 0, iv (zc - (65 : Int32)), iv 1, .unset]) rfl k) ?_
            refine Go.pull (V := T3.setTop (mkF m 108 #[iv pk, iv px, iv pf, iv 0, iv zc, rv r_IbanRegistry_Kind_DIGIT, iv (zc - (48 : Int32)), iv 0, iv (zc - (65 : Int32)), iv 1, .unset] [(.int 0)])) (fun t k => XS.iloadN X3.here hx rfl (hb hby at_107) rfl  k) ?_
            refine Go.pull (V := T3.setTop (mkF m 111 #[iv pk, iv px, iv pf, iv 0, iv zc, rv r_IbanRegistry_Kind_DIGIT, iv (zc - (48 : Int32)), iv 0, iv (zc - (65 : Int32)), iv 1, .unset] [])) (fun t k => XS.ifNo X3.here hx rfl (hb hby at_108) rfl (XT.i0_ne_f (by decide)) k) ?_
            refine Go.pull (V := T3.setTop (mkF m 113 #[iv pk, iv px, iv pf, iv 0, iv zc, rv r_IbanRegistry_Kind_DIGIT, iv (zc - (48 : Int32)), iv 0, iv (zc - (65 : Int32)), iv 1, .unset] [(.int 0)])) (fun t k => XS.iload X3.here hx rfl (hb hby at_111) rfl  k) ?_
            refine Go.pull (V := T3.setTop (mkF m 115 #[iv pk, iv px, iv pf, iv 0, iv zc, rv r_IbanRegistry_Kind_DIGIT, iv (zc - (48 : Int32)), iv 0, iv (zc - (65 : Int32)), iv 1, iv 0] [])) (fun t k => XS.istore X3.here hx rfl (hb hby at_113) rfl (l' := #[iv pk, iv px, iv pf, iv 0, iv zc, rv r_IbanRegistry_Kind_DIGIT, iv (zc - (48 : Int32)), iv 0, iv (zc - (65 : Int32)), iv 1, iv 0]) rfl k) ?_
            refine Go.pull (V := T3.setTop (mkF m 147 #[iv pk, iv px, iv pf, iv 0, iv zc, rv r_IbanRegistry_Kind_DIGIT, iv (zc - (48 : Int32)), iv 0, iv (zc - (65 : Int32)), iv 1, iv 0] [])) (fun t k => XS.goto X3.here hx rfl (pc0 := 115) (pc' := 147) rfl (hb hby at_115) (by decide) (by decide) k) ?_
            refine Go.pull (V := T3.setTop (mkF m 149 #[iv pk, iv px, iv pf, iv 0, iv zc, rv r_IbanRegistry_Kind_DIGIT, iv (zc - (48 : Int32)), iv 0, iv (zc - (65 : Int32)), iv 1, iv 0] [(.ref r_IbanRegistry_Kind_DIGIT)])) (fun t k => XS.aload X3.here hx rfl (hb hby at_147) rfl rfl k) ?_
            refine Go.pull (V := T3.setTop (mkF m 151 #[iv pk, iv px, iv pf, iv 0, iv zc, rv r_IbanRegistry_Kind_DIGIT, iv (zc - (48 : Int32)), iv 0, iv (zc - (65 : Int32)), iv 1, iv 0] [(.int zc), (.ref r_IbanRegistry_Kind_DIGIT)])) (fun t k => XS.iload X3.here hx rfl (hb hby at_149) rfl  k) ?_
            obtain ⟨cq9, kq9, q9a, q9b, q9c⟩ := isOf hZ e3 E_r_IbanRegistry_Kind_DIGIT
            obtain ⟨_, _, ⟨T9, L9, k9, n9⟩, -, X9, ⟨Lc9, hQ9, l9, y9, z9⟩, st9⟩ := X3.virtualBack hx (y := (⟨"com/example/disburse/disburse/core/IbanRegistry$Kind", "admits", "(C)Z"⟩ : MethodName)) (z := (⟨"com/example/disburse/disburse/core/IbanRegistry$Kind", "admits", "(C)Z"⟩ : MethodName)) hown (mvT hZ (hw _ (List.mem_of_getElem? (i := 4) rfl))) (mvT hZ (hw _ (List.mem_of_getElem? (i := 5) rfl))) (notFace_of_selects (args := #[]) (mvT hZ (hw _ (List.mem_of_getElem? (i := 7) rfl)))) (mvT hZ (hw _ (List.mem_of_getElem? (i := 7) rfl))) (mvT hZ (hw _ (List.mem_of_getElem? (i := 6) rfl))) (by decide) (backOf (W := 0) (rmA0 l Z a0 hw [] r_IbanRegistry_Kind_DIGIT zc h0 n0 E_r_IbanRegistry_Kind_DIGIT F_r_IbanRegistry_Kind_DIGIT_ordinal) hZ (hw _ (List.mem_of_getElem? (i := 8) rfl)) (hw _ (List.mem_of_getElem? (i := 2) rfl)) (by decide) (by decide)) q9a q9c (g := (mkF m 151 #[iv pk, iv px, iv pf, iv 0, iv zc, rv r_IbanRegistry_Kind_DIGIT, iv (zc - (48 : Int32)), iv 0, iv (zc - (65 : Int32)), iv 1, iv 0] [(.int zc), (.ref r_IbanRegistry_Kind_DIGIT)])) rfl (by rw [hml]; rfl) (Steps.refl _) (argsL := [(.int zc)]) (rest := []) (lenOf pd_1 rfl) rfl (by show 2 * 0 + _ ≤ _; exact Nat.le_of_eq rfl) (hb hby at_151) (fun _ _ => ⟨rfl, e3, (by decide : 0 + 0 ≤ _), (by decide : 0 + 0 ≤ _)⟩)
            dsimp only [Pt.U, Pt.locs, Pt.cells, Pt.slots] at X9 l9 y9 z9 st9 hQ9
            subst l9 y9 z9
            obtain ⟨hv9, N9q, e9⟩ := hQ9
            rw [(show (own_dig zc) = (0 : Int32) from by rw [own_dig, if_pos hp4])] at hv9; subst hv9
            have N9 := Fr.app N0 N9q
            refine Go.pull (V := T9.setTop (mkF m 154 #[iv pk, iv px, iv pf, iv 0, iv zc, rv r_IbanRegistry_Kind_DIGIT, iv (zc - (48 : Int32)), iv 0, iv (zc - (65 : Int32)), iv 1, iv 0] [(.int 0)])) (fun _ k => st9.trans k) ?_
            refine Go.pull (V := T9.setTop (mkF m 156 #[iv pk, iv px, iv pf, iv 0, iv zc, rv r_IbanRegistry_Kind_DIGIT, iv (zc - (48 : Int32)), iv 0, iv (zc - (65 : Int32)), iv 1, iv 0] [(.int 0), (.int 0)])) (fun t k => XS.iload X9.here hx rfl (hb hby at_154) rfl  k) ?_
            refine Go.pull (V := T9.setTop (mkF m 159 #[iv pk, iv px, iv pf, iv 0, iv zc, rv r_IbanRegistry_Kind_DIGIT, iv (zc - (48 : Int32)), iv 0, iv (zc - (65 : Int32)), iv 1, iv 0] [])) (fun t k => XS.icmpNo X9.here hx rfl (hb hby at_156) rfl (XT.ii_ne_f (by decide)) k) ?_
            refine Go.pull (V := T9.setTop (mkF m 160 #[iv pk, iv px, iv pf, iv 0, iv zc, rv r_IbanRegistry_Kind_DIGIT, iv (zc - (48 : Int32)), iv 0, iv (zc - (65 : Int32)), iv 1, iv 0] [(.int 1)])) (fun t k => XS.iconst X9.here hx rfl (hb hby at_159) k) ?_
            refine Go.pull (V := T9.setTop (mkF m 164 #[iv pk, iv px, iv pf, iv 0, iv zc, rv r_IbanRegistry_Kind_DIGIT, iv (zc - (48 : Int32)), iv 0, iv (zc - (65 : Int32)), iv 1, iv 0] [(.int 1)])) (fun t k => XS.goto X9.here hx rfl (pc0 := 160) (pc' := 164) rfl (hb hby at_160) (by decide) (by decide) k) ?_
            exact Go.retN X9 hx Bd.notSynchronized (t := .boolean) Bd.returns (by simp) (hb hby at_164) ⟨rfl, N9⟩ (by decide) (by decide)
      · skip
        refine Go.pull (V := T3.setTop (mkF m 67 #[iv pk, iv px, iv pf, iv 0, iv zc, rv r_IbanRegistry_Kind_DIGIT, iv (zc - (48 : Int32)), .unset, .unset, .unset, .unset] [])) (fun t k => XS.ifNo X3.here hx rfl (hb hby at_64) rfl (XT.i0_lt_f (fun q => hp4 ((own_a (k := 48) hzc (by decide) (by decide)).mp q))) k) ?_
        refine Go.pull (V := T3.setTop (mkF m 69 #[iv pk, iv px, iv pf, iv 0, iv zc, rv r_IbanRegistry_Kind_DIGIT, iv (zc - (48 : Int32)), .unset, .unset, .unset, .unset] [(.int (zc - (48 : Int32)))])) (fun t k => XS.iload X3.here hx rfl (hb hby at_67) rfl  k) ?_
        refine Go.pull (V := T3.setTop (mkF m 71 #[iv pk, iv px, iv pf, iv 0, iv zc, rv r_IbanRegistry_Kind_DIGIT, iv (zc - (48 : Int32)), .unset, .unset, .unset, .unset] [(.int 10), (.int (zc - (48 : Int32)))])) (fun t k => XS.bipush X3.here hx rfl (hb hby at_69) k) ?_
        by_cases hp10 : (57 : Int32) < zc
        · skip
          refine Go.pull (V := T3.setTop (mkF m 78 #[iv pk, iv px, iv pf, iv 0, iv zc, rv r_IbanRegistry_Kind_DIGIT, iv (zc - (48 : Int32)), .unset, .unset, .unset, .unset] [])) (fun t k => XS.icmpYes X3.here hx rfl (pc0 := 71) (pc' := 78) rfl (hb hby at_71) rfl (XT.ii_ge_t (fun q => (own_b (k := 57) hzc (by decide) (by decide)).mp q hp10)) (by decide) (by decide) k) ?_
          refine Go.pull (V := T3.setTop (mkF m 79 #[iv pk, iv px, iv pf, iv 0, iv zc, rv r_IbanRegistry_Kind_DIGIT, iv (zc - (48 : Int32)), .unset, .unset, .unset, .unset] [(.int 0)])) (fun t k => XS.iconst X3.here hx rfl (hb hby at_78) k) ?_
          refine Go.pull (V := T3.setTop (mkF m 81 #[iv pk, iv px, iv pf, iv 0, iv zc, rv r_IbanRegistry_Kind_DIGIT, iv (zc - (48 : Int32)), iv 0, .unset, .unset, .unset] [])) (fun t k => XS.istore X3.here hx rfl (hb hby at_79) rfl (l' := #[iv pk, iv px, iv pf, iv 0, iv zc, rv r_IbanRegistry_Kind_DIGIT, iv (zc - (48 : Int32)), iv 0, .unset, .unset, .unset]) rfl k) ?_
          refine Go.pull (V := T3.setTop (mkF m 83 #[iv pk, iv px, iv pf, iv 0, iv zc, rv r_IbanRegistry_Kind_DIGIT, iv (zc - (48 : Int32)), iv 0, .unset, .unset, .unset] [(.int zc)])) (fun t k => XS.iload X3.here hx rfl (hb hby at_81) rfl  k) ?_
          refine Go.pull (V := T3.setTop (mkF m 85 #[iv pk, iv px, iv pf, iv 0, iv zc, rv r_IbanRegistry_Kind_DIGIT, iv (zc - (48 : Int32)), iv 0, .unset, .unset, .unset] [(.int 65), (.int zc)])) (fun t k => XS.bipush X3.here hx rfl (hb hby at_83) k) ?_
          refine Go.pull (V := T3.setTop (mkF m 86 #[iv pk, iv px, iv pf, iv 0, iv zc, rv r_IbanRegistry_Kind_DIGIT, iv (zc - (48 : Int32)), iv 0, .unset, .unset, .unset] [(.int (zc - (65 : Int32)))])) (fun t k => XS.isub X3.here hx rfl (hb hby at_85) rfl k) ?_
          refine Go.pull (V := T3.setTop (mkF m 88 #[iv pk, iv px, iv pf, iv 0, iv zc, rv r_IbanRegistry_Kind_DIGIT, iv (zc - (48 : Int32)), iv 0, iv (zc - (65 : Int32)), .unset, .unset] [])) (fun t k => XS.istore X3.here hx rfl (hb hby at_86) rfl (l' := #[iv pk, iv px, iv pf, iv 0, iv zc, rv r_IbanRegistry_Kind_DIGIT, iv (zc - (48 : Int32)), iv 0, iv (zc - (65 : Int32)), .unset, .unset]) rfl k) ?_
          refine Go.pull (V := T3.setTop (mkF m 90 #[iv pk, iv px, iv pf, iv 0, iv zc, rv r_IbanRegistry_Kind_DIGIT, iv (zc - (48 : Int32)), iv 0, iv (zc - (65 : Int32)), .unset, .unset] [(.int (zc - (65 : Int32)))])) (fun t k => XS.iload X3.here hx rfl (hb hby at_88) rfl  k) ?_
          by_cases hp11 : zc < (65 : Int32)
          · skip
            refine Go.pull (V := T3.setTop (mkF m 104 #[iv pk, iv px, iv pf, iv 0, iv zc, rv r_IbanRegistry_Kind_DIGIT, iv (zc - (48 : Int32)), iv 0, iv (zc - (65 : Int32)), .unset, .unset] [])) (fun t k => XS.ifYes X3.here hx rfl (pc0 := 90) (pc' := 104) rfl (hb hby at_90) rfl (XT.i0_lt_t ((own_a (k := 65) hzc (by decide) (by decide)).mpr hp11)) (by decide) (by decide) k) ?_
            refine Go.pull (V := T3.setTop (mkF m 105 #[iv pk, iv px, iv pf, iv 0, iv zc, rv r_IbanRegistry_Kind_DIGIT, iv (zc - (48 : Int32)), iv 0, iv (zc - (65 : Int32)), .unset, .unset] [(.int 0)])) (fun t k => XS.iconst X3.here hx rfl (hb hby at_104) k) ?_
            refine Go.pull (V := T3.setTop (mkF m 107 #[iv pk, iv px, iv pf, iv 0, iv zc, rv r_IbanRegistry_Kind_DIGIT, iv (zc - (48 : Int32)), iv 0, iv (zc - (65 : Int32)), iv 0, .unset] [])) (fun t k => XS.istore X3.here hx rfl (hb hby at_105) rfl (l' := #[iv pk, iv px, iv pf, iv 0, iv zc, rv r_IbanRegistry_Kind_DIGIT, iv (zc - (48 : Int32)), iv 0, iv (zc - (65 : Int32)), iv 0, .unset]) rfl k) ?_
            refine Go.pull (V := T3.setTop (mkF m 108 #[iv pk, iv px, iv pf, iv 0, iv zc, rv r_IbanRegistry_Kind_DIGIT, iv (zc - (48 : Int32)), iv 0, iv (zc - (65 : Int32)), iv 0, .unset] [(.int 0)])) (fun t k => XS.iloadN X3.here hx rfl (hb hby at_107) rfl  k) ?_
            refine Go.pull (V := T3.setTop (mkF m 111 #[iv pk, iv px, iv pf, iv 0, iv zc, rv r_IbanRegistry_Kind_DIGIT, iv (zc - (48 : Int32)), iv 0, iv (zc - (65 : Int32)), iv 0, .unset] [])) (fun t k => XS.ifNo X3.here hx rfl (hb hby at_108) rfl (XT.i0_ne_f (by decide)) k) ?_
            refine Go.pull (V := T3.setTop (mkF m 113 #[iv pk, iv px, iv pf, iv 0, iv zc, rv r_IbanRegistry_Kind_DIGIT, iv (zc - (48 : Int32)), iv 0, iv (zc - (65 : Int32)), iv 0, .unset] [(.int 0)])) (fun t k => XS.iload X3.here hx rfl (hb hby at_111) rfl  k) ?_
            refine Go.pull (V := T3.setTop (mkF m 115 #[iv pk, iv px, iv pf, iv 0, iv zc, rv r_IbanRegistry_Kind_DIGIT, iv (zc - (48 : Int32)), iv 0, iv (zc - (65 : Int32)), iv 0, iv 0] [])) (fun t k => XS.istore X3.here hx rfl (hb hby at_113) rfl (l' := #[iv pk, iv px, iv pf, iv 0, iv zc, rv r_IbanRegistry_Kind_DIGIT, iv (zc - (48 : Int32)), iv 0, iv (zc - (65 : Int32)), iv 0, iv 0]) rfl k) ?_
            refine Go.pull (V := T3.setTop (mkF m 147 #[iv pk, iv px, iv pf, iv 0, iv zc, rv r_IbanRegistry_Kind_DIGIT, iv (zc - (48 : Int32)), iv 0, iv (zc - (65 : Int32)), iv 0, iv 0] [])) (fun t k => XS.goto X3.here hx rfl (pc0 := 115) (pc' := 147) rfl (hb hby at_115) (by decide) (by decide) k) ?_
            refine Go.pull (V := T3.setTop (mkF m 149 #[iv pk, iv px, iv pf, iv 0, iv zc, rv r_IbanRegistry_Kind_DIGIT, iv (zc - (48 : Int32)), iv 0, iv (zc - (65 : Int32)), iv 0, iv 0] [(.ref r_IbanRegistry_Kind_DIGIT)])) (fun t k => XS.aload X3.here hx rfl (hb hby at_147) rfl rfl k) ?_
            refine Go.pull (V := T3.setTop (mkF m 151 #[iv pk, iv px, iv pf, iv 0, iv zc, rv r_IbanRegistry_Kind_DIGIT, iv (zc - (48 : Int32)), iv 0, iv (zc - (65 : Int32)), iv 0, iv 0] [(.int zc), (.ref r_IbanRegistry_Kind_DIGIT)])) (fun t k => XS.iload X3.here hx rfl (hb hby at_149) rfl  k) ?_
            obtain ⟨cq12, kq12, q12a, q12b, q12c⟩ := isOf hZ e3 E_r_IbanRegistry_Kind_DIGIT
            obtain ⟨_, _, ⟨T12, L12, k12, n12⟩, -, X12, ⟨Lc12, hQ12, l12, y12, z12⟩, st12⟩ := X3.virtualBack hx (y := (⟨"com/example/disburse/disburse/core/IbanRegistry$Kind", "admits", "(C)Z"⟩ : MethodName)) (z := (⟨"com/example/disburse/disburse/core/IbanRegistry$Kind", "admits", "(C)Z"⟩ : MethodName)) hown (mvT hZ (hw _ (List.mem_of_getElem? (i := 4) rfl))) (mvT hZ (hw _ (List.mem_of_getElem? (i := 5) rfl))) (notFace_of_selects (args := #[]) (mvT hZ (hw _ (List.mem_of_getElem? (i := 7) rfl)))) (mvT hZ (hw _ (List.mem_of_getElem? (i := 7) rfl))) (mvT hZ (hw _ (List.mem_of_getElem? (i := 6) rfl))) (by decide) (backOf (W := 0) (rmA0 l Z a0 hw [] r_IbanRegistry_Kind_DIGIT zc h0 n0 E_r_IbanRegistry_Kind_DIGIT F_r_IbanRegistry_Kind_DIGIT_ordinal) hZ (hw _ (List.mem_of_getElem? (i := 8) rfl)) (hw _ (List.mem_of_getElem? (i := 2) rfl)) (by decide) (by decide)) q12a q12c (g := (mkF m 151 #[iv pk, iv px, iv pf, iv 0, iv zc, rv r_IbanRegistry_Kind_DIGIT, iv (zc - (48 : Int32)), iv 0, iv (zc - (65 : Int32)), iv 0, iv 0] [(.int zc), (.ref r_IbanRegistry_Kind_DIGIT)])) rfl (by rw [hml]; rfl) (Steps.refl _) (argsL := [(.int zc)]) (rest := []) (lenOf pd_1 rfl) rfl (by show 2 * 0 + _ ≤ _; exact Nat.le_of_eq rfl) (hb hby at_151) (fun _ _ => ⟨rfl, e3, (by decide : 0 + 0 ≤ _), (by decide : 0 + 0 ≤ _)⟩)
            dsimp only [Pt.U, Pt.locs, Pt.cells, Pt.slots] at X12 l12 y12 z12 st12 hQ12
            subst l12 y12 z12
            obtain ⟨hv12, N12q, e12⟩ := hQ12
            rw [(show (own_dig zc) = (0 : Int32) from by rw [own_dig, if_neg hp4, if_pos hp10])] at hv12; subst hv12
            have N12 := Fr.app N0 N12q
            refine Go.pull (V := T12.setTop (mkF m 154 #[iv pk, iv px, iv pf, iv 0, iv zc, rv r_IbanRegistry_Kind_DIGIT, iv (zc - (48 : Int32)), iv 0, iv (zc - (65 : Int32)), iv 0, iv 0] [(.int 0)])) (fun _ k => st12.trans k) ?_
            refine Go.pull (V := T12.setTop (mkF m 156 #[iv pk, iv px, iv pf, iv 0, iv zc, rv r_IbanRegistry_Kind_DIGIT, iv (zc - (48 : Int32)), iv 0, iv (zc - (65 : Int32)), iv 0, iv 0] [(.int 0), (.int 0)])) (fun t k => XS.iload X12.here hx rfl (hb hby at_154) rfl  k) ?_
            refine Go.pull (V := T12.setTop (mkF m 159 #[iv pk, iv px, iv pf, iv 0, iv zc, rv r_IbanRegistry_Kind_DIGIT, iv (zc - (48 : Int32)), iv 0, iv (zc - (65 : Int32)), iv 0, iv 0] [])) (fun t k => XS.icmpNo X12.here hx rfl (hb hby at_156) rfl (XT.ii_ne_f (by decide)) k) ?_
            refine Go.pull (V := T12.setTop (mkF m 160 #[iv pk, iv px, iv pf, iv 0, iv zc, rv r_IbanRegistry_Kind_DIGIT, iv (zc - (48 : Int32)), iv 0, iv (zc - (65 : Int32)), iv 0, iv 0] [(.int 1)])) (fun t k => XS.iconst X12.here hx rfl (hb hby at_159) k) ?_
            refine Go.pull (V := T12.setTop (mkF m 164 #[iv pk, iv px, iv pf, iv 0, iv zc, rv r_IbanRegistry_Kind_DIGIT, iv (zc - (48 : Int32)), iv 0, iv (zc - (65 : Int32)), iv 0, iv 0] [(.int 1)])) (fun t k => XS.goto X12.here hx rfl (pc0 := 160) (pc' := 164) rfl (hb hby at_160) (by decide) (by decide) k) ?_
            exact Go.retN X12 hx Bd.notSynchronized (t := .boolean) Bd.returns (by simp) (hb hby at_164) ⟨rfl, N12⟩ (by decide) (by decide)
          · skip
            refine Go.pull (V := T3.setTop (mkF m 93 #[iv pk, iv px, iv pf, iv 0, iv zc, rv r_IbanRegistry_Kind_DIGIT, iv (zc - (48 : Int32)), iv 0, iv (zc - (65 : Int32)), .unset, .unset] [])) (fun t k => XS.ifNo X3.here hx rfl (hb hby at_90) rfl (XT.i0_lt_f (fun q => hp11 ((own_a (k := 65) hzc (by decide) (by decide)).mp q))) k) ?_
            refine Go.pull (V := T3.setTop (mkF m 95 #[iv pk, iv px, iv pf, iv 0, iv zc, rv r_IbanRegistry_Kind_DIGIT, iv (zc - (48 : Int32)), iv 0, iv (zc - (65 : Int32)), .unset, .unset] [(.int (zc - (65 : Int32)))])) (fun t k => XS.iload X3.here hx rfl (hb hby at_93) rfl  k) ?_
            refine Go.pull (V := T3.setTop (mkF m 97 #[iv pk, iv px, iv pf, iv 0, iv zc, rv r_IbanRegistry_Kind_DIGIT, iv (zc - (48 : Int32)), iv 0, iv (zc - (65 : Int32)), .unset, .unset] [(.int 26), (.int (zc - (65 : Int32)))])) (fun t k => XS.bipush X3.here hx rfl (hb hby at_95) k) ?_
            by_cases hp13 : (90 : Int32) < zc
            · skip
              refine Go.pull (V := T3.setTop (mkF m 104 #[iv pk, iv px, iv pf, iv 0, iv zc, rv r_IbanRegistry_Kind_DIGIT, iv (zc - (48 : Int32)), iv 0, iv (zc - (65 : Int32)), .unset, .unset] [])) (fun t k => XS.icmpYes X3.here hx rfl (pc0 := 97) (pc' := 104) rfl (hb hby at_97) rfl (XT.ii_ge_t (fun q => (own_b (k := 90) hzc (by decide) (by decide)).mp q hp13)) (by decide) (by decide) k) ?_
              refine Go.pull (V := T3.setTop (mkF m 105 #[iv pk, iv px, iv pf, iv 0, iv zc, rv r_IbanRegistry_Kind_DIGIT, iv (zc - (48 : Int32)), iv 0, iv (zc - (65 : Int32)), .unset, .unset] [(.int 0)])) (fun t k => XS.iconst X3.here hx rfl (hb hby at_104) k) ?_
              refine Go.pull (V := T3.setTop (mkF m 107 #[iv pk, iv px, iv pf, iv 0, iv zc, rv r_IbanRegistry_Kind_DIGIT, iv (zc - (48 : Int32)), iv 0, iv (zc - (65 : Int32)), iv 0, .unset] [])) (fun t k => XS.istore X3.here hx rfl (hb hby at_105) rfl (l' := #[iv pk, iv px, iv pf, iv 0, iv zc, rv r_IbanRegistry_Kind_DIGIT, iv (zc - (48 : Int32)), iv 0, iv (zc - (65 : Int32)), iv 0, .unset]) rfl k) ?_
              refine Go.pull (V := T3.setTop (mkF m 108 #[iv pk, iv px, iv pf, iv 0, iv zc, rv r_IbanRegistry_Kind_DIGIT, iv (zc - (48 : Int32)), iv 0, iv (zc - (65 : Int32)), iv 0, .unset] [(.int 0)])) (fun t k => XS.iloadN X3.here hx rfl (hb hby at_107) rfl  k) ?_
              refine Go.pull (V := T3.setTop (mkF m 111 #[iv pk, iv px, iv pf, iv 0, iv zc, rv r_IbanRegistry_Kind_DIGIT, iv (zc - (48 : Int32)), iv 0, iv (zc - (65 : Int32)), iv 0, .unset] [])) (fun t k => XS.ifNo X3.here hx rfl (hb hby at_108) rfl (XT.i0_ne_f (by decide)) k) ?_
              refine Go.pull (V := T3.setTop (mkF m 113 #[iv pk, iv px, iv pf, iv 0, iv zc, rv r_IbanRegistry_Kind_DIGIT, iv (zc - (48 : Int32)), iv 0, iv (zc - (65 : Int32)), iv 0, .unset] [(.int 0)])) (fun t k => XS.iload X3.here hx rfl (hb hby at_111) rfl  k) ?_
              refine Go.pull (V := T3.setTop (mkF m 115 #[iv pk, iv px, iv pf, iv 0, iv zc, rv r_IbanRegistry_Kind_DIGIT, iv (zc - (48 : Int32)), iv 0, iv (zc - (65 : Int32)), iv 0, iv 0] [])) (fun t k => XS.istore X3.here hx rfl (hb hby at_113) rfl (l' := #[iv pk, iv px, iv pf, iv 0, iv zc, rv r_IbanRegistry_Kind_DIGIT, iv (zc - (48 : Int32)), iv 0, iv (zc - (65 : Int32)), iv 0, iv 0]) rfl k) ?_
              refine Go.pull (V := T3.setTop (mkF m 147 #[iv pk, iv px, iv pf, iv 0, iv zc, rv r_IbanRegistry_Kind_DIGIT, iv (zc - (48 : Int32)), iv 0, iv (zc - (65 : Int32)), iv 0, iv 0] [])) (fun t k => XS.goto X3.here hx rfl (pc0 := 115) (pc' := 147) rfl (hb hby at_115) (by decide) (by decide) k) ?_
              refine Go.pull (V := T3.setTop (mkF m 149 #[iv pk, iv px, iv pf, iv 0, iv zc, rv r_IbanRegistry_Kind_DIGIT, iv (zc - (48 : Int32)), iv 0, iv (zc - (65 : Int32)), iv 0, iv 0] [(.ref r_IbanRegistry_Kind_DIGIT)])) (fun t k => XS.aload X3.here hx rfl (hb hby at_147) rfl rfl k) ?_
              refine Go.pull (V := T3.setTop (mkF m 151 #[iv pk, iv px, iv pf, iv 0, iv zc, rv r_IbanRegistry_Kind_DIGIT, iv (zc - (48 : Int32)), iv 0, iv (zc - (65 : Int32)), iv 0, iv 0] [(.int zc), (.ref r_IbanRegistry_Kind_DIGIT)])) (fun t k => XS.iload X3.here hx rfl (hb hby at_149) rfl  k) ?_
              obtain ⟨cq14, kq14, q14a, q14b, q14c⟩ := isOf hZ e3 E_r_IbanRegistry_Kind_DIGIT
              obtain ⟨_, _, ⟨T14, L14, k14, n14⟩, -, X14, ⟨Lc14, hQ14, l14, y14, z14⟩, st14⟩ := X3.virtualBack hx (y := (⟨"com/example/disburse/disburse/core/IbanRegistry$Kind", "admits", "(C)Z"⟩ : MethodName)) (z := (⟨"com/example/disburse/disburse/core/IbanRegistry$Kind", "admits", "(C)Z"⟩ : MethodName)) hown (mvT hZ (hw _ (List.mem_of_getElem? (i := 4) rfl))) (mvT hZ (hw _ (List.mem_of_getElem? (i := 5) rfl))) (notFace_of_selects (args := #[]) (mvT hZ (hw _ (List.mem_of_getElem? (i := 7) rfl)))) (mvT hZ (hw _ (List.mem_of_getElem? (i := 7) rfl))) (mvT hZ (hw _ (List.mem_of_getElem? (i := 6) rfl))) (by decide) (backOf (W := 0) (rmA0 l Z a0 hw [] r_IbanRegistry_Kind_DIGIT zc h0 n0 E_r_IbanRegistry_Kind_DIGIT F_r_IbanRegistry_Kind_DIGIT_ordinal) hZ (hw _ (List.mem_of_getElem? (i := 8) rfl)) (hw _ (List.mem_of_getElem? (i := 2) rfl)) (by decide) (by decide)) q14a q14c (g := (mkF m 151 #[iv pk, iv px, iv pf, iv 0, iv zc, rv r_IbanRegistry_Kind_DIGIT, iv (zc - (48 : Int32)), iv 0, iv (zc - (65 : Int32)), iv 0, iv 0] [(.int zc), (.ref r_IbanRegistry_Kind_DIGIT)])) rfl (by rw [hml]; rfl) (Steps.refl _) (argsL := [(.int zc)]) (rest := []) (lenOf pd_1 rfl) rfl (by show 2 * 0 + _ ≤ _; exact Nat.le_of_eq rfl) (hb hby at_151) (fun _ _ => ⟨rfl, e3, (by decide : 0 + 0 ≤ _), (by decide : 0 + 0 ≤ _)⟩)
              dsimp only [Pt.U, Pt.locs, Pt.cells, Pt.slots] at X14 l14 y14 z14 st14 hQ14
              subst l14 y14 z14
              obtain ⟨hv14, N14q, e14⟩ := hQ14
              rw [(show (own_dig zc) = (0 : Int32) from by rw [own_dig, if_neg hp4, if_pos hp10])] at hv14; subst hv14
              have N14 := Fr.app N0 N14q
              refine Go.pull (V := T14.setTop (mkF m 154 #[iv pk, iv px, iv pf, iv 0, iv zc, rv r_IbanRegistry_Kind_DIGIT, iv (zc - (48 : Int32)), iv 0, iv (zc - (65 : Int32)), iv 0, iv 0] [(.int 0)])) (fun _ k => st14.trans k) ?_
              refine Go.pull (V := T14.setTop (mkF m 156 #[iv pk, iv px, iv pf, iv 0, iv zc, rv r_IbanRegistry_Kind_DIGIT, iv (zc - (48 : Int32)), iv 0, iv (zc - (65 : Int32)), iv 0, iv 0] [(.int 0), (.int 0)])) (fun t k => XS.iload X14.here hx rfl (hb hby at_154) rfl  k) ?_
              refine Go.pull (V := T14.setTop (mkF m 159 #[iv pk, iv px, iv pf, iv 0, iv zc, rv r_IbanRegistry_Kind_DIGIT, iv (zc - (48 : Int32)), iv 0, iv (zc - (65 : Int32)), iv 0, iv 0] [])) (fun t k => XS.icmpNo X14.here hx rfl (hb hby at_156) rfl (XT.ii_ne_f (by decide)) k) ?_
              refine Go.pull (V := T14.setTop (mkF m 160 #[iv pk, iv px, iv pf, iv 0, iv zc, rv r_IbanRegistry_Kind_DIGIT, iv (zc - (48 : Int32)), iv 0, iv (zc - (65 : Int32)), iv 0, iv 0] [(.int 1)])) (fun t k => XS.iconst X14.here hx rfl (hb hby at_159) k) ?_
              refine Go.pull (V := T14.setTop (mkF m 164 #[iv pk, iv px, iv pf, iv 0, iv zc, rv r_IbanRegistry_Kind_DIGIT, iv (zc - (48 : Int32)), iv 0, iv (zc - (65 : Int32)), iv 0, iv 0] [(.int 1)])) (fun t k => XS.goto X14.here hx rfl (pc0 := 160) (pc' := 164) rfl (hb hby at_160) (by decide) (by decide) k) ?_
              exact Go.retN X14 hx Bd.notSynchronized (t := .boolean) Bd.returns (by simp) (hb hby at_164) ⟨rfl, N14⟩ (by decide) (by decide)
            · skip
              refine Go.pull (V := T3.setTop (mkF m 100 #[iv pk, iv px, iv pf, iv 0, iv zc, rv r_IbanRegistry_Kind_DIGIT, iv (zc - (48 : Int32)), iv 0, iv (zc - (65 : Int32)), .unset, .unset] [])) (fun t k => XS.icmpNo X3.here hx rfl (hb hby at_97) rfl (XT.ii_ge_f ((own_b (k := 90) hzc (by decide) (by decide)).mpr hp13)) k) ?_
              refine Go.pull (V := T3.setTop (mkF m 101 #[iv pk, iv px, iv pf, iv 0, iv zc, rv r_IbanRegistry_Kind_DIGIT, iv (zc - (48 : Int32)), iv 0, iv (zc - (65 : Int32)), .unset, .unset] [(.int 1)])) (fun t k => XS.iconst X3.here hx rfl (hb hby at_100) k) ?_
              refine Go.pull (V := T3.setTop (mkF m 105 #[iv pk, iv px, iv pf, iv 0, iv zc, rv r_IbanRegistry_Kind_DIGIT, iv (zc - (48 : Int32)), iv 0, iv (zc - (65 : Int32)), .unset, .unset] [(.int 1)])) (fun t k => XS.goto X3.here hx rfl (pc0 := 101) (pc' := 105) rfl (hb hby at_101) (by decide) (by decide) k) ?_
              refine Go.pull (V := T3.setTop (mkF m 107 #[iv pk, iv px, iv pf, iv 0, iv zc, rv r_IbanRegistry_Kind_DIGIT, iv (zc - (48 : Int32)), iv 0, iv (zc - (65 : Int32)), iv 1, .unset] [])) (fun t k => XS.istore X3.here hx rfl (hb hby at_105) rfl (l' := #[iv pk, iv px, iv pf, iv 0, iv zc, rv r_IbanRegistry_Kind_DIGIT, iv (zc - (48 : Int32)), iv 0, iv (zc - (65 : Int32)), iv 1, .unset]) rfl k) ?_
              refine Go.pull (V := T3.setTop (mkF m 108 #[iv pk, iv px, iv pf, iv 0, iv zc, rv r_IbanRegistry_Kind_DIGIT, iv (zc - (48 : Int32)), iv 0, iv (zc - (65 : Int32)), iv 1, .unset] [(.int 0)])) (fun t k => XS.iloadN X3.here hx rfl (hb hby at_107) rfl  k) ?_
              refine Go.pull (V := T3.setTop (mkF m 111 #[iv pk, iv px, iv pf, iv 0, iv zc, rv r_IbanRegistry_Kind_DIGIT, iv (zc - (48 : Int32)), iv 0, iv (zc - (65 : Int32)), iv 1, .unset] [])) (fun t k => XS.ifNo X3.here hx rfl (hb hby at_108) rfl (XT.i0_ne_f (by decide)) k) ?_
              refine Go.pull (V := T3.setTop (mkF m 113 #[iv pk, iv px, iv pf, iv 0, iv zc, rv r_IbanRegistry_Kind_DIGIT, iv (zc - (48 : Int32)), iv 0, iv (zc - (65 : Int32)), iv 1, .unset] [(.int 0)])) (fun t k => XS.iload X3.here hx rfl (hb hby at_111) rfl  k) ?_
              refine Go.pull (V := T3.setTop (mkF m 115 #[iv pk, iv px, iv pf, iv 0, iv zc, rv r_IbanRegistry_Kind_DIGIT, iv (zc - (48 : Int32)), iv 0, iv (zc - (65 : Int32)), iv 1, iv 0] [])) (fun t k => XS.istore X3.here hx rfl (hb hby at_113) rfl (l' := #[iv pk, iv px, iv pf, iv 0, iv zc, rv r_IbanRegistry_Kind_DIGIT, iv (zc - (48 : Int32)), iv 0, iv (zc - (65 : Int32)), iv 1, iv 0]) rfl k) ?_
              refine Go.pull (V := T3.setTop (mkF m 147 #[iv pk, iv px, iv pf, iv 0, iv zc, rv r_IbanRegistry_Kind_DIGIT, iv (zc - (48 : Int32)), iv 0, iv (zc - (65 : Int32)), iv 1, iv 0] [])) (fun t k => XS.goto X3.here hx rfl (pc0 := 115) (pc' := 147) rfl (hb hby at_115) (by decide) (by decide) k) ?_
              refine Go.pull (V := T3.setTop (mkF m 149 #[iv pk, iv px, iv pf, iv 0, iv zc, rv r_IbanRegistry_Kind_DIGIT, iv (zc - (48 : Int32)), iv 0, iv (zc - (65 : Int32)), iv 1, iv 0] [(.ref r_IbanRegistry_Kind_DIGIT)])) (fun t k => XS.aload X3.here hx rfl (hb hby at_147) rfl rfl k) ?_
              refine Go.pull (V := T3.setTop (mkF m 151 #[iv pk, iv px, iv pf, iv 0, iv zc, rv r_IbanRegistry_Kind_DIGIT, iv (zc - (48 : Int32)), iv 0, iv (zc - (65 : Int32)), iv 1, iv 0] [(.int zc), (.ref r_IbanRegistry_Kind_DIGIT)])) (fun t k => XS.iload X3.here hx rfl (hb hby at_149) rfl  k) ?_
              obtain ⟨cq15, kq15, q15a, q15b, q15c⟩ := isOf hZ e3 E_r_IbanRegistry_Kind_DIGIT
              obtain ⟨_, _, ⟨T15, L15, k15, n15⟩, -, X15, ⟨Lc15, hQ15, l15, y15, z15⟩, st15⟩ := X3.virtualBack hx (y := (⟨"com/example/disburse/disburse/core/IbanRegistry$Kind", "admits", "(C)Z"⟩ : MethodName)) (z := (⟨"com/example/disburse/disburse/core/IbanRegistry$Kind", "admits", "(C)Z"⟩ : MethodName)) hown (mvT hZ (hw _ (List.mem_of_getElem? (i := 4) rfl))) (mvT hZ (hw _ (List.mem_of_getElem? (i := 5) rfl))) (notFace_of_selects (args := #[]) (mvT hZ (hw _ (List.mem_of_getElem? (i := 7) rfl)))) (mvT hZ (hw _ (List.mem_of_getElem? (i := 7) rfl))) (mvT hZ (hw _ (List.mem_of_getElem? (i := 6) rfl))) (by decide) (backOf (W := 0) (rmA0 l Z a0 hw [] r_IbanRegistry_Kind_DIGIT zc h0 n0 E_r_IbanRegistry_Kind_DIGIT F_r_IbanRegistry_Kind_DIGIT_ordinal) hZ (hw _ (List.mem_of_getElem? (i := 8) rfl)) (hw _ (List.mem_of_getElem? (i := 2) rfl)) (by decide) (by decide)) q15a q15c (g := (mkF m 151 #[iv pk, iv px, iv pf, iv 0, iv zc, rv r_IbanRegistry_Kind_DIGIT, iv (zc - (48 : Int32)), iv 0, iv (zc - (65 : Int32)), iv 1, iv 0] [(.int zc), (.ref r_IbanRegistry_Kind_DIGIT)])) rfl (by rw [hml]; rfl) (Steps.refl _) (argsL := [(.int zc)]) (rest := []) (lenOf pd_1 rfl) rfl (by show 2 * 0 + _ ≤ _; exact Nat.le_of_eq rfl) (hb hby at_151) (fun _ _ => ⟨rfl, e3, (by decide : 0 + 0 ≤ _), (by decide : 0 + 0 ≤ _)⟩)
              dsimp only [Pt.U, Pt.locs, Pt.cells, Pt.slots] at X15 l15 y15 z15 st15 hQ15
              subst l15 y15 z15
              obtain ⟨hv15, N15q, e15⟩ := hQ15
              rw [(show (own_dig zc) = (0 : Int32) from by rw [own_dig, if_neg hp4, if_pos hp10])] at hv15; subst hv15
              have N15 := Fr.app N0 N15q
              refine Go.pull (V := T15.setTop (mkF m 154 #[iv pk, iv px, iv pf, iv 0, iv zc, rv r_IbanRegistry_Kind_DIGIT, iv (zc - (48 : Int32)), iv 0, iv (zc - (65 : Int32)), iv 1, iv 0] [(.int 0)])) (fun _ k => st15.trans k) ?_
              refine Go.pull (V := T15.setTop (mkF m 156 #[iv pk, iv px, iv pf, iv 0, iv zc, rv r_IbanRegistry_Kind_DIGIT, iv (zc - (48 : Int32)), iv 0, iv (zc - (65 : Int32)), iv 1, iv 0] [(.int 0), (.int 0)])) (fun t k => XS.iload X15.here hx rfl (hb hby at_154) rfl  k) ?_
              refine Go.pull (V := T15.setTop (mkF m 159 #[iv pk, iv px, iv pf, iv 0, iv zc, rv r_IbanRegistry_Kind_DIGIT, iv (zc - (48 : Int32)), iv 0, iv (zc - (65 : Int32)), iv 1, iv 0] [])) (fun t k => XS.icmpNo X15.here hx rfl (hb hby at_156) rfl (XT.ii_ne_f (by decide)) k) ?_
              refine Go.pull (V := T15.setTop (mkF m 160 #[iv pk, iv px, iv pf, iv 0, iv zc, rv r_IbanRegistry_Kind_DIGIT, iv (zc - (48 : Int32)), iv 0, iv (zc - (65 : Int32)), iv 1, iv 0] [(.int 1)])) (fun t k => XS.iconst X15.here hx rfl (hb hby at_159) k) ?_
              refine Go.pull (V := T15.setTop (mkF m 164 #[iv pk, iv px, iv pf, iv 0, iv zc, rv r_IbanRegistry_Kind_DIGIT, iv (zc - (48 : Int32)), iv 0, iv (zc - (65 : Int32)), iv 1, iv 0] [(.int 1)])) (fun t k => XS.goto X15.here hx rfl (pc0 := 160) (pc' := 164) rfl (hb hby at_160) (by decide) (by decide) k) ?_
              exact Go.retN X15 hx Bd.notSynchronized (t := .boolean) Bd.returns (by simp) (hb hby at_164) ⟨rfl, N15⟩ (by decide) (by decide)
        · skip
          refine Go.pull (V := T3.setTop (mkF m 74 #[iv pk, iv px, iv pf, iv 0, iv zc, rv r_IbanRegistry_Kind_DIGIT, iv (zc - (48 : Int32)), .unset, .unset, .unset, .unset] [])) (fun t k => XS.icmpNo X3.here hx rfl (hb hby at_71) rfl (XT.ii_ge_f ((own_b (k := 57) hzc (by decide) (by decide)).mpr hp10)) k) ?_
          refine Go.pull (V := T3.setTop (mkF m 75 #[iv pk, iv px, iv pf, iv 0, iv zc, rv r_IbanRegistry_Kind_DIGIT, iv (zc - (48 : Int32)), .unset, .unset, .unset, .unset] [(.int 1)])) (fun t k => XS.iconst X3.here hx rfl (hb hby at_74) k) ?_
          refine Go.pull (V := T3.setTop (mkF m 79 #[iv pk, iv px, iv pf, iv 0, iv zc, rv r_IbanRegistry_Kind_DIGIT, iv (zc - (48 : Int32)), .unset, .unset, .unset, .unset] [(.int 1)])) (fun t k => XS.goto X3.here hx rfl (pc0 := 75) (pc' := 79) rfl (hb hby at_75) (by decide) (by decide) k) ?_
          refine Go.pull (V := T3.setTop (mkF m 81 #[iv pk, iv px, iv pf, iv 0, iv zc, rv r_IbanRegistry_Kind_DIGIT, iv (zc - (48 : Int32)), iv 1, .unset, .unset, .unset] [])) (fun t k => XS.istore X3.here hx rfl (hb hby at_79) rfl (l' := #[iv pk, iv px, iv pf, iv 0, iv zc, rv r_IbanRegistry_Kind_DIGIT, iv (zc - (48 : Int32)), iv 1, .unset, .unset, .unset]) rfl k) ?_
          refine Go.pull (V := T3.setTop (mkF m 83 #[iv pk, iv px, iv pf, iv 0, iv zc, rv r_IbanRegistry_Kind_DIGIT, iv (zc - (48 : Int32)), iv 1, .unset, .unset, .unset] [(.int zc)])) (fun t k => XS.iload X3.here hx rfl (hb hby at_81) rfl  k) ?_
          refine Go.pull (V := T3.setTop (mkF m 85 #[iv pk, iv px, iv pf, iv 0, iv zc, rv r_IbanRegistry_Kind_DIGIT, iv (zc - (48 : Int32)), iv 1, .unset, .unset, .unset] [(.int 65), (.int zc)])) (fun t k => XS.bipush X3.here hx rfl (hb hby at_83) k) ?_
          refine Go.pull (V := T3.setTop (mkF m 86 #[iv pk, iv px, iv pf, iv 0, iv zc, rv r_IbanRegistry_Kind_DIGIT, iv (zc - (48 : Int32)), iv 1, .unset, .unset, .unset] [(.int (zc - (65 : Int32)))])) (fun t k => XS.isub X3.here hx rfl (hb hby at_85) rfl k) ?_
          refine Go.pull (V := T3.setTop (mkF m 88 #[iv pk, iv px, iv pf, iv 0, iv zc, rv r_IbanRegistry_Kind_DIGIT, iv (zc - (48 : Int32)), iv 1, iv (zc - (65 : Int32)), .unset, .unset] [])) (fun t k => XS.istore X3.here hx rfl (hb hby at_86) rfl (l' := #[iv pk, iv px, iv pf, iv 0, iv zc, rv r_IbanRegistry_Kind_DIGIT, iv (zc - (48 : Int32)), iv 1, iv (zc - (65 : Int32)), .unset, .unset]) rfl k) ?_
          refine Go.pull (V := T3.setTop (mkF m 90 #[iv pk, iv px, iv pf, iv 0, iv zc, rv r_IbanRegistry_Kind_DIGIT, iv (zc - (48 : Int32)), iv 1, iv (zc - (65 : Int32)), .unset, .unset] [(.int (zc - (65 : Int32)))])) (fun t k => XS.iload X3.here hx rfl (hb hby at_88) rfl  k) ?_
          by_cases hp16 : zc < (65 : Int32)
          · skip
            refine Go.pull (V := T3.setTop (mkF m 104 #[iv pk, iv px, iv pf, iv 0, iv zc, rv r_IbanRegistry_Kind_DIGIT, iv (zc - (48 : Int32)), iv 1, iv (zc - (65 : Int32)), .unset, .unset] [])) (fun t k => XS.ifYes X3.here hx rfl (pc0 := 90) (pc' := 104) rfl (hb hby at_90) rfl (XT.i0_lt_t ((own_a (k := 65) hzc (by decide) (by decide)).mpr hp16)) (by decide) (by decide) k) ?_
            refine Go.pull (V := T3.setTop (mkF m 105 #[iv pk, iv px, iv pf, iv 0, iv zc, rv r_IbanRegistry_Kind_DIGIT, iv (zc - (48 : Int32)), iv 1, iv (zc - (65 : Int32)), .unset, .unset] [(.int 0)])) (fun t k => XS.iconst X3.here hx rfl (hb hby at_104) k) ?_
            refine Go.pull (V := T3.setTop (mkF m 107 #[iv pk, iv px, iv pf, iv 0, iv zc, rv r_IbanRegistry_Kind_DIGIT, iv (zc - (48 : Int32)), iv 1, iv (zc - (65 : Int32)), iv 0, .unset] [])) (fun t k => XS.istore X3.here hx rfl (hb hby at_105) rfl (l' := #[iv pk, iv px, iv pf, iv 0, iv zc, rv r_IbanRegistry_Kind_DIGIT, iv (zc - (48 : Int32)), iv 1, iv (zc - (65 : Int32)), iv 0, .unset]) rfl k) ?_
            refine Go.pull (V := T3.setTop (mkF m 108 #[iv pk, iv px, iv pf, iv 0, iv zc, rv r_IbanRegistry_Kind_DIGIT, iv (zc - (48 : Int32)), iv 1, iv (zc - (65 : Int32)), iv 0, .unset] [(.int 0)])) (fun t k => XS.iloadN X3.here hx rfl (hb hby at_107) rfl  k) ?_
            refine Go.pull (V := T3.setTop (mkF m 111 #[iv pk, iv px, iv pf, iv 0, iv zc, rv r_IbanRegistry_Kind_DIGIT, iv (zc - (48 : Int32)), iv 1, iv (zc - (65 : Int32)), iv 0, .unset] [])) (fun t k => XS.ifNo X3.here hx rfl (hb hby at_108) rfl (XT.i0_ne_f (by decide)) k) ?_
            refine Go.pull (V := T3.setTop (mkF m 113 #[iv pk, iv px, iv pf, iv 0, iv zc, rv r_IbanRegistry_Kind_DIGIT, iv (zc - (48 : Int32)), iv 1, iv (zc - (65 : Int32)), iv 0, .unset] [(.int 1)])) (fun t k => XS.iload X3.here hx rfl (hb hby at_111) rfl  k) ?_
            refine Go.pull (V := T3.setTop (mkF m 115 #[iv pk, iv px, iv pf, iv 0, iv zc, rv r_IbanRegistry_Kind_DIGIT, iv (zc - (48 : Int32)), iv 1, iv (zc - (65 : Int32)), iv 0, iv 1] [])) (fun t k => XS.istore X3.here hx rfl (hb hby at_113) rfl (l' := #[iv pk, iv px, iv pf, iv 0, iv zc, rv r_IbanRegistry_Kind_DIGIT, iv (zc - (48 : Int32)), iv 1, iv (zc - (65 : Int32)), iv 0, iv 1]) rfl k) ?_
            refine Go.pull (V := T3.setTop (mkF m 147 #[iv pk, iv px, iv pf, iv 0, iv zc, rv r_IbanRegistry_Kind_DIGIT, iv (zc - (48 : Int32)), iv 1, iv (zc - (65 : Int32)), iv 0, iv 1] [])) (fun t k => XS.goto X3.here hx rfl (pc0 := 115) (pc' := 147) rfl (hb hby at_115) (by decide) (by decide) k) ?_
            refine Go.pull (V := T3.setTop (mkF m 149 #[iv pk, iv px, iv pf, iv 0, iv zc, rv r_IbanRegistry_Kind_DIGIT, iv (zc - (48 : Int32)), iv 1, iv (zc - (65 : Int32)), iv 0, iv 1] [(.ref r_IbanRegistry_Kind_DIGIT)])) (fun t k => XS.aload X3.here hx rfl (hb hby at_147) rfl rfl k) ?_
            refine Go.pull (V := T3.setTop (mkF m 151 #[iv pk, iv px, iv pf, iv 0, iv zc, rv r_IbanRegistry_Kind_DIGIT, iv (zc - (48 : Int32)), iv 1, iv (zc - (65 : Int32)), iv 0, iv 1] [(.int zc), (.ref r_IbanRegistry_Kind_DIGIT)])) (fun t k => XS.iload X3.here hx rfl (hb hby at_149) rfl  k) ?_
            obtain ⟨cq17, kq17, q17a, q17b, q17c⟩ := isOf hZ e3 E_r_IbanRegistry_Kind_DIGIT
            obtain ⟨_, _, ⟨T17, L17, k17, n17⟩, -, X17, ⟨Lc17, hQ17, l17, y17, z17⟩, st17⟩ := X3.virtualBack hx (y := (⟨"com/example/disburse/disburse/core/IbanRegistry$Kind", "admits", "(C)Z"⟩ : MethodName)) (z := (⟨"com/example/disburse/disburse/core/IbanRegistry$Kind", "admits", "(C)Z"⟩ : MethodName)) hown (mvT hZ (hw _ (List.mem_of_getElem? (i := 4) rfl))) (mvT hZ (hw _ (List.mem_of_getElem? (i := 5) rfl))) (notFace_of_selects (args := #[]) (mvT hZ (hw _ (List.mem_of_getElem? (i := 7) rfl)))) (mvT hZ (hw _ (List.mem_of_getElem? (i := 7) rfl))) (mvT hZ (hw _ (List.mem_of_getElem? (i := 6) rfl))) (by decide) (backOf (W := 0) (rmA0 l Z a0 hw [] r_IbanRegistry_Kind_DIGIT zc h0 n0 E_r_IbanRegistry_Kind_DIGIT F_r_IbanRegistry_Kind_DIGIT_ordinal) hZ (hw _ (List.mem_of_getElem? (i := 8) rfl)) (hw _ (List.mem_of_getElem? (i := 2) rfl)) (by decide) (by decide)) q17a q17c (g := (mkF m 151 #[iv pk, iv px, iv pf, iv 0, iv zc, rv r_IbanRegistry_Kind_DIGIT, iv (zc - (48 : Int32)), iv 1, iv (zc - (65 : Int32)), iv 0, iv 1] [(.int zc), (.ref r_IbanRegistry_Kind_DIGIT)])) rfl (by rw [hml]; rfl) (Steps.refl _) (argsL := [(.int zc)]) (rest := []) (lenOf pd_1 rfl) rfl (by show 2 * 0 + _ ≤ _; exact Nat.le_of_eq rfl) (hb hby at_151) (fun _ _ => ⟨rfl, e3, (by decide : 0 + 0 ≤ _), (by decide : 0 + 0 ≤ _)⟩)
            dsimp only [Pt.U, Pt.locs, Pt.cells, Pt.slots] at X17 l17 y17 z17 st17 hQ17
            subst l17 y17 z17
            obtain ⟨hv17, N17q, e17⟩ := hQ17
            rw [(show (own_dig zc) = (1 : Int32) from by rw [own_dig, if_neg hp4, if_neg hp10])] at hv17; subst hv17
            have N17 := Fr.app N0 N17q
            refine Go.pull (V := T17.setTop (mkF m 154 #[iv pk, iv px, iv pf, iv 0, iv zc, rv r_IbanRegistry_Kind_DIGIT, iv (zc - (48 : Int32)), iv 1, iv (zc - (65 : Int32)), iv 0, iv 1] [(.int 1)])) (fun _ k => st17.trans k) ?_
            refine Go.pull (V := T17.setTop (mkF m 156 #[iv pk, iv px, iv pf, iv 0, iv zc, rv r_IbanRegistry_Kind_DIGIT, iv (zc - (48 : Int32)), iv 1, iv (zc - (65 : Int32)), iv 0, iv 1] [(.int 1), (.int 1)])) (fun t k => XS.iload X17.here hx rfl (hb hby at_154) rfl  k) ?_
            refine Go.pull (V := T17.setTop (mkF m 159 #[iv pk, iv px, iv pf, iv 0, iv zc, rv r_IbanRegistry_Kind_DIGIT, iv (zc - (48 : Int32)), iv 1, iv (zc - (65 : Int32)), iv 0, iv 1] [])) (fun t k => XS.icmpNo X17.here hx rfl (hb hby at_156) rfl (XT.ii_ne_f (by decide)) k) ?_
            refine Go.pull (V := T17.setTop (mkF m 160 #[iv pk, iv px, iv pf, iv 0, iv zc, rv r_IbanRegistry_Kind_DIGIT, iv (zc - (48 : Int32)), iv 1, iv (zc - (65 : Int32)), iv 0, iv 1] [(.int 1)])) (fun t k => XS.iconst X17.here hx rfl (hb hby at_159) k) ?_
            refine Go.pull (V := T17.setTop (mkF m 164 #[iv pk, iv px, iv pf, iv 0, iv zc, rv r_IbanRegistry_Kind_DIGIT, iv (zc - (48 : Int32)), iv 1, iv (zc - (65 : Int32)), iv 0, iv 1] [(.int 1)])) (fun t k => XS.goto X17.here hx rfl (pc0 := 160) (pc' := 164) rfl (hb hby at_160) (by decide) (by decide) k) ?_
            exact Go.retN X17 hx Bd.notSynchronized (t := .boolean) Bd.returns (by simp) (hb hby at_164) ⟨rfl, N17⟩ (by decide) (by decide)
          · skip
            refine Go.pull (V := T3.setTop (mkF m 93 #[iv pk, iv px, iv pf, iv 0, iv zc, rv r_IbanRegistry_Kind_DIGIT, iv (zc - (48 : Int32)), iv 1, iv (zc - (65 : Int32)), .unset, .unset] [])) (fun t k => XS.ifNo X3.here hx rfl (hb hby at_90) rfl (XT.i0_lt_f (fun q => hp16 ((own_a (k := 65) hzc (by decide) (by decide)).mp q))) k) ?_
            refine Go.pull (V := T3.setTop (mkF m 95 #[iv pk, iv px, iv pf, iv 0, iv zc, rv r_IbanRegistry_Kind_DIGIT, iv (zc - (48 : Int32)), iv 1, iv (zc - (65 : Int32)), .unset, .unset] [(.int (zc - (65 : Int32)))])) (fun t k => XS.iload X3.here hx rfl (hb hby at_93) rfl  k) ?_
            refine Go.pull (V := T3.setTop (mkF m 97 #[iv pk, iv px, iv pf, iv 0, iv zc, rv r_IbanRegistry_Kind_DIGIT, iv (zc - (48 : Int32)), iv 1, iv (zc - (65 : Int32)), .unset, .unset] [(.int 26), (.int (zc - (65 : Int32)))])) (fun t k => XS.bipush X3.here hx rfl (hb hby at_95) k) ?_
            by_cases hp18 : (90 : Int32) < zc
            · skip
              refine Go.pull (V := T3.setTop (mkF m 104 #[iv pk, iv px, iv pf, iv 0, iv zc, rv r_IbanRegistry_Kind_DIGIT, iv (zc - (48 : Int32)), iv 1, iv (zc - (65 : Int32)), .unset, .unset] [])) (fun t k => XS.icmpYes X3.here hx rfl (pc0 := 97) (pc' := 104) rfl (hb hby at_97) rfl (XT.ii_ge_t (fun q => (own_b (k := 90) hzc (by decide) (by decide)).mp q hp18)) (by decide) (by decide) k) ?_
              refine Go.pull (V := T3.setTop (mkF m 105 #[iv pk, iv px, iv pf, iv 0, iv zc, rv r_IbanRegistry_Kind_DIGIT, iv (zc - (48 : Int32)), iv 1, iv (zc - (65 : Int32)), .unset, .unset] [(.int 0)])) (fun t k => XS.iconst X3.here hx rfl (hb hby at_104) k) ?_
              refine Go.pull (V := T3.setTop (mkF m 107 #[iv pk, iv px, iv pf, iv 0, iv zc, rv r_IbanRegistry_Kind_DIGIT, iv (zc - (48 : Int32)), iv 1, iv (zc - (65 : Int32)), iv 0, .unset] [])) (fun t k => XS.istore X3.here hx rfl (hb hby at_105) rfl (l' := #[iv pk, iv px, iv pf, iv 0, iv zc, rv r_IbanRegistry_Kind_DIGIT, iv (zc - (48 : Int32)), iv 1, iv (zc - (65 : Int32)), iv 0, .unset]) rfl k) ?_
              refine Go.pull (V := T3.setTop (mkF m 108 #[iv pk, iv px, iv pf, iv 0, iv zc, rv r_IbanRegistry_Kind_DIGIT, iv (zc - (48 : Int32)), iv 1, iv (zc - (65 : Int32)), iv 0, .unset] [(.int 0)])) (fun t k => XS.iloadN X3.here hx rfl (hb hby at_107) rfl  k) ?_
              refine Go.pull (V := T3.setTop (mkF m 111 #[iv pk, iv px, iv pf, iv 0, iv zc, rv r_IbanRegistry_Kind_DIGIT, iv (zc - (48 : Int32)), iv 1, iv (zc - (65 : Int32)), iv 0, .unset] [])) (fun t k => XS.ifNo X3.here hx rfl (hb hby at_108) rfl (XT.i0_ne_f (by decide)) k) ?_
              refine Go.pull (V := T3.setTop (mkF m 113 #[iv pk, iv px, iv pf, iv 0, iv zc, rv r_IbanRegistry_Kind_DIGIT, iv (zc - (48 : Int32)), iv 1, iv (zc - (65 : Int32)), iv 0, .unset] [(.int 1)])) (fun t k => XS.iload X3.here hx rfl (hb hby at_111) rfl  k) ?_
              refine Go.pull (V := T3.setTop (mkF m 115 #[iv pk, iv px, iv pf, iv 0, iv zc, rv r_IbanRegistry_Kind_DIGIT, iv (zc - (48 : Int32)), iv 1, iv (zc - (65 : Int32)), iv 0, iv 1] [])) (fun t k => XS.istore X3.here hx rfl (hb hby at_113) rfl (l' := #[iv pk, iv px, iv pf, iv 0, iv zc, rv r_IbanRegistry_Kind_DIGIT, iv (zc - (48 : Int32)), iv 1, iv (zc - (65 : Int32)), iv 0, iv 1]) rfl k) ?_
              refine Go.pull (V := T3.setTop (mkF m 147 #[iv pk, iv px, iv pf, iv 0, iv zc, rv r_IbanRegistry_Kind_DIGIT, iv (zc - (48 : Int32)), iv 1, iv (zc - (65 : Int32)), iv 0, iv 1] [])) (fun t k => XS.goto X3.here hx rfl (pc0 := 115) (pc' := 147) rfl (hb hby at_115) (by decide) (by decide) k) ?_
              refine Go.pull (V := T3.setTop (mkF m 149 #[iv pk, iv px, iv pf, iv 0, iv zc, rv r_IbanRegistry_Kind_DIGIT, iv (zc - (48 : Int32)), iv 1, iv (zc - (65 : Int32)), iv 0, iv 1] [(.ref r_IbanRegistry_Kind_DIGIT)])) (fun t k => XS.aload X3.here hx rfl (hb hby at_147) rfl rfl k) ?_
              refine Go.pull (V := T3.setTop (mkF m 151 #[iv pk, iv px, iv pf, iv 0, iv zc, rv r_IbanRegistry_Kind_DIGIT, iv (zc - (48 : Int32)), iv 1, iv (zc - (65 : Int32)), iv 0, iv 1] [(.int zc), (.ref r_IbanRegistry_Kind_DIGIT)])) (fun t k => XS.iload X3.here hx rfl (hb hby at_149) rfl  k) ?_
              obtain ⟨cq19, kq19, q19a, q19b, q19c⟩ := isOf hZ e3 E_r_IbanRegistry_Kind_DIGIT
              obtain ⟨_, _, ⟨T19, L19, k19, n19⟩, -, X19, ⟨Lc19, hQ19, l19, y19, z19⟩, st19⟩ := X3.virtualBack hx (y := (⟨"com/example/disburse/disburse/core/IbanRegistry$Kind", "admits", "(C)Z"⟩ : MethodName)) (z := (⟨"com/example/disburse/disburse/core/IbanRegistry$Kind", "admits", "(C)Z"⟩ : MethodName)) hown (mvT hZ (hw _ (List.mem_of_getElem? (i := 4) rfl))) (mvT hZ (hw _ (List.mem_of_getElem? (i := 5) rfl))) (notFace_of_selects (args := #[]) (mvT hZ (hw _ (List.mem_of_getElem? (i := 7) rfl)))) (mvT hZ (hw _ (List.mem_of_getElem? (i := 7) rfl))) (mvT hZ (hw _ (List.mem_of_getElem? (i := 6) rfl))) (by decide) (backOf (W := 0) (rmA0 l Z a0 hw [] r_IbanRegistry_Kind_DIGIT zc h0 n0 E_r_IbanRegistry_Kind_DIGIT F_r_IbanRegistry_Kind_DIGIT_ordinal) hZ (hw _ (List.mem_of_getElem? (i := 8) rfl)) (hw _ (List.mem_of_getElem? (i := 2) rfl)) (by decide) (by decide)) q19a q19c (g := (mkF m 151 #[iv pk, iv px, iv pf, iv 0, iv zc, rv r_IbanRegistry_Kind_DIGIT, iv (zc - (48 : Int32)), iv 1, iv (zc - (65 : Int32)), iv 0, iv 1] [(.int zc), (.ref r_IbanRegistry_Kind_DIGIT)])) rfl (by rw [hml]; rfl) (Steps.refl _) (argsL := [(.int zc)]) (rest := []) (lenOf pd_1 rfl) rfl (by show 2 * 0 + _ ≤ _; exact Nat.le_of_eq rfl) (hb hby at_151) (fun _ _ => ⟨rfl, e3, (by decide : 0 + 0 ≤ _), (by decide : 0 + 0 ≤ _)⟩)
              dsimp only [Pt.U, Pt.locs, Pt.cells, Pt.slots] at X19 l19 y19 z19 st19 hQ19
              subst l19 y19 z19
              obtain ⟨hv19, N19q, e19⟩ := hQ19
              rw [(show (own_dig zc) = (1 : Int32) from by rw [own_dig, if_neg hp4, if_neg hp10])] at hv19; subst hv19
              have N19 := Fr.app N0 N19q
              refine Go.pull (V := T19.setTop (mkF m 154 #[iv pk, iv px, iv pf, iv 0, iv zc, rv r_IbanRegistry_Kind_DIGIT, iv (zc - (48 : Int32)), iv 1, iv (zc - (65 : Int32)), iv 0, iv 1] [(.int 1)])) (fun _ k => st19.trans k) ?_
              refine Go.pull (V := T19.setTop (mkF m 156 #[iv pk, iv px, iv pf, iv 0, iv zc, rv r_IbanRegistry_Kind_DIGIT, iv (zc - (48 : Int32)), iv 1, iv (zc - (65 : Int32)), iv 0, iv 1] [(.int 1), (.int 1)])) (fun t k => XS.iload X19.here hx rfl (hb hby at_154) rfl  k) ?_
              refine Go.pull (V := T19.setTop (mkF m 159 #[iv pk, iv px, iv pf, iv 0, iv zc, rv r_IbanRegistry_Kind_DIGIT, iv (zc - (48 : Int32)), iv 1, iv (zc - (65 : Int32)), iv 0, iv 1] [])) (fun t k => XS.icmpNo X19.here hx rfl (hb hby at_156) rfl (XT.ii_ne_f (by decide)) k) ?_
              refine Go.pull (V := T19.setTop (mkF m 160 #[iv pk, iv px, iv pf, iv 0, iv zc, rv r_IbanRegistry_Kind_DIGIT, iv (zc - (48 : Int32)), iv 1, iv (zc - (65 : Int32)), iv 0, iv 1] [(.int 1)])) (fun t k => XS.iconst X19.here hx rfl (hb hby at_159) k) ?_
              refine Go.pull (V := T19.setTop (mkF m 164 #[iv pk, iv px, iv pf, iv 0, iv zc, rv r_IbanRegistry_Kind_DIGIT, iv (zc - (48 : Int32)), iv 1, iv (zc - (65 : Int32)), iv 0, iv 1] [(.int 1)])) (fun t k => XS.goto X19.here hx rfl (pc0 := 160) (pc' := 164) rfl (hb hby at_160) (by decide) (by decide) k) ?_
              exact Go.retN X19 hx Bd.notSynchronized (t := .boolean) Bd.returns (by simp) (hb hby at_164) ⟨rfl, N19⟩ (by decide) (by decide)
            · skip
              refine Go.pull (V := T3.setTop (mkF m 100 #[iv pk, iv px, iv pf, iv 0, iv zc, rv r_IbanRegistry_Kind_DIGIT, iv (zc - (48 : Int32)), iv 1, iv (zc - (65 : Int32)), .unset, .unset] [])) (fun t k => XS.icmpNo X3.here hx rfl (hb hby at_97) rfl (XT.ii_ge_f ((own_b (k := 90) hzc (by decide) (by decide)).mpr hp18)) k) ?_
              refine Go.pull (V := T3.setTop (mkF m 101 #[iv pk, iv px, iv pf, iv 0, iv zc, rv r_IbanRegistry_Kind_DIGIT, iv (zc - (48 : Int32)), iv 1, iv (zc - (65 : Int32)), .unset, .unset] [(.int 1)])) (fun t k => XS.iconst X3.here hx rfl (hb hby at_100) k) ?_
              refine Go.pull (V := T3.setTop (mkF m 105 #[iv pk, iv px, iv pf, iv 0, iv zc, rv r_IbanRegistry_Kind_DIGIT, iv (zc - (48 : Int32)), iv 1, iv (zc - (65 : Int32)), .unset, .unset] [(.int 1)])) (fun t k => XS.goto X3.here hx rfl (pc0 := 101) (pc' := 105) rfl (hb hby at_101) (by decide) (by decide) k) ?_
              refine Go.pull (V := T3.setTop (mkF m 107 #[iv pk, iv px, iv pf, iv 0, iv zc, rv r_IbanRegistry_Kind_DIGIT, iv (zc - (48 : Int32)), iv 1, iv (zc - (65 : Int32)), iv 1, .unset] [])) (fun t k => XS.istore X3.here hx rfl (hb hby at_105) rfl (l' := #[iv pk, iv px, iv pf, iv 0, iv zc, rv r_IbanRegistry_Kind_DIGIT, iv (zc - (48 : Int32)), iv 1, iv (zc - (65 : Int32)), iv 1, .unset]) rfl k) ?_
              refine Go.pull (V := T3.setTop (mkF m 108 #[iv pk, iv px, iv pf, iv 0, iv zc, rv r_IbanRegistry_Kind_DIGIT, iv (zc - (48 : Int32)), iv 1, iv (zc - (65 : Int32)), iv 1, .unset] [(.int 0)])) (fun t k => XS.iloadN X3.here hx rfl (hb hby at_107) rfl  k) ?_
              refine Go.pull (V := T3.setTop (mkF m 111 #[iv pk, iv px, iv pf, iv 0, iv zc, rv r_IbanRegistry_Kind_DIGIT, iv (zc - (48 : Int32)), iv 1, iv (zc - (65 : Int32)), iv 1, .unset] [])) (fun t k => XS.ifNo X3.here hx rfl (hb hby at_108) rfl (XT.i0_ne_f (by decide)) k) ?_
              refine Go.pull (V := T3.setTop (mkF m 113 #[iv pk, iv px, iv pf, iv 0, iv zc, rv r_IbanRegistry_Kind_DIGIT, iv (zc - (48 : Int32)), iv 1, iv (zc - (65 : Int32)), iv 1, .unset] [(.int 1)])) (fun t k => XS.iload X3.here hx rfl (hb hby at_111) rfl  k) ?_
              refine Go.pull (V := T3.setTop (mkF m 115 #[iv pk, iv px, iv pf, iv 0, iv zc, rv r_IbanRegistry_Kind_DIGIT, iv (zc - (48 : Int32)), iv 1, iv (zc - (65 : Int32)), iv 1, iv 1] [])) (fun t k => XS.istore X3.here hx rfl (hb hby at_113) rfl (l' := #[iv pk, iv px, iv pf, iv 0, iv zc, rv r_IbanRegistry_Kind_DIGIT, iv (zc - (48 : Int32)), iv 1, iv (zc - (65 : Int32)), iv 1, iv 1]) rfl k) ?_
              refine Go.pull (V := T3.setTop (mkF m 147 #[iv pk, iv px, iv pf, iv 0, iv zc, rv r_IbanRegistry_Kind_DIGIT, iv (zc - (48 : Int32)), iv 1, iv (zc - (65 : Int32)), iv 1, iv 1] [])) (fun t k => XS.goto X3.here hx rfl (pc0 := 115) (pc' := 147) rfl (hb hby at_115) (by decide) (by decide) k) ?_
              refine Go.pull (V := T3.setTop (mkF m 149 #[iv pk, iv px, iv pf, iv 0, iv zc, rv r_IbanRegistry_Kind_DIGIT, iv (zc - (48 : Int32)), iv 1, iv (zc - (65 : Int32)), iv 1, iv 1] [(.ref r_IbanRegistry_Kind_DIGIT)])) (fun t k => XS.aload X3.here hx rfl (hb hby at_147) rfl rfl k) ?_
              refine Go.pull (V := T3.setTop (mkF m 151 #[iv pk, iv px, iv pf, iv 0, iv zc, rv r_IbanRegistry_Kind_DIGIT, iv (zc - (48 : Int32)), iv 1, iv (zc - (65 : Int32)), iv 1, iv 1] [(.int zc), (.ref r_IbanRegistry_Kind_DIGIT)])) (fun t k => XS.iload X3.here hx rfl (hb hby at_149) rfl  k) ?_
              obtain ⟨cq20, kq20, q20a, q20b, q20c⟩ := isOf hZ e3 E_r_IbanRegistry_Kind_DIGIT
              obtain ⟨_, _, ⟨T20, L20, k20, n20⟩, -, X20, ⟨Lc20, hQ20, l20, y20, z20⟩, st20⟩ := X3.virtualBack hx (y := (⟨"com/example/disburse/disburse/core/IbanRegistry$Kind", "admits", "(C)Z"⟩ : MethodName)) (z := (⟨"com/example/disburse/disburse/core/IbanRegistry$Kind", "admits", "(C)Z"⟩ : MethodName)) hown (mvT hZ (hw _ (List.mem_of_getElem? (i := 4) rfl))) (mvT hZ (hw _ (List.mem_of_getElem? (i := 5) rfl))) (notFace_of_selects (args := #[]) (mvT hZ (hw _ (List.mem_of_getElem? (i := 7) rfl)))) (mvT hZ (hw _ (List.mem_of_getElem? (i := 7) rfl))) (mvT hZ (hw _ (List.mem_of_getElem? (i := 6) rfl))) (by decide) (backOf (W := 0) (rmA0 l Z a0 hw [] r_IbanRegistry_Kind_DIGIT zc h0 n0 E_r_IbanRegistry_Kind_DIGIT F_r_IbanRegistry_Kind_DIGIT_ordinal) hZ (hw _ (List.mem_of_getElem? (i := 8) rfl)) (hw _ (List.mem_of_getElem? (i := 2) rfl)) (by decide) (by decide)) q20a q20c (g := (mkF m 151 #[iv pk, iv px, iv pf, iv 0, iv zc, rv r_IbanRegistry_Kind_DIGIT, iv (zc - (48 : Int32)), iv 1, iv (zc - (65 : Int32)), iv 1, iv 1] [(.int zc), (.ref r_IbanRegistry_Kind_DIGIT)])) rfl (by rw [hml]; rfl) (Steps.refl _) (argsL := [(.int zc)]) (rest := []) (lenOf pd_1 rfl) rfl (by show 2 * 0 + _ ≤ _; exact Nat.le_of_eq rfl) (hb hby at_151) (fun _ _ => ⟨rfl, e3, (by decide : 0 + 0 ≤ _), (by decide : 0 + 0 ≤ _)⟩)
              dsimp only [Pt.U, Pt.locs, Pt.cells, Pt.slots] at X20 l20 y20 z20 st20 hQ20
              subst l20 y20 z20
              obtain ⟨hv20, N20q, e20⟩ := hQ20
              rw [(show (own_dig zc) = (1 : Int32) from by rw [own_dig, if_neg hp4, if_neg hp10])] at hv20; subst hv20
              have N20 := Fr.app N0 N20q
              refine Go.pull (V := T20.setTop (mkF m 154 #[iv pk, iv px, iv pf, iv 0, iv zc, rv r_IbanRegistry_Kind_DIGIT, iv (zc - (48 : Int32)), iv 1, iv (zc - (65 : Int32)), iv 1, iv 1] [(.int 1)])) (fun _ k => st20.trans k) ?_
              refine Go.pull (V := T20.setTop (mkF m 156 #[iv pk, iv px, iv pf, iv 0, iv zc, rv r_IbanRegistry_Kind_DIGIT, iv (zc - (48 : Int32)), iv 1, iv (zc - (65 : Int32)), iv 1, iv 1] [(.int 1), (.int 1)])) (fun t k => XS.iload X20.here hx rfl (hb hby at_154) rfl  k) ?_
              refine Go.pull (V := T20.setTop (mkF m 159 #[iv pk, iv px, iv pf, iv 0, iv zc, rv r_IbanRegistry_Kind_DIGIT, iv (zc - (48 : Int32)), iv 1, iv (zc - (65 : Int32)), iv 1, iv 1] [])) (fun t k => XS.icmpNo X20.here hx rfl (hb hby at_156) rfl (XT.ii_ne_f (by decide)) k) ?_
              refine Go.pull (V := T20.setTop (mkF m 160 #[iv pk, iv px, iv pf, iv 0, iv zc, rv r_IbanRegistry_Kind_DIGIT, iv (zc - (48 : Int32)), iv 1, iv (zc - (65 : Int32)), iv 1, iv 1] [(.int 1)])) (fun t k => XS.iconst X20.here hx rfl (hb hby at_159) k) ?_
              refine Go.pull (V := T20.setTop (mkF m 164 #[iv pk, iv px, iv pf, iv 0, iv zc, rv r_IbanRegistry_Kind_DIGIT, iv (zc - (48 : Int32)), iv 1, iv (zc - (65 : Int32)), iv 1, iv 1] [(.int 1)])) (fun t k => XS.goto X20.here hx rfl (pc0 := 160) (pc' := 164) rfl (hb hby at_160) (by decide) (by decide) k) ?_
              exact Go.retN X20 hx Bd.notSynchronized (t := .boolean) Bd.returns (by simp) (hb hby at_164) ⟨rfl, N20⟩ (by decide) (by decide)
    refine Go.pull (V := s₁.setTop (mkF m 8 #[iv pk, iv px, iv pf, iv 0, .unset, .unset, .unset, .unset, .unset, .unset, .unset] [(.int pf)])) (fun t k => XS.iloadN X0.here hx rfl (hb hby at_7) rfl  k) ?_
    refine Go.pull (V := s₁.setTop (mkF m 9 #[iv pk, iv px, iv pf, iv 0, .unset, .unset, .unset, .unset, .unset, .unset, .unset] [(.int 1), (.int pf)])) (fun t k => XS.iconst X0.here hx rfl (hb hby at_8) k) ?_
    refine Go.pull (V := s₁.setTop (mkF m 10 #[iv pk, iv px, iv pf, iv 0, .unset, .unset, .unset, .unset, .unset, .unset, .unset] [(.int (pf &&& (1 : Int32)))])) (fun t k => XS.iand X0.here hx rfl (hb hby at_9) rfl k) ?_
    by_cases hc10_21 : (pf &&& (1 : Int32)) = 0
    · skip
      refine Go.pull (V := s₁.setTop (mkF m 21 #[iv pk, iv px, iv pf, iv 0, .unset, .unset, .unset, .unset, .unset, .unset, .unset] [])) (fun t k => XS.ifYes X0.here hx rfl (pc0 := 10) (pc' := 21) rfl (hb hby at_10) rfl (XT.i0_eq_t hc10_21) (by decide) (by decide) k) ?_
      refine Go.pull (V := s₁.setTop (mkF m 22 #[iv pk, iv px, iv pf, iv 0, .unset, .unset, .unset, .unset, .unset, .unset, .unset] [(.int px)])) (fun t k => XS.iloadN X0.here hx rfl (hb hby at_21) rfl  k) ?_
      refine Go.pull (V := s₁.setTop (mkF m 23 #[iv pk, iv px, iv pf, iv 0, .unset, .unset, .unset, .unset, .unset, .unset, .unset] [(.int (px.toUInt32.toUInt16.toUInt32.toInt32))])) (fun t k => XS.i2c X0.here hx rfl (hb hby at_22) rfl k) ?_
      refine Go.pull (V := s₁.setTop (mkF m 25 #[iv pk, iv px, iv pf, iv 0, iv (px.toUInt32.toUInt16.toUInt32.toInt32), .unset, .unset, .unset, .unset, .unset, .unset] [])) (fun t k => XS.istore X0.here hx rfl (hb hby at_23) rfl (l' := #[iv pk, iv px, iv pf, iv 0, iv (px.toUInt32.toUInt16.toUInt32.toInt32), .unset, .unset, .unset, .unset, .unset, .unset]) rfl k) ?_
      exact J25_2 ((px.toUInt32.toUInt16.toUInt32.toInt32)) (own_chr _)
    · skip
      refine Go.pull (V := s₁.setTop (mkF m 13 #[iv pk, iv px, iv pf, iv 0, .unset, .unset, .unset, .unset, .unset, .unset, .unset] [])) (fun t k => XS.ifNo X0.here hx rfl (hb hby at_10) rfl (XT.i0_eq_f hc10_21) k) ?_
      refine Go.pull (V := s₁.setTop (mkF m 14 #[iv pk, iv px, iv pf, iv 0, .unset, .unset, .unset, .unset, .unset, .unset, .unset] [(.int px)])) (fun t k => XS.iloadN X0.here hx rfl (hb hby at_13) rfl  k) ?_
      refine Go.pull (V := s₁.setTop (mkF m 16 #[iv pk, iv px, iv pf, iv 0, .unset, .unset, .unset, .unset, .unset, .unset, .unset] [(.int 127), (.int px)])) (fun t k => XS.bipush X0.here hx rfl (hb hby at_14) k) ?_
      refine Go.pull (V := s₁.setTop (mkF m 17 #[iv pk, iv px, iv pf, iv 0, .unset, .unset, .unset, .unset, .unset, .unset, .unset] [(.int (px &&& (127 : Int32)))])) (fun t k => XS.iand X0.here hx rfl (hb hby at_16) rfl k) ?_
      refine Go.pull (V := s₁.setTop (mkF m 18 #[iv pk, iv px, iv pf, iv 0, .unset, .unset, .unset, .unset, .unset, .unset, .unset] [(.int ((px &&& (127 : Int32)).toUInt32.toUInt16.toUInt32.toInt32))])) (fun t k => XS.i2c X0.here hx rfl (hb hby at_17) rfl k) ?_
      refine Go.pull (V := s₁.setTop (mkF m 23 #[iv pk, iv px, iv pf, iv 0, .unset, .unset, .unset, .unset, .unset, .unset, .unset] [(.int ((px &&& (127 : Int32)).toUInt32.toUInt16.toUInt32.toInt32))])) (fun t k => XS.goto X0.here hx rfl (pc0 := 18) (pc' := 23) rfl (hb hby at_18) (by decide) (by decide) k) ?_
      refine Go.pull (V := s₁.setTop (mkF m 25 #[iv pk, iv px, iv pf, iv 0, iv ((px &&& (127 : Int32)).toUInt32.toUInt16.toUInt32.toInt32), .unset, .unset, .unset, .unset, .unset, .unset] [])) (fun t k => XS.istore X0.here hx rfl (hb hby at_23) rfl (l' := #[iv pk, iv px, iv pf, iv 0, iv ((px &&& (127 : Int32)).toUInt32.toUInt16.toUInt32.toInt32), .unset, .unset, .unset, .unset, .unset, .unset]) rfl k) ?_
      exact J25_2 (((px &&& (127 : Int32)).toUInt32.toUInt16.toUInt32.toInt32)) (own_chr _)
  · subst hv1
    have J25_22 : ∀ (zc : Int32) (_ : 0 ≤ zc.toInt ∧ zc.toInt < 65536), Go p e below s (fun v h L => Q0 Z pk px pf r_IbanRegistry_Kind_DIGIT r_IbanRegistry_Kind_LETTER r_IbanRegistry_Kind_LETTER_OR_DIGIT h0 n0 v h L) 0 0 (s₁.setTop (mkF m 25 #[iv pk, iv px, iv pf, iv 1, iv zc, .unset, .unset, .unset, .unset, .unset, .unset] [])) := by
      intro zc hzc
      refine Go.pull (V := s₁.setTop (mkF m 26 #[iv pk, iv px, iv pf, iv 1, iv zc, .unset, .unset, .unset, .unset, .unset, .unset] [(.int 1)])) (fun t k => XS.iloadN X0.here hx rfl (hb hby at_25) rfl  k) ?_
      refine Go.pull (V := s₁.setTop (mkF m 37 #[iv pk, iv px, iv pf, iv 1, iv zc, .unset, .unset, .unset, .unset, .unset, .unset] [])) (fun t k => XS.ifYes X0.here hx rfl (pc0 := 26) (pc' := 37) rfl (hb hby at_26) rfl (XT.i0_ne_t (by decide)) (by decide) (by decide) k) ?_
      refine Go.pull (V := s₁.setTop (mkF m 38 #[iv pk, iv px, iv pf, iv 1, iv zc, .unset, .unset, .unset, .unset, .unset, .unset] [(.int 1)])) (fun t k => XS.iloadN X0.here hx rfl (hb hby at_37) rfl  k) ?_
      refine Go.pull (V := s₁.setTop (mkF m 39 #[iv pk, iv px, iv pf, iv 1, iv zc, .unset, .unset, .unset, .unset, .unset, .unset] [(.int 1), (.int 1)])) (fun t k => XS.iconst X0.here hx rfl (hb hby at_38) k) ?_
      refine Go.pull (V := s₁.setTop (mkF m 42 #[iv pk, iv px, iv pf, iv 1, iv zc, .unset, .unset, .unset, .unset, .unset, .unset] [])) (fun t k => XS.icmpNo X0.here hx rfl (hb hby at_39) rfl (XT.ii_ne_f (by decide)) k) ?_
      obtain ⟨T23, X23, e23, st23⟩ := getS2 X0 hx hZ hown (host := "") (Or.inl (hw _ (List.mem_of_getElem? (i := 18) rfl))) Via.refl e0 S_r_IbanRegistry_Kind_LETTER (g := (mkF m 42 #[iv pk, iv px, iv pf, iv 1, iv zc, .unset, .unset, .unset, .unset, .unset, .unset] [])) rfl (hb hby at_42)
      refine Go.pull (V := T23.setTop (mkF m 45 #[iv pk, iv px, iv pf, iv 1, iv zc, .unset, .unset, .unset, .unset, .unset, .unset] [(.ref r_IbanRegistry_Kind_LETTER)])) st23 ?_
      refine Go.pull (V := T23.setTop (mkF m 47 #[iv pk, iv px, iv pf, iv 1, iv zc, rv r_IbanRegistry_Kind_LETTER, .unset, .unset, .unset, .unset, .unset] [])) (fun t k => XS.astore X23.here hx rfl (hb hby at_45) rfl rfl (l' := #[iv pk, iv px, iv pf, iv 1, iv zc, rv r_IbanRegistry_Kind_LETTER, .unset, .unset, .unset, .unset, .unset]) rfl k) ?_
      refine Go.pull (V := T23.setTop (mkF m 55 #[iv pk, iv px, iv pf, iv 1, iv zc, rv r_IbanRegistry_Kind_LETTER, .unset, .unset, .unset, .unset, .unset] [])) (fun t k => XS.goto X23.here hx rfl (pc0 := 47) (pc' := 55) rfl (hb hby at_47) (by decide) (by decide) k) ?_
      refine Go.pull (V := T23.setTop (mkF m 57 #[iv pk, iv px, iv pf, iv 1, iv zc, rv r_IbanRegistry_Kind_LETTER, .unset, .unset, .unset, .unset, .unset] [(.int zc)])) (fun t k => XS.iload X23.here hx rfl (hb hby at_55) rfl  k) ?_
      refine Go.pull (V := T23.setTop (mkF m 59 #[iv pk, iv px, iv pf, iv 1, iv zc, rv r_IbanRegistry_Kind_LETTER, .unset, .unset, .unset, .unset, .unset] [(.int 48), (.int zc)])) (fun t k => XS.bipush X23.here hx rfl (hb hby at_57) k) ?_
      refine Go.pull (V := T23.setTop (mkF m 60 #[iv pk, iv px, iv pf, iv 1, iv zc, rv r_IbanRegistry_Kind_LETTER, .unset, .unset, .unset, .unset, .unset] [(.int (zc - (48 : Int32)))])) (fun t k => XS.isub X23.here hx rfl (hb hby at_59) rfl k) ?_
      refine Go.pull (V := T23.setTop (mkF m 62 #[iv pk, iv px, iv pf, iv 1, iv zc, rv r_IbanRegistry_Kind_LETTER, iv (zc - (48 : Int32)), .unset, .unset, .unset, .unset] [])) (fun t k => XS.istore X23.here hx rfl (hb hby at_60) rfl (l' := #[iv pk, iv px, iv pf, iv 1, iv zc, rv r_IbanRegistry_Kind_LETTER, iv (zc - (48 : Int32)), .unset, .unset, .unset, .unset]) rfl k) ?_
      refine Go.pull (V := T23.setTop (mkF m 64 #[iv pk, iv px, iv pf, iv 1, iv zc, rv r_IbanRegistry_Kind_LETTER, iv (zc - (48 : Int32)), .unset, .unset, .unset, .unset] [(.int (zc - (48 : Int32)))])) (fun t k => XS.iload X23.here hx rfl (hb hby at_62) rfl  k) ?_
      by_cases hp24 : zc < (48 : Int32)
      · skip
        refine Go.pull (V := T23.setTop (mkF m 78 #[iv pk, iv px, iv pf, iv 1, iv zc, rv r_IbanRegistry_Kind_LETTER, iv (zc - (48 : Int32)), .unset, .unset, .unset, .unset] [])) (fun t k => XS.ifYes X23.here hx rfl (pc0 := 64) (pc' := 78) rfl (hb hby at_64) rfl (XT.i0_lt_t ((own_a (k := 48) hzc (by decide) (by decide)).mpr hp24)) (by decide) (by decide) k) ?_
        refine Go.pull (V := T23.setTop (mkF m 79 #[iv pk, iv px, iv pf, iv 1, iv zc, rv r_IbanRegistry_Kind_LETTER, iv (zc - (48 : Int32)), .unset, .unset, .unset, .unset] [(.int 0)])) (fun t k => XS.iconst X23.here hx rfl (hb hby at_78) k) ?_
        refine Go.pull (V := T23.setTop (mkF m 81 #[iv pk, iv px, iv pf, iv 1, iv zc, rv r_IbanRegistry_Kind_LETTER, iv (zc - (48 : Int32)), iv 0, .unset, .unset, .unset] [])) (fun t k => XS.istore X23.here hx rfl (hb hby at_79) rfl (l' := #[iv pk, iv px, iv pf, iv 1, iv zc, rv r_IbanRegistry_Kind_LETTER, iv (zc - (48 : Int32)), iv 0, .unset, .unset, .unset]) rfl k) ?_
        refine Go.pull (V := T23.setTop (mkF m 83 #[iv pk, iv px, iv pf, iv 1, iv zc, rv r_IbanRegistry_Kind_LETTER, iv (zc - (48 : Int32)), iv 0, .unset, .unset, .unset] [(.int zc)])) (fun t k => XS.iload X23.here hx rfl (hb hby at_81) rfl  k) ?_
        refine Go.pull (V := T23.setTop (mkF m 85 #[iv pk, iv px, iv pf, iv 1, iv zc, rv r_IbanRegistry_Kind_LETTER, iv (zc - (48 : Int32)), iv 0, .unset, .unset, .unset] [(.int 65), (.int zc)])) (fun t k => XS.bipush X23.here hx rfl (hb hby at_83) k) ?_
        refine Go.pull (V := T23.setTop (mkF m 86 #[iv pk, iv px, iv pf, iv 1, iv zc, rv r_IbanRegistry_Kind_LETTER, iv (zc - (48 : Int32)), iv 0, .unset, .unset, .unset] [(.int (zc - (65 : Int32)))])) (fun t k => XS.isub X23.here hx rfl (hb hby at_85) rfl k) ?_
        refine Go.pull (V := T23.setTop (mkF m 88 #[iv pk, iv px, iv pf, iv 1, iv zc, rv r_IbanRegistry_Kind_LETTER, iv (zc - (48 : Int32)), iv 0, iv (zc - (65 : Int32)), .unset, .unset] [])) (fun t k => XS.istore X23.here hx rfl (hb hby at_86) rfl (l' := #[iv pk, iv px, iv pf, iv 1, iv zc, rv r_IbanRegistry_Kind_LETTER, iv (zc - (48 : Int32)), iv 0, iv (zc - (65 : Int32)), .unset, .unset]) rfl k) ?_
        refine Go.pull (V := T23.setTop (mkF m 90 #[iv pk, iv px, iv pf, iv 1, iv zc, rv r_IbanRegistry_Kind_LETTER, iv (zc - (48 : Int32)), iv 0, iv (zc - (65 : Int32)), .unset, .unset] [(.int (zc - (65 : Int32)))])) (fun t k => XS.iload X23.here hx rfl (hb hby at_88) rfl  k) ?_
        by_cases hp25 : zc < (65 : Int32)
        · skip
          refine Go.pull (V := T23.setTop (mkF m 104 #[iv pk, iv px, iv pf, iv 1, iv zc, rv r_IbanRegistry_Kind_LETTER, iv (zc - (48 : Int32)), iv 0, iv (zc - (65 : Int32)), .unset, .unset] [])) (fun t k => XS.ifYes X23.here hx rfl (pc0 := 90) (pc' := 104) rfl (hb hby at_90) rfl (XT.i0_lt_t ((own_a (k := 65) hzc (by decide) (by decide)).mpr hp25)) (by decide) (by decide) k) ?_
          refine Go.pull (V := T23.setTop (mkF m 105 #[iv pk, iv px, iv pf, iv 1, iv zc, rv r_IbanRegistry_Kind_LETTER, iv (zc - (48 : Int32)), iv 0, iv (zc - (65 : Int32)), .unset, .unset] [(.int 0)])) (fun t k => XS.iconst X23.here hx rfl (hb hby at_104) k) ?_
          refine Go.pull (V := T23.setTop (mkF m 107 #[iv pk, iv px, iv pf, iv 1, iv zc, rv r_IbanRegistry_Kind_LETTER, iv (zc - (48 : Int32)), iv 0, iv (zc - (65 : Int32)), iv 0, .unset] [])) (fun t k => XS.istore X23.here hx rfl (hb hby at_105) rfl (l' := #[iv pk, iv px, iv pf, iv 1, iv zc, rv r_IbanRegistry_Kind_LETTER, iv (zc - (48 : Int32)), iv 0, iv (zc - (65 : Int32)), iv 0, .unset]) rfl k) ?_
          refine Go.pull (V := T23.setTop (mkF m 108 #[iv pk, iv px, iv pf, iv 1, iv zc, rv r_IbanRegistry_Kind_LETTER, iv (zc - (48 : Int32)), iv 0, iv (zc - (65 : Int32)), iv 0, .unset] [(.int 1)])) (fun t k => XS.iloadN X23.here hx rfl (hb hby at_107) rfl  k) ?_
          refine Go.pull (V := T23.setTop (mkF m 118 #[iv pk, iv px, iv pf, iv 1, iv zc, rv r_IbanRegistry_Kind_LETTER, iv (zc - (48 : Int32)), iv 0, iv (zc - (65 : Int32)), iv 0, .unset] [])) (fun t k => XS.ifYes X23.here hx rfl (pc0 := 108) (pc' := 118) rfl (hb hby at_108) rfl (XT.i0_ne_t (by decide)) (by decide) (by decide) k) ?_
          refine Go.pull (V := T23.setTop (mkF m 119 #[iv pk, iv px, iv pf, iv 1, iv zc, rv r_IbanRegistry_Kind_LETTER, iv (zc - (48 : Int32)), iv 0, iv (zc - (65 : Int32)), iv 0, .unset] [(.int 1)])) (fun t k => XS.iloadN X23.here hx rfl (hb hby at_118) rfl  k) ?_
          refine Go.pull (V := T23.setTop (mkF m 120 #[iv pk, iv px, iv pf, iv 1, iv zc, rv r_IbanRegistry_Kind_LETTER, iv (zc - (48 : Int32)), iv 0, iv (zc - (65 : Int32)), iv 0, .unset] [(.int 1), (.int 1)])) (fun t k => XS.iconst X23.here hx rfl (hb hby at_119) k) ?_
          refine Go.pull (V := T23.setTop (mkF m 123 #[iv pk, iv px, iv pf, iv 1, iv zc, rv r_IbanRegistry_Kind_LETTER, iv (zc - (48 : Int32)), iv 0, iv (zc - (65 : Int32)), iv 0, .unset] [])) (fun t k => XS.icmpNo X23.here hx rfl (hb hby at_120) rfl (XT.ii_ne_f (by decide)) k) ?_
          refine Go.pull (V := T23.setTop (mkF m 125 #[iv pk, iv px, iv pf, iv 1, iv zc, rv r_IbanRegistry_Kind_LETTER, iv (zc - (48 : Int32)), iv 0, iv (zc - (65 : Int32)), iv 0, .unset] [(.int 0)])) (fun t k => XS.iload X23.here hx rfl (hb hby at_123) rfl  k) ?_
          refine Go.pull (V := T23.setTop (mkF m 127 #[iv pk, iv px, iv pf, iv 1, iv zc, rv r_IbanRegistry_Kind_LETTER, iv (zc - (48 : Int32)), iv 0, iv (zc - (65 : Int32)), iv 0, iv 0] [])) (fun t k => XS.istore X23.here hx rfl (hb hby at_125) rfl (l' := #[iv pk, iv px, iv pf, iv 1, iv zc, rv r_IbanRegistry_Kind_LETTER, iv (zc - (48 : Int32)), iv 0, iv (zc - (65 : Int32)), iv 0, iv 0]) rfl k) ?_
          refine Go.pull (V := T23.setTop (mkF m 147 #[iv pk, iv px, iv pf, iv 1, iv zc, rv r_IbanRegistry_Kind_LETTER, iv (zc - (48 : Int32)), iv 0, iv (zc - (65 : Int32)), iv 0, iv 0] [])) (fun t k => XS.goto X23.here hx rfl (pc0 := 127) (pc' := 147) rfl (hb hby at_127) (by decide) (by decide) k) ?_
          refine Go.pull (V := T23.setTop (mkF m 149 #[iv pk, iv px, iv pf, iv 1, iv zc, rv r_IbanRegistry_Kind_LETTER, iv (zc - (48 : Int32)), iv 0, iv (zc - (65 : Int32)), iv 0, iv 0] [(.ref r_IbanRegistry_Kind_LETTER)])) (fun t k => XS.aload X23.here hx rfl (hb hby at_147) rfl rfl k) ?_
          refine Go.pull (V := T23.setTop (mkF m 151 #[iv pk, iv px, iv pf, iv 1, iv zc, rv r_IbanRegistry_Kind_LETTER, iv (zc - (48 : Int32)), iv 0, iv (zc - (65 : Int32)), iv 0, iv 0] [(.int zc), (.ref r_IbanRegistry_Kind_LETTER)])) (fun t k => XS.iload X23.here hx rfl (hb hby at_149) rfl  k) ?_
          obtain ⟨cq26, kq26, q26a, q26b, q26c⟩ := isOf hZ e23 E_r_IbanRegistry_Kind_LETTER
          obtain ⟨_, _, ⟨T26, L26, k26, n26⟩, -, X26, ⟨Lc26, hQ26, l26, y26, z26⟩, st26⟩ := X23.virtualBack hx (y := (⟨"com/example/disburse/disburse/core/IbanRegistry$Kind", "admits", "(C)Z"⟩ : MethodName)) (z := (⟨"com/example/disburse/disburse/core/IbanRegistry$Kind", "admits", "(C)Z"⟩ : MethodName)) hown (mvT hZ (hw _ (List.mem_of_getElem? (i := 4) rfl))) (mvT hZ (hw _ (List.mem_of_getElem? (i := 5) rfl))) (notFace_of_selects (args := #[]) (mvT hZ (hw _ (List.mem_of_getElem? (i := 7) rfl)))) (mvT hZ (hw _ (List.mem_of_getElem? (i := 7) rfl))) (mvT hZ (hw _ (List.mem_of_getElem? (i := 6) rfl))) (by decide) (backOf (W := 0) (rmA1 l Z a0 hw [] r_IbanRegistry_Kind_LETTER zc h0 n0 E_r_IbanRegistry_Kind_LETTER F_r_IbanRegistry_Kind_LETTER_ordinal) hZ (hw _ (List.mem_of_getElem? (i := 8) rfl)) (hw _ (List.mem_of_getElem? (i := 2) rfl)) (by decide) (by decide)) q26a q26c (g := (mkF m 151 #[iv pk, iv px, iv pf, iv 1, iv zc, rv r_IbanRegistry_Kind_LETTER, iv (zc - (48 : Int32)), iv 0, iv (zc - (65 : Int32)), iv 0, iv 0] [(.int zc), (.ref r_IbanRegistry_Kind_LETTER)])) rfl (by rw [hml]; rfl) (Steps.refl _) (argsL := [(.int zc)]) (rest := []) (lenOf pd_1 rfl) rfl (by show 2 * 0 + _ ≤ _; exact Nat.le_of_eq rfl) (hb hby at_151) (fun _ _ => ⟨rfl, e23, (by decide : 0 + 0 ≤ _), (by decide : 0 + 0 ≤ _)⟩)
          dsimp only [Pt.U, Pt.locs, Pt.cells, Pt.slots] at X26 l26 y26 z26 st26 hQ26
          subst l26 y26 z26
          obtain ⟨hv26, N26q, e26⟩ := hQ26
          rw [(show (own_let zc) = (0 : Int32) from by rw [own_let, if_pos hp25])] at hv26; subst hv26
          have N26 := Fr.app N0 N26q
          refine Go.pull (V := T26.setTop (mkF m 154 #[iv pk, iv px, iv pf, iv 1, iv zc, rv r_IbanRegistry_Kind_LETTER, iv (zc - (48 : Int32)), iv 0, iv (zc - (65 : Int32)), iv 0, iv 0] [(.int 0)])) (fun _ k => st26.trans k) ?_
          refine Go.pull (V := T26.setTop (mkF m 156 #[iv pk, iv px, iv pf, iv 1, iv zc, rv r_IbanRegistry_Kind_LETTER, iv (zc - (48 : Int32)), iv 0, iv (zc - (65 : Int32)), iv 0, iv 0] [(.int 0), (.int 0)])) (fun t k => XS.iload X26.here hx rfl (hb hby at_154) rfl  k) ?_
          refine Go.pull (V := T26.setTop (mkF m 159 #[iv pk, iv px, iv pf, iv 1, iv zc, rv r_IbanRegistry_Kind_LETTER, iv (zc - (48 : Int32)), iv 0, iv (zc - (65 : Int32)), iv 0, iv 0] [])) (fun t k => XS.icmpNo X26.here hx rfl (hb hby at_156) rfl (XT.ii_ne_f (by decide)) k) ?_
          refine Go.pull (V := T26.setTop (mkF m 160 #[iv pk, iv px, iv pf, iv 1, iv zc, rv r_IbanRegistry_Kind_LETTER, iv (zc - (48 : Int32)), iv 0, iv (zc - (65 : Int32)), iv 0, iv 0] [(.int 1)])) (fun t k => XS.iconst X26.here hx rfl (hb hby at_159) k) ?_
          refine Go.pull (V := T26.setTop (mkF m 164 #[iv pk, iv px, iv pf, iv 1, iv zc, rv r_IbanRegistry_Kind_LETTER, iv (zc - (48 : Int32)), iv 0, iv (zc - (65 : Int32)), iv 0, iv 0] [(.int 1)])) (fun t k => XS.goto X26.here hx rfl (pc0 := 160) (pc' := 164) rfl (hb hby at_160) (by decide) (by decide) k) ?_
          exact Go.retN X26 hx Bd.notSynchronized (t := .boolean) Bd.returns (by simp) (hb hby at_164) ⟨rfl, N26⟩ (by decide) (by decide)
        · skip
          refine Go.pull (V := T23.setTop (mkF m 93 #[iv pk, iv px, iv pf, iv 1, iv zc, rv r_IbanRegistry_Kind_LETTER, iv (zc - (48 : Int32)), iv 0, iv (zc - (65 : Int32)), .unset, .unset] [])) (fun t k => XS.ifNo X23.here hx rfl (hb hby at_90) rfl (XT.i0_lt_f (fun q => hp25 ((own_a (k := 65) hzc (by decide) (by decide)).mp q))) k) ?_
          refine Go.pull (V := T23.setTop (mkF m 95 #[iv pk, iv px, iv pf, iv 1, iv zc, rv r_IbanRegistry_Kind_LETTER, iv (zc - (48 : Int32)), iv 0, iv (zc - (65 : Int32)), .unset, .unset] [(.int (zc - (65 : Int32)))])) (fun t k => XS.iload X23.here hx rfl (hb hby at_93) rfl  k) ?_
          refine Go.pull (V := T23.setTop (mkF m 97 #[iv pk, iv px, iv pf, iv 1, iv zc, rv r_IbanRegistry_Kind_LETTER, iv (zc - (48 : Int32)), iv 0, iv (zc - (65 : Int32)), .unset, .unset] [(.int 26), (.int (zc - (65 : Int32)))])) (fun t k => XS.bipush X23.here hx rfl (hb hby at_95) k) ?_
          by_cases hp27 : (90 : Int32) < zc
          · skip
            refine Go.pull (V := T23.setTop (mkF m 104 #[iv pk, iv px, iv pf, iv 1, iv zc, rv r_IbanRegistry_Kind_LETTER, iv (zc - (48 : Int32)), iv 0, iv (zc - (65 : Int32)), .unset, .unset] [])) (fun t k => XS.icmpYes X23.here hx rfl (pc0 := 97) (pc' := 104) rfl (hb hby at_97) rfl (XT.ii_ge_t (fun q => (own_b (k := 90) hzc (by decide) (by decide)).mp q hp27)) (by decide) (by decide) k) ?_
            refine Go.pull (V := T23.setTop (mkF m 105 #[iv pk, iv px, iv pf, iv 1, iv zc, rv r_IbanRegistry_Kind_LETTER, iv (zc - (48 : Int32)), iv 0, iv (zc - (65 : Int32)), .unset, .unset] [(.int 0)])) (fun t k => XS.iconst X23.here hx rfl (hb hby at_104) k) ?_
            refine Go.pull (V := T23.setTop (mkF m 107 #[iv pk, iv px, iv pf, iv 1, iv zc, rv r_IbanRegistry_Kind_LETTER, iv (zc - (48 : Int32)), iv 0, iv (zc - (65 : Int32)), iv 0, .unset] [])) (fun t k => XS.istore X23.here hx rfl (hb hby at_105) rfl (l' := #[iv pk, iv px, iv pf, iv 1, iv zc, rv r_IbanRegistry_Kind_LETTER, iv (zc - (48 : Int32)), iv 0, iv (zc - (65 : Int32)), iv 0, .unset]) rfl k) ?_
            refine Go.pull (V := T23.setTop (mkF m 108 #[iv pk, iv px, iv pf, iv 1, iv zc, rv r_IbanRegistry_Kind_LETTER, iv (zc - (48 : Int32)), iv 0, iv (zc - (65 : Int32)), iv 0, .unset] [(.int 1)])) (fun t k => XS.iloadN X23.here hx rfl (hb hby at_107) rfl  k) ?_
            refine Go.pull (V := T23.setTop (mkF m 118 #[iv pk, iv px, iv pf, iv 1, iv zc, rv r_IbanRegistry_Kind_LETTER, iv (zc - (48 : Int32)), iv 0, iv (zc - (65 : Int32)), iv 0, .unset] [])) (fun t k => XS.ifYes X23.here hx rfl (pc0 := 108) (pc' := 118) rfl (hb hby at_108) rfl (XT.i0_ne_t (by decide)) (by decide) (by decide) k) ?_
            refine Go.pull (V := T23.setTop (mkF m 119 #[iv pk, iv px, iv pf, iv 1, iv zc, rv r_IbanRegistry_Kind_LETTER, iv (zc - (48 : Int32)), iv 0, iv (zc - (65 : Int32)), iv 0, .unset] [(.int 1)])) (fun t k => XS.iloadN X23.here hx rfl (hb hby at_118) rfl  k) ?_
            refine Go.pull (V := T23.setTop (mkF m 120 #[iv pk, iv px, iv pf, iv 1, iv zc, rv r_IbanRegistry_Kind_LETTER, iv (zc - (48 : Int32)), iv 0, iv (zc - (65 : Int32)), iv 0, .unset] [(.int 1), (.int 1)])) (fun t k => XS.iconst X23.here hx rfl (hb hby at_119) k) ?_
            refine Go.pull (V := T23.setTop (mkF m 123 #[iv pk, iv px, iv pf, iv 1, iv zc, rv r_IbanRegistry_Kind_LETTER, iv (zc - (48 : Int32)), iv 0, iv (zc - (65 : Int32)), iv 0, .unset] [])) (fun t k => XS.icmpNo X23.here hx rfl (hb hby at_120) rfl (XT.ii_ne_f (by decide)) k) ?_
            refine Go.pull (V := T23.setTop (mkF m 125 #[iv pk, iv px, iv pf, iv 1, iv zc, rv r_IbanRegistry_Kind_LETTER, iv (zc - (48 : Int32)), iv 0, iv (zc - (65 : Int32)), iv 0, .unset] [(.int 0)])) (fun t k => XS.iload X23.here hx rfl (hb hby at_123) rfl  k) ?_
            refine Go.pull (V := T23.setTop (mkF m 127 #[iv pk, iv px, iv pf, iv 1, iv zc, rv r_IbanRegistry_Kind_LETTER, iv (zc - (48 : Int32)), iv 0, iv (zc - (65 : Int32)), iv 0, iv 0] [])) (fun t k => XS.istore X23.here hx rfl (hb hby at_125) rfl (l' := #[iv pk, iv px, iv pf, iv 1, iv zc, rv r_IbanRegistry_Kind_LETTER, iv (zc - (48 : Int32)), iv 0, iv (zc - (65 : Int32)), iv 0, iv 0]) rfl k) ?_
            refine Go.pull (V := T23.setTop (mkF m 147 #[iv pk, iv px, iv pf, iv 1, iv zc, rv r_IbanRegistry_Kind_LETTER, iv (zc - (48 : Int32)), iv 0, iv (zc - (65 : Int32)), iv 0, iv 0] [])) (fun t k => XS.goto X23.here hx rfl (pc0 := 127) (pc' := 147) rfl (hb hby at_127) (by decide) (by decide) k) ?_
            refine Go.pull (V := T23.setTop (mkF m 149 #[iv pk, iv px, iv pf, iv 1, iv zc, rv r_IbanRegistry_Kind_LETTER, iv (zc - (48 : Int32)), iv 0, iv (zc - (65 : Int32)), iv 0, iv 0] [(.ref r_IbanRegistry_Kind_LETTER)])) (fun t k => XS.aload X23.here hx rfl (hb hby at_147) rfl rfl k) ?_
            refine Go.pull (V := T23.setTop (mkF m 151 #[iv pk, iv px, iv pf, iv 1, iv zc, rv r_IbanRegistry_Kind_LETTER, iv (zc - (48 : Int32)), iv 0, iv (zc - (65 : Int32)), iv 0, iv 0] [(.int zc), (.ref r_IbanRegistry_Kind_LETTER)])) (fun t k => XS.iload X23.here hx rfl (hb hby at_149) rfl  k) ?_
            obtain ⟨cq28, kq28, q28a, q28b, q28c⟩ := isOf hZ e23 E_r_IbanRegistry_Kind_LETTER
            obtain ⟨_, _, ⟨T28, L28, k28, n28⟩, -, X28, ⟨Lc28, hQ28, l28, y28, z28⟩, st28⟩ := X23.virtualBack hx (y := (⟨"com/example/disburse/disburse/core/IbanRegistry$Kind", "admits", "(C)Z"⟩ : MethodName)) (z := (⟨"com/example/disburse/disburse/core/IbanRegistry$Kind", "admits", "(C)Z"⟩ : MethodName)) hown (mvT hZ (hw _ (List.mem_of_getElem? (i := 4) rfl))) (mvT hZ (hw _ (List.mem_of_getElem? (i := 5) rfl))) (notFace_of_selects (args := #[]) (mvT hZ (hw _ (List.mem_of_getElem? (i := 7) rfl)))) (mvT hZ (hw _ (List.mem_of_getElem? (i := 7) rfl))) (mvT hZ (hw _ (List.mem_of_getElem? (i := 6) rfl))) (by decide) (backOf (W := 0) (rmA1 l Z a0 hw [] r_IbanRegistry_Kind_LETTER zc h0 n0 E_r_IbanRegistry_Kind_LETTER F_r_IbanRegistry_Kind_LETTER_ordinal) hZ (hw _ (List.mem_of_getElem? (i := 8) rfl)) (hw _ (List.mem_of_getElem? (i := 2) rfl)) (by decide) (by decide)) q28a q28c (g := (mkF m 151 #[iv pk, iv px, iv pf, iv 1, iv zc, rv r_IbanRegistry_Kind_LETTER, iv (zc - (48 : Int32)), iv 0, iv (zc - (65 : Int32)), iv 0, iv 0] [(.int zc), (.ref r_IbanRegistry_Kind_LETTER)])) rfl (by rw [hml]; rfl) (Steps.refl _) (argsL := [(.int zc)]) (rest := []) (lenOf pd_1 rfl) rfl (by show 2 * 0 + _ ≤ _; exact Nat.le_of_eq rfl) (hb hby at_151) (fun _ _ => ⟨rfl, e23, (by decide : 0 + 0 ≤ _), (by decide : 0 + 0 ≤ _)⟩)
            dsimp only [Pt.U, Pt.locs, Pt.cells, Pt.slots] at X28 l28 y28 z28 st28 hQ28
            subst l28 y28 z28
            obtain ⟨hv28, N28q, e28⟩ := hQ28
            rw [(show (own_let zc) = (0 : Int32) from by rw [own_let, if_neg hp25, if_pos hp27])] at hv28; subst hv28
            have N28 := Fr.app N0 N28q
            refine Go.pull (V := T28.setTop (mkF m 154 #[iv pk, iv px, iv pf, iv 1, iv zc, rv r_IbanRegistry_Kind_LETTER, iv (zc - (48 : Int32)), iv 0, iv (zc - (65 : Int32)), iv 0, iv 0] [(.int 0)])) (fun _ k => st28.trans k) ?_
            refine Go.pull (V := T28.setTop (mkF m 156 #[iv pk, iv px, iv pf, iv 1, iv zc, rv r_IbanRegistry_Kind_LETTER, iv (zc - (48 : Int32)), iv 0, iv (zc - (65 : Int32)), iv 0, iv 0] [(.int 0), (.int 0)])) (fun t k => XS.iload X28.here hx rfl (hb hby at_154) rfl  k) ?_
            refine Go.pull (V := T28.setTop (mkF m 159 #[iv pk, iv px, iv pf, iv 1, iv zc, rv r_IbanRegistry_Kind_LETTER, iv (zc - (48 : Int32)), iv 0, iv (zc - (65 : Int32)), iv 0, iv 0] [])) (fun t k => XS.icmpNo X28.here hx rfl (hb hby at_156) rfl (XT.ii_ne_f (by decide)) k) ?_
            refine Go.pull (V := T28.setTop (mkF m 160 #[iv pk, iv px, iv pf, iv 1, iv zc, rv r_IbanRegistry_Kind_LETTER, iv (zc - (48 : Int32)), iv 0, iv (zc - (65 : Int32)), iv 0, iv 0] [(.int 1)])) (fun t k => XS.iconst X28.here hx rfl (hb hby at_159) k) ?_
            refine Go.pull (V := T28.setTop (mkF m 164 #[iv pk, iv px, iv pf, iv 1, iv zc, rv r_IbanRegistry_Kind_LETTER, iv (zc - (48 : Int32)), iv 0, iv (zc - (65 : Int32)), iv 0, iv 0] [(.int 1)])) (fun t k => XS.goto X28.here hx rfl (pc0 := 160) (pc' := 164) rfl (hb hby at_160) (by decide) (by decide) k) ?_
            exact Go.retN X28 hx Bd.notSynchronized (t := .boolean) Bd.returns (by simp) (hb hby at_164) ⟨rfl, N28⟩ (by decide) (by decide)
          · skip
            refine Go.pull (V := T23.setTop (mkF m 100 #[iv pk, iv px, iv pf, iv 1, iv zc, rv r_IbanRegistry_Kind_LETTER, iv (zc - (48 : Int32)), iv 0, iv (zc - (65 : Int32)), .unset, .unset] [])) (fun t k => XS.icmpNo X23.here hx rfl (hb hby at_97) rfl (XT.ii_ge_f ((own_b (k := 90) hzc (by decide) (by decide)).mpr hp27)) k) ?_
            refine Go.pull (V := T23.setTop (mkF m 101 #[iv pk, iv px, iv pf, iv 1, iv zc, rv r_IbanRegistry_Kind_LETTER, iv (zc - (48 : Int32)), iv 0, iv (zc - (65 : Int32)), .unset, .unset] [(.int 1)])) (fun t k => XS.iconst X23.here hx rfl (hb hby at_100) k) ?_
            refine Go.pull (V := T23.setTop (mkF m 105 #[iv pk, iv px, iv pf, iv 1, iv zc, rv r_IbanRegistry_Kind_LETTER, iv (zc - (48 : Int32)), iv 0, iv (zc - (65 : Int32)), .unset, .unset] [(.int 1)])) (fun t k => XS.goto X23.here hx rfl (pc0 := 101) (pc' := 105) rfl (hb hby at_101) (by decide) (by decide) k) ?_
            refine Go.pull (V := T23.setTop (mkF m 107 #[iv pk, iv px, iv pf, iv 1, iv zc, rv r_IbanRegistry_Kind_LETTER, iv (zc - (48 : Int32)), iv 0, iv (zc - (65 : Int32)), iv 1, .unset] [])) (fun t k => XS.istore X23.here hx rfl (hb hby at_105) rfl (l' := #[iv pk, iv px, iv pf, iv 1, iv zc, rv r_IbanRegistry_Kind_LETTER, iv (zc - (48 : Int32)), iv 0, iv (zc - (65 : Int32)), iv 1, .unset]) rfl k) ?_
            refine Go.pull (V := T23.setTop (mkF m 108 #[iv pk, iv px, iv pf, iv 1, iv zc, rv r_IbanRegistry_Kind_LETTER, iv (zc - (48 : Int32)), iv 0, iv (zc - (65 : Int32)), iv 1, .unset] [(.int 1)])) (fun t k => XS.iloadN X23.here hx rfl (hb hby at_107) rfl  k) ?_
            refine Go.pull (V := T23.setTop (mkF m 118 #[iv pk, iv px, iv pf, iv 1, iv zc, rv r_IbanRegistry_Kind_LETTER, iv (zc - (48 : Int32)), iv 0, iv (zc - (65 : Int32)), iv 1, .unset] [])) (fun t k => XS.ifYes X23.here hx rfl (pc0 := 108) (pc' := 118) rfl (hb hby at_108) rfl (XT.i0_ne_t (by decide)) (by decide) (by decide) k) ?_
            refine Go.pull (V := T23.setTop (mkF m 119 #[iv pk, iv px, iv pf, iv 1, iv zc, rv r_IbanRegistry_Kind_LETTER, iv (zc - (48 : Int32)), iv 0, iv (zc - (65 : Int32)), iv 1, .unset] [(.int 1)])) (fun t k => XS.iloadN X23.here hx rfl (hb hby at_118) rfl  k) ?_
            refine Go.pull (V := T23.setTop (mkF m 120 #[iv pk, iv px, iv pf, iv 1, iv zc, rv r_IbanRegistry_Kind_LETTER, iv (zc - (48 : Int32)), iv 0, iv (zc - (65 : Int32)), iv 1, .unset] [(.int 1), (.int 1)])) (fun t k => XS.iconst X23.here hx rfl (hb hby at_119) k) ?_
            refine Go.pull (V := T23.setTop (mkF m 123 #[iv pk, iv px, iv pf, iv 1, iv zc, rv r_IbanRegistry_Kind_LETTER, iv (zc - (48 : Int32)), iv 0, iv (zc - (65 : Int32)), iv 1, .unset] [])) (fun t k => XS.icmpNo X23.here hx rfl (hb hby at_120) rfl (XT.ii_ne_f (by decide)) k) ?_
            refine Go.pull (V := T23.setTop (mkF m 125 #[iv pk, iv px, iv pf, iv 1, iv zc, rv r_IbanRegistry_Kind_LETTER, iv (zc - (48 : Int32)), iv 0, iv (zc - (65 : Int32)), iv 1, .unset] [(.int 1)])) (fun t k => XS.iload X23.here hx rfl (hb hby at_123) rfl  k) ?_
            refine Go.pull (V := T23.setTop (mkF m 127 #[iv pk, iv px, iv pf, iv 1, iv zc, rv r_IbanRegistry_Kind_LETTER, iv (zc - (48 : Int32)), iv 0, iv (zc - (65 : Int32)), iv 1, iv 1] [])) (fun t k => XS.istore X23.here hx rfl (hb hby at_125) rfl (l' := #[iv pk, iv px, iv pf, iv 1, iv zc, rv r_IbanRegistry_Kind_LETTER, iv (zc - (48 : Int32)), iv 0, iv (zc - (65 : Int32)), iv 1, iv 1]) rfl k) ?_
            refine Go.pull (V := T23.setTop (mkF m 147 #[iv pk, iv px, iv pf, iv 1, iv zc, rv r_IbanRegistry_Kind_LETTER, iv (zc - (48 : Int32)), iv 0, iv (zc - (65 : Int32)), iv 1, iv 1] [])) (fun t k => XS.goto X23.here hx rfl (pc0 := 127) (pc' := 147) rfl (hb hby at_127) (by decide) (by decide) k) ?_
            refine Go.pull (V := T23.setTop (mkF m 149 #[iv pk, iv px, iv pf, iv 1, iv zc, rv r_IbanRegistry_Kind_LETTER, iv (zc - (48 : Int32)), iv 0, iv (zc - (65 : Int32)), iv 1, iv 1] [(.ref r_IbanRegistry_Kind_LETTER)])) (fun t k => XS.aload X23.here hx rfl (hb hby at_147) rfl rfl k) ?_
            refine Go.pull (V := T23.setTop (mkF m 151 #[iv pk, iv px, iv pf, iv 1, iv zc, rv r_IbanRegistry_Kind_LETTER, iv (zc - (48 : Int32)), iv 0, iv (zc - (65 : Int32)), iv 1, iv 1] [(.int zc), (.ref r_IbanRegistry_Kind_LETTER)])) (fun t k => XS.iload X23.here hx rfl (hb hby at_149) rfl  k) ?_
            obtain ⟨cq29, kq29, q29a, q29b, q29c⟩ := isOf hZ e23 E_r_IbanRegistry_Kind_LETTER
            obtain ⟨_, _, ⟨T29, L29, k29, n29⟩, -, X29, ⟨Lc29, hQ29, l29, y29, z29⟩, st29⟩ := X23.virtualBack hx (y := (⟨"com/example/disburse/disburse/core/IbanRegistry$Kind", "admits", "(C)Z"⟩ : MethodName)) (z := (⟨"com/example/disburse/disburse/core/IbanRegistry$Kind", "admits", "(C)Z"⟩ : MethodName)) hown (mvT hZ (hw _ (List.mem_of_getElem? (i := 4) rfl))) (mvT hZ (hw _ (List.mem_of_getElem? (i := 5) rfl))) (notFace_of_selects (args := #[]) (mvT hZ (hw _ (List.mem_of_getElem? (i := 7) rfl)))) (mvT hZ (hw _ (List.mem_of_getElem? (i := 7) rfl))) (mvT hZ (hw _ (List.mem_of_getElem? (i := 6) rfl))) (by decide) (backOf (W := 0) (rmA1 l Z a0 hw [] r_IbanRegistry_Kind_LETTER zc h0 n0 E_r_IbanRegistry_Kind_LETTER F_r_IbanRegistry_Kind_LETTER_ordinal) hZ (hw _ (List.mem_of_getElem? (i := 8) rfl)) (hw _ (List.mem_of_getElem? (i := 2) rfl)) (by decide) (by decide)) q29a q29c (g := (mkF m 151 #[iv pk, iv px, iv pf, iv 1, iv zc, rv r_IbanRegistry_Kind_LETTER, iv (zc - (48 : Int32)), iv 0, iv (zc - (65 : Int32)), iv 1, iv 1] [(.int zc), (.ref r_IbanRegistry_Kind_LETTER)])) rfl (by rw [hml]; rfl) (Steps.refl _) (argsL := [(.int zc)]) (rest := []) (lenOf pd_1 rfl) rfl (by show 2 * 0 + _ ≤ _; exact Nat.le_of_eq rfl) (hb hby at_151) (fun _ _ => ⟨rfl, e23, (by decide : 0 + 0 ≤ _), (by decide : 0 + 0 ≤ _)⟩)
            dsimp only [Pt.U, Pt.locs, Pt.cells, Pt.slots] at X29 l29 y29 z29 st29 hQ29
            subst l29 y29 z29
            obtain ⟨hv29, N29q, e29⟩ := hQ29
            rw [(show (own_let zc) = (1 : Int32) from by rw [own_let, if_neg hp25, if_neg hp27])] at hv29; subst hv29
            have N29 := Fr.app N0 N29q
            refine Go.pull (V := T29.setTop (mkF m 154 #[iv pk, iv px, iv pf, iv 1, iv zc, rv r_IbanRegistry_Kind_LETTER, iv (zc - (48 : Int32)), iv 0, iv (zc - (65 : Int32)), iv 1, iv 1] [(.int 1)])) (fun _ k => st29.trans k) ?_
            refine Go.pull (V := T29.setTop (mkF m 156 #[iv pk, iv px, iv pf, iv 1, iv zc, rv r_IbanRegistry_Kind_LETTER, iv (zc - (48 : Int32)), iv 0, iv (zc - (65 : Int32)), iv 1, iv 1] [(.int 1), (.int 1)])) (fun t k => XS.iload X29.here hx rfl (hb hby at_154) rfl  k) ?_
            refine Go.pull (V := T29.setTop (mkF m 159 #[iv pk, iv px, iv pf, iv 1, iv zc, rv r_IbanRegistry_Kind_LETTER, iv (zc - (48 : Int32)), iv 0, iv (zc - (65 : Int32)), iv 1, iv 1] [])) (fun t k => XS.icmpNo X29.here hx rfl (hb hby at_156) rfl (XT.ii_ne_f (by decide)) k) ?_
            refine Go.pull (V := T29.setTop (mkF m 160 #[iv pk, iv px, iv pf, iv 1, iv zc, rv r_IbanRegistry_Kind_LETTER, iv (zc - (48 : Int32)), iv 0, iv (zc - (65 : Int32)), iv 1, iv 1] [(.int 1)])) (fun t k => XS.iconst X29.here hx rfl (hb hby at_159) k) ?_
            refine Go.pull (V := T29.setTop (mkF m 164 #[iv pk, iv px, iv pf, iv 1, iv zc, rv r_IbanRegistry_Kind_LETTER, iv (zc - (48 : Int32)), iv 0, iv (zc - (65 : Int32)), iv 1, iv 1] [(.int 1)])) (fun t k => XS.goto X29.here hx rfl (pc0 := 160) (pc' := 164) rfl (hb hby at_160) (by decide) (by decide) k) ?_
            exact Go.retN X29 hx Bd.notSynchronized (t := .boolean) Bd.returns (by simp) (hb hby at_164) ⟨rfl, N29⟩ (by decide) (by decide)
      · skip
        refine Go.pull (V := T23.setTop (mkF m 67 #[iv pk, iv px, iv pf, iv 1, iv zc, rv r_IbanRegistry_Kind_LETTER, iv (zc - (48 : Int32)), .unset, .unset, .unset, .unset] [])) (fun t k => XS.ifNo X23.here hx rfl (hb hby at_64) rfl (XT.i0_lt_f (fun q => hp24 ((own_a (k := 48) hzc (by decide) (by decide)).mp q))) k) ?_
        refine Go.pull (V := T23.setTop (mkF m 69 #[iv pk, iv px, iv pf, iv 1, iv zc, rv r_IbanRegistry_Kind_LETTER, iv (zc - (48 : Int32)), .unset, .unset, .unset, .unset] [(.int (zc - (48 : Int32)))])) (fun t k => XS.iload X23.here hx rfl (hb hby at_67) rfl  k) ?_
        refine Go.pull (V := T23.setTop (mkF m 71 #[iv pk, iv px, iv pf, iv 1, iv zc, rv r_IbanRegistry_Kind_LETTER, iv (zc - (48 : Int32)), .unset, .unset, .unset, .unset] [(.int 10), (.int (zc - (48 : Int32)))])) (fun t k => XS.bipush X23.here hx rfl (hb hby at_69) k) ?_
        by_cases hp30 : (57 : Int32) < zc
        · skip
          refine Go.pull (V := T23.setTop (mkF m 78 #[iv pk, iv px, iv pf, iv 1, iv zc, rv r_IbanRegistry_Kind_LETTER, iv (zc - (48 : Int32)), .unset, .unset, .unset, .unset] [])) (fun t k => XS.icmpYes X23.here hx rfl (pc0 := 71) (pc' := 78) rfl (hb hby at_71) rfl (XT.ii_ge_t (fun q => (own_b (k := 57) hzc (by decide) (by decide)).mp q hp30)) (by decide) (by decide) k) ?_
          refine Go.pull (V := T23.setTop (mkF m 79 #[iv pk, iv px, iv pf, iv 1, iv zc, rv r_IbanRegistry_Kind_LETTER, iv (zc - (48 : Int32)), .unset, .unset, .unset, .unset] [(.int 0)])) (fun t k => XS.iconst X23.here hx rfl (hb hby at_78) k) ?_
          refine Go.pull (V := T23.setTop (mkF m 81 #[iv pk, iv px, iv pf, iv 1, iv zc, rv r_IbanRegistry_Kind_LETTER, iv (zc - (48 : Int32)), iv 0, .unset, .unset, .unset] [])) (fun t k => XS.istore X23.here hx rfl (hb hby at_79) rfl (l' := #[iv pk, iv px, iv pf, iv 1, iv zc, rv r_IbanRegistry_Kind_LETTER, iv (zc - (48 : Int32)), iv 0, .unset, .unset, .unset]) rfl k) ?_
          refine Go.pull (V := T23.setTop (mkF m 83 #[iv pk, iv px, iv pf, iv 1, iv zc, rv r_IbanRegistry_Kind_LETTER, iv (zc - (48 : Int32)), iv 0, .unset, .unset, .unset] [(.int zc)])) (fun t k => XS.iload X23.here hx rfl (hb hby at_81) rfl  k) ?_
          refine Go.pull (V := T23.setTop (mkF m 85 #[iv pk, iv px, iv pf, iv 1, iv zc, rv r_IbanRegistry_Kind_LETTER, iv (zc - (48 : Int32)), iv 0, .unset, .unset, .unset] [(.int 65), (.int zc)])) (fun t k => XS.bipush X23.here hx rfl (hb hby at_83) k) ?_
          refine Go.pull (V := T23.setTop (mkF m 86 #[iv pk, iv px, iv pf, iv 1, iv zc, rv r_IbanRegistry_Kind_LETTER, iv (zc - (48 : Int32)), iv 0, .unset, .unset, .unset] [(.int (zc - (65 : Int32)))])) (fun t k => XS.isub X23.here hx rfl (hb hby at_85) rfl k) ?_
          refine Go.pull (V := T23.setTop (mkF m 88 #[iv pk, iv px, iv pf, iv 1, iv zc, rv r_IbanRegistry_Kind_LETTER, iv (zc - (48 : Int32)), iv 0, iv (zc - (65 : Int32)), .unset, .unset] [])) (fun t k => XS.istore X23.here hx rfl (hb hby at_86) rfl (l' := #[iv pk, iv px, iv pf, iv 1, iv zc, rv r_IbanRegistry_Kind_LETTER, iv (zc - (48 : Int32)), iv 0, iv (zc - (65 : Int32)), .unset, .unset]) rfl k) ?_
          refine Go.pull (V := T23.setTop (mkF m 90 #[iv pk, iv px, iv pf, iv 1, iv zc, rv r_IbanRegistry_Kind_LETTER, iv (zc - (48 : Int32)), iv 0, iv (zc - (65 : Int32)), .unset, .unset] [(.int (zc - (65 : Int32)))])) (fun t k => XS.iload X23.here hx rfl (hb hby at_88) rfl  k) ?_
          by_cases hp31 : zc < (65 : Int32)
          · skip
            refine Go.pull (V := T23.setTop (mkF m 104 #[iv pk, iv px, iv pf, iv 1, iv zc, rv r_IbanRegistry_Kind_LETTER, iv (zc - (48 : Int32)), iv 0, iv (zc - (65 : Int32)), .unset, .unset] [])) (fun t k => XS.ifYes X23.here hx rfl (pc0 := 90) (pc' := 104) rfl (hb hby at_90) rfl (XT.i0_lt_t ((own_a (k := 65) hzc (by decide) (by decide)).mpr hp31)) (by decide) (by decide) k) ?_
            refine Go.pull (V := T23.setTop (mkF m 105 #[iv pk, iv px, iv pf, iv 1, iv zc, rv r_IbanRegistry_Kind_LETTER, iv (zc - (48 : Int32)), iv 0, iv (zc - (65 : Int32)), .unset, .unset] [(.int 0)])) (fun t k => XS.iconst X23.here hx rfl (hb hby at_104) k) ?_
            refine Go.pull (V := T23.setTop (mkF m 107 #[iv pk, iv px, iv pf, iv 1, iv zc, rv r_IbanRegistry_Kind_LETTER, iv (zc - (48 : Int32)), iv 0, iv (zc - (65 : Int32)), iv 0, .unset] [])) (fun t k => XS.istore X23.here hx rfl (hb hby at_105) rfl (l' := #[iv pk, iv px, iv pf, iv 1, iv zc, rv r_IbanRegistry_Kind_LETTER, iv (zc - (48 : Int32)), iv 0, iv (zc - (65 : Int32)), iv 0, .unset]) rfl k) ?_
            refine Go.pull (V := T23.setTop (mkF m 108 #[iv pk, iv px, iv pf, iv 1, iv zc, rv r_IbanRegistry_Kind_LETTER, iv (zc - (48 : Int32)), iv 0, iv (zc - (65 : Int32)), iv 0, .unset] [(.int 1)])) (fun t k => XS.iloadN X23.here hx rfl (hb hby at_107) rfl  k) ?_
            refine Go.pull (V := T23.setTop (mkF m 118 #[iv pk, iv px, iv pf, iv 1, iv zc, rv r_IbanRegistry_Kind_LETTER, iv (zc - (48 : Int32)), iv 0, iv (zc - (65 : Int32)), iv 0, .unset] [])) (fun t k => XS.ifYes X23.here hx rfl (pc0 := 108) (pc' := 118) rfl (hb hby at_108) rfl (XT.i0_ne_t (by decide)) (by decide) (by decide) k) ?_
            refine Go.pull (V := T23.setTop (mkF m 119 #[iv pk, iv px, iv pf, iv 1, iv zc, rv r_IbanRegistry_Kind_LETTER, iv (zc - (48 : Int32)), iv 0, iv (zc - (65 : Int32)), iv 0, .unset] [(.int 1)])) (fun t k => XS.iloadN X23.here hx rfl (hb hby at_118) rfl  k) ?_
            refine Go.pull (V := T23.setTop (mkF m 120 #[iv pk, iv px, iv pf, iv 1, iv zc, rv r_IbanRegistry_Kind_LETTER, iv (zc - (48 : Int32)), iv 0, iv (zc - (65 : Int32)), iv 0, .unset] [(.int 1), (.int 1)])) (fun t k => XS.iconst X23.here hx rfl (hb hby at_119) k) ?_
            refine Go.pull (V := T23.setTop (mkF m 123 #[iv pk, iv px, iv pf, iv 1, iv zc, rv r_IbanRegistry_Kind_LETTER, iv (zc - (48 : Int32)), iv 0, iv (zc - (65 : Int32)), iv 0, .unset] [])) (fun t k => XS.icmpNo X23.here hx rfl (hb hby at_120) rfl (XT.ii_ne_f (by decide)) k) ?_
            refine Go.pull (V := T23.setTop (mkF m 125 #[iv pk, iv px, iv pf, iv 1, iv zc, rv r_IbanRegistry_Kind_LETTER, iv (zc - (48 : Int32)), iv 0, iv (zc - (65 : Int32)), iv 0, .unset] [(.int 0)])) (fun t k => XS.iload X23.here hx rfl (hb hby at_123) rfl  k) ?_
            refine Go.pull (V := T23.setTop (mkF m 127 #[iv pk, iv px, iv pf, iv 1, iv zc, rv r_IbanRegistry_Kind_LETTER, iv (zc - (48 : Int32)), iv 0, iv (zc - (65 : Int32)), iv 0, iv 0] [])) (fun t k => XS.istore X23.here hx rfl (hb hby at_125) rfl (l' := #[iv pk, iv px, iv pf, iv 1, iv zc, rv r_IbanRegistry_Kind_LETTER, iv (zc - (48 : Int32)), iv 0, iv (zc - (65 : Int32)), iv 0, iv 0]) rfl k) ?_
            refine Go.pull (V := T23.setTop (mkF m 147 #[iv pk, iv px, iv pf, iv 1, iv zc, rv r_IbanRegistry_Kind_LETTER, iv (zc - (48 : Int32)), iv 0, iv (zc - (65 : Int32)), iv 0, iv 0] [])) (fun t k => XS.goto X23.here hx rfl (pc0 := 127) (pc' := 147) rfl (hb hby at_127) (by decide) (by decide) k) ?_
            refine Go.pull (V := T23.setTop (mkF m 149 #[iv pk, iv px, iv pf, iv 1, iv zc, rv r_IbanRegistry_Kind_LETTER, iv (zc - (48 : Int32)), iv 0, iv (zc - (65 : Int32)), iv 0, iv 0] [(.ref r_IbanRegistry_Kind_LETTER)])) (fun t k => XS.aload X23.here hx rfl (hb hby at_147) rfl rfl k) ?_
            refine Go.pull (V := T23.setTop (mkF m 151 #[iv pk, iv px, iv pf, iv 1, iv zc, rv r_IbanRegistry_Kind_LETTER, iv (zc - (48 : Int32)), iv 0, iv (zc - (65 : Int32)), iv 0, iv 0] [(.int zc), (.ref r_IbanRegistry_Kind_LETTER)])) (fun t k => XS.iload X23.here hx rfl (hb hby at_149) rfl  k) ?_
            obtain ⟨cq32, kq32, q32a, q32b, q32c⟩ := isOf hZ e23 E_r_IbanRegistry_Kind_LETTER
            obtain ⟨_, _, ⟨T32, L32, k32, n32⟩, -, X32, ⟨Lc32, hQ32, l32, y32, z32⟩, st32⟩ := X23.virtualBack hx (y := (⟨"com/example/disburse/disburse/core/IbanRegistry$Kind", "admits", "(C)Z"⟩ : MethodName)) (z := (⟨"com/example/disburse/disburse/core/IbanRegistry$Kind", "admits", "(C)Z"⟩ : MethodName)) hown (mvT hZ (hw _ (List.mem_of_getElem? (i := 4) rfl))) (mvT hZ (hw _ (List.mem_of_getElem? (i := 5) rfl))) (notFace_of_selects (args := #[]) (mvT hZ (hw _ (List.mem_of_getElem? (i := 7) rfl)))) (mvT hZ (hw _ (List.mem_of_getElem? (i := 7) rfl))) (mvT hZ (hw _ (List.mem_of_getElem? (i := 6) rfl))) (by decide) (backOf (W := 0) (rmA1 l Z a0 hw [] r_IbanRegistry_Kind_LETTER zc h0 n0 E_r_IbanRegistry_Kind_LETTER F_r_IbanRegistry_Kind_LETTER_ordinal) hZ (hw _ (List.mem_of_getElem? (i := 8) rfl)) (hw _ (List.mem_of_getElem? (i := 2) rfl)) (by decide) (by decide)) q32a q32c (g := (mkF m 151 #[iv pk, iv px, iv pf, iv 1, iv zc, rv r_IbanRegistry_Kind_LETTER, iv (zc - (48 : Int32)), iv 0, iv (zc - (65 : Int32)), iv 0, iv 0] [(.int zc), (.ref r_IbanRegistry_Kind_LETTER)])) rfl (by rw [hml]; rfl) (Steps.refl _) (argsL := [(.int zc)]) (rest := []) (lenOf pd_1 rfl) rfl (by show 2 * 0 + _ ≤ _; exact Nat.le_of_eq rfl) (hb hby at_151) (fun _ _ => ⟨rfl, e23, (by decide : 0 + 0 ≤ _), (by decide : 0 + 0 ≤ _)⟩)
            dsimp only [Pt.U, Pt.locs, Pt.cells, Pt.slots] at X32 l32 y32 z32 st32 hQ32
            subst l32 y32 z32
            obtain ⟨hv32, N32q, e32⟩ := hQ32
            rw [(show (own_let zc) = (0 : Int32) from by rw [own_let, if_pos hp31])] at hv32; subst hv32
            have N32 := Fr.app N0 N32q
            refine Go.pull (V := T32.setTop (mkF m 154 #[iv pk, iv px, iv pf, iv 1, iv zc, rv r_IbanRegistry_Kind_LETTER, iv (zc - (48 : Int32)), iv 0, iv (zc - (65 : Int32)), iv 0, iv 0] [(.int 0)])) (fun _ k => st32.trans k) ?_
            refine Go.pull (V := T32.setTop (mkF m 156 #[iv pk, iv px, iv pf, iv 1, iv zc, rv r_IbanRegistry_Kind_LETTER, iv (zc - (48 : Int32)), iv 0, iv (zc - (65 : Int32)), iv 0, iv 0] [(.int 0), (.int 0)])) (fun t k => XS.iload X32.here hx rfl (hb hby at_154) rfl  k) ?_
            refine Go.pull (V := T32.setTop (mkF m 159 #[iv pk, iv px, iv pf, iv 1, iv zc, rv r_IbanRegistry_Kind_LETTER, iv (zc - (48 : Int32)), iv 0, iv (zc - (65 : Int32)), iv 0, iv 0] [])) (fun t k => XS.icmpNo X32.here hx rfl (hb hby at_156) rfl (XT.ii_ne_f (by decide)) k) ?_
            refine Go.pull (V := T32.setTop (mkF m 160 #[iv pk, iv px, iv pf, iv 1, iv zc, rv r_IbanRegistry_Kind_LETTER, iv (zc - (48 : Int32)), iv 0, iv (zc - (65 : Int32)), iv 0, iv 0] [(.int 1)])) (fun t k => XS.iconst X32.here hx rfl (hb hby at_159) k) ?_
            refine Go.pull (V := T32.setTop (mkF m 164 #[iv pk, iv px, iv pf, iv 1, iv zc, rv r_IbanRegistry_Kind_LETTER, iv (zc - (48 : Int32)), iv 0, iv (zc - (65 : Int32)), iv 0, iv 0] [(.int 1)])) (fun t k => XS.goto X32.here hx rfl (pc0 := 160) (pc' := 164) rfl (hb hby at_160) (by decide) (by decide) k) ?_
            exact Go.retN X32 hx Bd.notSynchronized (t := .boolean) Bd.returns (by simp) (hb hby at_164) ⟨rfl, N32⟩ (by decide) (by decide)
          · skip
            refine Go.pull (V := T23.setTop (mkF m 93 #[iv pk, iv px, iv pf, iv 1, iv zc, rv r_IbanRegistry_Kind_LETTER, iv (zc - (48 : Int32)), iv 0, iv (zc - (65 : Int32)), .unset, .unset] [])) (fun t k => XS.ifNo X23.here hx rfl (hb hby at_90) rfl (XT.i0_lt_f (fun q => hp31 ((own_a (k := 65) hzc (by decide) (by decide)).mp q))) k) ?_
            refine Go.pull (V := T23.setTop (mkF m 95 #[iv pk, iv px, iv pf, iv 1, iv zc, rv r_IbanRegistry_Kind_LETTER, iv (zc - (48 : Int32)), iv 0, iv (zc - (65 : Int32)), .unset, .unset] [(.int (zc - (65 : Int32)))])) (fun t k => XS.iload X23.here hx rfl (hb hby at_93) rfl  k) ?_
            refine Go.pull (V := T23.setTop (mkF m 97 #[iv pk, iv px, iv pf, iv 1, iv zc, rv r_IbanRegistry_Kind_LETTER, iv (zc - (48 : Int32)), iv 0, iv (zc - (65 : Int32)), .unset, .unset] [(.int 26), (.int (zc - (65 : Int32)))])) (fun t k => XS.bipush X23.here hx rfl (hb hby at_95) k) ?_
            by_cases hp33 : (90 : Int32) < zc
            · skip
              refine Go.pull (V := T23.setTop (mkF m 104 #[iv pk, iv px, iv pf, iv 1, iv zc, rv r_IbanRegistry_Kind_LETTER, iv (zc - (48 : Int32)), iv 0, iv (zc - (65 : Int32)), .unset, .unset] [])) (fun t k => XS.icmpYes X23.here hx rfl (pc0 := 97) (pc' := 104) rfl (hb hby at_97) rfl (XT.ii_ge_t (fun q => (own_b (k := 90) hzc (by decide) (by decide)).mp q hp33)) (by decide) (by decide) k) ?_
              refine Go.pull (V := T23.setTop (mkF m 105 #[iv pk, iv px, iv pf, iv 1, iv zc, rv r_IbanRegistry_Kind_LETTER, iv (zc - (48 : Int32)), iv 0, iv (zc - (65 : Int32)), .unset, .unset] [(.int 0)])) (fun t k => XS.iconst X23.here hx rfl (hb hby at_104) k) ?_
              refine Go.pull (V := T23.setTop (mkF m 107 #[iv pk, iv px, iv pf, iv 1, iv zc, rv r_IbanRegistry_Kind_LETTER, iv (zc - (48 : Int32)), iv 0, iv (zc - (65 : Int32)), iv 0, .unset] [])) (fun t k => XS.istore X23.here hx rfl (hb hby at_105) rfl (l' := #[iv pk, iv px, iv pf, iv 1, iv zc, rv r_IbanRegistry_Kind_LETTER, iv (zc - (48 : Int32)), iv 0, iv (zc - (65 : Int32)), iv 0, .unset]) rfl k) ?_
              refine Go.pull (V := T23.setTop (mkF m 108 #[iv pk, iv px, iv pf, iv 1, iv zc, rv r_IbanRegistry_Kind_LETTER, iv (zc - (48 : Int32)), iv 0, iv (zc - (65 : Int32)), iv 0, .unset] [(.int 1)])) (fun t k => XS.iloadN X23.here hx rfl (hb hby at_107) rfl  k) ?_
              refine Go.pull (V := T23.setTop (mkF m 118 #[iv pk, iv px, iv pf, iv 1, iv zc, rv r_IbanRegistry_Kind_LETTER, iv (zc - (48 : Int32)), iv 0, iv (zc - (65 : Int32)), iv 0, .unset] [])) (fun t k => XS.ifYes X23.here hx rfl (pc0 := 108) (pc' := 118) rfl (hb hby at_108) rfl (XT.i0_ne_t (by decide)) (by decide) (by decide) k) ?_
              refine Go.pull (V := T23.setTop (mkF m 119 #[iv pk, iv px, iv pf, iv 1, iv zc, rv r_IbanRegistry_Kind_LETTER, iv (zc - (48 : Int32)), iv 0, iv (zc - (65 : Int32)), iv 0, .unset] [(.int 1)])) (fun t k => XS.iloadN X23.here hx rfl (hb hby at_118) rfl  k) ?_
              refine Go.pull (V := T23.setTop (mkF m 120 #[iv pk, iv px, iv pf, iv 1, iv zc, rv r_IbanRegistry_Kind_LETTER, iv (zc - (48 : Int32)), iv 0, iv (zc - (65 : Int32)), iv 0, .unset] [(.int 1), (.int 1)])) (fun t k => XS.iconst X23.here hx rfl (hb hby at_119) k) ?_
              refine Go.pull (V := T23.setTop (mkF m 123 #[iv pk, iv px, iv pf, iv 1, iv zc, rv r_IbanRegistry_Kind_LETTER, iv (zc - (48 : Int32)), iv 0, iv (zc - (65 : Int32)), iv 0, .unset] [])) (fun t k => XS.icmpNo X23.here hx rfl (hb hby at_120) rfl (XT.ii_ne_f (by decide)) k) ?_
              refine Go.pull (V := T23.setTop (mkF m 125 #[iv pk, iv px, iv pf, iv 1, iv zc, rv r_IbanRegistry_Kind_LETTER, iv (zc - (48 : Int32)), iv 0, iv (zc - (65 : Int32)), iv 0, .unset] [(.int 0)])) (fun t k => XS.iload X23.here hx rfl (hb hby at_123) rfl  k) ?_
              refine Go.pull (V := T23.setTop (mkF m 127 #[iv pk, iv px, iv pf, iv 1, iv zc, rv r_IbanRegistry_Kind_LETTER, iv (zc - (48 : Int32)), iv 0, iv (zc - (65 : Int32)), iv 0, iv 0] [])) (fun t k => XS.istore X23.here hx rfl (hb hby at_125) rfl (l' := #[iv pk, iv px, iv pf, iv 1, iv zc, rv r_IbanRegistry_Kind_LETTER, iv (zc - (48 : Int32)), iv 0, iv (zc - (65 : Int32)), iv 0, iv 0]) rfl k) ?_
              refine Go.pull (V := T23.setTop (mkF m 147 #[iv pk, iv px, iv pf, iv 1, iv zc, rv r_IbanRegistry_Kind_LETTER, iv (zc - (48 : Int32)), iv 0, iv (zc - (65 : Int32)), iv 0, iv 0] [])) (fun t k => XS.goto X23.here hx rfl (pc0 := 127) (pc' := 147) rfl (hb hby at_127) (by decide) (by decide) k) ?_
              refine Go.pull (V := T23.setTop (mkF m 149 #[iv pk, iv px, iv pf, iv 1, iv zc, rv r_IbanRegistry_Kind_LETTER, iv (zc - (48 : Int32)), iv 0, iv (zc - (65 : Int32)), iv 0, iv 0] [(.ref r_IbanRegistry_Kind_LETTER)])) (fun t k => XS.aload X23.here hx rfl (hb hby at_147) rfl rfl k) ?_
              refine Go.pull (V := T23.setTop (mkF m 151 #[iv pk, iv px, iv pf, iv 1, iv zc, rv r_IbanRegistry_Kind_LETTER, iv (zc - (48 : Int32)), iv 0, iv (zc - (65 : Int32)), iv 0, iv 0] [(.int zc), (.ref r_IbanRegistry_Kind_LETTER)])) (fun t k => XS.iload X23.here hx rfl (hb hby at_149) rfl  k) ?_
              obtain ⟨cq34, kq34, q34a, q34b, q34c⟩ := isOf hZ e23 E_r_IbanRegistry_Kind_LETTER
              obtain ⟨_, _, ⟨T34, L34, k34, n34⟩, -, X34, ⟨Lc34, hQ34, l34, y34, z34⟩, st34⟩ := X23.virtualBack hx (y := (⟨"com/example/disburse/disburse/core/IbanRegistry$Kind", "admits", "(C)Z"⟩ : MethodName)) (z := (⟨"com/example/disburse/disburse/core/IbanRegistry$Kind", "admits", "(C)Z"⟩ : MethodName)) hown (mvT hZ (hw _ (List.mem_of_getElem? (i := 4) rfl))) (mvT hZ (hw _ (List.mem_of_getElem? (i := 5) rfl))) (notFace_of_selects (args := #[]) (mvT hZ (hw _ (List.mem_of_getElem? (i := 7) rfl)))) (mvT hZ (hw _ (List.mem_of_getElem? (i := 7) rfl))) (mvT hZ (hw _ (List.mem_of_getElem? (i := 6) rfl))) (by decide) (backOf (W := 0) (rmA1 l Z a0 hw [] r_IbanRegistry_Kind_LETTER zc h0 n0 E_r_IbanRegistry_Kind_LETTER F_r_IbanRegistry_Kind_LETTER_ordinal) hZ (hw _ (List.mem_of_getElem? (i := 8) rfl)) (hw _ (List.mem_of_getElem? (i := 2) rfl)) (by decide) (by decide)) q34a q34c (g := (mkF m 151 #[iv pk, iv px, iv pf, iv 1, iv zc, rv r_IbanRegistry_Kind_LETTER, iv (zc - (48 : Int32)), iv 0, iv (zc - (65 : Int32)), iv 0, iv 0] [(.int zc), (.ref r_IbanRegistry_Kind_LETTER)])) rfl (by rw [hml]; rfl) (Steps.refl _) (argsL := [(.int zc)]) (rest := []) (lenOf pd_1 rfl) rfl (by show 2 * 0 + _ ≤ _; exact Nat.le_of_eq rfl) (hb hby at_151) (fun _ _ => ⟨rfl, e23, (by decide : 0 + 0 ≤ _), (by decide : 0 + 0 ≤ _)⟩)
              dsimp only [Pt.U, Pt.locs, Pt.cells, Pt.slots] at X34 l34 y34 z34 st34 hQ34
              subst l34 y34 z34
              obtain ⟨hv34, N34q, e34⟩ := hQ34
              rw [(show (own_let zc) = (0 : Int32) from by rw [own_let, if_neg hp31, if_pos hp33])] at hv34; subst hv34
              have N34 := Fr.app N0 N34q
              refine Go.pull (V := T34.setTop (mkF m 154 #[iv pk, iv px, iv pf, iv 1, iv zc, rv r_IbanRegistry_Kind_LETTER, iv (zc - (48 : Int32)), iv 0, iv (zc - (65 : Int32)), iv 0, iv 0] [(.int 0)])) (fun _ k => st34.trans k) ?_
              refine Go.pull (V := T34.setTop (mkF m 156 #[iv pk, iv px, iv pf, iv 1, iv zc, rv r_IbanRegistry_Kind_LETTER, iv (zc - (48 : Int32)), iv 0, iv (zc - (65 : Int32)), iv 0, iv 0] [(.int 0), (.int 0)])) (fun t k => XS.iload X34.here hx rfl (hb hby at_154) rfl  k) ?_
              refine Go.pull (V := T34.setTop (mkF m 159 #[iv pk, iv px, iv pf, iv 1, iv zc, rv r_IbanRegistry_Kind_LETTER, iv (zc - (48 : Int32)), iv 0, iv (zc - (65 : Int32)), iv 0, iv 0] [])) (fun t k => XS.icmpNo X34.here hx rfl (hb hby at_156) rfl (XT.ii_ne_f (by decide)) k) ?_
              refine Go.pull (V := T34.setTop (mkF m 160 #[iv pk, iv px, iv pf, iv 1, iv zc, rv r_IbanRegistry_Kind_LETTER, iv (zc - (48 : Int32)), iv 0, iv (zc - (65 : Int32)), iv 0, iv 0] [(.int 1)])) (fun t k => XS.iconst X34.here hx rfl (hb hby at_159) k) ?_
              refine Go.pull (V := T34.setTop (mkF m 164 #[iv pk, iv px, iv pf, iv 1, iv zc, rv r_IbanRegistry_Kind_LETTER, iv (zc - (48 : Int32)), iv 0, iv (zc - (65 : Int32)), iv 0, iv 0] [(.int 1)])) (fun t k => XS.goto X34.here hx rfl (pc0 := 160) (pc' := 164) rfl (hb hby at_160) (by decide) (by decide) k) ?_
              exact Go.retN X34 hx Bd.notSynchronized (t := .boolean) Bd.returns (by simp) (hb hby at_164) ⟨rfl, N34⟩ (by decide) (by decide)
            · skip
              refine Go.pull (V := T23.setTop (mkF m 100 #[iv pk, iv px, iv pf, iv 1, iv zc, rv r_IbanRegistry_Kind_LETTER, iv (zc - (48 : Int32)), iv 0, iv (zc - (65 : Int32)), .unset, .unset] [])) (fun t k => XS.icmpNo X23.here hx rfl (hb hby at_97) rfl (XT.ii_ge_f ((own_b (k := 90) hzc (by decide) (by decide)).mpr hp33)) k) ?_
              refine Go.pull (V := T23.setTop (mkF m 101 #[iv pk, iv px, iv pf, iv 1, iv zc, rv r_IbanRegistry_Kind_LETTER, iv (zc - (48 : Int32)), iv 0, iv (zc - (65 : Int32)), .unset, .unset] [(.int 1)])) (fun t k => XS.iconst X23.here hx rfl (hb hby at_100) k) ?_
              refine Go.pull (V := T23.setTop (mkF m 105 #[iv pk, iv px, iv pf, iv 1, iv zc, rv r_IbanRegistry_Kind_LETTER, iv (zc - (48 : Int32)), iv 0, iv (zc - (65 : Int32)), .unset, .unset] [(.int 1)])) (fun t k => XS.goto X23.here hx rfl (pc0 := 101) (pc' := 105) rfl (hb hby at_101) (by decide) (by decide) k) ?_
              refine Go.pull (V := T23.setTop (mkF m 107 #[iv pk, iv px, iv pf, iv 1, iv zc, rv r_IbanRegistry_Kind_LETTER, iv (zc - (48 : Int32)), iv 0, iv (zc - (65 : Int32)), iv 1, .unset] [])) (fun t k => XS.istore X23.here hx rfl (hb hby at_105) rfl (l' := #[iv pk, iv px, iv pf, iv 1, iv zc, rv r_IbanRegistry_Kind_LETTER, iv (zc - (48 : Int32)), iv 0, iv (zc - (65 : Int32)), iv 1, .unset]) rfl k) ?_
              refine Go.pull (V := T23.setTop (mkF m 108 #[iv pk, iv px, iv pf, iv 1, iv zc, rv r_IbanRegistry_Kind_LETTER, iv (zc - (48 : Int32)), iv 0, iv (zc - (65 : Int32)), iv 1, .unset] [(.int 1)])) (fun t k => XS.iloadN X23.here hx rfl (hb hby at_107) rfl  k) ?_
              refine Go.pull (V := T23.setTop (mkF m 118 #[iv pk, iv px, iv pf, iv 1, iv zc, rv r_IbanRegistry_Kind_LETTER, iv (zc - (48 : Int32)), iv 0, iv (zc - (65 : Int32)), iv 1, .unset] [])) (fun t k => XS.ifYes X23.here hx rfl (pc0 := 108) (pc' := 118) rfl (hb hby at_108) rfl (XT.i0_ne_t (by decide)) (by decide) (by decide) k) ?_
              refine Go.pull (V := T23.setTop (mkF m 119 #[iv pk, iv px, iv pf, iv 1, iv zc, rv r_IbanRegistry_Kind_LETTER, iv (zc - (48 : Int32)), iv 0, iv (zc - (65 : Int32)), iv 1, .unset] [(.int 1)])) (fun t k => XS.iloadN X23.here hx rfl (hb hby at_118) rfl  k) ?_
              refine Go.pull (V := T23.setTop (mkF m 120 #[iv pk, iv px, iv pf, iv 1, iv zc, rv r_IbanRegistry_Kind_LETTER, iv (zc - (48 : Int32)), iv 0, iv (zc - (65 : Int32)), iv 1, .unset] [(.int 1), (.int 1)])) (fun t k => XS.iconst X23.here hx rfl (hb hby at_119) k) ?_
              refine Go.pull (V := T23.setTop (mkF m 123 #[iv pk, iv px, iv pf, iv 1, iv zc, rv r_IbanRegistry_Kind_LETTER, iv (zc - (48 : Int32)), iv 0, iv (zc - (65 : Int32)), iv 1, .unset] [])) (fun t k => XS.icmpNo X23.here hx rfl (hb hby at_120) rfl (XT.ii_ne_f (by decide)) k) ?_
              refine Go.pull (V := T23.setTop (mkF m 125 #[iv pk, iv px, iv pf, iv 1, iv zc, rv r_IbanRegistry_Kind_LETTER, iv (zc - (48 : Int32)), iv 0, iv (zc - (65 : Int32)), iv 1, .unset] [(.int 1)])) (fun t k => XS.iload X23.here hx rfl (hb hby at_123) rfl  k) ?_
              refine Go.pull (V := T23.setTop (mkF m 127 #[iv pk, iv px, iv pf, iv 1, iv zc, rv r_IbanRegistry_Kind_LETTER, iv (zc - (48 : Int32)), iv 0, iv (zc - (65 : Int32)), iv 1, iv 1] [])) (fun t k => XS.istore X23.here hx rfl (hb hby at_125) rfl (l' := #[iv pk, iv px, iv pf, iv 1, iv zc, rv r_IbanRegistry_Kind_LETTER, iv (zc - (48 : Int32)), iv 0, iv (zc - (65 : Int32)), iv 1, iv 1]) rfl k) ?_
              refine Go.pull (V := T23.setTop (mkF m 147 #[iv pk, iv px, iv pf, iv 1, iv zc, rv r_IbanRegistry_Kind_LETTER, iv (zc - (48 : Int32)), iv 0, iv (zc - (65 : Int32)), iv 1, iv 1] [])) (fun t k => XS.goto X23.here hx rfl (pc0 := 127) (pc' := 147) rfl (hb hby at_127) (by decide) (by decide) k) ?_
              refine Go.pull (V := T23.setTop (mkF m 149 #[iv pk, iv px, iv pf, iv 1, iv zc, rv r_IbanRegistry_Kind_LETTER, iv (zc - (48 : Int32)), iv 0, iv (zc - (65 : Int32)), iv 1, iv 1] [(.ref r_IbanRegistry_Kind_LETTER)])) (fun t k => XS.aload X23.here hx rfl (hb hby at_147) rfl rfl k) ?_
              refine Go.pull (V := T23.setTop (mkF m 151 #[iv pk, iv px, iv pf, iv 1, iv zc, rv r_IbanRegistry_Kind_LETTER, iv (zc - (48 : Int32)), iv 0, iv (zc - (65 : Int32)), iv 1, iv 1] [(.int zc), (.ref r_IbanRegistry_Kind_LETTER)])) (fun t k => XS.iload X23.here hx rfl (hb hby at_149) rfl  k) ?_
              obtain ⟨cq35, kq35, q35a, q35b, q35c⟩ := isOf hZ e23 E_r_IbanRegistry_Kind_LETTER
              obtain ⟨_, _, ⟨T35, L35, k35, n35⟩, -, X35, ⟨Lc35, hQ35, l35, y35, z35⟩, st35⟩ := X23.virtualBack hx (y := (⟨"com/example/disburse/disburse/core/IbanRegistry$Kind", "admits", "(C)Z"⟩ : MethodName)) (z := (⟨"com/example/disburse/disburse/core/IbanRegistry$Kind", "admits", "(C)Z"⟩ : MethodName)) hown (mvT hZ (hw _ (List.mem_of_getElem? (i := 4) rfl))) (mvT hZ (hw _ (List.mem_of_getElem? (i := 5) rfl))) (notFace_of_selects (args := #[]) (mvT hZ (hw _ (List.mem_of_getElem? (i := 7) rfl)))) (mvT hZ (hw _ (List.mem_of_getElem? (i := 7) rfl))) (mvT hZ (hw _ (List.mem_of_getElem? (i := 6) rfl))) (by decide) (backOf (W := 0) (rmA1 l Z a0 hw [] r_IbanRegistry_Kind_LETTER zc h0 n0 E_r_IbanRegistry_Kind_LETTER F_r_IbanRegistry_Kind_LETTER_ordinal) hZ (hw _ (List.mem_of_getElem? (i := 8) rfl)) (hw _ (List.mem_of_getElem? (i := 2) rfl)) (by decide) (by decide)) q35a q35c (g := (mkF m 151 #[iv pk, iv px, iv pf, iv 1, iv zc, rv r_IbanRegistry_Kind_LETTER, iv (zc - (48 : Int32)), iv 0, iv (zc - (65 : Int32)), iv 1, iv 1] [(.int zc), (.ref r_IbanRegistry_Kind_LETTER)])) rfl (by rw [hml]; rfl) (Steps.refl _) (argsL := [(.int zc)]) (rest := []) (lenOf pd_1 rfl) rfl (by show 2 * 0 + _ ≤ _; exact Nat.le_of_eq rfl) (hb hby at_151) (fun _ _ => ⟨rfl, e23, (by decide : 0 + 0 ≤ _), (by decide : 0 + 0 ≤ _)⟩)
              dsimp only [Pt.U, Pt.locs, Pt.cells, Pt.slots] at X35 l35 y35 z35 st35 hQ35
              subst l35 y35 z35
              obtain ⟨hv35, N35q, e35⟩ := hQ35
              rw [(show (own_let zc) = (1 : Int32) from by rw [own_let, if_neg hp31, if_neg hp33])] at hv35; subst hv35
              have N35 := Fr.app N0 N35q
              refine Go.pull (V := T35.setTop (mkF m 154 #[iv pk, iv px, iv pf, iv 1, iv zc, rv r_IbanRegistry_Kind_LETTER, iv (zc - (48 : Int32)), iv 0, iv (zc - (65 : Int32)), iv 1, iv 1] [(.int 1)])) (fun _ k => st35.trans k) ?_
              refine Go.pull (V := T35.setTop (mkF m 156 #[iv pk, iv px, iv pf, iv 1, iv zc, rv r_IbanRegistry_Kind_LETTER, iv (zc - (48 : Int32)), iv 0, iv (zc - (65 : Int32)), iv 1, iv 1] [(.int 1), (.int 1)])) (fun t k => XS.iload X35.here hx rfl (hb hby at_154) rfl  k) ?_
              refine Go.pull (V := T35.setTop (mkF m 159 #[iv pk, iv px, iv pf, iv 1, iv zc, rv r_IbanRegistry_Kind_LETTER, iv (zc - (48 : Int32)), iv 0, iv (zc - (65 : Int32)), iv 1, iv 1] [])) (fun t k => XS.icmpNo X35.here hx rfl (hb hby at_156) rfl (XT.ii_ne_f (by decide)) k) ?_
              refine Go.pull (V := T35.setTop (mkF m 160 #[iv pk, iv px, iv pf, iv 1, iv zc, rv r_IbanRegistry_Kind_LETTER, iv (zc - (48 : Int32)), iv 0, iv (zc - (65 : Int32)), iv 1, iv 1] [(.int 1)])) (fun t k => XS.iconst X35.here hx rfl (hb hby at_159) k) ?_
              refine Go.pull (V := T35.setTop (mkF m 164 #[iv pk, iv px, iv pf, iv 1, iv zc, rv r_IbanRegistry_Kind_LETTER, iv (zc - (48 : Int32)), iv 0, iv (zc - (65 : Int32)), iv 1, iv 1] [(.int 1)])) (fun t k => XS.goto X35.here hx rfl (pc0 := 160) (pc' := 164) rfl (hb hby at_160) (by decide) (by decide) k) ?_
              exact Go.retN X35 hx Bd.notSynchronized (t := .boolean) Bd.returns (by simp) (hb hby at_164) ⟨rfl, N35⟩ (by decide) (by decide)
        · skip
          refine Go.pull (V := T23.setTop (mkF m 74 #[iv pk, iv px, iv pf, iv 1, iv zc, rv r_IbanRegistry_Kind_LETTER, iv (zc - (48 : Int32)), .unset, .unset, .unset, .unset] [])) (fun t k => XS.icmpNo X23.here hx rfl (hb hby at_71) rfl (XT.ii_ge_f ((own_b (k := 57) hzc (by decide) (by decide)).mpr hp30)) k) ?_
          refine Go.pull (V := T23.setTop (mkF m 75 #[iv pk, iv px, iv pf, iv 1, iv zc, rv r_IbanRegistry_Kind_LETTER, iv (zc - (48 : Int32)), .unset, .unset, .unset, .unset] [(.int 1)])) (fun t k => XS.iconst X23.here hx rfl (hb hby at_74) k) ?_
          refine Go.pull (V := T23.setTop (mkF m 79 #[iv pk, iv px, iv pf, iv 1, iv zc, rv r_IbanRegistry_Kind_LETTER, iv (zc - (48 : Int32)), .unset, .unset, .unset, .unset] [(.int 1)])) (fun t k => XS.goto X23.here hx rfl (pc0 := 75) (pc' := 79) rfl (hb hby at_75) (by decide) (by decide) k) ?_
          refine Go.pull (V := T23.setTop (mkF m 81 #[iv pk, iv px, iv pf, iv 1, iv zc, rv r_IbanRegistry_Kind_LETTER, iv (zc - (48 : Int32)), iv 1, .unset, .unset, .unset] [])) (fun t k => XS.istore X23.here hx rfl (hb hby at_79) rfl (l' := #[iv pk, iv px, iv pf, iv 1, iv zc, rv r_IbanRegistry_Kind_LETTER, iv (zc - (48 : Int32)), iv 1, .unset, .unset, .unset]) rfl k) ?_
          refine Go.pull (V := T23.setTop (mkF m 83 #[iv pk, iv px, iv pf, iv 1, iv zc, rv r_IbanRegistry_Kind_LETTER, iv (zc - (48 : Int32)), iv 1, .unset, .unset, .unset] [(.int zc)])) (fun t k => XS.iload X23.here hx rfl (hb hby at_81) rfl  k) ?_
          refine Go.pull (V := T23.setTop (mkF m 85 #[iv pk, iv px, iv pf, iv 1, iv zc, rv r_IbanRegistry_Kind_LETTER, iv (zc - (48 : Int32)), iv 1, .unset, .unset, .unset] [(.int 65), (.int zc)])) (fun t k => XS.bipush X23.here hx rfl (hb hby at_83) k) ?_
          refine Go.pull (V := T23.setTop (mkF m 86 #[iv pk, iv px, iv pf, iv 1, iv zc, rv r_IbanRegistry_Kind_LETTER, iv (zc - (48 : Int32)), iv 1, .unset, .unset, .unset] [(.int (zc - (65 : Int32)))])) (fun t k => XS.isub X23.here hx rfl (hb hby at_85) rfl k) ?_
          refine Go.pull (V := T23.setTop (mkF m 88 #[iv pk, iv px, iv pf, iv 1, iv zc, rv r_IbanRegistry_Kind_LETTER, iv (zc - (48 : Int32)), iv 1, iv (zc - (65 : Int32)), .unset, .unset] [])) (fun t k => XS.istore X23.here hx rfl (hb hby at_86) rfl (l' := #[iv pk, iv px, iv pf, iv 1, iv zc, rv r_IbanRegistry_Kind_LETTER, iv (zc - (48 : Int32)), iv 1, iv (zc - (65 : Int32)), .unset, .unset]) rfl k) ?_
          refine Go.pull (V := T23.setTop (mkF m 90 #[iv pk, iv px, iv pf, iv 1, iv zc, rv r_IbanRegistry_Kind_LETTER, iv (zc - (48 : Int32)), iv 1, iv (zc - (65 : Int32)), .unset, .unset] [(.int (zc - (65 : Int32)))])) (fun t k => XS.iload X23.here hx rfl (hb hby at_88) rfl  k) ?_
          by_cases hp36 : zc < (65 : Int32)
          · skip
            refine Go.pull (V := T23.setTop (mkF m 104 #[iv pk, iv px, iv pf, iv 1, iv zc, rv r_IbanRegistry_Kind_LETTER, iv (zc - (48 : Int32)), iv 1, iv (zc - (65 : Int32)), .unset, .unset] [])) (fun t k => XS.ifYes X23.here hx rfl (pc0 := 90) (pc' := 104) rfl (hb hby at_90) rfl (XT.i0_lt_t ((own_a (k := 65) hzc (by decide) (by decide)).mpr hp36)) (by decide) (by decide) k) ?_
            refine Go.pull (V := T23.setTop (mkF m 105 #[iv pk, iv px, iv pf, iv 1, iv zc, rv r_IbanRegistry_Kind_LETTER, iv (zc - (48 : Int32)), iv 1, iv (zc - (65 : Int32)), .unset, .unset] [(.int 0)])) (fun t k => XS.iconst X23.here hx rfl (hb hby at_104) k) ?_
            refine Go.pull (V := T23.setTop (mkF m 107 #[iv pk, iv px, iv pf, iv 1, iv zc, rv r_IbanRegistry_Kind_LETTER, iv (zc - (48 : Int32)), iv 1, iv (zc - (65 : Int32)), iv 0, .unset] [])) (fun t k => XS.istore X23.here hx rfl (hb hby at_105) rfl (l' := #[iv pk, iv px, iv pf, iv 1, iv zc, rv r_IbanRegistry_Kind_LETTER, iv (zc - (48 : Int32)), iv 1, iv (zc - (65 : Int32)), iv 0, .unset]) rfl k) ?_
            refine Go.pull (V := T23.setTop (mkF m 108 #[iv pk, iv px, iv pf, iv 1, iv zc, rv r_IbanRegistry_Kind_LETTER, iv (zc - (48 : Int32)), iv 1, iv (zc - (65 : Int32)), iv 0, .unset] [(.int 1)])) (fun t k => XS.iloadN X23.here hx rfl (hb hby at_107) rfl  k) ?_
            refine Go.pull (V := T23.setTop (mkF m 118 #[iv pk, iv px, iv pf, iv 1, iv zc, rv r_IbanRegistry_Kind_LETTER, iv (zc - (48 : Int32)), iv 1, iv (zc - (65 : Int32)), iv 0, .unset] [])) (fun t k => XS.ifYes X23.here hx rfl (pc0 := 108) (pc' := 118) rfl (hb hby at_108) rfl (XT.i0_ne_t (by decide)) (by decide) (by decide) k) ?_
            refine Go.pull (V := T23.setTop (mkF m 119 #[iv pk, iv px, iv pf, iv 1, iv zc, rv r_IbanRegistry_Kind_LETTER, iv (zc - (48 : Int32)), iv 1, iv (zc - (65 : Int32)), iv 0, .unset] [(.int 1)])) (fun t k => XS.iloadN X23.here hx rfl (hb hby at_118) rfl  k) ?_
            refine Go.pull (V := T23.setTop (mkF m 120 #[iv pk, iv px, iv pf, iv 1, iv zc, rv r_IbanRegistry_Kind_LETTER, iv (zc - (48 : Int32)), iv 1, iv (zc - (65 : Int32)), iv 0, .unset] [(.int 1), (.int 1)])) (fun t k => XS.iconst X23.here hx rfl (hb hby at_119) k) ?_
            refine Go.pull (V := T23.setTop (mkF m 123 #[iv pk, iv px, iv pf, iv 1, iv zc, rv r_IbanRegistry_Kind_LETTER, iv (zc - (48 : Int32)), iv 1, iv (zc - (65 : Int32)), iv 0, .unset] [])) (fun t k => XS.icmpNo X23.here hx rfl (hb hby at_120) rfl (XT.ii_ne_f (by decide)) k) ?_
            refine Go.pull (V := T23.setTop (mkF m 125 #[iv pk, iv px, iv pf, iv 1, iv zc, rv r_IbanRegistry_Kind_LETTER, iv (zc - (48 : Int32)), iv 1, iv (zc - (65 : Int32)), iv 0, .unset] [(.int 0)])) (fun t k => XS.iload X23.here hx rfl (hb hby at_123) rfl  k) ?_
            refine Go.pull (V := T23.setTop (mkF m 127 #[iv pk, iv px, iv pf, iv 1, iv zc, rv r_IbanRegistry_Kind_LETTER, iv (zc - (48 : Int32)), iv 1, iv (zc - (65 : Int32)), iv 0, iv 0] [])) (fun t k => XS.istore X23.here hx rfl (hb hby at_125) rfl (l' := #[iv pk, iv px, iv pf, iv 1, iv zc, rv r_IbanRegistry_Kind_LETTER, iv (zc - (48 : Int32)), iv 1, iv (zc - (65 : Int32)), iv 0, iv 0]) rfl k) ?_
            refine Go.pull (V := T23.setTop (mkF m 147 #[iv pk, iv px, iv pf, iv 1, iv zc, rv r_IbanRegistry_Kind_LETTER, iv (zc - (48 : Int32)), iv 1, iv (zc - (65 : Int32)), iv 0, iv 0] [])) (fun t k => XS.goto X23.here hx rfl (pc0 := 127) (pc' := 147) rfl (hb hby at_127) (by decide) (by decide) k) ?_
            refine Go.pull (V := T23.setTop (mkF m 149 #[iv pk, iv px, iv pf, iv 1, iv zc, rv r_IbanRegistry_Kind_LETTER, iv (zc - (48 : Int32)), iv 1, iv (zc - (65 : Int32)), iv 0, iv 0] [(.ref r_IbanRegistry_Kind_LETTER)])) (fun t k => XS.aload X23.here hx rfl (hb hby at_147) rfl rfl k) ?_
            refine Go.pull (V := T23.setTop (mkF m 151 #[iv pk, iv px, iv pf, iv 1, iv zc, rv r_IbanRegistry_Kind_LETTER, iv (zc - (48 : Int32)), iv 1, iv (zc - (65 : Int32)), iv 0, iv 0] [(.int zc), (.ref r_IbanRegistry_Kind_LETTER)])) (fun t k => XS.iload X23.here hx rfl (hb hby at_149) rfl  k) ?_
            obtain ⟨cq37, kq37, q37a, q37b, q37c⟩ := isOf hZ e23 E_r_IbanRegistry_Kind_LETTER
            obtain ⟨_, _, ⟨T37, L37, k37, n37⟩, -, X37, ⟨Lc37, hQ37, l37, y37, z37⟩, st37⟩ := X23.virtualBack hx (y := (⟨"com/example/disburse/disburse/core/IbanRegistry$Kind", "admits", "(C)Z"⟩ : MethodName)) (z := (⟨"com/example/disburse/disburse/core/IbanRegistry$Kind", "admits", "(C)Z"⟩ : MethodName)) hown (mvT hZ (hw _ (List.mem_of_getElem? (i := 4) rfl))) (mvT hZ (hw _ (List.mem_of_getElem? (i := 5) rfl))) (notFace_of_selects (args := #[]) (mvT hZ (hw _ (List.mem_of_getElem? (i := 7) rfl)))) (mvT hZ (hw _ (List.mem_of_getElem? (i := 7) rfl))) (mvT hZ (hw _ (List.mem_of_getElem? (i := 6) rfl))) (by decide) (backOf (W := 0) (rmA1 l Z a0 hw [] r_IbanRegistry_Kind_LETTER zc h0 n0 E_r_IbanRegistry_Kind_LETTER F_r_IbanRegistry_Kind_LETTER_ordinal) hZ (hw _ (List.mem_of_getElem? (i := 8) rfl)) (hw _ (List.mem_of_getElem? (i := 2) rfl)) (by decide) (by decide)) q37a q37c (g := (mkF m 151 #[iv pk, iv px, iv pf, iv 1, iv zc, rv r_IbanRegistry_Kind_LETTER, iv (zc - (48 : Int32)), iv 1, iv (zc - (65 : Int32)), iv 0, iv 0] [(.int zc), (.ref r_IbanRegistry_Kind_LETTER)])) rfl (by rw [hml]; rfl) (Steps.refl _) (argsL := [(.int zc)]) (rest := []) (lenOf pd_1 rfl) rfl (by show 2 * 0 + _ ≤ _; exact Nat.le_of_eq rfl) (hb hby at_151) (fun _ _ => ⟨rfl, e23, (by decide : 0 + 0 ≤ _), (by decide : 0 + 0 ≤ _)⟩)
            dsimp only [Pt.U, Pt.locs, Pt.cells, Pt.slots] at X37 l37 y37 z37 st37 hQ37
            subst l37 y37 z37
            obtain ⟨hv37, N37q, e37⟩ := hQ37
            rw [(show (own_let zc) = (0 : Int32) from by rw [own_let, if_pos hp36])] at hv37; subst hv37
            have N37 := Fr.app N0 N37q
            refine Go.pull (V := T37.setTop (mkF m 154 #[iv pk, iv px, iv pf, iv 1, iv zc, rv r_IbanRegistry_Kind_LETTER, iv (zc - (48 : Int32)), iv 1, iv (zc - (65 : Int32)), iv 0, iv 0] [(.int 0)])) (fun _ k => st37.trans k) ?_
            refine Go.pull (V := T37.setTop (mkF m 156 #[iv pk, iv px, iv pf, iv 1, iv zc, rv r_IbanRegistry_Kind_LETTER, iv (zc - (48 : Int32)), iv 1, iv (zc - (65 : Int32)), iv 0, iv 0] [(.int 0), (.int 0)])) (fun t k => XS.iload X37.here hx rfl (hb hby at_154) rfl  k) ?_
            refine Go.pull (V := T37.setTop (mkF m 159 #[iv pk, iv px, iv pf, iv 1, iv zc, rv r_IbanRegistry_Kind_LETTER, iv (zc - (48 : Int32)), iv 1, iv (zc - (65 : Int32)), iv 0, iv 0] [])) (fun t k => XS.icmpNo X37.here hx rfl (hb hby at_156) rfl (XT.ii_ne_f (by decide)) k) ?_
            refine Go.pull (V := T37.setTop (mkF m 160 #[iv pk, iv px, iv pf, iv 1, iv zc, rv r_IbanRegistry_Kind_LETTER, iv (zc - (48 : Int32)), iv 1, iv (zc - (65 : Int32)), iv 0, iv 0] [(.int 1)])) (fun t k => XS.iconst X37.here hx rfl (hb hby at_159) k) ?_
            refine Go.pull (V := T37.setTop (mkF m 164 #[iv pk, iv px, iv pf, iv 1, iv zc, rv r_IbanRegistry_Kind_LETTER, iv (zc - (48 : Int32)), iv 1, iv (zc - (65 : Int32)), iv 0, iv 0] [(.int 1)])) (fun t k => XS.goto X37.here hx rfl (pc0 := 160) (pc' := 164) rfl (hb hby at_160) (by decide) (by decide) k) ?_
            exact Go.retN X37 hx Bd.notSynchronized (t := .boolean) Bd.returns (by simp) (hb hby at_164) ⟨rfl, N37⟩ (by decide) (by decide)
          · skip
            refine Go.pull (V := T23.setTop (mkF m 93 #[iv pk, iv px, iv pf, iv 1, iv zc, rv r_IbanRegistry_Kind_LETTER, iv (zc - (48 : Int32)), iv 1, iv (zc - (65 : Int32)), .unset, .unset] [])) (fun t k => XS.ifNo X23.here hx rfl (hb hby at_90) rfl (XT.i0_lt_f (fun q => hp36 ((own_a (k := 65) hzc (by decide) (by decide)).mp q))) k) ?_
            refine Go.pull (V := T23.setTop (mkF m 95 #[iv pk, iv px, iv pf, iv 1, iv zc, rv r_IbanRegistry_Kind_LETTER, iv (zc - (48 : Int32)), iv 1, iv (zc - (65 : Int32)), .unset, .unset] [(.int (zc - (65 : Int32)))])) (fun t k => XS.iload X23.here hx rfl (hb hby at_93) rfl  k) ?_
            refine Go.pull (V := T23.setTop (mkF m 97 #[iv pk, iv px, iv pf, iv 1, iv zc, rv r_IbanRegistry_Kind_LETTER, iv (zc - (48 : Int32)), iv 1, iv (zc - (65 : Int32)), .unset, .unset] [(.int 26), (.int (zc - (65 : Int32)))])) (fun t k => XS.bipush X23.here hx rfl (hb hby at_95) k) ?_
            by_cases hp38 : (90 : Int32) < zc
            · skip
              refine Go.pull (V := T23.setTop (mkF m 104 #[iv pk, iv px, iv pf, iv 1, iv zc, rv r_IbanRegistry_Kind_LETTER, iv (zc - (48 : Int32)), iv 1, iv (zc - (65 : Int32)), .unset, .unset] [])) (fun t k => XS.icmpYes X23.here hx rfl (pc0 := 97) (pc' := 104) rfl (hb hby at_97) rfl (XT.ii_ge_t (fun q => (own_b (k := 90) hzc (by decide) (by decide)).mp q hp38)) (by decide) (by decide) k) ?_
              refine Go.pull (V := T23.setTop (mkF m 105 #[iv pk, iv px, iv pf, iv 1, iv zc, rv r_IbanRegistry_Kind_LETTER, iv (zc - (48 : Int32)), iv 1, iv (zc - (65 : Int32)), .unset, .unset] [(.int 0)])) (fun t k => XS.iconst X23.here hx rfl (hb hby at_104) k) ?_
              refine Go.pull (V := T23.setTop (mkF m 107 #[iv pk, iv px, iv pf, iv 1, iv zc, rv r_IbanRegistry_Kind_LETTER, iv (zc - (48 : Int32)), iv 1, iv (zc - (65 : Int32)), iv 0, .unset] [])) (fun t k => XS.istore X23.here hx rfl (hb hby at_105) rfl (l' := #[iv pk, iv px, iv pf, iv 1, iv zc, rv r_IbanRegistry_Kind_LETTER, iv (zc - (48 : Int32)), iv 1, iv (zc - (65 : Int32)), iv 0, .unset]) rfl k) ?_
              refine Go.pull (V := T23.setTop (mkF m 108 #[iv pk, iv px, iv pf, iv 1, iv zc, rv r_IbanRegistry_Kind_LETTER, iv (zc - (48 : Int32)), iv 1, iv (zc - (65 : Int32)), iv 0, .unset] [(.int 1)])) (fun t k => XS.iloadN X23.here hx rfl (hb hby at_107) rfl  k) ?_
              refine Go.pull (V := T23.setTop (mkF m 118 #[iv pk, iv px, iv pf, iv 1, iv zc, rv r_IbanRegistry_Kind_LETTER, iv (zc - (48 : Int32)), iv 1, iv (zc - (65 : Int32)), iv 0, .unset] [])) (fun t k => XS.ifYes X23.here hx rfl (pc0 := 108) (pc' := 118) rfl (hb hby at_108) rfl (XT.i0_ne_t (by decide)) (by decide) (by decide) k) ?_
              refine Go.pull (V := T23.setTop (mkF m 119 #[iv pk, iv px, iv pf, iv 1, iv zc, rv r_IbanRegistry_Kind_LETTER, iv (zc - (48 : Int32)), iv 1, iv (zc - (65 : Int32)), iv 0, .unset] [(.int 1)])) (fun t k => XS.iloadN X23.here hx rfl (hb hby at_118) rfl  k) ?_
              refine Go.pull (V := T23.setTop (mkF m 120 #[iv pk, iv px, iv pf, iv 1, iv zc, rv r_IbanRegistry_Kind_LETTER, iv (zc - (48 : Int32)), iv 1, iv (zc - (65 : Int32)), iv 0, .unset] [(.int 1), (.int 1)])) (fun t k => XS.iconst X23.here hx rfl (hb hby at_119) k) ?_
              refine Go.pull (V := T23.setTop (mkF m 123 #[iv pk, iv px, iv pf, iv 1, iv zc, rv r_IbanRegistry_Kind_LETTER, iv (zc - (48 : Int32)), iv 1, iv (zc - (65 : Int32)), iv 0, .unset] [])) (fun t k => XS.icmpNo X23.here hx rfl (hb hby at_120) rfl (XT.ii_ne_f (by decide)) k) ?_
              refine Go.pull (V := T23.setTop (mkF m 125 #[iv pk, iv px, iv pf, iv 1, iv zc, rv r_IbanRegistry_Kind_LETTER, iv (zc - (48 : Int32)), iv 1, iv (zc - (65 : Int32)), iv 0, .unset] [(.int 0)])) (fun t k => XS.iload X23.here hx rfl (hb hby at_123) rfl  k) ?_
              refine Go.pull (V := T23.setTop (mkF m 127 #[iv pk, iv px, iv pf, iv 1, iv zc, rv r_IbanRegistry_Kind_LETTER, iv (zc - (48 : Int32)), iv 1, iv (zc - (65 : Int32)), iv 0, iv 0] [])) (fun t k => XS.istore X23.here hx rfl (hb hby at_125) rfl (l' := #[iv pk, iv px, iv pf, iv 1, iv zc, rv r_IbanRegistry_Kind_LETTER, iv (zc - (48 : Int32)), iv 1, iv (zc - (65 : Int32)), iv 0, iv 0]) rfl k) ?_
              refine Go.pull (V := T23.setTop (mkF m 147 #[iv pk, iv px, iv pf, iv 1, iv zc, rv r_IbanRegistry_Kind_LETTER, iv (zc - (48 : Int32)), iv 1, iv (zc - (65 : Int32)), iv 0, iv 0] [])) (fun t k => XS.goto X23.here hx rfl (pc0 := 127) (pc' := 147) rfl (hb hby at_127) (by decide) (by decide) k) ?_
              refine Go.pull (V := T23.setTop (mkF m 149 #[iv pk, iv px, iv pf, iv 1, iv zc, rv r_IbanRegistry_Kind_LETTER, iv (zc - (48 : Int32)), iv 1, iv (zc - (65 : Int32)), iv 0, iv 0] [(.ref r_IbanRegistry_Kind_LETTER)])) (fun t k => XS.aload X23.here hx rfl (hb hby at_147) rfl rfl k) ?_
              refine Go.pull (V := T23.setTop (mkF m 151 #[iv pk, iv px, iv pf, iv 1, iv zc, rv r_IbanRegistry_Kind_LETTER, iv (zc - (48 : Int32)), iv 1, iv (zc - (65 : Int32)), iv 0, iv 0] [(.int zc), (.ref r_IbanRegistry_Kind_LETTER)])) (fun t k => XS.iload X23.here hx rfl (hb hby at_149) rfl  k) ?_
              obtain ⟨cq39, kq39, q39a, q39b, q39c⟩ := isOf hZ e23 E_r_IbanRegistry_Kind_LETTER
              obtain ⟨_, _, ⟨T39, L39, k39, n39⟩, -, X39, ⟨Lc39, hQ39, l39, y39, z39⟩, st39⟩ := X23.virtualBack hx (y := (⟨"com/example/disburse/disburse/core/IbanRegistry$Kind", "admits", "(C)Z"⟩ : MethodName)) (z := (⟨"com/example/disburse/disburse/core/IbanRegistry$Kind", "admits", "(C)Z"⟩ : MethodName)) hown (mvT hZ (hw _ (List.mem_of_getElem? (i := 4) rfl))) (mvT hZ (hw _ (List.mem_of_getElem? (i := 5) rfl))) (notFace_of_selects (args := #[]) (mvT hZ (hw _ (List.mem_of_getElem? (i := 7) rfl)))) (mvT hZ (hw _ (List.mem_of_getElem? (i := 7) rfl))) (mvT hZ (hw _ (List.mem_of_getElem? (i := 6) rfl))) (by decide) (backOf (W := 0) (rmA1 l Z a0 hw [] r_IbanRegistry_Kind_LETTER zc h0 n0 E_r_IbanRegistry_Kind_LETTER F_r_IbanRegistry_Kind_LETTER_ordinal) hZ (hw _ (List.mem_of_getElem? (i := 8) rfl)) (hw _ (List.mem_of_getElem? (i := 2) rfl)) (by decide) (by decide)) q39a q39c (g := (mkF m 151 #[iv pk, iv px, iv pf, iv 1, iv zc, rv r_IbanRegistry_Kind_LETTER, iv (zc - (48 : Int32)), iv 1, iv (zc - (65 : Int32)), iv 0, iv 0] [(.int zc), (.ref r_IbanRegistry_Kind_LETTER)])) rfl (by rw [hml]; rfl) (Steps.refl _) (argsL := [(.int zc)]) (rest := []) (lenOf pd_1 rfl) rfl (by show 2 * 0 + _ ≤ _; exact Nat.le_of_eq rfl) (hb hby at_151) (fun _ _ => ⟨rfl, e23, (by decide : 0 + 0 ≤ _), (by decide : 0 + 0 ≤ _)⟩)
              dsimp only [Pt.U, Pt.locs, Pt.cells, Pt.slots] at X39 l39 y39 z39 st39 hQ39
              subst l39 y39 z39
              obtain ⟨hv39, N39q, e39⟩ := hQ39
              rw [(show (own_let zc) = (0 : Int32) from by rw [own_let, if_neg hp36, if_pos hp38])] at hv39; subst hv39
              have N39 := Fr.app N0 N39q
              refine Go.pull (V := T39.setTop (mkF m 154 #[iv pk, iv px, iv pf, iv 1, iv zc, rv r_IbanRegistry_Kind_LETTER, iv (zc - (48 : Int32)), iv 1, iv (zc - (65 : Int32)), iv 0, iv 0] [(.int 0)])) (fun _ k => st39.trans k) ?_
              refine Go.pull (V := T39.setTop (mkF m 156 #[iv pk, iv px, iv pf, iv 1, iv zc, rv r_IbanRegistry_Kind_LETTER, iv (zc - (48 : Int32)), iv 1, iv (zc - (65 : Int32)), iv 0, iv 0] [(.int 0), (.int 0)])) (fun t k => XS.iload X39.here hx rfl (hb hby at_154) rfl  k) ?_
              refine Go.pull (V := T39.setTop (mkF m 159 #[iv pk, iv px, iv pf, iv 1, iv zc, rv r_IbanRegistry_Kind_LETTER, iv (zc - (48 : Int32)), iv 1, iv (zc - (65 : Int32)), iv 0, iv 0] [])) (fun t k => XS.icmpNo X39.here hx rfl (hb hby at_156) rfl (XT.ii_ne_f (by decide)) k) ?_
              refine Go.pull (V := T39.setTop (mkF m 160 #[iv pk, iv px, iv pf, iv 1, iv zc, rv r_IbanRegistry_Kind_LETTER, iv (zc - (48 : Int32)), iv 1, iv (zc - (65 : Int32)), iv 0, iv 0] [(.int 1)])) (fun t k => XS.iconst X39.here hx rfl (hb hby at_159) k) ?_
              refine Go.pull (V := T39.setTop (mkF m 164 #[iv pk, iv px, iv pf, iv 1, iv zc, rv r_IbanRegistry_Kind_LETTER, iv (zc - (48 : Int32)), iv 1, iv (zc - (65 : Int32)), iv 0, iv 0] [(.int 1)])) (fun t k => XS.goto X39.here hx rfl (pc0 := 160) (pc' := 164) rfl (hb hby at_160) (by decide) (by decide) k) ?_
              exact Go.retN X39 hx Bd.notSynchronized (t := .boolean) Bd.returns (by simp) (hb hby at_164) ⟨rfl, N39⟩ (by decide) (by decide)
            · skip
              refine Go.pull (V := T23.setTop (mkF m 100 #[iv pk, iv px, iv pf, iv 1, iv zc, rv r_IbanRegistry_Kind_LETTER, iv (zc - (48 : Int32)), iv 1, iv (zc - (65 : Int32)), .unset, .unset] [])) (fun t k => XS.icmpNo X23.here hx rfl (hb hby at_97) rfl (XT.ii_ge_f ((own_b (k := 90) hzc (by decide) (by decide)).mpr hp38)) k) ?_
              refine Go.pull (V := T23.setTop (mkF m 101 #[iv pk, iv px, iv pf, iv 1, iv zc, rv r_IbanRegistry_Kind_LETTER, iv (zc - (48 : Int32)), iv 1, iv (zc - (65 : Int32)), .unset, .unset] [(.int 1)])) (fun t k => XS.iconst X23.here hx rfl (hb hby at_100) k) ?_
              refine Go.pull (V := T23.setTop (mkF m 105 #[iv pk, iv px, iv pf, iv 1, iv zc, rv r_IbanRegistry_Kind_LETTER, iv (zc - (48 : Int32)), iv 1, iv (zc - (65 : Int32)), .unset, .unset] [(.int 1)])) (fun t k => XS.goto X23.here hx rfl (pc0 := 101) (pc' := 105) rfl (hb hby at_101) (by decide) (by decide) k) ?_
              refine Go.pull (V := T23.setTop (mkF m 107 #[iv pk, iv px, iv pf, iv 1, iv zc, rv r_IbanRegistry_Kind_LETTER, iv (zc - (48 : Int32)), iv 1, iv (zc - (65 : Int32)), iv 1, .unset] [])) (fun t k => XS.istore X23.here hx rfl (hb hby at_105) rfl (l' := #[iv pk, iv px, iv pf, iv 1, iv zc, rv r_IbanRegistry_Kind_LETTER, iv (zc - (48 : Int32)), iv 1, iv (zc - (65 : Int32)), iv 1, .unset]) rfl k) ?_
              refine Go.pull (V := T23.setTop (mkF m 108 #[iv pk, iv px, iv pf, iv 1, iv zc, rv r_IbanRegistry_Kind_LETTER, iv (zc - (48 : Int32)), iv 1, iv (zc - (65 : Int32)), iv 1, .unset] [(.int 1)])) (fun t k => XS.iloadN X23.here hx rfl (hb hby at_107) rfl  k) ?_
              refine Go.pull (V := T23.setTop (mkF m 118 #[iv pk, iv px, iv pf, iv 1, iv zc, rv r_IbanRegistry_Kind_LETTER, iv (zc - (48 : Int32)), iv 1, iv (zc - (65 : Int32)), iv 1, .unset] [])) (fun t k => XS.ifYes X23.here hx rfl (pc0 := 108) (pc' := 118) rfl (hb hby at_108) rfl (XT.i0_ne_t (by decide)) (by decide) (by decide) k) ?_
              refine Go.pull (V := T23.setTop (mkF m 119 #[iv pk, iv px, iv pf, iv 1, iv zc, rv r_IbanRegistry_Kind_LETTER, iv (zc - (48 : Int32)), iv 1, iv (zc - (65 : Int32)), iv 1, .unset] [(.int 1)])) (fun t k => XS.iloadN X23.here hx rfl (hb hby at_118) rfl  k) ?_
              refine Go.pull (V := T23.setTop (mkF m 120 #[iv pk, iv px, iv pf, iv 1, iv zc, rv r_IbanRegistry_Kind_LETTER, iv (zc - (48 : Int32)), iv 1, iv (zc - (65 : Int32)), iv 1, .unset] [(.int 1), (.int 1)])) (fun t k => XS.iconst X23.here hx rfl (hb hby at_119) k) ?_
              refine Go.pull (V := T23.setTop (mkF m 123 #[iv pk, iv px, iv pf, iv 1, iv zc, rv r_IbanRegistry_Kind_LETTER, iv (zc - (48 : Int32)), iv 1, iv (zc - (65 : Int32)), iv 1, .unset] [])) (fun t k => XS.icmpNo X23.here hx rfl (hb hby at_120) rfl (XT.ii_ne_f (by decide)) k) ?_
              refine Go.pull (V := T23.setTop (mkF m 125 #[iv pk, iv px, iv pf, iv 1, iv zc, rv r_IbanRegistry_Kind_LETTER, iv (zc - (48 : Int32)), iv 1, iv (zc - (65 : Int32)), iv 1, .unset] [(.int 1)])) (fun t k => XS.iload X23.here hx rfl (hb hby at_123) rfl  k) ?_
              refine Go.pull (V := T23.setTop (mkF m 127 #[iv pk, iv px, iv pf, iv 1, iv zc, rv r_IbanRegistry_Kind_LETTER, iv (zc - (48 : Int32)), iv 1, iv (zc - (65 : Int32)), iv 1, iv 1] [])) (fun t k => XS.istore X23.here hx rfl (hb hby at_125) rfl (l' := #[iv pk, iv px, iv pf, iv 1, iv zc, rv r_IbanRegistry_Kind_LETTER, iv (zc - (48 : Int32)), iv 1, iv (zc - (65 : Int32)), iv 1, iv 1]) rfl k) ?_
              refine Go.pull (V := T23.setTop (mkF m 147 #[iv pk, iv px, iv pf, iv 1, iv zc, rv r_IbanRegistry_Kind_LETTER, iv (zc - (48 : Int32)), iv 1, iv (zc - (65 : Int32)), iv 1, iv 1] [])) (fun t k => XS.goto X23.here hx rfl (pc0 := 127) (pc' := 147) rfl (hb hby at_127) (by decide) (by decide) k) ?_
              refine Go.pull (V := T23.setTop (mkF m 149 #[iv pk, iv px, iv pf, iv 1, iv zc, rv r_IbanRegistry_Kind_LETTER, iv (zc - (48 : Int32)), iv 1, iv (zc - (65 : Int32)), iv 1, iv 1] [(.ref r_IbanRegistry_Kind_LETTER)])) (fun t k => XS.aload X23.here hx rfl (hb hby at_147) rfl rfl k) ?_
              refine Go.pull (V := T23.setTop (mkF m 151 #[iv pk, iv px, iv pf, iv 1, iv zc, rv r_IbanRegistry_Kind_LETTER, iv (zc - (48 : Int32)), iv 1, iv (zc - (65 : Int32)), iv 1, iv 1] [(.int zc), (.ref r_IbanRegistry_Kind_LETTER)])) (fun t k => XS.iload X23.here hx rfl (hb hby at_149) rfl  k) ?_
              obtain ⟨cq40, kq40, q40a, q40b, q40c⟩ := isOf hZ e23 E_r_IbanRegistry_Kind_LETTER
              obtain ⟨_, _, ⟨T40, L40, k40, n40⟩, -, X40, ⟨Lc40, hQ40, l40, y40, z40⟩, st40⟩ := X23.virtualBack hx (y := (⟨"com/example/disburse/disburse/core/IbanRegistry$Kind", "admits", "(C)Z"⟩ : MethodName)) (z := (⟨"com/example/disburse/disburse/core/IbanRegistry$Kind", "admits", "(C)Z"⟩ : MethodName)) hown (mvT hZ (hw _ (List.mem_of_getElem? (i := 4) rfl))) (mvT hZ (hw _ (List.mem_of_getElem? (i := 5) rfl))) (notFace_of_selects (args := #[]) (mvT hZ (hw _ (List.mem_of_getElem? (i := 7) rfl)))) (mvT hZ (hw _ (List.mem_of_getElem? (i := 7) rfl))) (mvT hZ (hw _ (List.mem_of_getElem? (i := 6) rfl))) (by decide) (backOf (W := 0) (rmA1 l Z a0 hw [] r_IbanRegistry_Kind_LETTER zc h0 n0 E_r_IbanRegistry_Kind_LETTER F_r_IbanRegistry_Kind_LETTER_ordinal) hZ (hw _ (List.mem_of_getElem? (i := 8) rfl)) (hw _ (List.mem_of_getElem? (i := 2) rfl)) (by decide) (by decide)) q40a q40c (g := (mkF m 151 #[iv pk, iv px, iv pf, iv 1, iv zc, rv r_IbanRegistry_Kind_LETTER, iv (zc - (48 : Int32)), iv 1, iv (zc - (65 : Int32)), iv 1, iv 1] [(.int zc), (.ref r_IbanRegistry_Kind_LETTER)])) rfl (by rw [hml]; rfl) (Steps.refl _) (argsL := [(.int zc)]) (rest := []) (lenOf pd_1 rfl) rfl (by show 2 * 0 + _ ≤ _; exact Nat.le_of_eq rfl) (hb hby at_151) (fun _ _ => ⟨rfl, e23, (by decide : 0 + 0 ≤ _), (by decide : 0 + 0 ≤ _)⟩)
              dsimp only [Pt.U, Pt.locs, Pt.cells, Pt.slots] at X40 l40 y40 z40 st40 hQ40
              subst l40 y40 z40
              obtain ⟨hv40, N40q, e40⟩ := hQ40
              rw [(show (own_let zc) = (1 : Int32) from by rw [own_let, if_neg hp36, if_neg hp38])] at hv40; subst hv40
              have N40 := Fr.app N0 N40q
              refine Go.pull (V := T40.setTop (mkF m 154 #[iv pk, iv px, iv pf, iv 1, iv zc, rv r_IbanRegistry_Kind_LETTER, iv (zc - (48 : Int32)), iv 1, iv (zc - (65 : Int32)), iv 1, iv 1] [(.int 1)])) (fun _ k => st40.trans k) ?_
              refine Go.pull (V := T40.setTop (mkF m 156 #[iv pk, iv px, iv pf, iv 1, iv zc, rv r_IbanRegistry_Kind_LETTER, iv (zc - (48 : Int32)), iv 1, iv (zc - (65 : Int32)), iv 1, iv 1] [(.int 1), (.int 1)])) (fun t k => XS.iload X40.here hx rfl (hb hby at_154) rfl  k) ?_
              refine Go.pull (V := T40.setTop (mkF m 159 #[iv pk, iv px, iv pf, iv 1, iv zc, rv r_IbanRegistry_Kind_LETTER, iv (zc - (48 : Int32)), iv 1, iv (zc - (65 : Int32)), iv 1, iv 1] [])) (fun t k => XS.icmpNo X40.here hx rfl (hb hby at_156) rfl (XT.ii_ne_f (by decide)) k) ?_
              refine Go.pull (V := T40.setTop (mkF m 160 #[iv pk, iv px, iv pf, iv 1, iv zc, rv r_IbanRegistry_Kind_LETTER, iv (zc - (48 : Int32)), iv 1, iv (zc - (65 : Int32)), iv 1, iv 1] [(.int 1)])) (fun t k => XS.iconst X40.here hx rfl (hb hby at_159) k) ?_
              refine Go.pull (V := T40.setTop (mkF m 164 #[iv pk, iv px, iv pf, iv 1, iv zc, rv r_IbanRegistry_Kind_LETTER, iv (zc - (48 : Int32)), iv 1, iv (zc - (65 : Int32)), iv 1, iv 1] [(.int 1)])) (fun t k => XS.goto X40.here hx rfl (pc0 := 160) (pc' := 164) rfl (hb hby at_160) (by decide) (by decide) k) ?_
              exact Go.retN X40 hx Bd.notSynchronized (t := .boolean) Bd.returns (by simp) (hb hby at_164) ⟨rfl, N40⟩ (by decide) (by decide)
    refine Go.pull (V := s₁.setTop (mkF m 8 #[iv pk, iv px, iv pf, iv 1, .unset, .unset, .unset, .unset, .unset, .unset, .unset] [(.int pf)])) (fun t k => XS.iloadN X0.here hx rfl (hb hby at_7) rfl  k) ?_
    refine Go.pull (V := s₁.setTop (mkF m 9 #[iv pk, iv px, iv pf, iv 1, .unset, .unset, .unset, .unset, .unset, .unset, .unset] [(.int 1), (.int pf)])) (fun t k => XS.iconst X0.here hx rfl (hb hby at_8) k) ?_
    refine Go.pull (V := s₁.setTop (mkF m 10 #[iv pk, iv px, iv pf, iv 1, .unset, .unset, .unset, .unset, .unset, .unset, .unset] [(.int (pf &&& (1 : Int32)))])) (fun t k => XS.iand X0.here hx rfl (hb hby at_9) rfl k) ?_
    by_cases hc10_41 : (pf &&& (1 : Int32)) = 0
    · skip
      refine Go.pull (V := s₁.setTop (mkF m 21 #[iv pk, iv px, iv pf, iv 1, .unset, .unset, .unset, .unset, .unset, .unset, .unset] [])) (fun t k => XS.ifYes X0.here hx rfl (pc0 := 10) (pc' := 21) rfl (hb hby at_10) rfl (XT.i0_eq_t hc10_41) (by decide) (by decide) k) ?_
      refine Go.pull (V := s₁.setTop (mkF m 22 #[iv pk, iv px, iv pf, iv 1, .unset, .unset, .unset, .unset, .unset, .unset, .unset] [(.int px)])) (fun t k => XS.iloadN X0.here hx rfl (hb hby at_21) rfl  k) ?_
      refine Go.pull (V := s₁.setTop (mkF m 23 #[iv pk, iv px, iv pf, iv 1, .unset, .unset, .unset, .unset, .unset, .unset, .unset] [(.int (px.toUInt32.toUInt16.toUInt32.toInt32))])) (fun t k => XS.i2c X0.here hx rfl (hb hby at_22) rfl k) ?_
      refine Go.pull (V := s₁.setTop (mkF m 25 #[iv pk, iv px, iv pf, iv 1, iv (px.toUInt32.toUInt16.toUInt32.toInt32), .unset, .unset, .unset, .unset, .unset, .unset] [])) (fun t k => XS.istore X0.here hx rfl (hb hby at_23) rfl (l' := #[iv pk, iv px, iv pf, iv 1, iv (px.toUInt32.toUInt16.toUInt32.toInt32), .unset, .unset, .unset, .unset, .unset, .unset]) rfl k) ?_
      exact J25_22 ((px.toUInt32.toUInt16.toUInt32.toInt32)) (own_chr _)
    · skip
      refine Go.pull (V := s₁.setTop (mkF m 13 #[iv pk, iv px, iv pf, iv 1, .unset, .unset, .unset, .unset, .unset, .unset, .unset] [])) (fun t k => XS.ifNo X0.here hx rfl (hb hby at_10) rfl (XT.i0_eq_f hc10_41) k) ?_
      refine Go.pull (V := s₁.setTop (mkF m 14 #[iv pk, iv px, iv pf, iv 1, .unset, .unset, .unset, .unset, .unset, .unset, .unset] [(.int px)])) (fun t k => XS.iloadN X0.here hx rfl (hb hby at_13) rfl  k) ?_
      refine Go.pull (V := s₁.setTop (mkF m 16 #[iv pk, iv px, iv pf, iv 1, .unset, .unset, .unset, .unset, .unset, .unset, .unset] [(.int 127), (.int px)])) (fun t k => XS.bipush X0.here hx rfl (hb hby at_14) k) ?_
      refine Go.pull (V := s₁.setTop (mkF m 17 #[iv pk, iv px, iv pf, iv 1, .unset, .unset, .unset, .unset, .unset, .unset, .unset] [(.int (px &&& (127 : Int32)))])) (fun t k => XS.iand X0.here hx rfl (hb hby at_16) rfl k) ?_
      refine Go.pull (V := s₁.setTop (mkF m 18 #[iv pk, iv px, iv pf, iv 1, .unset, .unset, .unset, .unset, .unset, .unset, .unset] [(.int ((px &&& (127 : Int32)).toUInt32.toUInt16.toUInt32.toInt32))])) (fun t k => XS.i2c X0.here hx rfl (hb hby at_17) rfl k) ?_
      refine Go.pull (V := s₁.setTop (mkF m 23 #[iv pk, iv px, iv pf, iv 1, .unset, .unset, .unset, .unset, .unset, .unset, .unset] [(.int ((px &&& (127 : Int32)).toUInt32.toUInt16.toUInt32.toInt32))])) (fun t k => XS.goto X0.here hx rfl (pc0 := 18) (pc' := 23) rfl (hb hby at_18) (by decide) (by decide) k) ?_
      refine Go.pull (V := s₁.setTop (mkF m 25 #[iv pk, iv px, iv pf, iv 1, iv ((px &&& (127 : Int32)).toUInt32.toUInt16.toUInt32.toInt32), .unset, .unset, .unset, .unset, .unset, .unset] [])) (fun t k => XS.istore X0.here hx rfl (hb hby at_23) rfl (l' := #[iv pk, iv px, iv pf, iv 1, iv ((px &&& (127 : Int32)).toUInt32.toUInt16.toUInt32.toInt32), .unset, .unset, .unset, .unset, .unset, .unset]) rfl k) ?_
      exact J25_22 (((px &&& (127 : Int32)).toUInt32.toUInt16.toUInt32.toInt32)) (own_chr _)
  · subst hv1
    have J25_42 : ∀ (zc : Int32) (_ : 0 ≤ zc.toInt ∧ zc.toInt < 65536), Go p e below s (fun v h L => Q0 Z pk px pf r_IbanRegistry_Kind_DIGIT r_IbanRegistry_Kind_LETTER r_IbanRegistry_Kind_LETTER_OR_DIGIT h0 n0 v h L) 0 0 (s₁.setTop (mkF m 25 #[iv pk, iv px, iv pf, iv 2, iv zc, .unset, .unset, .unset, .unset, .unset, .unset] [])) := by
      intro zc hzc
      refine Go.pull (V := s₁.setTop (mkF m 26 #[iv pk, iv px, iv pf, iv 2, iv zc, .unset, .unset, .unset, .unset, .unset, .unset] [(.int 2)])) (fun t k => XS.iloadN X0.here hx rfl (hb hby at_25) rfl  k) ?_
      refine Go.pull (V := s₁.setTop (mkF m 37 #[iv pk, iv px, iv pf, iv 2, iv zc, .unset, .unset, .unset, .unset, .unset, .unset] [])) (fun t k => XS.ifYes X0.here hx rfl (pc0 := 26) (pc' := 37) rfl (hb hby at_26) rfl (XT.i0_ne_t (by decide)) (by decide) (by decide) k) ?_
      refine Go.pull (V := s₁.setTop (mkF m 38 #[iv pk, iv px, iv pf, iv 2, iv zc, .unset, .unset, .unset, .unset, .unset, .unset] [(.int 2)])) (fun t k => XS.iloadN X0.here hx rfl (hb hby at_37) rfl  k) ?_
      refine Go.pull (V := s₁.setTop (mkF m 39 #[iv pk, iv px, iv pf, iv 2, iv zc, .unset, .unset, .unset, .unset, .unset, .unset] [(.int 1), (.int 2)])) (fun t k => XS.iconst X0.here hx rfl (hb hby at_38) k) ?_
      refine Go.pull (V := s₁.setTop (mkF m 50 #[iv pk, iv px, iv pf, iv 2, iv zc, .unset, .unset, .unset, .unset, .unset, .unset] [])) (fun t k => XS.icmpYes X0.here hx rfl (pc0 := 39) (pc' := 50) rfl (hb hby at_39) rfl (XT.ii_ne_t (by decide)) (by decide) (by decide) k) ?_
      obtain ⟨T43, X43, e43, st43⟩ := getS2 X0 hx hZ hown (host := "") (Or.inl (hw _ (List.mem_of_getElem? (i := 20) rfl))) Via.refl e0 S_r_IbanRegistry_Kind_LETTER_OR_DIGIT (g := (mkF m 50 #[iv pk, iv px, iv pf, iv 2, iv zc, .unset, .unset, .unset, .unset, .unset, .unset] [])) rfl (hb hby at_50)
      refine Go.pull (V := T43.setTop (mkF m 53 #[iv pk, iv px, iv pf, iv 2, iv zc, .unset, .unset, .unset, .unset, .unset, .unset] [(.ref r_IbanRegistry_Kind_LETTER_OR_DIGIT)])) st43 ?_
      refine Go.pull (V := T43.setTop (mkF m 55 #[iv pk, iv px, iv pf, iv 2, iv zc, rv r_IbanRegistry_Kind_LETTER_OR_DIGIT, .unset, .unset, .unset, .unset, .unset] [])) (fun t k => XS.astore X43.here hx rfl (hb hby at_53) rfl rfl (l' := #[iv pk, iv px, iv pf, iv 2, iv zc, rv r_IbanRegistry_Kind_LETTER_OR_DIGIT, .unset, .unset, .unset, .unset, .unset]) rfl k) ?_
      refine Go.pull (V := T43.setTop (mkF m 57 #[iv pk, iv px, iv pf, iv 2, iv zc, rv r_IbanRegistry_Kind_LETTER_OR_DIGIT, .unset, .unset, .unset, .unset, .unset] [(.int zc)])) (fun t k => XS.iload X43.here hx rfl (hb hby at_55) rfl  k) ?_
      refine Go.pull (V := T43.setTop (mkF m 59 #[iv pk, iv px, iv pf, iv 2, iv zc, rv r_IbanRegistry_Kind_LETTER_OR_DIGIT, .unset, .unset, .unset, .unset, .unset] [(.int 48), (.int zc)])) (fun t k => XS.bipush X43.here hx rfl (hb hby at_57) k) ?_
      refine Go.pull (V := T43.setTop (mkF m 60 #[iv pk, iv px, iv pf, iv 2, iv zc, rv r_IbanRegistry_Kind_LETTER_OR_DIGIT, .unset, .unset, .unset, .unset, .unset] [(.int (zc - (48 : Int32)))])) (fun t k => XS.isub X43.here hx rfl (hb hby at_59) rfl k) ?_
      refine Go.pull (V := T43.setTop (mkF m 62 #[iv pk, iv px, iv pf, iv 2, iv zc, rv r_IbanRegistry_Kind_LETTER_OR_DIGIT, iv (zc - (48 : Int32)), .unset, .unset, .unset, .unset] [])) (fun t k => XS.istore X43.here hx rfl (hb hby at_60) rfl (l' := #[iv pk, iv px, iv pf, iv 2, iv zc, rv r_IbanRegistry_Kind_LETTER_OR_DIGIT, iv (zc - (48 : Int32)), .unset, .unset, .unset, .unset]) rfl k) ?_
      refine Go.pull (V := T43.setTop (mkF m 64 #[iv pk, iv px, iv pf, iv 2, iv zc, rv r_IbanRegistry_Kind_LETTER_OR_DIGIT, iv (zc - (48 : Int32)), .unset, .unset, .unset, .unset] [(.int (zc - (48 : Int32)))])) (fun t k => XS.iload X43.here hx rfl (hb hby at_62) rfl  k) ?_
      by_cases hp44 : zc < (48 : Int32)
      · skip
        refine Go.pull (V := T43.setTop (mkF m 78 #[iv pk, iv px, iv pf, iv 2, iv zc, rv r_IbanRegistry_Kind_LETTER_OR_DIGIT, iv (zc - (48 : Int32)), .unset, .unset, .unset, .unset] [])) (fun t k => XS.ifYes X43.here hx rfl (pc0 := 64) (pc' := 78) rfl (hb hby at_64) rfl (XT.i0_lt_t ((own_a (k := 48) hzc (by decide) (by decide)).mpr hp44)) (by decide) (by decide) k) ?_
        refine Go.pull (V := T43.setTop (mkF m 79 #[iv pk, iv px, iv pf, iv 2, iv zc, rv r_IbanRegistry_Kind_LETTER_OR_DIGIT, iv (zc - (48 : Int32)), .unset, .unset, .unset, .unset] [(.int 0)])) (fun t k => XS.iconst X43.here hx rfl (hb hby at_78) k) ?_
        refine Go.pull (V := T43.setTop (mkF m 81 #[iv pk, iv px, iv pf, iv 2, iv zc, rv r_IbanRegistry_Kind_LETTER_OR_DIGIT, iv (zc - (48 : Int32)), iv 0, .unset, .unset, .unset] [])) (fun t k => XS.istore X43.here hx rfl (hb hby at_79) rfl (l' := #[iv pk, iv px, iv pf, iv 2, iv zc, rv r_IbanRegistry_Kind_LETTER_OR_DIGIT, iv (zc - (48 : Int32)), iv 0, .unset, .unset, .unset]) rfl k) ?_
        refine Go.pull (V := T43.setTop (mkF m 83 #[iv pk, iv px, iv pf, iv 2, iv zc, rv r_IbanRegistry_Kind_LETTER_OR_DIGIT, iv (zc - (48 : Int32)), iv 0, .unset, .unset, .unset] [(.int zc)])) (fun t k => XS.iload X43.here hx rfl (hb hby at_81) rfl  k) ?_
        refine Go.pull (V := T43.setTop (mkF m 85 #[iv pk, iv px, iv pf, iv 2, iv zc, rv r_IbanRegistry_Kind_LETTER_OR_DIGIT, iv (zc - (48 : Int32)), iv 0, .unset, .unset, .unset] [(.int 65), (.int zc)])) (fun t k => XS.bipush X43.here hx rfl (hb hby at_83) k) ?_
        refine Go.pull (V := T43.setTop (mkF m 86 #[iv pk, iv px, iv pf, iv 2, iv zc, rv r_IbanRegistry_Kind_LETTER_OR_DIGIT, iv (zc - (48 : Int32)), iv 0, .unset, .unset, .unset] [(.int (zc - (65 : Int32)))])) (fun t k => XS.isub X43.here hx rfl (hb hby at_85) rfl k) ?_
        refine Go.pull (V := T43.setTop (mkF m 88 #[iv pk, iv px, iv pf, iv 2, iv zc, rv r_IbanRegistry_Kind_LETTER_OR_DIGIT, iv (zc - (48 : Int32)), iv 0, iv (zc - (65 : Int32)), .unset, .unset] [])) (fun t k => XS.istore X43.here hx rfl (hb hby at_86) rfl (l' := #[iv pk, iv px, iv pf, iv 2, iv zc, rv r_IbanRegistry_Kind_LETTER_OR_DIGIT, iv (zc - (48 : Int32)), iv 0, iv (zc - (65 : Int32)), .unset, .unset]) rfl k) ?_
        refine Go.pull (V := T43.setTop (mkF m 90 #[iv pk, iv px, iv pf, iv 2, iv zc, rv r_IbanRegistry_Kind_LETTER_OR_DIGIT, iv (zc - (48 : Int32)), iv 0, iv (zc - (65 : Int32)), .unset, .unset] [(.int (zc - (65 : Int32)))])) (fun t k => XS.iload X43.here hx rfl (hb hby at_88) rfl  k) ?_
        by_cases hp45 : zc < (65 : Int32)
        · skip
          refine Go.pull (V := T43.setTop (mkF m 104 #[iv pk, iv px, iv pf, iv 2, iv zc, rv r_IbanRegistry_Kind_LETTER_OR_DIGIT, iv (zc - (48 : Int32)), iv 0, iv (zc - (65 : Int32)), .unset, .unset] [])) (fun t k => XS.ifYes X43.here hx rfl (pc0 := 90) (pc' := 104) rfl (hb hby at_90) rfl (XT.i0_lt_t ((own_a (k := 65) hzc (by decide) (by decide)).mpr hp45)) (by decide) (by decide) k) ?_
          refine Go.pull (V := T43.setTop (mkF m 105 #[iv pk, iv px, iv pf, iv 2, iv zc, rv r_IbanRegistry_Kind_LETTER_OR_DIGIT, iv (zc - (48 : Int32)), iv 0, iv (zc - (65 : Int32)), .unset, .unset] [(.int 0)])) (fun t k => XS.iconst X43.here hx rfl (hb hby at_104) k) ?_
          refine Go.pull (V := T43.setTop (mkF m 107 #[iv pk, iv px, iv pf, iv 2, iv zc, rv r_IbanRegistry_Kind_LETTER_OR_DIGIT, iv (zc - (48 : Int32)), iv 0, iv (zc - (65 : Int32)), iv 0, .unset] [])) (fun t k => XS.istore X43.here hx rfl (hb hby at_105) rfl (l' := #[iv pk, iv px, iv pf, iv 2, iv zc, rv r_IbanRegistry_Kind_LETTER_OR_DIGIT, iv (zc - (48 : Int32)), iv 0, iv (zc - (65 : Int32)), iv 0, .unset]) rfl k) ?_
          refine Go.pull (V := T43.setTop (mkF m 108 #[iv pk, iv px, iv pf, iv 2, iv zc, rv r_IbanRegistry_Kind_LETTER_OR_DIGIT, iv (zc - (48 : Int32)), iv 0, iv (zc - (65 : Int32)), iv 0, .unset] [(.int 2)])) (fun t k => XS.iloadN X43.here hx rfl (hb hby at_107) rfl  k) ?_
          refine Go.pull (V := T43.setTop (mkF m 118 #[iv pk, iv px, iv pf, iv 2, iv zc, rv r_IbanRegistry_Kind_LETTER_OR_DIGIT, iv (zc - (48 : Int32)), iv 0, iv (zc - (65 : Int32)), iv 0, .unset] [])) (fun t k => XS.ifYes X43.here hx rfl (pc0 := 108) (pc' := 118) rfl (hb hby at_108) rfl (XT.i0_ne_t (by decide)) (by decide) (by decide) k) ?_
          refine Go.pull (V := T43.setTop (mkF m 119 #[iv pk, iv px, iv pf, iv 2, iv zc, rv r_IbanRegistry_Kind_LETTER_OR_DIGIT, iv (zc - (48 : Int32)), iv 0, iv (zc - (65 : Int32)), iv 0, .unset] [(.int 2)])) (fun t k => XS.iloadN X43.here hx rfl (hb hby at_118) rfl  k) ?_
          refine Go.pull (V := T43.setTop (mkF m 120 #[iv pk, iv px, iv pf, iv 2, iv zc, rv r_IbanRegistry_Kind_LETTER_OR_DIGIT, iv (zc - (48 : Int32)), iv 0, iv (zc - (65 : Int32)), iv 0, .unset] [(.int 1), (.int 2)])) (fun t k => XS.iconst X43.here hx rfl (hb hby at_119) k) ?_
          refine Go.pull (V := T43.setTop (mkF m 130 #[iv pk, iv px, iv pf, iv 2, iv zc, rv r_IbanRegistry_Kind_LETTER_OR_DIGIT, iv (zc - (48 : Int32)), iv 0, iv (zc - (65 : Int32)), iv 0, .unset] [])) (fun t k => XS.icmpYes X43.here hx rfl (pc0 := 120) (pc' := 130) rfl (hb hby at_120) rfl (XT.ii_ne_t (by decide)) (by decide) (by decide) k) ?_
          refine Go.pull (V := T43.setTop (mkF m 132 #[iv pk, iv px, iv pf, iv 2, iv zc, rv r_IbanRegistry_Kind_LETTER_OR_DIGIT, iv (zc - (48 : Int32)), iv 0, iv (zc - (65 : Int32)), iv 0, .unset] [(.int 0)])) (fun t k => XS.iload X43.here hx rfl (hb hby at_130) rfl  k) ?_
          refine Go.pull (V := T43.setTop (mkF m 135 #[iv pk, iv px, iv pf, iv 2, iv zc, rv r_IbanRegistry_Kind_LETTER_OR_DIGIT, iv (zc - (48 : Int32)), iv 0, iv (zc - (65 : Int32)), iv 0, .unset] [])) (fun t k => XS.ifNo X43.here hx rfl (hb hby at_132) rfl (XT.i0_ne_f (by decide)) k) ?_
          refine Go.pull (V := T43.setTop (mkF m 137 #[iv pk, iv px, iv pf, iv 2, iv zc, rv r_IbanRegistry_Kind_LETTER_OR_DIGIT, iv (zc - (48 : Int32)), iv 0, iv (zc - (65 : Int32)), iv 0, .unset] [(.int 0)])) (fun t k => XS.iload X43.here hx rfl (hb hby at_135) rfl  k) ?_
          refine Go.pull (V := T43.setTop (mkF m 144 #[iv pk, iv px, iv pf, iv 2, iv zc, rv r_IbanRegistry_Kind_LETTER_OR_DIGIT, iv (zc - (48 : Int32)), iv 0, iv (zc - (65 : Int32)), iv 0, .unset] [])) (fun t k => XS.ifYes X43.here hx rfl (pc0 := 137) (pc' := 144) rfl (hb hby at_137) rfl (XT.i0_eq_t (by decide)) (by decide) (by decide) k) ?_
          refine Go.pull (V := T43.setTop (mkF m 145 #[iv pk, iv px, iv pf, iv 2, iv zc, rv r_IbanRegistry_Kind_LETTER_OR_DIGIT, iv (zc - (48 : Int32)), iv 0, iv (zc - (65 : Int32)), iv 0, .unset] [(.int 0)])) (fun t k => XS.iconst X43.here hx rfl (hb hby at_144) k) ?_
          refine Go.pull (V := T43.setTop (mkF m 147 #[iv pk, iv px, iv pf, iv 2, iv zc, rv r_IbanRegistry_Kind_LETTER_OR_DIGIT, iv (zc - (48 : Int32)), iv 0, iv (zc - (65 : Int32)), iv 0, iv 0] [])) (fun t k => XS.istore X43.here hx rfl (hb hby at_145) rfl (l' := #[iv pk, iv px, iv pf, iv 2, iv zc, rv r_IbanRegistry_Kind_LETTER_OR_DIGIT, iv (zc - (48 : Int32)), iv 0, iv (zc - (65 : Int32)), iv 0, iv 0]) rfl k) ?_
          refine Go.pull (V := T43.setTop (mkF m 149 #[iv pk, iv px, iv pf, iv 2, iv zc, rv r_IbanRegistry_Kind_LETTER_OR_DIGIT, iv (zc - (48 : Int32)), iv 0, iv (zc - (65 : Int32)), iv 0, iv 0] [(.ref r_IbanRegistry_Kind_LETTER_OR_DIGIT)])) (fun t k => XS.aload X43.here hx rfl (hb hby at_147) rfl rfl k) ?_
          refine Go.pull (V := T43.setTop (mkF m 151 #[iv pk, iv px, iv pf, iv 2, iv zc, rv r_IbanRegistry_Kind_LETTER_OR_DIGIT, iv (zc - (48 : Int32)), iv 0, iv (zc - (65 : Int32)), iv 0, iv 0] [(.int zc), (.ref r_IbanRegistry_Kind_LETTER_OR_DIGIT)])) (fun t k => XS.iload X43.here hx rfl (hb hby at_149) rfl  k) ?_
          obtain ⟨cq46, kq46, q46a, q46b, q46c⟩ := isOf hZ e43 E_r_IbanRegistry_Kind_LETTER_OR_DIGIT
          obtain ⟨_, _, ⟨T46, L46, k46, n46⟩, -, X46, ⟨Lc46, hQ46, l46, y46, z46⟩, st46⟩ := X43.virtualBack hx (y := (⟨"com/example/disburse/disburse/core/IbanRegistry$Kind", "admits", "(C)Z"⟩ : MethodName)) (z := (⟨"com/example/disburse/disburse/core/IbanRegistry$Kind", "admits", "(C)Z"⟩ : MethodName)) hown (mvT hZ (hw _ (List.mem_of_getElem? (i := 4) rfl))) (mvT hZ (hw _ (List.mem_of_getElem? (i := 5) rfl))) (notFace_of_selects (args := #[]) (mvT hZ (hw _ (List.mem_of_getElem? (i := 7) rfl)))) (mvT hZ (hw _ (List.mem_of_getElem? (i := 7) rfl))) (mvT hZ (hw _ (List.mem_of_getElem? (i := 6) rfl))) (by decide) (backOf (W := 0) (rmA2 l Z a0 hw [] r_IbanRegistry_Kind_LETTER_OR_DIGIT zc h0 n0 E_r_IbanRegistry_Kind_LETTER_OR_DIGIT F_r_IbanRegistry_Kind_LETTER_OR_DIGIT_ordinal) hZ (hw _ (List.mem_of_getElem? (i := 8) rfl)) (hw _ (List.mem_of_getElem? (i := 2) rfl)) (by decide) (by decide)) q46a q46c (g := (mkF m 151 #[iv pk, iv px, iv pf, iv 2, iv zc, rv r_IbanRegistry_Kind_LETTER_OR_DIGIT, iv (zc - (48 : Int32)), iv 0, iv (zc - (65 : Int32)), iv 0, iv 0] [(.int zc), (.ref r_IbanRegistry_Kind_LETTER_OR_DIGIT)])) rfl (by rw [hml]; rfl) (Steps.refl _) (argsL := [(.int zc)]) (rest := []) (lenOf pd_1 rfl) rfl (by show 2 * 0 + _ ≤ _; exact Nat.le_of_eq rfl) (hb hby at_151) (fun _ _ => ⟨rfl, e43, (by decide : 0 + 0 ≤ _), (by decide : 0 + 0 ≤ _)⟩)
          dsimp only [Pt.U, Pt.locs, Pt.cells, Pt.slots] at X46 l46 y46 z46 st46 hQ46
          subst l46 y46 z46
          obtain ⟨hv46, N46q, e46⟩ := hQ46
          rw [(show (own_lod zc) = (0 : Int32) from by rw [own_lod, if_pos hp44, if_pos hp45])] at hv46; subst hv46
          have N46 := Fr.app N0 N46q
          refine Go.pull (V := T46.setTop (mkF m 154 #[iv pk, iv px, iv pf, iv 2, iv zc, rv r_IbanRegistry_Kind_LETTER_OR_DIGIT, iv (zc - (48 : Int32)), iv 0, iv (zc - (65 : Int32)), iv 0, iv 0] [(.int 0)])) (fun _ k => st46.trans k) ?_
          refine Go.pull (V := T46.setTop (mkF m 156 #[iv pk, iv px, iv pf, iv 2, iv zc, rv r_IbanRegistry_Kind_LETTER_OR_DIGIT, iv (zc - (48 : Int32)), iv 0, iv (zc - (65 : Int32)), iv 0, iv 0] [(.int 0), (.int 0)])) (fun t k => XS.iload X46.here hx rfl (hb hby at_154) rfl  k) ?_
          refine Go.pull (V := T46.setTop (mkF m 159 #[iv pk, iv px, iv pf, iv 2, iv zc, rv r_IbanRegistry_Kind_LETTER_OR_DIGIT, iv (zc - (48 : Int32)), iv 0, iv (zc - (65 : Int32)), iv 0, iv 0] [])) (fun t k => XS.icmpNo X46.here hx rfl (hb hby at_156) rfl (XT.ii_ne_f (by decide)) k) ?_
          refine Go.pull (V := T46.setTop (mkF m 160 #[iv pk, iv px, iv pf, iv 2, iv zc, rv r_IbanRegistry_Kind_LETTER_OR_DIGIT, iv (zc - (48 : Int32)), iv 0, iv (zc - (65 : Int32)), iv 0, iv 0] [(.int 1)])) (fun t k => XS.iconst X46.here hx rfl (hb hby at_159) k) ?_
          refine Go.pull (V := T46.setTop (mkF m 164 #[iv pk, iv px, iv pf, iv 2, iv zc, rv r_IbanRegistry_Kind_LETTER_OR_DIGIT, iv (zc - (48 : Int32)), iv 0, iv (zc - (65 : Int32)), iv 0, iv 0] [(.int 1)])) (fun t k => XS.goto X46.here hx rfl (pc0 := 160) (pc' := 164) rfl (hb hby at_160) (by decide) (by decide) k) ?_
          exact Go.retN X46 hx Bd.notSynchronized (t := .boolean) Bd.returns (by simp) (hb hby at_164) ⟨rfl, N46⟩ (by decide) (by decide)
        · skip
          refine Go.pull (V := T43.setTop (mkF m 93 #[iv pk, iv px, iv pf, iv 2, iv zc, rv r_IbanRegistry_Kind_LETTER_OR_DIGIT, iv (zc - (48 : Int32)), iv 0, iv (zc - (65 : Int32)), .unset, .unset] [])) (fun t k => XS.ifNo X43.here hx rfl (hb hby at_90) rfl (XT.i0_lt_f (fun q => hp45 ((own_a (k := 65) hzc (by decide) (by decide)).mp q))) k) ?_
          refine Go.pull (V := T43.setTop (mkF m 95 #[iv pk, iv px, iv pf, iv 2, iv zc, rv r_IbanRegistry_Kind_LETTER_OR_DIGIT, iv (zc - (48 : Int32)), iv 0, iv (zc - (65 : Int32)), .unset, .unset] [(.int (zc - (65 : Int32)))])) (fun t k => XS.iload X43.here hx rfl (hb hby at_93) rfl  k) ?_
          refine Go.pull (V := T43.setTop (mkF m 97 #[iv pk, iv px, iv pf, iv 2, iv zc, rv r_IbanRegistry_Kind_LETTER_OR_DIGIT, iv (zc - (48 : Int32)), iv 0, iv (zc - (65 : Int32)), .unset, .unset] [(.int 26), (.int (zc - (65 : Int32)))])) (fun t k => XS.bipush X43.here hx rfl (hb hby at_95) k) ?_
          by_cases hp47 : (90 : Int32) < zc
          · skip
            refine Go.pull (V := T43.setTop (mkF m 104 #[iv pk, iv px, iv pf, iv 2, iv zc, rv r_IbanRegistry_Kind_LETTER_OR_DIGIT, iv (zc - (48 : Int32)), iv 0, iv (zc - (65 : Int32)), .unset, .unset] [])) (fun t k => XS.icmpYes X43.here hx rfl (pc0 := 97) (pc' := 104) rfl (hb hby at_97) rfl (XT.ii_ge_t (fun q => (own_b (k := 90) hzc (by decide) (by decide)).mp q hp47)) (by decide) (by decide) k) ?_
            refine Go.pull (V := T43.setTop (mkF m 105 #[iv pk, iv px, iv pf, iv 2, iv zc, rv r_IbanRegistry_Kind_LETTER_OR_DIGIT, iv (zc - (48 : Int32)), iv 0, iv (zc - (65 : Int32)), .unset, .unset] [(.int 0)])) (fun t k => XS.iconst X43.here hx rfl (hb hby at_104) k) ?_
            refine Go.pull (V := T43.setTop (mkF m 107 #[iv pk, iv px, iv pf, iv 2, iv zc, rv r_IbanRegistry_Kind_LETTER_OR_DIGIT, iv (zc - (48 : Int32)), iv 0, iv (zc - (65 : Int32)), iv 0, .unset] [])) (fun t k => XS.istore X43.here hx rfl (hb hby at_105) rfl (l' := #[iv pk, iv px, iv pf, iv 2, iv zc, rv r_IbanRegistry_Kind_LETTER_OR_DIGIT, iv (zc - (48 : Int32)), iv 0, iv (zc - (65 : Int32)), iv 0, .unset]) rfl k) ?_
            refine Go.pull (V := T43.setTop (mkF m 108 #[iv pk, iv px, iv pf, iv 2, iv zc, rv r_IbanRegistry_Kind_LETTER_OR_DIGIT, iv (zc - (48 : Int32)), iv 0, iv (zc - (65 : Int32)), iv 0, .unset] [(.int 2)])) (fun t k => XS.iloadN X43.here hx rfl (hb hby at_107) rfl  k) ?_
            refine Go.pull (V := T43.setTop (mkF m 118 #[iv pk, iv px, iv pf, iv 2, iv zc, rv r_IbanRegistry_Kind_LETTER_OR_DIGIT, iv (zc - (48 : Int32)), iv 0, iv (zc - (65 : Int32)), iv 0, .unset] [])) (fun t k => XS.ifYes X43.here hx rfl (pc0 := 108) (pc' := 118) rfl (hb hby at_108) rfl (XT.i0_ne_t (by decide)) (by decide) (by decide) k) ?_
            refine Go.pull (V := T43.setTop (mkF m 119 #[iv pk, iv px, iv pf, iv 2, iv zc, rv r_IbanRegistry_Kind_LETTER_OR_DIGIT, iv (zc - (48 : Int32)), iv 0, iv (zc - (65 : Int32)), iv 0, .unset] [(.int 2)])) (fun t k => XS.iloadN X43.here hx rfl (hb hby at_118) rfl  k) ?_
            refine Go.pull (V := T43.setTop (mkF m 120 #[iv pk, iv px, iv pf, iv 2, iv zc, rv r_IbanRegistry_Kind_LETTER_OR_DIGIT, iv (zc - (48 : Int32)), iv 0, iv (zc - (65 : Int32)), iv 0, .unset] [(.int 1), (.int 2)])) (fun t k => XS.iconst X43.here hx rfl (hb hby at_119) k) ?_
            refine Go.pull (V := T43.setTop (mkF m 130 #[iv pk, iv px, iv pf, iv 2, iv zc, rv r_IbanRegistry_Kind_LETTER_OR_DIGIT, iv (zc - (48 : Int32)), iv 0, iv (zc - (65 : Int32)), iv 0, .unset] [])) (fun t k => XS.icmpYes X43.here hx rfl (pc0 := 120) (pc' := 130) rfl (hb hby at_120) rfl (XT.ii_ne_t (by decide)) (by decide) (by decide) k) ?_
            refine Go.pull (V := T43.setTop (mkF m 132 #[iv pk, iv px, iv pf, iv 2, iv zc, rv r_IbanRegistry_Kind_LETTER_OR_DIGIT, iv (zc - (48 : Int32)), iv 0, iv (zc - (65 : Int32)), iv 0, .unset] [(.int 0)])) (fun t k => XS.iload X43.here hx rfl (hb hby at_130) rfl  k) ?_
            refine Go.pull (V := T43.setTop (mkF m 135 #[iv pk, iv px, iv pf, iv 2, iv zc, rv r_IbanRegistry_Kind_LETTER_OR_DIGIT, iv (zc - (48 : Int32)), iv 0, iv (zc - (65 : Int32)), iv 0, .unset] [])) (fun t k => XS.ifNo X43.here hx rfl (hb hby at_132) rfl (XT.i0_ne_f (by decide)) k) ?_
            refine Go.pull (V := T43.setTop (mkF m 137 #[iv pk, iv px, iv pf, iv 2, iv zc, rv r_IbanRegistry_Kind_LETTER_OR_DIGIT, iv (zc - (48 : Int32)), iv 0, iv (zc - (65 : Int32)), iv 0, .unset] [(.int 0)])) (fun t k => XS.iload X43.here hx rfl (hb hby at_135) rfl  k) ?_
            refine Go.pull (V := T43.setTop (mkF m 144 #[iv pk, iv px, iv pf, iv 2, iv zc, rv r_IbanRegistry_Kind_LETTER_OR_DIGIT, iv (zc - (48 : Int32)), iv 0, iv (zc - (65 : Int32)), iv 0, .unset] [])) (fun t k => XS.ifYes X43.here hx rfl (pc0 := 137) (pc' := 144) rfl (hb hby at_137) rfl (XT.i0_eq_t (by decide)) (by decide) (by decide) k) ?_
            refine Go.pull (V := T43.setTop (mkF m 145 #[iv pk, iv px, iv pf, iv 2, iv zc, rv r_IbanRegistry_Kind_LETTER_OR_DIGIT, iv (zc - (48 : Int32)), iv 0, iv (zc - (65 : Int32)), iv 0, .unset] [(.int 0)])) (fun t k => XS.iconst X43.here hx rfl (hb hby at_144) k) ?_
            refine Go.pull (V := T43.setTop (mkF m 147 #[iv pk, iv px, iv pf, iv 2, iv zc, rv r_IbanRegistry_Kind_LETTER_OR_DIGIT, iv (zc - (48 : Int32)), iv 0, iv (zc - (65 : Int32)), iv 0, iv 0] [])) (fun t k => XS.istore X43.here hx rfl (hb hby at_145) rfl (l' := #[iv pk, iv px, iv pf, iv 2, iv zc, rv r_IbanRegistry_Kind_LETTER_OR_DIGIT, iv (zc - (48 : Int32)), iv 0, iv (zc - (65 : Int32)), iv 0, iv 0]) rfl k) ?_
            refine Go.pull (V := T43.setTop (mkF m 149 #[iv pk, iv px, iv pf, iv 2, iv zc, rv r_IbanRegistry_Kind_LETTER_OR_DIGIT, iv (zc - (48 : Int32)), iv 0, iv (zc - (65 : Int32)), iv 0, iv 0] [(.ref r_IbanRegistry_Kind_LETTER_OR_DIGIT)])) (fun t k => XS.aload X43.here hx rfl (hb hby at_147) rfl rfl k) ?_
            refine Go.pull (V := T43.setTop (mkF m 151 #[iv pk, iv px, iv pf, iv 2, iv zc, rv r_IbanRegistry_Kind_LETTER_OR_DIGIT, iv (zc - (48 : Int32)), iv 0, iv (zc - (65 : Int32)), iv 0, iv 0] [(.int zc), (.ref r_IbanRegistry_Kind_LETTER_OR_DIGIT)])) (fun t k => XS.iload X43.here hx rfl (hb hby at_149) rfl  k) ?_
            obtain ⟨cq48, kq48, q48a, q48b, q48c⟩ := isOf hZ e43 E_r_IbanRegistry_Kind_LETTER_OR_DIGIT
            obtain ⟨_, _, ⟨T48, L48, k48, n48⟩, -, X48, ⟨Lc48, hQ48, l48, y48, z48⟩, st48⟩ := X43.virtualBack hx (y := (⟨"com/example/disburse/disburse/core/IbanRegistry$Kind", "admits", "(C)Z"⟩ : MethodName)) (z := (⟨"com/example/disburse/disburse/core/IbanRegistry$Kind", "admits", "(C)Z"⟩ : MethodName)) hown (mvT hZ (hw _ (List.mem_of_getElem? (i := 4) rfl))) (mvT hZ (hw _ (List.mem_of_getElem? (i := 5) rfl))) (notFace_of_selects (args := #[]) (mvT hZ (hw _ (List.mem_of_getElem? (i := 7) rfl)))) (mvT hZ (hw _ (List.mem_of_getElem? (i := 7) rfl))) (mvT hZ (hw _ (List.mem_of_getElem? (i := 6) rfl))) (by decide) (backOf (W := 0) (rmA2 l Z a0 hw [] r_IbanRegistry_Kind_LETTER_OR_DIGIT zc h0 n0 E_r_IbanRegistry_Kind_LETTER_OR_DIGIT F_r_IbanRegistry_Kind_LETTER_OR_DIGIT_ordinal) hZ (hw _ (List.mem_of_getElem? (i := 8) rfl)) (hw _ (List.mem_of_getElem? (i := 2) rfl)) (by decide) (by decide)) q48a q48c (g := (mkF m 151 #[iv pk, iv px, iv pf, iv 2, iv zc, rv r_IbanRegistry_Kind_LETTER_OR_DIGIT, iv (zc - (48 : Int32)), iv 0, iv (zc - (65 : Int32)), iv 0, iv 0] [(.int zc), (.ref r_IbanRegistry_Kind_LETTER_OR_DIGIT)])) rfl (by rw [hml]; rfl) (Steps.refl _) (argsL := [(.int zc)]) (rest := []) (lenOf pd_1 rfl) rfl (by show 2 * 0 + _ ≤ _; exact Nat.le_of_eq rfl) (hb hby at_151) (fun _ _ => ⟨rfl, e43, (by decide : 0 + 0 ≤ _), (by decide : 0 + 0 ≤ _)⟩)
            dsimp only [Pt.U, Pt.locs, Pt.cells, Pt.slots] at X48 l48 y48 z48 st48 hQ48
            subst l48 y48 z48
            obtain ⟨hv48, N48q, e48⟩ := hQ48
            rw [(show (own_lod zc) = (0 : Int32) from by rw [own_lod, if_pos hp44, if_neg hp45, if_pos hp47])] at hv48; subst hv48
            have N48 := Fr.app N0 N48q
            refine Go.pull (V := T48.setTop (mkF m 154 #[iv pk, iv px, iv pf, iv 2, iv zc, rv r_IbanRegistry_Kind_LETTER_OR_DIGIT, iv (zc - (48 : Int32)), iv 0, iv (zc - (65 : Int32)), iv 0, iv 0] [(.int 0)])) (fun _ k => st48.trans k) ?_
            refine Go.pull (V := T48.setTop (mkF m 156 #[iv pk, iv px, iv pf, iv 2, iv zc, rv r_IbanRegistry_Kind_LETTER_OR_DIGIT, iv (zc - (48 : Int32)), iv 0, iv (zc - (65 : Int32)), iv 0, iv 0] [(.int 0), (.int 0)])) (fun t k => XS.iload X48.here hx rfl (hb hby at_154) rfl  k) ?_
            refine Go.pull (V := T48.setTop (mkF m 159 #[iv pk, iv px, iv pf, iv 2, iv zc, rv r_IbanRegistry_Kind_LETTER_OR_DIGIT, iv (zc - (48 : Int32)), iv 0, iv (zc - (65 : Int32)), iv 0, iv 0] [])) (fun t k => XS.icmpNo X48.here hx rfl (hb hby at_156) rfl (XT.ii_ne_f (by decide)) k) ?_
            refine Go.pull (V := T48.setTop (mkF m 160 #[iv pk, iv px, iv pf, iv 2, iv zc, rv r_IbanRegistry_Kind_LETTER_OR_DIGIT, iv (zc - (48 : Int32)), iv 0, iv (zc - (65 : Int32)), iv 0, iv 0] [(.int 1)])) (fun t k => XS.iconst X48.here hx rfl (hb hby at_159) k) ?_
            refine Go.pull (V := T48.setTop (mkF m 164 #[iv pk, iv px, iv pf, iv 2, iv zc, rv r_IbanRegistry_Kind_LETTER_OR_DIGIT, iv (zc - (48 : Int32)), iv 0, iv (zc - (65 : Int32)), iv 0, iv 0] [(.int 1)])) (fun t k => XS.goto X48.here hx rfl (pc0 := 160) (pc' := 164) rfl (hb hby at_160) (by decide) (by decide) k) ?_
            exact Go.retN X48 hx Bd.notSynchronized (t := .boolean) Bd.returns (by simp) (hb hby at_164) ⟨rfl, N48⟩ (by decide) (by decide)
          · skip
            refine Go.pull (V := T43.setTop (mkF m 100 #[iv pk, iv px, iv pf, iv 2, iv zc, rv r_IbanRegistry_Kind_LETTER_OR_DIGIT, iv (zc - (48 : Int32)), iv 0, iv (zc - (65 : Int32)), .unset, .unset] [])) (fun t k => XS.icmpNo X43.here hx rfl (hb hby at_97) rfl (XT.ii_ge_f ((own_b (k := 90) hzc (by decide) (by decide)).mpr hp47)) k) ?_
            refine Go.pull (V := T43.setTop (mkF m 101 #[iv pk, iv px, iv pf, iv 2, iv zc, rv r_IbanRegistry_Kind_LETTER_OR_DIGIT, iv (zc - (48 : Int32)), iv 0, iv (zc - (65 : Int32)), .unset, .unset] [(.int 1)])) (fun t k => XS.iconst X43.here hx rfl (hb hby at_100) k) ?_
            refine Go.pull (V := T43.setTop (mkF m 105 #[iv pk, iv px, iv pf, iv 2, iv zc, rv r_IbanRegistry_Kind_LETTER_OR_DIGIT, iv (zc - (48 : Int32)), iv 0, iv (zc - (65 : Int32)), .unset, .unset] [(.int 1)])) (fun t k => XS.goto X43.here hx rfl (pc0 := 101) (pc' := 105) rfl (hb hby at_101) (by decide) (by decide) k) ?_
            refine Go.pull (V := T43.setTop (mkF m 107 #[iv pk, iv px, iv pf, iv 2, iv zc, rv r_IbanRegistry_Kind_LETTER_OR_DIGIT, iv (zc - (48 : Int32)), iv 0, iv (zc - (65 : Int32)), iv 1, .unset] [])) (fun t k => XS.istore X43.here hx rfl (hb hby at_105) rfl (l' := #[iv pk, iv px, iv pf, iv 2, iv zc, rv r_IbanRegistry_Kind_LETTER_OR_DIGIT, iv (zc - (48 : Int32)), iv 0, iv (zc - (65 : Int32)), iv 1, .unset]) rfl k) ?_
            refine Go.pull (V := T43.setTop (mkF m 108 #[iv pk, iv px, iv pf, iv 2, iv zc, rv r_IbanRegistry_Kind_LETTER_OR_DIGIT, iv (zc - (48 : Int32)), iv 0, iv (zc - (65 : Int32)), iv 1, .unset] [(.int 2)])) (fun t k => XS.iloadN X43.here hx rfl (hb hby at_107) rfl  k) ?_
            refine Go.pull (V := T43.setTop (mkF m 118 #[iv pk, iv px, iv pf, iv 2, iv zc, rv r_IbanRegistry_Kind_LETTER_OR_DIGIT, iv (zc - (48 : Int32)), iv 0, iv (zc - (65 : Int32)), iv 1, .unset] [])) (fun t k => XS.ifYes X43.here hx rfl (pc0 := 108) (pc' := 118) rfl (hb hby at_108) rfl (XT.i0_ne_t (by decide)) (by decide) (by decide) k) ?_
            refine Go.pull (V := T43.setTop (mkF m 119 #[iv pk, iv px, iv pf, iv 2, iv zc, rv r_IbanRegistry_Kind_LETTER_OR_DIGIT, iv (zc - (48 : Int32)), iv 0, iv (zc - (65 : Int32)), iv 1, .unset] [(.int 2)])) (fun t k => XS.iloadN X43.here hx rfl (hb hby at_118) rfl  k) ?_
            refine Go.pull (V := T43.setTop (mkF m 120 #[iv pk, iv px, iv pf, iv 2, iv zc, rv r_IbanRegistry_Kind_LETTER_OR_DIGIT, iv (zc - (48 : Int32)), iv 0, iv (zc - (65 : Int32)), iv 1, .unset] [(.int 1), (.int 2)])) (fun t k => XS.iconst X43.here hx rfl (hb hby at_119) k) ?_
            refine Go.pull (V := T43.setTop (mkF m 130 #[iv pk, iv px, iv pf, iv 2, iv zc, rv r_IbanRegistry_Kind_LETTER_OR_DIGIT, iv (zc - (48 : Int32)), iv 0, iv (zc - (65 : Int32)), iv 1, .unset] [])) (fun t k => XS.icmpYes X43.here hx rfl (pc0 := 120) (pc' := 130) rfl (hb hby at_120) rfl (XT.ii_ne_t (by decide)) (by decide) (by decide) k) ?_
            refine Go.pull (V := T43.setTop (mkF m 132 #[iv pk, iv px, iv pf, iv 2, iv zc, rv r_IbanRegistry_Kind_LETTER_OR_DIGIT, iv (zc - (48 : Int32)), iv 0, iv (zc - (65 : Int32)), iv 1, .unset] [(.int 0)])) (fun t k => XS.iload X43.here hx rfl (hb hby at_130) rfl  k) ?_
            refine Go.pull (V := T43.setTop (mkF m 135 #[iv pk, iv px, iv pf, iv 2, iv zc, rv r_IbanRegistry_Kind_LETTER_OR_DIGIT, iv (zc - (48 : Int32)), iv 0, iv (zc - (65 : Int32)), iv 1, .unset] [])) (fun t k => XS.ifNo X43.here hx rfl (hb hby at_132) rfl (XT.i0_ne_f (by decide)) k) ?_
            refine Go.pull (V := T43.setTop (mkF m 137 #[iv pk, iv px, iv pf, iv 2, iv zc, rv r_IbanRegistry_Kind_LETTER_OR_DIGIT, iv (zc - (48 : Int32)), iv 0, iv (zc - (65 : Int32)), iv 1, .unset] [(.int 1)])) (fun t k => XS.iload X43.here hx rfl (hb hby at_135) rfl  k) ?_
            refine Go.pull (V := T43.setTop (mkF m 140 #[iv pk, iv px, iv pf, iv 2, iv zc, rv r_IbanRegistry_Kind_LETTER_OR_DIGIT, iv (zc - (48 : Int32)), iv 0, iv (zc - (65 : Int32)), iv 1, .unset] [])) (fun t k => XS.ifNo X43.here hx rfl (hb hby at_137) rfl (XT.i0_eq_f (by decide)) k) ?_
            refine Go.pull (V := T43.setTop (mkF m 141 #[iv pk, iv px, iv pf, iv 2, iv zc, rv r_IbanRegistry_Kind_LETTER_OR_DIGIT, iv (zc - (48 : Int32)), iv 0, iv (zc - (65 : Int32)), iv 1, .unset] [(.int 1)])) (fun t k => XS.iconst X43.here hx rfl (hb hby at_140) k) ?_
            refine Go.pull (V := T43.setTop (mkF m 145 #[iv pk, iv px, iv pf, iv 2, iv zc, rv r_IbanRegistry_Kind_LETTER_OR_DIGIT, iv (zc - (48 : Int32)), iv 0, iv (zc - (65 : Int32)), iv 1, .unset] [(.int 1)])) (fun t k => XS.goto X43.here hx rfl (pc0 := 141) (pc' := 145) rfl (hb hby at_141) (by decide) (by decide) k) ?_
            refine Go.pull (V := T43.setTop (mkF m 147 #[iv pk, iv px, iv pf, iv 2, iv zc, rv r_IbanRegistry_Kind_LETTER_OR_DIGIT, iv (zc - (48 : Int32)), iv 0, iv (zc - (65 : Int32)), iv 1, iv 1] [])) (fun t k => XS.istore X43.here hx rfl (hb hby at_145) rfl (l' := #[iv pk, iv px, iv pf, iv 2, iv zc, rv r_IbanRegistry_Kind_LETTER_OR_DIGIT, iv (zc - (48 : Int32)), iv 0, iv (zc - (65 : Int32)), iv 1, iv 1]) rfl k) ?_
            refine Go.pull (V := T43.setTop (mkF m 149 #[iv pk, iv px, iv pf, iv 2, iv zc, rv r_IbanRegistry_Kind_LETTER_OR_DIGIT, iv (zc - (48 : Int32)), iv 0, iv (zc - (65 : Int32)), iv 1, iv 1] [(.ref r_IbanRegistry_Kind_LETTER_OR_DIGIT)])) (fun t k => XS.aload X43.here hx rfl (hb hby at_147) rfl rfl k) ?_
            refine Go.pull (V := T43.setTop (mkF m 151 #[iv pk, iv px, iv pf, iv 2, iv zc, rv r_IbanRegistry_Kind_LETTER_OR_DIGIT, iv (zc - (48 : Int32)), iv 0, iv (zc - (65 : Int32)), iv 1, iv 1] [(.int zc), (.ref r_IbanRegistry_Kind_LETTER_OR_DIGIT)])) (fun t k => XS.iload X43.here hx rfl (hb hby at_149) rfl  k) ?_
            obtain ⟨cq49, kq49, q49a, q49b, q49c⟩ := isOf hZ e43 E_r_IbanRegistry_Kind_LETTER_OR_DIGIT
            obtain ⟨_, _, ⟨T49, L49, k49, n49⟩, -, X49, ⟨Lc49, hQ49, l49, y49, z49⟩, st49⟩ := X43.virtualBack hx (y := (⟨"com/example/disburse/disburse/core/IbanRegistry$Kind", "admits", "(C)Z"⟩ : MethodName)) (z := (⟨"com/example/disburse/disburse/core/IbanRegistry$Kind", "admits", "(C)Z"⟩ : MethodName)) hown (mvT hZ (hw _ (List.mem_of_getElem? (i := 4) rfl))) (mvT hZ (hw _ (List.mem_of_getElem? (i := 5) rfl))) (notFace_of_selects (args := #[]) (mvT hZ (hw _ (List.mem_of_getElem? (i := 7) rfl)))) (mvT hZ (hw _ (List.mem_of_getElem? (i := 7) rfl))) (mvT hZ (hw _ (List.mem_of_getElem? (i := 6) rfl))) (by decide) (backOf (W := 0) (rmA2 l Z a0 hw [] r_IbanRegistry_Kind_LETTER_OR_DIGIT zc h0 n0 E_r_IbanRegistry_Kind_LETTER_OR_DIGIT F_r_IbanRegistry_Kind_LETTER_OR_DIGIT_ordinal) hZ (hw _ (List.mem_of_getElem? (i := 8) rfl)) (hw _ (List.mem_of_getElem? (i := 2) rfl)) (by decide) (by decide)) q49a q49c (g := (mkF m 151 #[iv pk, iv px, iv pf, iv 2, iv zc, rv r_IbanRegistry_Kind_LETTER_OR_DIGIT, iv (zc - (48 : Int32)), iv 0, iv (zc - (65 : Int32)), iv 1, iv 1] [(.int zc), (.ref r_IbanRegistry_Kind_LETTER_OR_DIGIT)])) rfl (by rw [hml]; rfl) (Steps.refl _) (argsL := [(.int zc)]) (rest := []) (lenOf pd_1 rfl) rfl (by show 2 * 0 + _ ≤ _; exact Nat.le_of_eq rfl) (hb hby at_151) (fun _ _ => ⟨rfl, e43, (by decide : 0 + 0 ≤ _), (by decide : 0 + 0 ≤ _)⟩)
            dsimp only [Pt.U, Pt.locs, Pt.cells, Pt.slots] at X49 l49 y49 z49 st49 hQ49
            subst l49 y49 z49
            obtain ⟨hv49, N49q, e49⟩ := hQ49
            rw [(show (own_lod zc) = (1 : Int32) from by rw [own_lod, if_pos hp44, if_neg hp45, if_neg hp47])] at hv49; subst hv49
            have N49 := Fr.app N0 N49q
            refine Go.pull (V := T49.setTop (mkF m 154 #[iv pk, iv px, iv pf, iv 2, iv zc, rv r_IbanRegistry_Kind_LETTER_OR_DIGIT, iv (zc - (48 : Int32)), iv 0, iv (zc - (65 : Int32)), iv 1, iv 1] [(.int 1)])) (fun _ k => st49.trans k) ?_
            refine Go.pull (V := T49.setTop (mkF m 156 #[iv pk, iv px, iv pf, iv 2, iv zc, rv r_IbanRegistry_Kind_LETTER_OR_DIGIT, iv (zc - (48 : Int32)), iv 0, iv (zc - (65 : Int32)), iv 1, iv 1] [(.int 1), (.int 1)])) (fun t k => XS.iload X49.here hx rfl (hb hby at_154) rfl  k) ?_
            refine Go.pull (V := T49.setTop (mkF m 159 #[iv pk, iv px, iv pf, iv 2, iv zc, rv r_IbanRegistry_Kind_LETTER_OR_DIGIT, iv (zc - (48 : Int32)), iv 0, iv (zc - (65 : Int32)), iv 1, iv 1] [])) (fun t k => XS.icmpNo X49.here hx rfl (hb hby at_156) rfl (XT.ii_ne_f (by decide)) k) ?_
            refine Go.pull (V := T49.setTop (mkF m 160 #[iv pk, iv px, iv pf, iv 2, iv zc, rv r_IbanRegistry_Kind_LETTER_OR_DIGIT, iv (zc - (48 : Int32)), iv 0, iv (zc - (65 : Int32)), iv 1, iv 1] [(.int 1)])) (fun t k => XS.iconst X49.here hx rfl (hb hby at_159) k) ?_
            refine Go.pull (V := T49.setTop (mkF m 164 #[iv pk, iv px, iv pf, iv 2, iv zc, rv r_IbanRegistry_Kind_LETTER_OR_DIGIT, iv (zc - (48 : Int32)), iv 0, iv (zc - (65 : Int32)), iv 1, iv 1] [(.int 1)])) (fun t k => XS.goto X49.here hx rfl (pc0 := 160) (pc' := 164) rfl (hb hby at_160) (by decide) (by decide) k) ?_
            exact Go.retN X49 hx Bd.notSynchronized (t := .boolean) Bd.returns (by simp) (hb hby at_164) ⟨rfl, N49⟩ (by decide) (by decide)
      · skip
        refine Go.pull (V := T43.setTop (mkF m 67 #[iv pk, iv px, iv pf, iv 2, iv zc, rv r_IbanRegistry_Kind_LETTER_OR_DIGIT, iv (zc - (48 : Int32)), .unset, .unset, .unset, .unset] [])) (fun t k => XS.ifNo X43.here hx rfl (hb hby at_64) rfl (XT.i0_lt_f (fun q => hp44 ((own_a (k := 48) hzc (by decide) (by decide)).mp q))) k) ?_
        refine Go.pull (V := T43.setTop (mkF m 69 #[iv pk, iv px, iv pf, iv 2, iv zc, rv r_IbanRegistry_Kind_LETTER_OR_DIGIT, iv (zc - (48 : Int32)), .unset, .unset, .unset, .unset] [(.int (zc - (48 : Int32)))])) (fun t k => XS.iload X43.here hx rfl (hb hby at_67) rfl  k) ?_
        refine Go.pull (V := T43.setTop (mkF m 71 #[iv pk, iv px, iv pf, iv 2, iv zc, rv r_IbanRegistry_Kind_LETTER_OR_DIGIT, iv (zc - (48 : Int32)), .unset, .unset, .unset, .unset] [(.int 10), (.int (zc - (48 : Int32)))])) (fun t k => XS.bipush X43.here hx rfl (hb hby at_69) k) ?_
        by_cases hp50 : (57 : Int32) < zc
        · skip
          refine Go.pull (V := T43.setTop (mkF m 78 #[iv pk, iv px, iv pf, iv 2, iv zc, rv r_IbanRegistry_Kind_LETTER_OR_DIGIT, iv (zc - (48 : Int32)), .unset, .unset, .unset, .unset] [])) (fun t k => XS.icmpYes X43.here hx rfl (pc0 := 71) (pc' := 78) rfl (hb hby at_71) rfl (XT.ii_ge_t (fun q => (own_b (k := 57) hzc (by decide) (by decide)).mp q hp50)) (by decide) (by decide) k) ?_
          refine Go.pull (V := T43.setTop (mkF m 79 #[iv pk, iv px, iv pf, iv 2, iv zc, rv r_IbanRegistry_Kind_LETTER_OR_DIGIT, iv (zc - (48 : Int32)), .unset, .unset, .unset, .unset] [(.int 0)])) (fun t k => XS.iconst X43.here hx rfl (hb hby at_78) k) ?_
          refine Go.pull (V := T43.setTop (mkF m 81 #[iv pk, iv px, iv pf, iv 2, iv zc, rv r_IbanRegistry_Kind_LETTER_OR_DIGIT, iv (zc - (48 : Int32)), iv 0, .unset, .unset, .unset] [])) (fun t k => XS.istore X43.here hx rfl (hb hby at_79) rfl (l' := #[iv pk, iv px, iv pf, iv 2, iv zc, rv r_IbanRegistry_Kind_LETTER_OR_DIGIT, iv (zc - (48 : Int32)), iv 0, .unset, .unset, .unset]) rfl k) ?_
          refine Go.pull (V := T43.setTop (mkF m 83 #[iv pk, iv px, iv pf, iv 2, iv zc, rv r_IbanRegistry_Kind_LETTER_OR_DIGIT, iv (zc - (48 : Int32)), iv 0, .unset, .unset, .unset] [(.int zc)])) (fun t k => XS.iload X43.here hx rfl (hb hby at_81) rfl  k) ?_
          refine Go.pull (V := T43.setTop (mkF m 85 #[iv pk, iv px, iv pf, iv 2, iv zc, rv r_IbanRegistry_Kind_LETTER_OR_DIGIT, iv (zc - (48 : Int32)), iv 0, .unset, .unset, .unset] [(.int 65), (.int zc)])) (fun t k => XS.bipush X43.here hx rfl (hb hby at_83) k) ?_
          refine Go.pull (V := T43.setTop (mkF m 86 #[iv pk, iv px, iv pf, iv 2, iv zc, rv r_IbanRegistry_Kind_LETTER_OR_DIGIT, iv (zc - (48 : Int32)), iv 0, .unset, .unset, .unset] [(.int (zc - (65 : Int32)))])) (fun t k => XS.isub X43.here hx rfl (hb hby at_85) rfl k) ?_
          refine Go.pull (V := T43.setTop (mkF m 88 #[iv pk, iv px, iv pf, iv 2, iv zc, rv r_IbanRegistry_Kind_LETTER_OR_DIGIT, iv (zc - (48 : Int32)), iv 0, iv (zc - (65 : Int32)), .unset, .unset] [])) (fun t k => XS.istore X43.here hx rfl (hb hby at_86) rfl (l' := #[iv pk, iv px, iv pf, iv 2, iv zc, rv r_IbanRegistry_Kind_LETTER_OR_DIGIT, iv (zc - (48 : Int32)), iv 0, iv (zc - (65 : Int32)), .unset, .unset]) rfl k) ?_
          refine Go.pull (V := T43.setTop (mkF m 90 #[iv pk, iv px, iv pf, iv 2, iv zc, rv r_IbanRegistry_Kind_LETTER_OR_DIGIT, iv (zc - (48 : Int32)), iv 0, iv (zc - (65 : Int32)), .unset, .unset] [(.int (zc - (65 : Int32)))])) (fun t k => XS.iload X43.here hx rfl (hb hby at_88) rfl  k) ?_
          by_cases hp51 : zc < (65 : Int32)
          · skip
            refine Go.pull (V := T43.setTop (mkF m 104 #[iv pk, iv px, iv pf, iv 2, iv zc, rv r_IbanRegistry_Kind_LETTER_OR_DIGIT, iv (zc - (48 : Int32)), iv 0, iv (zc - (65 : Int32)), .unset, .unset] [])) (fun t k => XS.ifYes X43.here hx rfl (pc0 := 90) (pc' := 104) rfl (hb hby at_90) rfl (XT.i0_lt_t ((own_a (k := 65) hzc (by decide) (by decide)).mpr hp51)) (by decide) (by decide) k) ?_
            refine Go.pull (V := T43.setTop (mkF m 105 #[iv pk, iv px, iv pf, iv 2, iv zc, rv r_IbanRegistry_Kind_LETTER_OR_DIGIT, iv (zc - (48 : Int32)), iv 0, iv (zc - (65 : Int32)), .unset, .unset] [(.int 0)])) (fun t k => XS.iconst X43.here hx rfl (hb hby at_104) k) ?_
            refine Go.pull (V := T43.setTop (mkF m 107 #[iv pk, iv px, iv pf, iv 2, iv zc, rv r_IbanRegistry_Kind_LETTER_OR_DIGIT, iv (zc - (48 : Int32)), iv 0, iv (zc - (65 : Int32)), iv 0, .unset] [])) (fun t k => XS.istore X43.here hx rfl (hb hby at_105) rfl (l' := #[iv pk, iv px, iv pf, iv 2, iv zc, rv r_IbanRegistry_Kind_LETTER_OR_DIGIT, iv (zc - (48 : Int32)), iv 0, iv (zc - (65 : Int32)), iv 0, .unset]) rfl k) ?_
            refine Go.pull (V := T43.setTop (mkF m 108 #[iv pk, iv px, iv pf, iv 2, iv zc, rv r_IbanRegistry_Kind_LETTER_OR_DIGIT, iv (zc - (48 : Int32)), iv 0, iv (zc - (65 : Int32)), iv 0, .unset] [(.int 2)])) (fun t k => XS.iloadN X43.here hx rfl (hb hby at_107) rfl  k) ?_
            refine Go.pull (V := T43.setTop (mkF m 118 #[iv pk, iv px, iv pf, iv 2, iv zc, rv r_IbanRegistry_Kind_LETTER_OR_DIGIT, iv (zc - (48 : Int32)), iv 0, iv (zc - (65 : Int32)), iv 0, .unset] [])) (fun t k => XS.ifYes X43.here hx rfl (pc0 := 108) (pc' := 118) rfl (hb hby at_108) rfl (XT.i0_ne_t (by decide)) (by decide) (by decide) k) ?_
            refine Go.pull (V := T43.setTop (mkF m 119 #[iv pk, iv px, iv pf, iv 2, iv zc, rv r_IbanRegistry_Kind_LETTER_OR_DIGIT, iv (zc - (48 : Int32)), iv 0, iv (zc - (65 : Int32)), iv 0, .unset] [(.int 2)])) (fun t k => XS.iloadN X43.here hx rfl (hb hby at_118) rfl  k) ?_
            refine Go.pull (V := T43.setTop (mkF m 120 #[iv pk, iv px, iv pf, iv 2, iv zc, rv r_IbanRegistry_Kind_LETTER_OR_DIGIT, iv (zc - (48 : Int32)), iv 0, iv (zc - (65 : Int32)), iv 0, .unset] [(.int 1), (.int 2)])) (fun t k => XS.iconst X43.here hx rfl (hb hby at_119) k) ?_
            refine Go.pull (V := T43.setTop (mkF m 130 #[iv pk, iv px, iv pf, iv 2, iv zc, rv r_IbanRegistry_Kind_LETTER_OR_DIGIT, iv (zc - (48 : Int32)), iv 0, iv (zc - (65 : Int32)), iv 0, .unset] [])) (fun t k => XS.icmpYes X43.here hx rfl (pc0 := 120) (pc' := 130) rfl (hb hby at_120) rfl (XT.ii_ne_t (by decide)) (by decide) (by decide) k) ?_
            refine Go.pull (V := T43.setTop (mkF m 132 #[iv pk, iv px, iv pf, iv 2, iv zc, rv r_IbanRegistry_Kind_LETTER_OR_DIGIT, iv (zc - (48 : Int32)), iv 0, iv (zc - (65 : Int32)), iv 0, .unset] [(.int 0)])) (fun t k => XS.iload X43.here hx rfl (hb hby at_130) rfl  k) ?_
            refine Go.pull (V := T43.setTop (mkF m 135 #[iv pk, iv px, iv pf, iv 2, iv zc, rv r_IbanRegistry_Kind_LETTER_OR_DIGIT, iv (zc - (48 : Int32)), iv 0, iv (zc - (65 : Int32)), iv 0, .unset] [])) (fun t k => XS.ifNo X43.here hx rfl (hb hby at_132) rfl (XT.i0_ne_f (by decide)) k) ?_
            refine Go.pull (V := T43.setTop (mkF m 137 #[iv pk, iv px, iv pf, iv 2, iv zc, rv r_IbanRegistry_Kind_LETTER_OR_DIGIT, iv (zc - (48 : Int32)), iv 0, iv (zc - (65 : Int32)), iv 0, .unset] [(.int 0)])) (fun t k => XS.iload X43.here hx rfl (hb hby at_135) rfl  k) ?_
            refine Go.pull (V := T43.setTop (mkF m 144 #[iv pk, iv px, iv pf, iv 2, iv zc, rv r_IbanRegistry_Kind_LETTER_OR_DIGIT, iv (zc - (48 : Int32)), iv 0, iv (zc - (65 : Int32)), iv 0, .unset] [])) (fun t k => XS.ifYes X43.here hx rfl (pc0 := 137) (pc' := 144) rfl (hb hby at_137) rfl (XT.i0_eq_t (by decide)) (by decide) (by decide) k) ?_
            refine Go.pull (V := T43.setTop (mkF m 145 #[iv pk, iv px, iv pf, iv 2, iv zc, rv r_IbanRegistry_Kind_LETTER_OR_DIGIT, iv (zc - (48 : Int32)), iv 0, iv (zc - (65 : Int32)), iv 0, .unset] [(.int 0)])) (fun t k => XS.iconst X43.here hx rfl (hb hby at_144) k) ?_
            refine Go.pull (V := T43.setTop (mkF m 147 #[iv pk, iv px, iv pf, iv 2, iv zc, rv r_IbanRegistry_Kind_LETTER_OR_DIGIT, iv (zc - (48 : Int32)), iv 0, iv (zc - (65 : Int32)), iv 0, iv 0] [])) (fun t k => XS.istore X43.here hx rfl (hb hby at_145) rfl (l' := #[iv pk, iv px, iv pf, iv 2, iv zc, rv r_IbanRegistry_Kind_LETTER_OR_DIGIT, iv (zc - (48 : Int32)), iv 0, iv (zc - (65 : Int32)), iv 0, iv 0]) rfl k) ?_
            refine Go.pull (V := T43.setTop (mkF m 149 #[iv pk, iv px, iv pf, iv 2, iv zc, rv r_IbanRegistry_Kind_LETTER_OR_DIGIT, iv (zc - (48 : Int32)), iv 0, iv (zc - (65 : Int32)), iv 0, iv 0] [(.ref r_IbanRegistry_Kind_LETTER_OR_DIGIT)])) (fun t k => XS.aload X43.here hx rfl (hb hby at_147) rfl rfl k) ?_
            refine Go.pull (V := T43.setTop (mkF m 151 #[iv pk, iv px, iv pf, iv 2, iv zc, rv r_IbanRegistry_Kind_LETTER_OR_DIGIT, iv (zc - (48 : Int32)), iv 0, iv (zc - (65 : Int32)), iv 0, iv 0] [(.int zc), (.ref r_IbanRegistry_Kind_LETTER_OR_DIGIT)])) (fun t k => XS.iload X43.here hx rfl (hb hby at_149) rfl  k) ?_
            obtain ⟨cq52, kq52, q52a, q52b, q52c⟩ := isOf hZ e43 E_r_IbanRegistry_Kind_LETTER_OR_DIGIT
            obtain ⟨_, _, ⟨T52, L52, k52, n52⟩, -, X52, ⟨Lc52, hQ52, l52, y52, z52⟩, st52⟩ := X43.virtualBack hx (y := (⟨"com/example/disburse/disburse/core/IbanRegistry$Kind", "admits", "(C)Z"⟩ : MethodName)) (z := (⟨"com/example/disburse/disburse/core/IbanRegistry$Kind", "admits", "(C)Z"⟩ : MethodName)) hown (mvT hZ (hw _ (List.mem_of_getElem? (i := 4) rfl))) (mvT hZ (hw _ (List.mem_of_getElem? (i := 5) rfl))) (notFace_of_selects (args := #[]) (mvT hZ (hw _ (List.mem_of_getElem? (i := 7) rfl)))) (mvT hZ (hw _ (List.mem_of_getElem? (i := 7) rfl))) (mvT hZ (hw _ (List.mem_of_getElem? (i := 6) rfl))) (by decide) (backOf (W := 0) (rmA2 l Z a0 hw [] r_IbanRegistry_Kind_LETTER_OR_DIGIT zc h0 n0 E_r_IbanRegistry_Kind_LETTER_OR_DIGIT F_r_IbanRegistry_Kind_LETTER_OR_DIGIT_ordinal) hZ (hw _ (List.mem_of_getElem? (i := 8) rfl)) (hw _ (List.mem_of_getElem? (i := 2) rfl)) (by decide) (by decide)) q52a q52c (g := (mkF m 151 #[iv pk, iv px, iv pf, iv 2, iv zc, rv r_IbanRegistry_Kind_LETTER_OR_DIGIT, iv (zc - (48 : Int32)), iv 0, iv (zc - (65 : Int32)), iv 0, iv 0] [(.int zc), (.ref r_IbanRegistry_Kind_LETTER_OR_DIGIT)])) rfl (by rw [hml]; rfl) (Steps.refl _) (argsL := [(.int zc)]) (rest := []) (lenOf pd_1 rfl) rfl (by show 2 * 0 + _ ≤ _; exact Nat.le_of_eq rfl) (hb hby at_151) (fun _ _ => ⟨rfl, e43, (by decide : 0 + 0 ≤ _), (by decide : 0 + 0 ≤ _)⟩)
            dsimp only [Pt.U, Pt.locs, Pt.cells, Pt.slots] at X52 l52 y52 z52 st52 hQ52
            subst l52 y52 z52
            obtain ⟨hv52, N52q, e52⟩ := hQ52
            rw [(show (own_lod zc) = (0 : Int32) from by rw [own_lod, if_neg hp44, if_pos hp50, if_pos hp51])] at hv52; subst hv52
            have N52 := Fr.app N0 N52q
            refine Go.pull (V := T52.setTop (mkF m 154 #[iv pk, iv px, iv pf, iv 2, iv zc, rv r_IbanRegistry_Kind_LETTER_OR_DIGIT, iv (zc - (48 : Int32)), iv 0, iv (zc - (65 : Int32)), iv 0, iv 0] [(.int 0)])) (fun _ k => st52.trans k) ?_
            refine Go.pull (V := T52.setTop (mkF m 156 #[iv pk, iv px, iv pf, iv 2, iv zc, rv r_IbanRegistry_Kind_LETTER_OR_DIGIT, iv (zc - (48 : Int32)), iv 0, iv (zc - (65 : Int32)), iv 0, iv 0] [(.int 0), (.int 0)])) (fun t k => XS.iload X52.here hx rfl (hb hby at_154) rfl  k) ?_
            refine Go.pull (V := T52.setTop (mkF m 159 #[iv pk, iv px, iv pf, iv 2, iv zc, rv r_IbanRegistry_Kind_LETTER_OR_DIGIT, iv (zc - (48 : Int32)), iv 0, iv (zc - (65 : Int32)), iv 0, iv 0] [])) (fun t k => XS.icmpNo X52.here hx rfl (hb hby at_156) rfl (XT.ii_ne_f (by decide)) k) ?_
            refine Go.pull (V := T52.setTop (mkF m 160 #[iv pk, iv px, iv pf, iv 2, iv zc, rv r_IbanRegistry_Kind_LETTER_OR_DIGIT, iv (zc - (48 : Int32)), iv 0, iv (zc - (65 : Int32)), iv 0, iv 0] [(.int 1)])) (fun t k => XS.iconst X52.here hx rfl (hb hby at_159) k) ?_
            refine Go.pull (V := T52.setTop (mkF m 164 #[iv pk, iv px, iv pf, iv 2, iv zc, rv r_IbanRegistry_Kind_LETTER_OR_DIGIT, iv (zc - (48 : Int32)), iv 0, iv (zc - (65 : Int32)), iv 0, iv 0] [(.int 1)])) (fun t k => XS.goto X52.here hx rfl (pc0 := 160) (pc' := 164) rfl (hb hby at_160) (by decide) (by decide) k) ?_
            exact Go.retN X52 hx Bd.notSynchronized (t := .boolean) Bd.returns (by simp) (hb hby at_164) ⟨rfl, N52⟩ (by decide) (by decide)
          · skip
            refine Go.pull (V := T43.setTop (mkF m 93 #[iv pk, iv px, iv pf, iv 2, iv zc, rv r_IbanRegistry_Kind_LETTER_OR_DIGIT, iv (zc - (48 : Int32)), iv 0, iv (zc - (65 : Int32)), .unset, .unset] [])) (fun t k => XS.ifNo X43.here hx rfl (hb hby at_90) rfl (XT.i0_lt_f (fun q => hp51 ((own_a (k := 65) hzc (by decide) (by decide)).mp q))) k) ?_
            refine Go.pull (V := T43.setTop (mkF m 95 #[iv pk, iv px, iv pf, iv 2, iv zc, rv r_IbanRegistry_Kind_LETTER_OR_DIGIT, iv (zc - (48 : Int32)), iv 0, iv (zc - (65 : Int32)), .unset, .unset] [(.int (zc - (65 : Int32)))])) (fun t k => XS.iload X43.here hx rfl (hb hby at_93) rfl  k) ?_
            refine Go.pull (V := T43.setTop (mkF m 97 #[iv pk, iv px, iv pf, iv 2, iv zc, rv r_IbanRegistry_Kind_LETTER_OR_DIGIT, iv (zc - (48 : Int32)), iv 0, iv (zc - (65 : Int32)), .unset, .unset] [(.int 26), (.int (zc - (65 : Int32)))])) (fun t k => XS.bipush X43.here hx rfl (hb hby at_95) k) ?_
            by_cases hp53 : (90 : Int32) < zc
            · skip
              refine Go.pull (V := T43.setTop (mkF m 104 #[iv pk, iv px, iv pf, iv 2, iv zc, rv r_IbanRegistry_Kind_LETTER_OR_DIGIT, iv (zc - (48 : Int32)), iv 0, iv (zc - (65 : Int32)), .unset, .unset] [])) (fun t k => XS.icmpYes X43.here hx rfl (pc0 := 97) (pc' := 104) rfl (hb hby at_97) rfl (XT.ii_ge_t (fun q => (own_b (k := 90) hzc (by decide) (by decide)).mp q hp53)) (by decide) (by decide) k) ?_
              refine Go.pull (V := T43.setTop (mkF m 105 #[iv pk, iv px, iv pf, iv 2, iv zc, rv r_IbanRegistry_Kind_LETTER_OR_DIGIT, iv (zc - (48 : Int32)), iv 0, iv (zc - (65 : Int32)), .unset, .unset] [(.int 0)])) (fun t k => XS.iconst X43.here hx rfl (hb hby at_104) k) ?_
              refine Go.pull (V := T43.setTop (mkF m 107 #[iv pk, iv px, iv pf, iv 2, iv zc, rv r_IbanRegistry_Kind_LETTER_OR_DIGIT, iv (zc - (48 : Int32)), iv 0, iv (zc - (65 : Int32)), iv 0, .unset] [])) (fun t k => XS.istore X43.here hx rfl (hb hby at_105) rfl (l' := #[iv pk, iv px, iv pf, iv 2, iv zc, rv r_IbanRegistry_Kind_LETTER_OR_DIGIT, iv (zc - (48 : Int32)), iv 0, iv (zc - (65 : Int32)), iv 0, .unset]) rfl k) ?_
              refine Go.pull (V := T43.setTop (mkF m 108 #[iv pk, iv px, iv pf, iv 2, iv zc, rv r_IbanRegistry_Kind_LETTER_OR_DIGIT, iv (zc - (48 : Int32)), iv 0, iv (zc - (65 : Int32)), iv 0, .unset] [(.int 2)])) (fun t k => XS.iloadN X43.here hx rfl (hb hby at_107) rfl  k) ?_
              refine Go.pull (V := T43.setTop (mkF m 118 #[iv pk, iv px, iv pf, iv 2, iv zc, rv r_IbanRegistry_Kind_LETTER_OR_DIGIT, iv (zc - (48 : Int32)), iv 0, iv (zc - (65 : Int32)), iv 0, .unset] [])) (fun t k => XS.ifYes X43.here hx rfl (pc0 := 108) (pc' := 118) rfl (hb hby at_108) rfl (XT.i0_ne_t (by decide)) (by decide) (by decide) k) ?_
              refine Go.pull (V := T43.setTop (mkF m 119 #[iv pk, iv px, iv pf, iv 2, iv zc, rv r_IbanRegistry_Kind_LETTER_OR_DIGIT, iv (zc - (48 : Int32)), iv 0, iv (zc - (65 : Int32)), iv 0, .unset] [(.int 2)])) (fun t k => XS.iloadN X43.here hx rfl (hb hby at_118) rfl  k) ?_
              refine Go.pull (V := T43.setTop (mkF m 120 #[iv pk, iv px, iv pf, iv 2, iv zc, rv r_IbanRegistry_Kind_LETTER_OR_DIGIT, iv (zc - (48 : Int32)), iv 0, iv (zc - (65 : Int32)), iv 0, .unset] [(.int 1), (.int 2)])) (fun t k => XS.iconst X43.here hx rfl (hb hby at_119) k) ?_
              refine Go.pull (V := T43.setTop (mkF m 130 #[iv pk, iv px, iv pf, iv 2, iv zc, rv r_IbanRegistry_Kind_LETTER_OR_DIGIT, iv (zc - (48 : Int32)), iv 0, iv (zc - (65 : Int32)), iv 0, .unset] [])) (fun t k => XS.icmpYes X43.here hx rfl (pc0 := 120) (pc' := 130) rfl (hb hby at_120) rfl (XT.ii_ne_t (by decide)) (by decide) (by decide) k) ?_
              refine Go.pull (V := T43.setTop (mkF m 132 #[iv pk, iv px, iv pf, iv 2, iv zc, rv r_IbanRegistry_Kind_LETTER_OR_DIGIT, iv (zc - (48 : Int32)), iv 0, iv (zc - (65 : Int32)), iv 0, .unset] [(.int 0)])) (fun t k => XS.iload X43.here hx rfl (hb hby at_130) rfl  k) ?_
              refine Go.pull (V := T43.setTop (mkF m 135 #[iv pk, iv px, iv pf, iv 2, iv zc, rv r_IbanRegistry_Kind_LETTER_OR_DIGIT, iv (zc - (48 : Int32)), iv 0, iv (zc - (65 : Int32)), iv 0, .unset] [])) (fun t k => XS.ifNo X43.here hx rfl (hb hby at_132) rfl (XT.i0_ne_f (by decide)) k) ?_
              refine Go.pull (V := T43.setTop (mkF m 137 #[iv pk, iv px, iv pf, iv 2, iv zc, rv r_IbanRegistry_Kind_LETTER_OR_DIGIT, iv (zc - (48 : Int32)), iv 0, iv (zc - (65 : Int32)), iv 0, .unset] [(.int 0)])) (fun t k => XS.iload X43.here hx rfl (hb hby at_135) rfl  k) ?_
              refine Go.pull (V := T43.setTop (mkF m 144 #[iv pk, iv px, iv pf, iv 2, iv zc, rv r_IbanRegistry_Kind_LETTER_OR_DIGIT, iv (zc - (48 : Int32)), iv 0, iv (zc - (65 : Int32)), iv 0, .unset] [])) (fun t k => XS.ifYes X43.here hx rfl (pc0 := 137) (pc' := 144) rfl (hb hby at_137) rfl (XT.i0_eq_t (by decide)) (by decide) (by decide) k) ?_
              refine Go.pull (V := T43.setTop (mkF m 145 #[iv pk, iv px, iv pf, iv 2, iv zc, rv r_IbanRegistry_Kind_LETTER_OR_DIGIT, iv (zc - (48 : Int32)), iv 0, iv (zc - (65 : Int32)), iv 0, .unset] [(.int 0)])) (fun t k => XS.iconst X43.here hx rfl (hb hby at_144) k) ?_
              refine Go.pull (V := T43.setTop (mkF m 147 #[iv pk, iv px, iv pf, iv 2, iv zc, rv r_IbanRegistry_Kind_LETTER_OR_DIGIT, iv (zc - (48 : Int32)), iv 0, iv (zc - (65 : Int32)), iv 0, iv 0] [])) (fun t k => XS.istore X43.here hx rfl (hb hby at_145) rfl (l' := #[iv pk, iv px, iv pf, iv 2, iv zc, rv r_IbanRegistry_Kind_LETTER_OR_DIGIT, iv (zc - (48 : Int32)), iv 0, iv (zc - (65 : Int32)), iv 0, iv 0]) rfl k) ?_
              refine Go.pull (V := T43.setTop (mkF m 149 #[iv pk, iv px, iv pf, iv 2, iv zc, rv r_IbanRegistry_Kind_LETTER_OR_DIGIT, iv (zc - (48 : Int32)), iv 0, iv (zc - (65 : Int32)), iv 0, iv 0] [(.ref r_IbanRegistry_Kind_LETTER_OR_DIGIT)])) (fun t k => XS.aload X43.here hx rfl (hb hby at_147) rfl rfl k) ?_
              refine Go.pull (V := T43.setTop (mkF m 151 #[iv pk, iv px, iv pf, iv 2, iv zc, rv r_IbanRegistry_Kind_LETTER_OR_DIGIT, iv (zc - (48 : Int32)), iv 0, iv (zc - (65 : Int32)), iv 0, iv 0] [(.int zc), (.ref r_IbanRegistry_Kind_LETTER_OR_DIGIT)])) (fun t k => XS.iload X43.here hx rfl (hb hby at_149) rfl  k) ?_
              obtain ⟨cq54, kq54, q54a, q54b, q54c⟩ := isOf hZ e43 E_r_IbanRegistry_Kind_LETTER_OR_DIGIT
              obtain ⟨_, _, ⟨T54, L54, k54, n54⟩, -, X54, ⟨Lc54, hQ54, l54, y54, z54⟩, st54⟩ := X43.virtualBack hx (y := (⟨"com/example/disburse/disburse/core/IbanRegistry$Kind", "admits", "(C)Z"⟩ : MethodName)) (z := (⟨"com/example/disburse/disburse/core/IbanRegistry$Kind", "admits", "(C)Z"⟩ : MethodName)) hown (mvT hZ (hw _ (List.mem_of_getElem? (i := 4) rfl))) (mvT hZ (hw _ (List.mem_of_getElem? (i := 5) rfl))) (notFace_of_selects (args := #[]) (mvT hZ (hw _ (List.mem_of_getElem? (i := 7) rfl)))) (mvT hZ (hw _ (List.mem_of_getElem? (i := 7) rfl))) (mvT hZ (hw _ (List.mem_of_getElem? (i := 6) rfl))) (by decide) (backOf (W := 0) (rmA2 l Z a0 hw [] r_IbanRegistry_Kind_LETTER_OR_DIGIT zc h0 n0 E_r_IbanRegistry_Kind_LETTER_OR_DIGIT F_r_IbanRegistry_Kind_LETTER_OR_DIGIT_ordinal) hZ (hw _ (List.mem_of_getElem? (i := 8) rfl)) (hw _ (List.mem_of_getElem? (i := 2) rfl)) (by decide) (by decide)) q54a q54c (g := (mkF m 151 #[iv pk, iv px, iv pf, iv 2, iv zc, rv r_IbanRegistry_Kind_LETTER_OR_DIGIT, iv (zc - (48 : Int32)), iv 0, iv (zc - (65 : Int32)), iv 0, iv 0] [(.int zc), (.ref r_IbanRegistry_Kind_LETTER_OR_DIGIT)])) rfl (by rw [hml]; rfl) (Steps.refl _) (argsL := [(.int zc)]) (rest := []) (lenOf pd_1 rfl) rfl (by show 2 * 0 + _ ≤ _; exact Nat.le_of_eq rfl) (hb hby at_151) (fun _ _ => ⟨rfl, e43, (by decide : 0 + 0 ≤ _), (by decide : 0 + 0 ≤ _)⟩)
              dsimp only [Pt.U, Pt.locs, Pt.cells, Pt.slots] at X54 l54 y54 z54 st54 hQ54
              subst l54 y54 z54
              obtain ⟨hv54, N54q, e54⟩ := hQ54
              rw [(show (own_lod zc) = (0 : Int32) from by rw [own_lod, if_neg hp44, if_pos hp50, if_neg hp51, if_pos hp53])] at hv54; subst hv54
              have N54 := Fr.app N0 N54q
              refine Go.pull (V := T54.setTop (mkF m 154 #[iv pk, iv px, iv pf, iv 2, iv zc, rv r_IbanRegistry_Kind_LETTER_OR_DIGIT, iv (zc - (48 : Int32)), iv 0, iv (zc - (65 : Int32)), iv 0, iv 0] [(.int 0)])) (fun _ k => st54.trans k) ?_
              refine Go.pull (V := T54.setTop (mkF m 156 #[iv pk, iv px, iv pf, iv 2, iv zc, rv r_IbanRegistry_Kind_LETTER_OR_DIGIT, iv (zc - (48 : Int32)), iv 0, iv (zc - (65 : Int32)), iv 0, iv 0] [(.int 0), (.int 0)])) (fun t k => XS.iload X54.here hx rfl (hb hby at_154) rfl  k) ?_
              refine Go.pull (V := T54.setTop (mkF m 159 #[iv pk, iv px, iv pf, iv 2, iv zc, rv r_IbanRegistry_Kind_LETTER_OR_DIGIT, iv (zc - (48 : Int32)), iv 0, iv (zc - (65 : Int32)), iv 0, iv 0] [])) (fun t k => XS.icmpNo X54.here hx rfl (hb hby at_156) rfl (XT.ii_ne_f (by decide)) k) ?_
              refine Go.pull (V := T54.setTop (mkF m 160 #[iv pk, iv px, iv pf, iv 2, iv zc, rv r_IbanRegistry_Kind_LETTER_OR_DIGIT, iv (zc - (48 : Int32)), iv 0, iv (zc - (65 : Int32)), iv 0, iv 0] [(.int 1)])) (fun t k => XS.iconst X54.here hx rfl (hb hby at_159) k) ?_
              refine Go.pull (V := T54.setTop (mkF m 164 #[iv pk, iv px, iv pf, iv 2, iv zc, rv r_IbanRegistry_Kind_LETTER_OR_DIGIT, iv (zc - (48 : Int32)), iv 0, iv (zc - (65 : Int32)), iv 0, iv 0] [(.int 1)])) (fun t k => XS.goto X54.here hx rfl (pc0 := 160) (pc' := 164) rfl (hb hby at_160) (by decide) (by decide) k) ?_
              exact Go.retN X54 hx Bd.notSynchronized (t := .boolean) Bd.returns (by simp) (hb hby at_164) ⟨rfl, N54⟩ (by decide) (by decide)
            · skip
              refine Go.pull (V := T43.setTop (mkF m 100 #[iv pk, iv px, iv pf, iv 2, iv zc, rv r_IbanRegistry_Kind_LETTER_OR_DIGIT, iv (zc - (48 : Int32)), iv 0, iv (zc - (65 : Int32)), .unset, .unset] [])) (fun t k => XS.icmpNo X43.here hx rfl (hb hby at_97) rfl (XT.ii_ge_f ((own_b (k := 90) hzc (by decide) (by decide)).mpr hp53)) k) ?_
              refine Go.pull (V := T43.setTop (mkF m 101 #[iv pk, iv px, iv pf, iv 2, iv zc, rv r_IbanRegistry_Kind_LETTER_OR_DIGIT, iv (zc - (48 : Int32)), iv 0, iv (zc - (65 : Int32)), .unset, .unset] [(.int 1)])) (fun t k => XS.iconst X43.here hx rfl (hb hby at_100) k) ?_
              refine Go.pull (V := T43.setTop (mkF m 105 #[iv pk, iv px, iv pf, iv 2, iv zc, rv r_IbanRegistry_Kind_LETTER_OR_DIGIT, iv (zc - (48 : Int32)), iv 0, iv (zc - (65 : Int32)), .unset, .unset] [(.int 1)])) (fun t k => XS.goto X43.here hx rfl (pc0 := 101) (pc' := 105) rfl (hb hby at_101) (by decide) (by decide) k) ?_
              refine Go.pull (V := T43.setTop (mkF m 107 #[iv pk, iv px, iv pf, iv 2, iv zc, rv r_IbanRegistry_Kind_LETTER_OR_DIGIT, iv (zc - (48 : Int32)), iv 0, iv (zc - (65 : Int32)), iv 1, .unset] [])) (fun t k => XS.istore X43.here hx rfl (hb hby at_105) rfl (l' := #[iv pk, iv px, iv pf, iv 2, iv zc, rv r_IbanRegistry_Kind_LETTER_OR_DIGIT, iv (zc - (48 : Int32)), iv 0, iv (zc - (65 : Int32)), iv 1, .unset]) rfl k) ?_
              refine Go.pull (V := T43.setTop (mkF m 108 #[iv pk, iv px, iv pf, iv 2, iv zc, rv r_IbanRegistry_Kind_LETTER_OR_DIGIT, iv (zc - (48 : Int32)), iv 0, iv (zc - (65 : Int32)), iv 1, .unset] [(.int 2)])) (fun t k => XS.iloadN X43.here hx rfl (hb hby at_107) rfl  k) ?_
              refine Go.pull (V := T43.setTop (mkF m 118 #[iv pk, iv px, iv pf, iv 2, iv zc, rv r_IbanRegistry_Kind_LETTER_OR_DIGIT, iv (zc - (48 : Int32)), iv 0, iv (zc - (65 : Int32)), iv 1, .unset] [])) (fun t k => XS.ifYes X43.here hx rfl (pc0 := 108) (pc' := 118) rfl (hb hby at_108) rfl (XT.i0_ne_t (by decide)) (by decide) (by decide) k) ?_
              refine Go.pull (V := T43.setTop (mkF m 119 #[iv pk, iv px, iv pf, iv 2, iv zc, rv r_IbanRegistry_Kind_LETTER_OR_DIGIT, iv (zc - (48 : Int32)), iv 0, iv (zc - (65 : Int32)), iv 1, .unset] [(.int 2)])) (fun t k => XS.iloadN X43.here hx rfl (hb hby at_118) rfl  k) ?_
              refine Go.pull (V := T43.setTop (mkF m 120 #[iv pk, iv px, iv pf, iv 2, iv zc, rv r_IbanRegistry_Kind_LETTER_OR_DIGIT, iv (zc - (48 : Int32)), iv 0, iv (zc - (65 : Int32)), iv 1, .unset] [(.int 1), (.int 2)])) (fun t k => XS.iconst X43.here hx rfl (hb hby at_119) k) ?_
              refine Go.pull (V := T43.setTop (mkF m 130 #[iv pk, iv px, iv pf, iv 2, iv zc, rv r_IbanRegistry_Kind_LETTER_OR_DIGIT, iv (zc - (48 : Int32)), iv 0, iv (zc - (65 : Int32)), iv 1, .unset] [])) (fun t k => XS.icmpYes X43.here hx rfl (pc0 := 120) (pc' := 130) rfl (hb hby at_120) rfl (XT.ii_ne_t (by decide)) (by decide) (by decide) k) ?_
              refine Go.pull (V := T43.setTop (mkF m 132 #[iv pk, iv px, iv pf, iv 2, iv zc, rv r_IbanRegistry_Kind_LETTER_OR_DIGIT, iv (zc - (48 : Int32)), iv 0, iv (zc - (65 : Int32)), iv 1, .unset] [(.int 0)])) (fun t k => XS.iload X43.here hx rfl (hb hby at_130) rfl  k) ?_
              refine Go.pull (V := T43.setTop (mkF m 135 #[iv pk, iv px, iv pf, iv 2, iv zc, rv r_IbanRegistry_Kind_LETTER_OR_DIGIT, iv (zc - (48 : Int32)), iv 0, iv (zc - (65 : Int32)), iv 1, .unset] [])) (fun t k => XS.ifNo X43.here hx rfl (hb hby at_132) rfl (XT.i0_ne_f (by decide)) k) ?_
              refine Go.pull (V := T43.setTop (mkF m 137 #[iv pk, iv px, iv pf, iv 2, iv zc, rv r_IbanRegistry_Kind_LETTER_OR_DIGIT, iv (zc - (48 : Int32)), iv 0, iv (zc - (65 : Int32)), iv 1, .unset] [(.int 1)])) (fun t k => XS.iload X43.here hx rfl (hb hby at_135) rfl  k) ?_
              refine Go.pull (V := T43.setTop (mkF m 140 #[iv pk, iv px, iv pf, iv 2, iv zc, rv r_IbanRegistry_Kind_LETTER_OR_DIGIT, iv (zc - (48 : Int32)), iv 0, iv (zc - (65 : Int32)), iv 1, .unset] [])) (fun t k => XS.ifNo X43.here hx rfl (hb hby at_137) rfl (XT.i0_eq_f (by decide)) k) ?_
              refine Go.pull (V := T43.setTop (mkF m 141 #[iv pk, iv px, iv pf, iv 2, iv zc, rv r_IbanRegistry_Kind_LETTER_OR_DIGIT, iv (zc - (48 : Int32)), iv 0, iv (zc - (65 : Int32)), iv 1, .unset] [(.int 1)])) (fun t k => XS.iconst X43.here hx rfl (hb hby at_140) k) ?_
              refine Go.pull (V := T43.setTop (mkF m 145 #[iv pk, iv px, iv pf, iv 2, iv zc, rv r_IbanRegistry_Kind_LETTER_OR_DIGIT, iv (zc - (48 : Int32)), iv 0, iv (zc - (65 : Int32)), iv 1, .unset] [(.int 1)])) (fun t k => XS.goto X43.here hx rfl (pc0 := 141) (pc' := 145) rfl (hb hby at_141) (by decide) (by decide) k) ?_
              refine Go.pull (V := T43.setTop (mkF m 147 #[iv pk, iv px, iv pf, iv 2, iv zc, rv r_IbanRegistry_Kind_LETTER_OR_DIGIT, iv (zc - (48 : Int32)), iv 0, iv (zc - (65 : Int32)), iv 1, iv 1] [])) (fun t k => XS.istore X43.here hx rfl (hb hby at_145) rfl (l' := #[iv pk, iv px, iv pf, iv 2, iv zc, rv r_IbanRegistry_Kind_LETTER_OR_DIGIT, iv (zc - (48 : Int32)), iv 0, iv (zc - (65 : Int32)), iv 1, iv 1]) rfl k) ?_
              refine Go.pull (V := T43.setTop (mkF m 149 #[iv pk, iv px, iv pf, iv 2, iv zc, rv r_IbanRegistry_Kind_LETTER_OR_DIGIT, iv (zc - (48 : Int32)), iv 0, iv (zc - (65 : Int32)), iv 1, iv 1] [(.ref r_IbanRegistry_Kind_LETTER_OR_DIGIT)])) (fun t k => XS.aload X43.here hx rfl (hb hby at_147) rfl rfl k) ?_
              refine Go.pull (V := T43.setTop (mkF m 151 #[iv pk, iv px, iv pf, iv 2, iv zc, rv r_IbanRegistry_Kind_LETTER_OR_DIGIT, iv (zc - (48 : Int32)), iv 0, iv (zc - (65 : Int32)), iv 1, iv 1] [(.int zc), (.ref r_IbanRegistry_Kind_LETTER_OR_DIGIT)])) (fun t k => XS.iload X43.here hx rfl (hb hby at_149) rfl  k) ?_
              obtain ⟨cq55, kq55, q55a, q55b, q55c⟩ := isOf hZ e43 E_r_IbanRegistry_Kind_LETTER_OR_DIGIT
              obtain ⟨_, _, ⟨T55, L55, k55, n55⟩, -, X55, ⟨Lc55, hQ55, l55, y55, z55⟩, st55⟩ := X43.virtualBack hx (y := (⟨"com/example/disburse/disburse/core/IbanRegistry$Kind", "admits", "(C)Z"⟩ : MethodName)) (z := (⟨"com/example/disburse/disburse/core/IbanRegistry$Kind", "admits", "(C)Z"⟩ : MethodName)) hown (mvT hZ (hw _ (List.mem_of_getElem? (i := 4) rfl))) (mvT hZ (hw _ (List.mem_of_getElem? (i := 5) rfl))) (notFace_of_selects (args := #[]) (mvT hZ (hw _ (List.mem_of_getElem? (i := 7) rfl)))) (mvT hZ (hw _ (List.mem_of_getElem? (i := 7) rfl))) (mvT hZ (hw _ (List.mem_of_getElem? (i := 6) rfl))) (by decide) (backOf (W := 0) (rmA2 l Z a0 hw [] r_IbanRegistry_Kind_LETTER_OR_DIGIT zc h0 n0 E_r_IbanRegistry_Kind_LETTER_OR_DIGIT F_r_IbanRegistry_Kind_LETTER_OR_DIGIT_ordinal) hZ (hw _ (List.mem_of_getElem? (i := 8) rfl)) (hw _ (List.mem_of_getElem? (i := 2) rfl)) (by decide) (by decide)) q55a q55c (g := (mkF m 151 #[iv pk, iv px, iv pf, iv 2, iv zc, rv r_IbanRegistry_Kind_LETTER_OR_DIGIT, iv (zc - (48 : Int32)), iv 0, iv (zc - (65 : Int32)), iv 1, iv 1] [(.int zc), (.ref r_IbanRegistry_Kind_LETTER_OR_DIGIT)])) rfl (by rw [hml]; rfl) (Steps.refl _) (argsL := [(.int zc)]) (rest := []) (lenOf pd_1 rfl) rfl (by show 2 * 0 + _ ≤ _; exact Nat.le_of_eq rfl) (hb hby at_151) (fun _ _ => ⟨rfl, e43, (by decide : 0 + 0 ≤ _), (by decide : 0 + 0 ≤ _)⟩)
              dsimp only [Pt.U, Pt.locs, Pt.cells, Pt.slots] at X55 l55 y55 z55 st55 hQ55
              subst l55 y55 z55
              obtain ⟨hv55, N55q, e55⟩ := hQ55
              rw [(show (own_lod zc) = (1 : Int32) from by rw [own_lod, if_neg hp44, if_pos hp50, if_neg hp51, if_neg hp53])] at hv55; subst hv55
              have N55 := Fr.app N0 N55q
              refine Go.pull (V := T55.setTop (mkF m 154 #[iv pk, iv px, iv pf, iv 2, iv zc, rv r_IbanRegistry_Kind_LETTER_OR_DIGIT, iv (zc - (48 : Int32)), iv 0, iv (zc - (65 : Int32)), iv 1, iv 1] [(.int 1)])) (fun _ k => st55.trans k) ?_
              refine Go.pull (V := T55.setTop (mkF m 156 #[iv pk, iv px, iv pf, iv 2, iv zc, rv r_IbanRegistry_Kind_LETTER_OR_DIGIT, iv (zc - (48 : Int32)), iv 0, iv (zc - (65 : Int32)), iv 1, iv 1] [(.int 1), (.int 1)])) (fun t k => XS.iload X55.here hx rfl (hb hby at_154) rfl  k) ?_
              refine Go.pull (V := T55.setTop (mkF m 159 #[iv pk, iv px, iv pf, iv 2, iv zc, rv r_IbanRegistry_Kind_LETTER_OR_DIGIT, iv (zc - (48 : Int32)), iv 0, iv (zc - (65 : Int32)), iv 1, iv 1] [])) (fun t k => XS.icmpNo X55.here hx rfl (hb hby at_156) rfl (XT.ii_ne_f (by decide)) k) ?_
              refine Go.pull (V := T55.setTop (mkF m 160 #[iv pk, iv px, iv pf, iv 2, iv zc, rv r_IbanRegistry_Kind_LETTER_OR_DIGIT, iv (zc - (48 : Int32)), iv 0, iv (zc - (65 : Int32)), iv 1, iv 1] [(.int 1)])) (fun t k => XS.iconst X55.here hx rfl (hb hby at_159) k) ?_
              refine Go.pull (V := T55.setTop (mkF m 164 #[iv pk, iv px, iv pf, iv 2, iv zc, rv r_IbanRegistry_Kind_LETTER_OR_DIGIT, iv (zc - (48 : Int32)), iv 0, iv (zc - (65 : Int32)), iv 1, iv 1] [(.int 1)])) (fun t k => XS.goto X55.here hx rfl (pc0 := 160) (pc' := 164) rfl (hb hby at_160) (by decide) (by decide) k) ?_
              exact Go.retN X55 hx Bd.notSynchronized (t := .boolean) Bd.returns (by simp) (hb hby at_164) ⟨rfl, N55⟩ (by decide) (by decide)
        · skip
          refine Go.pull (V := T43.setTop (mkF m 74 #[iv pk, iv px, iv pf, iv 2, iv zc, rv r_IbanRegistry_Kind_LETTER_OR_DIGIT, iv (zc - (48 : Int32)), .unset, .unset, .unset, .unset] [])) (fun t k => XS.icmpNo X43.here hx rfl (hb hby at_71) rfl (XT.ii_ge_f ((own_b (k := 57) hzc (by decide) (by decide)).mpr hp50)) k) ?_
          refine Go.pull (V := T43.setTop (mkF m 75 #[iv pk, iv px, iv pf, iv 2, iv zc, rv r_IbanRegistry_Kind_LETTER_OR_DIGIT, iv (zc - (48 : Int32)), .unset, .unset, .unset, .unset] [(.int 1)])) (fun t k => XS.iconst X43.here hx rfl (hb hby at_74) k) ?_
          refine Go.pull (V := T43.setTop (mkF m 79 #[iv pk, iv px, iv pf, iv 2, iv zc, rv r_IbanRegistry_Kind_LETTER_OR_DIGIT, iv (zc - (48 : Int32)), .unset, .unset, .unset, .unset] [(.int 1)])) (fun t k => XS.goto X43.here hx rfl (pc0 := 75) (pc' := 79) rfl (hb hby at_75) (by decide) (by decide) k) ?_
          refine Go.pull (V := T43.setTop (mkF m 81 #[iv pk, iv px, iv pf, iv 2, iv zc, rv r_IbanRegistry_Kind_LETTER_OR_DIGIT, iv (zc - (48 : Int32)), iv 1, .unset, .unset, .unset] [])) (fun t k => XS.istore X43.here hx rfl (hb hby at_79) rfl (l' := #[iv pk, iv px, iv pf, iv 2, iv zc, rv r_IbanRegistry_Kind_LETTER_OR_DIGIT, iv (zc - (48 : Int32)), iv 1, .unset, .unset, .unset]) rfl k) ?_
          refine Go.pull (V := T43.setTop (mkF m 83 #[iv pk, iv px, iv pf, iv 2, iv zc, rv r_IbanRegistry_Kind_LETTER_OR_DIGIT, iv (zc - (48 : Int32)), iv 1, .unset, .unset, .unset] [(.int zc)])) (fun t k => XS.iload X43.here hx rfl (hb hby at_81) rfl  k) ?_
          refine Go.pull (V := T43.setTop (mkF m 85 #[iv pk, iv px, iv pf, iv 2, iv zc, rv r_IbanRegistry_Kind_LETTER_OR_DIGIT, iv (zc - (48 : Int32)), iv 1, .unset, .unset, .unset] [(.int 65), (.int zc)])) (fun t k => XS.bipush X43.here hx rfl (hb hby at_83) k) ?_
          refine Go.pull (V := T43.setTop (mkF m 86 #[iv pk, iv px, iv pf, iv 2, iv zc, rv r_IbanRegistry_Kind_LETTER_OR_DIGIT, iv (zc - (48 : Int32)), iv 1, .unset, .unset, .unset] [(.int (zc - (65 : Int32)))])) (fun t k => XS.isub X43.here hx rfl (hb hby at_85) rfl k) ?_
          refine Go.pull (V := T43.setTop (mkF m 88 #[iv pk, iv px, iv pf, iv 2, iv zc, rv r_IbanRegistry_Kind_LETTER_OR_DIGIT, iv (zc - (48 : Int32)), iv 1, iv (zc - (65 : Int32)), .unset, .unset] [])) (fun t k => XS.istore X43.here hx rfl (hb hby at_86) rfl (l' := #[iv pk, iv px, iv pf, iv 2, iv zc, rv r_IbanRegistry_Kind_LETTER_OR_DIGIT, iv (zc - (48 : Int32)), iv 1, iv (zc - (65 : Int32)), .unset, .unset]) rfl k) ?_
          refine Go.pull (V := T43.setTop (mkF m 90 #[iv pk, iv px, iv pf, iv 2, iv zc, rv r_IbanRegistry_Kind_LETTER_OR_DIGIT, iv (zc - (48 : Int32)), iv 1, iv (zc - (65 : Int32)), .unset, .unset] [(.int (zc - (65 : Int32)))])) (fun t k => XS.iload X43.here hx rfl (hb hby at_88) rfl  k) ?_
          by_cases hp56 : zc < (65 : Int32)
          · skip
            refine Go.pull (V := T43.setTop (mkF m 104 #[iv pk, iv px, iv pf, iv 2, iv zc, rv r_IbanRegistry_Kind_LETTER_OR_DIGIT, iv (zc - (48 : Int32)), iv 1, iv (zc - (65 : Int32)), .unset, .unset] [])) (fun t k => XS.ifYes X43.here hx rfl (pc0 := 90) (pc' := 104) rfl (hb hby at_90) rfl (XT.i0_lt_t ((own_a (k := 65) hzc (by decide) (by decide)).mpr hp56)) (by decide) (by decide) k) ?_
            refine Go.pull (V := T43.setTop (mkF m 105 #[iv pk, iv px, iv pf, iv 2, iv zc, rv r_IbanRegistry_Kind_LETTER_OR_DIGIT, iv (zc - (48 : Int32)), iv 1, iv (zc - (65 : Int32)), .unset, .unset] [(.int 0)])) (fun t k => XS.iconst X43.here hx rfl (hb hby at_104) k) ?_
            refine Go.pull (V := T43.setTop (mkF m 107 #[iv pk, iv px, iv pf, iv 2, iv zc, rv r_IbanRegistry_Kind_LETTER_OR_DIGIT, iv (zc - (48 : Int32)), iv 1, iv (zc - (65 : Int32)), iv 0, .unset] [])) (fun t k => XS.istore X43.here hx rfl (hb hby at_105) rfl (l' := #[iv pk, iv px, iv pf, iv 2, iv zc, rv r_IbanRegistry_Kind_LETTER_OR_DIGIT, iv (zc - (48 : Int32)), iv 1, iv (zc - (65 : Int32)), iv 0, .unset]) rfl k) ?_
            refine Go.pull (V := T43.setTop (mkF m 108 #[iv pk, iv px, iv pf, iv 2, iv zc, rv r_IbanRegistry_Kind_LETTER_OR_DIGIT, iv (zc - (48 : Int32)), iv 1, iv (zc - (65 : Int32)), iv 0, .unset] [(.int 2)])) (fun t k => XS.iloadN X43.here hx rfl (hb hby at_107) rfl  k) ?_
            refine Go.pull (V := T43.setTop (mkF m 118 #[iv pk, iv px, iv pf, iv 2, iv zc, rv r_IbanRegistry_Kind_LETTER_OR_DIGIT, iv (zc - (48 : Int32)), iv 1, iv (zc - (65 : Int32)), iv 0, .unset] [])) (fun t k => XS.ifYes X43.here hx rfl (pc0 := 108) (pc' := 118) rfl (hb hby at_108) rfl (XT.i0_ne_t (by decide)) (by decide) (by decide) k) ?_
            refine Go.pull (V := T43.setTop (mkF m 119 #[iv pk, iv px, iv pf, iv 2, iv zc, rv r_IbanRegistry_Kind_LETTER_OR_DIGIT, iv (zc - (48 : Int32)), iv 1, iv (zc - (65 : Int32)), iv 0, .unset] [(.int 2)])) (fun t k => XS.iloadN X43.here hx rfl (hb hby at_118) rfl  k) ?_
            refine Go.pull (V := T43.setTop (mkF m 120 #[iv pk, iv px, iv pf, iv 2, iv zc, rv r_IbanRegistry_Kind_LETTER_OR_DIGIT, iv (zc - (48 : Int32)), iv 1, iv (zc - (65 : Int32)), iv 0, .unset] [(.int 1), (.int 2)])) (fun t k => XS.iconst X43.here hx rfl (hb hby at_119) k) ?_
            refine Go.pull (V := T43.setTop (mkF m 130 #[iv pk, iv px, iv pf, iv 2, iv zc, rv r_IbanRegistry_Kind_LETTER_OR_DIGIT, iv (zc - (48 : Int32)), iv 1, iv (zc - (65 : Int32)), iv 0, .unset] [])) (fun t k => XS.icmpYes X43.here hx rfl (pc0 := 120) (pc' := 130) rfl (hb hby at_120) rfl (XT.ii_ne_t (by decide)) (by decide) (by decide) k) ?_
            refine Go.pull (V := T43.setTop (mkF m 132 #[iv pk, iv px, iv pf, iv 2, iv zc, rv r_IbanRegistry_Kind_LETTER_OR_DIGIT, iv (zc - (48 : Int32)), iv 1, iv (zc - (65 : Int32)), iv 0, .unset] [(.int 1)])) (fun t k => XS.iload X43.here hx rfl (hb hby at_130) rfl  k) ?_
            refine Go.pull (V := T43.setTop (mkF m 140 #[iv pk, iv px, iv pf, iv 2, iv zc, rv r_IbanRegistry_Kind_LETTER_OR_DIGIT, iv (zc - (48 : Int32)), iv 1, iv (zc - (65 : Int32)), iv 0, .unset] [])) (fun t k => XS.ifYes X43.here hx rfl (pc0 := 132) (pc' := 140) rfl (hb hby at_132) rfl (XT.i0_ne_t (by decide)) (by decide) (by decide) k) ?_
            refine Go.pull (V := T43.setTop (mkF m 141 #[iv pk, iv px, iv pf, iv 2, iv zc, rv r_IbanRegistry_Kind_LETTER_OR_DIGIT, iv (zc - (48 : Int32)), iv 1, iv (zc - (65 : Int32)), iv 0, .unset] [(.int 1)])) (fun t k => XS.iconst X43.here hx rfl (hb hby at_140) k) ?_
            refine Go.pull (V := T43.setTop (mkF m 145 #[iv pk, iv px, iv pf, iv 2, iv zc, rv r_IbanRegistry_Kind_LETTER_OR_DIGIT, iv (zc - (48 : Int32)), iv 1, iv (zc - (65 : Int32)), iv 0, .unset] [(.int 1)])) (fun t k => XS.goto X43.here hx rfl (pc0 := 141) (pc' := 145) rfl (hb hby at_141) (by decide) (by decide) k) ?_
            refine Go.pull (V := T43.setTop (mkF m 147 #[iv pk, iv px, iv pf, iv 2, iv zc, rv r_IbanRegistry_Kind_LETTER_OR_DIGIT, iv (zc - (48 : Int32)), iv 1, iv (zc - (65 : Int32)), iv 0, iv 1] [])) (fun t k => XS.istore X43.here hx rfl (hb hby at_145) rfl (l' := #[iv pk, iv px, iv pf, iv 2, iv zc, rv r_IbanRegistry_Kind_LETTER_OR_DIGIT, iv (zc - (48 : Int32)), iv 1, iv (zc - (65 : Int32)), iv 0, iv 1]) rfl k) ?_
            refine Go.pull (V := T43.setTop (mkF m 149 #[iv pk, iv px, iv pf, iv 2, iv zc, rv r_IbanRegistry_Kind_LETTER_OR_DIGIT, iv (zc - (48 : Int32)), iv 1, iv (zc - (65 : Int32)), iv 0, iv 1] [(.ref r_IbanRegistry_Kind_LETTER_OR_DIGIT)])) (fun t k => XS.aload X43.here hx rfl (hb hby at_147) rfl rfl k) ?_
            refine Go.pull (V := T43.setTop (mkF m 151 #[iv pk, iv px, iv pf, iv 2, iv zc, rv r_IbanRegistry_Kind_LETTER_OR_DIGIT, iv (zc - (48 : Int32)), iv 1, iv (zc - (65 : Int32)), iv 0, iv 1] [(.int zc), (.ref r_IbanRegistry_Kind_LETTER_OR_DIGIT)])) (fun t k => XS.iload X43.here hx rfl (hb hby at_149) rfl  k) ?_
            obtain ⟨cq57, kq57, q57a, q57b, q57c⟩ := isOf hZ e43 E_r_IbanRegistry_Kind_LETTER_OR_DIGIT
            obtain ⟨_, _, ⟨T57, L57, k57, n57⟩, -, X57, ⟨Lc57, hQ57, l57, y57, z57⟩, st57⟩ := X43.virtualBack hx (y := (⟨"com/example/disburse/disburse/core/IbanRegistry$Kind", "admits", "(C)Z"⟩ : MethodName)) (z := (⟨"com/example/disburse/disburse/core/IbanRegistry$Kind", "admits", "(C)Z"⟩ : MethodName)) hown (mvT hZ (hw _ (List.mem_of_getElem? (i := 4) rfl))) (mvT hZ (hw _ (List.mem_of_getElem? (i := 5) rfl))) (notFace_of_selects (args := #[]) (mvT hZ (hw _ (List.mem_of_getElem? (i := 7) rfl)))) (mvT hZ (hw _ (List.mem_of_getElem? (i := 7) rfl))) (mvT hZ (hw _ (List.mem_of_getElem? (i := 6) rfl))) (by decide) (backOf (W := 0) (rmA2 l Z a0 hw [] r_IbanRegistry_Kind_LETTER_OR_DIGIT zc h0 n0 E_r_IbanRegistry_Kind_LETTER_OR_DIGIT F_r_IbanRegistry_Kind_LETTER_OR_DIGIT_ordinal) hZ (hw _ (List.mem_of_getElem? (i := 8) rfl)) (hw _ (List.mem_of_getElem? (i := 2) rfl)) (by decide) (by decide)) q57a q57c (g := (mkF m 151 #[iv pk, iv px, iv pf, iv 2, iv zc, rv r_IbanRegistry_Kind_LETTER_OR_DIGIT, iv (zc - (48 : Int32)), iv 1, iv (zc - (65 : Int32)), iv 0, iv 1] [(.int zc), (.ref r_IbanRegistry_Kind_LETTER_OR_DIGIT)])) rfl (by rw [hml]; rfl) (Steps.refl _) (argsL := [(.int zc)]) (rest := []) (lenOf pd_1 rfl) rfl (by show 2 * 0 + _ ≤ _; exact Nat.le_of_eq rfl) (hb hby at_151) (fun _ _ => ⟨rfl, e43, (by decide : 0 + 0 ≤ _), (by decide : 0 + 0 ≤ _)⟩)
            dsimp only [Pt.U, Pt.locs, Pt.cells, Pt.slots] at X57 l57 y57 z57 st57 hQ57
            subst l57 y57 z57
            obtain ⟨hv57, N57q, e57⟩ := hQ57
            rw [(show (own_lod zc) = (1 : Int32) from by rw [own_lod, if_neg hp44, if_neg hp50])] at hv57; subst hv57
            have N57 := Fr.app N0 N57q
            refine Go.pull (V := T57.setTop (mkF m 154 #[iv pk, iv px, iv pf, iv 2, iv zc, rv r_IbanRegistry_Kind_LETTER_OR_DIGIT, iv (zc - (48 : Int32)), iv 1, iv (zc - (65 : Int32)), iv 0, iv 1] [(.int 1)])) (fun _ k => st57.trans k) ?_
            refine Go.pull (V := T57.setTop (mkF m 156 #[iv pk, iv px, iv pf, iv 2, iv zc, rv r_IbanRegistry_Kind_LETTER_OR_DIGIT, iv (zc - (48 : Int32)), iv 1, iv (zc - (65 : Int32)), iv 0, iv 1] [(.int 1), (.int 1)])) (fun t k => XS.iload X57.here hx rfl (hb hby at_154) rfl  k) ?_
            refine Go.pull (V := T57.setTop (mkF m 159 #[iv pk, iv px, iv pf, iv 2, iv zc, rv r_IbanRegistry_Kind_LETTER_OR_DIGIT, iv (zc - (48 : Int32)), iv 1, iv (zc - (65 : Int32)), iv 0, iv 1] [])) (fun t k => XS.icmpNo X57.here hx rfl (hb hby at_156) rfl (XT.ii_ne_f (by decide)) k) ?_
            refine Go.pull (V := T57.setTop (mkF m 160 #[iv pk, iv px, iv pf, iv 2, iv zc, rv r_IbanRegistry_Kind_LETTER_OR_DIGIT, iv (zc - (48 : Int32)), iv 1, iv (zc - (65 : Int32)), iv 0, iv 1] [(.int 1)])) (fun t k => XS.iconst X57.here hx rfl (hb hby at_159) k) ?_
            refine Go.pull (V := T57.setTop (mkF m 164 #[iv pk, iv px, iv pf, iv 2, iv zc, rv r_IbanRegistry_Kind_LETTER_OR_DIGIT, iv (zc - (48 : Int32)), iv 1, iv (zc - (65 : Int32)), iv 0, iv 1] [(.int 1)])) (fun t k => XS.goto X57.here hx rfl (pc0 := 160) (pc' := 164) rfl (hb hby at_160) (by decide) (by decide) k) ?_
            exact Go.retN X57 hx Bd.notSynchronized (t := .boolean) Bd.returns (by simp) (hb hby at_164) ⟨rfl, N57⟩ (by decide) (by decide)
          · skip
            refine Go.pull (V := T43.setTop (mkF m 93 #[iv pk, iv px, iv pf, iv 2, iv zc, rv r_IbanRegistry_Kind_LETTER_OR_DIGIT, iv (zc - (48 : Int32)), iv 1, iv (zc - (65 : Int32)), .unset, .unset] [])) (fun t k => XS.ifNo X43.here hx rfl (hb hby at_90) rfl (XT.i0_lt_f (fun q => hp56 ((own_a (k := 65) hzc (by decide) (by decide)).mp q))) k) ?_
            refine Go.pull (V := T43.setTop (mkF m 95 #[iv pk, iv px, iv pf, iv 2, iv zc, rv r_IbanRegistry_Kind_LETTER_OR_DIGIT, iv (zc - (48 : Int32)), iv 1, iv (zc - (65 : Int32)), .unset, .unset] [(.int (zc - (65 : Int32)))])) (fun t k => XS.iload X43.here hx rfl (hb hby at_93) rfl  k) ?_
            refine Go.pull (V := T43.setTop (mkF m 97 #[iv pk, iv px, iv pf, iv 2, iv zc, rv r_IbanRegistry_Kind_LETTER_OR_DIGIT, iv (zc - (48 : Int32)), iv 1, iv (zc - (65 : Int32)), .unset, .unset] [(.int 26), (.int (zc - (65 : Int32)))])) (fun t k => XS.bipush X43.here hx rfl (hb hby at_95) k) ?_
            by_cases hp58 : (90 : Int32) < zc
            · skip
              refine Go.pull (V := T43.setTop (mkF m 104 #[iv pk, iv px, iv pf, iv 2, iv zc, rv r_IbanRegistry_Kind_LETTER_OR_DIGIT, iv (zc - (48 : Int32)), iv 1, iv (zc - (65 : Int32)), .unset, .unset] [])) (fun t k => XS.icmpYes X43.here hx rfl (pc0 := 97) (pc' := 104) rfl (hb hby at_97) rfl (XT.ii_ge_t (fun q => (own_b (k := 90) hzc (by decide) (by decide)).mp q hp58)) (by decide) (by decide) k) ?_
              refine Go.pull (V := T43.setTop (mkF m 105 #[iv pk, iv px, iv pf, iv 2, iv zc, rv r_IbanRegistry_Kind_LETTER_OR_DIGIT, iv (zc - (48 : Int32)), iv 1, iv (zc - (65 : Int32)), .unset, .unset] [(.int 0)])) (fun t k => XS.iconst X43.here hx rfl (hb hby at_104) k) ?_
              refine Go.pull (V := T43.setTop (mkF m 107 #[iv pk, iv px, iv pf, iv 2, iv zc, rv r_IbanRegistry_Kind_LETTER_OR_DIGIT, iv (zc - (48 : Int32)), iv 1, iv (zc - (65 : Int32)), iv 0, .unset] [])) (fun t k => XS.istore X43.here hx rfl (hb hby at_105) rfl (l' := #[iv pk, iv px, iv pf, iv 2, iv zc, rv r_IbanRegistry_Kind_LETTER_OR_DIGIT, iv (zc - (48 : Int32)), iv 1, iv (zc - (65 : Int32)), iv 0, .unset]) rfl k) ?_
              refine Go.pull (V := T43.setTop (mkF m 108 #[iv pk, iv px, iv pf, iv 2, iv zc, rv r_IbanRegistry_Kind_LETTER_OR_DIGIT, iv (zc - (48 : Int32)), iv 1, iv (zc - (65 : Int32)), iv 0, .unset] [(.int 2)])) (fun t k => XS.iloadN X43.here hx rfl (hb hby at_107) rfl  k) ?_
              refine Go.pull (V := T43.setTop (mkF m 118 #[iv pk, iv px, iv pf, iv 2, iv zc, rv r_IbanRegistry_Kind_LETTER_OR_DIGIT, iv (zc - (48 : Int32)), iv 1, iv (zc - (65 : Int32)), iv 0, .unset] [])) (fun t k => XS.ifYes X43.here hx rfl (pc0 := 108) (pc' := 118) rfl (hb hby at_108) rfl (XT.i0_ne_t (by decide)) (by decide) (by decide) k) ?_
              refine Go.pull (V := T43.setTop (mkF m 119 #[iv pk, iv px, iv pf, iv 2, iv zc, rv r_IbanRegistry_Kind_LETTER_OR_DIGIT, iv (zc - (48 : Int32)), iv 1, iv (zc - (65 : Int32)), iv 0, .unset] [(.int 2)])) (fun t k => XS.iloadN X43.here hx rfl (hb hby at_118) rfl  k) ?_
              refine Go.pull (V := T43.setTop (mkF m 120 #[iv pk, iv px, iv pf, iv 2, iv zc, rv r_IbanRegistry_Kind_LETTER_OR_DIGIT, iv (zc - (48 : Int32)), iv 1, iv (zc - (65 : Int32)), iv 0, .unset] [(.int 1), (.int 2)])) (fun t k => XS.iconst X43.here hx rfl (hb hby at_119) k) ?_
              refine Go.pull (V := T43.setTop (mkF m 130 #[iv pk, iv px, iv pf, iv 2, iv zc, rv r_IbanRegistry_Kind_LETTER_OR_DIGIT, iv (zc - (48 : Int32)), iv 1, iv (zc - (65 : Int32)), iv 0, .unset] [])) (fun t k => XS.icmpYes X43.here hx rfl (pc0 := 120) (pc' := 130) rfl (hb hby at_120) rfl (XT.ii_ne_t (by decide)) (by decide) (by decide) k) ?_
              refine Go.pull (V := T43.setTop (mkF m 132 #[iv pk, iv px, iv pf, iv 2, iv zc, rv r_IbanRegistry_Kind_LETTER_OR_DIGIT, iv (zc - (48 : Int32)), iv 1, iv (zc - (65 : Int32)), iv 0, .unset] [(.int 1)])) (fun t k => XS.iload X43.here hx rfl (hb hby at_130) rfl  k) ?_
              refine Go.pull (V := T43.setTop (mkF m 140 #[iv pk, iv px, iv pf, iv 2, iv zc, rv r_IbanRegistry_Kind_LETTER_OR_DIGIT, iv (zc - (48 : Int32)), iv 1, iv (zc - (65 : Int32)), iv 0, .unset] [])) (fun t k => XS.ifYes X43.here hx rfl (pc0 := 132) (pc' := 140) rfl (hb hby at_132) rfl (XT.i0_ne_t (by decide)) (by decide) (by decide) k) ?_
              refine Go.pull (V := T43.setTop (mkF m 141 #[iv pk, iv px, iv pf, iv 2, iv zc, rv r_IbanRegistry_Kind_LETTER_OR_DIGIT, iv (zc - (48 : Int32)), iv 1, iv (zc - (65 : Int32)), iv 0, .unset] [(.int 1)])) (fun t k => XS.iconst X43.here hx rfl (hb hby at_140) k) ?_
              refine Go.pull (V := T43.setTop (mkF m 145 #[iv pk, iv px, iv pf, iv 2, iv zc, rv r_IbanRegistry_Kind_LETTER_OR_DIGIT, iv (zc - (48 : Int32)), iv 1, iv (zc - (65 : Int32)), iv 0, .unset] [(.int 1)])) (fun t k => XS.goto X43.here hx rfl (pc0 := 141) (pc' := 145) rfl (hb hby at_141) (by decide) (by decide) k) ?_
              refine Go.pull (V := T43.setTop (mkF m 147 #[iv pk, iv px, iv pf, iv 2, iv zc, rv r_IbanRegistry_Kind_LETTER_OR_DIGIT, iv (zc - (48 : Int32)), iv 1, iv (zc - (65 : Int32)), iv 0, iv 1] [])) (fun t k => XS.istore X43.here hx rfl (hb hby at_145) rfl (l' := #[iv pk, iv px, iv pf, iv 2, iv zc, rv r_IbanRegistry_Kind_LETTER_OR_DIGIT, iv (zc - (48 : Int32)), iv 1, iv (zc - (65 : Int32)), iv 0, iv 1]) rfl k) ?_
              refine Go.pull (V := T43.setTop (mkF m 149 #[iv pk, iv px, iv pf, iv 2, iv zc, rv r_IbanRegistry_Kind_LETTER_OR_DIGIT, iv (zc - (48 : Int32)), iv 1, iv (zc - (65 : Int32)), iv 0, iv 1] [(.ref r_IbanRegistry_Kind_LETTER_OR_DIGIT)])) (fun t k => XS.aload X43.here hx rfl (hb hby at_147) rfl rfl k) ?_
              refine Go.pull (V := T43.setTop (mkF m 151 #[iv pk, iv px, iv pf, iv 2, iv zc, rv r_IbanRegistry_Kind_LETTER_OR_DIGIT, iv (zc - (48 : Int32)), iv 1, iv (zc - (65 : Int32)), iv 0, iv 1] [(.int zc), (.ref r_IbanRegistry_Kind_LETTER_OR_DIGIT)])) (fun t k => XS.iload X43.here hx rfl (hb hby at_149) rfl  k) ?_
              obtain ⟨cq59, kq59, q59a, q59b, q59c⟩ := isOf hZ e43 E_r_IbanRegistry_Kind_LETTER_OR_DIGIT
              obtain ⟨_, _, ⟨T59, L59, k59, n59⟩, -, X59, ⟨Lc59, hQ59, l59, y59, z59⟩, st59⟩ := X43.virtualBack hx (y := (⟨"com/example/disburse/disburse/core/IbanRegistry$Kind", "admits", "(C)Z"⟩ : MethodName)) (z := (⟨"com/example/disburse/disburse/core/IbanRegistry$Kind", "admits", "(C)Z"⟩ : MethodName)) hown (mvT hZ (hw _ (List.mem_of_getElem? (i := 4) rfl))) (mvT hZ (hw _ (List.mem_of_getElem? (i := 5) rfl))) (notFace_of_selects (args := #[]) (mvT hZ (hw _ (List.mem_of_getElem? (i := 7) rfl)))) (mvT hZ (hw _ (List.mem_of_getElem? (i := 7) rfl))) (mvT hZ (hw _ (List.mem_of_getElem? (i := 6) rfl))) (by decide) (backOf (W := 0) (rmA2 l Z a0 hw [] r_IbanRegistry_Kind_LETTER_OR_DIGIT zc h0 n0 E_r_IbanRegistry_Kind_LETTER_OR_DIGIT F_r_IbanRegistry_Kind_LETTER_OR_DIGIT_ordinal) hZ (hw _ (List.mem_of_getElem? (i := 8) rfl)) (hw _ (List.mem_of_getElem? (i := 2) rfl)) (by decide) (by decide)) q59a q59c (g := (mkF m 151 #[iv pk, iv px, iv pf, iv 2, iv zc, rv r_IbanRegistry_Kind_LETTER_OR_DIGIT, iv (zc - (48 : Int32)), iv 1, iv (zc - (65 : Int32)), iv 0, iv 1] [(.int zc), (.ref r_IbanRegistry_Kind_LETTER_OR_DIGIT)])) rfl (by rw [hml]; rfl) (Steps.refl _) (argsL := [(.int zc)]) (rest := []) (lenOf pd_1 rfl) rfl (by show 2 * 0 + _ ≤ _; exact Nat.le_of_eq rfl) (hb hby at_151) (fun _ _ => ⟨rfl, e43, (by decide : 0 + 0 ≤ _), (by decide : 0 + 0 ≤ _)⟩)
              dsimp only [Pt.U, Pt.locs, Pt.cells, Pt.slots] at X59 l59 y59 z59 st59 hQ59
              subst l59 y59 z59
              obtain ⟨hv59, N59q, e59⟩ := hQ59
              rw [(show (own_lod zc) = (1 : Int32) from by rw [own_lod, if_neg hp44, if_neg hp50])] at hv59; subst hv59
              have N59 := Fr.app N0 N59q
              refine Go.pull (V := T59.setTop (mkF m 154 #[iv pk, iv px, iv pf, iv 2, iv zc, rv r_IbanRegistry_Kind_LETTER_OR_DIGIT, iv (zc - (48 : Int32)), iv 1, iv (zc - (65 : Int32)), iv 0, iv 1] [(.int 1)])) (fun _ k => st59.trans k) ?_
              refine Go.pull (V := T59.setTop (mkF m 156 #[iv pk, iv px, iv pf, iv 2, iv zc, rv r_IbanRegistry_Kind_LETTER_OR_DIGIT, iv (zc - (48 : Int32)), iv 1, iv (zc - (65 : Int32)), iv 0, iv 1] [(.int 1), (.int 1)])) (fun t k => XS.iload X59.here hx rfl (hb hby at_154) rfl  k) ?_
              refine Go.pull (V := T59.setTop (mkF m 159 #[iv pk, iv px, iv pf, iv 2, iv zc, rv r_IbanRegistry_Kind_LETTER_OR_DIGIT, iv (zc - (48 : Int32)), iv 1, iv (zc - (65 : Int32)), iv 0, iv 1] [])) (fun t k => XS.icmpNo X59.here hx rfl (hb hby at_156) rfl (XT.ii_ne_f (by decide)) k) ?_
              refine Go.pull (V := T59.setTop (mkF m 160 #[iv pk, iv px, iv pf, iv 2, iv zc, rv r_IbanRegistry_Kind_LETTER_OR_DIGIT, iv (zc - (48 : Int32)), iv 1, iv (zc - (65 : Int32)), iv 0, iv 1] [(.int 1)])) (fun t k => XS.iconst X59.here hx rfl (hb hby at_159) k) ?_
              refine Go.pull (V := T59.setTop (mkF m 164 #[iv pk, iv px, iv pf, iv 2, iv zc, rv r_IbanRegistry_Kind_LETTER_OR_DIGIT, iv (zc - (48 : Int32)), iv 1, iv (zc - (65 : Int32)), iv 0, iv 1] [(.int 1)])) (fun t k => XS.goto X59.here hx rfl (pc0 := 160) (pc' := 164) rfl (hb hby at_160) (by decide) (by decide) k) ?_
              exact Go.retN X59 hx Bd.notSynchronized (t := .boolean) Bd.returns (by simp) (hb hby at_164) ⟨rfl, N59⟩ (by decide) (by decide)
            · skip
              refine Go.pull (V := T43.setTop (mkF m 100 #[iv pk, iv px, iv pf, iv 2, iv zc, rv r_IbanRegistry_Kind_LETTER_OR_DIGIT, iv (zc - (48 : Int32)), iv 1, iv (zc - (65 : Int32)), .unset, .unset] [])) (fun t k => XS.icmpNo X43.here hx rfl (hb hby at_97) rfl (XT.ii_ge_f ((own_b (k := 90) hzc (by decide) (by decide)).mpr hp58)) k) ?_
              refine Go.pull (V := T43.setTop (mkF m 101 #[iv pk, iv px, iv pf, iv 2, iv zc, rv r_IbanRegistry_Kind_LETTER_OR_DIGIT, iv (zc - (48 : Int32)), iv 1, iv (zc - (65 : Int32)), .unset, .unset] [(.int 1)])) (fun t k => XS.iconst X43.here hx rfl (hb hby at_100) k) ?_
              refine Go.pull (V := T43.setTop (mkF m 105 #[iv pk, iv px, iv pf, iv 2, iv zc, rv r_IbanRegistry_Kind_LETTER_OR_DIGIT, iv (zc - (48 : Int32)), iv 1, iv (zc - (65 : Int32)), .unset, .unset] [(.int 1)])) (fun t k => XS.goto X43.here hx rfl (pc0 := 101) (pc' := 105) rfl (hb hby at_101) (by decide) (by decide) k) ?_
              refine Go.pull (V := T43.setTop (mkF m 107 #[iv pk, iv px, iv pf, iv 2, iv zc, rv r_IbanRegistry_Kind_LETTER_OR_DIGIT, iv (zc - (48 : Int32)), iv 1, iv (zc - (65 : Int32)), iv 1, .unset] [])) (fun t k => XS.istore X43.here hx rfl (hb hby at_105) rfl (l' := #[iv pk, iv px, iv pf, iv 2, iv zc, rv r_IbanRegistry_Kind_LETTER_OR_DIGIT, iv (zc - (48 : Int32)), iv 1, iv (zc - (65 : Int32)), iv 1, .unset]) rfl k) ?_
              refine Go.pull (V := T43.setTop (mkF m 108 #[iv pk, iv px, iv pf, iv 2, iv zc, rv r_IbanRegistry_Kind_LETTER_OR_DIGIT, iv (zc - (48 : Int32)), iv 1, iv (zc - (65 : Int32)), iv 1, .unset] [(.int 2)])) (fun t k => XS.iloadN X43.here hx rfl (hb hby at_107) rfl  k) ?_
              refine Go.pull (V := T43.setTop (mkF m 118 #[iv pk, iv px, iv pf, iv 2, iv zc, rv r_IbanRegistry_Kind_LETTER_OR_DIGIT, iv (zc - (48 : Int32)), iv 1, iv (zc - (65 : Int32)), iv 1, .unset] [])) (fun t k => XS.ifYes X43.here hx rfl (pc0 := 108) (pc' := 118) rfl (hb hby at_108) rfl (XT.i0_ne_t (by decide)) (by decide) (by decide) k) ?_
              refine Go.pull (V := T43.setTop (mkF m 119 #[iv pk, iv px, iv pf, iv 2, iv zc, rv r_IbanRegistry_Kind_LETTER_OR_DIGIT, iv (zc - (48 : Int32)), iv 1, iv (zc - (65 : Int32)), iv 1, .unset] [(.int 2)])) (fun t k => XS.iloadN X43.here hx rfl (hb hby at_118) rfl  k) ?_
              refine Go.pull (V := T43.setTop (mkF m 120 #[iv pk, iv px, iv pf, iv 2, iv zc, rv r_IbanRegistry_Kind_LETTER_OR_DIGIT, iv (zc - (48 : Int32)), iv 1, iv (zc - (65 : Int32)), iv 1, .unset] [(.int 1), (.int 2)])) (fun t k => XS.iconst X43.here hx rfl (hb hby at_119) k) ?_
              refine Go.pull (V := T43.setTop (mkF m 130 #[iv pk, iv px, iv pf, iv 2, iv zc, rv r_IbanRegistry_Kind_LETTER_OR_DIGIT, iv (zc - (48 : Int32)), iv 1, iv (zc - (65 : Int32)), iv 1, .unset] [])) (fun t k => XS.icmpYes X43.here hx rfl (pc0 := 120) (pc' := 130) rfl (hb hby at_120) rfl (XT.ii_ne_t (by decide)) (by decide) (by decide) k) ?_
              refine Go.pull (V := T43.setTop (mkF m 132 #[iv pk, iv px, iv pf, iv 2, iv zc, rv r_IbanRegistry_Kind_LETTER_OR_DIGIT, iv (zc - (48 : Int32)), iv 1, iv (zc - (65 : Int32)), iv 1, .unset] [(.int 1)])) (fun t k => XS.iload X43.here hx rfl (hb hby at_130) rfl  k) ?_
              refine Go.pull (V := T43.setTop (mkF m 140 #[iv pk, iv px, iv pf, iv 2, iv zc, rv r_IbanRegistry_Kind_LETTER_OR_DIGIT, iv (zc - (48 : Int32)), iv 1, iv (zc - (65 : Int32)), iv 1, .unset] [])) (fun t k => XS.ifYes X43.here hx rfl (pc0 := 132) (pc' := 140) rfl (hb hby at_132) rfl (XT.i0_ne_t (by decide)) (by decide) (by decide) k) ?_
              refine Go.pull (V := T43.setTop (mkF m 141 #[iv pk, iv px, iv pf, iv 2, iv zc, rv r_IbanRegistry_Kind_LETTER_OR_DIGIT, iv (zc - (48 : Int32)), iv 1, iv (zc - (65 : Int32)), iv 1, .unset] [(.int 1)])) (fun t k => XS.iconst X43.here hx rfl (hb hby at_140) k) ?_
              refine Go.pull (V := T43.setTop (mkF m 145 #[iv pk, iv px, iv pf, iv 2, iv zc, rv r_IbanRegistry_Kind_LETTER_OR_DIGIT, iv (zc - (48 : Int32)), iv 1, iv (zc - (65 : Int32)), iv 1, .unset] [(.int 1)])) (fun t k => XS.goto X43.here hx rfl (pc0 := 141) (pc' := 145) rfl (hb hby at_141) (by decide) (by decide) k) ?_
              refine Go.pull (V := T43.setTop (mkF m 147 #[iv pk, iv px, iv pf, iv 2, iv zc, rv r_IbanRegistry_Kind_LETTER_OR_DIGIT, iv (zc - (48 : Int32)), iv 1, iv (zc - (65 : Int32)), iv 1, iv 1] [])) (fun t k => XS.istore X43.here hx rfl (hb hby at_145) rfl (l' := #[iv pk, iv px, iv pf, iv 2, iv zc, rv r_IbanRegistry_Kind_LETTER_OR_DIGIT, iv (zc - (48 : Int32)), iv 1, iv (zc - (65 : Int32)), iv 1, iv 1]) rfl k) ?_
              refine Go.pull (V := T43.setTop (mkF m 149 #[iv pk, iv px, iv pf, iv 2, iv zc, rv r_IbanRegistry_Kind_LETTER_OR_DIGIT, iv (zc - (48 : Int32)), iv 1, iv (zc - (65 : Int32)), iv 1, iv 1] [(.ref r_IbanRegistry_Kind_LETTER_OR_DIGIT)])) (fun t k => XS.aload X43.here hx rfl (hb hby at_147) rfl rfl k) ?_
              refine Go.pull (V := T43.setTop (mkF m 151 #[iv pk, iv px, iv pf, iv 2, iv zc, rv r_IbanRegistry_Kind_LETTER_OR_DIGIT, iv (zc - (48 : Int32)), iv 1, iv (zc - (65 : Int32)), iv 1, iv 1] [(.int zc), (.ref r_IbanRegistry_Kind_LETTER_OR_DIGIT)])) (fun t k => XS.iload X43.here hx rfl (hb hby at_149) rfl  k) ?_
              obtain ⟨cq60, kq60, q60a, q60b, q60c⟩ := isOf hZ e43 E_r_IbanRegistry_Kind_LETTER_OR_DIGIT
              obtain ⟨_, _, ⟨T60, L60, k60, n60⟩, -, X60, ⟨Lc60, hQ60, l60, y60, z60⟩, st60⟩ := X43.virtualBack hx (y := (⟨"com/example/disburse/disburse/core/IbanRegistry$Kind", "admits", "(C)Z"⟩ : MethodName)) (z := (⟨"com/example/disburse/disburse/core/IbanRegistry$Kind", "admits", "(C)Z"⟩ : MethodName)) hown (mvT hZ (hw _ (List.mem_of_getElem? (i := 4) rfl))) (mvT hZ (hw _ (List.mem_of_getElem? (i := 5) rfl))) (notFace_of_selects (args := #[]) (mvT hZ (hw _ (List.mem_of_getElem? (i := 7) rfl)))) (mvT hZ (hw _ (List.mem_of_getElem? (i := 7) rfl))) (mvT hZ (hw _ (List.mem_of_getElem? (i := 6) rfl))) (by decide) (backOf (W := 0) (rmA2 l Z a0 hw [] r_IbanRegistry_Kind_LETTER_OR_DIGIT zc h0 n0 E_r_IbanRegistry_Kind_LETTER_OR_DIGIT F_r_IbanRegistry_Kind_LETTER_OR_DIGIT_ordinal) hZ (hw _ (List.mem_of_getElem? (i := 8) rfl)) (hw _ (List.mem_of_getElem? (i := 2) rfl)) (by decide) (by decide)) q60a q60c (g := (mkF m 151 #[iv pk, iv px, iv pf, iv 2, iv zc, rv r_IbanRegistry_Kind_LETTER_OR_DIGIT, iv (zc - (48 : Int32)), iv 1, iv (zc - (65 : Int32)), iv 1, iv 1] [(.int zc), (.ref r_IbanRegistry_Kind_LETTER_OR_DIGIT)])) rfl (by rw [hml]; rfl) (Steps.refl _) (argsL := [(.int zc)]) (rest := []) (lenOf pd_1 rfl) rfl (by show 2 * 0 + _ ≤ _; exact Nat.le_of_eq rfl) (hb hby at_151) (fun _ _ => ⟨rfl, e43, (by decide : 0 + 0 ≤ _), (by decide : 0 + 0 ≤ _)⟩)
              dsimp only [Pt.U, Pt.locs, Pt.cells, Pt.slots] at X60 l60 y60 z60 st60 hQ60
              subst l60 y60 z60
              obtain ⟨hv60, N60q, e60⟩ := hQ60
              rw [(show (own_lod zc) = (1 : Int32) from by rw [own_lod, if_neg hp44, if_neg hp50])] at hv60; subst hv60
              have N60 := Fr.app N0 N60q
              refine Go.pull (V := T60.setTop (mkF m 154 #[iv pk, iv px, iv pf, iv 2, iv zc, rv r_IbanRegistry_Kind_LETTER_OR_DIGIT, iv (zc - (48 : Int32)), iv 1, iv (zc - (65 : Int32)), iv 1, iv 1] [(.int 1)])) (fun _ k => st60.trans k) ?_
              refine Go.pull (V := T60.setTop (mkF m 156 #[iv pk, iv px, iv pf, iv 2, iv zc, rv r_IbanRegistry_Kind_LETTER_OR_DIGIT, iv (zc - (48 : Int32)), iv 1, iv (zc - (65 : Int32)), iv 1, iv 1] [(.int 1), (.int 1)])) (fun t k => XS.iload X60.here hx rfl (hb hby at_154) rfl  k) ?_
              refine Go.pull (V := T60.setTop (mkF m 159 #[iv pk, iv px, iv pf, iv 2, iv zc, rv r_IbanRegistry_Kind_LETTER_OR_DIGIT, iv (zc - (48 : Int32)), iv 1, iv (zc - (65 : Int32)), iv 1, iv 1] [])) (fun t k => XS.icmpNo X60.here hx rfl (hb hby at_156) rfl (XT.ii_ne_f (by decide)) k) ?_
              refine Go.pull (V := T60.setTop (mkF m 160 #[iv pk, iv px, iv pf, iv 2, iv zc, rv r_IbanRegistry_Kind_LETTER_OR_DIGIT, iv (zc - (48 : Int32)), iv 1, iv (zc - (65 : Int32)), iv 1, iv 1] [(.int 1)])) (fun t k => XS.iconst X60.here hx rfl (hb hby at_159) k) ?_
              refine Go.pull (V := T60.setTop (mkF m 164 #[iv pk, iv px, iv pf, iv 2, iv zc, rv r_IbanRegistry_Kind_LETTER_OR_DIGIT, iv (zc - (48 : Int32)), iv 1, iv (zc - (65 : Int32)), iv 1, iv 1] [(.int 1)])) (fun t k => XS.goto X60.here hx rfl (pc0 := 160) (pc' := 164) rfl (hb hby at_160) (by decide) (by decide) k) ?_
              exact Go.retN X60 hx Bd.notSynchronized (t := .boolean) Bd.returns (by simp) (hb hby at_164) ⟨rfl, N60⟩ (by decide) (by decide)
    refine Go.pull (V := s₁.setTop (mkF m 8 #[iv pk, iv px, iv pf, iv 2, .unset, .unset, .unset, .unset, .unset, .unset, .unset] [(.int pf)])) (fun t k => XS.iloadN X0.here hx rfl (hb hby at_7) rfl  k) ?_
    refine Go.pull (V := s₁.setTop (mkF m 9 #[iv pk, iv px, iv pf, iv 2, .unset, .unset, .unset, .unset, .unset, .unset, .unset] [(.int 1), (.int pf)])) (fun t k => XS.iconst X0.here hx rfl (hb hby at_8) k) ?_
    refine Go.pull (V := s₁.setTop (mkF m 10 #[iv pk, iv px, iv pf, iv 2, .unset, .unset, .unset, .unset, .unset, .unset, .unset] [(.int (pf &&& (1 : Int32)))])) (fun t k => XS.iand X0.here hx rfl (hb hby at_9) rfl k) ?_
    by_cases hc10_61 : (pf &&& (1 : Int32)) = 0
    · skip
      refine Go.pull (V := s₁.setTop (mkF m 21 #[iv pk, iv px, iv pf, iv 2, .unset, .unset, .unset, .unset, .unset, .unset, .unset] [])) (fun t k => XS.ifYes X0.here hx rfl (pc0 := 10) (pc' := 21) rfl (hb hby at_10) rfl (XT.i0_eq_t hc10_61) (by decide) (by decide) k) ?_
      refine Go.pull (V := s₁.setTop (mkF m 22 #[iv pk, iv px, iv pf, iv 2, .unset, .unset, .unset, .unset, .unset, .unset, .unset] [(.int px)])) (fun t k => XS.iloadN X0.here hx rfl (hb hby at_21) rfl  k) ?_
      refine Go.pull (V := s₁.setTop (mkF m 23 #[iv pk, iv px, iv pf, iv 2, .unset, .unset, .unset, .unset, .unset, .unset, .unset] [(.int (px.toUInt32.toUInt16.toUInt32.toInt32))])) (fun t k => XS.i2c X0.here hx rfl (hb hby at_22) rfl k) ?_
      refine Go.pull (V := s₁.setTop (mkF m 25 #[iv pk, iv px, iv pf, iv 2, iv (px.toUInt32.toUInt16.toUInt32.toInt32), .unset, .unset, .unset, .unset, .unset, .unset] [])) (fun t k => XS.istore X0.here hx rfl (hb hby at_23) rfl (l' := #[iv pk, iv px, iv pf, iv 2, iv (px.toUInt32.toUInt16.toUInt32.toInt32), .unset, .unset, .unset, .unset, .unset, .unset]) rfl k) ?_
      exact J25_42 ((px.toUInt32.toUInt16.toUInt32.toInt32)) (own_chr _)
    · skip
      refine Go.pull (V := s₁.setTop (mkF m 13 #[iv pk, iv px, iv pf, iv 2, .unset, .unset, .unset, .unset, .unset, .unset, .unset] [])) (fun t k => XS.ifNo X0.here hx rfl (hb hby at_10) rfl (XT.i0_eq_f hc10_61) k) ?_
      refine Go.pull (V := s₁.setTop (mkF m 14 #[iv pk, iv px, iv pf, iv 2, .unset, .unset, .unset, .unset, .unset, .unset, .unset] [(.int px)])) (fun t k => XS.iloadN X0.here hx rfl (hb hby at_13) rfl  k) ?_
      refine Go.pull (V := s₁.setTop (mkF m 16 #[iv pk, iv px, iv pf, iv 2, .unset, .unset, .unset, .unset, .unset, .unset, .unset] [(.int 127), (.int px)])) (fun t k => XS.bipush X0.here hx rfl (hb hby at_14) k) ?_
      refine Go.pull (V := s₁.setTop (mkF m 17 #[iv pk, iv px, iv pf, iv 2, .unset, .unset, .unset, .unset, .unset, .unset, .unset] [(.int (px &&& (127 : Int32)))])) (fun t k => XS.iand X0.here hx rfl (hb hby at_16) rfl k) ?_
      refine Go.pull (V := s₁.setTop (mkF m 18 #[iv pk, iv px, iv pf, iv 2, .unset, .unset, .unset, .unset, .unset, .unset, .unset] [(.int ((px &&& (127 : Int32)).toUInt32.toUInt16.toUInt32.toInt32))])) (fun t k => XS.i2c X0.here hx rfl (hb hby at_17) rfl k) ?_
      refine Go.pull (V := s₁.setTop (mkF m 23 #[iv pk, iv px, iv pf, iv 2, .unset, .unset, .unset, .unset, .unset, .unset, .unset] [(.int ((px &&& (127 : Int32)).toUInt32.toUInt16.toUInt32.toInt32))])) (fun t k => XS.goto X0.here hx rfl (pc0 := 18) (pc' := 23) rfl (hb hby at_18) (by decide) (by decide) k) ?_
      refine Go.pull (V := s₁.setTop (mkF m 25 #[iv pk, iv px, iv pf, iv 2, iv ((px &&& (127 : Int32)).toUInt32.toUInt16.toUInt32.toInt32), .unset, .unset, .unset, .unset, .unset, .unset] [])) (fun t k => XS.istore X0.here hx rfl (hb hby at_23) rfl (l' := #[iv pk, iv px, iv pf, iv 2, iv ((px &&& (127 : Int32)).toUInt32.toUInt16.toUInt32.toInt32), .unset, .unset, .unset, .unset, .unset, .unset]) rfl k) ?_
      exact J25_42 (((px &&& (127 : Int32)).toUInt32.toUInt16.toUInt32.toInt32)) (own_chr _)
set_option maxRecDepth 65536 in
set_option maxHeartbeats 40000000 in
theorem comes_1 {Post : Tables → Env → Array Value → State → Outcome → State → Prop} (hpost : ∀ tb e args s v u, (limb_1_1.after args s (.returned v) u = true ∧ limb_1_2.after args s (.returned v) u = true ∧ True) → FrameEnd s (.returned v) u (Jvm.fieldLocs frame_1_writes args s ++ Jvm.arrayLocs frame_1_arrays args s ++ Jvm.staticLocs frame_1_statics s) 0 0 → Post tb e args s (.returned v) u) :
    ArmFor flags0 classFile x code maxLocals ret World_1 tables_1 room_1 Calls_1 rest_1 Pre_1 Post := by
  intro l hfl _ _ p e ha hc hk s m args below hf hA hF happ hP
  obtain ⟨hcalls, hrest, hpre⟩ := hP
  obtain ⟨-, -, -, hnamed, -, -, -, hat⟩ := (Spec.applies_iff hf).mp happ
  obtain ⟨hg, hn⟩ := and_e (Cond.before_iff.mp (show (Jvm.Cond.and given_1 narrow_1).before args s = true from hpre))
  obtain ⟨y1, y2⟩ := and_e hg
  obtain ⟨y3, y4⟩ := and_e y2
  obtain ⟨y5, y6⟩ := and_e y4
  obtain ⟨y7, y8⟩ := and_e hn
  obtain ⟨y9, y10⟩ := and_e y8
  obtain ⟨y11, y12⟩ := and_e y10
  obtain ⟨y13, y14⟩ := and_e y12
  obtain ⟨y15, y16⟩ := and_e y14
  obtain ⟨w0, w1, w2, rfl⟩ : ∃ w0 w1 w2 : Value, args = #[w0, w1, w2] := by
    have hs : args.size = 3 := by simpa [Cond.value, given_1] using y1
    obtain ⟨L⟩ := args
    match L, hs with
    | [w0, w1, w2], _ => exact ⟨w0, w1, w2, rfl⟩
  have hw := fun d (hd : d ∈ tables_1) => atoms_spec (ws := Jvm.Cond.code x code maxLocals ret :: tables_1) hat d (List.mem_cons_of_mem _ hd)
  have hfit : Fit s := fun {y c} hc i hi => by
    obtain ⟨ha, rfl⟩ := Array.getElem?_eq_some_iff.mp hc
    have q := List.all_eq_true.mp ((Array.all_eq_true_iff_forall_mem.mp hF) _ (Array.getElem_mem ha)) i (List.mem_range.mpr hi)
    simpa [Array.getElem?_eq_getElem hi] using q
  obtain ⟨i0, ei0⟩ := is_v y3
  obtain rfl : w0 = (.int i0) := Option.some.inj ei0
  obtain ⟨i1, ei1⟩ := is_v y5
  obtain rfl : w1 = (.int i1) := Option.some.inj ei1
  obtain ⟨i2, ei2⟩ := is_v y6
  obtain rfl : w2 = (.int i2) := Option.some.inj ei2
  obtain ⟨a_IbanRegistry_Kind_DIGIT, ev_a_IbanRegistry_Kind_DIGIT⟩ := exa_v y7
  have EX_a_IbanRegistry_Kind_DIGIT : Exa s s.heap a_IbanRegistry_Kind_DIGIT "com/example/disburse/disburse/core/IbanRegistry$Kind" := Exa.start ev_a_IbanRegistry_Kind_DIGIT y7
  have ST_a_IbanRegistry_Kind_DIGIT : Sta s s.heap "com/example/disburse/disburse/core/IbanRegistry$Kind" "DIGIT" "Lcom/example/disburse/disburse/core/IbanRegistry$Kind;" (.ref a_IbanRegistry_Kind_DIGIT) := Sta.start ev_a_IbanRegistry_Kind_DIGIT (Or.inr ⟨(hw _ (List.mem_of_getElem? (i := 2) rfl)), (hw _ (List.mem_of_getElem? (i := 3) rfl))⟩)
  obtain ⟨a_IbanRegistry_Kind_LETTER, ev_a_IbanRegistry_Kind_LETTER⟩ := exa_v y11
  have EX_a_IbanRegistry_Kind_LETTER : Exa s s.heap a_IbanRegistry_Kind_LETTER "com/example/disburse/disburse/core/IbanRegistry$Kind" := Exa.start ev_a_IbanRegistry_Kind_LETTER y11
  have ST_a_IbanRegistry_Kind_LETTER : Sta s s.heap "com/example/disburse/disburse/core/IbanRegistry$Kind" "LETTER" "Lcom/example/disburse/disburse/core/IbanRegistry$Kind;" (.ref a_IbanRegistry_Kind_LETTER) := Sta.start ev_a_IbanRegistry_Kind_LETTER (Or.inr ⟨(hw _ (List.mem_of_getElem? (i := 2) rfl)), (hw _ (List.mem_of_getElem? (i := 19) rfl))⟩)
  obtain ⟨a_IbanRegistry_Kind_LETTER_OR_DIGIT, ev_a_IbanRegistry_Kind_LETTER_OR_DIGIT⟩ := exa_v y15
  have EX_a_IbanRegistry_Kind_LETTER_OR_DIGIT : Exa s s.heap a_IbanRegistry_Kind_LETTER_OR_DIGIT "com/example/disburse/disburse/core/IbanRegistry$Kind" := Exa.start ev_a_IbanRegistry_Kind_LETTER_OR_DIGIT y15
  have ST_a_IbanRegistry_Kind_LETTER_OR_DIGIT : Sta s s.heap "com/example/disburse/disburse/core/IbanRegistry$Kind" "LETTER_OR_DIGIT" "Lcom/example/disburse/disburse/core/IbanRegistry$Kind;" (.ref a_IbanRegistry_Kind_LETTER_OR_DIGIT) := Sta.start ev_a_IbanRegistry_Kind_LETTER_OR_DIGIT (Or.inr ⟨(hw _ (List.mem_of_getElem? (i := 2) rfl)), (hw _ (List.mem_of_getElem? (i := 21) rfl))⟩)
  have FL_a_IbanRegistry_Kind_DIGIT_ordinal : Fld s s.heap a_IbanRegistry_Kind_DIGIT "java/lang/Enum" "ordinal" "I" (.int 0) := Fld.start ((fld_at ev_a_IbanRegistry_Kind_DIGIT).symm.trans (own_eq_i y9))
  have FL_a_IbanRegistry_Kind_LETTER_ordinal : Fld s s.heap a_IbanRegistry_Kind_LETTER "java/lang/Enum" "ordinal" "I" (.int 1) := Fld.start ((fld_at ev_a_IbanRegistry_Kind_LETTER).symm.trans (own_eq_i y13))
  have FL_a_IbanRegistry_Kind_LETTER_OR_DIGIT_ordinal : Fld s s.heap a_IbanRegistry_Kind_LETTER_OR_DIGIT "java/lang/Enum" "ordinal" "I" (.int 2) := Fld.start ((fld_at ev_a_IbanRegistry_Kind_LETTER_OR_DIGIT).symm.trans (own_eq_i y16))
  obtain ⟨n, o, h1, h2, h3, _, L, rfl, ⟨rfl, N⟩, hq⟩ := rm0 l s _ hw tables_1 i0 i1 i2 a_IbanRegistry_Kind_DIGIT a_IbanRegistry_Kind_LETTER a_IbanRegistry_Kind_LETTER_OR_DIGIT s.heap s.heap.size (Nat.le_refl _) ST_a_IbanRegistry_Kind_DIGIT EX_a_IbanRegistry_Kind_DIGIT ST_a_IbanRegistry_Kind_LETTER EX_a_IbanRegistry_Kind_LETTER ST_a_IbanRegistry_Kind_LETTER_OR_DIGIT EX_a_IbanRegistry_Kind_LETTER_OR_DIGIT FL_a_IbanRegistry_Kind_DIGIT_ordinal FL_a_IbanRegistry_Kind_LETTER_ordinal FL_a_IbanRegistry_Kind_LETTER_OR_DIGIT_ordinal p e ha hc hk s m _ below hf ((Spec.applies_iff_loose hf).mp happ).1 ⟨rfl, State.Warmed39.refl s, rfl⟩ trivial
  refine ⟨n, _, h1, h2, h3, hpost _ _ _ _ _ _ ⟨Cond.after_iff.mpr rfl, Cond.after_iff.mpr (eq_i res_at (Term.int_eval (1)) rfl), trivial⟩ ⟨hq.1, hq.2.1, (hq.2.2.sift fun y hy => Or.inr (N y hy)).mono (by decide) (by decide)⟩⟩
theorem main_1_1 : Claimed_1_1 := comes_1 fun _ _ _ _ _ _ h hF => ⟨h.1, hF⟩
theorem main_1_2 : Claimed_1_2 := comes_1 fun _ _ _ _ _ _ h hF => ⟨h.2.1, hF⟩
end Jvm.Pilot.@@N@@
namespace Jvm.Pilot.@@N@@
open Jvm Jvm.ClassFile Sem Op Lib Jvm.Free Jvm.Stand Jvm.Pilot.@@N@@.Jvm.D
/-! MADE BY PROGRAM (witnessworld.py) out of the Statement's table words and the real class files: 12 classes; the members and pool entries that the words name. The judged class is class 1, her method 1. -/
namespace start1
open Jvm.ClassFile
def u (s : String) : CpInfo := .utf8 (stringToUtf16 s)
/-- a pool by its gaps: so many unusable entries, then the entry; so many at the end -/
def gap : Nat → List CpInfo → List CpInfo
  | 0, r => r
  | n + 1, r => .unusable :: gap n r
def poolList (es : List (Nat × CpInfo)) (last : Nat) : List CpInfo := es.foldr (fun e r => gap e.1 (e.2 :: r)) (gap last [])
def pool (es : List (Nat × CpInfo)) (last : Nat) : Array CpInfo := ⟨poolList es last⟩
def fileOf (pool : Array CpInfo) (this : Nat) (attrs : Array Attribute := #[]) (ms : Array MethodInfo := #[]) (fl : Nat := 33) (sup : Nat := 0) (ifs : Array Nat := #[]) (fds : Array FieldInfo := #[]) : ClassFile where
  minorVersion := 0
  majorVersion := 65
  constantPool := pool
  accessFlags := fl
  thisClass := this
  superClass := sup
  interfaces := ifs
  fields := fds
  methods := ms
  attributes := attrs
def plain (name : String) (sup : Option ClassId) : Class where
  name := name
  kind := .ordinary
  loader := none
  accessFlags := 33
  super := sup
  interfaces := #[]
  cf := none
  fields := #[]
  methods := #[]
  instanceTypes := #[]
  staticTypes := #[]
  resolved := #[]
  callSites := []
  init := .initialized
  statics := none
  mirror := none

def pool0 : Array CpInfo := pool [(5, u "<init>"), (0, u "()V"), (1, .class_ 10), (1, u "java/lang/Object")] 113

def k0m0 : Method := { name := "<init>", desc := "()V", sig := { parameters := [], returnType := none }, accessFlags := 1, code := none }
/-- java/lang/Object -/
def k0 : Class := { plain "java/lang/Object" none with
  accessFlags := 33
  interfaces := #[]
  cf := some (fileOf pool0 8 #[] #[{ accessFlags := 1, nameIndex := 5, descriptorIndex := 6, attributes := #[] }] 33 0 #[] #[])
  fields := #[]
  methods := #[k0m0]
  instanceTypes := #[]
  staticTypes := #[]
  resolved := Array.replicate 124 none
  statics := none }

def pool1 : Array CpInfo := pool [(2, .class_ 4), (1, u "java/lang/Object"), (0, u "<init>"), (0, u "()V"), (0, .integer 2147483647), (0, .fieldref 9 10), (0, .class_ 11), (0, .nameAndType 12 13), (0, u "com/example/disburse/disburse/core/IbanRegistry$Kind"), (0, u "DIGIT"), (0, u "Lcom/example/disburse/disburse/core/IbanRegistry$Kind;"), (0, .fieldref 9 15), (0, .nameAndType 16 13), (0, u "LETTER"), (0, .fieldref 9 18), (0, .nameAndType 19 13), (0, u "LETTER_OR_DIGIT"), (0, .methodref 9 21), (0, .nameAndType 22 23), (0, u "admits"), (0, u "(C)Z"), (0, .class_ 25), (0, u "com/example/disburse/disburse/core/IbanRegistryKindAdmitsPinLaw"), (2, u "law"), (0, u "(III)Z")] 7

def k1m0 : Method := { name := "<init>", desc := "()V", sig := { parameters := [], returnType := none }, accessFlags := 2, code := none }
def k1c1 : Code := { maxStack := 2, maxLocals := 11, code := code, exceptionTable := #[], attributes := #[] }
def k1m1 : Method := { name := "law", desc := "(III)Z", sig := { parameters := [.int, .int, .int], returnType := some .boolean }, accessFlags := 9, code := some k1c1 }
/-- com/example/disburse/disburse/core/IbanRegistryKindAdmitsPinLaw -/
def k1 : Class := { plain "com/example/disburse/disburse/core/IbanRegistryKindAdmitsPinLaw" (some 0) with
  accessFlags := 49
  interfaces := #[]
  cf := some (fileOf pool1 24 #[] #[{ accessFlags := 2, nameIndex := 5, descriptorIndex := 6, attributes := #[] }, { accessFlags := 9, nameIndex := 28, descriptorIndex := 29, attributes := #[] }] 49 2 #[] #[])
  fields := #[]
  methods := #[k1m0, k1m1]
  instanceTypes := #[]
  staticTypes := #[]
  resolved := Array.replicate 37 none
  statics := none }

def pool2 : Array CpInfo := pool [(1, .class_ 2), (0, u "java/lang/constant/Constable"), (0, .class_ 4), (0, u "java/lang/Object")] 6

/-- java/lang/constant/Constable -/
def k2 : Class := { plain "java/lang/constant/Constable" (some 0) with
  accessFlags := 1537
  interfaces := #[]
  cf := some (fileOf pool2 1 #[] #[] 1537 3 #[] #[])
  fields := #[]
  methods := #[]
  instanceTypes := #[]
  staticTypes := #[]
  resolved := Array.replicate 11 none
  statics := none }

def pool3 : Array CpInfo := pool [(1, .class_ 2), (0, u "java/lang/Comparable"), (0, .class_ 4), (0, u "java/lang/Object")] 7

/-- java/lang/Comparable -/
def k3 : Class := { plain "java/lang/Comparable" (some 0) with
  accessFlags := 1537
  interfaces := #[]
  cf := some (fileOf pool3 1 #[] #[] 1537 3 #[] #[])
  fields := #[]
  methods := #[]
  instanceTypes := #[]
  staticTypes := #[]
  resolved := Array.replicate 12 none
  statics := none }

def pool4 : Array CpInfo := pool [(1, .class_ 2), (0, u "java/io/Serializable"), (0, .class_ 4), (0, u "java/lang/Object")] 2

/-- java/io/Serializable -/
def k4 : Class := { plain "java/io/Serializable" (some 0) with
  accessFlags := 1537
  interfaces := #[]
  cf := some (fileOf pool4 1 #[] #[] 1537 3 #[] #[])
  fields := #[]
  methods := #[]
  instanceTypes := #[]
  staticTypes := #[]
  resolved := Array.replicate 7 none
  statics := none }

def pool5 : Array CpInfo := pool [(2, .class_ 4), (1, u "java/lang/Enum"), (0, u "name"), (0, u "Ljava/lang/String;"), (0, .fieldref 2 8), (0, .nameAndType 9 10), (0, u "ordinal"), (0, u "I"), (1, .class_ 14), (1, u "java/lang/Object"), (4, u "hash"), (86, .class_ 108), (1, u "java/lang/Enum$EnumDesc"), (2, .class_ 112), (0, u "java/lang/constant/Constable"), (0, .class_ 114), (0, u "java/lang/Comparable"), (0, .class_ 116), (0, u "java/io/Serializable"), (9, u "()I")] 77

def k5c0 : Code := { maxStack := 1, maxLocals := 1, code := jdk_37_method_2_code, exceptionTable := #[], attributes := #[] }
def k5m0 : Method := { name := "ordinal", desc := "()I", sig := { parameters := [], returnType := some .int }, accessFlags := 17, code := some k5c0 }
/-- java/lang/Enum -/
def k5 : Class := { plain "java/lang/Enum" (some 0) with
  accessFlags := 1057
  interfaces := #[2, 3, 4]
  cf := some (fileOf pool5 2 #[.nestMembers #[106]] #[{ accessFlags := 17, nameIndex := 9, descriptorIndex := 126, attributes := #[] }] 1057 12 #[111, 113, 115] #[{ accessFlags := 18, nameIndex := 5, descriptorIndex := 6, attributes := #[] }, { accessFlags := 18, nameIndex := 9, descriptorIndex := 10, attributes := #[] }, { accessFlags := 2, nameIndex := 19, descriptorIndex := 10, attributes := #[] }])
  fields := #[{ name := "name", type := (.object "java/lang/String"), accessFlags := 18, slot := 0, constantValue := 0 }, { name := "ordinal", type := .int, accessFlags := 18, slot := 1, constantValue := 0 }, { name := "hash", type := .int, accessFlags := 2, slot := 2, constantValue := 0 }]
  methods := #[k5m0]
  instanceTypes := #[(.object "java/lang/String"), .int, .int]
  staticTypes := #[]
  resolved := Array.replicate 204 none
  statics := none }

def pool6 : Array CpInfo := pool [(1, .class_ 2), (0, u "com/example/disburse/disburse/core/IbanRegistry$Kind"), (2, u "DIGIT"), (0, u "Lcom/example/disburse/disburse/core/IbanRegistry$Kind;"), (2, u "LETTER"), (2, u "LETTER_OR_DIGIT"), (2, u "$VALUES"), (0, u "[Lcom/example/disburse/disburse/core/IbanRegistry$Kind;"), (6, .class_ 25), (1, u "java/lang/Enum"), (8, u "code"), (0, u "C"), (2, u "one"), (0, u "Ljava/lang/String;"), (2, u "several"), (0, .methodref 1 44), (0, .nameAndType 45 46), (0, u "ordinal"), (0, u "()I"), (45, u "admits"), (0, u "(C)Z"), (9, .class_ 104), (0, u "com/example/disburse/disburse/core/IbanRegistry")] 16

def k6c0 : Code := { maxStack := 4, maxLocals := 4, code := prog_27_method_4_code, exceptionTable := #[], attributes := #[] }
def k6m0 : Method := { name := "admits", desc := "(C)Z", sig := { parameters := [.char], returnType := some .boolean }, accessFlags := 0, code := some k6c0 }
/-- com/example/disburse/disburse/core/IbanRegistry$Kind -/
def k6 : Class := { plain "com/example/disburse/disburse/core/IbanRegistry$Kind" (some 5) with
  accessFlags := 16432
  interfaces := #[]
  cf := some (fileOf pool6 1 #[.nestHost 103] #[{ accessFlags := 0, nameIndex := 92, descriptorIndex := 93, attributes := #[] }] 16432 23 #[] #[{ accessFlags := 16409, nameIndex := 5, descriptorIndex := 6, attributes := #[] }, { accessFlags := 16409, nameIndex := 9, descriptorIndex := 6, attributes := #[] }, { accessFlags := 16409, nameIndex := 12, descriptorIndex := 6, attributes := #[] }, { accessFlags := 18, nameIndex := 34, descriptorIndex := 35, attributes := #[] }, { accessFlags := 18, nameIndex := 38, descriptorIndex := 39, attributes := #[] }, { accessFlags := 18, nameIndex := 42, descriptorIndex := 39, attributes := #[] }, { accessFlags := 4122, nameIndex := 15, descriptorIndex := 16, attributes := #[] }])
  fields := #[{ name := "DIGIT", type := (.object "com/example/disburse/disburse/core/IbanRegistry$Kind"), accessFlags := 16409, slot := 0, constantValue := 0 }, { name := "LETTER", type := (.object "com/example/disburse/disburse/core/IbanRegistry$Kind"), accessFlags := 16409, slot := 1, constantValue := 0 }, { name := "LETTER_OR_DIGIT", type := (.object "com/example/disburse/disburse/core/IbanRegistry$Kind"), accessFlags := 16409, slot := 2, constantValue := 0 }, { name := "code", type := .char, accessFlags := 18, slot := 3, constantValue := 0 }, { name := "one", type := (.object "java/lang/String"), accessFlags := 18, slot := 4, constantValue := 0 }, { name := "several", type := (.object "java/lang/String"), accessFlags := 18, slot := 5, constantValue := 0 }, { name := "$VALUES", type := (.array (.object "com/example/disburse/disburse/core/IbanRegistry$Kind")), accessFlags := 4122, slot := 3, constantValue := 0 }]
  methods := #[k6m0]
  instanceTypes := #[(.object "java/lang/String"), .int, .int, .char, (.object "java/lang/String"), (.object "java/lang/String")]
  staticTypes := #[(.object "com/example/disburse/disburse/core/IbanRegistry$Kind"), (.object "com/example/disburse/disburse/core/IbanRegistry$Kind"), (.object "com/example/disburse/disburse/core/IbanRegistry$Kind"), (.array (.object "com/example/disburse/disburse/core/IbanRegistry$Kind"))]
  resolved := Array.replicate 121 none
  statics := some 0 }

def pool7 : Array CpInfo := pool [(1, u "java/lang/Cloneable"), (0, .class_ 1), (0, u "java/lang/Object"), (0, .class_ 3)] 3

/-- java/lang/Cloneable -/
def k7 : Class := { plain "java/lang/Cloneable" (some 0) with
  accessFlags := 1537
  interfaces := #[]
  cf := some (fileOf pool7 2 #[] #[] 1537 4 #[] #[])
  fields := #[]
  methods := #[]
  instanceTypes := #[]
  staticTypes := #[]
  resolved := Array.replicate 8 none
  statics := none }

/-- the primitive byte -/
def k8 : Class := { plain "byte" none with kind := .primitive 'B', accessFlags := 0x411 }
/-- [B -/
def k9 : Class := { plain "[B" (some 0) with kind := .array 8 .byte, interfaces := #[7, 4], accessFlags := 1041 }

/-- the primitive int -/
def k10 : Class := { plain "int" none with kind := .primitive 'I', accessFlags := 0x411 }
/-- [I -/
def k11 : Class := { plain "[I" (some 0) with kind := .array 10 .int, interfaces := #[7, 4], accessFlags := 1041 }

def heap : Heap := #[{ cls := 6, slots := #[.ref 1, .ref 2, .ref 3, .null], vm := .statics 6 },
  { cls := 6, slots := #[.null, .int 0, .int 0, .int 0, .null, .null], vm := .none },
  { cls := 6, slots := #[.null, .int 1, .int 0, .int 0, .null, .null], vm := .none },
  { cls := 6, slots := #[.null, .int 2, .int 0, .int 0, .null, .null], vm := .none }]
def classes : Array Class := #[k0, k1, k2, k3, k4, k5, k6, k7, k8, k9, k10, k11]
def interned : List (Array UInt16 × Addr) := []
def slotsUsed : Nat := 22
def theMethod : MethodId := ⟨1, 1⟩
def args0 : Array Value := #[.int 2, .int 50, .int 1]
def aboutOver (below : List Frame) : State where
  vm := { classes := classes, interned := interned.toArray }
  heap := heap
  slotsUsed := slotsUsed
  threads := #[{ frames := .invoking theMethod args0 :: below }]
def below0 : List Frame := [.native { method := ⟨0, 0⟩, args := #[] }]
def about1 : State := aboutOver below0
def p0 : Program := .bare "" "" ""
def e0 : Env := launch0.env 0 0 0
theorem w_frames : about1.frames = Frame.invoking theMethod args0 :: below0 := rfl
set_option maxRecDepth 65536 in
theorem w_args : argsFit about1.vm theMethod args0 = true := by decide +kernel
set_option maxRecDepth 65536 in
theorem w_heap : heapFits about1 = true := by decide +kernel
set_option maxRecDepth 65536 in
theorem w_runnable : about1.curStatus? = some .runnable := by decide +kernel
set_option maxRecDepth 65536 in
theorem w_alone : about1.alone = true := by decide +kernel
set_option maxRecDepth 65536 in
theorem w_named : about1.methodNamed? x = some theMethod := by decide +kernel
set_option maxRecDepth 65536 in
theorem w_hears : about1.hears theMethod below0 = true := by decide +kernel
set_option maxRecDepth 65536 in
theorem w_ripe : about1.ripe theMethod args0 below0 = true := by decide +kernel
theorem w_running : about1.status = .running := rfl
set_option maxRecDepth 65536 in
theorem w_room : about1.hasRoom e0.platform room_1 = true :=
  launch0.hasRoom_least _ room_1 (by decide +kernel) (by decide +kernel) (by decide +kernel) (by decide +kernel) (by decide +kernel) (by decide +kernel)
theorem allAtoms_all (ts : List Jvm.Cond) (a : Array Jvm.Value) (st : Jvm.State) : (allAtoms ts).before a st = ts.all (fun c => c.before a st) := by
  induction ts with
  | nil => rfl
  | cons c t ih =>
    show (Jvm.Cond.and c (allAtoms t)).before a st = _
    rw [Jvm.Cond.before_and, ih, List.all_cons]
def words1 : List Jvm.Cond := Jvm.Cond.code x code maxLocals ret :: tables_1
/-- a 'code' word, met by the world's own term for the bytes: nothing is compared byte by byte -/
theorem code_word {y : MethodName} {bytes : ByteArray} {mx : Nat} {rt : Option FieldType} {a : Array Value} {s : State} {m : MethodId} {meth : Method} {c : Code} (h1 : s.methodNamed? y = some m) (h2 : s.vm.method? m = some meth) (h3 : meth.code = some c) (h4 : c.code = bytes)
    (h5 : (c.maxLocals == mx && c.exceptionTable.isEmpty && decide (c.maxStack ≤ mostOperands) && decide (meth.sig.returnType = rt) && !meth.locks && decide (parseMethodDescriptor y.desc = some meth.sig)) = true) : (Jvm.Cond.code y bytes mx rt).before a s = true := by
  simp only [Bool.and_eq_true, beq_iff_eq, Bool.not_eq_true', decide_eq_true_eq] at h5
  obtain ⟨⟨⟨⟨⟨g1, g2⟩, g3⟩, g4⟩, g5⟩, g6⟩ := h5
  simp [Cond.before, Cond.holds, Cond.value, h1, h2, h3, h4, g1, g2, g3, g4, g5, g6]
def isCode : Jvm.Cond → Bool
  | .code _ _ _ _ => true
  | _ => false
theorem all_split {L : List Jvm.Cond} {P : Jvm.Cond → Bool} (h1 : L.all (fun c => isCode c || P c) = true) (h2 : ∀ c ∈ L.filter isCode, P c = true) : L.all P = true := by
  refine List.all_eq_true.mpr fun c hc => ?_
  have h := List.all_eq_true.mp h1 c hc
  rcases Bool.eq_false_or_eq_true (isCode c) with hi | hi
  · exact h2 c (List.mem_filter.mpr ⟨hc, hi⟩)
  · simpa [hi] using h
set_option maxRecDepth 65536 in
theorem w_c0 : (Jvm.Cond.code x code maxLocals ret).before args0 about1 = true := code_word (m := ⟨1, 1⟩) (meth := k1m1) (c := k1c1) (by decide +kernel) rfl rfl rfl (by decide +kernel)
set_option maxRecDepth 65536 in
theorem w_c1 : (Jvm.Cond.code ({ cls := "com/example/disburse/disburse/core/IbanRegistry$Kind", name := "admits", desc := "(C)Z" } : Jvm.MethodName) prog_27_method_4_code (4 : Nat) (Option.some Jvm.ClassFile.FieldType.boolean)).before args0 about1 = true := code_word (m := ⟨6, 0⟩) (meth := k6m0) (c := k6c0) (by decide +kernel) rfl rfl rfl (by decide +kernel)
set_option maxRecDepth 65536 in
theorem w_c2 : (Jvm.Cond.code ({ cls := "java/lang/Enum", name := "ordinal", desc := "()I" } : Jvm.MethodName) jdk_37_method_2_code (1 : Nat) (Option.some Jvm.ClassFile.FieldType.int)).before args0 about1 = true := code_word (m := ⟨5, 0⟩) (meth := k5m0) (c := k5c0) (by decide +kernel) rfl rfl rfl (by decide +kernel)
def codes1 : List Jvm.Cond := [Jvm.Cond.code x code maxLocals ret, Jvm.Cond.code ({ cls := "com/example/disburse/disburse/core/IbanRegistry$Kind", name := "admits", desc := "(C)Z" } : Jvm.MethodName) prog_27_method_4_code (4 : Nat) (Option.some Jvm.ClassFile.FieldType.boolean), Jvm.Cond.code ({ cls := "java/lang/Enum", name := "ordinal", desc := "()I" } : Jvm.MethodName) jdk_37_method_2_code (1 : Nat) (Option.some Jvm.ClassFile.FieldType.int)]
set_option maxRecDepth 65536 in
theorem codes_eq : words1.filter isCode = codes1 := rfl
theorem w_codes : ∀ c ∈ words1.filter isCode, c.before args0 about1 = true := by
  rw [codes_eq]
  intro c hc
  simp only [codes1, List.mem_cons, List.not_mem_nil, or_false] at hc
  rcases hc with rfl | rfl | rfl
  · exact w_c0
  · exact w_c1
  · exact w_c2
set_option maxRecDepth 65536 in
theorem w_t1 : words1.all (fun c => isCode c || c.before args0 about1) = true := by decide +kernel
theorem w_tables : (allAtoms (Jvm.Cond.code x code maxLocals ret :: tables_1)).before args0 about1 = true := by
  rw [allAtoms_all]
  show words1.all (fun c => c.before args0 about1) = true
  refine all_split ?_ w_codes
  rw [w_t1]
set_option maxRecDepth 65536 in
theorem w_case : (Jvm.Cond.and given_1 narrow_1).before args0 about1 = true := by decide +kernel
theorem w_applies : (headSpec (Jvm.Cond.code x code maxLocals ret :: tables_1) room_1).applies x e0.platform about1 = true :=
  (Spec.applies_iff w_frames).mpr ⟨w_running, w_runnable, w_alone, w_named, w_hears, w_ripe, w_room, w_tables⟩
theorem atStart : AtStart classFile x code maxLocals ret World_1 tables_1 room_1 Calls_1 rest_1 Pre_1 launch0 p0 e0 about1 theMethod args0 below0 :=
  ⟨lists_1, trivial, launch0.admits_env _ _ _, launch0.least_env, fairChoices_fair.cas, fairChoices_fair.clock, w_frames, w_args, w_heap, w_applies, trivial, trivial, w_case⟩
end start1
theorem witness_1 : WitnessClaimed_1 := ⟨start1.p0, start1.e0, start1.about1, start1.theMethod, start1.args0, start1.below0, start1.atStart⟩
end Jvm.Pilot.@@N@@
