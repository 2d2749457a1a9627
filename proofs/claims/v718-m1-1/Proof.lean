import JvmDerived
import JvmDerived.Pilot.@@N@@Statement
import JvmDerived.Pilot.@@N@@Code
set_option linter.unusedVariables false
set_option linter.unusedSimpArgs false
namespace Jvm.Pilot.@@N@@
open Jvm Jvm.ClassFile Sem Op Lib Jvm.Free Jvm.Stand Jvm.LawKit Jvm.RoadKit Bundle Jvm.Pilot.@@N@@.Jvm.D
def own_Kq (s : State) (Q : Option Value → Heap → List Loc → Prop) (cl sl : Nat) (o : Outcome) (U : State) : Prop := ∃ v L, o = .returned v ∧ Q v U.heap L ∧ FrameEnd s o U L cl sl
def OGo (tb : Tables) (e : Env) (below : List Frame) (K : Outcome → State → Prop) (U : State) : Prop := ∃ s₂ o, Steps tb e below U s₂ ∧ s₂.status = .running ∧ Ended s₂ below o ∧ K o s₂
section Own
variable {p : Program} {l : Launch} {e : Env} {R : Room} {s : State} {m : MethodId} {args : Array Value} {below : List Frame} {meth : Method} {c : Code} {T : State} {locs : List Loc} {cells slots : Nat} {tb : Tables} {K : Outcome → State → Prop} {Q : Option Value → Heap → List Loc → Prop} {cl sl : Nat}
theorem OGo.via {U U' : State} (st : ∀ t, Steps tb e below U' t → Steps tb e below U t) (k : OGo tb e below K U') : OGo tb e below K U := by
  obtain ⟨s₂, o, h, r⟩ := k; exact ⟨s₂, o, st _ h, r⟩
theorem OGo.cast {g g' : JFrame} (q : g = g') (k : OGo tb e below K (T.setTop g')) : OGo tb e below K (T.setTop g) := q ▸ k
theorem own_w {Z : State} {a0 : Array Value} (hw : ∀ d ∈ tables_1, d.before a0 Z = true) (i : Nat) {d : Jvm.Cond} (h : tables_1[i]? = some d) : d.before a0 Z = true := hw d (List.mem_of_getElem? h)
theorem own_staKeep0 {Z : State} {h h' : Heap} {C n d : String} {v : Value} (F : Sta Z h C n d v) (K : Keep h h' []) : Sta Z h' C n d v := by
  obtain ⟨cf, i, k, f, st, cell, h1, h2, h3, h4, h5, r⟩ := F; exact ⟨cf, i, k, f, st, cell, h1, h2, h3, h4, K.2.1 _ _ h5 nin0, r⟩
theorem own_irr (x : Int32) : ¬ x < x := Int32.lt_irrefl
theorem own_stepI (X : Stand p l e R s m args below meth c T locs cells slots) (hx : p.tables.exec = Jvm.exec) {pc : Nat} {Ls : Array Slot} {z : Int32} {rest : List Value} (hret : meth.sig.returnType = some .int) (hd : decode c.code pc = .ok (.ireturn, 1)) {fs : List Frame}
    (hl : ∀ (f : JFrame) (acts : List Action), f.method = m → f.locked = none → f.entered = [] → (doReturn e (T.setTop f) acts (some (.int z))).1 = T.setFrames fs) : Steps p.tables e below (T.setTop (mkF m pc Ls (.int z :: rest))) (T.setFrames fs) := by
  have hm' : T.vm.method? m = some meth := X.method'
  have hn : narrow .int (.int z) = .int z := rfl
  show Steps p.tables e below (T.setTop { method := m, pc := pc, locals := Ls, stack := _ :: rest, locked := none }) _
  jvm_step X.here [X.here.top, hx, hd, hm', hret, hn]
  first | (intro acts; rw [hl _ acts rfl rfl rfl]) | rw [hl _ _ rfl rfl rfl]
  exact Steps.refl _
theorem own_retI (X : Stand p l e R s m args below meth c T locs cells slots) (hx : p.tables.exec = Jvm.exec) (hk : meth.locks = false) (hret : meth.sig.returnType = some .int) {pc : Nat} {Ls : Array Slot} {z : Int32} {rest : List Value} (hd : decode c.code pc = .ok (.ireturn, 1)) (hc : cells ≤ cl) (hs : slots ≤ sl) (hQ : Q (some (.int z)) T.heap locs) :
    OGo p.tables e below (own_Kq s Q cl sl) (T.setTop (mkF m pc Ls (.int z :: rest))) := by
  obtain ⟨fs, hr, hrun, hended, hW, hsame⟩ := X.leave (v := some (.int z)) (fun h => by rw [hret] at h; cases h) hk
  exact ⟨_, _, own_stepI X hx hret hd hr, hrun, hended, _, _, rfl, hQ, ⟨_, rfl⟩, hW, hsame.mono hc hs⟩
theorem own_retN {t : FieldType} (ht : t = .boolean ∨ t = .byte ∨ t = .char ∨ t = .short) (X : Stand p l e R s m args below meth c T locs cells slots) (hx : p.tables.exec = Jvm.exec) (hk : meth.locks = false) (hret : meth.sig.returnType = some t) {pc : Nat} {Ls : Array Slot} {z : Int32} {rest : List Value} (hd : decode c.code pc = .ok (.ireturn, 1)) (hc : cells ≤ cl) (hs : slots ≤ sl) (hQ : Q (some (.int (nar t z))) T.heap locs) :
    OGo p.tables e below (own_Kq s Q cl sl) (T.setTop (mkF m pc Ls (.int z :: rest))) := by
  obtain ⟨fs, hr, hrun, hended, hW, hsame⟩ := X.leave (v := some (.int (nar t z))) (fun h => by rw [hret] at h; cases h) hk
  exact ⟨_, _, retN X hx hret ht hd hr, hrun, hended, _, _, rfl, hQ, ⟨_, rfl⟩, hW, hsame.mono hc hs⟩
theorem own_retL (X : Stand p l e R s m args below meth c T locs cells slots) (hx : p.tables.exec = Jvm.exec) (hk : meth.locks = false) (hret : meth.sig.returnType = some .long) {pc : Nat} {Ls : Array Slot} {z : Int64} (hd : decode c.code pc = .ok (.lreturn, 1)) (hc : cells ≤ cl) (hs : slots ≤ sl) (hQ : Q (some (.long z)) T.heap locs) :
    OGo p.tables e below (own_Kq s Q cl sl) (T.setTop (mkF m pc Ls [.long z])) := by
  obtain ⟨fs, hr, hrun, hended, hW, hsame⟩ := X.leave (v := some (.long z)) (fun h => by rw [hret] at h; cases h) hk
  exact ⟨_, _, X.lreturnOut hx hret hd hr, hrun, hended, _, _, rfl, hQ, ⟨_, rfl⟩, hW, hsame.mono hc hs⟩
theorem own_retA {t : FieldType} (X : Stand p l e R s m args below meth c T locs cells slots) (hx : p.tables.exec = Jvm.exec) (hk : meth.locks = false) (hret : meth.sig.returnType = some t) {pc : Nat} {Ls : Array Slot} {w : Value} (hw : w.isRef = true) (ht : t.isReference = true) (hd : decode c.code pc = .ok (.areturn, 1)) (hc : cells ≤ cl) (hs : slots ≤ sl) (hQ : Q (some w) T.heap locs) :
    OGo p.tables e below (own_Kq s Q cl sl) (T.setTop (mkF m pc Ls [w])) := by
  obtain ⟨fs, hr, hrun, hended, hW, hsame⟩ := X.leave (v := some w) (fun h => by rw [hret] at h; cases h) hk
  exact ⟨_, _, X.areturnOut hx hw hret ht hd hr, hrun, hended, _, _, rfl, hQ, ⟨_, rfl⟩, hW, hsame.mono hc hs⟩
theorem own_retV (X : Stand p l e R s m args below meth c T locs cells slots) (hx : p.tables.exec = Jvm.exec) (hk : meth.locks = false) (hret : meth.sig.returnType = none) {pc : Nat} {Ls : Array Slot} (hd : decode c.code pc = .ok (.return_, 1)) (hc : cells ≤ cl) (hs : slots ≤ sl) (hQ : Q none T.heap locs) :
    OGo p.tables e below (own_Kq s Q cl sl) (T.setTop (mkF m pc Ls [])) := by
  obtain ⟨fs, hr, hrun, hended, hW, hsame⟩ := X.leave (v := none) (fun _ => rfl) hk
  exact ⟨_, _, X.returnOut hx hret hd hr, hrun, hended, _, _, rfl, hQ, ⟨_, rfl⟩, hW, hsame.mono hc hs⟩
end Own
theorem own_open {p : Program} {l : Launch} {e : Env} {R : Room} {s : State} {m : MethodId} {args : Array Value} {below : List Frame} {meth : Method} {c : Code} {T : State} {locs : List Loc} {cells slots rc rs : Nat} (X : Stand p l e R s m args below meth c T locs cells slots) {Qp : Option Value → Pt → List Loc → Prop} {S : Option Value → Pt → Prop}
    (h : ∃ (v : Option Value) (vm₁ : Vm) (B : Pt), s.WarmedH vm₁ ∧ Stand p l e R s m args below meth c B.U B.locs B.cells B.slots ∧ (∃ L, Qp v B L ∧ B.locs = locs ++ L ∧ B.cells = cells + rc ∧ B.slots = slots + rs) ∧ S v B) :
    ∃ (v : Option Value) (T' : State) (L : List Loc), Stand p l e R s m args below meth c T' (locs ++ L) (cells + rc) (slots + rs) ∧ Qp v (T', locs ++ L, cells + rc, slots + rs) L ∧ S v (T', locs ++ L, cells + rc, slots + rs) := by
  obtain ⟨v, vm₁, ⟨T', L', k', n'⟩, -, X, ⟨L, hQ, hl, hk, hn⟩, hs⟩ := h
  dsimp only [Pt.U, Pt.locs, Pt.cells, Pt.slots] at X hl hk hn
  subst hl hk hn
  exact ⟨v, T', L, X, hQ, hs⟩
def own_St {p : Program} {l : Launch} {e : Env} {R : Room} {s : State} {m : MethodId} {args : Array Value} {below : List Frame} {meth : Method} {c : Code} {T : State} {locs : List Loc} {cells slots : Nat} (_ : Stand p l e R s m args below meth c T locs cells slots) (n0 : Nat) (T' : State) : Prop := ∃ locs', Stand p l e R s m args below meth c T' locs' cells slots ∧ Fr n0 locs'
def OJn {α : Type} (tb : Tables) (e : Env) (below : List Frame) (P : State → α → Prop) (tgt : α → JFrame) (U : State) : Prop := ∃ T' v, P T' v ∧ ∀ t, Steps tb e below (T'.setTop (tgt v)) t → Steps tb e below U t
theorem OJn.via {α : Type} {tb : Tables} {e : Env} {below : List Frame} {P : State → α → Prop} {tgt : α → JFrame} {U U' : State} (st : ∀ t, Steps tb e below U' t → Steps tb e below U t) (k : OJn tb e below P tgt U') : OJn tb e below P tgt U := by
  obtain ⟨T', v, h, r⟩ := k; exact ⟨T', v, h, fun t q => st _ (r _ q)⟩
abbrev own_y0 : MethodName := ⟨"com/example/eventloom/eventloom/engine/Forbidden", "<init>", "()V"⟩
abbrev own_y1 : MethodName := ⟨"java/lang/Math", "min", "(II)I"⟩
abbrev own_y2 : MethodName := ⟨"java/util/Arrays", "copyOf", "([JI)[J"⟩
abbrev own_y3 : MethodName := ⟨"com/example/eventloom/eventloom/engine/Forbidden", "unrolled", "([J)[J"⟩
abbrev own_y4 : MethodName := ⟨"com/example/eventloom/eventloom/engine/Forbidden", "latestFirst", "(J)J"⟩
abbrev own_y5 : MethodName := ⟨"com/example/eventloom/eventloom/engine/Forbidden", "keepBefore", "(JJJ)V"⟩
abbrev own_y6 : MethodName := ⟨"com/example/eventloom/eventloom/engine/Forbidden", "held", "()I"⟩
abbrev own_y7 : MethodName := ⟨"com/example/eventloom/eventloom/engine/ForbiddenLatestFirstPinLaw", "adv", "(II[JJ)I"⟩
theorem own_pop2L {tb : Tables} [Ours tb] {e : Env} {below : List Frame} {T target : State} {m : MethodId} {c : Code} {g : JFrame} (h : At T m c below) (hx : tb.exec = Jvm.exec) (hg : g.method = m) {x : Int64} {rest : List Value} (hd : decode c.code g.pc = .ok (.pop2, 1)) (hs : g.stack = .long x :: rest)
    (hr : Steps tb e below (T.setTop { g with pc := g.pc + 1, stack := rest }) target) : Steps tb e below (T.setTop g) target := by
  subst hg
  jvm_step h [h.top, hx, hd, hs, Value.category]
  exact hr

theorem own_selPriv {s : State} {args : Array Value} {C : String} {y z z' : MethodName} (hsel : (Jvm.Cond.selects C z z').before args s = true) (hcls : z'.cls = y.cls) (hpriv : s.PrivateAt y) (hinst : (Jvm.Cond.instanceMethod y).before args s = true) (hy : y.cls ≠ "java/lang/invoke/MethodHandle" ∧ y.cls ≠ "java/lang/invoke/VarHandle") : (Jvm.Cond.selects y.cls y y).before args s = true := by
  obtain ⟨-, -, mz, -, -, hz, -, kz, hkz, hkf⟩ := Cond.selects_spec hsel
  exact selects_self_of_private (hcls ▸ findClass_of_methodNamed hz) hkz hkf hpriv hinst hy

def own_t (k : Int32) (t0 t1 t2 t3 t4 : Int64) : Int64 := if k = 0 then t0 else if k = 1 then t1 else if k = 2 then t2 else if k = 3 then t3 else t4
def own_adv (k n : Int32) (t0 t1 t2 t3 t4 e : Int64) : Int32 := if k < n then (if lcmpW (own_t k t0 t1 t2 t3 t4) e < 0 then k + 1 else k) else k
def own_x (d n : Int32) (p : Int64) : Int64 := if d = n then (9223372036854775807 : Int64) else p + d.toInt64
def own_h (d n : Int32) : Int32 := n - d
def own_f (d : Int32) : Int32 := d &&& 3
theorem own_adv_y {k k' n : Int32} {t0 t1 t2 t3 t4 e : Int64} (h1 : k < n) (hk : k + 1 = k') (h2 : lcmpW (own_t k t0 t1 t2 t3 t4) e < 0) : own_adv k n t0 t1 t2 t3 t4 e = k' := by rw [own_adv, if_pos h1, if_pos h2, hk]
theorem own_adv_n {k n : Int32} {t0 t1 t2 t3 t4 e : Int64} (h2 : ¬ lcmpW (own_t k t0 t1 t2 t3 t4) e < 0) : own_adv k n t0 t1 t2 t3 t4 e = k := by
  rw [own_adv, if_neg h2]; split <;> rfl
theorem own_adv_o {k n : Int32} {t0 t1 t2 t3 t4 e : Int64} (h1 : ¬ k < n) : own_adv k n t0 t1 t2 t3 t4 e = k := by rw [own_adv, if_neg h1]
theorem own_t0 (t0 t1 t2 t3 t4 : Int64) : own_t 0 t0 t1 t2 t3 t4 = t0 := by simp [own_t]
theorem own_t1 (t0 t1 t2 t3 t4 : Int64) : own_t 1 t0 t1 t2 t3 t4 = t1 := by simp [own_t]
theorem own_t2 (t0 t1 t2 t3 t4 : Int64) : own_t 2 t0 t1 t2 t3 t4 = t2 := by simp [own_t]
theorem own_t3 (t0 t1 t2 t3 t4 : Int64) : own_t 3 t0 t1 t2 t3 t4 = t3 := by simp [own_t]
theorem own_t4 (t0 t1 t2 t3 t4 : Int64) : own_t 4 t0 t1 t2 t3 t4 = t4 := by simp [own_t]
theorem own_lt5 {k n : Int32} (h : k < n) (h5 : ¬ (5 : Int32) < n) : k < 5 := by
  rw [Int32.lt_iff_toInt_lt] at *; omega
theorem own_five {k : Int32} (h : ¬ k < 0) (h5 : k < 5) : k = 0 ∨ k = 1 ∨ k = 2 ∨ k = 3 ∨ k = 4 := by
  rw [Int32.lt_iff_toInt_lt] at h h5
  have a : (0 : Int32).toInt = 0 := rfl
  have b : (5 : Int32).toInt = 5 := rfl
  have h' : k.toInt = 0 ∨ k.toInt = 1 ∨ k.toInt = 2 ∨ k.toInt = 3 ∨ k.toInt = 4 := by omega
  rcases h' with q | q | q | q | q
  · exact Or.inl (Int32.toInt_inj.mp q)
  · exact Or.inr (Or.inl (Int32.toInt_inj.mp q))
  · exact Or.inr (Or.inr (Or.inl (Int32.toInt_inj.mp q)))
  · exact Or.inr (Or.inr (Or.inr (Or.inl (Int32.toInt_inj.mp q))))
  · exact Or.inr (Or.inr (Or.inr (Or.inr (Int32.toInt_inj.mp q))))
theorem own_get5 {k : Int32} {t0 t1 t2 t3 t4 : Int64} {d : Value} (h : ¬ k < 0) (h5 : k < 5) : ([(.long t0), (.long t1), (.long t2), (.long t3), (.long t4)] : List Value).getD k.toNatClampNeg d = .long (own_t k t0 t1 t2 t3 t4) := by
  rcases own_five h h5 with q | q | q | q | q <;> subst q
  · rw [own_t0]; rfl
  · rw [own_t1]; rfl
  · rw [own_t2]; rfl
  · rw [own_t3]; rfl
  · rw [own_t4]; rfl
theorem own_adv_nn {k n : Int32} {t0 t1 t2 t3 t4 e : Int64} (h : ¬ k < 0) (h5 : ¬ (5 : Int32) < n) : ¬ own_adv k n t0 t1 t2 t3 t4 e < 0 := by
  unfold own_adv
  split
  · rename_i q
    split
    · rcases own_five h (own_lt5 q h5) with z | z | z | z | z <;> subst z <;> decide
    · exact h
  · exact h
theorem own_min (x : Int64) : ¬ (lcmpW x (-9223372036854775808 : Int64) < (0 : Int32)) := fun h => by
  have h' := (lw_lt _ _).mp h
  rw [Int64.lt_iff_toInt_lt] at h'
  have := rng64 x
  have a : (-9223372036854775808 : Int64).toInt = -9223372036854775808 := rfl
  omega
theorem own_xy {d n : Int32} {p : Int64} (h : d = n) : own_x d n p = (9223372036854775807 : Int64) := if_pos h
theorem own_xn {d n : Int32} {p : Int64} (h : ¬ d = n) : own_x d n p = p + d.toInt64 := if_neg h
theorem d1_0 : decode prog_122_method_1_code 0 = .ok (.aload_n 0, 1) := by decide +kernel
theorem d1_1 : decode prog_122_method_1_code 1 = .ok (.invokespecial 1, 3) := by decide +kernel
theorem d1_4 : decode prog_122_method_1_code 4 = .ok (.aload_n 0, 1) := by decide +kernel
theorem d1_5 : decode prog_122_method_1_code 5 = .ok (.getstatic 7, 3) := by decide +kernel
theorem d1_8 : decode prog_122_method_1_code 8 = .ok (.putfield 13, 3) := by decide +kernel
theorem d1_11 : decode prog_122_method_1_code 11 = .ok (.aload_n 0, 1) := by decide +kernel
theorem d1_12 : decode prog_122_method_1_code 12 = .ok (.getstatic 7, 3) := by decide +kernel
theorem d1_15 : decode prog_122_method_1_code 15 = .ok (.putfield 16, 3) := by decide +kernel
theorem d1_18 : decode prog_122_method_1_code 18 = .ok (.return_, 1) := by decide +kernel
theorem pn_Forbidden : plainName "com/example/eventloom/eventloom/engine/Forbidden" = true := by first | (simp [plainName, overriddenIn]; done) | decide +kernel
theorem ef_rm1 (m : MethodId) (a1 : Addr) : entryFrame m #[(.ref a1)] 1 = mkF m 0 #[.val (.ref a1)] [] := by first | (simp [entryFrame, mkF, argsToLocals, Value.category]; done) | rfl
def Q_rm1 (Z : State) (a1 : Addr) (wN : Addr) (h0 : Heap) (n0 : Nat) (v : Option Value) (h : Heap) (L : List Loc) : Prop := v = none ∧ Fr n0 L ∧ Keep h0 h [a1] ∧ Exa Z h a1 "com/example/eventloom/eventloom/engine/Forbidden" ∧ Fld Z h a1 "com/example/eventloom/eventloom/engine/Forbidden" "positions" "[J" (.ref wN) ∧ Fld Z h a1 "com/example/eventloom/eventloom/engine/Forbidden" "times" "[J" (.ref wN) ∧ Fld Z h a1 "com/example/eventloom/eventloom/engine/Forbidden" "first" "I" (.int (0 : Int32)) ∧ Fld Z h a1 "com/example/eventloom/eventloom/engine/Forbidden" "count" "I" (.int (0 : Int32)) ∧ Fld Z h a1 "com/example/eventloom/eventloom/engine/Forbidden" "befores" "J" (.long (0 : Int64))
set_option maxRecDepth 65536 in
set_option maxHeartbeats 40000000 in
theorem rm1 (l : Launch) (Z : State) (a0 : Array Value) (hw : ∀ d ∈ tables_1, d.before a0 Z = true) (ws : List Jvm.Cond) (a1 : Addr) (wN : Addr) (h0 : Heap) (n0 : Nat) (Z0 : n0 ≤ h0.size) (E_a1 : Exa Z h0 a1 "com/example/eventloom/eventloom/engine/Forbidden") (F_positions_a1 : Fld Z h0 a1 "com/example/eventloom/eventloom/engine/Forbidden" "positions" "[J" .null) (F_times_a1 : Fld Z h0 a1 "com/example/eventloom/eventloom/engine/Forbidden" "times" "[J" .null) (F_first_a1 : Fld Z h0 a1 "com/example/eventloom/eventloom/engine/Forbidden" "first" "I" (.int (0 : Int32))) (F_count_a1 : Fld Z h0 a1 "com/example/eventloom/eventloom/engine/Forbidden" "count" "I" (.int (0 : Int32))) (F_befores_a1 : Fld Z h0 a1 "com/example/eventloom/eventloom/engine/Forbidden" "befores" "J" (.long (0 : Int64))) (S_NONE : Sta Z h0 "com/example/eventloom/eventloom/engine/Forbidden" "NONE" "[J" (.ref wN)) (g_a1 : n0 ≤ a1) :
    MetFree l own_y0 (head1 (Jvm.Cond.code own_y0 prog_122_method_1_code 1 none :: ws) ({ frames := 1, cells := 0, slots := 0, locals := 12 } : Room)) (fun a U => a = #[(.ref a1)] ∧ Z.Warmed39 U.vm ∧ U.heap = h0) (fun _ _ _ _ _ => True) (fun _ U o U' => ∃ v L, o = .returned v ∧ Q_rm1 Z a1 wN h0 n0 v U'.heap L ∧ FrameEnd U o U' L ({ frames := 1, cells := 0, slots := 0, locals := 12 } : Room).cells ({ frames := 1, cells := 0, slots := 0, locals := 12 } : Room).slots) := by
  refine MetFree.of_bodySF (plainFor_of_name pn_Forbidden) hisR ?_
  intro p e s m args below meth c s₁ Bd hml0 hP hK
  obtain ⟨rfl, hZ, hh⟩ := hP
  have hx := Bd.exec
  have hby := Bd.bytes
  have hml : c.maxLocals = 1 := hml0
  have hown : s.vm.findClass "com/example/eventloom/eventloom/engine/Forbidden" = some m.cls := findClass_of_methodNamed Bd.named
  have hnm := (name_of_methodNamed Bd.named Bd.method).1
  have X0 : Stand p l e ({ frames := 1, cells := 0, slots := 0, locals := 12 } : Room) s m #[(.ref a1)] below meth c s₁ [] 0 0 := Stand.of_body Bd
  have e0 : s₁.heap = h0 := by rw [← hh, Bd.state]; rfl
  have N0 := Fr.nil n0
  show OGo p.tables e below (own_Kq s (fun v h L => Q_rm1 Z a1 wN h0 n0 v h L) ({ frames := 1, cells := 0, slots := 0, locals := 12 } : Room).cells ({ frames := 1, cells := 0, slots := 0, locals := 12 } : Room).slots) (s₁.setTop (entryFrame m #[(.ref a1)] 1))
  refine OGo.cast (ef_rm1 m a1) ?_
  show OGo _ _ _ _ (s₁.setTop (mkF m 0 #[.val (.ref a1)] []))
  refine OGo.via (fun _ k => XS.aloadN X0.here hx rfl (hb hby d1_0) rfl rfl k) ?_
  obtain ⟨T1, X1, e1, st1⟩ := initO X0 hx hZ hown (own_w hw 7 rfl) (own_w hw 8 rfl) (own_w hw 9 rfl) e0 (g := (mkF m 1 #[.val (.ref a1)] [(.ref a1)])) rfl (by rw [hml]; rfl) rfl (hb hby d1_1) (by decide) (W := 0) (by show 2 * 0 + _ ≤ _; exact Nat.le_of_eq rfl) (by decide)
  refine OGo.via st1 ?_
  show OGo _ _ _ _ (T1.setTop (mkF m 4 #[.val (.ref a1)] []))
  refine OGo.via (fun _ k => XS.aloadN X1.here hx rfl (hb hby d1_4) rfl rfl k) ?_
  obtain ⟨T2, X2, e2, st2⟩ := getS2 X1 hx hZ hown (host := "") (Or.inl (own_w hw 10 rfl)) Via.refl e1 S_NONE (g := (mkF m 5 #[.val (.ref a1)] [(.ref a1)])) rfl (hb hby d1_5)
  refine OGo.via st2 ?_
  show OGo _ _ _ _ (T2.setTop (mkF m 8 #[.val (.ref a1)] [(.ref wN), (.ref a1)]))
  obtain ⟨T3, h3, X3, e3, W3, st3⟩ := putF X2 hx hZ hown (host := "") (Or.inl (own_w hw 12 rfl)) Via.refl e2 F_positions_a1 E_a1 (Or.inl (own_w hw 13 rfl)) (own_w hw 2 rfl) (ty := (.array .long)) (by decide) rfl rfl (g := (mkF m 8 #[.val (.ref a1)] [(.ref wN), (.ref a1)])) rfl rfl (hb hby d1_8)
  refine OGo.via st3 ?_
  have Fw3 := F_positions_a1.same W3
  have K3 : Keep h0 h3 [a1] := (Keep.refl h0 [a1]).wr W3 (Or.inl (List.mem_of_getElem? (i := 0) rfl))
  have N3 := Fr.snoc X3 N0 g_a1
  show OGo _ _ _ _ (T3.setTop (mkF m 11 #[.val (.ref a1)] []))
  refine OGo.via (fun _ k => XS.aloadN X3.here hx rfl (hb hby d1_11) rfl rfl k) ?_
  have f5 := S_NONE.wr W3
  obtain ⟨T4, X4, e4, st4⟩ := getS2 X3 hx hZ hown (host := "") (Or.inl (own_w hw 10 rfl)) Via.refl e3 f5 (g := (mkF m 12 #[.val (.ref a1)] [(.ref a1)])) rfl (hb hby d1_12)
  refine OGo.via st4 ?_
  show OGo _ _ _ _ (T4.setTop (mkF m 15 #[.val (.ref a1)] [(.ref wN), (.ref a1)]))
  have f7 := F_times_a1.other W3 (Or.inr (slot_ne (Or.inl (own_w hw 15 rfl)) (Or.inl (own_w hw 13 rfl)) (by decide) (t := (.array .long)) (t' := (.array .long)) (by decide) (by decide)))
  have f8 := E_a1.wr W3
  obtain ⟨T6, h6, X6, e6, W6, st6⟩ := putF X4 hx hZ hown (host := "") (Or.inl (own_w hw 14 rfl)) Via.refl e4 f7 f8 (Or.inl (own_w hw 15 rfl)) (own_w hw 2 rfl) (ty := (.array .long)) (by decide) rfl rfl (g := (mkF m 15 #[.val (.ref a1)] [(.ref wN), (.ref a1)])) rfl rfl (hb hby d1_15)
  refine OGo.via st6 ?_
  have Fw6 := f7.same W6
  have K6 : Keep h0 h6 [a1] := K3.wr W6 (Or.inl (List.mem_of_getElem? (i := 0) rfl))
  have N6 := Fr.snoc X6 N3 g_a1
  show OGo _ _ _ _ (T6.setTop (mkF m 18 #[.val (.ref a1)] []))
  show OGo _ _ _ _ (T6.setTop (mkF m 18 #[.val (.ref a1)] []))
  have f9 := f8.wr W6
  have f10 := Fw3.other W6 (Or.inr (slot_ne (Or.inl (own_w hw 13 rfl)) (Or.inl (own_w hw 15 rfl)) (by decide) (t := (.array .long)) (t' := (.array .long)) (by decide) (by decide)))
  have f11 := F_first_a1.other W3 (Or.inr (slot_ne (Or.inl (own_w hw 31 rfl)) (Or.inl (own_w hw 13 rfl)) (by decide) (t := .int) (t' := (.array .long)) (by decide) (by decide)))
  have f12 := f11.other W6 (Or.inr (slot_ne (Or.inl (own_w hw 31 rfl)) (Or.inl (own_w hw 15 rfl)) (by decide) (t := .int) (t' := (.array .long)) (by decide) (by decide)))
  have f13 := F_count_a1.other W3 (Or.inr (slot_ne (Or.inl (own_w hw 28 rfl)) (Or.inl (own_w hw 13 rfl)) (by decide) (t := .int) (t' := (.array .long)) (by decide) (by decide)))
  have f14 := f13.other W6 (Or.inr (slot_ne (Or.inl (own_w hw 28 rfl)) (Or.inl (own_w hw 15 rfl)) (by decide) (t := .int) (t' := (.array .long)) (by decide) (by decide)))
  have f15 := F_befores_a1.other W3 (Or.inr (slot_ne (Or.inl (own_w hw 33 rfl)) (Or.inl (own_w hw 13 rfl)) (by decide) (t := .long) (t' := (.array .long)) (by decide) (by decide)))
  have f16 := f15.other W6 (Or.inr (slot_ne (Or.inl (own_w hw 33 rfl)) (Or.inl (own_w hw 15 rfl)) (by decide) (t := .long) (t' := (.array .long)) (by decide) (by decide)))
  refine own_retV X6 hx Bd.notSynchronized Bd.returns (hb hby d1_18) (by decide) (by decide) ?_
  show Q_rm1 Z _ _ h0 n0 _ T6.heap _
  rw [e6]
  exact ⟨rfl, N6, K6, f9, f10, Fw6, f12, f14, f16⟩
theorem d8_0 : decode jdk_29_method_69_code 0 = .ok (.iload_n 0, 1) := by decide +kernel
theorem d8_1 : decode jdk_29_method_69_code 1 = .ok (.iload_n 1, 1) := by decide +kernel
theorem d8_2 : decode jdk_29_method_69_code 2 = .ok (.if_icmp .gt 7, 3) := by decide +kernel
theorem d8_9 : decode jdk_29_method_69_code 9 = .ok (.iload_n 1, 1) := by decide +kernel
theorem d8_10 : decode jdk_29_method_69_code 10 = .ok (.ireturn, 1) := by decide +kernel
theorem d8_5 : decode jdk_29_method_69_code 5 = .ok (.iload_n 0, 1) := by decide +kernel
theorem d8_6 : decode jdk_29_method_69_code 6 = .ok (.goto 4, 3) := by decide +kernel
theorem ef_rm8 (m : MethodId) (p1 : Int32) (p2 : Int32) : entryFrame m #[(.int p1), (.int p2)] 2 = mkF m 0 #[.val (.int p1), .val (.int p2)] [] := by first | (simp [entryFrame, mkF, argsToLocals, Value.category]; done) | rfl
def Q_rm8 (Z : State) (p1 : Int32) (p2 : Int32) (h0 : Heap) (n0 : Nat) (v : Option Value) (h : Heap) (L : List Loc) : Prop := v = some (.int (if p2 < p1 then p2 else p1)) ∧ Fr n0 L ∧ h = h0
set_option maxRecDepth 65536 in
set_option maxHeartbeats 40000000 in
theorem rm8 (l : Launch) (Z : State) (a0 : Array Value) (hw : ∀ d ∈ tables_1, d.before a0 Z = true) (ws : List Jvm.Cond) (p1 : Int32) (p2 : Int32) (h0 : Heap) (n0 : Nat) (Z0 : n0 ≤ h0.size) :
    MetFree l own_y1 (head1 (Jvm.Cond.code own_y1 jdk_29_method_69_code 2 (some .int) :: ws) ({ frames := 0, cells := 0, slots := 0, locals := 0 } : Room)) (fun a U => a = #[(.int p1), (.int p2)] ∧ Z.Warmed39 U.vm ∧ U.heap = h0) (fun _ _ _ _ _ => True) (fun _ U o U' => ∃ v L, o = .returned v ∧ Q_rm8 Z p1 p2 h0 n0 v U'.heap L ∧ FrameEnd U o U' L ({ frames := 0, cells := 0, slots := 0, locals := 0 } : Room).cells ({ frames := 0, cells := 0, slots := 0, locals := 0 } : Room).slots) := by
  refine MetFree.of_bodySF (Jvm.Free.JP.mathPlain rfl (by decide +kernel)) hisR ?_
  intro p e s m args below meth c s₁ Bd hml0 hP hK
  obtain ⟨rfl, hZ, hh⟩ := hP
  have hx := Bd.exec
  have hby := Bd.bytes
  have hml : c.maxLocals = 2 := hml0
  have hown : s.vm.findClass "java/lang/Math" = some m.cls := findClass_of_methodNamed Bd.named
  have hnm := (name_of_methodNamed Bd.named Bd.method).1
  have X0 : Stand p l e ({ frames := 0, cells := 0, slots := 0, locals := 0 } : Room) s m #[(.int p1), (.int p2)] below meth c s₁ [] 0 0 := Stand.of_body Bd
  have e0 : s₁.heap = h0 := by rw [← hh, Bd.state]; rfl
  have N0 := Fr.nil n0
  show OGo p.tables e below (own_Kq s (fun v h L => Q_rm8 Z p1 p2 h0 n0 v h L) ({ frames := 0, cells := 0, slots := 0, locals := 0 } : Room).cells ({ frames := 0, cells := 0, slots := 0, locals := 0 } : Room).slots) (s₁.setTop (entryFrame m #[(.int p1), (.int p2)] 2))
  refine OGo.cast (ef_rm8 m p1 p2) ?_
  show OGo _ _ _ _ (s₁.setTop (mkF m 0 #[.val (.int p1), .val (.int p2)] []))
  refine OGo.via (fun _ k => XS.iloadN X0.here hx rfl (hb hby d8_0) rfl (XS.iloadN X0.here hx rfl (hb hby d8_1) rfl k)) ?_
  by_cases hc2_1 : p2 < p1
  · refine OGo.via (fun _ k => XS.icmpYes X0.here hx rfl (pc0 := 2) (pc' := 9) rfl (hb hby d8_2) rfl (tlt hc2_1).2.2.1 (by decide) (by decide) k) ?_
    show OGo _ _ _ _ (s₁.setTop (mkF m 9 #[.val (.int p1), .val (.int p2)] []))
    refine OGo.via (fun _ k => XS.iloadN X0.here hx rfl (hb hby d8_9) rfl k) ?_
    show OGo _ _ _ _ (s₁.setTop (mkF m 10 #[.val (.int p1), .val (.int p2)] [(.int p2)]))
    refine own_retI X0 hx Bd.notSynchronized Bd.returns (hb hby d8_10) (by decide) (by decide) ?_
    show Q_rm8 Z _ _ h0 n0 _ s₁.heap _
    exact ⟨(by rw [if_pos hc2_1]), N0, e0⟩
  · refine OGo.via (fun _ k => XS.icmpNo X0.here hx rfl (hb hby d8_2) rfl (flt hc2_1).2.2.1 k) ?_
    show OGo _ _ _ _ (s₁.setTop (mkF m 5 #[.val (.int p1), .val (.int p2)] []))
    refine OGo.via (fun _ k => XS.iloadN X0.here hx rfl (hb hby d8_5) rfl (XS.goto X0.here hx rfl (pc0 := 6) (pc' := 10) rfl (hb hby d8_6) (by decide) (by decide) k)) ?_
    show OGo _ _ _ _ (s₁.setTop (mkF m 10 #[.val (.int p1), .val (.int p2)] [(.int p1)]))
    refine own_retI X0 hx Bd.notSynchronized Bd.returns (hb hby d8_10) (by decide) (by decide) ?_
    show Q_rm8 Z _ _ h0 n0 _ s₁.heap _
    exact ⟨(by rw [if_neg hc2_1]), N0, e0⟩
theorem d7_0 : decode jdk_65_method_124_code 0 = .ok (.iload_n 1, 1) := by decide +kernel
theorem d7_1 : decode jdk_65_method_124_code 1 = .ok (.aload_n 0, 1) := by decide +kernel
theorem d7_2 : decode jdk_65_method_124_code 2 = .ok (.arraylength, 1) := by decide +kernel
theorem d7_3 : decode jdk_65_method_124_code 3 = .ok (.if_icmp .ne 11, 3) := by decide +kernel
theorem d7_14 : decode jdk_65_method_124_code 14 = .ok (.iload_n 1, 1) := by decide +kernel
theorem d7_15 : decode jdk_65_method_124_code 15 = .ok (.newarray .long, 2) := by decide +kernel
theorem d7_17 : decode jdk_65_method_124_code 17 = .ok (.astore_n 2, 1) := by decide +kernel
theorem d7_18 : decode jdk_65_method_124_code 18 = .ok (.aload_n 0, 1) := by decide +kernel
theorem d7_19 : decode jdk_65_method_124_code 19 = .ok (.iconst 0, 1) := by decide +kernel
theorem d7_20 : decode jdk_65_method_124_code 20 = .ok (.aload_n 2, 1) := by decide +kernel
theorem d7_21 : decode jdk_65_method_124_code 21 = .ok (.iconst 0, 1) := by decide +kernel
theorem d7_22 : decode jdk_65_method_124_code 22 = .ok (.aload_n 0, 1) := by decide +kernel
theorem d7_23 : decode jdk_65_method_124_code 23 = .ok (.arraylength, 1) := by decide +kernel
theorem d7_24 : decode jdk_65_method_124_code 24 = .ok (.iload_n 1, 1) := by decide +kernel
theorem d7_25 : decode jdk_65_method_124_code 25 = .ok (.invokestatic 304, 3) := by decide +kernel
theorem pd_0 : parseMethodDescriptor "(II)I" = some ⟨[.int, .int], some .int⟩ := by decide +kernel
theorem d7_28 : decode jdk_65_method_124_code 28 = .ok (.invokestatic 150, 3) := by decide +kernel
theorem d7_31 : decode jdk_65_method_124_code 31 = .ok (.aload_n 2, 1) := by decide +kernel
theorem d7_32 : decode jdk_65_method_124_code 32 = .ok (.areturn, 1) := by decide +kernel
theorem pn_Arrays : plainName "java/util/Arrays" = true := by first | (simp [plainName, overriddenIn]; done) | decide +kernel
theorem ef_rm7 (m : MethodId) (a1 : Addr) : entryFrame m #[(.ref a1), (.int (8 : Int32))] 3 = mkF m 0 #[.val (.ref a1), .val (.int (8 : Int32)), .unset] [] := by first | (simp [entryFrame, mkF, argsToLocals, Value.category]; done) | rfl
def Q_rm7 (Z : State) (a1 : Addr) (k0 : ClassId) (x0 : Int64) (x1 : Int64) (x2 : Int64) (x3 : Int64) (h0 : Heap) (n0 : Nat) (v : Option Value) (h : Heap) (L : List Loc) : Prop := ∃ b : Addr, ∃ kb : ClassId, v = some (.ref b) ∧ Fr n0 L ∧ Keep h0 h [] ∧ h0.size ≤ b ∧ Arv Z h b kb .long (8 : Int32) [(.long x0), (.long x1), (.long x2), (.long x3), (.long (0 : Int64)), (.long (0 : Int64)), (.long (0 : Int64)), (.long (0 : Int64))] (.long (0 : Int64))
set_option maxRecDepth 65536 in
set_option maxHeartbeats 40000000 in
theorem rm7 (l : Launch) (Z : State) (a0 : Array Value) (hw : ∀ d ∈ tables_1, d.before a0 Z = true) (ws : List Jvm.Cond) (a1 : Addr) (k0 : ClassId) (x0 : Int64) (x1 : Int64) (x2 : Int64) (x3 : Int64) (h0 : Heap) (n0 : Nat) (Z0 : n0 ≤ h0.size) (V_a1 : Arv Z h0 a1 k0 .long (4 : Int32) [(.long x0), (.long x1), (.long x2), (.long x3)] (.long (0 : Int64))) :
    MetFree l own_y2 (head1 (Jvm.Cond.code own_y2 jdk_65_method_124_code 3 (some (.array .long)) :: ws) ({ frames := 1, cells := 1, slots := 8, locals := 18 } : Room)) (fun a U => a = #[(.ref a1), (.int (8 : Int32))] ∧ Z.Warmed39 U.vm ∧ U.heap = h0) (fun _ _ _ _ _ => True) (fun _ U o U' => ∃ v L, o = .returned v ∧ Q_rm7 Z a1 k0 x0 x1 x2 x3 h0 n0 v U'.heap L ∧ FrameEnd U o U' L ({ frames := 1, cells := 1, slots := 8, locals := 18 } : Room).cells ({ frames := 1, cells := 1, slots := 8, locals := 18 } : Room).slots) := by
  refine MetFree.of_bodySF (plainFor_of_name pn_Arrays) hisR ?_
  intro p e s m args below meth c s₁ Bd hml0 hP hK
  obtain ⟨rfl, hZ, hh⟩ := hP
  have hx := Bd.exec
  have hby := Bd.bytes
  have hml : c.maxLocals = 3 := hml0
  have hown : s.vm.findClass "java/util/Arrays" = some m.cls := findClass_of_methodNamed Bd.named
  have hnm := (name_of_methodNamed Bd.named Bd.method).1
  have X0 : Stand p l e ({ frames := 1, cells := 1, slots := 8, locals := 18 } : Room) s m #[(.ref a1), (.int (8 : Int32))] below meth c s₁ [] 0 0 := Stand.of_body Bd
  have e0 : s₁.heap = h0 := by rw [← hh, Bd.state]; rfl
  have N0 := Fr.nil n0
  show OGo p.tables e below (own_Kq s (fun v h L => Q_rm7 Z a1 k0 x0 x1 x2 x3 h0 n0 v h L) ({ frames := 1, cells := 1, slots := 8, locals := 18 } : Room).cells ({ frames := 1, cells := 1, slots := 8, locals := 18 } : Room).slots) (s₁.setTop (entryFrame m #[(.ref a1), (.int (8 : Int32))] 3))
  refine OGo.cast (ef_rm7 m a1) ?_
  show OGo _ _ _ _ (s₁.setTop (mkF m 0 #[.val (.ref a1), .val (.int (8 : Int32)), .unset] []))
  refine OGo.via (fun _ k => XS.iloadN X0.here hx rfl (hb hby d7_0) rfl (XS.aloadN X0.here hx rfl (hb hby d7_1) rfl rfl k)) ?_
  obtain ⟨cl1, Ar1, q1, Sz1, Ng1, Hs1, Gf1⟩ := id V_a1
  refine OGo.via (X0.arraylength hx (by rw [e0]; exact Ar1.1) (State.isArrayOf_alike hZ.alike Ar1.2.1) (g := (mkF m 2 #[.val (.ref a1), .val (.int (8 : Int32)), .unset] [(.ref a1), (.int (8 : Int32))])) rfl rfl (hb hby d7_2)) ?_
  rw [len_of Sz1 Ng1]
  show OGo _ _ _ _ (s₁.setTop (mkF m 3 #[.val (.ref a1), .val (.int (8 : Int32)), .unset] [(.int (4 : Int32)), (.int (8 : Int32))]))
  refine OGo.via (fun _ k => XS.icmpYes X0.here hx rfl (pc0 := 3) (pc' := 14) rfl (hb hby d7_3) rfl (feq (by decide : ¬ ((8 : Int32) = (4 : Int32)))).2 (by decide) (by decide) k) ?_
  show OGo _ _ _ _ (s₁.setTop (mkF m 14 #[.val (.ref a1), .val (.int (8 : Int32)), .unset] []))
  refine OGo.via (fun _ k => XS.iloadN X0.here hx rfl (hb hby d7_14) rfl k) ?_
  obtain ⟨T2, h2, ka2, X2, e2, E2, A2, Y2, st2⟩ := newPE (ad := "[J") X0 hx hZ (own_w hw 0 rfl) e0 (g := (mkF m 15 #[.val (.ref a1), .val (.int (8 : Int32)), .unset] [(.int (8 : Int32))])) rfl (hb hby d7_15) rfl (by decide) (cap := 8) (by decide) (by decide) (by decide) (by decide) (by decide)
  obtain ⟨b2, g2⟩ : ∃ z, z = h0.size := ⟨_, rfl⟩
  rw [← g2] at A2 Y2 st2
  refine OGo.via st2 ?_
  have K2 : Keep h0 h2 [] := (Keep.refl h0 []).ext E2
  have lt_a1_b2 : a1 < b2 := Nat.lt_of_lt_of_le V_a1.lt (Nat.le_of_eq g2.symm)
  have sz_b2 : h0.size ≤ b2 := Nat.le_trans (Keep.refl h0 []).1 (Nat.le_of_eq g2.symm)
  have g_b2 : n0 ≤ b2 := Nat.le_trans Z0 sz_b2
  have V2 : Arv Z h2 b2 ka2 .long (8 : Int32) [(.long (0 : Int64)), (.long (0 : Int64)), (.long (0 : Int64)), (.long (0 : Int64)), (.long (0 : Int64)), (.long (0 : Int64)), (.long (0 : Int64)), (.long (0 : Int64))] (.long (0 : Int64)) := (Arv.new A2 (by decide)).pad (pad_rep [] (.long (0 : Int64)) 8)
  show OGo _ _ _ _ (T2.setTop (mkF m 17 #[.val (.ref a1), .val (.int (8 : Int32)), .unset] [(.ref b2)]))
  refine OGo.via (fun _ k => XS.astoreN X2.here hx rfl (hb hby d7_17) rfl rfl (l' := #[.val (.ref a1), .val (.int (8 : Int32)), .val (.ref b2)]) rfl (XS.aloadN X2.here hx rfl (hb hby d7_18) rfl rfl (XS.iconst X2.here hx rfl (hb hby d7_19) (XS.aloadN X2.here hx rfl (hb hby d7_20) rfl rfl (XS.iconst X2.here hx rfl (hb hby d7_21) (XS.aloadN X2.here hx rfl (hb hby d7_22) rfl rfl k)))))) ?_
  have f4 := V_a1.ext E2
  obtain ⟨cl3, Ar3, q3, Sz3, Ng3, Hs3, Gf3⟩ := id f4
  refine OGo.via (X2.arraylength hx (by rw [e2]; exact Ar3.1) (State.isArrayOf_alike hZ.alike Ar3.2.1) (g := (mkF m 23 #[.val (.ref a1), .val (.int (8 : Int32)), .val (.ref b2)] [(.ref a1), (.int (0 : Int32)), (.ref b2), (.int (0 : Int32)), (.ref a1)])) rfl rfl (hb hby d7_23)) ?_
  rw [len_of Sz3 Ng3]
  show OGo _ _ _ _ (T2.setTop (mkF m 24 #[.val (.ref a1), .val (.int (8 : Int32)), .val (.ref b2)] [(.int (4 : Int32)), (.int (0 : Int32)), (.ref b2), (.int (0 : Int32)), (.ref a1)]))
  refine OGo.via (fun _ k => XS.iloadN X2.here hx rfl (hb hby d7_24) rfl k) ?_
  obtain ⟨_, T5, Lc5, X5, hQ5, st5⟩ := own_open X2 (Jvm.LawKit.callS X2 hx (y := own_y1) hown (mvT hZ (own_w hw 51 rfl)) (mvT hZ (own_w hw 52 rfl)) (mvT hZ (own_w hw 53 rfl)) (mvT hZ (own_w hw 54 rfl)) (by decide) (backOf (W := 4) (rm8 l Z a0 hw [] (4 : Int32) (8 : Int32) h2 n0 (Nat.le_trans Z0 K2.1)) hZ (own_w hw 54 rfl) (own_w hw 53 rfl) (by decide) (by decide)) (g := (mkF m 25 #[.val (.ref a1), .val (.int (8 : Int32)), .val (.ref b2)] [(.int (8 : Int32)), (.int (4 : Int32)), (.int (0 : Int32)), (.ref b2), (.int (0 : Int32)), (.ref a1)])) rfl (by rw [hml]; rfl) (argsL := [(.int (4 : Int32)), (.int (8 : Int32))]) (rest := [(.int (0 : Int32)), (.ref b2), (.int (0 : Int32)), (.ref a1)]) (lenOf pd_0 rfl) rfl (by show 2 * 0 + _ ≤ _; exact Nat.le_of_eq rfl) (hb hby d7_25) (fun _ _ => ⟨rfl, e2, (by decide : 1 + 0 ≤ _), (by decide : 8 + 0 ≤ _)⟩))
  obtain ⟨rfl, N5q, r5_0⟩ := hQ5
  have N5 := Fr.app N0 N5q
  refine OGo.via st5 ?_
  show OGo _ _ _ _ (T5.setTop (mkF m 28 #[.val (.ref a1), .val (.int (8 : Int32)), .val (.ref b2)] [(.int (if (8 : Int32) < (4 : Int32) then (8 : Int32) else (4 : Int32))), (.int (0 : Int32)), (.ref b2), (.int (0 : Int32)), (.ref a1)]))
  rw [show (if (8 : Int32) < (4 : Int32) then (8 : Int32) else (4 : Int32)) = (4 : Int32) from by decide]
  show OGo _ _ _ _ (T5.setTop (mkF m 28 #[.val (.ref a1), .val (.int (8 : Int32)), .val (.ref b2)] [(.int (4 : Int32)), (.int (0 : Int32)), (.ref b2), (.int (0 : Int32)), (.ref a1)]))
  obtain ⟨T6, h6, Lc6, X6, e6, N6, Kp6, V6, st6⟩ := cpA X5 hx hZ hown (own_w hw 55 rfl) (own_w hw 58 rfl) (own_w hw 56 rfl) (own_w hw 57 rfl) r5_0 (us := [(.long x0), (.long x1), (.long x2), (.long x3)]) f4 V2 (Or.inl ⟨rfl, rfl⟩) (by decide) (by decide) (by decide) (by decide) (by decide) rfl (Nat.le_of_ble_eq_true rfl) N5 g_b2 (g := (mkF m 28 #[.val (.ref a1), .val (.int (8 : Int32)), .val (.ref b2)] [(.int (4 : Int32)), (.int (0 : Int32)), (.ref b2), (.int (0 : Int32)), (.ref a1)])) rfl (by rw [hml]; rfl) rfl (hb hby d7_28) (by decide) (W := 0) (by show 2 * 0 + _ ≤ _; exact Nat.le_of_eq rfl) (by decide)
  refine OGo.via st6 ?_
  have Vc6 : Arv Z h6 b2 ka2 .long (8 : Int32) [(.long x0), (.long x1), (.long x2), (.long x3), (.long (0 : Int64)), (.long (0 : Int64)), (.long (0 : Int64)), (.long (0 : Int64))] (.long (0 : Int64)) := V6
  have K6 : Keep h0 h6 [] := K2.trans Kp6 (allS (Or.inr sz_b2) all0)
  show OGo _ _ _ _ (T6.setTop (mkF m 31 #[.val (.ref a1), .val (.int (8 : Int32)), .val (.ref b2)] []))
  refine OGo.via (fun _ k => XS.aloadN X6.here hx rfl (hb hby d7_31) rfl rfl k) ?_
  show OGo _ _ _ _ (T6.setTop (mkF m 32 #[.val (.ref a1), .val (.int (8 : Int32)), .val (.ref b2)] [(.ref b2)]))
  refine own_retA X6 hx Bd.notSynchronized Bd.returns rfl rfl (hb hby d7_32) (by decide) (by decide) ?_
  show Q_rm7 Z _ _ _ _ _ _ h0 n0 _ T6.heap _
  rw [e6]
  exact ⟨b2, ka2, rfl, N6, K6, sz_b2, Vc6⟩
theorem d6_0 : decode prog_122_method_3_code 0 = .ok (.aload_n 1, 1) := by decide +kernel
theorem d6_1 : decode prog_122_method_3_code 1 = .ok (.iconst 2, 1) := by decide +kernel
theorem d6_2 : decode prog_122_method_3_code 2 = .ok (.aload_n 1, 1) := by decide +kernel
theorem d6_3 : decode prog_122_method_3_code 3 = .ok (.arraylength, 1) := by decide +kernel
theorem d6_4 : decode prog_122_method_3_code 4 = .ok (.imul, 1) := by decide +kernel
theorem d6_5 : decode prog_122_method_3_code 5 = .ok (.invokestatic 38, 3) := by decide +kernel
theorem pd_1 : parseMethodDescriptor "([JI)[J" = some ⟨[(.array .long), .int], some (.array .long)⟩ := by decide +kernel
theorem d6_8 : decode prog_122_method_3_code 8 = .ok (.astore_n 2, 1) := by decide +kernel
theorem d6_9 : decode prog_122_method_3_code 9 = .ok (.aload_n 1, 1) := by decide +kernel
theorem d6_10 : decode prog_122_method_3_code 10 = .ok (.iconst 0, 1) := by decide +kernel
theorem d6_11 : decode prog_122_method_3_code 11 = .ok (.aload_n 2, 1) := by decide +kernel
theorem d6_12 : decode prog_122_method_3_code 12 = .ok (.aload_n 1, 1) := by decide +kernel
theorem d6_13 : decode prog_122_method_3_code 13 = .ok (.arraylength, 1) := by decide +kernel
theorem d6_14 : decode prog_122_method_3_code 14 = .ok (.aload_n 0, 1) := by decide +kernel
theorem d6_15 : decode prog_122_method_3_code 15 = .ok (.getfield 31, 3) := by decide +kernel
theorem d6_18 : decode prog_122_method_3_code 18 = .ok (.invokestatic 44, 3) := by decide +kernel
theorem d6_21 : decode prog_122_method_3_code 21 = .ok (.aload_n 2, 1) := by decide +kernel
theorem d6_22 : decode prog_122_method_3_code 22 = .ok (.aload_n 0, 1) := by decide +kernel
theorem d6_23 : decode prog_122_method_3_code 23 = .ok (.getfield 31, 3) := by decide +kernel
theorem d6_26 : decode prog_122_method_3_code 26 = .ok (.aload_n 2, 1) := by decide +kernel
theorem d6_27 : decode prog_122_method_3_code 27 = .ok (.iconst 0, 1) := by decide +kernel
theorem d6_28 : decode prog_122_method_3_code 28 = .ok (.aload_n 1, 1) := by decide +kernel
theorem d6_29 : decode prog_122_method_3_code 29 = .ok (.arraylength, 1) := by decide +kernel
theorem d6_30 : decode prog_122_method_3_code 30 = .ok (.invokestatic 44, 3) := by decide +kernel
theorem d6_33 : decode prog_122_method_3_code 33 = .ok (.aload_n 2, 1) := by decide +kernel
theorem d6_34 : decode prog_122_method_3_code 34 = .ok (.areturn, 1) := by decide +kernel
theorem ef_rm6 (m : MethodId) (a1 : Addr) (a2 : Addr) : entryFrame m #[(.ref a1), (.ref a2)] 3 = mkF m 0 #[.val (.ref a1), .val (.ref a2), .unset] [] := by first | (simp [entryFrame, mkF, argsToLocals, Value.category]; done) | rfl
def Q_rm6 (Z : State) (a1 : Addr) (a2 : Addr) (k0 : ClassId) (x0 : Int64) (x1 : Int64) (x2 : Int64) (x3 : Int64) (h0 : Heap) (n0 : Nat) (v : Option Value) (h : Heap) (L : List Loc) : Prop := ∃ b : Addr, ∃ kb : ClassId, v = some (.ref b) ∧ Fr n0 L ∧ Keep h0 h [] ∧ h0.size ≤ b ∧ Arv Z h b kb .long (8 : Int32) [(.long x0), (.long x1), (.long x2), (.long x3), (.long (0 : Int64)), (.long (0 : Int64)), (.long (0 : Int64)), (.long (0 : Int64))] (.long (0 : Int64))
set_option maxRecDepth 65536 in
set_option maxHeartbeats 40000000 in
theorem rm6 (l : Launch) (Z : State) (a0 : Array Value) (hw : ∀ d ∈ tables_1, d.before a0 Z = true) (ws : List Jvm.Cond) (a1 : Addr) (a2 : Addr) (k0 : ClassId) (x0 : Int64) (x1 : Int64) (x2 : Int64) (x3 : Int64) (h0 : Heap) (n0 : Nat) (Z0 : n0 ≤ h0.size) (F_first_a1 : Fld Z h0 a1 "com/example/eventloom/eventloom/engine/Forbidden" "first" "I" (.int (0 : Int32))) (V_a2 : Arv Z h0 a2 k0 .long (4 : Int32) [(.long x0), (.long x1), (.long x2), (.long x3)] (.long (0 : Int64))) :
    MetFree l own_y3 (head1 (Jvm.Cond.code own_y3 prog_122_method_3_code 3 (some (.array .long)) :: ws) ({ frames := 2, cells := 1, slots := 8, locals := 32 } : Room)) (fun a U => a = #[(.ref a1), (.ref a2)] ∧ Z.Warmed39 U.vm ∧ U.heap = h0) (fun _ _ _ _ _ => True) (fun _ U o U' => ∃ v L, o = .returned v ∧ Q_rm6 Z a1 a2 k0 x0 x1 x2 x3 h0 n0 v U'.heap L ∧ FrameEnd U o U' L ({ frames := 2, cells := 1, slots := 8, locals := 32 } : Room).cells ({ frames := 2, cells := 1, slots := 8, locals := 32 } : Room).slots) := by
  refine MetFree.of_bodySF (plainFor_of_name pn_Forbidden) hisR ?_
  intro p e s m args below meth c s₁ Bd hml0 hP hK
  obtain ⟨rfl, hZ, hh⟩ := hP
  have hx := Bd.exec
  have hby := Bd.bytes
  have hml : c.maxLocals = 3 := hml0
  have hown : s.vm.findClass "com/example/eventloom/eventloom/engine/Forbidden" = some m.cls := findClass_of_methodNamed Bd.named
  have hnm := (name_of_methodNamed Bd.named Bd.method).1
  have X0 : Stand p l e ({ frames := 2, cells := 1, slots := 8, locals := 32 } : Room) s m #[(.ref a1), (.ref a2)] below meth c s₁ [] 0 0 := Stand.of_body Bd
  have e0 : s₁.heap = h0 := by rw [← hh, Bd.state]; rfl
  have N0 := Fr.nil n0
  show OGo p.tables e below (own_Kq s (fun v h L => Q_rm6 Z a1 a2 k0 x0 x1 x2 x3 h0 n0 v h L) ({ frames := 2, cells := 1, slots := 8, locals := 32 } : Room).cells ({ frames := 2, cells := 1, slots := 8, locals := 32 } : Room).slots) (s₁.setTop (entryFrame m #[(.ref a1), (.ref a2)] 3))
  refine OGo.cast (ef_rm6 m a1 a2) ?_
  show OGo _ _ _ _ (s₁.setTop (mkF m 0 #[.val (.ref a1), .val (.ref a2), .unset] []))
  refine OGo.via (fun _ k => XS.aloadN X0.here hx rfl (hb hby d6_0) rfl rfl (XS.iconst X0.here hx rfl (hb hby d6_1) (XS.aloadN X0.here hx rfl (hb hby d6_2) rfl rfl k))) ?_
  obtain ⟨cl1, Ar1, q1, Sz1, Ng1, Hs1, Gf1⟩ := id V_a2
  refine OGo.via (X0.arraylength hx (by rw [e0]; exact Ar1.1) (State.isArrayOf_alike hZ.alike Ar1.2.1) (g := (mkF m 3 #[.val (.ref a1), .val (.ref a2), .unset] [(.ref a2), (.int (2 : Int32)), (.ref a2)])) rfl rfl (hb hby d6_3)) ?_
  rw [len_of Sz1 Ng1]
  show OGo _ _ _ _ (s₁.setTop (mkF m 4 #[.val (.ref a1), .val (.ref a2), .unset] [(.int (4 : Int32)), (.int (2 : Int32)), (.ref a2)]))
  refine OGo.via (fun _ k => XS.imul X0.here hx rfl (hb hby d6_4) rfl k) ?_
  show OGo _ _ _ _ (s₁.setTop (mkF m 5 #[.val (.ref a1), .val (.ref a2), .unset] [(.int ((2 : Int32) * (4 : Int32))), (.ref a2)]))
  rw [show ((2 : Int32) * (4 : Int32)) = (8 : Int32) from by decide]
  obtain ⟨_, T3, Lc3, X3, hQ3, st3⟩ := own_open X0 (Jvm.LawKit.callS X0 hx (y := own_y2) hown (mvT hZ (own_w hw 47 rfl)) (mvT hZ (own_w hw 48 rfl)) (mvT hZ (own_w hw 49 rfl)) (mvT hZ (own_w hw 50 rfl)) (by decide) (backOf (W := 0) (rm7 l Z a0 hw [] a2 k0 x0 x1 x2 x3 h0 n0 Z0 V_a2) hZ (own_w hw 50 rfl) (own_w hw 49 rfl) (by decide) (by decide)) (g := (mkF m 5 #[.val (.ref a1), .val (.ref a2), .unset] [(.int (8 : Int32)), (.ref a2)])) rfl (by rw [hml]; rfl) (argsL := [(.ref a2), (.int (8 : Int32))]) (rest := []) (lenOf pd_1 rfl) rfl (by show 2 * 0 + _ ≤ _; exact Nat.le_of_eq rfl) (hb hby d6_5) (fun _ _ => ⟨rfl, e0, (by decide : 0 + 1 ≤ _), (by decide : 0 + 8 ≤ _)⟩))
  obtain ⟨b_3, kb_3, rfl, N3q, r3_0, r3_1, r3_2⟩ := hQ3
  have N3 := Fr.app N0 N3q
  have K3 : Keep h0 T3.heap [] := (Keep.refl h0 []).trans r3_0 all0
  have lt_a1_b_3 : a1 < b_3 := Nat.lt_of_lt_of_le F_first_a1.lt r3_1
  have lt_a2_b_3 : a2 < b_3 := Nat.lt_of_lt_of_le V_a2.lt r3_1
  have sz_b_3 : h0.size ≤ b_3 := Nat.le_trans (Keep.refl h0 []).1 r3_1
  have g_b_3 : n0 ≤ b_3 := Nat.le_trans Z0 sz_b_3
  refine OGo.via st3 ?_
  show OGo _ _ _ _ (T3.setTop (mkF m 8 #[.val (.ref a1), .val (.ref a2), .unset] [(.ref b_3)]))
  refine OGo.via (fun _ k => XS.astoreN X3.here hx rfl (hb hby d6_8) rfl rfl (l' := #[.val (.ref a1), .val (.ref a2), .val (.ref b_3)]) rfl (XS.aloadN X3.here hx rfl (hb hby d6_9) rfl rfl (XS.iconst X3.here hx rfl (hb hby d6_10) (XS.aloadN X3.here hx rfl (hb hby d6_11) rfl rfl (XS.aloadN X3.here hx rfl (hb hby d6_12) rfl rfl k))))) ?_
  have f5 := V_a2.keep r3_0 nin0
  obtain ⟨cl4, Ar4, q4, Sz4, Ng4, Hs4, Gf4⟩ := id f5
  refine OGo.via (X3.arraylength hx Ar4.1 (State.isArrayOf_alike hZ.alike Ar4.2.1) (g := (mkF m 13 #[.val (.ref a1), .val (.ref a2), .val (.ref b_3)] [(.ref a2), (.ref b_3), (.int (0 : Int32)), (.ref a2)])) rfl rfl (hb hby d6_13)) ?_
  rw [len_of Sz4 Ng4]
  show OGo _ _ _ _ (T3.setTop (mkF m 14 #[.val (.ref a1), .val (.ref a2), .val (.ref b_3)] [(.int (4 : Int32)), (.ref b_3), (.int (0 : Int32)), (.ref a2)]))
  refine OGo.via (fun _ k => XS.aloadN X3.here hx rfl (hb hby d6_14) rfl rfl k) ?_
  have f7 := F_first_a1.keep r3_0 nin0
  obtain ⟨T6, X6, e6, st6⟩ := getF X3 hx hZ hown (host := "") (Or.inl (own_w hw 30 rfl)) Via.refl rfl f7 (g := (mkF m 15 #[.val (.ref a1), .val (.ref a2), .val (.ref b_3)] [(.ref a1), (.int (4 : Int32)), (.ref b_3), (.int (0 : Int32)), (.ref a2)])) rfl rfl (hb hby d6_15)
  refine OGo.via st6 ?_
  show OGo _ _ _ _ (T6.setTop (mkF m 18 #[.val (.ref a1), .val (.ref a2), .val (.ref b_3)] [(.int (0 : Int32)), (.int (4 : Int32)), (.ref b_3), (.int (0 : Int32)), (.ref a2)]))
  obtain ⟨T8, h8, Lc8, X8, e8, N8, Kp8, V8, st8⟩ := cpA X6 hx hZ hown (own_w hw 59 rfl) (own_w hw 58 rfl) (own_w hw 56 rfl) (own_w hw 57 rfl) e6 (us := []) f5 r3_2 (Or.inl ⟨rfl, rfl⟩) (by decide) (by decide) (by decide) (by decide) (by decide) rfl (Nat.le_of_ble_eq_true rfl) N3 g_b_3 (g := (mkF m 18 #[.val (.ref a1), .val (.ref a2), .val (.ref b_3)] [(.int (0 : Int32)), (.int (4 : Int32)), (.ref b_3), (.int (0 : Int32)), (.ref a2)])) rfl (by rw [hml]; rfl) rfl (hb hby d6_18) (by decide) (W := 0) (by show 2 * 0 + _ ≤ _; exact Nat.le_of_eq rfl) (by decide)
  refine OGo.via st8 ?_
  have Vc8 : Arv Z h8 b_3 kb_3 .long (8 : Int32) [(.long x0), (.long x1), (.long x2), (.long x3), (.long (0 : Int64)), (.long (0 : Int64)), (.long (0 : Int64)), (.long (0 : Int64))] (.long (0 : Int64)) := V8
  have K8 : Keep h0 h8 [] := K3.trans Kp8 (allS (Or.inr sz_b_3) all0)
  show OGo _ _ _ _ (T8.setTop (mkF m 21 #[.val (.ref a1), .val (.ref a2), .val (.ref b_3)] []))
  refine OGo.via (fun _ k => XS.aloadN X8.here hx rfl (hb hby d6_21) rfl rfl (XS.aloadN X8.here hx rfl (hb hby d6_22) rfl rfl k)) ?_
  have f10 := f7.keep Kp8 (ninS (Nat.ne_of_lt lt_a1_b_3) nin0)
  obtain ⟨T9, X9, e9, st9⟩ := getF X8 hx hZ hown (host := "") (Or.inl (own_w hw 30 rfl)) Via.refl e8 f10 (g := (mkF m 23 #[.val (.ref a1), .val (.ref a2), .val (.ref b_3)] [(.ref a1), (.ref b_3)])) rfl rfl (hb hby d6_23)
  refine OGo.via st9 ?_
  show OGo _ _ _ _ (T9.setTop (mkF m 26 #[.val (.ref a1), .val (.ref a2), .val (.ref b_3)] [(.int (0 : Int32)), (.ref b_3)]))
  refine OGo.via (fun _ k => XS.aloadN X9.here hx rfl (hb hby d6_26) rfl rfl (XS.iconst X9.here hx rfl (hb hby d6_27) (XS.aloadN X9.here hx rfl (hb hby d6_28) rfl rfl k))) ?_
  have f12 := f5.keep Kp8 (ninS (Nat.ne_of_lt lt_a2_b_3) nin0)
  obtain ⟨cl11, Ar11, q11, Sz11, Ng11, Hs11, Gf11⟩ := id f12
  refine OGo.via (X9.arraylength hx (by rw [e9]; exact Ar11.1) (State.isArrayOf_alike hZ.alike Ar11.2.1) (g := (mkF m 29 #[.val (.ref a1), .val (.ref a2), .val (.ref b_3)] [(.ref a2), (.int (0 : Int32)), (.ref b_3), (.int (0 : Int32)), (.ref b_3)])) rfl rfl (hb hby d6_29)) ?_
  rw [len_of Sz11 Ng11]
  show OGo _ _ _ _ (T9.setTop (mkF m 30 #[.val (.ref a1), .val (.ref a2), .val (.ref b_3)] [(.int (4 : Int32)), (.int (0 : Int32)), (.ref b_3), (.int (0 : Int32)), (.ref b_3)]))
  obtain ⟨T13, h13, Lc13, X13, e13, N13, Kp13, V13, st13⟩ := cpA X9 hx hZ hown (own_w hw 59 rfl) (own_w hw 58 rfl) (own_w hw 56 rfl) (own_w hw 57 rfl) e9 (us := [(.long x0), (.long x1), (.long x2), (.long x3)]) Vc8 Vc8 (Or.inl ⟨rfl, rfl⟩) (by decide) (by decide) (by decide) (by decide) (by decide) rfl (Nat.le_of_ble_eq_true rfl) N8 g_b_3 (g := (mkF m 30 #[.val (.ref a1), .val (.ref a2), .val (.ref b_3)] [(.int (4 : Int32)), (.int (0 : Int32)), (.ref b_3), (.int (0 : Int32)), (.ref b_3)])) rfl (by rw [hml]; rfl) rfl (hb hby d6_30) (by decide) (W := 0) (by show 2 * 0 + _ ≤ _; exact Nat.le_of_eq rfl) (by decide)
  refine OGo.via st13 ?_
  have Vc13 : Arv Z h13 b_3 kb_3 .long (8 : Int32) [(.long x0), (.long x1), (.long x2), (.long x3), (.long (0 : Int64)), (.long (0 : Int64)), (.long (0 : Int64)), (.long (0 : Int64))] (.long (0 : Int64)) := V13
  have K13 : Keep h0 h13 [] := K8.trans Kp13 (allS (Or.inr sz_b_3) all0)
  show OGo _ _ _ _ (T13.setTop (mkF m 33 #[.val (.ref a1), .val (.ref a2), .val (.ref b_3)] []))
  refine OGo.via (fun _ k => XS.aloadN X13.here hx rfl (hb hby d6_33) rfl rfl k) ?_
  show OGo _ _ _ _ (T13.setTop (mkF m 34 #[.val (.ref a1), .val (.ref a2), .val (.ref b_3)] [(.ref b_3)]))
  refine own_retA X13 hx Bd.notSynchronized Bd.returns rfl rfl (hb hby d6_34) (by decide) (by decide) ?_
  show Q_rm6 Z _ _ _ _ _ _ _ h0 n0 _ T13.heap _
  rw [e13]
  exact ⟨b_3, kb_3, rfl, N13, K13, sz_b_3, Vc13⟩
theorem d4_0 : decode prog_122_method_4_code 0 = .ok (.aload_n 0, 1) := by decide +kernel
theorem d4_1 : decode prog_122_method_4_code 1 = .ok (.getfield 23, 3) := by decide +kernel
theorem d4_4 : decode prog_122_method_4_code 4 = .ok (.ifCond .le 48, 3) := by decide +kernel
theorem d4_52 : decode prog_122_method_4_code 52 = .ok (.aload_n 0, 1) := by decide +kernel
theorem d4_53 : decode prog_122_method_4_code 53 = .ok (.getfield 23, 3) := by decide +kernel
theorem d4_56 : decode prog_122_method_4_code 56 = .ok (.ifCond .ne 9, 3) := by decide +kernel
theorem d4_59 : decode prog_122_method_4_code 59 = .ok (.ldc2_w 52, 3) := by decide +kernel
theorem d4_62 : decode prog_122_method_4_code 62 = .ok (.goto 12, 3) := by decide +kernel
theorem d4_74 : decode prog_122_method_4_code 74 = .ok (.lreturn, 1) := by decide +kernel
theorem ef_rm4z (m : MethodId) (a1 : Addr) (q1 : Int64) : entryFrame m #[(.ref a1), (.long q1)] 3 = mkF m 0 #[.val (.ref a1), .val (.long q1), .second] [] := by first | (simp [entryFrame, mkF, argsToLocals, Value.category]; done) | rfl
def Q_rm4z (Z : State) (a1 : Addr) (q1 : Int64) (h0 : Heap) (n0 : Nat) (v : Option Value) (h : Heap) (L : List Loc) : Prop := v = some (.long (9223372036854775807 : Int64)) ∧ Fr n0 L ∧ h = h0
set_option maxRecDepth 65536 in
set_option maxHeartbeats 40000000 in
theorem rm4z (l : Launch) (Z : State) (a0 : Array Value) (hw : ∀ d ∈ tables_1, d.before a0 Z = true) (ws : List Jvm.Cond) (a1 : Addr) (q1 : Int64) (h0 : Heap) (n0 : Nat) (Z0 : n0 ≤ h0.size) (F_count_a1 : Fld Z h0 a1 "com/example/eventloom/eventloom/engine/Forbidden" "count" "I" (.int (0 : Int32))) :
    MetFree l own_y4 (head1 (Jvm.Cond.code own_y4 prog_122_method_4_code 3 (some .long) :: ws) ({ frames := 0, cells := 0, slots := 0, locals := 0 } : Room)) (fun a U => a = #[(.ref a1), (.long q1)] ∧ Z.Warmed39 U.vm ∧ U.heap = h0) (fun _ _ _ _ _ => True) (fun _ U o U' => ∃ v L, o = .returned v ∧ Q_rm4z Z a1 q1 h0 n0 v U'.heap L ∧ FrameEnd U o U' L ({ frames := 0, cells := 0, slots := 0, locals := 0 } : Room).cells ({ frames := 0, cells := 0, slots := 0, locals := 0 } : Room).slots) := by
  refine MetFree.of_bodySF (plainFor_of_name pn_Forbidden) hisR ?_
  intro p e s m args below meth c s₁ Bd hml0 hP hK
  obtain ⟨rfl, hZ, hh⟩ := hP
  have hx := Bd.exec
  have hby := Bd.bytes
  have hml : c.maxLocals = 3 := hml0
  have hown : s.vm.findClass "com/example/eventloom/eventloom/engine/Forbidden" = some m.cls := findClass_of_methodNamed Bd.named
  have hnm := (name_of_methodNamed Bd.named Bd.method).1
  have X0 : Stand p l e ({ frames := 0, cells := 0, slots := 0, locals := 0 } : Room) s m #[(.ref a1), (.long q1)] below meth c s₁ [] 0 0 := Stand.of_body Bd
  have e0 : s₁.heap = h0 := by rw [← hh, Bd.state]; rfl
  have N0 := Fr.nil n0
  show OGo p.tables e below (own_Kq s (fun v h L => Q_rm4z Z a1 q1 h0 n0 v h L) ({ frames := 0, cells := 0, slots := 0, locals := 0 } : Room).cells ({ frames := 0, cells := 0, slots := 0, locals := 0 } : Room).slots) (s₁.setTop (entryFrame m #[(.ref a1), (.long q1)] 3))
  refine OGo.cast (ef_rm4z m a1 q1) ?_
  show OGo _ _ _ _ (s₁.setTop (mkF m 0 #[.val (.ref a1), .val (.long q1), .second] []))
  refine OGo.via (fun _ k => XS.aloadN X0.here hx rfl (hb hby d4_0) rfl rfl k) ?_
  obtain ⟨T1, X1, e1, st1⟩ := getF X0 hx hZ hown (host := "") (Or.inl (own_w hw 27 rfl)) Via.refl e0 F_count_a1 (g := (mkF m 1 #[.val (.ref a1), .val (.long q1), .second] [(.ref a1)])) rfl rfl (hb hby d4_1)
  refine OGo.via st1 ?_
  show OGo _ _ _ _ (T1.setTop (mkF m 4 #[.val (.ref a1), .val (.long q1), .second] [(.int (0 : Int32))]))
  refine OGo.via (fun _ k => XS.ifYes X1.here hx rfl (pc0 := 4) (pc' := 52) rfl (hb hby d4_4) rfl ((if0 _ _).trans (flt (by decide : ¬ ((0 : Int32) < (0 : Int32)))).2.2.2) (by decide) (by decide) k) ?_
  show OGo _ _ _ _ (T1.setTop (mkF m 52 #[.val (.ref a1), .val (.long q1), .second] []))
  refine OGo.via (fun _ k => XS.aloadN X1.here hx rfl (hb hby d4_52) rfl rfl k) ?_
  obtain ⟨T2, X2, e2, st2⟩ := getF X1 hx hZ hown (host := "") (Or.inl (own_w hw 27 rfl)) Via.refl e1 F_count_a1 (g := (mkF m 53 #[.val (.ref a1), .val (.long q1), .second] [(.ref a1)])) rfl rfl (hb hby d4_53)
  refine OGo.via st2 ?_
  show OGo _ _ _ _ (T2.setTop (mkF m 56 #[.val (.ref a1), .val (.long q1), .second] [(.int (0 : Int32))]))
  refine OGo.via (fun _ k => XS.ifNo X2.here hx rfl (hb hby d4_56) rfl ((if0 _ _).trans (teq (by decide : (0 : Int32) = (0 : Int32))).2) k) ?_
  show OGo _ _ _ _ (T2.setTop (mkF m 59 #[.val (.ref a1), .val (.long q1), .second] []))
  refine OGo.via (X2.ldc2Long hx hown (mvT hZ (own_w hw 29 rfl)) (g := (mkF m 59 #[.val (.ref a1), .val (.long q1), .second] [])) rfl (hb hby d4_59)) ?_
  show OGo _ _ _ _ (T2.setTop (mkF m 62 #[.val (.ref a1), .val (.long q1), .second] [(.long (9223372036854775807 : Int64))]))
  refine OGo.via (fun _ k => XS.goto X2.here hx rfl (pc0 := 62) (pc' := 74) rfl (hb hby d4_62) (by decide) (by decide) k) ?_
  show OGo _ _ _ _ (T2.setTop (mkF m 74 #[.val (.ref a1), .val (.long q1), .second] [(.long (9223372036854775807 : Int64))]))
  refine own_retL X2 hx Bd.notSynchronized Bd.returns (hb hby d4_74) (by decide) (by decide) ?_
  show Q_rm4z Z _ _ h0 n0 _ T2.heap _
  exact ⟨rfl, N0, e2⟩
theorem d4_7 : decode prog_122_method_4_code 7 = .ok (.aload_n 0, 1) := by decide +kernel
theorem d4_8 : decode prog_122_method_4_code 8 = .ok (.getfield 16, 3) := by decide +kernel
theorem d4_11 : decode prog_122_method_4_code 11 = .ok (.aload_n 0, 1) := by decide +kernel
theorem d4_12 : decode prog_122_method_4_code 12 = .ok (.getfield 31, 3) := by decide +kernel
theorem d4_15 : decode prog_122_method_4_code 15 = .ok (.laload, 1) := by decide +kernel
theorem d4_16 : decode prog_122_method_4_code 16 = .ok (.lload_n 1, 1) := by decide +kernel
theorem d4_17 : decode prog_122_method_4_code 17 = .ok (.lcmp, 1) := by decide +kernel
theorem d4_18 : decode prog_122_method_4_code 18 = .ok (.ifCond .ge 34, 3) := by decide +kernel
theorem d4_65 : decode prog_122_method_4_code 65 = .ok (.aload_n 0, 1) := by decide +kernel
theorem d4_66 : decode prog_122_method_4_code 66 = .ok (.getfield 13, 3) := by decide +kernel
theorem d4_69 : decode prog_122_method_4_code 69 = .ok (.aload_n 0, 1) := by decide +kernel
theorem d4_70 : decode prog_122_method_4_code 70 = .ok (.getfield 31, 3) := by decide +kernel
theorem d4_73 : decode prog_122_method_4_code 73 = .ok (.laload, 1) := by decide +kernel
theorem ef_rm4p (m : MethodId) (a1 : Addr) (q1 : Int64) : entryFrame m #[(.ref a1), (.long q1)] 3 = mkF m 0 #[.val (.ref a1), .val (.long q1), .second] [] := by first | (simp [entryFrame, mkF, argsToLocals, Value.category]; done) | rfl
def Q_rm4p (Z : State) (a1 : Addr) (q1 : Int64) (n : Int32) (i : Int32) (z : Int32) (pa : Addr) (ta : Addr) (kp : ClassId) (kt : ClassId) (ps : List Value) (ts : List Value) (tv : Int64) (pv : Int64) (h0 : Heap) (n0 : Nat) (v : Option Value) (h : Heap) (L : List Loc) : Prop := v = some (.long pv) ∧ Fr n0 L ∧ h = h0
set_option maxRecDepth 65536 in
set_option maxHeartbeats 40000000 in
theorem rm4p (l : Launch) (Z : State) (a0 : Array Value) (hw : ∀ d ∈ tables_1, d.before a0 Z = true) (ws : List Jvm.Cond) (a1 : Addr) (q1 : Int64) (n : Int32) (i : Int32) (z : Int32) (pa : Addr) (ta : Addr) (kp : ClassId) (kt : ClassId) (ps : List Value) (ts : List Value) (tv : Int64) (pv : Int64) (h0 : Heap) (n0 : Nat) (Z0 : n0 ≤ h0.size) (F_count_a1 : Fld Z h0 a1 "com/example/eventloom/eventloom/engine/Forbidden" "count" "I" (.int n)) (F_first_a1 : Fld Z h0 a1 "com/example/eventloom/eventloom/engine/Forbidden" "first" "I" (.int i)) (F_positions_a1 : Fld Z h0 a1 "com/example/eventloom/eventloom/engine/Forbidden" "positions" "[J" (.ref pa)) (F_times_a1 : Fld Z h0 a1 "com/example/eventloom/eventloom/engine/Forbidden" "times" "[J" (.ref ta)) (V_pa : Arv Z h0 pa kp .long z ps (.long (0 : Int64))) (V_ta : Arv Z h0 ta kt .long z ts (.long (0 : Int64))) (hn : (0 : Int32) < n) (hn0 : ¬ (n = (0 : Int32))) (hib : ¬ i < 0 ∧ i < z) (htv : ts.getD i.toNatClampNeg (.long (0 : Int64)) = .long tv) (hpv : ps.getD i.toNatClampNeg (.long (0 : Int64)) = .long pv) (hmin : ¬ (lcmpW tv q1 < (0 : Int32))) :
    MetFree l own_y4 (head1 (Jvm.Cond.code own_y4 prog_122_method_4_code 3 (some .long) :: ws) ({ frames := 0, cells := 0, slots := 0, locals := 0 } : Room)) (fun a U => a = #[(.ref a1), (.long q1)] ∧ Z.Warmed39 U.vm ∧ U.heap = h0) (fun _ _ _ _ _ => True) (fun _ U o U' => ∃ v L, o = .returned v ∧ Q_rm4p Z a1 q1 n i z pa ta kp kt ps ts tv pv h0 n0 v U'.heap L ∧ FrameEnd U o U' L ({ frames := 0, cells := 0, slots := 0, locals := 0 } : Room).cells ({ frames := 0, cells := 0, slots := 0, locals := 0 } : Room).slots) := by
  refine MetFree.of_bodySF (plainFor_of_name pn_Forbidden) hisR ?_
  intro p e s m args below meth c s₁ Bd hml0 hP hK
  obtain ⟨rfl, hZ, hh⟩ := hP
  have hx := Bd.exec
  have hby := Bd.bytes
  have hml : c.maxLocals = 3 := hml0
  have hown : s.vm.findClass "com/example/eventloom/eventloom/engine/Forbidden" = some m.cls := findClass_of_methodNamed Bd.named
  have hnm := (name_of_methodNamed Bd.named Bd.method).1
  have X0 : Stand p l e ({ frames := 0, cells := 0, slots := 0, locals := 0 } : Room) s m #[(.ref a1), (.long q1)] below meth c s₁ [] 0 0 := Stand.of_body Bd
  have e0 : s₁.heap = h0 := by rw [← hh, Bd.state]; rfl
  have N0 := Fr.nil n0
  show OGo p.tables e below (own_Kq s (fun v h L => Q_rm4p Z a1 q1 n i z pa ta kp kt ps ts tv pv h0 n0 v h L) ({ frames := 0, cells := 0, slots := 0, locals := 0 } : Room).cells ({ frames := 0, cells := 0, slots := 0, locals := 0 } : Room).slots) (s₁.setTop (entryFrame m #[(.ref a1), (.long q1)] 3))
  refine OGo.cast (ef_rm4p m a1 q1) ?_
  show OGo _ _ _ _ (s₁.setTop (mkF m 0 #[.val (.ref a1), .val (.long q1), .second] []))
  refine OGo.via (fun _ k => XS.aloadN X0.here hx rfl (hb hby d4_0) rfl rfl k) ?_
  obtain ⟨T1, X1, e1, st1⟩ := getF X0 hx hZ hown (host := "") (Or.inl (own_w hw 27 rfl)) Via.refl e0 F_count_a1 (g := (mkF m 1 #[.val (.ref a1), .val (.long q1), .second] [(.ref a1)])) rfl rfl (hb hby d4_1)
  refine OGo.via st1 ?_
  show OGo _ _ _ _ (T1.setTop (mkF m 4 #[.val (.ref a1), .val (.long q1), .second] [(.int n)]))
  refine OGo.via (fun _ k => XS.ifNo X1.here hx rfl (hb hby d4_4) rfl ((if0 _ _).trans (tlt hn).2.2.2) k) ?_
  show OGo _ _ _ _ (T1.setTop (mkF m 7 #[.val (.ref a1), .val (.long q1), .second] []))
  refine OGo.via (fun _ k => XS.aloadN X1.here hx rfl (hb hby d4_7) rfl rfl k) ?_
  obtain ⟨T2, X2, e2, st2⟩ := getF X1 hx hZ hown (host := "") (Or.inl (own_w hw 14 rfl)) Via.refl e1 F_times_a1 (g := (mkF m 8 #[.val (.ref a1), .val (.long q1), .second] [(.ref a1)])) rfl rfl (hb hby d4_8)
  refine OGo.via st2 ?_
  show OGo _ _ _ _ (T2.setTop (mkF m 11 #[.val (.ref a1), .val (.long q1), .second] [(.ref ta)]))
  refine OGo.via (fun _ k => XS.aloadN X2.here hx rfl (hb hby d4_11) rfl rfl k) ?_
  obtain ⟨T3, X3, e3, st3⟩ := getF X2 hx hZ hown (host := "") (Or.inl (own_w hw 30 rfl)) Via.refl e2 F_first_a1 (g := (mkF m 12 #[.val (.ref a1), .val (.long q1), .second] [(.ref a1), (.ref ta)])) rfl rfl (hb hby d4_12)
  refine OGo.via st3 ?_
  show OGo _ _ _ _ (T3.setTop (mkF m 15 #[.val (.ref a1), .val (.long q1), .second] [(.int i), (.ref ta)]))
  obtain ⟨cl4, Ar4, q4, Sz4, Ng4, Hs4, Gf4⟩ := id V_ta
  have hin4 : ¬ (i < 0 ∨ cl4.slots.size ≤ (i).toNatClampNeg) := inb_of Sz4 hib
  have hat4 : cl4.slots[(i).toNatClampNeg]? = some (.long tv) := Hs4.at hin4 htv
  refine OGo.via (X3.laload hx (j := i) (v := (.long tv)) (by rw [e3]; exact Ar4.1) (State.isArrayOf_alike hZ.alike Ar4.2.1) Ar4.2.2 hin4 hat4 (g := (mkF m 15 #[.val (.ref a1), .val (.long q1), .second] [(.int i), (.ref ta)])) rfl rfl (hb hby d4_15)) ?_
  show OGo _ _ _ _ (T3.setTop (mkF m 16 #[.val (.ref a1), .val (.long q1), .second] [(.long tv)]))
  refine OGo.via (fun _ k => XS.lloadN X3.here hx rfl (hb hby d4_16) rfl (XS.lcmp X3.here hx rfl (hb hby d4_17) rfl k)) ?_
  refine OGo.via (fun _ k => XS.ifYes X3.here hx rfl (pc0 := 18) (pc' := 52) rfl (hb hby d4_18) rfl ((if0 _ _).trans (flt hmin).2.1) (by decide) (by decide) k) ?_
  show OGo _ _ _ _ (T3.setTop (mkF m 52 #[.val (.ref a1), .val (.long q1), .second] []))
  refine OGo.via (fun _ k => XS.aloadN X3.here hx rfl (hb hby d4_52) rfl rfl k) ?_
  obtain ⟨T5, X5, e5, st5⟩ := getF X3 hx hZ hown (host := "") (Or.inl (own_w hw 27 rfl)) Via.refl e3 F_count_a1 (g := (mkF m 53 #[.val (.ref a1), .val (.long q1), .second] [(.ref a1)])) rfl rfl (hb hby d4_53)
  refine OGo.via st5 ?_
  show OGo _ _ _ _ (T5.setTop (mkF m 56 #[.val (.ref a1), .val (.long q1), .second] [(.int n)]))
  refine OGo.via (fun _ k => XS.ifYes X5.here hx rfl (pc0 := 56) (pc' := 65) rfl (hb hby d4_56) rfl ((if0 _ _).trans (feq hn0).2) (by decide) (by decide) k) ?_
  show OGo _ _ _ _ (T5.setTop (mkF m 65 #[.val (.ref a1), .val (.long q1), .second] []))
  refine OGo.via (fun _ k => XS.aloadN X5.here hx rfl (hb hby d4_65) rfl rfl k) ?_
  obtain ⟨T6, X6, e6, st6⟩ := getF X5 hx hZ hown (host := "") (Or.inl (own_w hw 12 rfl)) Via.refl e5 F_positions_a1 (g := (mkF m 66 #[.val (.ref a1), .val (.long q1), .second] [(.ref a1)])) rfl rfl (hb hby d4_66)
  refine OGo.via st6 ?_
  show OGo _ _ _ _ (T6.setTop (mkF m 69 #[.val (.ref a1), .val (.long q1), .second] [(.ref pa)]))
  refine OGo.via (fun _ k => XS.aloadN X6.here hx rfl (hb hby d4_69) rfl rfl k) ?_
  obtain ⟨T7, X7, e7, st7⟩ := getF X6 hx hZ hown (host := "") (Or.inl (own_w hw 30 rfl)) Via.refl e6 F_first_a1 (g := (mkF m 70 #[.val (.ref a1), .val (.long q1), .second] [(.ref a1), (.ref pa)])) rfl rfl (hb hby d4_70)
  refine OGo.via st7 ?_
  show OGo _ _ _ _ (T7.setTop (mkF m 73 #[.val (.ref a1), .val (.long q1), .second] [(.int i), (.ref pa)]))
  obtain ⟨cl8, Ar8, q8, Sz8, Ng8, Hs8, Gf8⟩ := id V_pa
  have hin8 : ¬ (i < 0 ∨ cl8.slots.size ≤ (i).toNatClampNeg) := inb_of Sz8 hib
  have hat8 : cl8.slots[(i).toNatClampNeg]? = some (.long pv) := Hs8.at hin8 hpv
  refine OGo.via (X7.laload hx (j := i) (v := (.long pv)) (by rw [e7]; exact Ar8.1) (State.isArrayOf_alike hZ.alike Ar8.2.1) Ar8.2.2 hin8 hat8 (g := (mkF m 73 #[.val (.ref a1), .val (.long q1), .second] [(.int i), (.ref pa)])) rfl rfl (hb hby d4_73)) ?_
  show OGo _ _ _ _ (T7.setTop (mkF m 74 #[.val (.ref a1), .val (.long q1), .second] [(.long pv)]))
  show OGo _ _ _ _ (T7.setTop (mkF m 74 #[.val (.ref a1), .val (.long q1), .second] [(.long pv)]))
  refine own_retL X7 hx Bd.notSynchronized Bd.returns (hb hby d4_74) (by decide) (by decide) ?_
  show Q_rm4p Z _ _ _ _ _ _ _ _ _ _ _ _ _ h0 n0 _ T7.heap _
  exact ⟨rfl, N0, e7⟩
theorem d3_0 : decode prog_122_method_2_code 0 = .ok (.aload_n 0, 1) := by decide +kernel
theorem d3_1 : decode prog_122_method_2_code 1 = .ok (.lload 5, 2) := by decide +kernel
theorem d3_3 : decode prog_122_method_2_code 3 = .ok (.invokevirtual 19, 3) := by decide +kernel
theorem pd_2 : parseMethodDescriptor "(J)J" = some ⟨[.long], some .long⟩ := by decide +kernel
theorem d3_6 : decode prog_122_method_2_code 6 = .ok (.pop2, 1) := by decide +kernel
theorem d3_7 : decode prog_122_method_2_code 7 = .ok (.aload_n 0, 1) := by decide +kernel
theorem d3_8 : decode prog_122_method_2_code 8 = .ok (.getfield 13, 3) := by decide +kernel
theorem d3_11 : decode prog_122_method_2_code 11 = .ok (.arraylength, 1) := by decide +kernel
theorem d3_12 : decode prog_122_method_2_code 12 = .ok (.ifCond .ne 20, 3) := by decide +kernel
theorem d3_32 : decode prog_122_method_2_code 32 = .ok (.aload_n 0, 1) := by decide +kernel
theorem d3_33 : decode prog_122_method_2_code 33 = .ok (.getfield 23, 3) := by decide +kernel
theorem d3_36 : decode prog_122_method_2_code 36 = .ok (.aload_n 0, 1) := by decide +kernel
theorem d3_37 : decode prog_122_method_2_code 37 = .ok (.getfield 13, 3) := by decide +kernel
theorem d3_40 : decode prog_122_method_2_code 40 = .ok (.arraylength, 1) := by decide +kernel
theorem d3_41 : decode prog_122_method_2_code 41 = .ok (.if_icmp .ne 32, 3) := by decide +kernel
theorem d3_73 : decode prog_122_method_2_code 73 = .ok (.aload_n 0, 1) := by decide +kernel
theorem d3_74 : decode prog_122_method_2_code 74 = .ok (.getfield 31, 3) := by decide +kernel
theorem d3_77 : decode prog_122_method_2_code 77 = .ok (.aload_n 0, 1) := by decide +kernel
theorem d3_78 : decode prog_122_method_2_code 78 = .ok (.dup, 1) := by decide +kernel
theorem d3_79 : decode prog_122_method_2_code 79 = .ok (.getfield 23, 3) := by decide +kernel
theorem d3_82 : decode prog_122_method_2_code 82 = .ok (.dup_x1, 1) := by decide +kernel
theorem d3_83 : decode prog_122_method_2_code 83 = .ok (.iconst 1, 1) := by decide +kernel
theorem d3_84 : decode prog_122_method_2_code 84 = .ok (.iadd, 1) := by decide +kernel
theorem d3_85 : decode prog_122_method_2_code 85 = .ok (.putfield 23, 3) := by decide +kernel
theorem d3_88 : decode prog_122_method_2_code 88 = .ok (.iadd, 1) := by decide +kernel
theorem d3_89 : decode prog_122_method_2_code 89 = .ok (.aload_n 0, 1) := by decide +kernel
theorem d3_90 : decode prog_122_method_2_code 90 = .ok (.getfield 13, 3) := by decide +kernel
theorem d3_93 : decode prog_122_method_2_code 93 = .ok (.arraylength, 1) := by decide +kernel
theorem d3_94 : decode prog_122_method_2_code 94 = .ok (.iconst 1, 1) := by decide +kernel
theorem d3_95 : decode prog_122_method_2_code 95 = .ok (.isub, 1) := by decide +kernel
theorem d3_96 : decode prog_122_method_2_code 96 = .ok (.iand, 1) := by decide +kernel
theorem d3_97 : decode prog_122_method_2_code 97 = .ok (.istore 7, 2) := by decide +kernel
theorem d3_99 : decode prog_122_method_2_code 99 = .ok (.aload_n 0, 1) := by decide +kernel
theorem d3_100 : decode prog_122_method_2_code 100 = .ok (.getfield 13, 3) := by decide +kernel
theorem d3_103 : decode prog_122_method_2_code 103 = .ok (.iload 7, 2) := by decide +kernel
theorem d3_105 : decode prog_122_method_2_code 105 = .ok (.lload_n 1, 1) := by decide +kernel
theorem d3_106 : decode prog_122_method_2_code 106 = .ok (.lastore, 1) := by decide +kernel
theorem d3_107 : decode prog_122_method_2_code 107 = .ok (.aload_n 0, 1) := by decide +kernel
theorem d3_108 : decode prog_122_method_2_code 108 = .ok (.getfield 16, 3) := by decide +kernel
theorem d3_111 : decode prog_122_method_2_code 111 = .ok (.iload 7, 2) := by decide +kernel
theorem d3_113 : decode prog_122_method_2_code 113 = .ok (.lload_n 3, 1) := by decide +kernel
theorem d3_114 : decode prog_122_method_2_code 114 = .ok (.lastore, 1) := by decide +kernel
theorem d3_115 : decode prog_122_method_2_code 115 = .ok (.aload_n 0, 1) := by decide +kernel
theorem d3_116 : decode prog_122_method_2_code 116 = .ok (.dup, 1) := by decide +kernel
theorem d3_117 : decode prog_122_method_2_code 117 = .ok (.getfield 34, 3) := by decide +kernel
theorem d3_120 : decode prog_122_method_2_code 120 = .ok (.lconst 1, 1) := by decide +kernel
theorem d3_121 : decode prog_122_method_2_code 121 = .ok (.ladd, 1) := by decide +kernel
theorem d3_122 : decode prog_122_method_2_code 122 = .ok (.putfield 34, 3) := by decide +kernel
theorem d3_125 : decode prog_122_method_2_code 125 = .ok (.return_, 1) := by decide +kernel
theorem ef_rm3p (m : MethodId) (a1 : Addr) (q1 : Int64) (q2 : Int64) : entryFrame m #[(.ref a1), (.long q1), (.long q2), (.long (-9223372036854775808 : Int64))] 8 = mkF m 0 #[.val (.ref a1), .val (.long q1), .second, .val (.long q2), .second, .val (.long (-9223372036854775808 : Int64)), .second, .unset] [] := by first | (simp [entryFrame, mkF, argsToLocals, Value.category]; done) | rfl
def Q_rm3p (Z : State) (a1 : Addr) (q1 : Int64) (q2 : Int64) (n : Int32) (i : Int32) (z : Int32) (pa : Addr) (ta : Addr) (kp : ClassId) (kt : ClassId) (ps : List Value) (ts : List Value) (bf : Int64) (jn : Nat) (tv : Int64) (pv : Int64) (h0 : Heap) (n0 : Nat) (v : Option Value) (h : Heap) (L : List Loc) : Prop := v = none ∧ Fr n0 L ∧ Keep h0 h [a1, pa, ta] ∧ Exa Z h a1 "com/example/eventloom/eventloom/engine/Forbidden" ∧ Fld Z h a1 "com/example/eventloom/eventloom/engine/Forbidden" "positions" "[J" (.ref pa) ∧ Fld Z h a1 "com/example/eventloom/eventloom/engine/Forbidden" "times" "[J" (.ref ta) ∧ Fld Z h a1 "com/example/eventloom/eventloom/engine/Forbidden" "first" "I" (.int i) ∧ Fld Z h a1 "com/example/eventloom/eventloom/engine/Forbidden" "count" "I" (.int (n + (1 : Int32))) ∧ Fld Z h a1 "com/example/eventloom/eventloom/engine/Forbidden" "befores" "J" (.long (bf + (1 : Int64))) ∧ Arv Z h pa kp .long z (ps.set jn (.long q1)) (.long (0 : Int64)) ∧ Arv Z h ta kt .long z (ts.set jn (.long q2)) (.long (0 : Int64))
set_option maxRecDepth 65536 in
set_option maxHeartbeats 40000000 in
theorem rm3p (l : Launch) (Z : State) (a0 : Array Value) (hw : ∀ d ∈ tables_1, d.before a0 Z = true) (ws : List Jvm.Cond) (a1 : Addr) (q1 : Int64) (q2 : Int64) (n : Int32) (i : Int32) (z : Int32) (pa : Addr) (ta : Addr) (kp : ClassId) (kt : ClassId) (ps : List Value) (ts : List Value) (bf : Int64) (jn : Nat) (tv : Int64) (pv : Int64) (h0 : Heap) (n0 : Nat) (Z0 : n0 ≤ h0.size) (E_a1 : Exa Z h0 a1 "com/example/eventloom/eventloom/engine/Forbidden") (F_positions_a1 : Fld Z h0 a1 "com/example/eventloom/eventloom/engine/Forbidden" "positions" "[J" (.ref pa)) (F_times_a1 : Fld Z h0 a1 "com/example/eventloom/eventloom/engine/Forbidden" "times" "[J" (.ref ta)) (F_first_a1 : Fld Z h0 a1 "com/example/eventloom/eventloom/engine/Forbidden" "first" "I" (.int i)) (F_count_a1 : Fld Z h0 a1 "com/example/eventloom/eventloom/engine/Forbidden" "count" "I" (.int n)) (F_befores_a1 : Fld Z h0 a1 "com/example/eventloom/eventloom/engine/Forbidden" "befores" "J" (.long bf)) (V_pa : Arv Z h0 pa kp .long z ps (.long (0 : Int64))) (V_ta : Arv Z h0 ta kt .long z ts (.long (0 : Int64))) (ne_a1_pa : a1 ≠ pa) (ne_a1_ta : a1 ≠ ta) (ne_pa_ta : pa ≠ ta) (g_a1 : n0 ≤ a1) (g_pa : n0 ≤ pa) (g_ta : n0 ≤ ta) (hz : ¬ (z = (0 : Int32))) (hnz : ¬ (n = z)) (hj : ((i + n) &&& (z - (1 : Int32))).toNatClampNeg = jn) (hin : ¬ ((i + n) &&& (z - (1 : Int32))) < 0 ∧ ((i + n) &&& (z - (1 : Int32))) < z) (hlp : jn < ps.length) (hlt : jn < ts.length) (hn : (0 : Int32) < n) (hn0 : ¬ (n = (0 : Int32))) (hib : ¬ i < 0 ∧ i < z) (htv : ts.getD i.toNatClampNeg (.long (0 : Int64)) = .long tv) (hpv : ps.getD i.toNatClampNeg (.long (0 : Int64)) = .long pv) :
    MetFree l own_y5 (head1 (Jvm.Cond.code own_y5 prog_122_method_2_code 8 none :: ws) ({ frames := 1, cells := 0, slots := 0, locals := 14 } : Room)) (fun a U => a = #[(.ref a1), (.long q1), (.long q2), (.long (-9223372036854775808 : Int64))] ∧ Z.Warmed39 U.vm ∧ U.heap = h0) (fun _ _ _ _ _ => True) (fun _ U o U' => ∃ v L, o = .returned v ∧ Q_rm3p Z a1 q1 q2 n i z pa ta kp kt ps ts bf jn tv pv h0 n0 v U'.heap L ∧ FrameEnd U o U' L ({ frames := 1, cells := 0, slots := 0, locals := 14 } : Room).cells ({ frames := 1, cells := 0, slots := 0, locals := 14 } : Room).slots) := by
  refine MetFree.of_bodySF (plainFor_of_name pn_Forbidden) hisR ?_
  intro p e s m args below meth c s₁ Bd hml0 hP hK
  obtain ⟨rfl, hZ, hh⟩ := hP
  have hx := Bd.exec
  have hby := Bd.bytes
  have hml : c.maxLocals = 8 := hml0
  have hown : s.vm.findClass "com/example/eventloom/eventloom/engine/Forbidden" = some m.cls := findClass_of_methodNamed Bd.named
  have hnm := (name_of_methodNamed Bd.named Bd.method).1
  have X0 : Stand p l e ({ frames := 1, cells := 0, slots := 0, locals := 14 } : Room) s m #[(.ref a1), (.long q1), (.long q2), (.long (-9223372036854775808 : Int64))] below meth c s₁ [] 0 0 := Stand.of_body Bd
  have e0 : s₁.heap = h0 := by rw [← hh, Bd.state]; rfl
  have N0 := Fr.nil n0
  show OGo p.tables e below (own_Kq s (fun v h L => Q_rm3p Z a1 q1 q2 n i z pa ta kp kt ps ts bf jn tv pv h0 n0 v h L) ({ frames := 1, cells := 0, slots := 0, locals := 14 } : Room).cells ({ frames := 1, cells := 0, slots := 0, locals := 14 } : Room).slots) (s₁.setTop (entryFrame m #[(.ref a1), (.long q1), (.long q2), (.long (-9223372036854775808 : Int64))] 8))
  refine OGo.cast (ef_rm3p m a1 q1 q2) ?_
  show OGo _ _ _ _ (s₁.setTop (mkF m 0 #[.val (.ref a1), .val (.long q1), .second, .val (.long q2), .second, .val (.long (-9223372036854775808 : Int64)), .second, .unset] []))
  refine OGo.via (fun _ k => XS.aloadN X0.here hx rfl (hb hby d3_0) rfl rfl (XS.lload X0.here hx rfl (hb hby d3_1) rfl k)) ?_
  obtain ⟨cq1, kq1, q1a, q1b, q1c⟩ := isOf hZ e0 E_a1
  obtain ⟨_, T1, Lc1, X1, hQ1, st1⟩ := own_open X0 (X0.virtualBack hx (y := own_y4) (z := own_y4) hown (mvT hZ (own_w hw 22 rfl)) (mvT hZ (own_w hw 23 rfl)) (notFace_of_selects (args := #[]) (mvT hZ (own_w hw 25 rfl))) (mvT hZ (own_w hw 25 rfl)) (mvT hZ (own_w hw 24 rfl)) (by decide) (backOf (W := 0) (rm4p l Z a0 hw [] a1 (-9223372036854775808 : Int64) n i z pa ta kp kt ps ts tv pv h0 n0 Z0 F_count_a1 F_first_a1 F_positions_a1 F_times_a1 V_pa V_ta hn hn0 hib htv hpv (own_min _)) hZ (own_w hw 26 rfl) (own_w hw 3 rfl) (by decide) (by decide)) q1a q1c (g := (mkF m 3 #[.val (.ref a1), .val (.long q1), .second, .val (.long q2), .second, .val (.long (-9223372036854775808 : Int64)), .second, .unset] [(.long (-9223372036854775808 : Int64)), (.ref a1)])) rfl (by rw [hml]; rfl) (Steps.refl _) (argsL := [(.long (-9223372036854775808 : Int64))]) (rest := []) (lenOf pd_2 rfl) rfl (by show 2 * 0 + _ ≤ _; exact Nat.le_of_eq rfl) (hb hby d3_3) (fun _ _ => ⟨rfl, e0, (by decide : 0 + 0 ≤ _), (by decide : 0 + 0 ≤ _)⟩))
  obtain ⟨rfl, N1q, r1_0⟩ := hQ1
  have N1 := Fr.app N0 N1q
  refine OGo.via (fun _ k => st1.trans k) ?_
  show OGo _ _ _ _ (T1.setTop (mkF m 6 #[.val (.ref a1), .val (.long q1), .second, .val (.long q2), .second, .val (.long (-9223372036854775808 : Int64)), .second, .unset] [(.long pv)]))
  refine OGo.via (fun _ k => own_pop2L X1.here hx rfl (hb hby d3_6) rfl (XS.aloadN X1.here hx rfl (hb hby d3_7) rfl rfl k)) ?_
  obtain ⟨T2, X2, e2, st2⟩ := getF X1 hx hZ hown (host := "") (Or.inl (own_w hw 12 rfl)) Via.refl r1_0 F_positions_a1 (g := (mkF m 8 #[.val (.ref a1), .val (.long q1), .second, .val (.long q2), .second, .val (.long (-9223372036854775808 : Int64)), .second, .unset] [(.ref a1)])) rfl rfl (hb hby d3_8)
  refine OGo.via st2 ?_
  show OGo _ _ _ _ (T2.setTop (mkF m 11 #[.val (.ref a1), .val (.long q1), .second, .val (.long q2), .second, .val (.long (-9223372036854775808 : Int64)), .second, .unset] [(.ref pa)]))
  obtain ⟨cl3, Ar3, q3, Sz3, Ng3, Hs3, Gf3⟩ := id V_pa
  refine OGo.via (X2.arraylength hx (by rw [e2]; exact Ar3.1) (State.isArrayOf_alike hZ.alike Ar3.2.1) (g := (mkF m 11 #[.val (.ref a1), .val (.long q1), .second, .val (.long q2), .second, .val (.long (-9223372036854775808 : Int64)), .second, .unset] [(.ref pa)])) rfl rfl (hb hby d3_11)) ?_
  rw [len_of Sz3 Ng3]
  show OGo _ _ _ _ (T2.setTop (mkF m 12 #[.val (.ref a1), .val (.long q1), .second, .val (.long q2), .second, .val (.long (-9223372036854775808 : Int64)), .second, .unset] [(.int z)]))
  refine OGo.via (fun _ k => XS.ifYes X2.here hx rfl (pc0 := 12) (pc' := 32) rfl (hb hby d3_12) rfl ((if0 _ _).trans (feq hz).2) (by decide) (by decide) k) ?_
  show OGo _ _ _ _ (T2.setTop (mkF m 32 #[.val (.ref a1), .val (.long q1), .second, .val (.long q2), .second, .val (.long (-9223372036854775808 : Int64)), .second, .unset] []))
  refine OGo.via (fun _ k => XS.aloadN X2.here hx rfl (hb hby d3_32) rfl rfl k) ?_
  obtain ⟨T4, X4, e4, st4⟩ := getF X2 hx hZ hown (host := "") (Or.inl (own_w hw 27 rfl)) Via.refl e2 F_count_a1 (g := (mkF m 33 #[.val (.ref a1), .val (.long q1), .second, .val (.long q2), .second, .val (.long (-9223372036854775808 : Int64)), .second, .unset] [(.ref a1)])) rfl rfl (hb hby d3_33)
  refine OGo.via st4 ?_
  show OGo _ _ _ _ (T4.setTop (mkF m 36 #[.val (.ref a1), .val (.long q1), .second, .val (.long q2), .second, .val (.long (-9223372036854775808 : Int64)), .second, .unset] [(.int n)]))
  refine OGo.via (fun _ k => XS.aloadN X4.here hx rfl (hb hby d3_36) rfl rfl k) ?_
  obtain ⟨T5, X5, e5, st5⟩ := getF X4 hx hZ hown (host := "") (Or.inl (own_w hw 12 rfl)) Via.refl e4 F_positions_a1 (g := (mkF m 37 #[.val (.ref a1), .val (.long q1), .second, .val (.long q2), .second, .val (.long (-9223372036854775808 : Int64)), .second, .unset] [(.ref a1), (.int n)])) rfl rfl (hb hby d3_37)
  refine OGo.via st5 ?_
  show OGo _ _ _ _ (T5.setTop (mkF m 40 #[.val (.ref a1), .val (.long q1), .second, .val (.long q2), .second, .val (.long (-9223372036854775808 : Int64)), .second, .unset] [(.ref pa), (.int n)]))
  obtain ⟨cl6, Ar6, q6, Sz6, Ng6, Hs6, Gf6⟩ := id V_pa
  refine OGo.via (X5.arraylength hx (by rw [e5]; exact Ar6.1) (State.isArrayOf_alike hZ.alike Ar6.2.1) (g := (mkF m 40 #[.val (.ref a1), .val (.long q1), .second, .val (.long q2), .second, .val (.long (-9223372036854775808 : Int64)), .second, .unset] [(.ref pa), (.int n)])) rfl rfl (hb hby d3_40)) ?_
  rw [len_of Sz6 Ng6]
  show OGo _ _ _ _ (T5.setTop (mkF m 41 #[.val (.ref a1), .val (.long q1), .second, .val (.long q2), .second, .val (.long (-9223372036854775808 : Int64)), .second, .unset] [(.int z), (.int n)]))
  refine OGo.via (fun _ k => XS.icmpYes X5.here hx rfl (pc0 := 41) (pc' := 73) rfl (hb hby d3_41) rfl (feq hnz).2 (by decide) (by decide) k) ?_
  show OGo _ _ _ _ (T5.setTop (mkF m 73 #[.val (.ref a1), .val (.long q1), .second, .val (.long q2), .second, .val (.long (-9223372036854775808 : Int64)), .second, .unset] []))
  refine OGo.via (fun _ k => XS.aloadN X5.here hx rfl (hb hby d3_73) rfl rfl k) ?_
  obtain ⟨T7, X7, e7, st7⟩ := getF X5 hx hZ hown (host := "") (Or.inl (own_w hw 30 rfl)) Via.refl e5 F_first_a1 (g := (mkF m 74 #[.val (.ref a1), .val (.long q1), .second, .val (.long q2), .second, .val (.long (-9223372036854775808 : Int64)), .second, .unset] [(.ref a1)])) rfl rfl (hb hby d3_74)
  refine OGo.via st7 ?_
  show OGo _ _ _ _ (T7.setTop (mkF m 77 #[.val (.ref a1), .val (.long q1), .second, .val (.long q2), .second, .val (.long (-9223372036854775808 : Int64)), .second, .unset] [(.int i)]))
  refine OGo.via (fun _ k => XS.aloadN X7.here hx rfl (hb hby d3_77) rfl rfl (XS.dup X7.here hx rfl (hb hby d3_78) rfl rfl k)) ?_
  obtain ⟨T8, X8, e8, st8⟩ := getF X7 hx hZ hown (host := "") (Or.inl (own_w hw 27 rfl)) Via.refl e7 F_count_a1 (g := (mkF m 79 #[.val (.ref a1), .val (.long q1), .second, .val (.long q2), .second, .val (.long (-9223372036854775808 : Int64)), .second, .unset] [(.ref a1), (.ref a1), (.int i)])) rfl rfl (hb hby d3_79)
  refine OGo.via st8 ?_
  show OGo _ _ _ _ (T8.setTop (mkF m 82 #[.val (.ref a1), .val (.long q1), .second, .val (.long q2), .second, .val (.long (-9223372036854775808 : Int64)), .second, .unset] [(.int n), (.ref a1), (.int i)]))
  refine OGo.via (fun _ k => XS.dupX1 X8.here hx rfl (hb hby d3_82) rfl rfl rfl (XS.iconst X8.here hx rfl (hb hby d3_83) (XS.iadd X8.here hx rfl (hb hby d3_84) rfl k))) ?_
  obtain ⟨T9, h9, X9, e9, W9, st9⟩ := putF X8 hx hZ hown (host := "") (Or.inl (own_w hw 27 rfl)) Via.refl e8 F_count_a1 E_a1 (Or.inl (own_w hw 28 rfl)) (own_w hw 2 rfl) (ty := .int) (by decide) rfl rfl (g := (mkF m 85 #[.val (.ref a1), .val (.long q1), .second, .val (.long q2), .second, .val (.long (-9223372036854775808 : Int64)), .second, .unset] [(.int (n + (1 : Int32))), (.ref a1), (.int n), (.int i)])) rfl rfl (hb hby d3_85)
  refine OGo.via st9 ?_
  have Fw9 := F_count_a1.same W9
  have K9 : Keep h0 h9 [a1, pa, ta] := (Keep.refl h0 [a1, pa, ta]).wr W9 (Or.inl (List.mem_of_getElem? (i := 0) rfl))
  have N9 := Fr.snoc X9 N1 g_a1
  show OGo _ _ _ _ (T9.setTop (mkF m 88 #[.val (.ref a1), .val (.long q1), .second, .val (.long q2), .second, .val (.long (-9223372036854775808 : Int64)), .second, .unset] [(.int n), (.int i)]))
  refine OGo.via (fun _ k => XS.iadd X9.here hx rfl (hb hby d3_88) rfl (XS.aloadN X9.here hx rfl (hb hby d3_89) rfl rfl k)) ?_
  have f11 := F_positions_a1.other W9 (Or.inr (slot_ne (Or.inl (own_w hw 13 rfl)) (Or.inl (own_w hw 28 rfl)) (by decide) (t := (.array .long)) (t' := .int) (by decide) (by decide)))
  obtain ⟨T10, X10, e10, st10⟩ := getF X9 hx hZ hown (host := "") (Or.inl (own_w hw 12 rfl)) Via.refl e9 f11 (g := (mkF m 90 #[.val (.ref a1), .val (.long q1), .second, .val (.long q2), .second, .val (.long (-9223372036854775808 : Int64)), .second, .unset] [(.ref a1), (.int (i + n))])) rfl rfl (hb hby d3_90)
  refine OGo.via st10 ?_
  show OGo _ _ _ _ (T10.setTop (mkF m 93 #[.val (.ref a1), .val (.long q1), .second, .val (.long q2), .second, .val (.long (-9223372036854775808 : Int64)), .second, .unset] [(.ref pa), (.int (i + n))]))
  have f13 := V_pa.other W9 (Ne.symm ne_a1_pa)
  obtain ⟨cl12, Ar12, q12, Sz12, Ng12, Hs12, Gf12⟩ := id f13
  refine OGo.via (X10.arraylength hx (by rw [e10]; exact Ar12.1) (State.isArrayOf_alike hZ.alike Ar12.2.1) (g := (mkF m 93 #[.val (.ref a1), .val (.long q1), .second, .val (.long q2), .second, .val (.long (-9223372036854775808 : Int64)), .second, .unset] [(.ref pa), (.int (i + n))])) rfl rfl (hb hby d3_93)) ?_
  rw [len_of Sz12 Ng12]
  show OGo _ _ _ _ (T10.setTop (mkF m 94 #[.val (.ref a1), .val (.long q1), .second, .val (.long q2), .second, .val (.long (-9223372036854775808 : Int64)), .second, .unset] [(.int z), (.int (i + n))]))
  refine OGo.via (fun _ k => XS.iconst X10.here hx rfl (hb hby d3_94) (XS.isub X10.here hx rfl (hb hby d3_95) rfl (XS.iand X10.here hx rfl (hb hby d3_96) rfl (XS.istore X10.here hx rfl (hb hby d3_97) rfl (l' := #[.val (.ref a1), .val (.long q1), .second, .val (.long q2), .second, .val (.long (-9223372036854775808 : Int64)), .second, .val (.int ((i + n) &&& (z - (1 : Int32))))]) rfl (XS.aloadN X10.here hx rfl (hb hby d3_99) rfl rfl k))))) ?_
  obtain ⟨T14, X14, e14, st14⟩ := getF X10 hx hZ hown (host := "") (Or.inl (own_w hw 12 rfl)) Via.refl e10 f11 (g := (mkF m 100 #[.val (.ref a1), .val (.long q1), .second, .val (.long q2), .second, .val (.long (-9223372036854775808 : Int64)), .second, .val (.int ((i + n) &&& (z - (1 : Int32))))] [(.ref a1)])) rfl rfl (hb hby d3_100)
  refine OGo.via st14 ?_
  show OGo _ _ _ _ (T14.setTop (mkF m 103 #[.val (.ref a1), .val (.long q1), .second, .val (.long q2), .second, .val (.long (-9223372036854775808 : Int64)), .second, .val (.int ((i + n) &&& (z - (1 : Int32))))] [(.ref pa)]))
  refine OGo.via (fun _ k => XS.iload X14.here hx rfl (hb hby d3_103) rfl (XS.lloadN X14.here hx rfl (hb hby d3_105) rfl k)) ?_
  obtain ⟨cl15, Ar15, q15, Sz15, Ng15, Hs15, Gf15⟩ := id f13
  have hin15 : ¬ (((i + n) &&& (z - (1 : Int32))) < 0 ∨ cl15.slots.size ≤ (((i + n) &&& (z - (1 : Int32)))).toNatClampNeg) := inb_of Sz15 hin
  obtain ⟨T15, h15, X15, e15, W15, st15⟩ := stJ X14 hx hZ e14 Ar15 (j := ((i + n) &&& (z - (1 : Int32)))) hin15 (g := (mkF m 106 #[.val (.ref a1), .val (.long q1), .second, .val (.long q2), .second, .val (.long (-9223372036854775808 : Int64)), .second, .val (.int ((i + n) &&& (z - (1 : Int32))))] [(.long q1), (.int ((i + n) &&& (z - (1 : Int32)))), (.ref pa)])) rfl rfl (hb hby d3_106)
  refine OGo.via st15 ?_
  have V15 : Arv Z h15 pa kp .long z (ps.set jn (.long q1)) (.long (0 : Int64)) := Arv.set Ar15 q15 Sz15 Ng15 Hs15 Gf15 rfl W15 jn hj hlp
  have K15 : Keep h0 h15 [a1, pa, ta] := K9.wr W15 (Or.inl (List.mem_of_getElem? (i := 1) rfl))
  have N15 := Fr.snoc X15 N9 g_pa
  show OGo _ _ _ _ (T15.setTop (mkF m 107 #[.val (.ref a1), .val (.long q1), .second, .val (.long q2), .second, .val (.long (-9223372036854775808 : Int64)), .second, .val (.int ((i + n) &&& (z - (1 : Int32))))] []))
  refine OGo.via (fun _ k => XS.aloadN X15.here hx rfl (hb hby d3_107) rfl rfl k) ?_
  have f17 := F_times_a1.other W9 (Or.inr (slot_ne (Or.inl (own_w hw 15 rfl)) (Or.inl (own_w hw 28 rfl)) (by decide) (t := (.array .long)) (t' := .int) (by decide) (by decide)))
  have f18 := f17.other W15 (Or.inl ne_a1_pa)
  obtain ⟨T16, X16, e16, st16⟩ := getF X15 hx hZ hown (host := "") (Or.inl (own_w hw 14 rfl)) Via.refl e15 f18 (g := (mkF m 108 #[.val (.ref a1), .val (.long q1), .second, .val (.long q2), .second, .val (.long (-9223372036854775808 : Int64)), .second, .val (.int ((i + n) &&& (z - (1 : Int32))))] [(.ref a1)])) rfl rfl (hb hby d3_108)
  refine OGo.via st16 ?_
  show OGo _ _ _ _ (T16.setTop (mkF m 111 #[.val (.ref a1), .val (.long q1), .second, .val (.long q2), .second, .val (.long (-9223372036854775808 : Int64)), .second, .val (.int ((i + n) &&& (z - (1 : Int32))))] [(.ref ta)]))
  refine OGo.via (fun _ k => XS.iload X16.here hx rfl (hb hby d3_111) rfl (XS.lloadN X16.here hx rfl (hb hby d3_113) rfl k)) ?_
  have f20 := V_ta.other W9 (Ne.symm ne_a1_ta)
  have f21 := f20.other W15 (Ne.symm ne_pa_ta)
  obtain ⟨cl19, Ar19, q19, Sz19, Ng19, Hs19, Gf19⟩ := id f21
  have hin19 : ¬ (((i + n) &&& (z - (1 : Int32))) < 0 ∨ cl19.slots.size ≤ (((i + n) &&& (z - (1 : Int32)))).toNatClampNeg) := inb_of Sz19 hin
  obtain ⟨T19, h19, X19, e19, W19, st19⟩ := stJ X16 hx hZ e16 Ar19 (j := ((i + n) &&& (z - (1 : Int32)))) hin19 (g := (mkF m 114 #[.val (.ref a1), .val (.long q1), .second, .val (.long q2), .second, .val (.long (-9223372036854775808 : Int64)), .second, .val (.int ((i + n) &&& (z - (1 : Int32))))] [(.long q2), (.int ((i + n) &&& (z - (1 : Int32)))), (.ref ta)])) rfl rfl (hb hby d3_114)
  refine OGo.via st19 ?_
  have V19 : Arv Z h19 ta kt .long z (ts.set jn (.long q2)) (.long (0 : Int64)) := Arv.set Ar19 q19 Sz19 Ng19 Hs19 Gf19 rfl W19 jn hj hlt
  have K19 : Keep h0 h19 [a1, pa, ta] := K15.wr W19 (Or.inl (List.mem_of_getElem? (i := 2) rfl))
  have N19 := Fr.snoc X19 N15 g_ta
  show OGo _ _ _ _ (T19.setTop (mkF m 115 #[.val (.ref a1), .val (.long q1), .second, .val (.long q2), .second, .val (.long (-9223372036854775808 : Int64)), .second, .val (.int ((i + n) &&& (z - (1 : Int32))))] []))
  refine OGo.via (fun _ k => XS.aloadN X19.here hx rfl (hb hby d3_115) rfl rfl (XS.dup X19.here hx rfl (hb hby d3_116) rfl rfl k)) ?_
  have f23 := F_befores_a1.other W9 (Or.inr (slot_ne (Or.inl (own_w hw 33 rfl)) (Or.inl (own_w hw 28 rfl)) (by decide) (t := .long) (t' := .int) (by decide) (by decide)))
  have f24 := f23.other W15 (Or.inl ne_a1_pa)
  have f25 := f24.other W19 (Or.inl ne_a1_ta)
  obtain ⟨T22, X22, e22, st22⟩ := getF X19 hx hZ hown (host := "") (Or.inl (own_w hw 32 rfl)) Via.refl e19 f25 (g := (mkF m 117 #[.val (.ref a1), .val (.long q1), .second, .val (.long q2), .second, .val (.long (-9223372036854775808 : Int64)), .second, .val (.int ((i + n) &&& (z - (1 : Int32))))] [(.ref a1), (.ref a1)])) rfl rfl (hb hby d3_117)
  refine OGo.via st22 ?_
  show OGo _ _ _ _ (T22.setTop (mkF m 120 #[.val (.ref a1), .val (.long q1), .second, .val (.long q2), .second, .val (.long (-9223372036854775808 : Int64)), .second, .val (.int ((i + n) &&& (z - (1 : Int32))))] [(.long bf), (.ref a1)]))
  refine OGo.via (fun _ k => XS.lconst X22.here hx rfl (hb hby d3_120) (XS.ladd X22.here hx rfl (hb hby d3_121) rfl k)) ?_
  have f27 := E_a1.keep K19
  obtain ⟨T26, h26, X26, e26, W26, st26⟩ := putF X22 hx hZ hown (host := "") (Or.inl (own_w hw 32 rfl)) Via.refl e22 f25 f27 (Or.inl (own_w hw 33 rfl)) (own_w hw 2 rfl) (ty := .long) (by decide) rfl rfl (g := (mkF m 122 #[.val (.ref a1), .val (.long q1), .second, .val (.long q2), .second, .val (.long (-9223372036854775808 : Int64)), .second, .val (.int ((i + n) &&& (z - (1 : Int32))))] [(.long (bf + (1 : Int64))), (.ref a1)])) rfl rfl (hb hby d3_122)
  refine OGo.via st26 ?_
  have Fw26 := f25.same W26
  have K26 : Keep h0 h26 [a1, pa, ta] := K19.wr W26 (Or.inl (List.mem_of_getElem? (i := 0) rfl))
  have N26 := Fr.snoc X26 N19 g_a1
  show OGo _ _ _ _ (T26.setTop (mkF m 125 #[.val (.ref a1), .val (.long q1), .second, .val (.long q2), .second, .val (.long (-9223372036854775808 : Int64)), .second, .val (.int ((i + n) &&& (z - (1 : Int32))))] []))
  show OGo _ _ _ _ (T26.setTop (mkF m 125 #[.val (.ref a1), .val (.long q1), .second, .val (.long q2), .second, .val (.long (-9223372036854775808 : Int64)), .second, .val (.int ((i + n) &&& (z - (1 : Int32))))] []))
  have f28 := f27.wr W26
  have f29 := f11.other W15 (Or.inl ne_a1_pa)
  have f30 := f29.other W19 (Or.inl ne_a1_ta)
  have f31 := f30.other W26 (Or.inr (slot_ne (Or.inl (own_w hw 13 rfl)) (Or.inl (own_w hw 33 rfl)) (by decide) (t := (.array .long)) (t' := .long) (by decide) (by decide)))
  have f32 := f18.other W19 (Or.inl ne_a1_ta)
  have f33 := f32.other W26 (Or.inr (slot_ne (Or.inl (own_w hw 15 rfl)) (Or.inl (own_w hw 33 rfl)) (by decide) (t := (.array .long)) (t' := .long) (by decide) (by decide)))
  have f34 := F_first_a1.other W9 (Or.inr (slot_ne (Or.inl (own_w hw 31 rfl)) (Or.inl (own_w hw 28 rfl)) (by decide) (t := .int) (t' := .int) (by decide) (by decide)))
  have f35 := f34.other W15 (Or.inl ne_a1_pa)
  have f36 := f35.other W19 (Or.inl ne_a1_ta)
  have f37 := f36.other W26 (Or.inr (slot_ne (Or.inl (own_w hw 31 rfl)) (Or.inl (own_w hw 33 rfl)) (by decide) (t := .int) (t' := .long) (by decide) (by decide)))
  have f38 := Fw9.other W15 (Or.inl ne_a1_pa)
  have f39 := f38.other W19 (Or.inl ne_a1_ta)
  have f40 := f39.other W26 (Or.inr (slot_ne (Or.inl (own_w hw 28 rfl)) (Or.inl (own_w hw 33 rfl)) (by decide) (t := .int) (t' := .long) (by decide) (by decide)))
  have f41 := V15.other W19 ne_pa_ta
  have f42 := f41.other W26 (Ne.symm ne_a1_pa)
  have f43 := V19.other W26 (Ne.symm ne_a1_ta)
  refine own_retV X26 hx Bd.notSynchronized Bd.returns (hb hby d3_125) (by decide) (by decide) ?_
  show Q_rm3p Z _ _ _ _ _ _ _ _ _ _ _ _ _ _ _ _ h0 n0 _ T26.heap _
  rw [e26]
  exact ⟨rfl, N26, K26, f28, f31, f33, f37, f40, Fw26, f42, f43⟩
theorem ef_rm3z (m : MethodId) (a1 : Addr) (q1 : Int64) (q2 : Int64) : entryFrame m #[(.ref a1), (.long q1), (.long q2), (.long (-9223372036854775808 : Int64))] 8 = mkF m 0 #[.val (.ref a1), .val (.long q1), .second, .val (.long q2), .second, .val (.long (-9223372036854775808 : Int64)), .second, .unset] [] := by first | (simp [entryFrame, mkF, argsToLocals, Value.category]; done) | rfl
def Q_rm3z (Z : State) (a1 : Addr) (q1 : Int64) (q2 : Int64) (i : Int32) (z : Int32) (pa : Addr) (ta : Addr) (kp : ClassId) (kt : ClassId) (ps : List Value) (ts : List Value) (bf : Int64) (jn : Nat) (h0 : Heap) (n0 : Nat) (v : Option Value) (h : Heap) (L : List Loc) : Prop := v = none ∧ Fr n0 L ∧ Keep h0 h [a1, pa, ta] ∧ Exa Z h a1 "com/example/eventloom/eventloom/engine/Forbidden" ∧ Fld Z h a1 "com/example/eventloom/eventloom/engine/Forbidden" "positions" "[J" (.ref pa) ∧ Fld Z h a1 "com/example/eventloom/eventloom/engine/Forbidden" "times" "[J" (.ref ta) ∧ Fld Z h a1 "com/example/eventloom/eventloom/engine/Forbidden" "first" "I" (.int i) ∧ Fld Z h a1 "com/example/eventloom/eventloom/engine/Forbidden" "count" "I" (.int (1 : Int32)) ∧ Fld Z h a1 "com/example/eventloom/eventloom/engine/Forbidden" "befores" "J" (.long (bf + (1 : Int64))) ∧ Arv Z h pa kp .long z (ps.set jn (.long q1)) (.long (0 : Int64)) ∧ Arv Z h ta kt .long z (ts.set jn (.long q2)) (.long (0 : Int64))
set_option maxRecDepth 65536 in
set_option maxHeartbeats 40000000 in
theorem rm3z (l : Launch) (Z : State) (a0 : Array Value) (hw : ∀ d ∈ tables_1, d.before a0 Z = true) (ws : List Jvm.Cond) (a1 : Addr) (q1 : Int64) (q2 : Int64) (i : Int32) (z : Int32) (pa : Addr) (ta : Addr) (kp : ClassId) (kt : ClassId) (ps : List Value) (ts : List Value) (bf : Int64) (jn : Nat) (h0 : Heap) (n0 : Nat) (Z0 : n0 ≤ h0.size) (E_a1 : Exa Z h0 a1 "com/example/eventloom/eventloom/engine/Forbidden") (F_positions_a1 : Fld Z h0 a1 "com/example/eventloom/eventloom/engine/Forbidden" "positions" "[J" (.ref pa)) (F_times_a1 : Fld Z h0 a1 "com/example/eventloom/eventloom/engine/Forbidden" "times" "[J" (.ref ta)) (F_first_a1 : Fld Z h0 a1 "com/example/eventloom/eventloom/engine/Forbidden" "first" "I" (.int i)) (F_count_a1 : Fld Z h0 a1 "com/example/eventloom/eventloom/engine/Forbidden" "count" "I" (.int (0 : Int32))) (F_befores_a1 : Fld Z h0 a1 "com/example/eventloom/eventloom/engine/Forbidden" "befores" "J" (.long bf)) (V_pa : Arv Z h0 pa kp .long z ps (.long (0 : Int64))) (V_ta : Arv Z h0 ta kt .long z ts (.long (0 : Int64))) (ne_a1_pa : a1 ≠ pa) (ne_a1_ta : a1 ≠ ta) (ne_pa_ta : pa ≠ ta) (g_a1 : n0 ≤ a1) (g_pa : n0 ≤ pa) (g_ta : n0 ≤ ta) (hz : ¬ (z = (0 : Int32))) (hnz : ¬ ((0 : Int32) = z)) (hj : ((i + (0 : Int32)) &&& (z - (1 : Int32))).toNatClampNeg = jn) (hin : ¬ ((i + (0 : Int32)) &&& (z - (1 : Int32))) < 0 ∧ ((i + (0 : Int32)) &&& (z - (1 : Int32))) < z) (hlp : jn < ps.length) (hlt : jn < ts.length) :
    MetFree l own_y5 (head1 (Jvm.Cond.code own_y5 prog_122_method_2_code 8 none :: ws) ({ frames := 1, cells := 0, slots := 0, locals := 14 } : Room)) (fun a U => a = #[(.ref a1), (.long q1), (.long q2), (.long (-9223372036854775808 : Int64))] ∧ Z.Warmed39 U.vm ∧ U.heap = h0) (fun _ _ _ _ _ => True) (fun _ U o U' => ∃ v L, o = .returned v ∧ Q_rm3z Z a1 q1 q2 i z pa ta kp kt ps ts bf jn h0 n0 v U'.heap L ∧ FrameEnd U o U' L ({ frames := 1, cells := 0, slots := 0, locals := 14 } : Room).cells ({ frames := 1, cells := 0, slots := 0, locals := 14 } : Room).slots) := by
  refine MetFree.of_bodySF (plainFor_of_name pn_Forbidden) hisR ?_
  intro p e s m args below meth c s₁ Bd hml0 hP hK
  obtain ⟨rfl, hZ, hh⟩ := hP
  have hx := Bd.exec
  have hby := Bd.bytes
  have hml : c.maxLocals = 8 := hml0
  have hown : s.vm.findClass "com/example/eventloom/eventloom/engine/Forbidden" = some m.cls := findClass_of_methodNamed Bd.named
  have hnm := (name_of_methodNamed Bd.named Bd.method).1
  have X0 : Stand p l e ({ frames := 1, cells := 0, slots := 0, locals := 14 } : Room) s m #[(.ref a1), (.long q1), (.long q2), (.long (-9223372036854775808 : Int64))] below meth c s₁ [] 0 0 := Stand.of_body Bd
  have e0 : s₁.heap = h0 := by rw [← hh, Bd.state]; rfl
  have N0 := Fr.nil n0
  show OGo p.tables e below (own_Kq s (fun v h L => Q_rm3z Z a1 q1 q2 i z pa ta kp kt ps ts bf jn h0 n0 v h L) ({ frames := 1, cells := 0, slots := 0, locals := 14 } : Room).cells ({ frames := 1, cells := 0, slots := 0, locals := 14 } : Room).slots) (s₁.setTop (entryFrame m #[(.ref a1), (.long q1), (.long q2), (.long (-9223372036854775808 : Int64))] 8))
  refine OGo.cast (ef_rm3z m a1 q1 q2) ?_
  show OGo _ _ _ _ (s₁.setTop (mkF m 0 #[.val (.ref a1), .val (.long q1), .second, .val (.long q2), .second, .val (.long (-9223372036854775808 : Int64)), .second, .unset] []))
  refine OGo.via (fun _ k => XS.aloadN X0.here hx rfl (hb hby d3_0) rfl rfl (XS.lload X0.here hx rfl (hb hby d3_1) rfl k)) ?_
  obtain ⟨cq1, kq1, q1a, q1b, q1c⟩ := isOf hZ e0 E_a1
  obtain ⟨_, T1, Lc1, X1, hQ1, st1⟩ := own_open X0 (X0.virtualBack hx (y := own_y4) (z := own_y4) hown (mvT hZ (own_w hw 22 rfl)) (mvT hZ (own_w hw 23 rfl)) (notFace_of_selects (args := #[]) (mvT hZ (own_w hw 25 rfl))) (mvT hZ (own_w hw 25 rfl)) (mvT hZ (own_w hw 24 rfl)) (by decide) (backOf (W := 0) (rm4z l Z a0 hw [] a1 (-9223372036854775808 : Int64) h0 n0 Z0 F_count_a1) hZ (own_w hw 26 rfl) (own_w hw 3 rfl) (by decide) (by decide)) q1a q1c (g := (mkF m 3 #[.val (.ref a1), .val (.long q1), .second, .val (.long q2), .second, .val (.long (-9223372036854775808 : Int64)), .second, .unset] [(.long (-9223372036854775808 : Int64)), (.ref a1)])) rfl (by rw [hml]; rfl) (Steps.refl _) (argsL := [(.long (-9223372036854775808 : Int64))]) (rest := []) (lenOf pd_2 rfl) rfl (by show 2 * 0 + _ ≤ _; exact Nat.le_of_eq rfl) (hb hby d3_3) (fun _ _ => ⟨rfl, e0, (by decide : 0 + 0 ≤ _), (by decide : 0 + 0 ≤ _)⟩))
  obtain ⟨rfl, N1q, r1_0⟩ := hQ1
  have N1 := Fr.app N0 N1q
  refine OGo.via (fun _ k => st1.trans k) ?_
  show OGo _ _ _ _ (T1.setTop (mkF m 6 #[.val (.ref a1), .val (.long q1), .second, .val (.long q2), .second, .val (.long (-9223372036854775808 : Int64)), .second, .unset] [(.long (9223372036854775807 : Int64))]))
  refine OGo.via (fun _ k => own_pop2L X1.here hx rfl (hb hby d3_6) rfl (XS.aloadN X1.here hx rfl (hb hby d3_7) rfl rfl k)) ?_
  obtain ⟨T2, X2, e2, st2⟩ := getF X1 hx hZ hown (host := "") (Or.inl (own_w hw 12 rfl)) Via.refl r1_0 F_positions_a1 (g := (mkF m 8 #[.val (.ref a1), .val (.long q1), .second, .val (.long q2), .second, .val (.long (-9223372036854775808 : Int64)), .second, .unset] [(.ref a1)])) rfl rfl (hb hby d3_8)
  refine OGo.via st2 ?_
  show OGo _ _ _ _ (T2.setTop (mkF m 11 #[.val (.ref a1), .val (.long q1), .second, .val (.long q2), .second, .val (.long (-9223372036854775808 : Int64)), .second, .unset] [(.ref pa)]))
  obtain ⟨cl3, Ar3, q3, Sz3, Ng3, Hs3, Gf3⟩ := id V_pa
  refine OGo.via (X2.arraylength hx (by rw [e2]; exact Ar3.1) (State.isArrayOf_alike hZ.alike Ar3.2.1) (g := (mkF m 11 #[.val (.ref a1), .val (.long q1), .second, .val (.long q2), .second, .val (.long (-9223372036854775808 : Int64)), .second, .unset] [(.ref pa)])) rfl rfl (hb hby d3_11)) ?_
  rw [len_of Sz3 Ng3]
  show OGo _ _ _ _ (T2.setTop (mkF m 12 #[.val (.ref a1), .val (.long q1), .second, .val (.long q2), .second, .val (.long (-9223372036854775808 : Int64)), .second, .unset] [(.int z)]))
  refine OGo.via (fun _ k => XS.ifYes X2.here hx rfl (pc0 := 12) (pc' := 32) rfl (hb hby d3_12) rfl ((if0 _ _).trans (feq hz).2) (by decide) (by decide) k) ?_
  show OGo _ _ _ _ (T2.setTop (mkF m 32 #[.val (.ref a1), .val (.long q1), .second, .val (.long q2), .second, .val (.long (-9223372036854775808 : Int64)), .second, .unset] []))
  refine OGo.via (fun _ k => XS.aloadN X2.here hx rfl (hb hby d3_32) rfl rfl k) ?_
  obtain ⟨T4, X4, e4, st4⟩ := getF X2 hx hZ hown (host := "") (Or.inl (own_w hw 27 rfl)) Via.refl e2 F_count_a1 (g := (mkF m 33 #[.val (.ref a1), .val (.long q1), .second, .val (.long q2), .second, .val (.long (-9223372036854775808 : Int64)), .second, .unset] [(.ref a1)])) rfl rfl (hb hby d3_33)
  refine OGo.via st4 ?_
  show OGo _ _ _ _ (T4.setTop (mkF m 36 #[.val (.ref a1), .val (.long q1), .second, .val (.long q2), .second, .val (.long (-9223372036854775808 : Int64)), .second, .unset] [(.int (0 : Int32))]))
  refine OGo.via (fun _ k => XS.aloadN X4.here hx rfl (hb hby d3_36) rfl rfl k) ?_
  obtain ⟨T5, X5, e5, st5⟩ := getF X4 hx hZ hown (host := "") (Or.inl (own_w hw 12 rfl)) Via.refl e4 F_positions_a1 (g := (mkF m 37 #[.val (.ref a1), .val (.long q1), .second, .val (.long q2), .second, .val (.long (-9223372036854775808 : Int64)), .second, .unset] [(.ref a1), (.int (0 : Int32))])) rfl rfl (hb hby d3_37)
  refine OGo.via st5 ?_
  show OGo _ _ _ _ (T5.setTop (mkF m 40 #[.val (.ref a1), .val (.long q1), .second, .val (.long q2), .second, .val (.long (-9223372036854775808 : Int64)), .second, .unset] [(.ref pa), (.int (0 : Int32))]))
  obtain ⟨cl6, Ar6, q6, Sz6, Ng6, Hs6, Gf6⟩ := id V_pa
  refine OGo.via (X5.arraylength hx (by rw [e5]; exact Ar6.1) (State.isArrayOf_alike hZ.alike Ar6.2.1) (g := (mkF m 40 #[.val (.ref a1), .val (.long q1), .second, .val (.long q2), .second, .val (.long (-9223372036854775808 : Int64)), .second, .unset] [(.ref pa), (.int (0 : Int32))])) rfl rfl (hb hby d3_40)) ?_
  rw [len_of Sz6 Ng6]
  show OGo _ _ _ _ (T5.setTop (mkF m 41 #[.val (.ref a1), .val (.long q1), .second, .val (.long q2), .second, .val (.long (-9223372036854775808 : Int64)), .second, .unset] [(.int z), (.int (0 : Int32))]))
  refine OGo.via (fun _ k => XS.icmpYes X5.here hx rfl (pc0 := 41) (pc' := 73) rfl (hb hby d3_41) rfl (feq hnz).2 (by decide) (by decide) k) ?_
  show OGo _ _ _ _ (T5.setTop (mkF m 73 #[.val (.ref a1), .val (.long q1), .second, .val (.long q2), .second, .val (.long (-9223372036854775808 : Int64)), .second, .unset] []))
  refine OGo.via (fun _ k => XS.aloadN X5.here hx rfl (hb hby d3_73) rfl rfl k) ?_
  obtain ⟨T7, X7, e7, st7⟩ := getF X5 hx hZ hown (host := "") (Or.inl (own_w hw 30 rfl)) Via.refl e5 F_first_a1 (g := (mkF m 74 #[.val (.ref a1), .val (.long q1), .second, .val (.long q2), .second, .val (.long (-9223372036854775808 : Int64)), .second, .unset] [(.ref a1)])) rfl rfl (hb hby d3_74)
  refine OGo.via st7 ?_
  show OGo _ _ _ _ (T7.setTop (mkF m 77 #[.val (.ref a1), .val (.long q1), .second, .val (.long q2), .second, .val (.long (-9223372036854775808 : Int64)), .second, .unset] [(.int i)]))
  refine OGo.via (fun _ k => XS.aloadN X7.here hx rfl (hb hby d3_77) rfl rfl (XS.dup X7.here hx rfl (hb hby d3_78) rfl rfl k)) ?_
  obtain ⟨T8, X8, e8, st8⟩ := getF X7 hx hZ hown (host := "") (Or.inl (own_w hw 27 rfl)) Via.refl e7 F_count_a1 (g := (mkF m 79 #[.val (.ref a1), .val (.long q1), .second, .val (.long q2), .second, .val (.long (-9223372036854775808 : Int64)), .second, .unset] [(.ref a1), (.ref a1), (.int i)])) rfl rfl (hb hby d3_79)
  refine OGo.via st8 ?_
  show OGo _ _ _ _ (T8.setTop (mkF m 82 #[.val (.ref a1), .val (.long q1), .second, .val (.long q2), .second, .val (.long (-9223372036854775808 : Int64)), .second, .unset] [(.int (0 : Int32)), (.ref a1), (.int i)]))
  refine OGo.via (fun _ k => XS.dupX1 X8.here hx rfl (hb hby d3_82) rfl rfl rfl (XS.iconst X8.here hx rfl (hb hby d3_83) (XS.iadd X8.here hx rfl (hb hby d3_84) rfl k))) ?_
  show OGo _ _ _ _ (T8.setTop (mkF m 85 #[.val (.ref a1), .val (.long q1), .second, .val (.long q2), .second, .val (.long (-9223372036854775808 : Int64)), .second, .unset] [(.int ((0 : Int32) + (1 : Int32))), (.ref a1), (.int (0 : Int32)), (.int i)]))
  rw [show ((0 : Int32) + (1 : Int32)) = (1 : Int32) from by decide]
  obtain ⟨T10, h10, X10, e10, W10, st10⟩ := putF X8 hx hZ hown (host := "") (Or.inl (own_w hw 27 rfl)) Via.refl e8 F_count_a1 E_a1 (Or.inl (own_w hw 28 rfl)) (own_w hw 2 rfl) (ty := .int) (by decide) rfl rfl (g := (mkF m 85 #[.val (.ref a1), .val (.long q1), .second, .val (.long q2), .second, .val (.long (-9223372036854775808 : Int64)), .second, .unset] [(.int (1 : Int32)), (.ref a1), (.int (0 : Int32)), (.int i)])) rfl rfl (hb hby d3_85)
  refine OGo.via st10 ?_
  have Fw10 := F_count_a1.same W10
  have K10 : Keep h0 h10 [a1, pa, ta] := (Keep.refl h0 [a1, pa, ta]).wr W10 (Or.inl (List.mem_of_getElem? (i := 0) rfl))
  have N10 := Fr.snoc X10 N1 g_a1
  show OGo _ _ _ _ (T10.setTop (mkF m 88 #[.val (.ref a1), .val (.long q1), .second, .val (.long q2), .second, .val (.long (-9223372036854775808 : Int64)), .second, .unset] [(.int (0 : Int32)), (.int i)]))
  refine OGo.via (fun _ k => XS.iadd X10.here hx rfl (hb hby d3_88) rfl (XS.aloadN X10.here hx rfl (hb hby d3_89) rfl rfl k)) ?_
  have f12 := F_positions_a1.other W10 (Or.inr (slot_ne (Or.inl (own_w hw 13 rfl)) (Or.inl (own_w hw 28 rfl)) (by decide) (t := (.array .long)) (t' := .int) (by decide) (by decide)))
  obtain ⟨T11, X11, e11, st11⟩ := getF X10 hx hZ hown (host := "") (Or.inl (own_w hw 12 rfl)) Via.refl e10 f12 (g := (mkF m 90 #[.val (.ref a1), .val (.long q1), .second, .val (.long q2), .second, .val (.long (-9223372036854775808 : Int64)), .second, .unset] [(.ref a1), (.int (i + (0 : Int32)))])) rfl rfl (hb hby d3_90)
  refine OGo.via st11 ?_
  show OGo _ _ _ _ (T11.setTop (mkF m 93 #[.val (.ref a1), .val (.long q1), .second, .val (.long q2), .second, .val (.long (-9223372036854775808 : Int64)), .second, .unset] [(.ref pa), (.int (i + (0 : Int32)))]))
  have f14 := V_pa.other W10 (Ne.symm ne_a1_pa)
  obtain ⟨cl13, Ar13, q13, Sz13, Ng13, Hs13, Gf13⟩ := id f14
  refine OGo.via (X11.arraylength hx (by rw [e11]; exact Ar13.1) (State.isArrayOf_alike hZ.alike Ar13.2.1) (g := (mkF m 93 #[.val (.ref a1), .val (.long q1), .second, .val (.long q2), .second, .val (.long (-9223372036854775808 : Int64)), .second, .unset] [(.ref pa), (.int (i + (0 : Int32)))])) rfl rfl (hb hby d3_93)) ?_
  rw [len_of Sz13 Ng13]
  show OGo _ _ _ _ (T11.setTop (mkF m 94 #[.val (.ref a1), .val (.long q1), .second, .val (.long q2), .second, .val (.long (-9223372036854775808 : Int64)), .second, .unset] [(.int z), (.int (i + (0 : Int32)))]))
  refine OGo.via (fun _ k => XS.iconst X11.here hx rfl (hb hby d3_94) (XS.isub X11.here hx rfl (hb hby d3_95) rfl (XS.iand X11.here hx rfl (hb hby d3_96) rfl (XS.istore X11.here hx rfl (hb hby d3_97) rfl (l' := #[.val (.ref a1), .val (.long q1), .second, .val (.long q2), .second, .val (.long (-9223372036854775808 : Int64)), .second, .val (.int ((i + (0 : Int32)) &&& (z - (1 : Int32))))]) rfl (XS.aloadN X11.here hx rfl (hb hby d3_99) rfl rfl k))))) ?_
  obtain ⟨T15, X15, e15, st15⟩ := getF X11 hx hZ hown (host := "") (Or.inl (own_w hw 12 rfl)) Via.refl e11 f12 (g := (mkF m 100 #[.val (.ref a1), .val (.long q1), .second, .val (.long q2), .second, .val (.long (-9223372036854775808 : Int64)), .second, .val (.int ((i + (0 : Int32)) &&& (z - (1 : Int32))))] [(.ref a1)])) rfl rfl (hb hby d3_100)
  refine OGo.via st15 ?_
  show OGo _ _ _ _ (T15.setTop (mkF m 103 #[.val (.ref a1), .val (.long q1), .second, .val (.long q2), .second, .val (.long (-9223372036854775808 : Int64)), .second, .val (.int ((i + (0 : Int32)) &&& (z - (1 : Int32))))] [(.ref pa)]))
  refine OGo.via (fun _ k => XS.iload X15.here hx rfl (hb hby d3_103) rfl (XS.lloadN X15.here hx rfl (hb hby d3_105) rfl k)) ?_
  obtain ⟨cl16, Ar16, q16, Sz16, Ng16, Hs16, Gf16⟩ := id f14
  have hin16 : ¬ (((i + (0 : Int32)) &&& (z - (1 : Int32))) < 0 ∨ cl16.slots.size ≤ (((i + (0 : Int32)) &&& (z - (1 : Int32)))).toNatClampNeg) := inb_of Sz16 hin
  obtain ⟨T16, h16, X16, e16, W16, st16⟩ := stJ X15 hx hZ e15 Ar16 (j := ((i + (0 : Int32)) &&& (z - (1 : Int32)))) hin16 (g := (mkF m 106 #[.val (.ref a1), .val (.long q1), .second, .val (.long q2), .second, .val (.long (-9223372036854775808 : Int64)), .second, .val (.int ((i + (0 : Int32)) &&& (z - (1 : Int32))))] [(.long q1), (.int ((i + (0 : Int32)) &&& (z - (1 : Int32)))), (.ref pa)])) rfl rfl (hb hby d3_106)
  refine OGo.via st16 ?_
  have V16 : Arv Z h16 pa kp .long z (ps.set jn (.long q1)) (.long (0 : Int64)) := Arv.set Ar16 q16 Sz16 Ng16 Hs16 Gf16 rfl W16 jn hj hlp
  have K16 : Keep h0 h16 [a1, pa, ta] := K10.wr W16 (Or.inl (List.mem_of_getElem? (i := 1) rfl))
  have N16 := Fr.snoc X16 N10 g_pa
  show OGo _ _ _ _ (T16.setTop (mkF m 107 #[.val (.ref a1), .val (.long q1), .second, .val (.long q2), .second, .val (.long (-9223372036854775808 : Int64)), .second, .val (.int ((i + (0 : Int32)) &&& (z - (1 : Int32))))] []))
  refine OGo.via (fun _ k => XS.aloadN X16.here hx rfl (hb hby d3_107) rfl rfl k) ?_
  have f18 := F_times_a1.other W10 (Or.inr (slot_ne (Or.inl (own_w hw 15 rfl)) (Or.inl (own_w hw 28 rfl)) (by decide) (t := (.array .long)) (t' := .int) (by decide) (by decide)))
  have f19 := f18.other W16 (Or.inl ne_a1_pa)
  obtain ⟨T17, X17, e17, st17⟩ := getF X16 hx hZ hown (host := "") (Or.inl (own_w hw 14 rfl)) Via.refl e16 f19 (g := (mkF m 108 #[.val (.ref a1), .val (.long q1), .second, .val (.long q2), .second, .val (.long (-9223372036854775808 : Int64)), .second, .val (.int ((i + (0 : Int32)) &&& (z - (1 : Int32))))] [(.ref a1)])) rfl rfl (hb hby d3_108)
  refine OGo.via st17 ?_
  show OGo _ _ _ _ (T17.setTop (mkF m 111 #[.val (.ref a1), .val (.long q1), .second, .val (.long q2), .second, .val (.long (-9223372036854775808 : Int64)), .second, .val (.int ((i + (0 : Int32)) &&& (z - (1 : Int32))))] [(.ref ta)]))
  refine OGo.via (fun _ k => XS.iload X17.here hx rfl (hb hby d3_111) rfl (XS.lloadN X17.here hx rfl (hb hby d3_113) rfl k)) ?_
  have f21 := V_ta.other W10 (Ne.symm ne_a1_ta)
  have f22 := f21.other W16 (Ne.symm ne_pa_ta)
  obtain ⟨cl20, Ar20, q20, Sz20, Ng20, Hs20, Gf20⟩ := id f22
  have hin20 : ¬ (((i + (0 : Int32)) &&& (z - (1 : Int32))) < 0 ∨ cl20.slots.size ≤ (((i + (0 : Int32)) &&& (z - (1 : Int32)))).toNatClampNeg) := inb_of Sz20 hin
  obtain ⟨T20, h20, X20, e20, W20, st20⟩ := stJ X17 hx hZ e17 Ar20 (j := ((i + (0 : Int32)) &&& (z - (1 : Int32)))) hin20 (g := (mkF m 114 #[.val (.ref a1), .val (.long q1), .second, .val (.long q2), .second, .val (.long (-9223372036854775808 : Int64)), .second, .val (.int ((i + (0 : Int32)) &&& (z - (1 : Int32))))] [(.long q2), (.int ((i + (0 : Int32)) &&& (z - (1 : Int32)))), (.ref ta)])) rfl rfl (hb hby d3_114)
  refine OGo.via st20 ?_
  have V20 : Arv Z h20 ta kt .long z (ts.set jn (.long q2)) (.long (0 : Int64)) := Arv.set Ar20 q20 Sz20 Ng20 Hs20 Gf20 rfl W20 jn hj hlt
  have K20 : Keep h0 h20 [a1, pa, ta] := K16.wr W20 (Or.inl (List.mem_of_getElem? (i := 2) rfl))
  have N20 := Fr.snoc X20 N16 g_ta
  show OGo _ _ _ _ (T20.setTop (mkF m 115 #[.val (.ref a1), .val (.long q1), .second, .val (.long q2), .second, .val (.long (-9223372036854775808 : Int64)), .second, .val (.int ((i + (0 : Int32)) &&& (z - (1 : Int32))))] []))
  refine OGo.via (fun _ k => XS.aloadN X20.here hx rfl (hb hby d3_115) rfl rfl (XS.dup X20.here hx rfl (hb hby d3_116) rfl rfl k)) ?_
  have f24 := F_befores_a1.other W10 (Or.inr (slot_ne (Or.inl (own_w hw 33 rfl)) (Or.inl (own_w hw 28 rfl)) (by decide) (t := .long) (t' := .int) (by decide) (by decide)))
  have f25 := f24.other W16 (Or.inl ne_a1_pa)
  have f26 := f25.other W20 (Or.inl ne_a1_ta)
  obtain ⟨T23, X23, e23, st23⟩ := getF X20 hx hZ hown (host := "") (Or.inl (own_w hw 32 rfl)) Via.refl e20 f26 (g := (mkF m 117 #[.val (.ref a1), .val (.long q1), .second, .val (.long q2), .second, .val (.long (-9223372036854775808 : Int64)), .second, .val (.int ((i + (0 : Int32)) &&& (z - (1 : Int32))))] [(.ref a1), (.ref a1)])) rfl rfl (hb hby d3_117)
  refine OGo.via st23 ?_
  show OGo _ _ _ _ (T23.setTop (mkF m 120 #[.val (.ref a1), .val (.long q1), .second, .val (.long q2), .second, .val (.long (-9223372036854775808 : Int64)), .second, .val (.int ((i + (0 : Int32)) &&& (z - (1 : Int32))))] [(.long bf), (.ref a1)]))
  refine OGo.via (fun _ k => XS.lconst X23.here hx rfl (hb hby d3_120) (XS.ladd X23.here hx rfl (hb hby d3_121) rfl k)) ?_
  have f28 := E_a1.keep K20
  obtain ⟨T27, h27, X27, e27, W27, st27⟩ := putF X23 hx hZ hown (host := "") (Or.inl (own_w hw 32 rfl)) Via.refl e23 f26 f28 (Or.inl (own_w hw 33 rfl)) (own_w hw 2 rfl) (ty := .long) (by decide) rfl rfl (g := (mkF m 122 #[.val (.ref a1), .val (.long q1), .second, .val (.long q2), .second, .val (.long (-9223372036854775808 : Int64)), .second, .val (.int ((i + (0 : Int32)) &&& (z - (1 : Int32))))] [(.long (bf + (1 : Int64))), (.ref a1)])) rfl rfl (hb hby d3_122)
  refine OGo.via st27 ?_
  have Fw27 := f26.same W27
  have K27 : Keep h0 h27 [a1, pa, ta] := K20.wr W27 (Or.inl (List.mem_of_getElem? (i := 0) rfl))
  have N27 := Fr.snoc X27 N20 g_a1
  show OGo _ _ _ _ (T27.setTop (mkF m 125 #[.val (.ref a1), .val (.long q1), .second, .val (.long q2), .second, .val (.long (-9223372036854775808 : Int64)), .second, .val (.int ((i + (0 : Int32)) &&& (z - (1 : Int32))))] []))
  show OGo _ _ _ _ (T27.setTop (mkF m 125 #[.val (.ref a1), .val (.long q1), .second, .val (.long q2), .second, .val (.long (-9223372036854775808 : Int64)), .second, .val (.int ((i + (0 : Int32)) &&& (z - (1 : Int32))))] []))
  have f29 := f28.wr W27
  have f30 := f12.other W16 (Or.inl ne_a1_pa)
  have f31 := f30.other W20 (Or.inl ne_a1_ta)
  have f32 := f31.other W27 (Or.inr (slot_ne (Or.inl (own_w hw 13 rfl)) (Or.inl (own_w hw 33 rfl)) (by decide) (t := (.array .long)) (t' := .long) (by decide) (by decide)))
  have f33 := f19.other W20 (Or.inl ne_a1_ta)
  have f34 := f33.other W27 (Or.inr (slot_ne (Or.inl (own_w hw 15 rfl)) (Or.inl (own_w hw 33 rfl)) (by decide) (t := (.array .long)) (t' := .long) (by decide) (by decide)))
  have f35 := F_first_a1.other W10 (Or.inr (slot_ne (Or.inl (own_w hw 31 rfl)) (Or.inl (own_w hw 28 rfl)) (by decide) (t := .int) (t' := .int) (by decide) (by decide)))
  have f36 := f35.other W16 (Or.inl ne_a1_pa)
  have f37 := f36.other W20 (Or.inl ne_a1_ta)
  have f38 := f37.other W27 (Or.inr (slot_ne (Or.inl (own_w hw 31 rfl)) (Or.inl (own_w hw 33 rfl)) (by decide) (t := .int) (t' := .long) (by decide) (by decide)))
  have f39 := Fw10.other W16 (Or.inl ne_a1_pa)
  have f40 := f39.other W20 (Or.inl ne_a1_ta)
  have f41 := f40.other W27 (Or.inr (slot_ne (Or.inl (own_w hw 28 rfl)) (Or.inl (own_w hw 33 rfl)) (by decide) (t := .int) (t' := .long) (by decide) (by decide)))
  have f42 := V16.other W20 ne_pa_ta
  have f43 := f42.other W27 (Ne.symm ne_a1_pa)
  have f44 := V20.other W27 (Ne.symm ne_a1_ta)
  refine own_retV X27 hx Bd.notSynchronized Bd.returns (hb hby d3_125) (by decide) (by decide) ?_
  show Q_rm3z Z _ _ _ _ _ _ _ _ _ _ _ _ _ h0 n0 _ T27.heap _
  rw [e27]
  exact ⟨rfl, N27, K27, f29, f32, f34, f38, f41, Fw27, f43, f44⟩
theorem d3_15 : decode prog_122_method_2_code 15 = .ok (.aload_n 0, 1) := by decide +kernel
theorem d3_16 : decode prog_122_method_2_code 16 = .ok (.iconst 4, 1) := by decide +kernel
theorem d3_17 : decode prog_122_method_2_code 17 = .ok (.newarray .long, 2) := by decide +kernel
theorem d3_19 : decode prog_122_method_2_code 19 = .ok (.putfield 13, 3) := by decide +kernel
theorem d3_22 : decode prog_122_method_2_code 22 = .ok (.aload_n 0, 1) := by decide +kernel
theorem d3_23 : decode prog_122_method_2_code 23 = .ok (.iconst 4, 1) := by decide +kernel
theorem d3_24 : decode prog_122_method_2_code 24 = .ok (.newarray .long, 2) := by decide +kernel
theorem d3_26 : decode prog_122_method_2_code 26 = .ok (.putfield 16, 3) := by decide +kernel
theorem d3_29 : decode prog_122_method_2_code 29 = .ok (.goto 44, 3) := by decide +kernel
theorem ef_rm3n (m : MethodId) (a1 : Addr) (q1 : Int64) (q2 : Int64) : entryFrame m #[(.ref a1), (.long q1), (.long q2), (.long (-9223372036854775808 : Int64))] 8 = mkF m 0 #[.val (.ref a1), .val (.long q1), .second, .val (.long q2), .second, .val (.long (-9223372036854775808 : Int64)), .second, .unset] [] := by first | (simp [entryFrame, mkF, argsToLocals, Value.category]; done) | rfl
def Q_rm3n (Z : State) (a1 : Addr) (q1 : Int64) (q2 : Int64) (wN : Addr) (k0 : ClassId) (h0 : Heap) (n0 : Nat) (v : Option Value) (h : Heap) (L : List Loc) : Prop := ∃ pa : Addr, ∃ ta : Addr, ∃ kp : ClassId, ∃ kt : ClassId, v = none ∧ Fr n0 L ∧ Keep h0 h [a1] ∧ h0.size ≤ pa ∧ h0.size ≤ ta ∧ (pa < ta) ∧ Exa Z h a1 "com/example/eventloom/eventloom/engine/Forbidden" ∧ Fld Z h a1 "com/example/eventloom/eventloom/engine/Forbidden" "positions" "[J" (.ref pa) ∧ Fld Z h a1 "com/example/eventloom/eventloom/engine/Forbidden" "times" "[J" (.ref ta) ∧ Fld Z h a1 "com/example/eventloom/eventloom/engine/Forbidden" "first" "I" (.int (0 : Int32)) ∧ Fld Z h a1 "com/example/eventloom/eventloom/engine/Forbidden" "count" "I" (.int (1 : Int32)) ∧ Fld Z h a1 "com/example/eventloom/eventloom/engine/Forbidden" "befores" "J" (.long (1 : Int64)) ∧ Arv Z h pa kp .long (4 : Int32) [(.long q1), (.long (0 : Int64)), (.long (0 : Int64)), (.long (0 : Int64))] (.long (0 : Int64)) ∧ Arv Z h ta kt .long (4 : Int32) [(.long q2), (.long (0 : Int64)), (.long (0 : Int64)), (.long (0 : Int64))] (.long (0 : Int64))
set_option maxRecDepth 65536 in
set_option maxHeartbeats 40000000 in
theorem rm3n (l : Launch) (Z : State) (a0 : Array Value) (hw : ∀ d ∈ tables_1, d.before a0 Z = true) (ws : List Jvm.Cond) (a1 : Addr) (q1 : Int64) (q2 : Int64) (wN : Addr) (k0 : ClassId) (h0 : Heap) (n0 : Nat) (Z0 : n0 ≤ h0.size) (E_a1 : Exa Z h0 a1 "com/example/eventloom/eventloom/engine/Forbidden") (F_positions_a1 : Fld Z h0 a1 "com/example/eventloom/eventloom/engine/Forbidden" "positions" "[J" (.ref wN)) (F_times_a1 : Fld Z h0 a1 "com/example/eventloom/eventloom/engine/Forbidden" "times" "[J" (.ref wN)) (F_first_a1 : Fld Z h0 a1 "com/example/eventloom/eventloom/engine/Forbidden" "first" "I" (.int (0 : Int32))) (F_count_a1 : Fld Z h0 a1 "com/example/eventloom/eventloom/engine/Forbidden" "count" "I" (.int (0 : Int32))) (F_befores_a1 : Fld Z h0 a1 "com/example/eventloom/eventloom/engine/Forbidden" "befores" "J" (.long (0 : Int64))) (V_wN : Arv Z h0 wN k0 .long (0 : Int32) [] (.long (0 : Int64))) (ne_a1_wN : a1 ≠ wN) (g_a1 : n0 ≤ a1) :
    MetFree l own_y5 (head1 (Jvm.Cond.code own_y5 prog_122_method_2_code 8 none :: ws) ({ frames := 1, cells := 2, slots := 8, locals := 14 } : Room)) (fun a U => a = #[(.ref a1), (.long q1), (.long q2), (.long (-9223372036854775808 : Int64))] ∧ Z.Warmed39 U.vm ∧ U.heap = h0) (fun _ _ _ _ _ => True) (fun _ U o U' => ∃ v L, o = .returned v ∧ Q_rm3n Z a1 q1 q2 wN k0 h0 n0 v U'.heap L ∧ FrameEnd U o U' L ({ frames := 1, cells := 2, slots := 8, locals := 14 } : Room).cells ({ frames := 1, cells := 2, slots := 8, locals := 14 } : Room).slots) := by
  refine MetFree.of_bodySF (plainFor_of_name pn_Forbidden) hisR ?_
  intro p e s m args below meth c s₁ Bd hml0 hP hK
  obtain ⟨rfl, hZ, hh⟩ := hP
  have hx := Bd.exec
  have hby := Bd.bytes
  have hml : c.maxLocals = 8 := hml0
  have hown : s.vm.findClass "com/example/eventloom/eventloom/engine/Forbidden" = some m.cls := findClass_of_methodNamed Bd.named
  have hnm := (name_of_methodNamed Bd.named Bd.method).1
  have X0 : Stand p l e ({ frames := 1, cells := 2, slots := 8, locals := 14 } : Room) s m #[(.ref a1), (.long q1), (.long q2), (.long (-9223372036854775808 : Int64))] below meth c s₁ [] 0 0 := Stand.of_body Bd
  have e0 : s₁.heap = h0 := by rw [← hh, Bd.state]; rfl
  have N0 := Fr.nil n0
  show OGo p.tables e below (own_Kq s (fun v h L => Q_rm3n Z a1 q1 q2 wN k0 h0 n0 v h L) ({ frames := 1, cells := 2, slots := 8, locals := 14 } : Room).cells ({ frames := 1, cells := 2, slots := 8, locals := 14 } : Room).slots) (s₁.setTop (entryFrame m #[(.ref a1), (.long q1), (.long q2), (.long (-9223372036854775808 : Int64))] 8))
  refine OGo.cast (ef_rm3n m a1 q1 q2) ?_
  show OGo _ _ _ _ (s₁.setTop (mkF m 0 #[.val (.ref a1), .val (.long q1), .second, .val (.long q2), .second, .val (.long (-9223372036854775808 : Int64)), .second, .unset] []))
  refine OGo.via (fun _ k => XS.aloadN X0.here hx rfl (hb hby d3_0) rfl rfl (XS.lload X0.here hx rfl (hb hby d3_1) rfl k)) ?_
  obtain ⟨cq1, kq1, q1a, q1b, q1c⟩ := isOf hZ e0 E_a1
  obtain ⟨_, T1, Lc1, X1, hQ1, st1⟩ := own_open X0 (X0.virtualBack hx (y := own_y4) (z := own_y4) hown (mvT hZ (own_w hw 22 rfl)) (mvT hZ (own_w hw 23 rfl)) (notFace_of_selects (args := #[]) (mvT hZ (own_w hw 25 rfl))) (mvT hZ (own_w hw 25 rfl)) (mvT hZ (own_w hw 24 rfl)) (by decide) (backOf (W := 0) (rm4z l Z a0 hw [] a1 (-9223372036854775808 : Int64) h0 n0 Z0 F_count_a1) hZ (own_w hw 26 rfl) (own_w hw 3 rfl) (by decide) (by decide)) q1a q1c (g := (mkF m 3 #[.val (.ref a1), .val (.long q1), .second, .val (.long q2), .second, .val (.long (-9223372036854775808 : Int64)), .second, .unset] [(.long (-9223372036854775808 : Int64)), (.ref a1)])) rfl (by rw [hml]; rfl) (Steps.refl _) (argsL := [(.long (-9223372036854775808 : Int64))]) (rest := []) (lenOf pd_2 rfl) rfl (by show 2 * 0 + _ ≤ _; exact Nat.le_of_eq rfl) (hb hby d3_3) (fun _ _ => ⟨rfl, e0, (by decide : 0 + 0 ≤ _), (by decide : 0 + 0 ≤ _)⟩))
  obtain ⟨rfl, N1q, r1_0⟩ := hQ1
  have N1 := Fr.app N0 N1q
  refine OGo.via (fun _ k => st1.trans k) ?_
  show OGo _ _ _ _ (T1.setTop (mkF m 6 #[.val (.ref a1), .val (.long q1), .second, .val (.long q2), .second, .val (.long (-9223372036854775808 : Int64)), .second, .unset] [(.long (9223372036854775807 : Int64))]))
  refine OGo.via (fun _ k => own_pop2L X1.here hx rfl (hb hby d3_6) rfl (XS.aloadN X1.here hx rfl (hb hby d3_7) rfl rfl k)) ?_
  obtain ⟨T2, X2, e2, st2⟩ := getF X1 hx hZ hown (host := "") (Or.inl (own_w hw 12 rfl)) Via.refl r1_0 F_positions_a1 (g := (mkF m 8 #[.val (.ref a1), .val (.long q1), .second, .val (.long q2), .second, .val (.long (-9223372036854775808 : Int64)), .second, .unset] [(.ref a1)])) rfl rfl (hb hby d3_8)
  refine OGo.via st2 ?_
  show OGo _ _ _ _ (T2.setTop (mkF m 11 #[.val (.ref a1), .val (.long q1), .second, .val (.long q2), .second, .val (.long (-9223372036854775808 : Int64)), .second, .unset] [(.ref wN)]))
  obtain ⟨cl3, Ar3, q3, Sz3, Ng3, Hs3, Gf3⟩ := id V_wN
  refine OGo.via (X2.arraylength hx (by rw [e2]; exact Ar3.1) (State.isArrayOf_alike hZ.alike Ar3.2.1) (g := (mkF m 11 #[.val (.ref a1), .val (.long q1), .second, .val (.long q2), .second, .val (.long (-9223372036854775808 : Int64)), .second, .unset] [(.ref wN)])) rfl rfl (hb hby d3_11)) ?_
  rw [len_of Sz3 Ng3]
  show OGo _ _ _ _ (T2.setTop (mkF m 12 #[.val (.ref a1), .val (.long q1), .second, .val (.long q2), .second, .val (.long (-9223372036854775808 : Int64)), .second, .unset] [(.int (0 : Int32))]))
  refine OGo.via (fun _ k => XS.ifNo X2.here hx rfl (hb hby d3_12) rfl ((if0 _ _).trans (teq (by decide : (0 : Int32) = (0 : Int32))).2) k) ?_
  show OGo _ _ _ _ (T2.setTop (mkF m 15 #[.val (.ref a1), .val (.long q1), .second, .val (.long q2), .second, .val (.long (-9223372036854775808 : Int64)), .second, .unset] []))
  refine OGo.via (fun _ k => XS.aloadN X2.here hx rfl (hb hby d3_15) rfl rfl (XS.iconst X2.here hx rfl (hb hby d3_16) k)) ?_
  obtain ⟨T4, h4, ka4, X4, e4, E4, A4, Y4, st4⟩ := newPE (ad := "[J") X2 hx hZ (own_w hw 0 rfl) e2 (g := (mkF m 17 #[.val (.ref a1), .val (.long q1), .second, .val (.long q2), .second, .val (.long (-9223372036854775808 : Int64)), .second, .unset] [(.int (4 : Int32)), (.ref a1)])) rfl (hb hby d3_17) rfl (by decide) (cap := 4) (by decide) (by decide) (by decide) (by decide) (by decide)
  obtain ⟨b4, g4⟩ : ∃ z, z = h0.size := ⟨_, rfl⟩
  rw [← g4] at A4 Y4 st4
  refine OGo.via st4 ?_
  have K4 : Keep h0 h4 [a1] := (Keep.refl h0 [a1]).ext E4
  have lt_a1_b4 : a1 < b4 := Nat.lt_of_lt_of_le E_a1.lt (Nat.le_of_eq g4.symm)
  have lt_wN_b4 : wN < b4 := Nat.lt_of_lt_of_le V_wN.lt (Nat.le_of_eq g4.symm)
  have sz_b4 : h0.size ≤ b4 := Nat.le_trans (Keep.refl h0 [a1]).1 (Nat.le_of_eq g4.symm)
  have g_b4 : n0 ≤ b4 := Nat.le_trans Z0 sz_b4
  have V4 : Arv Z h4 b4 ka4 .long (4 : Int32) [(.long (0 : Int64)), (.long (0 : Int64)), (.long (0 : Int64)), (.long (0 : Int64))] (.long (0 : Int64)) := (Arv.new A4 (by decide)).pad (pad_rep [] (.long (0 : Int64)) 4)
  show OGo _ _ _ _ (T4.setTop (mkF m 19 #[.val (.ref a1), .val (.long q1), .second, .val (.long q2), .second, .val (.long (-9223372036854775808 : Int64)), .second, .unset] [(.ref b4), (.ref a1)]))
  have f6 := F_positions_a1.ext E4
  have f7 := E_a1.ext E4
  obtain ⟨T5, h5, X5, e5, W5, st5⟩ := putF X4 hx hZ hown (host := "") (Or.inl (own_w hw 12 rfl)) Via.refl e4 f6 f7 (Or.inl (own_w hw 13 rfl)) (own_w hw 2 rfl) (ty := (.array .long)) (by decide) rfl rfl (g := (mkF m 19 #[.val (.ref a1), .val (.long q1), .second, .val (.long q2), .second, .val (.long (-9223372036854775808 : Int64)), .second, .unset] [(.ref b4), (.ref a1)])) rfl rfl (hb hby d3_19)
  refine OGo.via st5 ?_
  have Fw5 := f6.same W5
  have K5 : Keep h0 h5 [a1] := K4.wr W5 (Or.inl (List.mem_of_getElem? (i := 0) rfl))
  have N5 := Fr.snoc X5 N1 g_a1
  show OGo _ _ _ _ (T5.setTop (mkF m 22 #[.val (.ref a1), .val (.long q1), .second, .val (.long q2), .second, .val (.long (-9223372036854775808 : Int64)), .second, .unset] []))
  refine OGo.via (fun _ k => XS.aloadN X5.here hx rfl (hb hby d3_22) rfl rfl (XS.iconst X5.here hx rfl (hb hby d3_23) k)) ?_
  have f9 := f7.wr W5
  have f10 := V_wN.keep K5 (ninS (Ne.symm ne_a1_wN) nin0)
  have f11 := Y4.wr W5
  obtain ⟨T8, h8, ka8, X8, e8, E8, A8, Y8, st8⟩ := newPE (ad := "[J") X5 hx hZ (own_w hw 0 rfl) e5 (g := (mkF m 24 #[.val (.ref a1), .val (.long q1), .second, .val (.long q2), .second, .val (.long (-9223372036854775808 : Int64)), .second, .unset] [(.int (4 : Int32)), (.ref a1)])) rfl (hb hby d3_24) rfl (by decide) (cap := 4) (by decide) (by decide) (by decide) (by decide) (by decide)
  obtain ⟨b8, g8⟩ : ∃ z, z = h5.size := ⟨_, rfl⟩
  rw [← g8] at A8 Y8 st8
  refine OGo.via st8 ?_
  have K8 : Keep h0 h8 [a1] := K5.ext E8
  have lt_a1_b8 : a1 < b8 := Nat.lt_of_lt_of_le f9.lt (Nat.le_of_eq g8.symm)
  have lt_wN_b8 : wN < b8 := Nat.lt_of_lt_of_le f10.lt (Nat.le_of_eq g8.symm)
  have lt_b4_b8 : b4 < b8 := Nat.lt_of_lt_of_le f11.lt (Nat.le_of_eq g8.symm)
  have sz_b8 : h0.size ≤ b8 := Nat.le_trans K5.1 (Nat.le_of_eq g8.symm)
  have g_b8 : n0 ≤ b8 := Nat.le_trans Z0 sz_b8
  have V8 : Arv Z h8 b8 ka8 .long (4 : Int32) [(.long (0 : Int64)), (.long (0 : Int64)), (.long (0 : Int64)), (.long (0 : Int64))] (.long (0 : Int64)) := (Arv.new A8 (by decide)).pad (pad_rep [] (.long (0 : Int64)) 4)
  show OGo _ _ _ _ (T8.setTop (mkF m 26 #[.val (.ref a1), .val (.long q1), .second, .val (.long q2), .second, .val (.long (-9223372036854775808 : Int64)), .second, .unset] [(.ref b8), (.ref a1)]))
  have f13 := F_times_a1.ext E4
  have f14 := f13.other W5 (Or.inr (slot_ne (Or.inl (own_w hw 15 rfl)) (Or.inl (own_w hw 13 rfl)) (by decide) (t := (.array .long)) (t' := (.array .long)) (by decide) (by decide)))
  have f15 := f14.ext E8
  have f16 := f9.ext E8
  obtain ⟨T12, h12, X12, e12, W12, st12⟩ := putF X8 hx hZ hown (host := "") (Or.inl (own_w hw 14 rfl)) Via.refl e8 f15 f16 (Or.inl (own_w hw 15 rfl)) (own_w hw 2 rfl) (ty := (.array .long)) (by decide) rfl rfl (g := (mkF m 26 #[.val (.ref a1), .val (.long q1), .second, .val (.long q2), .second, .val (.long (-9223372036854775808 : Int64)), .second, .unset] [(.ref b8), (.ref a1)])) rfl rfl (hb hby d3_26)
  refine OGo.via st12 ?_
  have Fw12 := f15.same W12
  have K12 : Keep h0 h12 [a1] := K8.wr W12 (Or.inl (List.mem_of_getElem? (i := 0) rfl))
  have N12 := Fr.snoc X12 N5 g_a1
  show OGo _ _ _ _ (T12.setTop (mkF m 29 #[.val (.ref a1), .val (.long q1), .second, .val (.long q2), .second, .val (.long (-9223372036854775808 : Int64)), .second, .unset] []))
  refine OGo.via (fun _ k => XS.goto X12.here hx rfl (pc0 := 29) (pc' := 73) rfl (hb hby d3_29) (by decide) (by decide) (XS.aloadN X12.here hx rfl (hb hby d3_73) rfl rfl k)) ?_
  have f18 := F_first_a1.ext E4
  have f19 := f18.other W5 (Or.inr (slot_ne (Or.inl (own_w hw 31 rfl)) (Or.inl (own_w hw 13 rfl)) (by decide) (t := .int) (t' := (.array .long)) (by decide) (by decide)))
  have f20 := f19.ext E8
  have f21 := f20.other W12 (Or.inr (slot_ne (Or.inl (own_w hw 31 rfl)) (Or.inl (own_w hw 15 rfl)) (by decide) (t := .int) (t' := (.array .long)) (by decide) (by decide)))
  obtain ⟨T17, X17, e17, st17⟩ := getF X12 hx hZ hown (host := "") (Or.inl (own_w hw 30 rfl)) Via.refl e12 f21 (g := (mkF m 74 #[.val (.ref a1), .val (.long q1), .second, .val (.long q2), .second, .val (.long (-9223372036854775808 : Int64)), .second, .unset] [(.ref a1)])) rfl rfl (hb hby d3_74)
  refine OGo.via st17 ?_
  show OGo _ _ _ _ (T17.setTop (mkF m 77 #[.val (.ref a1), .val (.long q1), .second, .val (.long q2), .second, .val (.long (-9223372036854775808 : Int64)), .second, .unset] [(.int (0 : Int32))]))
  refine OGo.via (fun _ k => XS.aloadN X17.here hx rfl (hb hby d3_77) rfl rfl (XS.dup X17.here hx rfl (hb hby d3_78) rfl rfl k)) ?_
  have f23 := F_count_a1.ext E4
  have f24 := f23.other W5 (Or.inr (slot_ne (Or.inl (own_w hw 28 rfl)) (Or.inl (own_w hw 13 rfl)) (by decide) (t := .int) (t' := (.array .long)) (by decide) (by decide)))
  have f25 := f24.ext E8
  have f26 := f25.other W12 (Or.inr (slot_ne (Or.inl (own_w hw 28 rfl)) (Or.inl (own_w hw 15 rfl)) (by decide) (t := .int) (t' := (.array .long)) (by decide) (by decide)))
  obtain ⟨T22, X22, e22, st22⟩ := getF X17 hx hZ hown (host := "") (Or.inl (own_w hw 27 rfl)) Via.refl e17 f26 (g := (mkF m 79 #[.val (.ref a1), .val (.long q1), .second, .val (.long q2), .second, .val (.long (-9223372036854775808 : Int64)), .second, .unset] [(.ref a1), (.ref a1), (.int (0 : Int32))])) rfl rfl (hb hby d3_79)
  refine OGo.via st22 ?_
  show OGo _ _ _ _ (T22.setTop (mkF m 82 #[.val (.ref a1), .val (.long q1), .second, .val (.long q2), .second, .val (.long (-9223372036854775808 : Int64)), .second, .unset] [(.int (0 : Int32)), (.ref a1), (.int (0 : Int32))]))
  refine OGo.via (fun _ k => XS.dupX1 X22.here hx rfl (hb hby d3_82) rfl rfl rfl (XS.iconst X22.here hx rfl (hb hby d3_83) (XS.iadd X22.here hx rfl (hb hby d3_84) rfl k))) ?_
  show OGo _ _ _ _ (T22.setTop (mkF m 85 #[.val (.ref a1), .val (.long q1), .second, .val (.long q2), .second, .val (.long (-9223372036854775808 : Int64)), .second, .unset] [(.int ((0 : Int32) + (1 : Int32))), (.ref a1), (.int (0 : Int32)), (.int (0 : Int32))]))
  rw [show ((0 : Int32) + (1 : Int32)) = (1 : Int32) from by decide]
  have f29 := f16.wr W12
  obtain ⟨T28, h28, X28, e28, W28, st28⟩ := putF X22 hx hZ hown (host := "") (Or.inl (own_w hw 27 rfl)) Via.refl e22 f26 f29 (Or.inl (own_w hw 28 rfl)) (own_w hw 2 rfl) (ty := .int) (by decide) rfl rfl (g := (mkF m 85 #[.val (.ref a1), .val (.long q1), .second, .val (.long q2), .second, .val (.long (-9223372036854775808 : Int64)), .second, .unset] [(.int (1 : Int32)), (.ref a1), (.int (0 : Int32)), (.int (0 : Int32))])) rfl rfl (hb hby d3_85)
  refine OGo.via st28 ?_
  have Fw28 := f26.same W28
  have K28 : Keep h0 h28 [a1] := K12.wr W28 (Or.inl (List.mem_of_getElem? (i := 0) rfl))
  have N28 := Fr.snoc X28 N12 g_a1
  show OGo _ _ _ _ (T28.setTop (mkF m 88 #[.val (.ref a1), .val (.long q1), .second, .val (.long q2), .second, .val (.long (-9223372036854775808 : Int64)), .second, .unset] [(.int (0 : Int32)), (.int (0 : Int32))]))
  refine OGo.via (fun _ k => XS.iadd X28.here hx rfl (hb hby d3_88) rfl k) ?_
  show OGo _ _ _ _ (T28.setTop (mkF m 89 #[.val (.ref a1), .val (.long q1), .second, .val (.long q2), .second, .val (.long (-9223372036854775808 : Int64)), .second, .unset] [(.int ((0 : Int32) + (0 : Int32)))]))
  rw [show ((0 : Int32) + (0 : Int32)) = (0 : Int32) from by decide]
  refine OGo.via (fun _ k => XS.aloadN X28.here hx rfl (hb hby d3_89) rfl rfl k) ?_
  have f32 := Fw5.ext E8
  have f33 := f32.other W12 (Or.inr (slot_ne (Or.inl (own_w hw 13 rfl)) (Or.inl (own_w hw 15 rfl)) (by decide) (t := (.array .long)) (t' := (.array .long)) (by decide) (by decide)))
  have f34 := f33.other W28 (Or.inr (slot_ne (Or.inl (own_w hw 13 rfl)) (Or.inl (own_w hw 28 rfl)) (by decide) (t := (.array .long)) (t' := .int) (by decide) (by decide)))
  obtain ⟨T31, X31, e31, st31⟩ := getF X28 hx hZ hown (host := "") (Or.inl (own_w hw 12 rfl)) Via.refl e28 f34 (g := (mkF m 90 #[.val (.ref a1), .val (.long q1), .second, .val (.long q2), .second, .val (.long (-9223372036854775808 : Int64)), .second, .unset] [(.ref a1), (.int (0 : Int32))])) rfl rfl (hb hby d3_90)
  refine OGo.via st31 ?_
  show OGo _ _ _ _ (T31.setTop (mkF m 93 #[.val (.ref a1), .val (.long q1), .second, .val (.long q2), .second, .val (.long (-9223372036854775808 : Int64)), .second, .unset] [(.ref b4), (.int (0 : Int32))]))
  have f36 := V4.other W5 (Nat.ne_of_gt lt_a1_b4)
  have f37 := f36.ext E8
  have f38 := f37.other W12 (Nat.ne_of_gt lt_a1_b4)
  have f39 := f38.other W28 (Nat.ne_of_gt lt_a1_b4)
  obtain ⟨cl35, Ar35, q35, Sz35, Ng35, Hs35, Gf35⟩ := id f39
  refine OGo.via (X31.arraylength hx (by rw [e31]; exact Ar35.1) (State.isArrayOf_alike hZ.alike Ar35.2.1) (g := (mkF m 93 #[.val (.ref a1), .val (.long q1), .second, .val (.long q2), .second, .val (.long (-9223372036854775808 : Int64)), .second, .unset] [(.ref b4), (.int (0 : Int32))])) rfl rfl (hb hby d3_93)) ?_
  rw [len_of Sz35 Ng35]
  show OGo _ _ _ _ (T31.setTop (mkF m 94 #[.val (.ref a1), .val (.long q1), .second, .val (.long q2), .second, .val (.long (-9223372036854775808 : Int64)), .second, .unset] [(.int (4 : Int32)), (.int (0 : Int32))]))
  refine OGo.via (fun _ k => XS.iconst X31.here hx rfl (hb hby d3_94) (XS.isub X31.here hx rfl (hb hby d3_95) rfl k)) ?_
  show OGo _ _ _ _ (T31.setTop (mkF m 96 #[.val (.ref a1), .val (.long q1), .second, .val (.long q2), .second, .val (.long (-9223372036854775808 : Int64)), .second, .unset] [(.int ((4 : Int32) - (1 : Int32))), (.int (0 : Int32))]))
  rw [show ((4 : Int32) - (1 : Int32)) = (3 : Int32) from by decide]
  refine OGo.via (fun _ k => XS.iand X31.here hx rfl (hb hby d3_96) rfl k) ?_
  show OGo _ _ _ _ (T31.setTop (mkF m 97 #[.val (.ref a1), .val (.long q1), .second, .val (.long q2), .second, .val (.long (-9223372036854775808 : Int64)), .second, .unset] [(.int ((0 : Int32) &&& (3 : Int32)))]))
  rw [show ((0 : Int32) &&& (3 : Int32)) = (0 : Int32) from by decide]
  refine OGo.via (fun _ k => XS.istore X31.here hx rfl (hb hby d3_97) rfl (l' := #[.val (.ref a1), .val (.long q1), .second, .val (.long q2), .second, .val (.long (-9223372036854775808 : Int64)), .second, .val (.int (0 : Int32))]) rfl (XS.aloadN X31.here hx rfl (hb hby d3_99) rfl rfl k)) ?_
  obtain ⟨T42, X42, e42, st42⟩ := getF X31 hx hZ hown (host := "") (Or.inl (own_w hw 12 rfl)) Via.refl e31 f34 (g := (mkF m 100 #[.val (.ref a1), .val (.long q1), .second, .val (.long q2), .second, .val (.long (-9223372036854775808 : Int64)), .second, .val (.int (0 : Int32))] [(.ref a1)])) rfl rfl (hb hby d3_100)
  refine OGo.via st42 ?_
  show OGo _ _ _ _ (T42.setTop (mkF m 103 #[.val (.ref a1), .val (.long q1), .second, .val (.long q2), .second, .val (.long (-9223372036854775808 : Int64)), .second, .val (.int (0 : Int32))] [(.ref b4)]))
  refine OGo.via (fun _ k => XS.iload X42.here hx rfl (hb hby d3_103) rfl (XS.lloadN X42.here hx rfl (hb hby d3_105) rfl k)) ?_
  obtain ⟨cl43, Ar43, q43, Sz43, Ng43, Hs43, Gf43⟩ := id f39
  have hin43 : ¬ ((0 : Int32) < 0 ∨ cl43.slots.size ≤ ((0 : Int32)).toNatClampNeg) := inb_of Sz43 ⟨by decide, by decide⟩
  obtain ⟨T43, h43, X43, e43, W43, st43⟩ := stJ X42 hx hZ e42 Ar43 (j := (0 : Int32)) hin43 (g := (mkF m 106 #[.val (.ref a1), .val (.long q1), .second, .val (.long q2), .second, .val (.long (-9223372036854775808 : Int64)), .second, .val (.int (0 : Int32))] [(.long q1), (.int (0 : Int32)), (.ref b4)])) rfl rfl (hb hby d3_106)
  refine OGo.via st43 ?_
  have V43 : Arv Z h43 b4 ka4 .long (4 : Int32) [(.long q1), (.long (0 : Int64)), (.long (0 : Int64)), (.long (0 : Int64))] (.long (0 : Int64)) := Arv.set Ar43 q43 Sz43 Ng43 Hs43 Gf43 rfl W43 0 rfl (Nat.le_of_ble_eq_true rfl)
  have K43 : Keep h0 h43 [a1] := K28.wr W43 (Or.inr sz_b4)
  have N43 := Fr.snoc X43 N28 g_b4
  show OGo _ _ _ _ (T43.setTop (mkF m 107 #[.val (.ref a1), .val (.long q1), .second, .val (.long q2), .second, .val (.long (-9223372036854775808 : Int64)), .second, .val (.int (0 : Int32))] []))
  refine OGo.via (fun _ k => XS.aloadN X43.here hx rfl (hb hby d3_107) rfl rfl k) ?_
  have f45 := Fw12.other W28 (Or.inr (slot_ne (Or.inl (own_w hw 15 rfl)) (Or.inl (own_w hw 28 rfl)) (by decide) (t := (.array .long)) (t' := .int) (by decide) (by decide)))
  have f46 := f45.other W43 (Or.inl (Nat.ne_of_lt lt_a1_b4))
  obtain ⟨T44, X44, e44, st44⟩ := getF X43 hx hZ hown (host := "") (Or.inl (own_w hw 14 rfl)) Via.refl e43 f46 (g := (mkF m 108 #[.val (.ref a1), .val (.long q1), .second, .val (.long q2), .second, .val (.long (-9223372036854775808 : Int64)), .second, .val (.int (0 : Int32))] [(.ref a1)])) rfl rfl (hb hby d3_108)
  refine OGo.via st44 ?_
  show OGo _ _ _ _ (T44.setTop (mkF m 111 #[.val (.ref a1), .val (.long q1), .second, .val (.long q2), .second, .val (.long (-9223372036854775808 : Int64)), .second, .val (.int (0 : Int32))] [(.ref b8)]))
  refine OGo.via (fun _ k => XS.iload X44.here hx rfl (hb hby d3_111) rfl (XS.lloadN X44.here hx rfl (hb hby d3_113) rfl k)) ?_
  have f48 := V8.other W12 (Nat.ne_of_gt lt_a1_b8)
  have f49 := f48.other W28 (Nat.ne_of_gt lt_a1_b8)
  have f50 := f49.other W43 (Nat.ne_of_gt lt_b4_b8)
  obtain ⟨cl47, Ar47, q47, Sz47, Ng47, Hs47, Gf47⟩ := id f50
  have hin47 : ¬ ((0 : Int32) < 0 ∨ cl47.slots.size ≤ ((0 : Int32)).toNatClampNeg) := inb_of Sz47 ⟨by decide, by decide⟩
  obtain ⟨T47, h47, X47, e47, W47, st47⟩ := stJ X44 hx hZ e44 Ar47 (j := (0 : Int32)) hin47 (g := (mkF m 114 #[.val (.ref a1), .val (.long q1), .second, .val (.long q2), .second, .val (.long (-9223372036854775808 : Int64)), .second, .val (.int (0 : Int32))] [(.long q2), (.int (0 : Int32)), (.ref b8)])) rfl rfl (hb hby d3_114)
  refine OGo.via st47 ?_
  have V47 : Arv Z h47 b8 ka8 .long (4 : Int32) [(.long q2), (.long (0 : Int64)), (.long (0 : Int64)), (.long (0 : Int64))] (.long (0 : Int64)) := Arv.set Ar47 q47 Sz47 Ng47 Hs47 Gf47 rfl W47 0 rfl (Nat.le_of_ble_eq_true rfl)
  have K47 : Keep h0 h47 [a1] := K43.wr W47 (Or.inr sz_b8)
  have N47 := Fr.snoc X47 N43 g_b8
  show OGo _ _ _ _ (T47.setTop (mkF m 115 #[.val (.ref a1), .val (.long q1), .second, .val (.long q2), .second, .val (.long (-9223372036854775808 : Int64)), .second, .val (.int (0 : Int32))] []))
  refine OGo.via (fun _ k => XS.aloadN X47.here hx rfl (hb hby d3_115) rfl rfl (XS.dup X47.here hx rfl (hb hby d3_116) rfl rfl k)) ?_
  have f52 := F_befores_a1.ext E4
  have f53 := f52.other W5 (Or.inr (slot_ne (Or.inl (own_w hw 33 rfl)) (Or.inl (own_w hw 13 rfl)) (by decide) (t := .long) (t' := (.array .long)) (by decide) (by decide)))
  have f54 := f53.ext E8
  have f55 := f54.other W12 (Or.inr (slot_ne (Or.inl (own_w hw 33 rfl)) (Or.inl (own_w hw 15 rfl)) (by decide) (t := .long) (t' := (.array .long)) (by decide) (by decide)))
  have f56 := f55.other W28 (Or.inr (slot_ne (Or.inl (own_w hw 33 rfl)) (Or.inl (own_w hw 28 rfl)) (by decide) (t := .long) (t' := .int) (by decide) (by decide)))
  have f57 := f56.other W43 (Or.inl (Nat.ne_of_lt lt_a1_b4))
  have f58 := f57.other W47 (Or.inl (Nat.ne_of_lt lt_a1_b8))
  obtain ⟨T51, X51, e51, st51⟩ := getF X47 hx hZ hown (host := "") (Or.inl (own_w hw 32 rfl)) Via.refl e47 f58 (g := (mkF m 117 #[.val (.ref a1), .val (.long q1), .second, .val (.long q2), .second, .val (.long (-9223372036854775808 : Int64)), .second, .val (.int (0 : Int32))] [(.ref a1), (.ref a1)])) rfl rfl (hb hby d3_117)
  refine OGo.via st51 ?_
  show OGo _ _ _ _ (T51.setTop (mkF m 120 #[.val (.ref a1), .val (.long q1), .second, .val (.long q2), .second, .val (.long (-9223372036854775808 : Int64)), .second, .val (.int (0 : Int32))] [(.long (0 : Int64)), (.ref a1)]))
  refine OGo.via (fun _ k => XS.lconst X51.here hx rfl (hb hby d3_120) (XS.ladd X51.here hx rfl (hb hby d3_121) rfl k)) ?_
  show OGo _ _ _ _ (T51.setTop (mkF m 122 #[.val (.ref a1), .val (.long q1), .second, .val (.long q2), .second, .val (.long (-9223372036854775808 : Int64)), .second, .val (.int (0 : Int32))] [(.long ((0 : Int64) + (1 : Int64))), (.ref a1)]))
  rw [show ((0 : Int64) + (1 : Int64)) = (1 : Int64) from by decide]
  have f61 := f29.wr W28
  have f62 := f61.wr W43
  have f63 := f62.wr W47
  obtain ⟨T60, h60, X60, e60, W60, st60⟩ := putF X51 hx hZ hown (host := "") (Or.inl (own_w hw 32 rfl)) Via.refl e51 f58 f63 (Or.inl (own_w hw 33 rfl)) (own_w hw 2 rfl) (ty := .long) (by decide) rfl rfl (g := (mkF m 122 #[.val (.ref a1), .val (.long q1), .second, .val (.long q2), .second, .val (.long (-9223372036854775808 : Int64)), .second, .val (.int (0 : Int32))] [(.long (1 : Int64)), (.ref a1)])) rfl rfl (hb hby d3_122)
  refine OGo.via st60 ?_
  have Fw60 := f58.same W60
  have K60 : Keep h0 h60 [a1] := K47.wr W60 (Or.inl (List.mem_of_getElem? (i := 0) rfl))
  have N60 := Fr.snoc X60 N47 g_a1
  show OGo _ _ _ _ (T60.setTop (mkF m 125 #[.val (.ref a1), .val (.long q1), .second, .val (.long q2), .second, .val (.long (-9223372036854775808 : Int64)), .second, .val (.int (0 : Int32))] []))
  show OGo _ _ _ _ (T60.setTop (mkF m 125 #[.val (.ref a1), .val (.long q1), .second, .val (.long q2), .second, .val (.long (-9223372036854775808 : Int64)), .second, .val (.int (0 : Int32))] []))
  have f64 := f63.wr W60
  have f65 := f34.other W43 (Or.inl (Nat.ne_of_lt lt_a1_b4))
  have f66 := f65.other W47 (Or.inl (Nat.ne_of_lt lt_a1_b8))
  have f67 := f66.other W60 (Or.inr (slot_ne (Or.inl (own_w hw 13 rfl)) (Or.inl (own_w hw 33 rfl)) (by decide) (t := (.array .long)) (t' := .long) (by decide) (by decide)))
  have f68 := f46.other W47 (Or.inl (Nat.ne_of_lt lt_a1_b8))
  have f69 := f68.other W60 (Or.inr (slot_ne (Or.inl (own_w hw 15 rfl)) (Or.inl (own_w hw 33 rfl)) (by decide) (t := (.array .long)) (t' := .long) (by decide) (by decide)))
  have f70 := f21.other W28 (Or.inr (slot_ne (Or.inl (own_w hw 31 rfl)) (Or.inl (own_w hw 28 rfl)) (by decide) (t := .int) (t' := .int) (by decide) (by decide)))
  have f71 := f70.other W43 (Or.inl (Nat.ne_of_lt lt_a1_b4))
  have f72 := f71.other W47 (Or.inl (Nat.ne_of_lt lt_a1_b8))
  have f73 := f72.other W60 (Or.inr (slot_ne (Or.inl (own_w hw 31 rfl)) (Or.inl (own_w hw 33 rfl)) (by decide) (t := .int) (t' := .long) (by decide) (by decide)))
  have f74 := Fw28.other W43 (Or.inl (Nat.ne_of_lt lt_a1_b4))
  have f75 := f74.other W47 (Or.inl (Nat.ne_of_lt lt_a1_b8))
  have f76 := f75.other W60 (Or.inr (slot_ne (Or.inl (own_w hw 28 rfl)) (Or.inl (own_w hw 33 rfl)) (by decide) (t := .int) (t' := .long) (by decide) (by decide)))
  have f77 := V43.other W47 (Nat.ne_of_lt lt_b4_b8)
  have f78 := f77.other W60 (Nat.ne_of_gt lt_a1_b4)
  have f79 := V47.other W60 (Nat.ne_of_gt lt_a1_b8)
  refine own_retV X60 hx Bd.notSynchronized Bd.returns (hb hby d3_125) (by decide) (by decide) ?_
  show Q_rm3n Z _ _ _ _ _ h0 n0 _ T60.heap _
  rw [e60]
  exact ⟨b4, b8, ka4, ka8, rfl, N60, K60, sz_b4, sz_b8, lt_b4_b8, f64, f67, f69, f73, f76, Fw60, f78, f79⟩
theorem d3_44 : decode prog_122_method_2_code 44 = .ok (.aload_n 0, 1) := by decide +kernel
theorem d3_45 : decode prog_122_method_2_code 45 = .ok (.aload_n 0, 1) := by decide +kernel
theorem d3_46 : decode prog_122_method_2_code 46 = .ok (.aload_n 0, 1) := by decide +kernel
theorem d3_47 : decode prog_122_method_2_code 47 = .ok (.getfield 13, 3) := by decide +kernel
theorem d3_50 : decode prog_122_method_2_code 50 = .ok (.invokevirtual 27, 3) := by decide +kernel
theorem pd_3 : parseMethodDescriptor "([J)[J" = some ⟨[(.array .long)], some (.array .long)⟩ := by decide +kernel
theorem d3_53 : decode prog_122_method_2_code 53 = .ok (.putfield 13, 3) := by decide +kernel
theorem d3_56 : decode prog_122_method_2_code 56 = .ok (.aload_n 0, 1) := by decide +kernel
theorem d3_57 : decode prog_122_method_2_code 57 = .ok (.aload_n 0, 1) := by decide +kernel
theorem d3_58 : decode prog_122_method_2_code 58 = .ok (.aload_n 0, 1) := by decide +kernel
theorem d3_59 : decode prog_122_method_2_code 59 = .ok (.getfield 16, 3) := by decide +kernel
theorem d3_62 : decode prog_122_method_2_code 62 = .ok (.invokevirtual 27, 3) := by decide +kernel
theorem d3_65 : decode prog_122_method_2_code 65 = .ok (.putfield 16, 3) := by decide +kernel
theorem d3_68 : decode prog_122_method_2_code 68 = .ok (.aload_n 0, 1) := by decide +kernel
theorem d3_69 : decode prog_122_method_2_code 69 = .ok (.iconst 0, 1) := by decide +kernel
theorem d3_70 : decode prog_122_method_2_code 70 = .ok (.putfield 31, 3) := by decide +kernel
theorem ef_rm3g (m : MethodId) (a1 : Addr) (q1 : Int64) (q2 : Int64) : entryFrame m #[(.ref a1), (.long q1), (.long q2), (.long (-9223372036854775808 : Int64))] 8 = mkF m 0 #[.val (.ref a1), .val (.long q1), .second, .val (.long q2), .second, .val (.long (-9223372036854775808 : Int64)), .second, .unset] [] := by first | (simp [entryFrame, mkF, argsToLocals, Value.category]; done) | rfl
def Q_rm3g (Z : State) (a1 : Addr) (q1 : Int64) (q2 : Int64) (pa : Addr) (ta : Addr) (kp : ClassId) (kt : ClassId) (bf : Int64) (x0 : Int64) (x1 : Int64) (x2 : Int64) (x3 : Int64) (y0 : Int64) (y1 : Int64) (y2 : Int64) (y3 : Int64) (h0 : Heap) (n0 : Nat) (v : Option Value) (h : Heap) (L : List Loc) : Prop := ∃ pb : Addr, ∃ tb : Addr, ∃ kq : ClassId, ∃ ku : ClassId, v = none ∧ Fr n0 L ∧ Keep h0 h [a1] ∧ h0.size ≤ pb ∧ h0.size ≤ tb ∧ (pb < tb) ∧ Exa Z h a1 "com/example/eventloom/eventloom/engine/Forbidden" ∧ Fld Z h a1 "com/example/eventloom/eventloom/engine/Forbidden" "positions" "[J" (.ref pb) ∧ Fld Z h a1 "com/example/eventloom/eventloom/engine/Forbidden" "times" "[J" (.ref tb) ∧ Fld Z h a1 "com/example/eventloom/eventloom/engine/Forbidden" "first" "I" (.int (0 : Int32)) ∧ Fld Z h a1 "com/example/eventloom/eventloom/engine/Forbidden" "count" "I" (.int (5 : Int32)) ∧ Fld Z h a1 "com/example/eventloom/eventloom/engine/Forbidden" "befores" "J" (.long (bf + (1 : Int64))) ∧ Arv Z h pb kq .long (8 : Int32) [(.long x0), (.long x1), (.long x2), (.long x3), (.long q1), (.long (0 : Int64)), (.long (0 : Int64)), (.long (0 : Int64))] (.long (0 : Int64)) ∧ Arv Z h tb ku .long (8 : Int32) [(.long y0), (.long y1), (.long y2), (.long y3), (.long q2), (.long (0 : Int64)), (.long (0 : Int64)), (.long (0 : Int64))] (.long (0 : Int64))
set_option maxRecDepth 65536 in
set_option maxHeartbeats 40000000 in
theorem rm3g (l : Launch) (Z : State) (a0 : Array Value) (hw : ∀ d ∈ tables_1, d.before a0 Z = true) (ws : List Jvm.Cond) (a1 : Addr) (q1 : Int64) (q2 : Int64) (pa : Addr) (ta : Addr) (kp : ClassId) (kt : ClassId) (bf : Int64) (x0 : Int64) (x1 : Int64) (x2 : Int64) (x3 : Int64) (y0 : Int64) (y1 : Int64) (y2 : Int64) (y3 : Int64) (h0 : Heap) (n0 : Nat) (Z0 : n0 ≤ h0.size) (E_a1 : Exa Z h0 a1 "com/example/eventloom/eventloom/engine/Forbidden") (F_positions_a1 : Fld Z h0 a1 "com/example/eventloom/eventloom/engine/Forbidden" "positions" "[J" (.ref pa)) (F_times_a1 : Fld Z h0 a1 "com/example/eventloom/eventloom/engine/Forbidden" "times" "[J" (.ref ta)) (F_first_a1 : Fld Z h0 a1 "com/example/eventloom/eventloom/engine/Forbidden" "first" "I" (.int (0 : Int32))) (F_count_a1 : Fld Z h0 a1 "com/example/eventloom/eventloom/engine/Forbidden" "count" "I" (.int (4 : Int32))) (F_befores_a1 : Fld Z h0 a1 "com/example/eventloom/eventloom/engine/Forbidden" "befores" "J" (.long bf)) (V_pa : Arv Z h0 pa kp .long (4 : Int32) [(.long x0), (.long x1), (.long x2), (.long x3)] (.long (0 : Int64))) (V_ta : Arv Z h0 ta kt .long (4 : Int32) [(.long y0), (.long y1), (.long y2), (.long y3)] (.long (0 : Int64))) (ne_a1_pa : a1 ≠ pa) (ne_a1_ta : a1 ≠ ta) (ne_pa_ta : pa ≠ ta) (g_a1 : n0 ≤ a1) :
    MetFree l own_y5 (head1 (Jvm.Cond.code own_y5 prog_122_method_2_code 8 none :: ws) ({ frames := 3, cells := 2, slots := 16, locals := 47 } : Room)) (fun a U => a = #[(.ref a1), (.long q1), (.long q2), (.long (-9223372036854775808 : Int64))] ∧ Z.Warmed39 U.vm ∧ U.heap = h0) (fun _ _ _ _ _ => True) (fun _ U o U' => ∃ v L, o = .returned v ∧ Q_rm3g Z a1 q1 q2 pa ta kp kt bf x0 x1 x2 x3 y0 y1 y2 y3 h0 n0 v U'.heap L ∧ FrameEnd U o U' L ({ frames := 3, cells := 2, slots := 16, locals := 47 } : Room).cells ({ frames := 3, cells := 2, slots := 16, locals := 47 } : Room).slots) := by
  refine MetFree.of_bodySF (plainFor_of_name pn_Forbidden) hisR ?_
  intro p e s m args below meth c s₁ Bd hml0 hP hK
  obtain ⟨rfl, hZ, hh⟩ := hP
  have hx := Bd.exec
  have hby := Bd.bytes
  have hml : c.maxLocals = 8 := hml0
  have hown : s.vm.findClass "com/example/eventloom/eventloom/engine/Forbidden" = some m.cls := findClass_of_methodNamed Bd.named
  have hnm := (name_of_methodNamed Bd.named Bd.method).1
  have X0 : Stand p l e ({ frames := 3, cells := 2, slots := 16, locals := 47 } : Room) s m #[(.ref a1), (.long q1), (.long q2), (.long (-9223372036854775808 : Int64))] below meth c s₁ [] 0 0 := Stand.of_body Bd
  have e0 : s₁.heap = h0 := by rw [← hh, Bd.state]; rfl
  have N0 := Fr.nil n0
  show OGo p.tables e below (own_Kq s (fun v h L => Q_rm3g Z a1 q1 q2 pa ta kp kt bf x0 x1 x2 x3 y0 y1 y2 y3 h0 n0 v h L) ({ frames := 3, cells := 2, slots := 16, locals := 47 } : Room).cells ({ frames := 3, cells := 2, slots := 16, locals := 47 } : Room).slots) (s₁.setTop (entryFrame m #[(.ref a1), (.long q1), (.long q2), (.long (-9223372036854775808 : Int64))] 8))
  refine OGo.cast (ef_rm3g m a1 q1 q2) ?_
  show OGo _ _ _ _ (s₁.setTop (mkF m 0 #[.val (.ref a1), .val (.long q1), .second, .val (.long q2), .second, .val (.long (-9223372036854775808 : Int64)), .second, .unset] []))
  refine OGo.via (fun _ k => XS.aloadN X0.here hx rfl (hb hby d3_0) rfl rfl (XS.lload X0.here hx rfl (hb hby d3_1) rfl k)) ?_
  obtain ⟨cq1, kq1, q1a, q1b, q1c⟩ := isOf hZ e0 E_a1
  obtain ⟨_, T1, Lc1, X1, hQ1, st1⟩ := own_open X0 (X0.virtualBack hx (y := own_y4) (z := own_y4) hown (mvT hZ (own_w hw 22 rfl)) (mvT hZ (own_w hw 23 rfl)) (notFace_of_selects (args := #[]) (mvT hZ (own_w hw 25 rfl))) (mvT hZ (own_w hw 25 rfl)) (mvT hZ (own_w hw 24 rfl)) (by decide) (backOf (W := 0) (rm4p l Z a0 hw [] a1 (-9223372036854775808 : Int64) (4 : Int32) (0 : Int32) (4 : Int32) pa ta kp kt [(.long x0), (.long x1), (.long x2), (.long x3)] [(.long y0), (.long y1), (.long y2), (.long y3)] y0 x0 h0 n0 Z0 F_count_a1 F_first_a1 F_positions_a1 F_times_a1 V_pa V_ta (by decide) (by decide) ⟨by decide, by decide⟩ rfl rfl (own_min _)) hZ (own_w hw 26 rfl) (own_w hw 3 rfl) (by decide) (by decide)) q1a q1c (g := (mkF m 3 #[.val (.ref a1), .val (.long q1), .second, .val (.long q2), .second, .val (.long (-9223372036854775808 : Int64)), .second, .unset] [(.long (-9223372036854775808 : Int64)), (.ref a1)])) rfl (by rw [hml]; rfl) (Steps.refl _) (argsL := [(.long (-9223372036854775808 : Int64))]) (rest := []) (lenOf pd_2 rfl) rfl (by show 2 * 0 + _ ≤ _; exact Nat.le_of_eq rfl) (hb hby d3_3) (fun _ _ => ⟨rfl, e0, (by decide : 0 + 0 ≤ _), (by decide : 0 + 0 ≤ _)⟩))
  obtain ⟨rfl, N1q, r1_0⟩ := hQ1
  have N1 := Fr.app N0 N1q
  refine OGo.via (fun _ k => st1.trans k) ?_
  show OGo _ _ _ _ (T1.setTop (mkF m 6 #[.val (.ref a1), .val (.long q1), .second, .val (.long q2), .second, .val (.long (-9223372036854775808 : Int64)), .second, .unset] [(.long x0)]))
  refine OGo.via (fun _ k => own_pop2L X1.here hx rfl (hb hby d3_6) rfl (XS.aloadN X1.here hx rfl (hb hby d3_7) rfl rfl k)) ?_
  obtain ⟨T2, X2, e2, st2⟩ := getF X1 hx hZ hown (host := "") (Or.inl (own_w hw 12 rfl)) Via.refl r1_0 F_positions_a1 (g := (mkF m 8 #[.val (.ref a1), .val (.long q1), .second, .val (.long q2), .second, .val (.long (-9223372036854775808 : Int64)), .second, .unset] [(.ref a1)])) rfl rfl (hb hby d3_8)
  refine OGo.via st2 ?_
  show OGo _ _ _ _ (T2.setTop (mkF m 11 #[.val (.ref a1), .val (.long q1), .second, .val (.long q2), .second, .val (.long (-9223372036854775808 : Int64)), .second, .unset] [(.ref pa)]))
  obtain ⟨cl3, Ar3, q3, Sz3, Ng3, Hs3, Gf3⟩ := id V_pa
  refine OGo.via (X2.arraylength hx (by rw [e2]; exact Ar3.1) (State.isArrayOf_alike hZ.alike Ar3.2.1) (g := (mkF m 11 #[.val (.ref a1), .val (.long q1), .second, .val (.long q2), .second, .val (.long (-9223372036854775808 : Int64)), .second, .unset] [(.ref pa)])) rfl rfl (hb hby d3_11)) ?_
  rw [len_of Sz3 Ng3]
  show OGo _ _ _ _ (T2.setTop (mkF m 12 #[.val (.ref a1), .val (.long q1), .second, .val (.long q2), .second, .val (.long (-9223372036854775808 : Int64)), .second, .unset] [(.int (4 : Int32))]))
  refine OGo.via (fun _ k => XS.ifYes X2.here hx rfl (pc0 := 12) (pc' := 32) rfl (hb hby d3_12) rfl ((if0 _ _).trans (feq (by decide : ¬ ((4 : Int32) = (0 : Int32)))).2) (by decide) (by decide) k) ?_
  show OGo _ _ _ _ (T2.setTop (mkF m 32 #[.val (.ref a1), .val (.long q1), .second, .val (.long q2), .second, .val (.long (-9223372036854775808 : Int64)), .second, .unset] []))
  refine OGo.via (fun _ k => XS.aloadN X2.here hx rfl (hb hby d3_32) rfl rfl k) ?_
  obtain ⟨T4, X4, e4, st4⟩ := getF X2 hx hZ hown (host := "") (Or.inl (own_w hw 27 rfl)) Via.refl e2 F_count_a1 (g := (mkF m 33 #[.val (.ref a1), .val (.long q1), .second, .val (.long q2), .second, .val (.long (-9223372036854775808 : Int64)), .second, .unset] [(.ref a1)])) rfl rfl (hb hby d3_33)
  refine OGo.via st4 ?_
  show OGo _ _ _ _ (T4.setTop (mkF m 36 #[.val (.ref a1), .val (.long q1), .second, .val (.long q2), .second, .val (.long (-9223372036854775808 : Int64)), .second, .unset] [(.int (4 : Int32))]))
  refine OGo.via (fun _ k => XS.aloadN X4.here hx rfl (hb hby d3_36) rfl rfl k) ?_
  obtain ⟨T5, X5, e5, st5⟩ := getF X4 hx hZ hown (host := "") (Or.inl (own_w hw 12 rfl)) Via.refl e4 F_positions_a1 (g := (mkF m 37 #[.val (.ref a1), .val (.long q1), .second, .val (.long q2), .second, .val (.long (-9223372036854775808 : Int64)), .second, .unset] [(.ref a1), (.int (4 : Int32))])) rfl rfl (hb hby d3_37)
  refine OGo.via st5 ?_
  show OGo _ _ _ _ (T5.setTop (mkF m 40 #[.val (.ref a1), .val (.long q1), .second, .val (.long q2), .second, .val (.long (-9223372036854775808 : Int64)), .second, .unset] [(.ref pa), (.int (4 : Int32))]))
  obtain ⟨cl6, Ar6, q6, Sz6, Ng6, Hs6, Gf6⟩ := id V_pa
  refine OGo.via (X5.arraylength hx (by rw [e5]; exact Ar6.1) (State.isArrayOf_alike hZ.alike Ar6.2.1) (g := (mkF m 40 #[.val (.ref a1), .val (.long q1), .second, .val (.long q2), .second, .val (.long (-9223372036854775808 : Int64)), .second, .unset] [(.ref pa), (.int (4 : Int32))])) rfl rfl (hb hby d3_40)) ?_
  rw [len_of Sz6 Ng6]
  show OGo _ _ _ _ (T5.setTop (mkF m 41 #[.val (.ref a1), .val (.long q1), .second, .val (.long q2), .second, .val (.long (-9223372036854775808 : Int64)), .second, .unset] [(.int (4 : Int32)), (.int (4 : Int32))]))
  refine OGo.via (fun _ k => XS.icmpNo X5.here hx rfl (hb hby d3_41) rfl (teq (by decide : (4 : Int32) = (4 : Int32))).2 k) ?_
  show OGo _ _ _ _ (T5.setTop (mkF m 44 #[.val (.ref a1), .val (.long q1), .second, .val (.long q2), .second, .val (.long (-9223372036854775808 : Int64)), .second, .unset] []))
  refine OGo.via (fun _ k => XS.aloadN X5.here hx rfl (hb hby d3_44) rfl rfl (XS.aloadN X5.here hx rfl (hb hby d3_45) rfl rfl (XS.aloadN X5.here hx rfl (hb hby d3_46) rfl rfl k))) ?_
  obtain ⟨T7, X7, e7, st7⟩ := getF X5 hx hZ hown (host := "") (Or.inl (own_w hw 12 rfl)) Via.refl e5 F_positions_a1 (g := (mkF m 47 #[.val (.ref a1), .val (.long q1), .second, .val (.long q2), .second, .val (.long (-9223372036854775808 : Int64)), .second, .unset] [(.ref a1), (.ref a1), (.ref a1)])) rfl rfl (hb hby d3_47)
  refine OGo.via st7 ?_
  show OGo _ _ _ _ (T7.setTop (mkF m 50 #[.val (.ref a1), .val (.long q1), .second, .val (.long q2), .second, .val (.long (-9223372036854775808 : Int64)), .second, .unset] [(.ref pa), (.ref a1), (.ref a1)]))
  obtain ⟨cq8, q8, q8'⟩ := E_a1.cell
  obtain ⟨_, T8, Lc8, X8, hQ8, st8⟩ := own_open X7 (X7.privateBack hx (y := own_y3) hown (mvT hZ (own_w hw 43 rfl)) (mvT hZ (own_w hw 44 rfl)) (own_selPriv (mvT hZ (own_w hw 20 rfl)) rfl (Cond.privateMethod_at (mvP hZ (own_w hw 45 rfl) (args := #[]))) (mvT hZ (own_w hw 44 rfl)) (by decide)) (Cond.privateMethod_at (mvP hZ (own_w hw 45 rfl) (args := #[]))) (mvT hZ (own_w hw 46 rfl)) (by decide) (backOf (W := 1) (rm6 l Z a0 hw [] a1 pa kp x0 x1 x2 x3 h0 n0 Z0 F_first_a1 V_pa) hZ (own_w hw 46 rfl) (own_w hw 3 rfl) (by decide) (by decide)) (g := (mkF m 50 #[.val (.ref a1), .val (.long q1), .second, .val (.long q2), .second, .val (.long (-9223372036854775808 : Int64)), .second, .unset] [(.ref pa), (.ref a1), (.ref a1)])) rfl (by rw [hml]; rfl) (Steps.refl _) (a := a1) (by rw [e7]; exact q8) q8' (argsL := [(.ref pa)]) (rest := [(.ref a1)]) (lenOf pd_3 rfl) rfl (by show 2 * 0 + _ ≤ _; exact Nat.le_of_eq rfl) (hb hby d3_50) (fun _ _ => ⟨rfl, e7, (by decide : 0 + 1 ≤ _), (by decide : 0 + 8 ≤ _)⟩))
  obtain ⟨bp, kbp, rfl, N8q, r8_0, r8_1, r8_2⟩ := hQ8
  have N8 := Fr.app N1 N8q
  have K8 : Keep h0 T8.heap [a1] := (Keep.refl h0 [a1]).trans r8_0 all0
  have lt_a1_bp : a1 < bp := Nat.lt_of_lt_of_le E_a1.lt r8_1
  have lt_pa_bp : pa < bp := Nat.lt_of_lt_of_le V_pa.lt r8_1
  have lt_ta_bp : ta < bp := Nat.lt_of_lt_of_le V_ta.lt r8_1
  have sz_bp : h0.size ≤ bp := Nat.le_trans (Keep.refl h0 [a1]).1 r8_1
  have g_bp : n0 ≤ bp := Nat.le_trans Z0 sz_bp
  refine OGo.via (fun _ k => st8.trans k) ?_
  show OGo _ _ _ _ (T8.setTop (mkF m 53 #[.val (.ref a1), .val (.long q1), .second, .val (.long q2), .second, .val (.long (-9223372036854775808 : Int64)), .second, .unset] [(.ref bp), (.ref a1)]))
  have f10 := F_positions_a1.keep r8_0 nin0
  have f11 := E_a1.keep r8_0
  obtain ⟨T9, h9, X9, e9, W9, st9⟩ := putF X8 hx hZ hown (host := "") (Or.inl (own_w hw 12 rfl)) Via.refl rfl f10 f11 (Or.inl (own_w hw 13 rfl)) (own_w hw 2 rfl) (ty := (.array .long)) (by decide) rfl rfl (g := (mkF m 53 #[.val (.ref a1), .val (.long q1), .second, .val (.long q2), .second, .val (.long (-9223372036854775808 : Int64)), .second, .unset] [(.ref bp), (.ref a1)])) rfl rfl (hb hby d3_53)
  refine OGo.via st9 ?_
  have Fw9 := f10.same W9
  have K9 : Keep h0 h9 [a1] := K8.wr W9 (Or.inl (List.mem_of_getElem? (i := 0) rfl))
  have N9 := Fr.snoc X9 N8 g_a1
  show OGo _ _ _ _ (T9.setTop (mkF m 56 #[.val (.ref a1), .val (.long q1), .second, .val (.long q2), .second, .val (.long (-9223372036854775808 : Int64)), .second, .unset] []))
  refine OGo.via (fun _ k => XS.aloadN X9.here hx rfl (hb hby d3_56) rfl rfl (XS.aloadN X9.here hx rfl (hb hby d3_57) rfl rfl (XS.aloadN X9.here hx rfl (hb hby d3_58) rfl rfl k))) ?_
  have f13 := F_times_a1.keep r8_0 nin0
  have f14 := f13.other W9 (Or.inr (slot_ne (Or.inl (own_w hw 15 rfl)) (Or.inl (own_w hw 13 rfl)) (by decide) (t := (.array .long)) (t' := (.array .long)) (by decide) (by decide)))
  obtain ⟨T12, X12, e12, st12⟩ := getF X9 hx hZ hown (host := "") (Or.inl (own_w hw 14 rfl)) Via.refl e9 f14 (g := (mkF m 59 #[.val (.ref a1), .val (.long q1), .second, .val (.long q2), .second, .val (.long (-9223372036854775808 : Int64)), .second, .unset] [(.ref a1), (.ref a1), (.ref a1)])) rfl rfl (hb hby d3_59)
  refine OGo.via st12 ?_
  show OGo _ _ _ _ (T12.setTop (mkF m 62 #[.val (.ref a1), .val (.long q1), .second, .val (.long q2), .second, .val (.long (-9223372036854775808 : Int64)), .second, .unset] [(.ref ta), (.ref a1), (.ref a1)]))
  have f16 := F_first_a1.keep r8_0 nin0
  have f17 := f16.other W9 (Or.inr (slot_ne (Or.inl (own_w hw 31 rfl)) (Or.inl (own_w hw 13 rfl)) (by decide) (t := .int) (t' := (.array .long)) (by decide) (by decide)))
  have f18 := V_ta.keep K9 (ninS (Ne.symm ne_a1_ta) nin0)
  have f19 := f11.wr W9
  have f20 := V_pa.keep K9 (ninS (Ne.symm ne_a1_pa) nin0)
  have f21 := r8_2.other W9 (Nat.ne_of_gt lt_a1_bp)
  obtain ⟨cq15, q15, q15'⟩ := f19.cell
  obtain ⟨_, T15, Lc15, X15, hQ15, st15⟩ := own_open X12 (X12.privateBack hx (y := own_y3) hown (mvT hZ (own_w hw 43 rfl)) (mvT hZ (own_w hw 44 rfl)) (own_selPriv (mvT hZ (own_w hw 20 rfl)) rfl (Cond.privateMethod_at (mvP hZ (own_w hw 45 rfl) (args := #[]))) (mvT hZ (own_w hw 44 rfl)) (by decide)) (Cond.privateMethod_at (mvP hZ (own_w hw 45 rfl) (args := #[]))) (mvT hZ (own_w hw 46 rfl)) (by decide) (backOf (W := 1) (rm6 l Z a0 hw [] a1 ta kt y0 y1 y2 y3 h9 n0 (Nat.le_trans Z0 K9.1) f17 f18) hZ (own_w hw 46 rfl) (own_w hw 3 rfl) (by decide) (by decide)) (g := (mkF m 62 #[.val (.ref a1), .val (.long q1), .second, .val (.long q2), .second, .val (.long (-9223372036854775808 : Int64)), .second, .unset] [(.ref ta), (.ref a1), (.ref a1)])) rfl (by rw [hml]; rfl) (Steps.refl _) (a := a1) (by rw [e12]; exact q15) q15' (argsL := [(.ref ta)]) (rest := [(.ref a1)]) (lenOf pd_3 rfl) rfl (by show 2 * 0 + _ ≤ _; exact Nat.le_of_eq rfl) (hb hby d3_62) (fun _ _ => ⟨rfl, e12, (by decide : 1 + 1 ≤ _), (by decide : 8 + 8 ≤ _)⟩))
  obtain ⟨bt, kbt, rfl, N15q, r15_0, r15_1, r15_2⟩ := hQ15
  have N15 := Fr.app N9 N15q
  have K15 : Keep h0 T15.heap [a1] := K9.trans r15_0 all0
  have lt_a1_bt : a1 < bt := Nat.lt_of_lt_of_le f19.lt r15_1
  have lt_pa_bt : pa < bt := Nat.lt_of_lt_of_le f20.lt r15_1
  have lt_ta_bt : ta < bt := Nat.lt_of_lt_of_le f18.lt r15_1
  have lt_bp_bt : bp < bt := Nat.lt_of_lt_of_le f21.lt r15_1
  have sz_bt : h0.size ≤ bt := Nat.le_trans K9.1 r15_1
  have g_bt : n0 ≤ bt := Nat.le_trans Z0 sz_bt
  refine OGo.via (fun _ k => st15.trans k) ?_
  show OGo _ _ _ _ (T15.setTop (mkF m 65 #[.val (.ref a1), .val (.long q1), .second, .val (.long q2), .second, .val (.long (-9223372036854775808 : Int64)), .second, .unset] [(.ref bt), (.ref a1)]))
  have f23 := f14.keep r15_0 nin0
  have f24 := f19.keep r15_0
  obtain ⟨T22, h22, X22, e22, W22, st22⟩ := putF X15 hx hZ hown (host := "") (Or.inl (own_w hw 14 rfl)) Via.refl rfl f23 f24 (Or.inl (own_w hw 15 rfl)) (own_w hw 2 rfl) (ty := (.array .long)) (by decide) rfl rfl (g := (mkF m 65 #[.val (.ref a1), .val (.long q1), .second, .val (.long q2), .second, .val (.long (-9223372036854775808 : Int64)), .second, .unset] [(.ref bt), (.ref a1)])) rfl rfl (hb hby d3_65)
  refine OGo.via st22 ?_
  have Fw22 := f23.same W22
  have K22 : Keep h0 h22 [a1] := K15.wr W22 (Or.inl (List.mem_of_getElem? (i := 0) rfl))
  have N22 := Fr.snoc X22 N15 g_a1
  show OGo _ _ _ _ (T22.setTop (mkF m 68 #[.val (.ref a1), .val (.long q1), .second, .val (.long q2), .second, .val (.long (-9223372036854775808 : Int64)), .second, .unset] []))
  refine OGo.via (fun _ k => XS.aloadN X22.here hx rfl (hb hby d3_68) rfl rfl (XS.iconst X22.here hx rfl (hb hby d3_69) k)) ?_
  have f26 := f17.keep r15_0 nin0
  have f27 := f26.other W22 (Or.inr (slot_ne (Or.inl (own_w hw 31 rfl)) (Or.inl (own_w hw 15 rfl)) (by decide) (t := .int) (t' := (.array .long)) (by decide) (by decide)))
  have f28 := f24.wr W22
  obtain ⟨T25, h25, X25, e25, W25, st25⟩ := putF X22 hx hZ hown (host := "") (Or.inl (own_w hw 30 rfl)) Via.refl e22 f27 f28 (Or.inl (own_w hw 31 rfl)) (own_w hw 2 rfl) (ty := .int) (by decide) rfl rfl (g := (mkF m 70 #[.val (.ref a1), .val (.long q1), .second, .val (.long q2), .second, .val (.long (-9223372036854775808 : Int64)), .second, .unset] [(.int (0 : Int32)), (.ref a1)])) rfl rfl (hb hby d3_70)
  refine OGo.via st25 ?_
  have Fw25 := f27.same W25
  have K25 : Keep h0 h25 [a1] := K22.wr W25 (Or.inl (List.mem_of_getElem? (i := 0) rfl))
  have N25 := Fr.snoc X25 N22 g_a1
  show OGo _ _ _ _ (T25.setTop (mkF m 73 #[.val (.ref a1), .val (.long q1), .second, .val (.long q2), .second, .val (.long (-9223372036854775808 : Int64)), .second, .unset] []))
  refine OGo.via (fun _ k => XS.aloadN X25.here hx rfl (hb hby d3_73) rfl rfl k) ?_
  obtain ⟨T29, X29, e29, st29⟩ := getF X25 hx hZ hown (host := "") (Or.inl (own_w hw 30 rfl)) Via.refl e25 Fw25 (g := (mkF m 74 #[.val (.ref a1), .val (.long q1), .second, .val (.long q2), .second, .val (.long (-9223372036854775808 : Int64)), .second, .unset] [(.ref a1)])) rfl rfl (hb hby d3_74)
  refine OGo.via st29 ?_
  show OGo _ _ _ _ (T29.setTop (mkF m 77 #[.val (.ref a1), .val (.long q1), .second, .val (.long q2), .second, .val (.long (-9223372036854775808 : Int64)), .second, .unset] [(.int (0 : Int32))]))
  refine OGo.via (fun _ k => XS.aloadN X29.here hx rfl (hb hby d3_77) rfl rfl (XS.dup X29.here hx rfl (hb hby d3_78) rfl rfl k)) ?_
  have f31 := F_count_a1.keep r8_0 nin0
  have f32 := f31.other W9 (Or.inr (slot_ne (Or.inl (own_w hw 28 rfl)) (Or.inl (own_w hw 13 rfl)) (by decide) (t := .int) (t' := (.array .long)) (by decide) (by decide)))
  have f33 := f32.keep r15_0 nin0
  have f34 := f33.other W22 (Or.inr (slot_ne (Or.inl (own_w hw 28 rfl)) (Or.inl (own_w hw 15 rfl)) (by decide) (t := .int) (t' := (.array .long)) (by decide) (by decide)))
  have f35 := f34.other W25 (Or.inr (slot_ne (Or.inl (own_w hw 28 rfl)) (Or.inl (own_w hw 31 rfl)) (by decide) (t := .int) (t' := .int) (by decide) (by decide)))
  obtain ⟨T30, X30, e30, st30⟩ := getF X29 hx hZ hown (host := "") (Or.inl (own_w hw 27 rfl)) Via.refl e29 f35 (g := (mkF m 79 #[.val (.ref a1), .val (.long q1), .second, .val (.long q2), .second, .val (.long (-9223372036854775808 : Int64)), .second, .unset] [(.ref a1), (.ref a1), (.int (0 : Int32))])) rfl rfl (hb hby d3_79)
  refine OGo.via st30 ?_
  show OGo _ _ _ _ (T30.setTop (mkF m 82 #[.val (.ref a1), .val (.long q1), .second, .val (.long q2), .second, .val (.long (-9223372036854775808 : Int64)), .second, .unset] [(.int (4 : Int32)), (.ref a1), (.int (0 : Int32))]))
  refine OGo.via (fun _ k => XS.dupX1 X30.here hx rfl (hb hby d3_82) rfl rfl rfl (XS.iconst X30.here hx rfl (hb hby d3_83) (XS.iadd X30.here hx rfl (hb hby d3_84) rfl k))) ?_
  show OGo _ _ _ _ (T30.setTop (mkF m 85 #[.val (.ref a1), .val (.long q1), .second, .val (.long q2), .second, .val (.long (-9223372036854775808 : Int64)), .second, .unset] [(.int ((4 : Int32) + (1 : Int32))), (.ref a1), (.int (4 : Int32)), (.int (0 : Int32))]))
  rw [show ((4 : Int32) + (1 : Int32)) = (5 : Int32) from by decide]
  have f38 := f28.wr W25
  obtain ⟨T37, h37, X37, e37, W37, st37⟩ := putF X30 hx hZ hown (host := "") (Or.inl (own_w hw 27 rfl)) Via.refl e30 f35 f38 (Or.inl (own_w hw 28 rfl)) (own_w hw 2 rfl) (ty := .int) (by decide) rfl rfl (g := (mkF m 85 #[.val (.ref a1), .val (.long q1), .second, .val (.long q2), .second, .val (.long (-9223372036854775808 : Int64)), .second, .unset] [(.int (5 : Int32)), (.ref a1), (.int (4 : Int32)), (.int (0 : Int32))])) rfl rfl (hb hby d3_85)
  refine OGo.via st37 ?_
  have Fw37 := f35.same W37
  have K37 : Keep h0 h37 [a1] := K25.wr W37 (Or.inl (List.mem_of_getElem? (i := 0) rfl))
  have N37 := Fr.snoc X37 N25 g_a1
  show OGo _ _ _ _ (T37.setTop (mkF m 88 #[.val (.ref a1), .val (.long q1), .second, .val (.long q2), .second, .val (.long (-9223372036854775808 : Int64)), .second, .unset] [(.int (4 : Int32)), (.int (0 : Int32))]))
  refine OGo.via (fun _ k => XS.iadd X37.here hx rfl (hb hby d3_88) rfl k) ?_
  show OGo _ _ _ _ (T37.setTop (mkF m 89 #[.val (.ref a1), .val (.long q1), .second, .val (.long q2), .second, .val (.long (-9223372036854775808 : Int64)), .second, .unset] [(.int ((0 : Int32) + (4 : Int32)))]))
  rw [show ((0 : Int32) + (4 : Int32)) = (4 : Int32) from by decide]
  refine OGo.via (fun _ k => XS.aloadN X37.here hx rfl (hb hby d3_89) rfl rfl k) ?_
  have f41 := Fw9.keep r15_0 nin0
  have f42 := f41.other W22 (Or.inr (slot_ne (Or.inl (own_w hw 13 rfl)) (Or.inl (own_w hw 15 rfl)) (by decide) (t := (.array .long)) (t' := (.array .long)) (by decide) (by decide)))
  have f43 := f42.other W25 (Or.inr (slot_ne (Or.inl (own_w hw 13 rfl)) (Or.inl (own_w hw 31 rfl)) (by decide) (t := (.array .long)) (t' := .int) (by decide) (by decide)))
  have f44 := f43.other W37 (Or.inr (slot_ne (Or.inl (own_w hw 13 rfl)) (Or.inl (own_w hw 28 rfl)) (by decide) (t := (.array .long)) (t' := .int) (by decide) (by decide)))
  obtain ⟨T40, X40, e40, st40⟩ := getF X37 hx hZ hown (host := "") (Or.inl (own_w hw 12 rfl)) Via.refl e37 f44 (g := (mkF m 90 #[.val (.ref a1), .val (.long q1), .second, .val (.long q2), .second, .val (.long (-9223372036854775808 : Int64)), .second, .unset] [(.ref a1), (.int (4 : Int32))])) rfl rfl (hb hby d3_90)
  refine OGo.via st40 ?_
  show OGo _ _ _ _ (T40.setTop (mkF m 93 #[.val (.ref a1), .val (.long q1), .second, .val (.long q2), .second, .val (.long (-9223372036854775808 : Int64)), .second, .unset] [(.ref bp), (.int (4 : Int32))]))
  have f46 := f21.keep r15_0 nin0
  have f47 := f46.other W22 (Nat.ne_of_gt lt_a1_bp)
  have f48 := f47.other W25 (Nat.ne_of_gt lt_a1_bp)
  have f49 := f48.other W37 (Nat.ne_of_gt lt_a1_bp)
  obtain ⟨cl45, Ar45, q45, Sz45, Ng45, Hs45, Gf45⟩ := id f49
  refine OGo.via (X40.arraylength hx (by rw [e40]; exact Ar45.1) (State.isArrayOf_alike hZ.alike Ar45.2.1) (g := (mkF m 93 #[.val (.ref a1), .val (.long q1), .second, .val (.long q2), .second, .val (.long (-9223372036854775808 : Int64)), .second, .unset] [(.ref bp), (.int (4 : Int32))])) rfl rfl (hb hby d3_93)) ?_
  rw [len_of Sz45 Ng45]
  show OGo _ _ _ _ (T40.setTop (mkF m 94 #[.val (.ref a1), .val (.long q1), .second, .val (.long q2), .second, .val (.long (-9223372036854775808 : Int64)), .second, .unset] [(.int (8 : Int32)), (.int (4 : Int32))]))
  refine OGo.via (fun _ k => XS.iconst X40.here hx rfl (hb hby d3_94) (XS.isub X40.here hx rfl (hb hby d3_95) rfl k)) ?_
  show OGo _ _ _ _ (T40.setTop (mkF m 96 #[.val (.ref a1), .val (.long q1), .second, .val (.long q2), .second, .val (.long (-9223372036854775808 : Int64)), .second, .unset] [(.int ((8 : Int32) - (1 : Int32))), (.int (4 : Int32))]))
  rw [show ((8 : Int32) - (1 : Int32)) = (7 : Int32) from by decide]
  refine OGo.via (fun _ k => XS.iand X40.here hx rfl (hb hby d3_96) rfl k) ?_
  show OGo _ _ _ _ (T40.setTop (mkF m 97 #[.val (.ref a1), .val (.long q1), .second, .val (.long q2), .second, .val (.long (-9223372036854775808 : Int64)), .second, .unset] [(.int ((4 : Int32) &&& (7 : Int32)))]))
  rw [show ((4 : Int32) &&& (7 : Int32)) = (4 : Int32) from by decide]
  refine OGo.via (fun _ k => XS.istore X40.here hx rfl (hb hby d3_97) rfl (l' := #[.val (.ref a1), .val (.long q1), .second, .val (.long q2), .second, .val (.long (-9223372036854775808 : Int64)), .second, .val (.int (4 : Int32))]) rfl (XS.aloadN X40.here hx rfl (hb hby d3_99) rfl rfl k)) ?_
  obtain ⟨T52, X52, e52, st52⟩ := getF X40 hx hZ hown (host := "") (Or.inl (own_w hw 12 rfl)) Via.refl e40 f44 (g := (mkF m 100 #[.val (.ref a1), .val (.long q1), .second, .val (.long q2), .second, .val (.long (-9223372036854775808 : Int64)), .second, .val (.int (4 : Int32))] [(.ref a1)])) rfl rfl (hb hby d3_100)
  refine OGo.via st52 ?_
  show OGo _ _ _ _ (T52.setTop (mkF m 103 #[.val (.ref a1), .val (.long q1), .second, .val (.long q2), .second, .val (.long (-9223372036854775808 : Int64)), .second, .val (.int (4 : Int32))] [(.ref bp)]))
  refine OGo.via (fun _ k => XS.iload X52.here hx rfl (hb hby d3_103) rfl (XS.lloadN X52.here hx rfl (hb hby d3_105) rfl k)) ?_
  obtain ⟨cl53, Ar53, q53, Sz53, Ng53, Hs53, Gf53⟩ := id f49
  have hin53 : ¬ ((4 : Int32) < 0 ∨ cl53.slots.size ≤ ((4 : Int32)).toNatClampNeg) := inb_of Sz53 ⟨by decide, by decide⟩
  obtain ⟨T53, h53, X53, e53, W53, st53⟩ := stJ X52 hx hZ e52 Ar53 (j := (4 : Int32)) hin53 (g := (mkF m 106 #[.val (.ref a1), .val (.long q1), .second, .val (.long q2), .second, .val (.long (-9223372036854775808 : Int64)), .second, .val (.int (4 : Int32))] [(.long q1), (.int (4 : Int32)), (.ref bp)])) rfl rfl (hb hby d3_106)
  refine OGo.via st53 ?_
  have V53 : Arv Z h53 bp kbp .long (8 : Int32) [(.long x0), (.long x1), (.long x2), (.long x3), (.long q1), (.long (0 : Int64)), (.long (0 : Int64)), (.long (0 : Int64))] (.long (0 : Int64)) := Arv.set Ar53 q53 Sz53 Ng53 Hs53 Gf53 rfl W53 4 rfl (Nat.le_of_ble_eq_true rfl)
  have K53 : Keep h0 h53 [a1] := K37.wr W53 (Or.inr sz_bp)
  have N53 := Fr.snoc X53 N37 g_bp
  show OGo _ _ _ _ (T53.setTop (mkF m 107 #[.val (.ref a1), .val (.long q1), .second, .val (.long q2), .second, .val (.long (-9223372036854775808 : Int64)), .second, .val (.int (4 : Int32))] []))
  refine OGo.via (fun _ k => XS.aloadN X53.here hx rfl (hb hby d3_107) rfl rfl k) ?_
  have f55 := Fw22.other W25 (Or.inr (slot_ne (Or.inl (own_w hw 15 rfl)) (Or.inl (own_w hw 31 rfl)) (by decide) (t := (.array .long)) (t' := .int) (by decide) (by decide)))
  have f56 := f55.other W37 (Or.inr (slot_ne (Or.inl (own_w hw 15 rfl)) (Or.inl (own_w hw 28 rfl)) (by decide) (t := (.array .long)) (t' := .int) (by decide) (by decide)))
  have f57 := f56.other W53 (Or.inl (Nat.ne_of_lt lt_a1_bp))
  obtain ⟨T54, X54, e54, st54⟩ := getF X53 hx hZ hown (host := "") (Or.inl (own_w hw 14 rfl)) Via.refl e53 f57 (g := (mkF m 108 #[.val (.ref a1), .val (.long q1), .second, .val (.long q2), .second, .val (.long (-9223372036854775808 : Int64)), .second, .val (.int (4 : Int32))] [(.ref a1)])) rfl rfl (hb hby d3_108)
  refine OGo.via st54 ?_
  show OGo _ _ _ _ (T54.setTop (mkF m 111 #[.val (.ref a1), .val (.long q1), .second, .val (.long q2), .second, .val (.long (-9223372036854775808 : Int64)), .second, .val (.int (4 : Int32))] [(.ref bt)]))
  refine OGo.via (fun _ k => XS.iload X54.here hx rfl (hb hby d3_111) rfl (XS.lloadN X54.here hx rfl (hb hby d3_113) rfl k)) ?_
  have f59 := r15_2.other W22 (Nat.ne_of_gt lt_a1_bt)
  have f60 := f59.other W25 (Nat.ne_of_gt lt_a1_bt)
  have f61 := f60.other W37 (Nat.ne_of_gt lt_a1_bt)
  have f62 := f61.other W53 (Nat.ne_of_gt lt_bp_bt)
  obtain ⟨cl58, Ar58, q58, Sz58, Ng58, Hs58, Gf58⟩ := id f62
  have hin58 : ¬ ((4 : Int32) < 0 ∨ cl58.slots.size ≤ ((4 : Int32)).toNatClampNeg) := inb_of Sz58 ⟨by decide, by decide⟩
  obtain ⟨T58, h58, X58, e58, W58, st58⟩ := stJ X54 hx hZ e54 Ar58 (j := (4 : Int32)) hin58 (g := (mkF m 114 #[.val (.ref a1), .val (.long q1), .second, .val (.long q2), .second, .val (.long (-9223372036854775808 : Int64)), .second, .val (.int (4 : Int32))] [(.long q2), (.int (4 : Int32)), (.ref bt)])) rfl rfl (hb hby d3_114)
  refine OGo.via st58 ?_
  have V58 : Arv Z h58 bt kbt .long (8 : Int32) [(.long y0), (.long y1), (.long y2), (.long y3), (.long q2), (.long (0 : Int64)), (.long (0 : Int64)), (.long (0 : Int64))] (.long (0 : Int64)) := Arv.set Ar58 q58 Sz58 Ng58 Hs58 Gf58 rfl W58 4 rfl (Nat.le_of_ble_eq_true rfl)
  have K58 : Keep h0 h58 [a1] := K53.wr W58 (Or.inr sz_bt)
  have N58 := Fr.snoc X58 N53 g_bt
  show OGo _ _ _ _ (T58.setTop (mkF m 115 #[.val (.ref a1), .val (.long q1), .second, .val (.long q2), .second, .val (.long (-9223372036854775808 : Int64)), .second, .val (.int (4 : Int32))] []))
  refine OGo.via (fun _ k => XS.aloadN X58.here hx rfl (hb hby d3_115) rfl rfl (XS.dup X58.here hx rfl (hb hby d3_116) rfl rfl k)) ?_
  have f64 := F_befores_a1.keep r8_0 nin0
  have f65 := f64.other W9 (Or.inr (slot_ne (Or.inl (own_w hw 33 rfl)) (Or.inl (own_w hw 13 rfl)) (by decide) (t := .long) (t' := (.array .long)) (by decide) (by decide)))
  have f66 := f65.keep r15_0 nin0
  have f67 := f66.other W22 (Or.inr (slot_ne (Or.inl (own_w hw 33 rfl)) (Or.inl (own_w hw 15 rfl)) (by decide) (t := .long) (t' := (.array .long)) (by decide) (by decide)))
  have f68 := f67.other W25 (Or.inr (slot_ne (Or.inl (own_w hw 33 rfl)) (Or.inl (own_w hw 31 rfl)) (by decide) (t := .long) (t' := .int) (by decide) (by decide)))
  have f69 := f68.other W37 (Or.inr (slot_ne (Or.inl (own_w hw 33 rfl)) (Or.inl (own_w hw 28 rfl)) (by decide) (t := .long) (t' := .int) (by decide) (by decide)))
  have f70 := f69.other W53 (Or.inl (Nat.ne_of_lt lt_a1_bp))
  have f71 := f70.other W58 (Or.inl (Nat.ne_of_lt lt_a1_bt))
  obtain ⟨T63, X63, e63, st63⟩ := getF X58 hx hZ hown (host := "") (Or.inl (own_w hw 32 rfl)) Via.refl e58 f71 (g := (mkF m 117 #[.val (.ref a1), .val (.long q1), .second, .val (.long q2), .second, .val (.long (-9223372036854775808 : Int64)), .second, .val (.int (4 : Int32))] [(.ref a1), (.ref a1)])) rfl rfl (hb hby d3_117)
  refine OGo.via st63 ?_
  show OGo _ _ _ _ (T63.setTop (mkF m 120 #[.val (.ref a1), .val (.long q1), .second, .val (.long q2), .second, .val (.long (-9223372036854775808 : Int64)), .second, .val (.int (4 : Int32))] [(.long bf), (.ref a1)]))
  refine OGo.via (fun _ k => XS.lconst X63.here hx rfl (hb hby d3_120) (XS.ladd X63.here hx rfl (hb hby d3_121) rfl k)) ?_
  have f73 := f38.wr W37
  have f74 := f73.wr W53
  have f75 := f74.wr W58
  obtain ⟨T72, h72, X72, e72, W72, st72⟩ := putF X63 hx hZ hown (host := "") (Or.inl (own_w hw 32 rfl)) Via.refl e63 f71 f75 (Or.inl (own_w hw 33 rfl)) (own_w hw 2 rfl) (ty := .long) (by decide) rfl rfl (g := (mkF m 122 #[.val (.ref a1), .val (.long q1), .second, .val (.long q2), .second, .val (.long (-9223372036854775808 : Int64)), .second, .val (.int (4 : Int32))] [(.long (bf + (1 : Int64))), (.ref a1)])) rfl rfl (hb hby d3_122)
  refine OGo.via st72 ?_
  have Fw72 := f71.same W72
  have K72 : Keep h0 h72 [a1] := K58.wr W72 (Or.inl (List.mem_of_getElem? (i := 0) rfl))
  have N72 := Fr.snoc X72 N58 g_a1
  show OGo _ _ _ _ (T72.setTop (mkF m 125 #[.val (.ref a1), .val (.long q1), .second, .val (.long q2), .second, .val (.long (-9223372036854775808 : Int64)), .second, .val (.int (4 : Int32))] []))
  show OGo _ _ _ _ (T72.setTop (mkF m 125 #[.val (.ref a1), .val (.long q1), .second, .val (.long q2), .second, .val (.long (-9223372036854775808 : Int64)), .second, .val (.int (4 : Int32))] []))
  have f76 := f75.wr W72
  have f77 := f44.other W53 (Or.inl (Nat.ne_of_lt lt_a1_bp))
  have f78 := f77.other W58 (Or.inl (Nat.ne_of_lt lt_a1_bt))
  have f79 := f78.other W72 (Or.inr (slot_ne (Or.inl (own_w hw 13 rfl)) (Or.inl (own_w hw 33 rfl)) (by decide) (t := (.array .long)) (t' := .long) (by decide) (by decide)))
  have f80 := f57.other W58 (Or.inl (Nat.ne_of_lt lt_a1_bt))
  have f81 := f80.other W72 (Or.inr (slot_ne (Or.inl (own_w hw 15 rfl)) (Or.inl (own_w hw 33 rfl)) (by decide) (t := (.array .long)) (t' := .long) (by decide) (by decide)))
  have f82 := Fw25.other W37 (Or.inr (slot_ne (Or.inl (own_w hw 31 rfl)) (Or.inl (own_w hw 28 rfl)) (by decide) (t := .int) (t' := .int) (by decide) (by decide)))
  have f83 := f82.other W53 (Or.inl (Nat.ne_of_lt lt_a1_bp))
  have f84 := f83.other W58 (Or.inl (Nat.ne_of_lt lt_a1_bt))
  have f85 := f84.other W72 (Or.inr (slot_ne (Or.inl (own_w hw 31 rfl)) (Or.inl (own_w hw 33 rfl)) (by decide) (t := .int) (t' := .long) (by decide) (by decide)))
  have f86 := Fw37.other W53 (Or.inl (Nat.ne_of_lt lt_a1_bp))
  have f87 := f86.other W58 (Or.inl (Nat.ne_of_lt lt_a1_bt))
  have f88 := f87.other W72 (Or.inr (slot_ne (Or.inl (own_w hw 28 rfl)) (Or.inl (own_w hw 33 rfl)) (by decide) (t := .int) (t' := .long) (by decide) (by decide)))
  have f89 := V53.other W58 (Nat.ne_of_lt lt_bp_bt)
  have f90 := f89.other W72 (Nat.ne_of_gt lt_a1_bp)
  have f91 := V58.other W72 (Nat.ne_of_gt lt_a1_bt)
  refine own_retV X72 hx Bd.notSynchronized Bd.returns (hb hby d3_125) (by decide) (by decide) ?_
  show Q_rm3g Z _ _ _ _ _ _ _ _ _ _ _ _ _ _ _ _ h0 n0 _ T72.heap _
  rw [e72]
  exact ⟨bp, bt, kbp, kbt, rfl, N72, K72, sz_bp, sz_bt, lt_bp_bt, f76, f79, f81, f85, f88, Fw72, f90, f91⟩
theorem d5_0 : decode prog_122_method_7_code 0 = .ok (.aload_n 0, 1) := by decide +kernel
theorem d5_1 : decode prog_122_method_7_code 1 = .ok (.getfield 23, 3) := by decide +kernel
theorem d5_4 : decode prog_122_method_7_code 4 = .ok (.ireturn, 1) := by decide +kernel
theorem ef_rm5 (m : MethodId) (a1 : Addr) : entryFrame m #[(.ref a1)] 1 = mkF m 0 #[.val (.ref a1)] [] := by first | (simp [entryFrame, mkF, argsToLocals, Value.category]; done) | rfl
def Q_rm5 (Z : State) (a1 : Addr) (n : Int32) (h0 : Heap) (n0 : Nat) (v : Option Value) (h : Heap) (L : List Loc) : Prop := v = some (.int n) ∧ Fr n0 L ∧ h = h0
set_option maxRecDepth 65536 in
set_option maxHeartbeats 40000000 in
theorem rm5 (l : Launch) (Z : State) (a0 : Array Value) (hw : ∀ d ∈ tables_1, d.before a0 Z = true) (ws : List Jvm.Cond) (a1 : Addr) (n : Int32) (h0 : Heap) (n0 : Nat) (Z0 : n0 ≤ h0.size) (F_count_a1 : Fld Z h0 a1 "com/example/eventloom/eventloom/engine/Forbidden" "count" "I" (.int n)) :
    MetFree l own_y6 (head1 (Jvm.Cond.code own_y6 prog_122_method_7_code 1 (some .int) :: ws) ({ frames := 0, cells := 0, slots := 0, locals := 0 } : Room)) (fun a U => a = #[(.ref a1)] ∧ Z.Warmed39 U.vm ∧ U.heap = h0) (fun _ _ _ _ _ => True) (fun _ U o U' => ∃ v L, o = .returned v ∧ Q_rm5 Z a1 n h0 n0 v U'.heap L ∧ FrameEnd U o U' L ({ frames := 0, cells := 0, slots := 0, locals := 0 } : Room).cells ({ frames := 0, cells := 0, slots := 0, locals := 0 } : Room).slots) := by
  refine MetFree.of_bodySF (plainFor_of_name pn_Forbidden) hisR ?_
  intro p e s m args below meth c s₁ Bd hml0 hP hK
  obtain ⟨rfl, hZ, hh⟩ := hP
  have hx := Bd.exec
  have hby := Bd.bytes
  have hml : c.maxLocals = 1 := hml0
  have hown : s.vm.findClass "com/example/eventloom/eventloom/engine/Forbidden" = some m.cls := findClass_of_methodNamed Bd.named
  have hnm := (name_of_methodNamed Bd.named Bd.method).1
  have X0 : Stand p l e ({ frames := 0, cells := 0, slots := 0, locals := 0 } : Room) s m #[(.ref a1)] below meth c s₁ [] 0 0 := Stand.of_body Bd
  have e0 : s₁.heap = h0 := by rw [← hh, Bd.state]; rfl
  have N0 := Fr.nil n0
  show OGo p.tables e below (own_Kq s (fun v h L => Q_rm5 Z a1 n h0 n0 v h L) ({ frames := 0, cells := 0, slots := 0, locals := 0 } : Room).cells ({ frames := 0, cells := 0, slots := 0, locals := 0 } : Room).slots) (s₁.setTop (entryFrame m #[(.ref a1)] 1))
  refine OGo.cast (ef_rm5 m a1) ?_
  show OGo _ _ _ _ (s₁.setTop (mkF m 0 #[.val (.ref a1)] []))
  refine OGo.via (fun _ k => XS.aloadN X0.here hx rfl (hb hby d5_0) rfl rfl k) ?_
  obtain ⟨T1, X1, e1, st1⟩ := getF X0 hx hZ hown (host := "") (Or.inl (own_w hw 27 rfl)) Via.refl e0 F_count_a1 (g := (mkF m 1 #[.val (.ref a1)] [(.ref a1)])) rfl rfl (hb hby d5_1)
  refine OGo.via st1 ?_
  show OGo _ _ _ _ (T1.setTop (mkF m 4 #[.val (.ref a1)] [(.int n)]))
  show OGo _ _ _ _ (T1.setTop (mkF m 4 #[.val (.ref a1)] [(.int n)]))
  refine own_retI X1 hx Bd.notSynchronized Bd.returns (hb hby d5_4) (by decide) (by decide) ?_
  show Q_rm5 Z _ _ h0 n0 _ T1.heap _
  exact ⟨rfl, N0, e1⟩
theorem d9_0 : decode method_2_code 0 = .ok (.iload_n 0, 1) := by decide +kernel
theorem d9_1 : decode method_2_code 1 = .ok (.iload_n 1, 1) := by decide +kernel
theorem d9_2 : decode method_2_code 2 = .ok (.if_icmp .ge 17, 3) := by decide +kernel
theorem d9_5 : decode method_2_code 5 = .ok (.aload_n 2, 1) := by decide +kernel
theorem d9_6 : decode method_2_code 6 = .ok (.iload_n 0, 1) := by decide +kernel
theorem d9_7 : decode method_2_code 7 = .ok (.laload, 1) := by decide +kernel
theorem d9_8 : decode method_2_code 8 = .ok (.lload_n 3, 1) := by decide +kernel
theorem d9_9 : decode method_2_code 9 = .ok (.lcmp, 1) := by decide +kernel
theorem d9_10 : decode method_2_code 10 = .ok (.ifCond .ge 9, 3) := by decide +kernel
theorem d9_13 : decode method_2_code 13 = .ok (.iload_n 0, 1) := by decide +kernel
theorem d9_14 : decode method_2_code 14 = .ok (.iconst 1, 1) := by decide +kernel
theorem d9_15 : decode method_2_code 15 = .ok (.iadd, 1) := by decide +kernel
theorem d9_16 : decode method_2_code 16 = .ok (.goto 4, 3) := by decide +kernel
theorem d9_20 : decode method_2_code 20 = .ok (.ireturn, 1) := by decide +kernel
theorem d9_19 : decode method_2_code 19 = .ok (.iload_n 0, 1) := by decide +kernel
theorem pn_ForbiddenLatestFirstPinLaw : plainName "com/example/eventloom/eventloom/engine/ForbiddenLatestFirstPinLaw" = true := by first | (simp [plainName, overriddenIn]; done) | decide +kernel
theorem ef_rm9 (m : MethodId) (p1 : Int32) (p2 : Int32) (a3 : Addr) (q4 : Int64) : entryFrame m #[(.int p1), (.int p2), (.ref a3), (.long q4)] 5 = mkF m 0 #[.val (.int p1), .val (.int p2), .val (.ref a3), .val (.long q4), .second] [] := by first | (simp [entryFrame, mkF, argsToLocals, Value.category]; done) | rfl
def Q_rm9 (Z : State) (p1 : Int32) (p2 : Int32) (a3 : Addr) (q4 : Int64) (k0 : ClassId) (t0 : Int64) (t1 : Int64) (t2 : Int64) (t3 : Int64) (t4 : Int64) (h0 : Heap) (n0 : Nat) (v : Option Value) (h : Heap) (L : List Loc) : Prop := v = some (.int (own_adv p1 p2 t0 t1 t2 t3 t4 q4)) ∧ Fr n0 L ∧ h = h0
set_option maxRecDepth 65536 in
set_option maxHeartbeats 40000000 in
theorem rm9 (l : Launch) (Z : State) (a0 : Array Value) (hw : ∀ d ∈ tables_1, d.before a0 Z = true) (ws : List Jvm.Cond) (p1 : Int32) (p2 : Int32) (a3 : Addr) (q4 : Int64) (k0 : ClassId) (t0 : Int64) (t1 : Int64) (t2 : Int64) (t3 : Int64) (t4 : Int64) (h0 : Heap) (n0 : Nat) (Z0 : n0 ≤ h0.size) (V_a3 : Arv Z h0 a3 k0 .long (5 : Int32) [(.long t0), (.long t1), (.long t2), (.long t3), (.long t4)] (.long (0 : Int64))) (hp : ¬ p1 < 0) (h5 : ¬ (5 : Int32) < p2) :
    MetFree l own_y7 (head1 (Jvm.Cond.code own_y7 method_2_code 5 (some .int) :: ws) ({ frames := 0, cells := 0, slots := 0, locals := 0 } : Room)) (fun a U => a = #[(.int p1), (.int p2), (.ref a3), (.long q4)] ∧ Z.Warmed39 U.vm ∧ U.heap = h0) (fun _ _ _ _ _ => True) (fun _ U o U' => ∃ v L, o = .returned v ∧ Q_rm9 Z p1 p2 a3 q4 k0 t0 t1 t2 t3 t4 h0 n0 v U'.heap L ∧ FrameEnd U o U' L ({ frames := 0, cells := 0, slots := 0, locals := 0 } : Room).cells ({ frames := 0, cells := 0, slots := 0, locals := 0 } : Room).slots) := by
  refine MetFree.of_bodySF (plainFor_of_name pn_ForbiddenLatestFirstPinLaw) hisR ?_
  intro p e s m args below meth c s₁ Bd hml0 hP hK
  obtain ⟨rfl, hZ, hh⟩ := hP
  have hx := Bd.exec
  have hby := Bd.bytes
  have hml : c.maxLocals = 5 := hml0
  have hown : s.vm.findClass "com/example/eventloom/eventloom/engine/ForbiddenLatestFirstPinLaw" = some m.cls := findClass_of_methodNamed Bd.named
  have hnm := (name_of_methodNamed Bd.named Bd.method).1
  have X0 : Stand p l e ({ frames := 0, cells := 0, slots := 0, locals := 0 } : Room) s m #[(.int p1), (.int p2), (.ref a3), (.long q4)] below meth c s₁ [] 0 0 := Stand.of_body Bd
  have e0 : s₁.heap = h0 := by rw [← hh, Bd.state]; rfl
  have N0 := Fr.nil n0
  show OGo p.tables e below (own_Kq s (fun v h L => Q_rm9 Z p1 p2 a3 q4 k0 t0 t1 t2 t3 t4 h0 n0 v h L) ({ frames := 0, cells := 0, slots := 0, locals := 0 } : Room).cells ({ frames := 0, cells := 0, slots := 0, locals := 0 } : Room).slots) (s₁.setTop (entryFrame m #[(.int p1), (.int p2), (.ref a3), (.long q4)] 5))
  refine OGo.cast (ef_rm9 m p1 p2 a3 q4) ?_
  show OGo _ _ _ _ (s₁.setTop (mkF m 0 #[.val (.int p1), .val (.int p2), .val (.ref a3), .val (.long q4), .second] []))
  refine OGo.via (fun _ k => XS.iloadN X0.here hx rfl (hb hby d9_0) rfl (XS.iloadN X0.here hx rfl (hb hby d9_1) rfl k)) ?_
  by_cases hc2_1 : p1 < p2
  · refine OGo.via (fun _ k => XS.icmpNo X0.here hx rfl (hb hby d9_2) rfl (tlt hc2_1).2.1 k) ?_
    show OGo _ _ _ _ (s₁.setTop (mkF m 5 #[.val (.int p1), .val (.int p2), .val (.ref a3), .val (.long q4), .second] []))
    refine OGo.via (fun _ k => XS.aloadN X0.here hx rfl (hb hby d9_5) rfl rfl (XS.iloadN X0.here hx rfl (hb hby d9_6) rfl k)) ?_
    obtain ⟨cl2, Ar2, q2, Sz2, Ng2, Hs2, Gf2⟩ := id V_a3
    have hin2 : ¬ (p1 < 0 ∨ cl2.slots.size ≤ (p1).toNatClampNeg) := inb_of Sz2 ⟨hp, own_lt5 hc2_1 h5⟩
    have hat2 : cl2.slots[(p1).toNatClampNeg]? = some (.long (own_t p1 t0 t1 t2 t3 t4)) := Hs2.at hin2 (own_get5 hp (own_lt5 hc2_1 h5))
    refine OGo.via (X0.laload hx (j := p1) (v := (.long (own_t p1 t0 t1 t2 t3 t4))) (by rw [e0]; exact Ar2.1) (State.isArrayOf_alike hZ.alike Ar2.2.1) Ar2.2.2 hin2 hat2 (g := (mkF m 7 #[.val (.int p1), .val (.int p2), .val (.ref a3), .val (.long q4), .second] [(.int p1), (.ref a3)])) rfl rfl (hb hby d9_7)) ?_
    show OGo _ _ _ _ (s₁.setTop (mkF m 8 #[.val (.int p1), .val (.int p2), .val (.ref a3), .val (.long q4), .second] [(.long (own_t p1 t0 t1 t2 t3 t4))]))
    refine OGo.via (fun _ k => XS.lloadN X0.here hx rfl (hb hby d9_8) rfl (XS.lcmp X0.here hx rfl (hb hby d9_9) rfl k)) ?_
    by_cases hc10_3 : (lcmpW (own_t p1 t0 t1 t2 t3 t4) q4) < (0 : Int32)
    · refine OGo.via (fun _ k => XS.ifNo X0.here hx rfl (hb hby d9_10) rfl ((if0 _ _).trans (tlt hc10_3).2.1) k) ?_
      show OGo _ _ _ _ (s₁.setTop (mkF m 13 #[.val (.int p1), .val (.int p2), .val (.ref a3), .val (.long q4), .second] []))
      refine OGo.via (fun _ k => XS.iloadN X0.here hx rfl (hb hby d9_13) rfl (XS.iconst X0.here hx rfl (hb hby d9_14) (XS.iadd X0.here hx rfl (hb hby d9_15) rfl (XS.goto X0.here hx rfl (pc0 := 16) (pc' := 20) rfl (hb hby d9_16) (by decide) (by decide) k)))) ?_
      show OGo _ _ _ _ (s₁.setTop (mkF m 20 #[.val (.int p1), .val (.int p2), .val (.ref a3), .val (.long q4), .second] [(.int (p1 + (1 : Int32)))]))
      refine own_retI X0 hx Bd.notSynchronized Bd.returns (hb hby d9_20) (by decide) (by decide) ?_
      show Q_rm9 Z _ _ _ _ _ _ _ _ _ _ h0 n0 _ s₁.heap _
      exact ⟨(by rw [own_adv, if_pos hc2_1, if_pos hc10_3]), N0, e0⟩
    · refine OGo.via (fun _ k => XS.ifYes X0.here hx rfl (pc0 := 10) (pc' := 19) rfl (hb hby d9_10) rfl ((if0 _ _).trans (flt hc10_3).2.1) (by decide) (by decide) k) ?_
      show OGo _ _ _ _ (s₁.setTop (mkF m 19 #[.val (.int p1), .val (.int p2), .val (.ref a3), .val (.long q4), .second] []))
      refine OGo.via (fun _ k => XS.iloadN X0.here hx rfl (hb hby d9_19) rfl k) ?_
      show OGo _ _ _ _ (s₁.setTop (mkF m 20 #[.val (.int p1), .val (.int p2), .val (.ref a3), .val (.long q4), .second] [(.int p1)]))
      refine own_retI X0 hx Bd.notSynchronized Bd.returns (hb hby d9_20) (by decide) (by decide) ?_
      show Q_rm9 Z _ _ _ _ _ _ _ _ _ _ h0 n0 _ s₁.heap _
      exact ⟨(by rw [own_adv, if_pos hc2_1, if_neg hc10_3]), N0, e0⟩
  · refine OGo.via (fun _ k => XS.icmpYes X0.here hx rfl (pc0 := 2) (pc' := 19) rfl (hb hby d9_2) rfl (flt hc2_1).2.1 (by decide) (by decide) k) ?_
    show OGo _ _ _ _ (s₁.setTop (mkF m 19 #[.val (.int p1), .val (.int p2), .val (.ref a3), .val (.long q4), .second] []))
    refine OGo.via (fun _ k => XS.iloadN X0.here hx rfl (hb hby d9_19) rfl k) ?_
    show OGo _ _ _ _ (s₁.setTop (mkF m 20 #[.val (.int p1), .val (.int p2), .val (.ref a3), .val (.long q4), .second] [(.int p1)]))
    refine own_retI X0 hx Bd.notSynchronized Bd.returns (hb hby d9_20) (by decide) (by decide) ?_
    show Q_rm9 Z _ _ _ _ _ _ _ _ _ _ h0 n0 _ s₁.heap _
    exact ⟨(by rw [own_adv, if_neg hc2_1]), N0, e0⟩
theorem d4_21 : decode prog_122_method_4_code 21 = .ok (.aload_n 0, 1) := by decide +kernel
theorem d4_22 : decode prog_122_method_4_code 22 = .ok (.aload_n 0, 1) := by decide +kernel
theorem d4_23 : decode prog_122_method_4_code 23 = .ok (.getfield 31, 3) := by decide +kernel
theorem d4_26 : decode prog_122_method_4_code 26 = .ok (.iconst 1, 1) := by decide +kernel
theorem d4_27 : decode prog_122_method_4_code 27 = .ok (.iadd, 1) := by decide +kernel
theorem d4_28 : decode prog_122_method_4_code 28 = .ok (.aload_n 0, 1) := by decide +kernel
theorem d4_29 : decode prog_122_method_4_code 29 = .ok (.getfield 13, 3) := by decide +kernel
theorem d4_32 : decode prog_122_method_4_code 32 = .ok (.arraylength, 1) := by decide +kernel
theorem d4_33 : decode prog_122_method_4_code 33 = .ok (.iconst 1, 1) := by decide +kernel
theorem d4_34 : decode prog_122_method_4_code 34 = .ok (.isub, 1) := by decide +kernel
theorem d4_35 : decode prog_122_method_4_code 35 = .ok (.iand, 1) := by decide +kernel
theorem d4_36 : decode prog_122_method_4_code 36 = .ok (.putfield 31, 3) := by decide +kernel
theorem d4_39 : decode prog_122_method_4_code 39 = .ok (.aload_n 0, 1) := by decide +kernel
theorem d4_40 : decode prog_122_method_4_code 40 = .ok (.dup, 1) := by decide +kernel
theorem d4_41 : decode prog_122_method_4_code 41 = .ok (.getfield 23, 3) := by decide +kernel
theorem d4_44 : decode prog_122_method_4_code 44 = .ok (.iconst 1, 1) := by decide +kernel
theorem d4_45 : decode prog_122_method_4_code 45 = .ok (.isub, 1) := by decide +kernel
theorem d4_46 : decode prog_122_method_4_code 46 = .ok (.putfield 23, 3) := by decide +kernel
theorem d4_49 : decode prog_122_method_4_code 49 = .ok (.goto (-49), 3) := by decide +kernel
theorem ef_rm4a (m : MethodId) (a1 : Addr) (q1 : Int64) : entryFrame m #[(.ref a1), (.long q1)] 3 = mkF m 0 #[.val (.ref a1), .val (.long q1), .second] [] := by first | (simp [entryFrame, mkF, argsToLocals, Value.category]; done) | rfl
def Q_rm4a (Z : State) (a1 : Addr) (q1 : Int64) (pa : Addr) (ta : Addr) (kp : ClassId) (kt : ClassId) (bf : Int64) (pz : Int64) (t0 : Int64) (t1 : Int64) (t2 : Int64) (t3 : Int64) (t4 : Int64) (h0 : Heap) (n0 : Nat) (v : Option Value) (h : Heap) (L : List Loc) : Prop := v = some (.long (own_x (own_adv (own_adv (own_adv (own_adv (0 : Int32) (4 : Int32) t0 t1 t2 t3 t4 q1) (4 : Int32) t0 t1 t2 t3 t4 q1) (4 : Int32) t0 t1 t2 t3 t4 q1) (4 : Int32) t0 t1 t2 t3 t4 q1) (4 : Int32) pz)) ∧ Fr n0 L ∧ Keep h0 h [a1] ∧ Exa Z h a1 "com/example/eventloom/eventloom/engine/Forbidden" ∧ Fld Z h a1 "com/example/eventloom/eventloom/engine/Forbidden" "count" "I" (.int (own_h (own_adv (own_adv (own_adv (own_adv (0 : Int32) (4 : Int32) t0 t1 t2 t3 t4 q1) (4 : Int32) t0 t1 t2 t3 t4 q1) (4 : Int32) t0 t1 t2 t3 t4 q1) (4 : Int32) t0 t1 t2 t3 t4 q1) (4 : Int32))) ∧ Fld Z h a1 "com/example/eventloom/eventloom/engine/Forbidden" "first" "I" (.int (own_f (own_adv (own_adv (own_adv (own_adv (0 : Int32) (4 : Int32) t0 t1 t2 t3 t4 q1) (4 : Int32) t0 t1 t2 t3 t4 q1) (4 : Int32) t0 t1 t2 t3 t4 q1) (4 : Int32) t0 t1 t2 t3 t4 q1))) ∧ Fld Z h a1 "com/example/eventloom/eventloom/engine/Forbidden" "positions" "[J" (.ref pa) ∧ Fld Z h a1 "com/example/eventloom/eventloom/engine/Forbidden" "times" "[J" (.ref ta) ∧ Fld Z h a1 "com/example/eventloom/eventloom/engine/Forbidden" "befores" "J" (.long bf)
set_option maxRecDepth 65536 in
set_option maxHeartbeats 40000000 in
theorem rm4a (l : Launch) (Z : State) (a0 : Array Value) (hw : ∀ d ∈ tables_1, d.before a0 Z = true) (ws : List Jvm.Cond) (a1 : Addr) (q1 : Int64) (pa : Addr) (ta : Addr) (kp : ClassId) (kt : ClassId) (bf : Int64) (pz : Int64) (t0 : Int64) (t1 : Int64) (t2 : Int64) (t3 : Int64) (t4 : Int64) (h0 : Heap) (n0 : Nat) (Z0 : n0 ≤ h0.size) (E_a1 : Exa Z h0 a1 "com/example/eventloom/eventloom/engine/Forbidden") (F_positions_a1 : Fld Z h0 a1 "com/example/eventloom/eventloom/engine/Forbidden" "positions" "[J" (.ref pa)) (F_times_a1 : Fld Z h0 a1 "com/example/eventloom/eventloom/engine/Forbidden" "times" "[J" (.ref ta)) (F_first_a1 : Fld Z h0 a1 "com/example/eventloom/eventloom/engine/Forbidden" "first" "I" (.int (0 : Int32))) (F_count_a1 : Fld Z h0 a1 "com/example/eventloom/eventloom/engine/Forbidden" "count" "I" (.int (4 : Int32))) (F_befores_a1 : Fld Z h0 a1 "com/example/eventloom/eventloom/engine/Forbidden" "befores" "J" (.long bf)) (V_pa : Arv Z h0 pa kp .long (4 : Int32) [(.long pz), (.long (pz + (1 : Int64))), (.long (pz + (2 : Int64))), (.long (pz + (3 : Int64)))] (.long (0 : Int64))) (V_ta : Arv Z h0 ta kt .long (4 : Int32) [(.long t0), (.long t1), (.long t2), (.long t3)] (.long (0 : Int64))) (ne_a1_pa : a1 ≠ pa) (ne_a1_ta : a1 ≠ ta) (g_a1 : n0 ≤ a1) :
    MetFree l own_y4 (head1 (Jvm.Cond.code own_y4 prog_122_method_4_code 3 (some .long) :: ws) ({ frames := 0, cells := 0, slots := 0, locals := 0 } : Room)) (fun a U => a = #[(.ref a1), (.long q1)] ∧ Z.Warmed39 U.vm ∧ U.heap = h0) (fun _ _ _ _ _ => True) (fun _ U o U' => ∃ v L, o = .returned v ∧ Q_rm4a Z a1 q1 pa ta kp kt bf pz t0 t1 t2 t3 t4 h0 n0 v U'.heap L ∧ FrameEnd U o U' L ({ frames := 0, cells := 0, slots := 0, locals := 0 } : Room).cells ({ frames := 0, cells := 0, slots := 0, locals := 0 } : Room).slots) := by
  refine MetFree.of_bodySF (plainFor_of_name pn_Forbidden) hisR ?_
  intro p e s m args below meth c s₁ Bd hml0 hP hK
  obtain ⟨rfl, hZ, hh⟩ := hP
  have hx := Bd.exec
  have hby := Bd.bytes
  have hml : c.maxLocals = 3 := hml0
  have hown : s.vm.findClass "com/example/eventloom/eventloom/engine/Forbidden" = some m.cls := findClass_of_methodNamed Bd.named
  have hnm := (name_of_methodNamed Bd.named Bd.method).1
  have X0 : Stand p l e ({ frames := 0, cells := 0, slots := 0, locals := 0 } : Room) s m #[(.ref a1), (.long q1)] below meth c s₁ [] 0 0 := Stand.of_body Bd
  have e0 : s₁.heap = h0 := by rw [← hh, Bd.state]; rfl
  have N0 := Fr.nil n0
  show OGo p.tables e below (own_Kq s (fun v h L => Q_rm4a Z a1 q1 pa ta kp kt bf pz t0 t1 t2 t3 t4 h0 n0 v h L) ({ frames := 0, cells := 0, slots := 0, locals := 0 } : Room).cells ({ frames := 0, cells := 0, slots := 0, locals := 0 } : Room).slots) (s₁.setTop (entryFrame m #[(.ref a1), (.long q1)] 3))
  refine OGo.cast (ef_rm4a m a1 q1) ?_
  show OGo _ _ _ _ (s₁.setTop (mkF m 0 #[.val (.ref a1), .val (.long q1), .second] []))
  refine OGo.via (fun _ k => XS.aloadN X0.here hx rfl (hb hby d4_0) rfl rfl k) ?_
  obtain ⟨T1, X1, e1, st1⟩ := getF X0 hx hZ hown (host := "") (Or.inl (own_w hw 27 rfl)) Via.refl e0 F_count_a1 (g := (mkF m 1 #[.val (.ref a1), .val (.long q1), .second] [(.ref a1)])) rfl rfl (hb hby d4_1)
  refine OGo.via st1 ?_
  show OGo _ _ _ _ (T1.setTop (mkF m 4 #[.val (.ref a1), .val (.long q1), .second] [(.int (4 : Int32))]))
  refine OGo.via (fun _ k => XS.ifNo X1.here hx rfl (hb hby d4_4) rfl ((if0 _ _).trans (tlt (by decide : (0 : Int32) < (4 : Int32))).2.2.2) k) ?_
  show OGo _ _ _ _ (T1.setTop (mkF m 7 #[.val (.ref a1), .val (.long q1), .second] []))
  refine OGo.via (fun _ k => XS.aloadN X1.here hx rfl (hb hby d4_7) rfl rfl k) ?_
  obtain ⟨T2, X2, e2, st2⟩ := getF X1 hx hZ hown (host := "") (Or.inl (own_w hw 14 rfl)) Via.refl e1 F_times_a1 (g := (mkF m 8 #[.val (.ref a1), .val (.long q1), .second] [(.ref a1)])) rfl rfl (hb hby d4_8)
  refine OGo.via st2 ?_
  show OGo _ _ _ _ (T2.setTop (mkF m 11 #[.val (.ref a1), .val (.long q1), .second] [(.ref ta)]))
  refine OGo.via (fun _ k => XS.aloadN X2.here hx rfl (hb hby d4_11) rfl rfl k) ?_
  obtain ⟨T3, X3, e3, st3⟩ := getF X2 hx hZ hown (host := "") (Or.inl (own_w hw 30 rfl)) Via.refl e2 F_first_a1 (g := (mkF m 12 #[.val (.ref a1), .val (.long q1), .second] [(.ref a1), (.ref ta)])) rfl rfl (hb hby d4_12)
  refine OGo.via st3 ?_
  show OGo _ _ _ _ (T3.setTop (mkF m 15 #[.val (.ref a1), .val (.long q1), .second] [(.int (0 : Int32)), (.ref ta)]))
  obtain ⟨cl4, Ar4, q4, Sz4, Ng4, Hs4, Gf4⟩ := id V_ta
  have hin4 : ¬ ((0 : Int32) < 0 ∨ cl4.slots.size ≤ ((0 : Int32)).toNatClampNeg) := inb_of Sz4 ⟨by decide, by decide⟩
  have hat4 : cl4.slots[((0 : Int32)).toNatClampNeg]? = some (.long t0) := Hs4.at hin4 rfl
  refine OGo.via (X3.laload hx (j := (0 : Int32)) (v := (.long t0)) (by rw [e3]; exact Ar4.1) (State.isArrayOf_alike hZ.alike Ar4.2.1) Ar4.2.2 hin4 hat4 (g := (mkF m 15 #[.val (.ref a1), .val (.long q1), .second] [(.int (0 : Int32)), (.ref ta)])) rfl rfl (hb hby d4_15)) ?_
  show OGo _ _ _ _ (T3.setTop (mkF m 16 #[.val (.ref a1), .val (.long q1), .second] [(.long t0)]))
  refine OGo.via (fun _ k => XS.lloadN X3.here hx rfl (hb hby d4_16) rfl (XS.lcmp X3.here hx rfl (hb hby d4_17) rfl k)) ?_
  by_cases hc18_5 : (lcmpW t0 q1) < (0 : Int32)
  · refine OGo.via (fun _ k => XS.ifNo X3.here hx rfl (hb hby d4_18) rfl ((if0 _ _).trans (tlt hc18_5).2.1) k) ?_
    show OGo _ _ _ _ (T3.setTop (mkF m 21 #[.val (.ref a1), .val (.long q1), .second] []))
    refine OGo.via (fun _ k => XS.aloadN X3.here hx rfl (hb hby d4_21) rfl rfl (XS.aloadN X3.here hx rfl (hb hby d4_22) rfl rfl k)) ?_
    obtain ⟨T6, X6, e6, st6⟩ := getF X3 hx hZ hown (host := "") (Or.inl (own_w hw 30 rfl)) Via.refl e3 F_first_a1 (g := (mkF m 23 #[.val (.ref a1), .val (.long q1), .second] [(.ref a1), (.ref a1)])) rfl rfl (hb hby d4_23)
    refine OGo.via st6 ?_
    show OGo _ _ _ _ (T6.setTop (mkF m 26 #[.val (.ref a1), .val (.long q1), .second] [(.int (0 : Int32)), (.ref a1)]))
    refine OGo.via (fun _ k => XS.iconst X6.here hx rfl (hb hby d4_26) (XS.iadd X6.here hx rfl (hb hby d4_27) rfl k)) ?_
    show OGo _ _ _ _ (T6.setTop (mkF m 28 #[.val (.ref a1), .val (.long q1), .second] [(.int ((0 : Int32) + (1 : Int32))), (.ref a1)]))
    rw [show ((0 : Int32) + (1 : Int32)) = (1 : Int32) from by decide]
    refine OGo.via (fun _ k => XS.aloadN X6.here hx rfl (hb hby d4_28) rfl rfl k) ?_
    obtain ⟨T8, X8, e8, st8⟩ := getF X6 hx hZ hown (host := "") (Or.inl (own_w hw 12 rfl)) Via.refl e6 F_positions_a1 (g := (mkF m 29 #[.val (.ref a1), .val (.long q1), .second] [(.ref a1), (.int (1 : Int32)), (.ref a1)])) rfl rfl (hb hby d4_29)
    refine OGo.via st8 ?_
    show OGo _ _ _ _ (T8.setTop (mkF m 32 #[.val (.ref a1), .val (.long q1), .second] [(.ref pa), (.int (1 : Int32)), (.ref a1)]))
    obtain ⟨cl9, Ar9, q9, Sz9, Ng9, Hs9, Gf9⟩ := id V_pa
    refine OGo.via (X8.arraylength hx (by rw [e8]; exact Ar9.1) (State.isArrayOf_alike hZ.alike Ar9.2.1) (g := (mkF m 32 #[.val (.ref a1), .val (.long q1), .second] [(.ref pa), (.int (1 : Int32)), (.ref a1)])) rfl rfl (hb hby d4_32)) ?_
    rw [len_of Sz9 Ng9]
    show OGo _ _ _ _ (T8.setTop (mkF m 33 #[.val (.ref a1), .val (.long q1), .second] [(.int (4 : Int32)), (.int (1 : Int32)), (.ref a1)]))
    refine OGo.via (fun _ k => XS.iconst X8.here hx rfl (hb hby d4_33) (XS.isub X8.here hx rfl (hb hby d4_34) rfl k)) ?_
    show OGo _ _ _ _ (T8.setTop (mkF m 35 #[.val (.ref a1), .val (.long q1), .second] [(.int ((4 : Int32) - (1 : Int32))), (.int (1 : Int32)), (.ref a1)]))
    rw [show ((4 : Int32) - (1 : Int32)) = (3 : Int32) from by decide]
    refine OGo.via (fun _ k => XS.iand X8.here hx rfl (hb hby d4_35) rfl k) ?_
    show OGo _ _ _ _ (T8.setTop (mkF m 36 #[.val (.ref a1), .val (.long q1), .second] [(.int ((1 : Int32) &&& (3 : Int32))), (.ref a1)]))
    rw [show ((1 : Int32) &&& (3 : Int32)) = (1 : Int32) from by decide]
    obtain ⟨T12, h12, X12, e12, W12, st12⟩ := putF X8 hx hZ hown (host := "") (Or.inl (own_w hw 30 rfl)) Via.refl e8 F_first_a1 E_a1 (Or.inl (own_w hw 31 rfl)) (own_w hw 2 rfl) (ty := .int) (by decide) rfl rfl (g := (mkF m 36 #[.val (.ref a1), .val (.long q1), .second] [(.int (1 : Int32)), (.ref a1)])) rfl rfl (hb hby d4_36)
    refine OGo.via st12 ?_
    have Fw12 := F_first_a1.same W12
    have K12 : Keep h0 h12 [a1] := (Keep.refl h0 [a1]).wr W12 (Or.inl (List.mem_of_getElem? (i := 0) rfl))
    have N12 := Fr.snoc X12 N0 g_a1
    show OGo _ _ _ _ (T12.setTop (mkF m 39 #[.val (.ref a1), .val (.long q1), .second] []))
    refine OGo.via (fun _ k => XS.aloadN X12.here hx rfl (hb hby d4_39) rfl rfl (XS.dup X12.here hx rfl (hb hby d4_40) rfl rfl k)) ?_
    have f14 := F_count_a1.other W12 (Or.inr (slot_ne (Or.inl (own_w hw 28 rfl)) (Or.inl (own_w hw 31 rfl)) (by decide) (t := .int) (t' := .int) (by decide) (by decide)))
    obtain ⟨T13, X13, e13, st13⟩ := getF X12 hx hZ hown (host := "") (Or.inl (own_w hw 27 rfl)) Via.refl e12 f14 (g := (mkF m 41 #[.val (.ref a1), .val (.long q1), .second] [(.ref a1), (.ref a1)])) rfl rfl (hb hby d4_41)
    refine OGo.via st13 ?_
    show OGo _ _ _ _ (T13.setTop (mkF m 44 #[.val (.ref a1), .val (.long q1), .second] [(.int (4 : Int32)), (.ref a1)]))
    refine OGo.via (fun _ k => XS.iconst X13.here hx rfl (hb hby d4_44) (XS.isub X13.here hx rfl (hb hby d4_45) rfl k)) ?_
    show OGo _ _ _ _ (T13.setTop (mkF m 46 #[.val (.ref a1), .val (.long q1), .second] [(.int ((4 : Int32) - (1 : Int32))), (.ref a1)]))
    rw [show ((4 : Int32) - (1 : Int32)) = (3 : Int32) from by decide]
    have f17 := E_a1.wr W12
    obtain ⟨T16, h16, X16, e16, W16, st16⟩ := putF X13 hx hZ hown (host := "") (Or.inl (own_w hw 27 rfl)) Via.refl e13 f14 f17 (Or.inl (own_w hw 28 rfl)) (own_w hw 2 rfl) (ty := .int) (by decide) rfl rfl (g := (mkF m 46 #[.val (.ref a1), .val (.long q1), .second] [(.int (3 : Int32)), (.ref a1)])) rfl rfl (hb hby d4_46)
    refine OGo.via st16 ?_
    have Fw16 := f14.same W16
    have K16 : Keep h0 h16 [a1] := K12.wr W16 (Or.inl (List.mem_of_getElem? (i := 0) rfl))
    have N16 := Fr.snoc X16 N12 g_a1
    show OGo _ _ _ _ (T16.setTop (mkF m 49 #[.val (.ref a1), .val (.long q1), .second] []))
    refine OGo.via (fun _ k => XS.goto X16.here hx rfl (pc0 := 49) (pc' := 0) rfl (hb hby d4_49) (by decide) (by decide) (XS.aloadN X16.here hx rfl (hb hby d4_0) rfl rfl k)) ?_
    obtain ⟨T18, X18, e18, st18⟩ := getF X16 hx hZ hown (host := "") (Or.inl (own_w hw 27 rfl)) Via.refl e16 Fw16 (g := (mkF m 1 #[.val (.ref a1), .val (.long q1), .second] [(.ref a1)])) rfl rfl (hb hby d4_1)
    refine OGo.via st18 ?_
    show OGo _ _ _ _ (T18.setTop (mkF m 4 #[.val (.ref a1), .val (.long q1), .second] [(.int (3 : Int32))]))
    refine OGo.via (fun _ k => XS.ifNo X18.here hx rfl (hb hby d4_4) rfl ((if0 _ _).trans (tlt (by decide : (0 : Int32) < (3 : Int32))).2.2.2) k) ?_
    show OGo _ _ _ _ (T18.setTop (mkF m 7 #[.val (.ref a1), .val (.long q1), .second] []))
    refine OGo.via (fun _ k => XS.aloadN X18.here hx rfl (hb hby d4_7) rfl rfl k) ?_
    have f20 := F_times_a1.other W12 (Or.inr (slot_ne (Or.inl (own_w hw 15 rfl)) (Or.inl (own_w hw 31 rfl)) (by decide) (t := (.array .long)) (t' := .int) (by decide) (by decide)))
    have f21 := f20.other W16 (Or.inr (slot_ne (Or.inl (own_w hw 15 rfl)) (Or.inl (own_w hw 28 rfl)) (by decide) (t := (.array .long)) (t' := .int) (by decide) (by decide)))
    obtain ⟨T19, X19, e19, st19⟩ := getF X18 hx hZ hown (host := "") (Or.inl (own_w hw 14 rfl)) Via.refl e18 f21 (g := (mkF m 8 #[.val (.ref a1), .val (.long q1), .second] [(.ref a1)])) rfl rfl (hb hby d4_8)
    refine OGo.via st19 ?_
    show OGo _ _ _ _ (T19.setTop (mkF m 11 #[.val (.ref a1), .val (.long q1), .second] [(.ref ta)]))
    refine OGo.via (fun _ k => XS.aloadN X19.here hx rfl (hb hby d4_11) rfl rfl k) ?_
    have f23 := Fw12.other W16 (Or.inr (slot_ne (Or.inl (own_w hw 31 rfl)) (Or.inl (own_w hw 28 rfl)) (by decide) (t := .int) (t' := .int) (by decide) (by decide)))
    obtain ⟨T22, X22, e22, st22⟩ := getF X19 hx hZ hown (host := "") (Or.inl (own_w hw 30 rfl)) Via.refl e19 f23 (g := (mkF m 12 #[.val (.ref a1), .val (.long q1), .second] [(.ref a1), (.ref ta)])) rfl rfl (hb hby d4_12)
    refine OGo.via st22 ?_
    show OGo _ _ _ _ (T22.setTop (mkF m 15 #[.val (.ref a1), .val (.long q1), .second] [(.int (1 : Int32)), (.ref ta)]))
    have f25 := V_ta.keep K16 (ninS (Ne.symm ne_a1_ta) nin0)
    obtain ⟨cl24, Ar24, q24, Sz24, Ng24, Hs24, Gf24⟩ := id f25
    have hin24 : ¬ ((1 : Int32) < 0 ∨ cl24.slots.size ≤ ((1 : Int32)).toNatClampNeg) := inb_of Sz24 ⟨by decide, by decide⟩
    have hat24 : cl24.slots[((1 : Int32)).toNatClampNeg]? = some (.long t1) := Hs24.at hin24 rfl
    refine OGo.via (X22.laload hx (j := (1 : Int32)) (v := (.long t1)) (by rw [e22]; exact Ar24.1) (State.isArrayOf_alike hZ.alike Ar24.2.1) Ar24.2.2 hin24 hat24 (g := (mkF m 15 #[.val (.ref a1), .val (.long q1), .second] [(.int (1 : Int32)), (.ref ta)])) rfl rfl (hb hby d4_15)) ?_
    show OGo _ _ _ _ (T22.setTop (mkF m 16 #[.val (.ref a1), .val (.long q1), .second] [(.long t1)]))
    refine OGo.via (fun _ k => XS.lloadN X22.here hx rfl (hb hby d4_16) rfl (XS.lcmp X22.here hx rfl (hb hby d4_17) rfl k)) ?_
    by_cases hc18_26 : (lcmpW t1 q1) < (0 : Int32)
    · refine OGo.via (fun _ k => XS.ifNo X22.here hx rfl (hb hby d4_18) rfl ((if0 _ _).trans (tlt hc18_26).2.1) k) ?_
      show OGo _ _ _ _ (T22.setTop (mkF m 21 #[.val (.ref a1), .val (.long q1), .second] []))
      refine OGo.via (fun _ k => XS.aloadN X22.here hx rfl (hb hby d4_21) rfl rfl (XS.aloadN X22.here hx rfl (hb hby d4_22) rfl rfl k)) ?_
      obtain ⟨T27, X27, e27, st27⟩ := getF X22 hx hZ hown (host := "") (Or.inl (own_w hw 30 rfl)) Via.refl e22 f23 (g := (mkF m 23 #[.val (.ref a1), .val (.long q1), .second] [(.ref a1), (.ref a1)])) rfl rfl (hb hby d4_23)
      refine OGo.via st27 ?_
      show OGo _ _ _ _ (T27.setTop (mkF m 26 #[.val (.ref a1), .val (.long q1), .second] [(.int (1 : Int32)), (.ref a1)]))
      refine OGo.via (fun _ k => XS.iconst X27.here hx rfl (hb hby d4_26) (XS.iadd X27.here hx rfl (hb hby d4_27) rfl k)) ?_
      show OGo _ _ _ _ (T27.setTop (mkF m 28 #[.val (.ref a1), .val (.long q1), .second] [(.int ((1 : Int32) + (1 : Int32))), (.ref a1)]))
      rw [show ((1 : Int32) + (1 : Int32)) = (2 : Int32) from by decide]
      refine OGo.via (fun _ k => XS.aloadN X27.here hx rfl (hb hby d4_28) rfl rfl k) ?_
      have f30 := F_positions_a1.other W12 (Or.inr (slot_ne (Or.inl (own_w hw 13 rfl)) (Or.inl (own_w hw 31 rfl)) (by decide) (t := (.array .long)) (t' := .int) (by decide) (by decide)))
      have f31 := f30.other W16 (Or.inr (slot_ne (Or.inl (own_w hw 13 rfl)) (Or.inl (own_w hw 28 rfl)) (by decide) (t := (.array .long)) (t' := .int) (by decide) (by decide)))
      obtain ⟨T29, X29, e29, st29⟩ := getF X27 hx hZ hown (host := "") (Or.inl (own_w hw 12 rfl)) Via.refl e27 f31 (g := (mkF m 29 #[.val (.ref a1), .val (.long q1), .second] [(.ref a1), (.int (2 : Int32)), (.ref a1)])) rfl rfl (hb hby d4_29)
      refine OGo.via st29 ?_
      show OGo _ _ _ _ (T29.setTop (mkF m 32 #[.val (.ref a1), .val (.long q1), .second] [(.ref pa), (.int (2 : Int32)), (.ref a1)]))
      have f33 := V_pa.keep K16 (ninS (Ne.symm ne_a1_pa) nin0)
      obtain ⟨cl32, Ar32, q32, Sz32, Ng32, Hs32, Gf32⟩ := id f33
      refine OGo.via (X29.arraylength hx (by rw [e29]; exact Ar32.1) (State.isArrayOf_alike hZ.alike Ar32.2.1) (g := (mkF m 32 #[.val (.ref a1), .val (.long q1), .second] [(.ref pa), (.int (2 : Int32)), (.ref a1)])) rfl rfl (hb hby d4_32)) ?_
      rw [len_of Sz32 Ng32]
      show OGo _ _ _ _ (T29.setTop (mkF m 33 #[.val (.ref a1), .val (.long q1), .second] [(.int (4 : Int32)), (.int (2 : Int32)), (.ref a1)]))
      refine OGo.via (fun _ k => XS.iconst X29.here hx rfl (hb hby d4_33) (XS.isub X29.here hx rfl (hb hby d4_34) rfl k)) ?_
      show OGo _ _ _ _ (T29.setTop (mkF m 35 #[.val (.ref a1), .val (.long q1), .second] [(.int ((4 : Int32) - (1 : Int32))), (.int (2 : Int32)), (.ref a1)]))
      rw [show ((4 : Int32) - (1 : Int32)) = (3 : Int32) from by decide]
      refine OGo.via (fun _ k => XS.iand X29.here hx rfl (hb hby d4_35) rfl k) ?_
      show OGo _ _ _ _ (T29.setTop (mkF m 36 #[.val (.ref a1), .val (.long q1), .second] [(.int ((2 : Int32) &&& (3 : Int32))), (.ref a1)]))
      rw [show ((2 : Int32) &&& (3 : Int32)) = (2 : Int32) from by decide]
      have f37 := f17.wr W16
      obtain ⟨T36, h36, X36, e36, W36, st36⟩ := putF X29 hx hZ hown (host := "") (Or.inl (own_w hw 30 rfl)) Via.refl e29 f23 f37 (Or.inl (own_w hw 31 rfl)) (own_w hw 2 rfl) (ty := .int) (by decide) rfl rfl (g := (mkF m 36 #[.val (.ref a1), .val (.long q1), .second] [(.int (2 : Int32)), (.ref a1)])) rfl rfl (hb hby d4_36)
      refine OGo.via st36 ?_
      have Fw36 := f23.same W36
      have K36 : Keep h0 h36 [a1] := K16.wr W36 (Or.inl (List.mem_of_getElem? (i := 0) rfl))
      have N36 := Fr.snoc X36 N16 g_a1
      show OGo _ _ _ _ (T36.setTop (mkF m 39 #[.val (.ref a1), .val (.long q1), .second] []))
      refine OGo.via (fun _ k => XS.aloadN X36.here hx rfl (hb hby d4_39) rfl rfl (XS.dup X36.here hx rfl (hb hby d4_40) rfl rfl k)) ?_
      have f39 := Fw16.other W36 (Or.inr (slot_ne (Or.inl (own_w hw 28 rfl)) (Or.inl (own_w hw 31 rfl)) (by decide) (t := .int) (t' := .int) (by decide) (by decide)))
      obtain ⟨T38, X38, e38, st38⟩ := getF X36 hx hZ hown (host := "") (Or.inl (own_w hw 27 rfl)) Via.refl e36 f39 (g := (mkF m 41 #[.val (.ref a1), .val (.long q1), .second] [(.ref a1), (.ref a1)])) rfl rfl (hb hby d4_41)
      refine OGo.via st38 ?_
      show OGo _ _ _ _ (T38.setTop (mkF m 44 #[.val (.ref a1), .val (.long q1), .second] [(.int (3 : Int32)), (.ref a1)]))
      refine OGo.via (fun _ k => XS.iconst X38.here hx rfl (hb hby d4_44) (XS.isub X38.here hx rfl (hb hby d4_45) rfl k)) ?_
      show OGo _ _ _ _ (T38.setTop (mkF m 46 #[.val (.ref a1), .val (.long q1), .second] [(.int ((3 : Int32) - (1 : Int32))), (.ref a1)]))
      rw [show ((3 : Int32) - (1 : Int32)) = (2 : Int32) from by decide]
      have f42 := f37.wr W36
      obtain ⟨T41, h41, X41, e41, W41, st41⟩ := putF X38 hx hZ hown (host := "") (Or.inl (own_w hw 27 rfl)) Via.refl e38 f39 f42 (Or.inl (own_w hw 28 rfl)) (own_w hw 2 rfl) (ty := .int) (by decide) rfl rfl (g := (mkF m 46 #[.val (.ref a1), .val (.long q1), .second] [(.int (2 : Int32)), (.ref a1)])) rfl rfl (hb hby d4_46)
      refine OGo.via st41 ?_
      have Fw41 := f39.same W41
      have K41 : Keep h0 h41 [a1] := K36.wr W41 (Or.inl (List.mem_of_getElem? (i := 0) rfl))
      have N41 := Fr.snoc X41 N36 g_a1
      show OGo _ _ _ _ (T41.setTop (mkF m 49 #[.val (.ref a1), .val (.long q1), .second] []))
      refine OGo.via (fun _ k => XS.goto X41.here hx rfl (pc0 := 49) (pc' := 0) rfl (hb hby d4_49) (by decide) (by decide) (XS.aloadN X41.here hx rfl (hb hby d4_0) rfl rfl k)) ?_
      obtain ⟨T43, X43, e43, st43⟩ := getF X41 hx hZ hown (host := "") (Or.inl (own_w hw 27 rfl)) Via.refl e41 Fw41 (g := (mkF m 1 #[.val (.ref a1), .val (.long q1), .second] [(.ref a1)])) rfl rfl (hb hby d4_1)
      refine OGo.via st43 ?_
      show OGo _ _ _ _ (T43.setTop (mkF m 4 #[.val (.ref a1), .val (.long q1), .second] [(.int (2 : Int32))]))
      refine OGo.via (fun _ k => XS.ifNo X43.here hx rfl (hb hby d4_4) rfl ((if0 _ _).trans (tlt (by decide : (0 : Int32) < (2 : Int32))).2.2.2) k) ?_
      show OGo _ _ _ _ (T43.setTop (mkF m 7 #[.val (.ref a1), .val (.long q1), .second] []))
      refine OGo.via (fun _ k => XS.aloadN X43.here hx rfl (hb hby d4_7) rfl rfl k) ?_
      have f45 := f21.other W36 (Or.inr (slot_ne (Or.inl (own_w hw 15 rfl)) (Or.inl (own_w hw 31 rfl)) (by decide) (t := (.array .long)) (t' := .int) (by decide) (by decide)))
      have f46 := f45.other W41 (Or.inr (slot_ne (Or.inl (own_w hw 15 rfl)) (Or.inl (own_w hw 28 rfl)) (by decide) (t := (.array .long)) (t' := .int) (by decide) (by decide)))
      obtain ⟨T44, X44, e44, st44⟩ := getF X43 hx hZ hown (host := "") (Or.inl (own_w hw 14 rfl)) Via.refl e43 f46 (g := (mkF m 8 #[.val (.ref a1), .val (.long q1), .second] [(.ref a1)])) rfl rfl (hb hby d4_8)
      refine OGo.via st44 ?_
      show OGo _ _ _ _ (T44.setTop (mkF m 11 #[.val (.ref a1), .val (.long q1), .second] [(.ref ta)]))
      refine OGo.via (fun _ k => XS.aloadN X44.here hx rfl (hb hby d4_11) rfl rfl k) ?_
      have f48 := Fw36.other W41 (Or.inr (slot_ne (Or.inl (own_w hw 31 rfl)) (Or.inl (own_w hw 28 rfl)) (by decide) (t := .int) (t' := .int) (by decide) (by decide)))
      obtain ⟨T47, X47, e47, st47⟩ := getF X44 hx hZ hown (host := "") (Or.inl (own_w hw 30 rfl)) Via.refl e44 f48 (g := (mkF m 12 #[.val (.ref a1), .val (.long q1), .second] [(.ref a1), (.ref ta)])) rfl rfl (hb hby d4_12)
      refine OGo.via st47 ?_
      show OGo _ _ _ _ (T47.setTop (mkF m 15 #[.val (.ref a1), .val (.long q1), .second] [(.int (2 : Int32)), (.ref ta)]))
      have f50 := f25.other W36 (Ne.symm ne_a1_ta)
      have f51 := f50.other W41 (Ne.symm ne_a1_ta)
      obtain ⟨cl49, Ar49, q49, Sz49, Ng49, Hs49, Gf49⟩ := id f51
      have hin49 : ¬ ((2 : Int32) < 0 ∨ cl49.slots.size ≤ ((2 : Int32)).toNatClampNeg) := inb_of Sz49 ⟨by decide, by decide⟩
      have hat49 : cl49.slots[((2 : Int32)).toNatClampNeg]? = some (.long t2) := Hs49.at hin49 rfl
      refine OGo.via (X47.laload hx (j := (2 : Int32)) (v := (.long t2)) (by rw [e47]; exact Ar49.1) (State.isArrayOf_alike hZ.alike Ar49.2.1) Ar49.2.2 hin49 hat49 (g := (mkF m 15 #[.val (.ref a1), .val (.long q1), .second] [(.int (2 : Int32)), (.ref ta)])) rfl rfl (hb hby d4_15)) ?_
      show OGo _ _ _ _ (T47.setTop (mkF m 16 #[.val (.ref a1), .val (.long q1), .second] [(.long t2)]))
      refine OGo.via (fun _ k => XS.lloadN X47.here hx rfl (hb hby d4_16) rfl (XS.lcmp X47.here hx rfl (hb hby d4_17) rfl k)) ?_
      by_cases hc18_52 : (lcmpW t2 q1) < (0 : Int32)
      · refine OGo.via (fun _ k => XS.ifNo X47.here hx rfl (hb hby d4_18) rfl ((if0 _ _).trans (tlt hc18_52).2.1) k) ?_
        show OGo _ _ _ _ (T47.setTop (mkF m 21 #[.val (.ref a1), .val (.long q1), .second] []))
        refine OGo.via (fun _ k => XS.aloadN X47.here hx rfl (hb hby d4_21) rfl rfl (XS.aloadN X47.here hx rfl (hb hby d4_22) rfl rfl k)) ?_
        obtain ⟨T53, X53, e53, st53⟩ := getF X47 hx hZ hown (host := "") (Or.inl (own_w hw 30 rfl)) Via.refl e47 f48 (g := (mkF m 23 #[.val (.ref a1), .val (.long q1), .second] [(.ref a1), (.ref a1)])) rfl rfl (hb hby d4_23)
        refine OGo.via st53 ?_
        show OGo _ _ _ _ (T53.setTop (mkF m 26 #[.val (.ref a1), .val (.long q1), .second] [(.int (2 : Int32)), (.ref a1)]))
        refine OGo.via (fun _ k => XS.iconst X53.here hx rfl (hb hby d4_26) (XS.iadd X53.here hx rfl (hb hby d4_27) rfl k)) ?_
        show OGo _ _ _ _ (T53.setTop (mkF m 28 #[.val (.ref a1), .val (.long q1), .second] [(.int ((2 : Int32) + (1 : Int32))), (.ref a1)]))
        rw [show ((2 : Int32) + (1 : Int32)) = (3 : Int32) from by decide]
        refine OGo.via (fun _ k => XS.aloadN X53.here hx rfl (hb hby d4_28) rfl rfl k) ?_
        have f56 := f31.other W36 (Or.inr (slot_ne (Or.inl (own_w hw 13 rfl)) (Or.inl (own_w hw 31 rfl)) (by decide) (t := (.array .long)) (t' := .int) (by decide) (by decide)))
        have f57 := f56.other W41 (Or.inr (slot_ne (Or.inl (own_w hw 13 rfl)) (Or.inl (own_w hw 28 rfl)) (by decide) (t := (.array .long)) (t' := .int) (by decide) (by decide)))
        obtain ⟨T55, X55, e55, st55⟩ := getF X53 hx hZ hown (host := "") (Or.inl (own_w hw 12 rfl)) Via.refl e53 f57 (g := (mkF m 29 #[.val (.ref a1), .val (.long q1), .second] [(.ref a1), (.int (3 : Int32)), (.ref a1)])) rfl rfl (hb hby d4_29)
        refine OGo.via st55 ?_
        show OGo _ _ _ _ (T55.setTop (mkF m 32 #[.val (.ref a1), .val (.long q1), .second] [(.ref pa), (.int (3 : Int32)), (.ref a1)]))
        have f59 := f33.other W36 (Ne.symm ne_a1_pa)
        have f60 := f59.other W41 (Ne.symm ne_a1_pa)
        obtain ⟨cl58, Ar58, q58, Sz58, Ng58, Hs58, Gf58⟩ := id f60
        refine OGo.via (X55.arraylength hx (by rw [e55]; exact Ar58.1) (State.isArrayOf_alike hZ.alike Ar58.2.1) (g := (mkF m 32 #[.val (.ref a1), .val (.long q1), .second] [(.ref pa), (.int (3 : Int32)), (.ref a1)])) rfl rfl (hb hby d4_32)) ?_
        rw [len_of Sz58 Ng58]
        show OGo _ _ _ _ (T55.setTop (mkF m 33 #[.val (.ref a1), .val (.long q1), .second] [(.int (4 : Int32)), (.int (3 : Int32)), (.ref a1)]))
        refine OGo.via (fun _ k => XS.iconst X55.here hx rfl (hb hby d4_33) (XS.isub X55.here hx rfl (hb hby d4_34) rfl k)) ?_
        show OGo _ _ _ _ (T55.setTop (mkF m 35 #[.val (.ref a1), .val (.long q1), .second] [(.int ((4 : Int32) - (1 : Int32))), (.int (3 : Int32)), (.ref a1)]))
        rw [show ((4 : Int32) - (1 : Int32)) = (3 : Int32) from by decide]
        refine OGo.via (fun _ k => XS.iand X55.here hx rfl (hb hby d4_35) rfl k) ?_
        show OGo _ _ _ _ (T55.setTop (mkF m 36 #[.val (.ref a1), .val (.long q1), .second] [(.int ((3 : Int32) &&& (3 : Int32))), (.ref a1)]))
        rw [show ((3 : Int32) &&& (3 : Int32)) = (3 : Int32) from by decide]
        have f64 := f42.wr W41
        obtain ⟨T63, h63, X63, e63, W63, st63⟩ := putF X55 hx hZ hown (host := "") (Or.inl (own_w hw 30 rfl)) Via.refl e55 f48 f64 (Or.inl (own_w hw 31 rfl)) (own_w hw 2 rfl) (ty := .int) (by decide) rfl rfl (g := (mkF m 36 #[.val (.ref a1), .val (.long q1), .second] [(.int (3 : Int32)), (.ref a1)])) rfl rfl (hb hby d4_36)
        refine OGo.via st63 ?_
        have Fw63 := f48.same W63
        have K63 : Keep h0 h63 [a1] := K41.wr W63 (Or.inl (List.mem_of_getElem? (i := 0) rfl))
        have N63 := Fr.snoc X63 N41 g_a1
        show OGo _ _ _ _ (T63.setTop (mkF m 39 #[.val (.ref a1), .val (.long q1), .second] []))
        refine OGo.via (fun _ k => XS.aloadN X63.here hx rfl (hb hby d4_39) rfl rfl (XS.dup X63.here hx rfl (hb hby d4_40) rfl rfl k)) ?_
        have f66 := Fw41.other W63 (Or.inr (slot_ne (Or.inl (own_w hw 28 rfl)) (Or.inl (own_w hw 31 rfl)) (by decide) (t := .int) (t' := .int) (by decide) (by decide)))
        obtain ⟨T65, X65, e65, st65⟩ := getF X63 hx hZ hown (host := "") (Or.inl (own_w hw 27 rfl)) Via.refl e63 f66 (g := (mkF m 41 #[.val (.ref a1), .val (.long q1), .second] [(.ref a1), (.ref a1)])) rfl rfl (hb hby d4_41)
        refine OGo.via st65 ?_
        show OGo _ _ _ _ (T65.setTop (mkF m 44 #[.val (.ref a1), .val (.long q1), .second] [(.int (2 : Int32)), (.ref a1)]))
        refine OGo.via (fun _ k => XS.iconst X65.here hx rfl (hb hby d4_44) (XS.isub X65.here hx rfl (hb hby d4_45) rfl k)) ?_
        show OGo _ _ _ _ (T65.setTop (mkF m 46 #[.val (.ref a1), .val (.long q1), .second] [(.int ((2 : Int32) - (1 : Int32))), (.ref a1)]))
        rw [show ((2 : Int32) - (1 : Int32)) = (1 : Int32) from by decide]
        have f69 := f64.wr W63
        obtain ⟨T68, h68, X68, e68, W68, st68⟩ := putF X65 hx hZ hown (host := "") (Or.inl (own_w hw 27 rfl)) Via.refl e65 f66 f69 (Or.inl (own_w hw 28 rfl)) (own_w hw 2 rfl) (ty := .int) (by decide) rfl rfl (g := (mkF m 46 #[.val (.ref a1), .val (.long q1), .second] [(.int (1 : Int32)), (.ref a1)])) rfl rfl (hb hby d4_46)
        refine OGo.via st68 ?_
        have Fw68 := f66.same W68
        have K68 : Keep h0 h68 [a1] := K63.wr W68 (Or.inl (List.mem_of_getElem? (i := 0) rfl))
        have N68 := Fr.snoc X68 N63 g_a1
        show OGo _ _ _ _ (T68.setTop (mkF m 49 #[.val (.ref a1), .val (.long q1), .second] []))
        refine OGo.via (fun _ k => XS.goto X68.here hx rfl (pc0 := 49) (pc' := 0) rfl (hb hby d4_49) (by decide) (by decide) (XS.aloadN X68.here hx rfl (hb hby d4_0) rfl rfl k)) ?_
        obtain ⟨T70, X70, e70, st70⟩ := getF X68 hx hZ hown (host := "") (Or.inl (own_w hw 27 rfl)) Via.refl e68 Fw68 (g := (mkF m 1 #[.val (.ref a1), .val (.long q1), .second] [(.ref a1)])) rfl rfl (hb hby d4_1)
        refine OGo.via st70 ?_
        show OGo _ _ _ _ (T70.setTop (mkF m 4 #[.val (.ref a1), .val (.long q1), .second] [(.int (1 : Int32))]))
        refine OGo.via (fun _ k => XS.ifNo X70.here hx rfl (hb hby d4_4) rfl ((if0 _ _).trans (tlt (by decide : (0 : Int32) < (1 : Int32))).2.2.2) k) ?_
        show OGo _ _ _ _ (T70.setTop (mkF m 7 #[.val (.ref a1), .val (.long q1), .second] []))
        refine OGo.via (fun _ k => XS.aloadN X70.here hx rfl (hb hby d4_7) rfl rfl k) ?_
        have f72 := f46.other W63 (Or.inr (slot_ne (Or.inl (own_w hw 15 rfl)) (Or.inl (own_w hw 31 rfl)) (by decide) (t := (.array .long)) (t' := .int) (by decide) (by decide)))
        have f73 := f72.other W68 (Or.inr (slot_ne (Or.inl (own_w hw 15 rfl)) (Or.inl (own_w hw 28 rfl)) (by decide) (t := (.array .long)) (t' := .int) (by decide) (by decide)))
        obtain ⟨T71, X71, e71, st71⟩ := getF X70 hx hZ hown (host := "") (Or.inl (own_w hw 14 rfl)) Via.refl e70 f73 (g := (mkF m 8 #[.val (.ref a1), .val (.long q1), .second] [(.ref a1)])) rfl rfl (hb hby d4_8)
        refine OGo.via st71 ?_
        show OGo _ _ _ _ (T71.setTop (mkF m 11 #[.val (.ref a1), .val (.long q1), .second] [(.ref ta)]))
        refine OGo.via (fun _ k => XS.aloadN X71.here hx rfl (hb hby d4_11) rfl rfl k) ?_
        have f75 := Fw63.other W68 (Or.inr (slot_ne (Or.inl (own_w hw 31 rfl)) (Or.inl (own_w hw 28 rfl)) (by decide) (t := .int) (t' := .int) (by decide) (by decide)))
        obtain ⟨T74, X74, e74, st74⟩ := getF X71 hx hZ hown (host := "") (Or.inl (own_w hw 30 rfl)) Via.refl e71 f75 (g := (mkF m 12 #[.val (.ref a1), .val (.long q1), .second] [(.ref a1), (.ref ta)])) rfl rfl (hb hby d4_12)
        refine OGo.via st74 ?_
        show OGo _ _ _ _ (T74.setTop (mkF m 15 #[.val (.ref a1), .val (.long q1), .second] [(.int (3 : Int32)), (.ref ta)]))
        have f77 := f51.other W63 (Ne.symm ne_a1_ta)
        have f78 := f77.other W68 (Ne.symm ne_a1_ta)
        obtain ⟨cl76, Ar76, q76, Sz76, Ng76, Hs76, Gf76⟩ := id f78
        have hin76 : ¬ ((3 : Int32) < 0 ∨ cl76.slots.size ≤ ((3 : Int32)).toNatClampNeg) := inb_of Sz76 ⟨by decide, by decide⟩
        have hat76 : cl76.slots[((3 : Int32)).toNatClampNeg]? = some (.long t3) := Hs76.at hin76 rfl
        refine OGo.via (X74.laload hx (j := (3 : Int32)) (v := (.long t3)) (by rw [e74]; exact Ar76.1) (State.isArrayOf_alike hZ.alike Ar76.2.1) Ar76.2.2 hin76 hat76 (g := (mkF m 15 #[.val (.ref a1), .val (.long q1), .second] [(.int (3 : Int32)), (.ref ta)])) rfl rfl (hb hby d4_15)) ?_
        show OGo _ _ _ _ (T74.setTop (mkF m 16 #[.val (.ref a1), .val (.long q1), .second] [(.long t3)]))
        refine OGo.via (fun _ k => XS.lloadN X74.here hx rfl (hb hby d4_16) rfl (XS.lcmp X74.here hx rfl (hb hby d4_17) rfl k)) ?_
        by_cases hc18_79 : (lcmpW t3 q1) < (0 : Int32)
        · refine OGo.via (fun _ k => XS.ifNo X74.here hx rfl (hb hby d4_18) rfl ((if0 _ _).trans (tlt hc18_79).2.1) k) ?_
          show OGo _ _ _ _ (T74.setTop (mkF m 21 #[.val (.ref a1), .val (.long q1), .second] []))
          refine OGo.via (fun _ k => XS.aloadN X74.here hx rfl (hb hby d4_21) rfl rfl (XS.aloadN X74.here hx rfl (hb hby d4_22) rfl rfl k)) ?_
          obtain ⟨T80, X80, e80, st80⟩ := getF X74 hx hZ hown (host := "") (Or.inl (own_w hw 30 rfl)) Via.refl e74 f75 (g := (mkF m 23 #[.val (.ref a1), .val (.long q1), .second] [(.ref a1), (.ref a1)])) rfl rfl (hb hby d4_23)
          refine OGo.via st80 ?_
          show OGo _ _ _ _ (T80.setTop (mkF m 26 #[.val (.ref a1), .val (.long q1), .second] [(.int (3 : Int32)), (.ref a1)]))
          refine OGo.via (fun _ k => XS.iconst X80.here hx rfl (hb hby d4_26) (XS.iadd X80.here hx rfl (hb hby d4_27) rfl k)) ?_
          show OGo _ _ _ _ (T80.setTop (mkF m 28 #[.val (.ref a1), .val (.long q1), .second] [(.int ((3 : Int32) + (1 : Int32))), (.ref a1)]))
          rw [show ((3 : Int32) + (1 : Int32)) = (4 : Int32) from by decide]
          refine OGo.via (fun _ k => XS.aloadN X80.here hx rfl (hb hby d4_28) rfl rfl k) ?_
          have f83 := f57.other W63 (Or.inr (slot_ne (Or.inl (own_w hw 13 rfl)) (Or.inl (own_w hw 31 rfl)) (by decide) (t := (.array .long)) (t' := .int) (by decide) (by decide)))
          have f84 := f83.other W68 (Or.inr (slot_ne (Or.inl (own_w hw 13 rfl)) (Or.inl (own_w hw 28 rfl)) (by decide) (t := (.array .long)) (t' := .int) (by decide) (by decide)))
          obtain ⟨T82, X82, e82, st82⟩ := getF X80 hx hZ hown (host := "") (Or.inl (own_w hw 12 rfl)) Via.refl e80 f84 (g := (mkF m 29 #[.val (.ref a1), .val (.long q1), .second] [(.ref a1), (.int (4 : Int32)), (.ref a1)])) rfl rfl (hb hby d4_29)
          refine OGo.via st82 ?_
          show OGo _ _ _ _ (T82.setTop (mkF m 32 #[.val (.ref a1), .val (.long q1), .second] [(.ref pa), (.int (4 : Int32)), (.ref a1)]))
          have f86 := f60.other W63 (Ne.symm ne_a1_pa)
          have f87 := f86.other W68 (Ne.symm ne_a1_pa)
          obtain ⟨cl85, Ar85, q85, Sz85, Ng85, Hs85, Gf85⟩ := id f87
          refine OGo.via (X82.arraylength hx (by rw [e82]; exact Ar85.1) (State.isArrayOf_alike hZ.alike Ar85.2.1) (g := (mkF m 32 #[.val (.ref a1), .val (.long q1), .second] [(.ref pa), (.int (4 : Int32)), (.ref a1)])) rfl rfl (hb hby d4_32)) ?_
          rw [len_of Sz85 Ng85]
          show OGo _ _ _ _ (T82.setTop (mkF m 33 #[.val (.ref a1), .val (.long q1), .second] [(.int (4 : Int32)), (.int (4 : Int32)), (.ref a1)]))
          refine OGo.via (fun _ k => XS.iconst X82.here hx rfl (hb hby d4_33) (XS.isub X82.here hx rfl (hb hby d4_34) rfl k)) ?_
          show OGo _ _ _ _ (T82.setTop (mkF m 35 #[.val (.ref a1), .val (.long q1), .second] [(.int ((4 : Int32) - (1 : Int32))), (.int (4 : Int32)), (.ref a1)]))
          rw [show ((4 : Int32) - (1 : Int32)) = (3 : Int32) from by decide]
          refine OGo.via (fun _ k => XS.iand X82.here hx rfl (hb hby d4_35) rfl k) ?_
          show OGo _ _ _ _ (T82.setTop (mkF m 36 #[.val (.ref a1), .val (.long q1), .second] [(.int ((4 : Int32) &&& (3 : Int32))), (.ref a1)]))
          rw [show ((4 : Int32) &&& (3 : Int32)) = (0 : Int32) from by decide]
          have f91 := f69.wr W68
          obtain ⟨T90, h90, X90, e90, W90, st90⟩ := putF X82 hx hZ hown (host := "") (Or.inl (own_w hw 30 rfl)) Via.refl e82 f75 f91 (Or.inl (own_w hw 31 rfl)) (own_w hw 2 rfl) (ty := .int) (by decide) rfl rfl (g := (mkF m 36 #[.val (.ref a1), .val (.long q1), .second] [(.int (0 : Int32)), (.ref a1)])) rfl rfl (hb hby d4_36)
          refine OGo.via st90 ?_
          have Fw90 := f75.same W90
          have K90 : Keep h0 h90 [a1] := K68.wr W90 (Or.inl (List.mem_of_getElem? (i := 0) rfl))
          have N90 := Fr.snoc X90 N68 g_a1
          show OGo _ _ _ _ (T90.setTop (mkF m 39 #[.val (.ref a1), .val (.long q1), .second] []))
          refine OGo.via (fun _ k => XS.aloadN X90.here hx rfl (hb hby d4_39) rfl rfl (XS.dup X90.here hx rfl (hb hby d4_40) rfl rfl k)) ?_
          have f93 := Fw68.other W90 (Or.inr (slot_ne (Or.inl (own_w hw 28 rfl)) (Or.inl (own_w hw 31 rfl)) (by decide) (t := .int) (t' := .int) (by decide) (by decide)))
          obtain ⟨T92, X92, e92, st92⟩ := getF X90 hx hZ hown (host := "") (Or.inl (own_w hw 27 rfl)) Via.refl e90 f93 (g := (mkF m 41 #[.val (.ref a1), .val (.long q1), .second] [(.ref a1), (.ref a1)])) rfl rfl (hb hby d4_41)
          refine OGo.via st92 ?_
          show OGo _ _ _ _ (T92.setTop (mkF m 44 #[.val (.ref a1), .val (.long q1), .second] [(.int (1 : Int32)), (.ref a1)]))
          refine OGo.via (fun _ k => XS.iconst X92.here hx rfl (hb hby d4_44) (XS.isub X92.here hx rfl (hb hby d4_45) rfl k)) ?_
          show OGo _ _ _ _ (T92.setTop (mkF m 46 #[.val (.ref a1), .val (.long q1), .second] [(.int ((1 : Int32) - (1 : Int32))), (.ref a1)]))
          rw [show ((1 : Int32) - (1 : Int32)) = (0 : Int32) from by decide]
          have f96 := f91.wr W90
          obtain ⟨T95, h95, X95, e95, W95, st95⟩ := putF X92 hx hZ hown (host := "") (Or.inl (own_w hw 27 rfl)) Via.refl e92 f93 f96 (Or.inl (own_w hw 28 rfl)) (own_w hw 2 rfl) (ty := .int) (by decide) rfl rfl (g := (mkF m 46 #[.val (.ref a1), .val (.long q1), .second] [(.int (0 : Int32)), (.ref a1)])) rfl rfl (hb hby d4_46)
          refine OGo.via st95 ?_
          have Fw95 := f93.same W95
          have K95 : Keep h0 h95 [a1] := K90.wr W95 (Or.inl (List.mem_of_getElem? (i := 0) rfl))
          have N95 := Fr.snoc X95 N90 g_a1
          show OGo _ _ _ _ (T95.setTop (mkF m 49 #[.val (.ref a1), .val (.long q1), .second] []))
          refine OGo.via (fun _ k => XS.goto X95.here hx rfl (pc0 := 49) (pc' := 0) rfl (hb hby d4_49) (by decide) (by decide) (XS.aloadN X95.here hx rfl (hb hby d4_0) rfl rfl k)) ?_
          obtain ⟨T97, X97, e97, st97⟩ := getF X95 hx hZ hown (host := "") (Or.inl (own_w hw 27 rfl)) Via.refl e95 Fw95 (g := (mkF m 1 #[.val (.ref a1), .val (.long q1), .second] [(.ref a1)])) rfl rfl (hb hby d4_1)
          refine OGo.via st97 ?_
          show OGo _ _ _ _ (T97.setTop (mkF m 4 #[.val (.ref a1), .val (.long q1), .second] [(.int (0 : Int32))]))
          refine OGo.via (fun _ k => XS.ifYes X97.here hx rfl (pc0 := 4) (pc' := 52) rfl (hb hby d4_4) rfl ((if0 _ _).trans (flt (by decide : ¬ ((0 : Int32) < (0 : Int32)))).2.2.2) (by decide) (by decide) k) ?_
          show OGo _ _ _ _ (T97.setTop (mkF m 52 #[.val (.ref a1), .val (.long q1), .second] []))
          refine OGo.via (fun _ k => XS.aloadN X97.here hx rfl (hb hby d4_52) rfl rfl k) ?_
          obtain ⟨T98, X98, e98, st98⟩ := getF X97 hx hZ hown (host := "") (Or.inl (own_w hw 27 rfl)) Via.refl e97 Fw95 (g := (mkF m 53 #[.val (.ref a1), .val (.long q1), .second] [(.ref a1)])) rfl rfl (hb hby d4_53)
          refine OGo.via st98 ?_
          show OGo _ _ _ _ (T98.setTop (mkF m 56 #[.val (.ref a1), .val (.long q1), .second] [(.int (0 : Int32))]))
          refine OGo.via (fun _ k => XS.ifNo X98.here hx rfl (hb hby d4_56) rfl ((if0 _ _).trans (teq (by decide : (0 : Int32) = (0 : Int32))).2) k) ?_
          show OGo _ _ _ _ (T98.setTop (mkF m 59 #[.val (.ref a1), .val (.long q1), .second] []))
          refine OGo.via (X98.ldc2Long hx hown (mvT hZ (own_w hw 29 rfl)) (g := (mkF m 59 #[.val (.ref a1), .val (.long q1), .second] [])) rfl (hb hby d4_59)) ?_
          show OGo _ _ _ _ (T98.setTop (mkF m 62 #[.val (.ref a1), .val (.long q1), .second] [(.long (9223372036854775807 : Int64))]))
          refine OGo.via (fun _ k => XS.goto X98.here hx rfl (pc0 := 62) (pc' := 74) rfl (hb hby d4_62) (by decide) (by decide) k) ?_
          show OGo _ _ _ _ (T98.setTop (mkF m 74 #[.val (.ref a1), .val (.long q1), .second] [(.long (9223372036854775807 : Int64))]))
          have hD : (own_adv (own_adv (own_adv (own_adv (0 : Int32) (4 : Int32) t0 t1 t2 t3 t4 q1) (4 : Int32) t0 t1 t2 t3 t4 q1) (4 : Int32) t0 t1 t2 t3 t4 q1) (4 : Int32) t0 t1 t2 t3 t4 q1) = (4 : Int32) := by rw [own_adv_y (k := (0 : Int32)) (k' := (1 : Int32)) (by decide) (by decide) (by rw [own_t0]; exact hc18_5), own_adv_y (k := (1 : Int32)) (k' := (2 : Int32)) (by decide) (by decide) (by rw [own_t1]; exact hc18_26), own_adv_y (k := (2 : Int32)) (k' := (3 : Int32)) (by decide) (by decide) (by rw [own_t2]; exact hc18_52), own_adv_y (k := (3 : Int32)) (k' := (4 : Int32)) (by decide) (by decide) (by rw [own_t3]; exact hc18_79)]
          have f99 := Fw90.other W95 (Or.inr (slot_ne (Or.inl (own_w hw 31 rfl)) (Or.inl (own_w hw 28 rfl)) (by decide) (t := .int) (t' := .int) (by decide) (by decide)))
          have f100 := f96.wr W95
          have f101 := f84.other W90 (Or.inr (slot_ne (Or.inl (own_w hw 13 rfl)) (Or.inl (own_w hw 31 rfl)) (by decide) (t := (.array .long)) (t' := .int) (by decide) (by decide)))
          have f102 := f101.other W95 (Or.inr (slot_ne (Or.inl (own_w hw 13 rfl)) (Or.inl (own_w hw 28 rfl)) (by decide) (t := (.array .long)) (t' := .int) (by decide) (by decide)))
          have f103 := f73.other W90 (Or.inr (slot_ne (Or.inl (own_w hw 15 rfl)) (Or.inl (own_w hw 31 rfl)) (by decide) (t := (.array .long)) (t' := .int) (by decide) (by decide)))
          have f104 := f103.other W95 (Or.inr (slot_ne (Or.inl (own_w hw 15 rfl)) (Or.inl (own_w hw 28 rfl)) (by decide) (t := (.array .long)) (t' := .int) (by decide) (by decide)))
          have f105 := F_befores_a1.other W12 (Or.inr (slot_ne (Or.inl (own_w hw 33 rfl)) (Or.inl (own_w hw 31 rfl)) (by decide) (t := .long) (t' := .int) (by decide) (by decide)))
          have f106 := f105.other W16 (Or.inr (slot_ne (Or.inl (own_w hw 33 rfl)) (Or.inl (own_w hw 28 rfl)) (by decide) (t := .long) (t' := .int) (by decide) (by decide)))
          have f107 := f106.other W36 (Or.inr (slot_ne (Or.inl (own_w hw 33 rfl)) (Or.inl (own_w hw 31 rfl)) (by decide) (t := .long) (t' := .int) (by decide) (by decide)))
          have f108 := f107.other W41 (Or.inr (slot_ne (Or.inl (own_w hw 33 rfl)) (Or.inl (own_w hw 28 rfl)) (by decide) (t := .long) (t' := .int) (by decide) (by decide)))
          have f109 := f108.other W63 (Or.inr (slot_ne (Or.inl (own_w hw 33 rfl)) (Or.inl (own_w hw 31 rfl)) (by decide) (t := .long) (t' := .int) (by decide) (by decide)))
          have f110 := f109.other W68 (Or.inr (slot_ne (Or.inl (own_w hw 33 rfl)) (Or.inl (own_w hw 28 rfl)) (by decide) (t := .long) (t' := .int) (by decide) (by decide)))
          have f111 := f110.other W90 (Or.inr (slot_ne (Or.inl (own_w hw 33 rfl)) (Or.inl (own_w hw 31 rfl)) (by decide) (t := .long) (t' := .int) (by decide) (by decide)))
          have f112 := f111.other W95 (Or.inr (slot_ne (Or.inl (own_w hw 33 rfl)) (Or.inl (own_w hw 28 rfl)) (by decide) (t := .long) (t' := .int) (by decide) (by decide)))
          refine own_retL X98 hx Bd.notSynchronized Bd.returns (hb hby d4_74) (by decide) (by decide) ?_
          show Q_rm4a Z _ _ _ _ _ _ _ _ _ _ _ _ _ h0 n0 _ T98.heap _
          rw [e98]
          exact ⟨(by rw [hD, own_xy rfl]), N95, K95, f100, (by rw [hD]; exact Fw95), (by rw [hD]; exact f99), f102, f104, f112⟩
        · refine OGo.via (fun _ k => XS.ifYes X74.here hx rfl (pc0 := 18) (pc' := 52) rfl (hb hby d4_18) rfl ((if0 _ _).trans (flt hc18_79).2.1) (by decide) (by decide) k) ?_
          show OGo _ _ _ _ (T74.setTop (mkF m 52 #[.val (.ref a1), .val (.long q1), .second] []))
          refine OGo.via (fun _ k => XS.aloadN X74.here hx rfl (hb hby d4_52) rfl rfl k) ?_
          obtain ⟨T113, X113, e113, st113⟩ := getF X74 hx hZ hown (host := "") (Or.inl (own_w hw 27 rfl)) Via.refl e74 Fw68 (g := (mkF m 53 #[.val (.ref a1), .val (.long q1), .second] [(.ref a1)])) rfl rfl (hb hby d4_53)
          refine OGo.via st113 ?_
          show OGo _ _ _ _ (T113.setTop (mkF m 56 #[.val (.ref a1), .val (.long q1), .second] [(.int (1 : Int32))]))
          refine OGo.via (fun _ k => XS.ifYes X113.here hx rfl (pc0 := 56) (pc' := 65) rfl (hb hby d4_56) rfl ((if0 _ _).trans (feq (by decide : ¬ ((1 : Int32) = (0 : Int32)))).2) (by decide) (by decide) k) ?_
          show OGo _ _ _ _ (T113.setTop (mkF m 65 #[.val (.ref a1), .val (.long q1), .second] []))
          refine OGo.via (fun _ k => XS.aloadN X113.here hx rfl (hb hby d4_65) rfl rfl k) ?_
          have f115 := f57.other W63 (Or.inr (slot_ne (Or.inl (own_w hw 13 rfl)) (Or.inl (own_w hw 31 rfl)) (by decide) (t := (.array .long)) (t' := .int) (by decide) (by decide)))
          have f116 := f115.other W68 (Or.inr (slot_ne (Or.inl (own_w hw 13 rfl)) (Or.inl (own_w hw 28 rfl)) (by decide) (t := (.array .long)) (t' := .int) (by decide) (by decide)))
          obtain ⟨T114, X114, e114, st114⟩ := getF X113 hx hZ hown (host := "") (Or.inl (own_w hw 12 rfl)) Via.refl e113 f116 (g := (mkF m 66 #[.val (.ref a1), .val (.long q1), .second] [(.ref a1)])) rfl rfl (hb hby d4_66)
          refine OGo.via st114 ?_
          show OGo _ _ _ _ (T114.setTop (mkF m 69 #[.val (.ref a1), .val (.long q1), .second] [(.ref pa)]))
          refine OGo.via (fun _ k => XS.aloadN X114.here hx rfl (hb hby d4_69) rfl rfl k) ?_
          obtain ⟨T117, X117, e117, st117⟩ := getF X114 hx hZ hown (host := "") (Or.inl (own_w hw 30 rfl)) Via.refl e114 f75 (g := (mkF m 70 #[.val (.ref a1), .val (.long q1), .second] [(.ref a1), (.ref pa)])) rfl rfl (hb hby d4_70)
          refine OGo.via st117 ?_
          show OGo _ _ _ _ (T117.setTop (mkF m 73 #[.val (.ref a1), .val (.long q1), .second] [(.int (3 : Int32)), (.ref pa)]))
          have f119 := f60.other W63 (Ne.symm ne_a1_pa)
          have f120 := f119.other W68 (Ne.symm ne_a1_pa)
          obtain ⟨cl118, Ar118, q118, Sz118, Ng118, Hs118, Gf118⟩ := id f120
          have hin118 : ¬ ((3 : Int32) < 0 ∨ cl118.slots.size ≤ ((3 : Int32)).toNatClampNeg) := inb_of Sz118 ⟨by decide, by decide⟩
          have hat118 : cl118.slots[((3 : Int32)).toNatClampNeg]? = some (.long (pz + (3 : Int64))) := Hs118.at hin118 rfl
          refine OGo.via (X117.laload hx (j := (3 : Int32)) (v := (.long (pz + (3 : Int64)))) (by rw [e117]; exact Ar118.1) (State.isArrayOf_alike hZ.alike Ar118.2.1) Ar118.2.2 hin118 hat118 (g := (mkF m 73 #[.val (.ref a1), .val (.long q1), .second] [(.int (3 : Int32)), (.ref pa)])) rfl rfl (hb hby d4_73)) ?_
          show OGo _ _ _ _ (T117.setTop (mkF m 74 #[.val (.ref a1), .val (.long q1), .second] [(.long (pz + (3 : Int64)))]))
          show OGo _ _ _ _ (T117.setTop (mkF m 74 #[.val (.ref a1), .val (.long q1), .second] [(.long (pz + (3 : Int64)))]))
          have hD : (own_adv (own_adv (own_adv (own_adv (0 : Int32) (4 : Int32) t0 t1 t2 t3 t4 q1) (4 : Int32) t0 t1 t2 t3 t4 q1) (4 : Int32) t0 t1 t2 t3 t4 q1) (4 : Int32) t0 t1 t2 t3 t4 q1) = (3 : Int32) := by rw [own_adv_y (k := (0 : Int32)) (k' := (1 : Int32)) (by decide) (by decide) (by rw [own_t0]; exact hc18_5), own_adv_y (k := (1 : Int32)) (k' := (2 : Int32)) (by decide) (by decide) (by rw [own_t1]; exact hc18_26), own_adv_y (k := (2 : Int32)) (k' := (3 : Int32)) (by decide) (by decide) (by rw [own_t2]; exact hc18_52), own_adv_n (k := (3 : Int32)) (by rw [own_t3]; exact hc18_79)]
          have f121 := f69.wr W68
          have f122 := F_befores_a1.other W12 (Or.inr (slot_ne (Or.inl (own_w hw 33 rfl)) (Or.inl (own_w hw 31 rfl)) (by decide) (t := .long) (t' := .int) (by decide) (by decide)))
          have f123 := f122.other W16 (Or.inr (slot_ne (Or.inl (own_w hw 33 rfl)) (Or.inl (own_w hw 28 rfl)) (by decide) (t := .long) (t' := .int) (by decide) (by decide)))
          have f124 := f123.other W36 (Or.inr (slot_ne (Or.inl (own_w hw 33 rfl)) (Or.inl (own_w hw 31 rfl)) (by decide) (t := .long) (t' := .int) (by decide) (by decide)))
          have f125 := f124.other W41 (Or.inr (slot_ne (Or.inl (own_w hw 33 rfl)) (Or.inl (own_w hw 28 rfl)) (by decide) (t := .long) (t' := .int) (by decide) (by decide)))
          have f126 := f125.other W63 (Or.inr (slot_ne (Or.inl (own_w hw 33 rfl)) (Or.inl (own_w hw 31 rfl)) (by decide) (t := .long) (t' := .int) (by decide) (by decide)))
          have f127 := f126.other W68 (Or.inr (slot_ne (Or.inl (own_w hw 33 rfl)) (Or.inl (own_w hw 28 rfl)) (by decide) (t := .long) (t' := .int) (by decide) (by decide)))
          refine own_retL X117 hx Bd.notSynchronized Bd.returns (hb hby d4_74) (by decide) (by decide) ?_
          show Q_rm4a Z _ _ _ _ _ _ _ _ _ _ _ _ _ h0 n0 _ T117.heap _
          rw [e117]
          exact ⟨(by rw [hD, own_xn (by decide)]; rfl), N68, K68, f121, (by rw [hD]; exact Fw68), (by rw [hD]; exact f75), f116, f73, f127⟩
      · refine OGo.via (fun _ k => XS.ifYes X47.here hx rfl (pc0 := 18) (pc' := 52) rfl (hb hby d4_18) rfl ((if0 _ _).trans (flt hc18_52).2.1) (by decide) (by decide) k) ?_
        show OGo _ _ _ _ (T47.setTop (mkF m 52 #[.val (.ref a1), .val (.long q1), .second] []))
        refine OGo.via (fun _ k => XS.aloadN X47.here hx rfl (hb hby d4_52) rfl rfl k) ?_
        obtain ⟨T128, X128, e128, st128⟩ := getF X47 hx hZ hown (host := "") (Or.inl (own_w hw 27 rfl)) Via.refl e47 Fw41 (g := (mkF m 53 #[.val (.ref a1), .val (.long q1), .second] [(.ref a1)])) rfl rfl (hb hby d4_53)
        refine OGo.via st128 ?_
        show OGo _ _ _ _ (T128.setTop (mkF m 56 #[.val (.ref a1), .val (.long q1), .second] [(.int (2 : Int32))]))
        refine OGo.via (fun _ k => XS.ifYes X128.here hx rfl (pc0 := 56) (pc' := 65) rfl (hb hby d4_56) rfl ((if0 _ _).trans (feq (by decide : ¬ ((2 : Int32) = (0 : Int32)))).2) (by decide) (by decide) k) ?_
        show OGo _ _ _ _ (T128.setTop (mkF m 65 #[.val (.ref a1), .val (.long q1), .second] []))
        refine OGo.via (fun _ k => XS.aloadN X128.here hx rfl (hb hby d4_65) rfl rfl k) ?_
        have f130 := f31.other W36 (Or.inr (slot_ne (Or.inl (own_w hw 13 rfl)) (Or.inl (own_w hw 31 rfl)) (by decide) (t := (.array .long)) (t' := .int) (by decide) (by decide)))
        have f131 := f130.other W41 (Or.inr (slot_ne (Or.inl (own_w hw 13 rfl)) (Or.inl (own_w hw 28 rfl)) (by decide) (t := (.array .long)) (t' := .int) (by decide) (by decide)))
        obtain ⟨T129, X129, e129, st129⟩ := getF X128 hx hZ hown (host := "") (Or.inl (own_w hw 12 rfl)) Via.refl e128 f131 (g := (mkF m 66 #[.val (.ref a1), .val (.long q1), .second] [(.ref a1)])) rfl rfl (hb hby d4_66)
        refine OGo.via st129 ?_
        show OGo _ _ _ _ (T129.setTop (mkF m 69 #[.val (.ref a1), .val (.long q1), .second] [(.ref pa)]))
        refine OGo.via (fun _ k => XS.aloadN X129.here hx rfl (hb hby d4_69) rfl rfl k) ?_
        obtain ⟨T132, X132, e132, st132⟩ := getF X129 hx hZ hown (host := "") (Or.inl (own_w hw 30 rfl)) Via.refl e129 f48 (g := (mkF m 70 #[.val (.ref a1), .val (.long q1), .second] [(.ref a1), (.ref pa)])) rfl rfl (hb hby d4_70)
        refine OGo.via st132 ?_
        show OGo _ _ _ _ (T132.setTop (mkF m 73 #[.val (.ref a1), .val (.long q1), .second] [(.int (2 : Int32)), (.ref pa)]))
        have f134 := f33.other W36 (Ne.symm ne_a1_pa)
        have f135 := f134.other W41 (Ne.symm ne_a1_pa)
        obtain ⟨cl133, Ar133, q133, Sz133, Ng133, Hs133, Gf133⟩ := id f135
        have hin133 : ¬ ((2 : Int32) < 0 ∨ cl133.slots.size ≤ ((2 : Int32)).toNatClampNeg) := inb_of Sz133 ⟨by decide, by decide⟩
        have hat133 : cl133.slots[((2 : Int32)).toNatClampNeg]? = some (.long (pz + (2 : Int64))) := Hs133.at hin133 rfl
        refine OGo.via (X132.laload hx (j := (2 : Int32)) (v := (.long (pz + (2 : Int64)))) (by rw [e132]; exact Ar133.1) (State.isArrayOf_alike hZ.alike Ar133.2.1) Ar133.2.2 hin133 hat133 (g := (mkF m 73 #[.val (.ref a1), .val (.long q1), .second] [(.int (2 : Int32)), (.ref pa)])) rfl rfl (hb hby d4_73)) ?_
        show OGo _ _ _ _ (T132.setTop (mkF m 74 #[.val (.ref a1), .val (.long q1), .second] [(.long (pz + (2 : Int64)))]))
        show OGo _ _ _ _ (T132.setTop (mkF m 74 #[.val (.ref a1), .val (.long q1), .second] [(.long (pz + (2 : Int64)))]))
        have hD : (own_adv (own_adv (own_adv (own_adv (0 : Int32) (4 : Int32) t0 t1 t2 t3 t4 q1) (4 : Int32) t0 t1 t2 t3 t4 q1) (4 : Int32) t0 t1 t2 t3 t4 q1) (4 : Int32) t0 t1 t2 t3 t4 q1) = (2 : Int32) := by rw [own_adv_y (k := (0 : Int32)) (k' := (1 : Int32)) (by decide) (by decide) (by rw [own_t0]; exact hc18_5), own_adv_y (k := (1 : Int32)) (k' := (2 : Int32)) (by decide) (by decide) (by rw [own_t1]; exact hc18_26), own_adv_n (k := (2 : Int32)) (by rw [own_t2]; exact hc18_52), own_adv_n (k := (2 : Int32)) (by rw [own_t2]; exact hc18_52)]
        have f136 := f42.wr W41
        have f137 := F_befores_a1.other W12 (Or.inr (slot_ne (Or.inl (own_w hw 33 rfl)) (Or.inl (own_w hw 31 rfl)) (by decide) (t := .long) (t' := .int) (by decide) (by decide)))
        have f138 := f137.other W16 (Or.inr (slot_ne (Or.inl (own_w hw 33 rfl)) (Or.inl (own_w hw 28 rfl)) (by decide) (t := .long) (t' := .int) (by decide) (by decide)))
        have f139 := f138.other W36 (Or.inr (slot_ne (Or.inl (own_w hw 33 rfl)) (Or.inl (own_w hw 31 rfl)) (by decide) (t := .long) (t' := .int) (by decide) (by decide)))
        have f140 := f139.other W41 (Or.inr (slot_ne (Or.inl (own_w hw 33 rfl)) (Or.inl (own_w hw 28 rfl)) (by decide) (t := .long) (t' := .int) (by decide) (by decide)))
        refine own_retL X132 hx Bd.notSynchronized Bd.returns (hb hby d4_74) (by decide) (by decide) ?_
        show Q_rm4a Z _ _ _ _ _ _ _ _ _ _ _ _ _ h0 n0 _ T132.heap _
        rw [e132]
        exact ⟨(by rw [hD, own_xn (by decide)]; rfl), N41, K41, f136, (by rw [hD]; exact Fw41), (by rw [hD]; exact f48), f131, f46, f140⟩
    · refine OGo.via (fun _ k => XS.ifYes X22.here hx rfl (pc0 := 18) (pc' := 52) rfl (hb hby d4_18) rfl ((if0 _ _).trans (flt hc18_26).2.1) (by decide) (by decide) k) ?_
      show OGo _ _ _ _ (T22.setTop (mkF m 52 #[.val (.ref a1), .val (.long q1), .second] []))
      refine OGo.via (fun _ k => XS.aloadN X22.here hx rfl (hb hby d4_52) rfl rfl k) ?_
      obtain ⟨T141, X141, e141, st141⟩ := getF X22 hx hZ hown (host := "") (Or.inl (own_w hw 27 rfl)) Via.refl e22 Fw16 (g := (mkF m 53 #[.val (.ref a1), .val (.long q1), .second] [(.ref a1)])) rfl rfl (hb hby d4_53)
      refine OGo.via st141 ?_
      show OGo _ _ _ _ (T141.setTop (mkF m 56 #[.val (.ref a1), .val (.long q1), .second] [(.int (3 : Int32))]))
      refine OGo.via (fun _ k => XS.ifYes X141.here hx rfl (pc0 := 56) (pc' := 65) rfl (hb hby d4_56) rfl ((if0 _ _).trans (feq (by decide : ¬ ((3 : Int32) = (0 : Int32)))).2) (by decide) (by decide) k) ?_
      show OGo _ _ _ _ (T141.setTop (mkF m 65 #[.val (.ref a1), .val (.long q1), .second] []))
      refine OGo.via (fun _ k => XS.aloadN X141.here hx rfl (hb hby d4_65) rfl rfl k) ?_
      have f143 := F_positions_a1.other W12 (Or.inr (slot_ne (Or.inl (own_w hw 13 rfl)) (Or.inl (own_w hw 31 rfl)) (by decide) (t := (.array .long)) (t' := .int) (by decide) (by decide)))
      have f144 := f143.other W16 (Or.inr (slot_ne (Or.inl (own_w hw 13 rfl)) (Or.inl (own_w hw 28 rfl)) (by decide) (t := (.array .long)) (t' := .int) (by decide) (by decide)))
      obtain ⟨T142, X142, e142, st142⟩ := getF X141 hx hZ hown (host := "") (Or.inl (own_w hw 12 rfl)) Via.refl e141 f144 (g := (mkF m 66 #[.val (.ref a1), .val (.long q1), .second] [(.ref a1)])) rfl rfl (hb hby d4_66)
      refine OGo.via st142 ?_
      show OGo _ _ _ _ (T142.setTop (mkF m 69 #[.val (.ref a1), .val (.long q1), .second] [(.ref pa)]))
      refine OGo.via (fun _ k => XS.aloadN X142.here hx rfl (hb hby d4_69) rfl rfl k) ?_
      obtain ⟨T145, X145, e145, st145⟩ := getF X142 hx hZ hown (host := "") (Or.inl (own_w hw 30 rfl)) Via.refl e142 f23 (g := (mkF m 70 #[.val (.ref a1), .val (.long q1), .second] [(.ref a1), (.ref pa)])) rfl rfl (hb hby d4_70)
      refine OGo.via st145 ?_
      show OGo _ _ _ _ (T145.setTop (mkF m 73 #[.val (.ref a1), .val (.long q1), .second] [(.int (1 : Int32)), (.ref pa)]))
      have f147 := V_pa.keep K16 (ninS (Ne.symm ne_a1_pa) nin0)
      obtain ⟨cl146, Ar146, q146, Sz146, Ng146, Hs146, Gf146⟩ := id f147
      have hin146 : ¬ ((1 : Int32) < 0 ∨ cl146.slots.size ≤ ((1 : Int32)).toNatClampNeg) := inb_of Sz146 ⟨by decide, by decide⟩
      have hat146 : cl146.slots[((1 : Int32)).toNatClampNeg]? = some (.long (pz + (1 : Int64))) := Hs146.at hin146 rfl
      refine OGo.via (X145.laload hx (j := (1 : Int32)) (v := (.long (pz + (1 : Int64)))) (by rw [e145]; exact Ar146.1) (State.isArrayOf_alike hZ.alike Ar146.2.1) Ar146.2.2 hin146 hat146 (g := (mkF m 73 #[.val (.ref a1), .val (.long q1), .second] [(.int (1 : Int32)), (.ref pa)])) rfl rfl (hb hby d4_73)) ?_
      show OGo _ _ _ _ (T145.setTop (mkF m 74 #[.val (.ref a1), .val (.long q1), .second] [(.long (pz + (1 : Int64)))]))
      show OGo _ _ _ _ (T145.setTop (mkF m 74 #[.val (.ref a1), .val (.long q1), .second] [(.long (pz + (1 : Int64)))]))
      have hD : (own_adv (own_adv (own_adv (own_adv (0 : Int32) (4 : Int32) t0 t1 t2 t3 t4 q1) (4 : Int32) t0 t1 t2 t3 t4 q1) (4 : Int32) t0 t1 t2 t3 t4 q1) (4 : Int32) t0 t1 t2 t3 t4 q1) = (1 : Int32) := by rw [own_adv_y (k := (0 : Int32)) (k' := (1 : Int32)) (by decide) (by decide) (by rw [own_t0]; exact hc18_5), own_adv_n (k := (1 : Int32)) (by rw [own_t1]; exact hc18_26), own_adv_n (k := (1 : Int32)) (by rw [own_t1]; exact hc18_26), own_adv_n (k := (1 : Int32)) (by rw [own_t1]; exact hc18_26)]
      have f148 := f17.wr W16
      have f149 := F_befores_a1.other W12 (Or.inr (slot_ne (Or.inl (own_w hw 33 rfl)) (Or.inl (own_w hw 31 rfl)) (by decide) (t := .long) (t' := .int) (by decide) (by decide)))
      have f150 := f149.other W16 (Or.inr (slot_ne (Or.inl (own_w hw 33 rfl)) (Or.inl (own_w hw 28 rfl)) (by decide) (t := .long) (t' := .int) (by decide) (by decide)))
      refine own_retL X145 hx Bd.notSynchronized Bd.returns (hb hby d4_74) (by decide) (by decide) ?_
      show Q_rm4a Z _ _ _ _ _ _ _ _ _ _ _ _ _ h0 n0 _ T145.heap _
      rw [e145]
      exact ⟨(by rw [hD, own_xn (by decide)]; rfl), N16, K16, f148, (by rw [hD]; exact Fw16), (by rw [hD]; exact f23), f144, f21, f150⟩
  · refine OGo.via (fun _ k => XS.ifYes X3.here hx rfl (pc0 := 18) (pc' := 52) rfl (hb hby d4_18) rfl ((if0 _ _).trans (flt hc18_5).2.1) (by decide) (by decide) k) ?_
    show OGo _ _ _ _ (T3.setTop (mkF m 52 #[.val (.ref a1), .val (.long q1), .second] []))
    refine OGo.via (fun _ k => XS.aloadN X3.here hx rfl (hb hby d4_52) rfl rfl k) ?_
    obtain ⟨T151, X151, e151, st151⟩ := getF X3 hx hZ hown (host := "") (Or.inl (own_w hw 27 rfl)) Via.refl e3 F_count_a1 (g := (mkF m 53 #[.val (.ref a1), .val (.long q1), .second] [(.ref a1)])) rfl rfl (hb hby d4_53)
    refine OGo.via st151 ?_
    show OGo _ _ _ _ (T151.setTop (mkF m 56 #[.val (.ref a1), .val (.long q1), .second] [(.int (4 : Int32))]))
    refine OGo.via (fun _ k => XS.ifYes X151.here hx rfl (pc0 := 56) (pc' := 65) rfl (hb hby d4_56) rfl ((if0 _ _).trans (feq (by decide : ¬ ((4 : Int32) = (0 : Int32)))).2) (by decide) (by decide) k) ?_
    show OGo _ _ _ _ (T151.setTop (mkF m 65 #[.val (.ref a1), .val (.long q1), .second] []))
    refine OGo.via (fun _ k => XS.aloadN X151.here hx rfl (hb hby d4_65) rfl rfl k) ?_
    obtain ⟨T152, X152, e152, st152⟩ := getF X151 hx hZ hown (host := "") (Or.inl (own_w hw 12 rfl)) Via.refl e151 F_positions_a1 (g := (mkF m 66 #[.val (.ref a1), .val (.long q1), .second] [(.ref a1)])) rfl rfl (hb hby d4_66)
    refine OGo.via st152 ?_
    show OGo _ _ _ _ (T152.setTop (mkF m 69 #[.val (.ref a1), .val (.long q1), .second] [(.ref pa)]))
    refine OGo.via (fun _ k => XS.aloadN X152.here hx rfl (hb hby d4_69) rfl rfl k) ?_
    obtain ⟨T153, X153, e153, st153⟩ := getF X152 hx hZ hown (host := "") (Or.inl (own_w hw 30 rfl)) Via.refl e152 F_first_a1 (g := (mkF m 70 #[.val (.ref a1), .val (.long q1), .second] [(.ref a1), (.ref pa)])) rfl rfl (hb hby d4_70)
    refine OGo.via st153 ?_
    show OGo _ _ _ _ (T153.setTop (mkF m 73 #[.val (.ref a1), .val (.long q1), .second] [(.int (0 : Int32)), (.ref pa)]))
    obtain ⟨cl154, Ar154, q154, Sz154, Ng154, Hs154, Gf154⟩ := id V_pa
    have hin154 : ¬ ((0 : Int32) < 0 ∨ cl154.slots.size ≤ ((0 : Int32)).toNatClampNeg) := inb_of Sz154 ⟨by decide, by decide⟩
    have hat154 : cl154.slots[((0 : Int32)).toNatClampNeg]? = some (.long pz) := Hs154.at hin154 rfl
    refine OGo.via (X153.laload hx (j := (0 : Int32)) (v := (.long pz)) (by rw [e153]; exact Ar154.1) (State.isArrayOf_alike hZ.alike Ar154.2.1) Ar154.2.2 hin154 hat154 (g := (mkF m 73 #[.val (.ref a1), .val (.long q1), .second] [(.int (0 : Int32)), (.ref pa)])) rfl rfl (hb hby d4_73)) ?_
    show OGo _ _ _ _ (T153.setTop (mkF m 74 #[.val (.ref a1), .val (.long q1), .second] [(.long pz)]))
    show OGo _ _ _ _ (T153.setTop (mkF m 74 #[.val (.ref a1), .val (.long q1), .second] [(.long pz)]))
    have hD : (own_adv (own_adv (own_adv (own_adv (0 : Int32) (4 : Int32) t0 t1 t2 t3 t4 q1) (4 : Int32) t0 t1 t2 t3 t4 q1) (4 : Int32) t0 t1 t2 t3 t4 q1) (4 : Int32) t0 t1 t2 t3 t4 q1) = (0 : Int32) := by rw [own_adv_n (k := (0 : Int32)) (by rw [own_t0]; exact hc18_5), own_adv_n (k := (0 : Int32)) (by rw [own_t0]; exact hc18_5), own_adv_n (k := (0 : Int32)) (by rw [own_t0]; exact hc18_5), own_adv_n (k := (0 : Int32)) (by rw [own_t0]; exact hc18_5)]
    refine own_retL X153 hx Bd.notSynchronized Bd.returns (hb hby d4_74) (by decide) (by decide) ?_
    show Q_rm4a Z _ _ _ _ _ _ _ _ _ _ _ _ _ h0 n0 _ T153.heap _
    rw [e153]
    exact ⟨(by rw [hD, own_xn (by decide), show (0 : Int32).toInt64 = 0 from by decide, Int64.add_zero]), N0, (Keep.refl h0 [a1]), E_a1, (by rw [hD]; exact F_count_a1), (by rw [hD]; exact F_first_a1), F_positions_a1, F_times_a1, F_befores_a1⟩
theorem ef_rm4b0 (m : MethodId) (a1 : Addr) (q1 : Int64) : entryFrame m #[(.ref a1), (.long q1)] 3 = mkF m 0 #[.val (.ref a1), .val (.long q1), .second] [] := by first | (simp [entryFrame, mkF, argsToLocals, Value.category]; done) | rfl
def Q_rm4b0 (Z : State) (a1 : Addr) (q1 : Int64) (pa : Addr) (ta : Addr) (kp : ClassId) (kt : ClassId) (bf : Int64) (pz : Int64) (t0 : Int64) (t1 : Int64) (t2 : Int64) (t3 : Int64) (t4 : Int64) (h0 : Heap) (n0 : Nat) (v : Option Value) (h : Heap) (L : List Loc) : Prop := v = some (.long (own_x (own_adv (own_adv (own_adv (own_adv (own_adv (0 : Int32) (5 : Int32) t0 t1 t2 t3 t4 q1) (5 : Int32) t0 t1 t2 t3 t4 q1) (5 : Int32) t0 t1 t2 t3 t4 q1) (5 : Int32) t0 t1 t2 t3 t4 q1) (5 : Int32) t0 t1 t2 t3 t4 q1) (5 : Int32) pz)) ∧ Fr n0 L ∧ Keep h0 h [a1] ∧ Exa Z h a1 "com/example/eventloom/eventloom/engine/Forbidden" ∧ Fld Z h a1 "com/example/eventloom/eventloom/engine/Forbidden" "count" "I" (.int (own_h (own_adv (own_adv (own_adv (own_adv (own_adv (0 : Int32) (5 : Int32) t0 t1 t2 t3 t4 q1) (5 : Int32) t0 t1 t2 t3 t4 q1) (5 : Int32) t0 t1 t2 t3 t4 q1) (5 : Int32) t0 t1 t2 t3 t4 q1) (5 : Int32) t0 t1 t2 t3 t4 q1) (5 : Int32)))
set_option maxRecDepth 65536 in
set_option maxHeartbeats 40000000 in
theorem rm4b0 (l : Launch) (Z : State) (a0 : Array Value) (hw : ∀ d ∈ tables_1, d.before a0 Z = true) (ws : List Jvm.Cond) (a1 : Addr) (q1 : Int64) (pa : Addr) (ta : Addr) (kp : ClassId) (kt : ClassId) (bf : Int64) (pz : Int64) (t0 : Int64) (t1 : Int64) (t2 : Int64) (t3 : Int64) (t4 : Int64) (h0 : Heap) (n0 : Nat) (Z0 : n0 ≤ h0.size) (E_a1 : Exa Z h0 a1 "com/example/eventloom/eventloom/engine/Forbidden") (F_positions_a1 : Fld Z h0 a1 "com/example/eventloom/eventloom/engine/Forbidden" "positions" "[J" (.ref pa)) (F_times_a1 : Fld Z h0 a1 "com/example/eventloom/eventloom/engine/Forbidden" "times" "[J" (.ref ta)) (F_first_a1 : Fld Z h0 a1 "com/example/eventloom/eventloom/engine/Forbidden" "first" "I" (.int (0 : Int32))) (F_count_a1 : Fld Z h0 a1 "com/example/eventloom/eventloom/engine/Forbidden" "count" "I" (.int (5 : Int32))) (F_befores_a1 : Fld Z h0 a1 "com/example/eventloom/eventloom/engine/Forbidden" "befores" "J" (.long bf)) (V_pa : Arv Z h0 pa kp .long (8 : Int32) [(.long pz), (.long (pz + (1 : Int64))), (.long (pz + (2 : Int64))), (.long (pz + (3 : Int64))), (.long (pz + (4 : Int64))), (.long (0 : Int64)), (.long (0 : Int64)), (.long (0 : Int64))] (.long (0 : Int64))) (V_ta : Arv Z h0 ta kt .long (8 : Int32) [(.long t0), (.long t1), (.long t2), (.long t3), (.long t4), (.long (0 : Int64)), (.long (0 : Int64)), (.long (0 : Int64))] (.long (0 : Int64))) (ne_a1_pa : a1 ≠ pa) (ne_a1_ta : a1 ≠ ta) (g_a1 : n0 ≤ a1) :
    MetFree l own_y4 (head1 (Jvm.Cond.code own_y4 prog_122_method_4_code 3 (some .long) :: ws) ({ frames := 0, cells := 0, slots := 0, locals := 0 } : Room)) (fun a U => a = #[(.ref a1), (.long q1)] ∧ Z.Warmed39 U.vm ∧ U.heap = h0) (fun _ _ _ _ _ => True) (fun _ U o U' => ∃ v L, o = .returned v ∧ Q_rm4b0 Z a1 q1 pa ta kp kt bf pz t0 t1 t2 t3 t4 h0 n0 v U'.heap L ∧ FrameEnd U o U' L ({ frames := 0, cells := 0, slots := 0, locals := 0 } : Room).cells ({ frames := 0, cells := 0, slots := 0, locals := 0 } : Room).slots) := by
  refine MetFree.of_bodySF (plainFor_of_name pn_Forbidden) hisR ?_
  intro p e s m args below meth c s₁ Bd hml0 hP hK
  obtain ⟨rfl, hZ, hh⟩ := hP
  have hx := Bd.exec
  have hby := Bd.bytes
  have hml : c.maxLocals = 3 := hml0
  have hown : s.vm.findClass "com/example/eventloom/eventloom/engine/Forbidden" = some m.cls := findClass_of_methodNamed Bd.named
  have hnm := (name_of_methodNamed Bd.named Bd.method).1
  have X0 : Stand p l e ({ frames := 0, cells := 0, slots := 0, locals := 0 } : Room) s m #[(.ref a1), (.long q1)] below meth c s₁ [] 0 0 := Stand.of_body Bd
  have e0 : s₁.heap = h0 := by rw [← hh, Bd.state]; rfl
  have N0 := Fr.nil n0
  show OGo p.tables e below (own_Kq s (fun v h L => Q_rm4b0 Z a1 q1 pa ta kp kt bf pz t0 t1 t2 t3 t4 h0 n0 v h L) ({ frames := 0, cells := 0, slots := 0, locals := 0 } : Room).cells ({ frames := 0, cells := 0, slots := 0, locals := 0 } : Room).slots) (s₁.setTop (entryFrame m #[(.ref a1), (.long q1)] 3))
  refine OGo.cast (ef_rm4b0 m a1 q1) ?_
  show OGo _ _ _ _ (s₁.setTop (mkF m 0 #[.val (.ref a1), .val (.long q1), .second] []))
  refine OGo.via (fun _ k => XS.aloadN X0.here hx rfl (hb hby d4_0) rfl rfl k) ?_
  obtain ⟨T1, X1, e1, st1⟩ := getF X0 hx hZ hown (host := "") (Or.inl (own_w hw 27 rfl)) Via.refl e0 F_count_a1 (g := (mkF m 1 #[.val (.ref a1), .val (.long q1), .second] [(.ref a1)])) rfl rfl (hb hby d4_1)
  refine OGo.via st1 ?_
  show OGo _ _ _ _ (T1.setTop (mkF m 4 #[.val (.ref a1), .val (.long q1), .second] [(.int (5 : Int32))]))
  refine OGo.via (fun _ k => XS.ifNo X1.here hx rfl (hb hby d4_4) rfl ((if0 _ _).trans (tlt (by decide : (0 : Int32) < (5 : Int32))).2.2.2) k) ?_
  show OGo _ _ _ _ (T1.setTop (mkF m 7 #[.val (.ref a1), .val (.long q1), .second] []))
  refine OGo.via (fun _ k => XS.aloadN X1.here hx rfl (hb hby d4_7) rfl rfl k) ?_
  obtain ⟨T2, X2, e2, st2⟩ := getF X1 hx hZ hown (host := "") (Or.inl (own_w hw 14 rfl)) Via.refl e1 F_times_a1 (g := (mkF m 8 #[.val (.ref a1), .val (.long q1), .second] [(.ref a1)])) rfl rfl (hb hby d4_8)
  refine OGo.via st2 ?_
  show OGo _ _ _ _ (T2.setTop (mkF m 11 #[.val (.ref a1), .val (.long q1), .second] [(.ref ta)]))
  refine OGo.via (fun _ k => XS.aloadN X2.here hx rfl (hb hby d4_11) rfl rfl k) ?_
  obtain ⟨T3, X3, e3, st3⟩ := getF X2 hx hZ hown (host := "") (Or.inl (own_w hw 30 rfl)) Via.refl e2 F_first_a1 (g := (mkF m 12 #[.val (.ref a1), .val (.long q1), .second] [(.ref a1), (.ref ta)])) rfl rfl (hb hby d4_12)
  refine OGo.via st3 ?_
  show OGo _ _ _ _ (T3.setTop (mkF m 15 #[.val (.ref a1), .val (.long q1), .second] [(.int (0 : Int32)), (.ref ta)]))
  obtain ⟨cl4, Ar4, q4, Sz4, Ng4, Hs4, Gf4⟩ := id V_ta
  have hin4 : ¬ ((0 : Int32) < 0 ∨ cl4.slots.size ≤ ((0 : Int32)).toNatClampNeg) := inb_of Sz4 ⟨by decide, by decide⟩
  have hat4 : cl4.slots[((0 : Int32)).toNatClampNeg]? = some (.long t0) := Hs4.at hin4 rfl
  refine OGo.via (X3.laload hx (j := (0 : Int32)) (v := (.long t0)) (by rw [e3]; exact Ar4.1) (State.isArrayOf_alike hZ.alike Ar4.2.1) Ar4.2.2 hin4 hat4 (g := (mkF m 15 #[.val (.ref a1), .val (.long q1), .second] [(.int (0 : Int32)), (.ref ta)])) rfl rfl (hb hby d4_15)) ?_
  show OGo _ _ _ _ (T3.setTop (mkF m 16 #[.val (.ref a1), .val (.long q1), .second] [(.long t0)]))
  refine OGo.via (fun _ k => XS.lloadN X3.here hx rfl (hb hby d4_16) rfl (XS.lcmp X3.here hx rfl (hb hby d4_17) rfl k)) ?_
  by_cases hc18_5 : (lcmpW t0 q1) < (0 : Int32)
  · refine OGo.via (fun _ k => XS.ifNo X3.here hx rfl (hb hby d4_18) rfl ((if0 _ _).trans (tlt hc18_5).2.1) k) ?_
    show OGo _ _ _ _ (T3.setTop (mkF m 21 #[.val (.ref a1), .val (.long q1), .second] []))
    refine OGo.via (fun _ k => XS.aloadN X3.here hx rfl (hb hby d4_21) rfl rfl (XS.aloadN X3.here hx rfl (hb hby d4_22) rfl rfl k)) ?_
    obtain ⟨T6, X6, e6, st6⟩ := getF X3 hx hZ hown (host := "") (Or.inl (own_w hw 30 rfl)) Via.refl e3 F_first_a1 (g := (mkF m 23 #[.val (.ref a1), .val (.long q1), .second] [(.ref a1), (.ref a1)])) rfl rfl (hb hby d4_23)
    refine OGo.via st6 ?_
    show OGo _ _ _ _ (T6.setTop (mkF m 26 #[.val (.ref a1), .val (.long q1), .second] [(.int (0 : Int32)), (.ref a1)]))
    refine OGo.via (fun _ k => XS.iconst X6.here hx rfl (hb hby d4_26) (XS.iadd X6.here hx rfl (hb hby d4_27) rfl k)) ?_
    show OGo _ _ _ _ (T6.setTop (mkF m 28 #[.val (.ref a1), .val (.long q1), .second] [(.int ((0 : Int32) + (1 : Int32))), (.ref a1)]))
    rw [show ((0 : Int32) + (1 : Int32)) = (1 : Int32) from by decide]
    refine OGo.via (fun _ k => XS.aloadN X6.here hx rfl (hb hby d4_28) rfl rfl k) ?_
    obtain ⟨T8, X8, e8, st8⟩ := getF X6 hx hZ hown (host := "") (Or.inl (own_w hw 12 rfl)) Via.refl e6 F_positions_a1 (g := (mkF m 29 #[.val (.ref a1), .val (.long q1), .second] [(.ref a1), (.int (1 : Int32)), (.ref a1)])) rfl rfl (hb hby d4_29)
    refine OGo.via st8 ?_
    show OGo _ _ _ _ (T8.setTop (mkF m 32 #[.val (.ref a1), .val (.long q1), .second] [(.ref pa), (.int (1 : Int32)), (.ref a1)]))
    obtain ⟨cl9, Ar9, q9, Sz9, Ng9, Hs9, Gf9⟩ := id V_pa
    refine OGo.via (X8.arraylength hx (by rw [e8]; exact Ar9.1) (State.isArrayOf_alike hZ.alike Ar9.2.1) (g := (mkF m 32 #[.val (.ref a1), .val (.long q1), .second] [(.ref pa), (.int (1 : Int32)), (.ref a1)])) rfl rfl (hb hby d4_32)) ?_
    rw [len_of Sz9 Ng9]
    show OGo _ _ _ _ (T8.setTop (mkF m 33 #[.val (.ref a1), .val (.long q1), .second] [(.int (8 : Int32)), (.int (1 : Int32)), (.ref a1)]))
    refine OGo.via (fun _ k => XS.iconst X8.here hx rfl (hb hby d4_33) (XS.isub X8.here hx rfl (hb hby d4_34) rfl k)) ?_
    show OGo _ _ _ _ (T8.setTop (mkF m 35 #[.val (.ref a1), .val (.long q1), .second] [(.int ((8 : Int32) - (1 : Int32))), (.int (1 : Int32)), (.ref a1)]))
    rw [show ((8 : Int32) - (1 : Int32)) = (7 : Int32) from by decide]
    refine OGo.via (fun _ k => XS.iand X8.here hx rfl (hb hby d4_35) rfl k) ?_
    show OGo _ _ _ _ (T8.setTop (mkF m 36 #[.val (.ref a1), .val (.long q1), .second] [(.int ((1 : Int32) &&& (7 : Int32))), (.ref a1)]))
    rw [show ((1 : Int32) &&& (7 : Int32)) = (1 : Int32) from by decide]
    obtain ⟨T12, h12, X12, e12, W12, st12⟩ := putF X8 hx hZ hown (host := "") (Or.inl (own_w hw 30 rfl)) Via.refl e8 F_first_a1 E_a1 (Or.inl (own_w hw 31 rfl)) (own_w hw 2 rfl) (ty := .int) (by decide) rfl rfl (g := (mkF m 36 #[.val (.ref a1), .val (.long q1), .second] [(.int (1 : Int32)), (.ref a1)])) rfl rfl (hb hby d4_36)
    refine OGo.via st12 ?_
    have Fw12 := F_first_a1.same W12
    have K12 : Keep h0 h12 [a1] := (Keep.refl h0 [a1]).wr W12 (Or.inl (List.mem_of_getElem? (i := 0) rfl))
    have N12 := Fr.snoc X12 N0 g_a1
    show OGo _ _ _ _ (T12.setTop (mkF m 39 #[.val (.ref a1), .val (.long q1), .second] []))
    refine OGo.via (fun _ k => XS.aloadN X12.here hx rfl (hb hby d4_39) rfl rfl (XS.dup X12.here hx rfl (hb hby d4_40) rfl rfl k)) ?_
    have f14 := F_count_a1.other W12 (Or.inr (slot_ne (Or.inl (own_w hw 28 rfl)) (Or.inl (own_w hw 31 rfl)) (by decide) (t := .int) (t' := .int) (by decide) (by decide)))
    obtain ⟨T13, X13, e13, st13⟩ := getF X12 hx hZ hown (host := "") (Or.inl (own_w hw 27 rfl)) Via.refl e12 f14 (g := (mkF m 41 #[.val (.ref a1), .val (.long q1), .second] [(.ref a1), (.ref a1)])) rfl rfl (hb hby d4_41)
    refine OGo.via st13 ?_
    show OGo _ _ _ _ (T13.setTop (mkF m 44 #[.val (.ref a1), .val (.long q1), .second] [(.int (5 : Int32)), (.ref a1)]))
    refine OGo.via (fun _ k => XS.iconst X13.here hx rfl (hb hby d4_44) (XS.isub X13.here hx rfl (hb hby d4_45) rfl k)) ?_
    show OGo _ _ _ _ (T13.setTop (mkF m 46 #[.val (.ref a1), .val (.long q1), .second] [(.int ((5 : Int32) - (1 : Int32))), (.ref a1)]))
    rw [show ((5 : Int32) - (1 : Int32)) = (4 : Int32) from by decide]
    have f17 := E_a1.wr W12
    obtain ⟨T16, h16, X16, e16, W16, st16⟩ := putF X13 hx hZ hown (host := "") (Or.inl (own_w hw 27 rfl)) Via.refl e13 f14 f17 (Or.inl (own_w hw 28 rfl)) (own_w hw 2 rfl) (ty := .int) (by decide) rfl rfl (g := (mkF m 46 #[.val (.ref a1), .val (.long q1), .second] [(.int (4 : Int32)), (.ref a1)])) rfl rfl (hb hby d4_46)
    refine OGo.via st16 ?_
    have Fw16 := f14.same W16
    have K16 : Keep h0 h16 [a1] := K12.wr W16 (Or.inl (List.mem_of_getElem? (i := 0) rfl))
    have N16 := Fr.snoc X16 N12 g_a1
    show OGo _ _ _ _ (T16.setTop (mkF m 49 #[.val (.ref a1), .val (.long q1), .second] []))
    refine OGo.via (fun _ k => XS.goto X16.here hx rfl (pc0 := 49) (pc' := 0) rfl (hb hby d4_49) (by decide) (by decide) (XS.aloadN X16.here hx rfl (hb hby d4_0) rfl rfl k)) ?_
    obtain ⟨T18, X18, e18, st18⟩ := getF X16 hx hZ hown (host := "") (Or.inl (own_w hw 27 rfl)) Via.refl e16 Fw16 (g := (mkF m 1 #[.val (.ref a1), .val (.long q1), .second] [(.ref a1)])) rfl rfl (hb hby d4_1)
    refine OGo.via st18 ?_
    show OGo _ _ _ _ (T18.setTop (mkF m 4 #[.val (.ref a1), .val (.long q1), .second] [(.int (4 : Int32))]))
    refine OGo.via (fun _ k => XS.ifNo X18.here hx rfl (hb hby d4_4) rfl ((if0 _ _).trans (tlt (by decide : (0 : Int32) < (4 : Int32))).2.2.2) k) ?_
    show OGo _ _ _ _ (T18.setTop (mkF m 7 #[.val (.ref a1), .val (.long q1), .second] []))
    refine OGo.via (fun _ k => XS.aloadN X18.here hx rfl (hb hby d4_7) rfl rfl k) ?_
    have f20 := F_times_a1.other W12 (Or.inr (slot_ne (Or.inl (own_w hw 15 rfl)) (Or.inl (own_w hw 31 rfl)) (by decide) (t := (.array .long)) (t' := .int) (by decide) (by decide)))
    have f21 := f20.other W16 (Or.inr (slot_ne (Or.inl (own_w hw 15 rfl)) (Or.inl (own_w hw 28 rfl)) (by decide) (t := (.array .long)) (t' := .int) (by decide) (by decide)))
    obtain ⟨T19, X19, e19, st19⟩ := getF X18 hx hZ hown (host := "") (Or.inl (own_w hw 14 rfl)) Via.refl e18 f21 (g := (mkF m 8 #[.val (.ref a1), .val (.long q1), .second] [(.ref a1)])) rfl rfl (hb hby d4_8)
    refine OGo.via st19 ?_
    show OGo _ _ _ _ (T19.setTop (mkF m 11 #[.val (.ref a1), .val (.long q1), .second] [(.ref ta)]))
    refine OGo.via (fun _ k => XS.aloadN X19.here hx rfl (hb hby d4_11) rfl rfl k) ?_
    have f23 := Fw12.other W16 (Or.inr (slot_ne (Or.inl (own_w hw 31 rfl)) (Or.inl (own_w hw 28 rfl)) (by decide) (t := .int) (t' := .int) (by decide) (by decide)))
    obtain ⟨T22, X22, e22, st22⟩ := getF X19 hx hZ hown (host := "") (Or.inl (own_w hw 30 rfl)) Via.refl e19 f23 (g := (mkF m 12 #[.val (.ref a1), .val (.long q1), .second] [(.ref a1), (.ref ta)])) rfl rfl (hb hby d4_12)
    refine OGo.via st22 ?_
    show OGo _ _ _ _ (T22.setTop (mkF m 15 #[.val (.ref a1), .val (.long q1), .second] [(.int (1 : Int32)), (.ref ta)]))
    have f25 := V_ta.keep K16 (ninS (Ne.symm ne_a1_ta) nin0)
    obtain ⟨cl24, Ar24, q24, Sz24, Ng24, Hs24, Gf24⟩ := id f25
    have hin24 : ¬ ((1 : Int32) < 0 ∨ cl24.slots.size ≤ ((1 : Int32)).toNatClampNeg) := inb_of Sz24 ⟨by decide, by decide⟩
    have hat24 : cl24.slots[((1 : Int32)).toNatClampNeg]? = some (.long t1) := Hs24.at hin24 rfl
    refine OGo.via (X22.laload hx (j := (1 : Int32)) (v := (.long t1)) (by rw [e22]; exact Ar24.1) (State.isArrayOf_alike hZ.alike Ar24.2.1) Ar24.2.2 hin24 hat24 (g := (mkF m 15 #[.val (.ref a1), .val (.long q1), .second] [(.int (1 : Int32)), (.ref ta)])) rfl rfl (hb hby d4_15)) ?_
    show OGo _ _ _ _ (T22.setTop (mkF m 16 #[.val (.ref a1), .val (.long q1), .second] [(.long t1)]))
    refine OGo.via (fun _ k => XS.lloadN X22.here hx rfl (hb hby d4_16) rfl (XS.lcmp X22.here hx rfl (hb hby d4_17) rfl k)) ?_
    by_cases hc18_26 : (lcmpW t1 q1) < (0 : Int32)
    · refine OGo.via (fun _ k => XS.ifNo X22.here hx rfl (hb hby d4_18) rfl ((if0 _ _).trans (tlt hc18_26).2.1) k) ?_
      show OGo _ _ _ _ (T22.setTop (mkF m 21 #[.val (.ref a1), .val (.long q1), .second] []))
      refine OGo.via (fun _ k => XS.aloadN X22.here hx rfl (hb hby d4_21) rfl rfl (XS.aloadN X22.here hx rfl (hb hby d4_22) rfl rfl k)) ?_
      obtain ⟨T27, X27, e27, st27⟩ := getF X22 hx hZ hown (host := "") (Or.inl (own_w hw 30 rfl)) Via.refl e22 f23 (g := (mkF m 23 #[.val (.ref a1), .val (.long q1), .second] [(.ref a1), (.ref a1)])) rfl rfl (hb hby d4_23)
      refine OGo.via st27 ?_
      show OGo _ _ _ _ (T27.setTop (mkF m 26 #[.val (.ref a1), .val (.long q1), .second] [(.int (1 : Int32)), (.ref a1)]))
      refine OGo.via (fun _ k => XS.iconst X27.here hx rfl (hb hby d4_26) (XS.iadd X27.here hx rfl (hb hby d4_27) rfl k)) ?_
      show OGo _ _ _ _ (T27.setTop (mkF m 28 #[.val (.ref a1), .val (.long q1), .second] [(.int ((1 : Int32) + (1 : Int32))), (.ref a1)]))
      rw [show ((1 : Int32) + (1 : Int32)) = (2 : Int32) from by decide]
      refine OGo.via (fun _ k => XS.aloadN X27.here hx rfl (hb hby d4_28) rfl rfl k) ?_
      have f30 := F_positions_a1.other W12 (Or.inr (slot_ne (Or.inl (own_w hw 13 rfl)) (Or.inl (own_w hw 31 rfl)) (by decide) (t := (.array .long)) (t' := .int) (by decide) (by decide)))
      have f31 := f30.other W16 (Or.inr (slot_ne (Or.inl (own_w hw 13 rfl)) (Or.inl (own_w hw 28 rfl)) (by decide) (t := (.array .long)) (t' := .int) (by decide) (by decide)))
      obtain ⟨T29, X29, e29, st29⟩ := getF X27 hx hZ hown (host := "") (Or.inl (own_w hw 12 rfl)) Via.refl e27 f31 (g := (mkF m 29 #[.val (.ref a1), .val (.long q1), .second] [(.ref a1), (.int (2 : Int32)), (.ref a1)])) rfl rfl (hb hby d4_29)
      refine OGo.via st29 ?_
      show OGo _ _ _ _ (T29.setTop (mkF m 32 #[.val (.ref a1), .val (.long q1), .second] [(.ref pa), (.int (2 : Int32)), (.ref a1)]))
      have f33 := V_pa.keep K16 (ninS (Ne.symm ne_a1_pa) nin0)
      obtain ⟨cl32, Ar32, q32, Sz32, Ng32, Hs32, Gf32⟩ := id f33
      refine OGo.via (X29.arraylength hx (by rw [e29]; exact Ar32.1) (State.isArrayOf_alike hZ.alike Ar32.2.1) (g := (mkF m 32 #[.val (.ref a1), .val (.long q1), .second] [(.ref pa), (.int (2 : Int32)), (.ref a1)])) rfl rfl (hb hby d4_32)) ?_
      rw [len_of Sz32 Ng32]
      show OGo _ _ _ _ (T29.setTop (mkF m 33 #[.val (.ref a1), .val (.long q1), .second] [(.int (8 : Int32)), (.int (2 : Int32)), (.ref a1)]))
      refine OGo.via (fun _ k => XS.iconst X29.here hx rfl (hb hby d4_33) (XS.isub X29.here hx rfl (hb hby d4_34) rfl k)) ?_
      show OGo _ _ _ _ (T29.setTop (mkF m 35 #[.val (.ref a1), .val (.long q1), .second] [(.int ((8 : Int32) - (1 : Int32))), (.int (2 : Int32)), (.ref a1)]))
      rw [show ((8 : Int32) - (1 : Int32)) = (7 : Int32) from by decide]
      refine OGo.via (fun _ k => XS.iand X29.here hx rfl (hb hby d4_35) rfl k) ?_
      show OGo _ _ _ _ (T29.setTop (mkF m 36 #[.val (.ref a1), .val (.long q1), .second] [(.int ((2 : Int32) &&& (7 : Int32))), (.ref a1)]))
      rw [show ((2 : Int32) &&& (7 : Int32)) = (2 : Int32) from by decide]
      have f37 := f17.wr W16
      obtain ⟨T36, h36, X36, e36, W36, st36⟩ := putF X29 hx hZ hown (host := "") (Or.inl (own_w hw 30 rfl)) Via.refl e29 f23 f37 (Or.inl (own_w hw 31 rfl)) (own_w hw 2 rfl) (ty := .int) (by decide) rfl rfl (g := (mkF m 36 #[.val (.ref a1), .val (.long q1), .second] [(.int (2 : Int32)), (.ref a1)])) rfl rfl (hb hby d4_36)
      refine OGo.via st36 ?_
      have Fw36 := f23.same W36
      have K36 : Keep h0 h36 [a1] := K16.wr W36 (Or.inl (List.mem_of_getElem? (i := 0) rfl))
      have N36 := Fr.snoc X36 N16 g_a1
      show OGo _ _ _ _ (T36.setTop (mkF m 39 #[.val (.ref a1), .val (.long q1), .second] []))
      refine OGo.via (fun _ k => XS.aloadN X36.here hx rfl (hb hby d4_39) rfl rfl (XS.dup X36.here hx rfl (hb hby d4_40) rfl rfl k)) ?_
      have f39 := Fw16.other W36 (Or.inr (slot_ne (Or.inl (own_w hw 28 rfl)) (Or.inl (own_w hw 31 rfl)) (by decide) (t := .int) (t' := .int) (by decide) (by decide)))
      obtain ⟨T38, X38, e38, st38⟩ := getF X36 hx hZ hown (host := "") (Or.inl (own_w hw 27 rfl)) Via.refl e36 f39 (g := (mkF m 41 #[.val (.ref a1), .val (.long q1), .second] [(.ref a1), (.ref a1)])) rfl rfl (hb hby d4_41)
      refine OGo.via st38 ?_
      show OGo _ _ _ _ (T38.setTop (mkF m 44 #[.val (.ref a1), .val (.long q1), .second] [(.int (4 : Int32)), (.ref a1)]))
      refine OGo.via (fun _ k => XS.iconst X38.here hx rfl (hb hby d4_44) (XS.isub X38.here hx rfl (hb hby d4_45) rfl k)) ?_
      show OGo _ _ _ _ (T38.setTop (mkF m 46 #[.val (.ref a1), .val (.long q1), .second] [(.int ((4 : Int32) - (1 : Int32))), (.ref a1)]))
      rw [show ((4 : Int32) - (1 : Int32)) = (3 : Int32) from by decide]
      have f42 := f37.wr W36
      obtain ⟨T41, h41, X41, e41, W41, st41⟩ := putF X38 hx hZ hown (host := "") (Or.inl (own_w hw 27 rfl)) Via.refl e38 f39 f42 (Or.inl (own_w hw 28 rfl)) (own_w hw 2 rfl) (ty := .int) (by decide) rfl rfl (g := (mkF m 46 #[.val (.ref a1), .val (.long q1), .second] [(.int (3 : Int32)), (.ref a1)])) rfl rfl (hb hby d4_46)
      refine OGo.via st41 ?_
      have Fw41 := f39.same W41
      have K41 : Keep h0 h41 [a1] := K36.wr W41 (Or.inl (List.mem_of_getElem? (i := 0) rfl))
      have N41 := Fr.snoc X41 N36 g_a1
      show OGo _ _ _ _ (T41.setTop (mkF m 49 #[.val (.ref a1), .val (.long q1), .second] []))
      refine OGo.via (fun _ k => XS.goto X41.here hx rfl (pc0 := 49) (pc' := 0) rfl (hb hby d4_49) (by decide) (by decide) (XS.aloadN X41.here hx rfl (hb hby d4_0) rfl rfl k)) ?_
      obtain ⟨T43, X43, e43, st43⟩ := getF X41 hx hZ hown (host := "") (Or.inl (own_w hw 27 rfl)) Via.refl e41 Fw41 (g := (mkF m 1 #[.val (.ref a1), .val (.long q1), .second] [(.ref a1)])) rfl rfl (hb hby d4_1)
      refine OGo.via st43 ?_
      show OGo _ _ _ _ (T43.setTop (mkF m 4 #[.val (.ref a1), .val (.long q1), .second] [(.int (3 : Int32))]))
      refine OGo.via (fun _ k => XS.ifNo X43.here hx rfl (hb hby d4_4) rfl ((if0 _ _).trans (tlt (by decide : (0 : Int32) < (3 : Int32))).2.2.2) k) ?_
      show OGo _ _ _ _ (T43.setTop (mkF m 7 #[.val (.ref a1), .val (.long q1), .second] []))
      refine OGo.via (fun _ k => XS.aloadN X43.here hx rfl (hb hby d4_7) rfl rfl k) ?_
      have f45 := f21.other W36 (Or.inr (slot_ne (Or.inl (own_w hw 15 rfl)) (Or.inl (own_w hw 31 rfl)) (by decide) (t := (.array .long)) (t' := .int) (by decide) (by decide)))
      have f46 := f45.other W41 (Or.inr (slot_ne (Or.inl (own_w hw 15 rfl)) (Or.inl (own_w hw 28 rfl)) (by decide) (t := (.array .long)) (t' := .int) (by decide) (by decide)))
      obtain ⟨T44, X44, e44, st44⟩ := getF X43 hx hZ hown (host := "") (Or.inl (own_w hw 14 rfl)) Via.refl e43 f46 (g := (mkF m 8 #[.val (.ref a1), .val (.long q1), .second] [(.ref a1)])) rfl rfl (hb hby d4_8)
      refine OGo.via st44 ?_
      show OGo _ _ _ _ (T44.setTop (mkF m 11 #[.val (.ref a1), .val (.long q1), .second] [(.ref ta)]))
      refine OGo.via (fun _ k => XS.aloadN X44.here hx rfl (hb hby d4_11) rfl rfl k) ?_
      have f48 := Fw36.other W41 (Or.inr (slot_ne (Or.inl (own_w hw 31 rfl)) (Or.inl (own_w hw 28 rfl)) (by decide) (t := .int) (t' := .int) (by decide) (by decide)))
      obtain ⟨T47, X47, e47, st47⟩ := getF X44 hx hZ hown (host := "") (Or.inl (own_w hw 30 rfl)) Via.refl e44 f48 (g := (mkF m 12 #[.val (.ref a1), .val (.long q1), .second] [(.ref a1), (.ref ta)])) rfl rfl (hb hby d4_12)
      refine OGo.via st47 ?_
      show OGo _ _ _ _ (T47.setTop (mkF m 15 #[.val (.ref a1), .val (.long q1), .second] [(.int (2 : Int32)), (.ref ta)]))
      have f50 := f25.other W36 (Ne.symm ne_a1_ta)
      have f51 := f50.other W41 (Ne.symm ne_a1_ta)
      obtain ⟨cl49, Ar49, q49, Sz49, Ng49, Hs49, Gf49⟩ := id f51
      have hin49 : ¬ ((2 : Int32) < 0 ∨ cl49.slots.size ≤ ((2 : Int32)).toNatClampNeg) := inb_of Sz49 ⟨by decide, by decide⟩
      have hat49 : cl49.slots[((2 : Int32)).toNatClampNeg]? = some (.long t2) := Hs49.at hin49 rfl
      refine OGo.via (X47.laload hx (j := (2 : Int32)) (v := (.long t2)) (by rw [e47]; exact Ar49.1) (State.isArrayOf_alike hZ.alike Ar49.2.1) Ar49.2.2 hin49 hat49 (g := (mkF m 15 #[.val (.ref a1), .val (.long q1), .second] [(.int (2 : Int32)), (.ref ta)])) rfl rfl (hb hby d4_15)) ?_
      show OGo _ _ _ _ (T47.setTop (mkF m 16 #[.val (.ref a1), .val (.long q1), .second] [(.long t2)]))
      refine OGo.via (fun _ k => XS.lloadN X47.here hx rfl (hb hby d4_16) rfl (XS.lcmp X47.here hx rfl (hb hby d4_17) rfl k)) ?_
      by_cases hc18_52 : (lcmpW t2 q1) < (0 : Int32)
      · refine OGo.via (fun _ k => XS.ifNo X47.here hx rfl (hb hby d4_18) rfl ((if0 _ _).trans (tlt hc18_52).2.1) k) ?_
        show OGo _ _ _ _ (T47.setTop (mkF m 21 #[.val (.ref a1), .val (.long q1), .second] []))
        refine OGo.via (fun _ k => XS.aloadN X47.here hx rfl (hb hby d4_21) rfl rfl (XS.aloadN X47.here hx rfl (hb hby d4_22) rfl rfl k)) ?_
        obtain ⟨T53, X53, e53, st53⟩ := getF X47 hx hZ hown (host := "") (Or.inl (own_w hw 30 rfl)) Via.refl e47 f48 (g := (mkF m 23 #[.val (.ref a1), .val (.long q1), .second] [(.ref a1), (.ref a1)])) rfl rfl (hb hby d4_23)
        refine OGo.via st53 ?_
        show OGo _ _ _ _ (T53.setTop (mkF m 26 #[.val (.ref a1), .val (.long q1), .second] [(.int (2 : Int32)), (.ref a1)]))
        refine OGo.via (fun _ k => XS.iconst X53.here hx rfl (hb hby d4_26) (XS.iadd X53.here hx rfl (hb hby d4_27) rfl k)) ?_
        show OGo _ _ _ _ (T53.setTop (mkF m 28 #[.val (.ref a1), .val (.long q1), .second] [(.int ((2 : Int32) + (1 : Int32))), (.ref a1)]))
        rw [show ((2 : Int32) + (1 : Int32)) = (3 : Int32) from by decide]
        refine OGo.via (fun _ k => XS.aloadN X53.here hx rfl (hb hby d4_28) rfl rfl k) ?_
        have f56 := f31.other W36 (Or.inr (slot_ne (Or.inl (own_w hw 13 rfl)) (Or.inl (own_w hw 31 rfl)) (by decide) (t := (.array .long)) (t' := .int) (by decide) (by decide)))
        have f57 := f56.other W41 (Or.inr (slot_ne (Or.inl (own_w hw 13 rfl)) (Or.inl (own_w hw 28 rfl)) (by decide) (t := (.array .long)) (t' := .int) (by decide) (by decide)))
        obtain ⟨T55, X55, e55, st55⟩ := getF X53 hx hZ hown (host := "") (Or.inl (own_w hw 12 rfl)) Via.refl e53 f57 (g := (mkF m 29 #[.val (.ref a1), .val (.long q1), .second] [(.ref a1), (.int (3 : Int32)), (.ref a1)])) rfl rfl (hb hby d4_29)
        refine OGo.via st55 ?_
        show OGo _ _ _ _ (T55.setTop (mkF m 32 #[.val (.ref a1), .val (.long q1), .second] [(.ref pa), (.int (3 : Int32)), (.ref a1)]))
        have f59 := f33.other W36 (Ne.symm ne_a1_pa)
        have f60 := f59.other W41 (Ne.symm ne_a1_pa)
        obtain ⟨cl58, Ar58, q58, Sz58, Ng58, Hs58, Gf58⟩ := id f60
        refine OGo.via (X55.arraylength hx (by rw [e55]; exact Ar58.1) (State.isArrayOf_alike hZ.alike Ar58.2.1) (g := (mkF m 32 #[.val (.ref a1), .val (.long q1), .second] [(.ref pa), (.int (3 : Int32)), (.ref a1)])) rfl rfl (hb hby d4_32)) ?_
        rw [len_of Sz58 Ng58]
        show OGo _ _ _ _ (T55.setTop (mkF m 33 #[.val (.ref a1), .val (.long q1), .second] [(.int (8 : Int32)), (.int (3 : Int32)), (.ref a1)]))
        refine OGo.via (fun _ k => XS.iconst X55.here hx rfl (hb hby d4_33) (XS.isub X55.here hx rfl (hb hby d4_34) rfl k)) ?_
        show OGo _ _ _ _ (T55.setTop (mkF m 35 #[.val (.ref a1), .val (.long q1), .second] [(.int ((8 : Int32) - (1 : Int32))), (.int (3 : Int32)), (.ref a1)]))
        rw [show ((8 : Int32) - (1 : Int32)) = (7 : Int32) from by decide]
        refine OGo.via (fun _ k => XS.iand X55.here hx rfl (hb hby d4_35) rfl k) ?_
        show OGo _ _ _ _ (T55.setTop (mkF m 36 #[.val (.ref a1), .val (.long q1), .second] [(.int ((3 : Int32) &&& (7 : Int32))), (.ref a1)]))
        rw [show ((3 : Int32) &&& (7 : Int32)) = (3 : Int32) from by decide]
        have f64 := f42.wr W41
        obtain ⟨T63, h63, X63, e63, W63, st63⟩ := putF X55 hx hZ hown (host := "") (Or.inl (own_w hw 30 rfl)) Via.refl e55 f48 f64 (Or.inl (own_w hw 31 rfl)) (own_w hw 2 rfl) (ty := .int) (by decide) rfl rfl (g := (mkF m 36 #[.val (.ref a1), .val (.long q1), .second] [(.int (3 : Int32)), (.ref a1)])) rfl rfl (hb hby d4_36)
        refine OGo.via st63 ?_
        have Fw63 := f48.same W63
        have K63 : Keep h0 h63 [a1] := K41.wr W63 (Or.inl (List.mem_of_getElem? (i := 0) rfl))
        have N63 := Fr.snoc X63 N41 g_a1
        show OGo _ _ _ _ (T63.setTop (mkF m 39 #[.val (.ref a1), .val (.long q1), .second] []))
        refine OGo.via (fun _ k => XS.aloadN X63.here hx rfl (hb hby d4_39) rfl rfl (XS.dup X63.here hx rfl (hb hby d4_40) rfl rfl k)) ?_
        have f66 := Fw41.other W63 (Or.inr (slot_ne (Or.inl (own_w hw 28 rfl)) (Or.inl (own_w hw 31 rfl)) (by decide) (t := .int) (t' := .int) (by decide) (by decide)))
        obtain ⟨T65, X65, e65, st65⟩ := getF X63 hx hZ hown (host := "") (Or.inl (own_w hw 27 rfl)) Via.refl e63 f66 (g := (mkF m 41 #[.val (.ref a1), .val (.long q1), .second] [(.ref a1), (.ref a1)])) rfl rfl (hb hby d4_41)
        refine OGo.via st65 ?_
        show OGo _ _ _ _ (T65.setTop (mkF m 44 #[.val (.ref a1), .val (.long q1), .second] [(.int (3 : Int32)), (.ref a1)]))
        refine OGo.via (fun _ k => XS.iconst X65.here hx rfl (hb hby d4_44) (XS.isub X65.here hx rfl (hb hby d4_45) rfl k)) ?_
        show OGo _ _ _ _ (T65.setTop (mkF m 46 #[.val (.ref a1), .val (.long q1), .second] [(.int ((3 : Int32) - (1 : Int32))), (.ref a1)]))
        rw [show ((3 : Int32) - (1 : Int32)) = (2 : Int32) from by decide]
        have f69 := f64.wr W63
        obtain ⟨T68, h68, X68, e68, W68, st68⟩ := putF X65 hx hZ hown (host := "") (Or.inl (own_w hw 27 rfl)) Via.refl e65 f66 f69 (Or.inl (own_w hw 28 rfl)) (own_w hw 2 rfl) (ty := .int) (by decide) rfl rfl (g := (mkF m 46 #[.val (.ref a1), .val (.long q1), .second] [(.int (2 : Int32)), (.ref a1)])) rfl rfl (hb hby d4_46)
        refine OGo.via st68 ?_
        have Fw68 := f66.same W68
        have K68 : Keep h0 h68 [a1] := K63.wr W68 (Or.inl (List.mem_of_getElem? (i := 0) rfl))
        have N68 := Fr.snoc X68 N63 g_a1
        show OGo _ _ _ _ (T68.setTop (mkF m 49 #[.val (.ref a1), .val (.long q1), .second] []))
        refine OGo.via (fun _ k => XS.goto X68.here hx rfl (pc0 := 49) (pc' := 0) rfl (hb hby d4_49) (by decide) (by decide) (XS.aloadN X68.here hx rfl (hb hby d4_0) rfl rfl k)) ?_
        obtain ⟨T70, X70, e70, st70⟩ := getF X68 hx hZ hown (host := "") (Or.inl (own_w hw 27 rfl)) Via.refl e68 Fw68 (g := (mkF m 1 #[.val (.ref a1), .val (.long q1), .second] [(.ref a1)])) rfl rfl (hb hby d4_1)
        refine OGo.via st70 ?_
        show OGo _ _ _ _ (T70.setTop (mkF m 4 #[.val (.ref a1), .val (.long q1), .second] [(.int (2 : Int32))]))
        refine OGo.via (fun _ k => XS.ifNo X70.here hx rfl (hb hby d4_4) rfl ((if0 _ _).trans (tlt (by decide : (0 : Int32) < (2 : Int32))).2.2.2) k) ?_
        show OGo _ _ _ _ (T70.setTop (mkF m 7 #[.val (.ref a1), .val (.long q1), .second] []))
        refine OGo.via (fun _ k => XS.aloadN X70.here hx rfl (hb hby d4_7) rfl rfl k) ?_
        have f72 := f46.other W63 (Or.inr (slot_ne (Or.inl (own_w hw 15 rfl)) (Or.inl (own_w hw 31 rfl)) (by decide) (t := (.array .long)) (t' := .int) (by decide) (by decide)))
        have f73 := f72.other W68 (Or.inr (slot_ne (Or.inl (own_w hw 15 rfl)) (Or.inl (own_w hw 28 rfl)) (by decide) (t := (.array .long)) (t' := .int) (by decide) (by decide)))
        obtain ⟨T71, X71, e71, st71⟩ := getF X70 hx hZ hown (host := "") (Or.inl (own_w hw 14 rfl)) Via.refl e70 f73 (g := (mkF m 8 #[.val (.ref a1), .val (.long q1), .second] [(.ref a1)])) rfl rfl (hb hby d4_8)
        refine OGo.via st71 ?_
        show OGo _ _ _ _ (T71.setTop (mkF m 11 #[.val (.ref a1), .val (.long q1), .second] [(.ref ta)]))
        refine OGo.via (fun _ k => XS.aloadN X71.here hx rfl (hb hby d4_11) rfl rfl k) ?_
        have f75 := Fw63.other W68 (Or.inr (slot_ne (Or.inl (own_w hw 31 rfl)) (Or.inl (own_w hw 28 rfl)) (by decide) (t := .int) (t' := .int) (by decide) (by decide)))
        obtain ⟨T74, X74, e74, st74⟩ := getF X71 hx hZ hown (host := "") (Or.inl (own_w hw 30 rfl)) Via.refl e71 f75 (g := (mkF m 12 #[.val (.ref a1), .val (.long q1), .second] [(.ref a1), (.ref ta)])) rfl rfl (hb hby d4_12)
        refine OGo.via st74 ?_
        show OGo _ _ _ _ (T74.setTop (mkF m 15 #[.val (.ref a1), .val (.long q1), .second] [(.int (3 : Int32)), (.ref ta)]))
        have f77 := f51.other W63 (Ne.symm ne_a1_ta)
        have f78 := f77.other W68 (Ne.symm ne_a1_ta)
        obtain ⟨cl76, Ar76, q76, Sz76, Ng76, Hs76, Gf76⟩ := id f78
        have hin76 : ¬ ((3 : Int32) < 0 ∨ cl76.slots.size ≤ ((3 : Int32)).toNatClampNeg) := inb_of Sz76 ⟨by decide, by decide⟩
        have hat76 : cl76.slots[((3 : Int32)).toNatClampNeg]? = some (.long t3) := Hs76.at hin76 rfl
        refine OGo.via (X74.laload hx (j := (3 : Int32)) (v := (.long t3)) (by rw [e74]; exact Ar76.1) (State.isArrayOf_alike hZ.alike Ar76.2.1) Ar76.2.2 hin76 hat76 (g := (mkF m 15 #[.val (.ref a1), .val (.long q1), .second] [(.int (3 : Int32)), (.ref ta)])) rfl rfl (hb hby d4_15)) ?_
        show OGo _ _ _ _ (T74.setTop (mkF m 16 #[.val (.ref a1), .val (.long q1), .second] [(.long t3)]))
        refine OGo.via (fun _ k => XS.lloadN X74.here hx rfl (hb hby d4_16) rfl (XS.lcmp X74.here hx rfl (hb hby d4_17) rfl k)) ?_
        by_cases hc18_79 : (lcmpW t3 q1) < (0 : Int32)
        · refine OGo.via (fun _ k => XS.ifNo X74.here hx rfl (hb hby d4_18) rfl ((if0 _ _).trans (tlt hc18_79).2.1) k) ?_
          show OGo _ _ _ _ (T74.setTop (mkF m 21 #[.val (.ref a1), .val (.long q1), .second] []))
          refine OGo.via (fun _ k => XS.aloadN X74.here hx rfl (hb hby d4_21) rfl rfl (XS.aloadN X74.here hx rfl (hb hby d4_22) rfl rfl k)) ?_
          obtain ⟨T80, X80, e80, st80⟩ := getF X74 hx hZ hown (host := "") (Or.inl (own_w hw 30 rfl)) Via.refl e74 f75 (g := (mkF m 23 #[.val (.ref a1), .val (.long q1), .second] [(.ref a1), (.ref a1)])) rfl rfl (hb hby d4_23)
          refine OGo.via st80 ?_
          show OGo _ _ _ _ (T80.setTop (mkF m 26 #[.val (.ref a1), .val (.long q1), .second] [(.int (3 : Int32)), (.ref a1)]))
          refine OGo.via (fun _ k => XS.iconst X80.here hx rfl (hb hby d4_26) (XS.iadd X80.here hx rfl (hb hby d4_27) rfl k)) ?_
          show OGo _ _ _ _ (T80.setTop (mkF m 28 #[.val (.ref a1), .val (.long q1), .second] [(.int ((3 : Int32) + (1 : Int32))), (.ref a1)]))
          rw [show ((3 : Int32) + (1 : Int32)) = (4 : Int32) from by decide]
          refine OGo.via (fun _ k => XS.aloadN X80.here hx rfl (hb hby d4_28) rfl rfl k) ?_
          have f83 := f57.other W63 (Or.inr (slot_ne (Or.inl (own_w hw 13 rfl)) (Or.inl (own_w hw 31 rfl)) (by decide) (t := (.array .long)) (t' := .int) (by decide) (by decide)))
          have f84 := f83.other W68 (Or.inr (slot_ne (Or.inl (own_w hw 13 rfl)) (Or.inl (own_w hw 28 rfl)) (by decide) (t := (.array .long)) (t' := .int) (by decide) (by decide)))
          obtain ⟨T82, X82, e82, st82⟩ := getF X80 hx hZ hown (host := "") (Or.inl (own_w hw 12 rfl)) Via.refl e80 f84 (g := (mkF m 29 #[.val (.ref a1), .val (.long q1), .second] [(.ref a1), (.int (4 : Int32)), (.ref a1)])) rfl rfl (hb hby d4_29)
          refine OGo.via st82 ?_
          show OGo _ _ _ _ (T82.setTop (mkF m 32 #[.val (.ref a1), .val (.long q1), .second] [(.ref pa), (.int (4 : Int32)), (.ref a1)]))
          have f86 := f60.other W63 (Ne.symm ne_a1_pa)
          have f87 := f86.other W68 (Ne.symm ne_a1_pa)
          obtain ⟨cl85, Ar85, q85, Sz85, Ng85, Hs85, Gf85⟩ := id f87
          refine OGo.via (X82.arraylength hx (by rw [e82]; exact Ar85.1) (State.isArrayOf_alike hZ.alike Ar85.2.1) (g := (mkF m 32 #[.val (.ref a1), .val (.long q1), .second] [(.ref pa), (.int (4 : Int32)), (.ref a1)])) rfl rfl (hb hby d4_32)) ?_
          rw [len_of Sz85 Ng85]
          show OGo _ _ _ _ (T82.setTop (mkF m 33 #[.val (.ref a1), .val (.long q1), .second] [(.int (8 : Int32)), (.int (4 : Int32)), (.ref a1)]))
          refine OGo.via (fun _ k => XS.iconst X82.here hx rfl (hb hby d4_33) (XS.isub X82.here hx rfl (hb hby d4_34) rfl k)) ?_
          show OGo _ _ _ _ (T82.setTop (mkF m 35 #[.val (.ref a1), .val (.long q1), .second] [(.int ((8 : Int32) - (1 : Int32))), (.int (4 : Int32)), (.ref a1)]))
          rw [show ((8 : Int32) - (1 : Int32)) = (7 : Int32) from by decide]
          refine OGo.via (fun _ k => XS.iand X82.here hx rfl (hb hby d4_35) rfl k) ?_
          show OGo _ _ _ _ (T82.setTop (mkF m 36 #[.val (.ref a1), .val (.long q1), .second] [(.int ((4 : Int32) &&& (7 : Int32))), (.ref a1)]))
          rw [show ((4 : Int32) &&& (7 : Int32)) = (4 : Int32) from by decide]
          have f91 := f69.wr W68
          obtain ⟨T90, h90, X90, e90, W90, st90⟩ := putF X82 hx hZ hown (host := "") (Or.inl (own_w hw 30 rfl)) Via.refl e82 f75 f91 (Or.inl (own_w hw 31 rfl)) (own_w hw 2 rfl) (ty := .int) (by decide) rfl rfl (g := (mkF m 36 #[.val (.ref a1), .val (.long q1), .second] [(.int (4 : Int32)), (.ref a1)])) rfl rfl (hb hby d4_36)
          refine OGo.via st90 ?_
          have Fw90 := f75.same W90
          have K90 : Keep h0 h90 [a1] := K68.wr W90 (Or.inl (List.mem_of_getElem? (i := 0) rfl))
          have N90 := Fr.snoc X90 N68 g_a1
          show OGo _ _ _ _ (T90.setTop (mkF m 39 #[.val (.ref a1), .val (.long q1), .second] []))
          refine OGo.via (fun _ k => XS.aloadN X90.here hx rfl (hb hby d4_39) rfl rfl (XS.dup X90.here hx rfl (hb hby d4_40) rfl rfl k)) ?_
          have f93 := Fw68.other W90 (Or.inr (slot_ne (Or.inl (own_w hw 28 rfl)) (Or.inl (own_w hw 31 rfl)) (by decide) (t := .int) (t' := .int) (by decide) (by decide)))
          obtain ⟨T92, X92, e92, st92⟩ := getF X90 hx hZ hown (host := "") (Or.inl (own_w hw 27 rfl)) Via.refl e90 f93 (g := (mkF m 41 #[.val (.ref a1), .val (.long q1), .second] [(.ref a1), (.ref a1)])) rfl rfl (hb hby d4_41)
          refine OGo.via st92 ?_
          show OGo _ _ _ _ (T92.setTop (mkF m 44 #[.val (.ref a1), .val (.long q1), .second] [(.int (2 : Int32)), (.ref a1)]))
          refine OGo.via (fun _ k => XS.iconst X92.here hx rfl (hb hby d4_44) (XS.isub X92.here hx rfl (hb hby d4_45) rfl k)) ?_
          show OGo _ _ _ _ (T92.setTop (mkF m 46 #[.val (.ref a1), .val (.long q1), .second] [(.int ((2 : Int32) - (1 : Int32))), (.ref a1)]))
          rw [show ((2 : Int32) - (1 : Int32)) = (1 : Int32) from by decide]
          have f96 := f91.wr W90
          obtain ⟨T95, h95, X95, e95, W95, st95⟩ := putF X92 hx hZ hown (host := "") (Or.inl (own_w hw 27 rfl)) Via.refl e92 f93 f96 (Or.inl (own_w hw 28 rfl)) (own_w hw 2 rfl) (ty := .int) (by decide) rfl rfl (g := (mkF m 46 #[.val (.ref a1), .val (.long q1), .second] [(.int (1 : Int32)), (.ref a1)])) rfl rfl (hb hby d4_46)
          refine OGo.via st95 ?_
          have Fw95 := f93.same W95
          have K95 : Keep h0 h95 [a1] := K90.wr W95 (Or.inl (List.mem_of_getElem? (i := 0) rfl))
          have N95 := Fr.snoc X95 N90 g_a1
          show OGo _ _ _ _ (T95.setTop (mkF m 49 #[.val (.ref a1), .val (.long q1), .second] []))
          refine OGo.via (fun _ k => XS.goto X95.here hx rfl (pc0 := 49) (pc' := 0) rfl (hb hby d4_49) (by decide) (by decide) (XS.aloadN X95.here hx rfl (hb hby d4_0) rfl rfl k)) ?_
          obtain ⟨T97, X97, e97, st97⟩ := getF X95 hx hZ hown (host := "") (Or.inl (own_w hw 27 rfl)) Via.refl e95 Fw95 (g := (mkF m 1 #[.val (.ref a1), .val (.long q1), .second] [(.ref a1)])) rfl rfl (hb hby d4_1)
          refine OGo.via st97 ?_
          show OGo _ _ _ _ (T97.setTop (mkF m 4 #[.val (.ref a1), .val (.long q1), .second] [(.int (1 : Int32))]))
          refine OGo.via (fun _ k => XS.ifNo X97.here hx rfl (hb hby d4_4) rfl ((if0 _ _).trans (tlt (by decide : (0 : Int32) < (1 : Int32))).2.2.2) k) ?_
          show OGo _ _ _ _ (T97.setTop (mkF m 7 #[.val (.ref a1), .val (.long q1), .second] []))
          refine OGo.via (fun _ k => XS.aloadN X97.here hx rfl (hb hby d4_7) rfl rfl k) ?_
          have f99 := f73.other W90 (Or.inr (slot_ne (Or.inl (own_w hw 15 rfl)) (Or.inl (own_w hw 31 rfl)) (by decide) (t := (.array .long)) (t' := .int) (by decide) (by decide)))
          have f100 := f99.other W95 (Or.inr (slot_ne (Or.inl (own_w hw 15 rfl)) (Or.inl (own_w hw 28 rfl)) (by decide) (t := (.array .long)) (t' := .int) (by decide) (by decide)))
          obtain ⟨T98, X98, e98, st98⟩ := getF X97 hx hZ hown (host := "") (Or.inl (own_w hw 14 rfl)) Via.refl e97 f100 (g := (mkF m 8 #[.val (.ref a1), .val (.long q1), .second] [(.ref a1)])) rfl rfl (hb hby d4_8)
          refine OGo.via st98 ?_
          show OGo _ _ _ _ (T98.setTop (mkF m 11 #[.val (.ref a1), .val (.long q1), .second] [(.ref ta)]))
          refine OGo.via (fun _ k => XS.aloadN X98.here hx rfl (hb hby d4_11) rfl rfl k) ?_
          have f102 := Fw90.other W95 (Or.inr (slot_ne (Or.inl (own_w hw 31 rfl)) (Or.inl (own_w hw 28 rfl)) (by decide) (t := .int) (t' := .int) (by decide) (by decide)))
          obtain ⟨T101, X101, e101, st101⟩ := getF X98 hx hZ hown (host := "") (Or.inl (own_w hw 30 rfl)) Via.refl e98 f102 (g := (mkF m 12 #[.val (.ref a1), .val (.long q1), .second] [(.ref a1), (.ref ta)])) rfl rfl (hb hby d4_12)
          refine OGo.via st101 ?_
          show OGo _ _ _ _ (T101.setTop (mkF m 15 #[.val (.ref a1), .val (.long q1), .second] [(.int (4 : Int32)), (.ref ta)]))
          have f104 := f78.other W90 (Ne.symm ne_a1_ta)
          have f105 := f104.other W95 (Ne.symm ne_a1_ta)
          obtain ⟨cl103, Ar103, q103, Sz103, Ng103, Hs103, Gf103⟩ := id f105
          have hin103 : ¬ ((4 : Int32) < 0 ∨ cl103.slots.size ≤ ((4 : Int32)).toNatClampNeg) := inb_of Sz103 ⟨by decide, by decide⟩
          have hat103 : cl103.slots[((4 : Int32)).toNatClampNeg]? = some (.long t4) := Hs103.at hin103 rfl
          refine OGo.via (X101.laload hx (j := (4 : Int32)) (v := (.long t4)) (by rw [e101]; exact Ar103.1) (State.isArrayOf_alike hZ.alike Ar103.2.1) Ar103.2.2 hin103 hat103 (g := (mkF m 15 #[.val (.ref a1), .val (.long q1), .second] [(.int (4 : Int32)), (.ref ta)])) rfl rfl (hb hby d4_15)) ?_
          show OGo _ _ _ _ (T101.setTop (mkF m 16 #[.val (.ref a1), .val (.long q1), .second] [(.long t4)]))
          refine OGo.via (fun _ k => XS.lloadN X101.here hx rfl (hb hby d4_16) rfl (XS.lcmp X101.here hx rfl (hb hby d4_17) rfl k)) ?_
          by_cases hc18_106 : (lcmpW t4 q1) < (0 : Int32)
          · refine OGo.via (fun _ k => XS.ifNo X101.here hx rfl (hb hby d4_18) rfl ((if0 _ _).trans (tlt hc18_106).2.1) k) ?_
            show OGo _ _ _ _ (T101.setTop (mkF m 21 #[.val (.ref a1), .val (.long q1), .second] []))
            refine OGo.via (fun _ k => XS.aloadN X101.here hx rfl (hb hby d4_21) rfl rfl (XS.aloadN X101.here hx rfl (hb hby d4_22) rfl rfl k)) ?_
            obtain ⟨T107, X107, e107, st107⟩ := getF X101 hx hZ hown (host := "") (Or.inl (own_w hw 30 rfl)) Via.refl e101 f102 (g := (mkF m 23 #[.val (.ref a1), .val (.long q1), .second] [(.ref a1), (.ref a1)])) rfl rfl (hb hby d4_23)
            refine OGo.via st107 ?_
            show OGo _ _ _ _ (T107.setTop (mkF m 26 #[.val (.ref a1), .val (.long q1), .second] [(.int (4 : Int32)), (.ref a1)]))
            refine OGo.via (fun _ k => XS.iconst X107.here hx rfl (hb hby d4_26) (XS.iadd X107.here hx rfl (hb hby d4_27) rfl k)) ?_
            show OGo _ _ _ _ (T107.setTop (mkF m 28 #[.val (.ref a1), .val (.long q1), .second] [(.int ((4 : Int32) + (1 : Int32))), (.ref a1)]))
            rw [show ((4 : Int32) + (1 : Int32)) = (5 : Int32) from by decide]
            refine OGo.via (fun _ k => XS.aloadN X107.here hx rfl (hb hby d4_28) rfl rfl k) ?_
            have f110 := f84.other W90 (Or.inr (slot_ne (Or.inl (own_w hw 13 rfl)) (Or.inl (own_w hw 31 rfl)) (by decide) (t := (.array .long)) (t' := .int) (by decide) (by decide)))
            have f111 := f110.other W95 (Or.inr (slot_ne (Or.inl (own_w hw 13 rfl)) (Or.inl (own_w hw 28 rfl)) (by decide) (t := (.array .long)) (t' := .int) (by decide) (by decide)))
            obtain ⟨T109, X109, e109, st109⟩ := getF X107 hx hZ hown (host := "") (Or.inl (own_w hw 12 rfl)) Via.refl e107 f111 (g := (mkF m 29 #[.val (.ref a1), .val (.long q1), .second] [(.ref a1), (.int (5 : Int32)), (.ref a1)])) rfl rfl (hb hby d4_29)
            refine OGo.via st109 ?_
            show OGo _ _ _ _ (T109.setTop (mkF m 32 #[.val (.ref a1), .val (.long q1), .second] [(.ref pa), (.int (5 : Int32)), (.ref a1)]))
            have f113 := f87.other W90 (Ne.symm ne_a1_pa)
            have f114 := f113.other W95 (Ne.symm ne_a1_pa)
            obtain ⟨cl112, Ar112, q112, Sz112, Ng112, Hs112, Gf112⟩ := id f114
            refine OGo.via (X109.arraylength hx (by rw [e109]; exact Ar112.1) (State.isArrayOf_alike hZ.alike Ar112.2.1) (g := (mkF m 32 #[.val (.ref a1), .val (.long q1), .second] [(.ref pa), (.int (5 : Int32)), (.ref a1)])) rfl rfl (hb hby d4_32)) ?_
            rw [len_of Sz112 Ng112]
            show OGo _ _ _ _ (T109.setTop (mkF m 33 #[.val (.ref a1), .val (.long q1), .second] [(.int (8 : Int32)), (.int (5 : Int32)), (.ref a1)]))
            refine OGo.via (fun _ k => XS.iconst X109.here hx rfl (hb hby d4_33) (XS.isub X109.here hx rfl (hb hby d4_34) rfl k)) ?_
            show OGo _ _ _ _ (T109.setTop (mkF m 35 #[.val (.ref a1), .val (.long q1), .second] [(.int ((8 : Int32) - (1 : Int32))), (.int (5 : Int32)), (.ref a1)]))
            rw [show ((8 : Int32) - (1 : Int32)) = (7 : Int32) from by decide]
            refine OGo.via (fun _ k => XS.iand X109.here hx rfl (hb hby d4_35) rfl k) ?_
            show OGo _ _ _ _ (T109.setTop (mkF m 36 #[.val (.ref a1), .val (.long q1), .second] [(.int ((5 : Int32) &&& (7 : Int32))), (.ref a1)]))
            rw [show ((5 : Int32) &&& (7 : Int32)) = (5 : Int32) from by decide]
            have f118 := f96.wr W95
            obtain ⟨T117, h117, X117, e117, W117, st117⟩ := putF X109 hx hZ hown (host := "") (Or.inl (own_w hw 30 rfl)) Via.refl e109 f102 f118 (Or.inl (own_w hw 31 rfl)) (own_w hw 2 rfl) (ty := .int) (by decide) rfl rfl (g := (mkF m 36 #[.val (.ref a1), .val (.long q1), .second] [(.int (5 : Int32)), (.ref a1)])) rfl rfl (hb hby d4_36)
            refine OGo.via st117 ?_
            have Fw117 := f102.same W117
            have K117 : Keep h0 h117 [a1] := K95.wr W117 (Or.inl (List.mem_of_getElem? (i := 0) rfl))
            have N117 := Fr.snoc X117 N95 g_a1
            show OGo _ _ _ _ (T117.setTop (mkF m 39 #[.val (.ref a1), .val (.long q1), .second] []))
            refine OGo.via (fun _ k => XS.aloadN X117.here hx rfl (hb hby d4_39) rfl rfl (XS.dup X117.here hx rfl (hb hby d4_40) rfl rfl k)) ?_
            have f120 := Fw95.other W117 (Or.inr (slot_ne (Or.inl (own_w hw 28 rfl)) (Or.inl (own_w hw 31 rfl)) (by decide) (t := .int) (t' := .int) (by decide) (by decide)))
            obtain ⟨T119, X119, e119, st119⟩ := getF X117 hx hZ hown (host := "") (Or.inl (own_w hw 27 rfl)) Via.refl e117 f120 (g := (mkF m 41 #[.val (.ref a1), .val (.long q1), .second] [(.ref a1), (.ref a1)])) rfl rfl (hb hby d4_41)
            refine OGo.via st119 ?_
            show OGo _ _ _ _ (T119.setTop (mkF m 44 #[.val (.ref a1), .val (.long q1), .second] [(.int (1 : Int32)), (.ref a1)]))
            refine OGo.via (fun _ k => XS.iconst X119.here hx rfl (hb hby d4_44) (XS.isub X119.here hx rfl (hb hby d4_45) rfl k)) ?_
            show OGo _ _ _ _ (T119.setTop (mkF m 46 #[.val (.ref a1), .val (.long q1), .second] [(.int ((1 : Int32) - (1 : Int32))), (.ref a1)]))
            rw [show ((1 : Int32) - (1 : Int32)) = (0 : Int32) from by decide]
            have f123 := f118.wr W117
            obtain ⟨T122, h122, X122, e122, W122, st122⟩ := putF X119 hx hZ hown (host := "") (Or.inl (own_w hw 27 rfl)) Via.refl e119 f120 f123 (Or.inl (own_w hw 28 rfl)) (own_w hw 2 rfl) (ty := .int) (by decide) rfl rfl (g := (mkF m 46 #[.val (.ref a1), .val (.long q1), .second] [(.int (0 : Int32)), (.ref a1)])) rfl rfl (hb hby d4_46)
            refine OGo.via st122 ?_
            have Fw122 := f120.same W122
            have K122 : Keep h0 h122 [a1] := K117.wr W122 (Or.inl (List.mem_of_getElem? (i := 0) rfl))
            have N122 := Fr.snoc X122 N117 g_a1
            show OGo _ _ _ _ (T122.setTop (mkF m 49 #[.val (.ref a1), .val (.long q1), .second] []))
            refine OGo.via (fun _ k => XS.goto X122.here hx rfl (pc0 := 49) (pc' := 0) rfl (hb hby d4_49) (by decide) (by decide) (XS.aloadN X122.here hx rfl (hb hby d4_0) rfl rfl k)) ?_
            obtain ⟨T124, X124, e124, st124⟩ := getF X122 hx hZ hown (host := "") (Or.inl (own_w hw 27 rfl)) Via.refl e122 Fw122 (g := (mkF m 1 #[.val (.ref a1), .val (.long q1), .second] [(.ref a1)])) rfl rfl (hb hby d4_1)
            refine OGo.via st124 ?_
            show OGo _ _ _ _ (T124.setTop (mkF m 4 #[.val (.ref a1), .val (.long q1), .second] [(.int (0 : Int32))]))
            refine OGo.via (fun _ k => XS.ifYes X124.here hx rfl (pc0 := 4) (pc' := 52) rfl (hb hby d4_4) rfl ((if0 _ _).trans (flt (by decide : ¬ ((0 : Int32) < (0 : Int32)))).2.2.2) (by decide) (by decide) k) ?_
            show OGo _ _ _ _ (T124.setTop (mkF m 52 #[.val (.ref a1), .val (.long q1), .second] []))
            refine OGo.via (fun _ k => XS.aloadN X124.here hx rfl (hb hby d4_52) rfl rfl k) ?_
            obtain ⟨T125, X125, e125, st125⟩ := getF X124 hx hZ hown (host := "") (Or.inl (own_w hw 27 rfl)) Via.refl e124 Fw122 (g := (mkF m 53 #[.val (.ref a1), .val (.long q1), .second] [(.ref a1)])) rfl rfl (hb hby d4_53)
            refine OGo.via st125 ?_
            show OGo _ _ _ _ (T125.setTop (mkF m 56 #[.val (.ref a1), .val (.long q1), .second] [(.int (0 : Int32))]))
            refine OGo.via (fun _ k => XS.ifNo X125.here hx rfl (hb hby d4_56) rfl ((if0 _ _).trans (teq (by decide : (0 : Int32) = (0 : Int32))).2) k) ?_
            show OGo _ _ _ _ (T125.setTop (mkF m 59 #[.val (.ref a1), .val (.long q1), .second] []))
            refine OGo.via (X125.ldc2Long hx hown (mvT hZ (own_w hw 29 rfl)) (g := (mkF m 59 #[.val (.ref a1), .val (.long q1), .second] [])) rfl (hb hby d4_59)) ?_
            show OGo _ _ _ _ (T125.setTop (mkF m 62 #[.val (.ref a1), .val (.long q1), .second] [(.long (9223372036854775807 : Int64))]))
            refine OGo.via (fun _ k => XS.goto X125.here hx rfl (pc0 := 62) (pc' := 74) rfl (hb hby d4_62) (by decide) (by decide) k) ?_
            show OGo _ _ _ _ (T125.setTop (mkF m 74 #[.val (.ref a1), .val (.long q1), .second] [(.long (9223372036854775807 : Int64))]))
            have hD : (own_adv (own_adv (own_adv (own_adv (own_adv (0 : Int32) (5 : Int32) t0 t1 t2 t3 t4 q1) (5 : Int32) t0 t1 t2 t3 t4 q1) (5 : Int32) t0 t1 t2 t3 t4 q1) (5 : Int32) t0 t1 t2 t3 t4 q1) (5 : Int32) t0 t1 t2 t3 t4 q1) = (5 : Int32) := by rw [own_adv_y (k := (0 : Int32)) (k' := (1 : Int32)) (by decide) (by decide) (by rw [own_t0]; exact hc18_5), own_adv_y (k := (1 : Int32)) (k' := (2 : Int32)) (by decide) (by decide) (by rw [own_t1]; exact hc18_26), own_adv_y (k := (2 : Int32)) (k' := (3 : Int32)) (by decide) (by decide) (by rw [own_t2]; exact hc18_52), own_adv_y (k := (3 : Int32)) (k' := (4 : Int32)) (by decide) (by decide) (by rw [own_t3]; exact hc18_79), own_adv_y (k := (4 : Int32)) (k' := (5 : Int32)) (by decide) (by decide) (by rw [own_t4]; exact hc18_106)]
            have f126 := f123.wr W122
            refine own_retL X125 hx Bd.notSynchronized Bd.returns (hb hby d4_74) (by decide) (by decide) ?_
            show Q_rm4b0 Z _ _ _ _ _ _ _ _ _ _ _ _ _ h0 n0 _ T125.heap _
            rw [e125]
            exact ⟨(by rw [hD, own_xy rfl]), N122, K122, f126, (by rw [hD]; exact Fw122)⟩
          · refine OGo.via (fun _ k => XS.ifYes X101.here hx rfl (pc0 := 18) (pc' := 52) rfl (hb hby d4_18) rfl ((if0 _ _).trans (flt hc18_106).2.1) (by decide) (by decide) k) ?_
            show OGo _ _ _ _ (T101.setTop (mkF m 52 #[.val (.ref a1), .val (.long q1), .second] []))
            refine OGo.via (fun _ k => XS.aloadN X101.here hx rfl (hb hby d4_52) rfl rfl k) ?_
            obtain ⟨T127, X127, e127, st127⟩ := getF X101 hx hZ hown (host := "") (Or.inl (own_w hw 27 rfl)) Via.refl e101 Fw95 (g := (mkF m 53 #[.val (.ref a1), .val (.long q1), .second] [(.ref a1)])) rfl rfl (hb hby d4_53)
            refine OGo.via st127 ?_
            show OGo _ _ _ _ (T127.setTop (mkF m 56 #[.val (.ref a1), .val (.long q1), .second] [(.int (1 : Int32))]))
            refine OGo.via (fun _ k => XS.ifYes X127.here hx rfl (pc0 := 56) (pc' := 65) rfl (hb hby d4_56) rfl ((if0 _ _).trans (feq (by decide : ¬ ((1 : Int32) = (0 : Int32)))).2) (by decide) (by decide) k) ?_
            show OGo _ _ _ _ (T127.setTop (mkF m 65 #[.val (.ref a1), .val (.long q1), .second] []))
            refine OGo.via (fun _ k => XS.aloadN X127.here hx rfl (hb hby d4_65) rfl rfl k) ?_
            have f129 := f84.other W90 (Or.inr (slot_ne (Or.inl (own_w hw 13 rfl)) (Or.inl (own_w hw 31 rfl)) (by decide) (t := (.array .long)) (t' := .int) (by decide) (by decide)))
            have f130 := f129.other W95 (Or.inr (slot_ne (Or.inl (own_w hw 13 rfl)) (Or.inl (own_w hw 28 rfl)) (by decide) (t := (.array .long)) (t' := .int) (by decide) (by decide)))
            obtain ⟨T128, X128, e128, st128⟩ := getF X127 hx hZ hown (host := "") (Or.inl (own_w hw 12 rfl)) Via.refl e127 f130 (g := (mkF m 66 #[.val (.ref a1), .val (.long q1), .second] [(.ref a1)])) rfl rfl (hb hby d4_66)
            refine OGo.via st128 ?_
            show OGo _ _ _ _ (T128.setTop (mkF m 69 #[.val (.ref a1), .val (.long q1), .second] [(.ref pa)]))
            refine OGo.via (fun _ k => XS.aloadN X128.here hx rfl (hb hby d4_69) rfl rfl k) ?_
            obtain ⟨T131, X131, e131, st131⟩ := getF X128 hx hZ hown (host := "") (Or.inl (own_w hw 30 rfl)) Via.refl e128 f102 (g := (mkF m 70 #[.val (.ref a1), .val (.long q1), .second] [(.ref a1), (.ref pa)])) rfl rfl (hb hby d4_70)
            refine OGo.via st131 ?_
            show OGo _ _ _ _ (T131.setTop (mkF m 73 #[.val (.ref a1), .val (.long q1), .second] [(.int (4 : Int32)), (.ref pa)]))
            have f133 := f87.other W90 (Ne.symm ne_a1_pa)
            have f134 := f133.other W95 (Ne.symm ne_a1_pa)
            obtain ⟨cl132, Ar132, q132, Sz132, Ng132, Hs132, Gf132⟩ := id f134
            have hin132 : ¬ ((4 : Int32) < 0 ∨ cl132.slots.size ≤ ((4 : Int32)).toNatClampNeg) := inb_of Sz132 ⟨by decide, by decide⟩
            have hat132 : cl132.slots[((4 : Int32)).toNatClampNeg]? = some (.long (pz + (4 : Int64))) := Hs132.at hin132 rfl
            refine OGo.via (X131.laload hx (j := (4 : Int32)) (v := (.long (pz + (4 : Int64)))) (by rw [e131]; exact Ar132.1) (State.isArrayOf_alike hZ.alike Ar132.2.1) Ar132.2.2 hin132 hat132 (g := (mkF m 73 #[.val (.ref a1), .val (.long q1), .second] [(.int (4 : Int32)), (.ref pa)])) rfl rfl (hb hby d4_73)) ?_
            show OGo _ _ _ _ (T131.setTop (mkF m 74 #[.val (.ref a1), .val (.long q1), .second] [(.long (pz + (4 : Int64)))]))
            show OGo _ _ _ _ (T131.setTop (mkF m 74 #[.val (.ref a1), .val (.long q1), .second] [(.long (pz + (4 : Int64)))]))
            have hD : (own_adv (own_adv (own_adv (own_adv (own_adv (0 : Int32) (5 : Int32) t0 t1 t2 t3 t4 q1) (5 : Int32) t0 t1 t2 t3 t4 q1) (5 : Int32) t0 t1 t2 t3 t4 q1) (5 : Int32) t0 t1 t2 t3 t4 q1) (5 : Int32) t0 t1 t2 t3 t4 q1) = (4 : Int32) := by rw [own_adv_y (k := (0 : Int32)) (k' := (1 : Int32)) (by decide) (by decide) (by rw [own_t0]; exact hc18_5), own_adv_y (k := (1 : Int32)) (k' := (2 : Int32)) (by decide) (by decide) (by rw [own_t1]; exact hc18_26), own_adv_y (k := (2 : Int32)) (k' := (3 : Int32)) (by decide) (by decide) (by rw [own_t2]; exact hc18_52), own_adv_y (k := (3 : Int32)) (k' := (4 : Int32)) (by decide) (by decide) (by rw [own_t3]; exact hc18_79), own_adv_n (k := (4 : Int32)) (by rw [own_t4]; exact hc18_106)]
            have f135 := f96.wr W95
            refine own_retL X131 hx Bd.notSynchronized Bd.returns (hb hby d4_74) (by decide) (by decide) ?_
            show Q_rm4b0 Z _ _ _ _ _ _ _ _ _ _ _ _ _ h0 n0 _ T131.heap _
            rw [e131]
            exact ⟨(by rw [hD, own_xn (by decide)]; rfl), N95, K95, f135, (by rw [hD]; exact Fw95)⟩
        · refine OGo.via (fun _ k => XS.ifYes X74.here hx rfl (pc0 := 18) (pc' := 52) rfl (hb hby d4_18) rfl ((if0 _ _).trans (flt hc18_79).2.1) (by decide) (by decide) k) ?_
          show OGo _ _ _ _ (T74.setTop (mkF m 52 #[.val (.ref a1), .val (.long q1), .second] []))
          refine OGo.via (fun _ k => XS.aloadN X74.here hx rfl (hb hby d4_52) rfl rfl k) ?_
          obtain ⟨T136, X136, e136, st136⟩ := getF X74 hx hZ hown (host := "") (Or.inl (own_w hw 27 rfl)) Via.refl e74 Fw68 (g := (mkF m 53 #[.val (.ref a1), .val (.long q1), .second] [(.ref a1)])) rfl rfl (hb hby d4_53)
          refine OGo.via st136 ?_
          show OGo _ _ _ _ (T136.setTop (mkF m 56 #[.val (.ref a1), .val (.long q1), .second] [(.int (2 : Int32))]))
          refine OGo.via (fun _ k => XS.ifYes X136.here hx rfl (pc0 := 56) (pc' := 65) rfl (hb hby d4_56) rfl ((if0 _ _).trans (feq (by decide : ¬ ((2 : Int32) = (0 : Int32)))).2) (by decide) (by decide) k) ?_
          show OGo _ _ _ _ (T136.setTop (mkF m 65 #[.val (.ref a1), .val (.long q1), .second] []))
          refine OGo.via (fun _ k => XS.aloadN X136.here hx rfl (hb hby d4_65) rfl rfl k) ?_
          have f138 := f57.other W63 (Or.inr (slot_ne (Or.inl (own_w hw 13 rfl)) (Or.inl (own_w hw 31 rfl)) (by decide) (t := (.array .long)) (t' := .int) (by decide) (by decide)))
          have f139 := f138.other W68 (Or.inr (slot_ne (Or.inl (own_w hw 13 rfl)) (Or.inl (own_w hw 28 rfl)) (by decide) (t := (.array .long)) (t' := .int) (by decide) (by decide)))
          obtain ⟨T137, X137, e137, st137⟩ := getF X136 hx hZ hown (host := "") (Or.inl (own_w hw 12 rfl)) Via.refl e136 f139 (g := (mkF m 66 #[.val (.ref a1), .val (.long q1), .second] [(.ref a1)])) rfl rfl (hb hby d4_66)
          refine OGo.via st137 ?_
          show OGo _ _ _ _ (T137.setTop (mkF m 69 #[.val (.ref a1), .val (.long q1), .second] [(.ref pa)]))
          refine OGo.via (fun _ k => XS.aloadN X137.here hx rfl (hb hby d4_69) rfl rfl k) ?_
          obtain ⟨T140, X140, e140, st140⟩ := getF X137 hx hZ hown (host := "") (Or.inl (own_w hw 30 rfl)) Via.refl e137 f75 (g := (mkF m 70 #[.val (.ref a1), .val (.long q1), .second] [(.ref a1), (.ref pa)])) rfl rfl (hb hby d4_70)
          refine OGo.via st140 ?_
          show OGo _ _ _ _ (T140.setTop (mkF m 73 #[.val (.ref a1), .val (.long q1), .second] [(.int (3 : Int32)), (.ref pa)]))
          have f142 := f60.other W63 (Ne.symm ne_a1_pa)
          have f143 := f142.other W68 (Ne.symm ne_a1_pa)
          obtain ⟨cl141, Ar141, q141, Sz141, Ng141, Hs141, Gf141⟩ := id f143
          have hin141 : ¬ ((3 : Int32) < 0 ∨ cl141.slots.size ≤ ((3 : Int32)).toNatClampNeg) := inb_of Sz141 ⟨by decide, by decide⟩
          have hat141 : cl141.slots[((3 : Int32)).toNatClampNeg]? = some (.long (pz + (3 : Int64))) := Hs141.at hin141 rfl
          refine OGo.via (X140.laload hx (j := (3 : Int32)) (v := (.long (pz + (3 : Int64)))) (by rw [e140]; exact Ar141.1) (State.isArrayOf_alike hZ.alike Ar141.2.1) Ar141.2.2 hin141 hat141 (g := (mkF m 73 #[.val (.ref a1), .val (.long q1), .second] [(.int (3 : Int32)), (.ref pa)])) rfl rfl (hb hby d4_73)) ?_
          show OGo _ _ _ _ (T140.setTop (mkF m 74 #[.val (.ref a1), .val (.long q1), .second] [(.long (pz + (3 : Int64)))]))
          show OGo _ _ _ _ (T140.setTop (mkF m 74 #[.val (.ref a1), .val (.long q1), .second] [(.long (pz + (3 : Int64)))]))
          have hD : (own_adv (own_adv (own_adv (own_adv (own_adv (0 : Int32) (5 : Int32) t0 t1 t2 t3 t4 q1) (5 : Int32) t0 t1 t2 t3 t4 q1) (5 : Int32) t0 t1 t2 t3 t4 q1) (5 : Int32) t0 t1 t2 t3 t4 q1) (5 : Int32) t0 t1 t2 t3 t4 q1) = (3 : Int32) := by rw [own_adv_y (k := (0 : Int32)) (k' := (1 : Int32)) (by decide) (by decide) (by rw [own_t0]; exact hc18_5), own_adv_y (k := (1 : Int32)) (k' := (2 : Int32)) (by decide) (by decide) (by rw [own_t1]; exact hc18_26), own_adv_y (k := (2 : Int32)) (k' := (3 : Int32)) (by decide) (by decide) (by rw [own_t2]; exact hc18_52), own_adv_n (k := (3 : Int32)) (by rw [own_t3]; exact hc18_79), own_adv_n (k := (3 : Int32)) (by rw [own_t3]; exact hc18_79)]
          have f144 := f69.wr W68
          refine own_retL X140 hx Bd.notSynchronized Bd.returns (hb hby d4_74) (by decide) (by decide) ?_
          show Q_rm4b0 Z _ _ _ _ _ _ _ _ _ _ _ _ _ h0 n0 _ T140.heap _
          rw [e140]
          exact ⟨(by rw [hD, own_xn (by decide)]; rfl), N68, K68, f144, (by rw [hD]; exact Fw68)⟩
      · refine OGo.via (fun _ k => XS.ifYes X47.here hx rfl (pc0 := 18) (pc' := 52) rfl (hb hby d4_18) rfl ((if0 _ _).trans (flt hc18_52).2.1) (by decide) (by decide) k) ?_
        show OGo _ _ _ _ (T47.setTop (mkF m 52 #[.val (.ref a1), .val (.long q1), .second] []))
        refine OGo.via (fun _ k => XS.aloadN X47.here hx rfl (hb hby d4_52) rfl rfl k) ?_
        obtain ⟨T145, X145, e145, st145⟩ := getF X47 hx hZ hown (host := "") (Or.inl (own_w hw 27 rfl)) Via.refl e47 Fw41 (g := (mkF m 53 #[.val (.ref a1), .val (.long q1), .second] [(.ref a1)])) rfl rfl (hb hby d4_53)
        refine OGo.via st145 ?_
        show OGo _ _ _ _ (T145.setTop (mkF m 56 #[.val (.ref a1), .val (.long q1), .second] [(.int (3 : Int32))]))
        refine OGo.via (fun _ k => XS.ifYes X145.here hx rfl (pc0 := 56) (pc' := 65) rfl (hb hby d4_56) rfl ((if0 _ _).trans (feq (by decide : ¬ ((3 : Int32) = (0 : Int32)))).2) (by decide) (by decide) k) ?_
        show OGo _ _ _ _ (T145.setTop (mkF m 65 #[.val (.ref a1), .val (.long q1), .second] []))
        refine OGo.via (fun _ k => XS.aloadN X145.here hx rfl (hb hby d4_65) rfl rfl k) ?_
        have f147 := f31.other W36 (Or.inr (slot_ne (Or.inl (own_w hw 13 rfl)) (Or.inl (own_w hw 31 rfl)) (by decide) (t := (.array .long)) (t' := .int) (by decide) (by decide)))
        have f148 := f147.other W41 (Or.inr (slot_ne (Or.inl (own_w hw 13 rfl)) (Or.inl (own_w hw 28 rfl)) (by decide) (t := (.array .long)) (t' := .int) (by decide) (by decide)))
        obtain ⟨T146, X146, e146, st146⟩ := getF X145 hx hZ hown (host := "") (Or.inl (own_w hw 12 rfl)) Via.refl e145 f148 (g := (mkF m 66 #[.val (.ref a1), .val (.long q1), .second] [(.ref a1)])) rfl rfl (hb hby d4_66)
        refine OGo.via st146 ?_
        show OGo _ _ _ _ (T146.setTop (mkF m 69 #[.val (.ref a1), .val (.long q1), .second] [(.ref pa)]))
        refine OGo.via (fun _ k => XS.aloadN X146.here hx rfl (hb hby d4_69) rfl rfl k) ?_
        obtain ⟨T149, X149, e149, st149⟩ := getF X146 hx hZ hown (host := "") (Or.inl (own_w hw 30 rfl)) Via.refl e146 f48 (g := (mkF m 70 #[.val (.ref a1), .val (.long q1), .second] [(.ref a1), (.ref pa)])) rfl rfl (hb hby d4_70)
        refine OGo.via st149 ?_
        show OGo _ _ _ _ (T149.setTop (mkF m 73 #[.val (.ref a1), .val (.long q1), .second] [(.int (2 : Int32)), (.ref pa)]))
        have f151 := f33.other W36 (Ne.symm ne_a1_pa)
        have f152 := f151.other W41 (Ne.symm ne_a1_pa)
        obtain ⟨cl150, Ar150, q150, Sz150, Ng150, Hs150, Gf150⟩ := id f152
        have hin150 : ¬ ((2 : Int32) < 0 ∨ cl150.slots.size ≤ ((2 : Int32)).toNatClampNeg) := inb_of Sz150 ⟨by decide, by decide⟩
        have hat150 : cl150.slots[((2 : Int32)).toNatClampNeg]? = some (.long (pz + (2 : Int64))) := Hs150.at hin150 rfl
        refine OGo.via (X149.laload hx (j := (2 : Int32)) (v := (.long (pz + (2 : Int64)))) (by rw [e149]; exact Ar150.1) (State.isArrayOf_alike hZ.alike Ar150.2.1) Ar150.2.2 hin150 hat150 (g := (mkF m 73 #[.val (.ref a1), .val (.long q1), .second] [(.int (2 : Int32)), (.ref pa)])) rfl rfl (hb hby d4_73)) ?_
        show OGo _ _ _ _ (T149.setTop (mkF m 74 #[.val (.ref a1), .val (.long q1), .second] [(.long (pz + (2 : Int64)))]))
        show OGo _ _ _ _ (T149.setTop (mkF m 74 #[.val (.ref a1), .val (.long q1), .second] [(.long (pz + (2 : Int64)))]))
        have hD : (own_adv (own_adv (own_adv (own_adv (own_adv (0 : Int32) (5 : Int32) t0 t1 t2 t3 t4 q1) (5 : Int32) t0 t1 t2 t3 t4 q1) (5 : Int32) t0 t1 t2 t3 t4 q1) (5 : Int32) t0 t1 t2 t3 t4 q1) (5 : Int32) t0 t1 t2 t3 t4 q1) = (2 : Int32) := by rw [own_adv_y (k := (0 : Int32)) (k' := (1 : Int32)) (by decide) (by decide) (by rw [own_t0]; exact hc18_5), own_adv_y (k := (1 : Int32)) (k' := (2 : Int32)) (by decide) (by decide) (by rw [own_t1]; exact hc18_26), own_adv_n (k := (2 : Int32)) (by rw [own_t2]; exact hc18_52), own_adv_n (k := (2 : Int32)) (by rw [own_t2]; exact hc18_52), own_adv_n (k := (2 : Int32)) (by rw [own_t2]; exact hc18_52)]
        have f153 := f42.wr W41
        refine own_retL X149 hx Bd.notSynchronized Bd.returns (hb hby d4_74) (by decide) (by decide) ?_
        show Q_rm4b0 Z _ _ _ _ _ _ _ _ _ _ _ _ _ h0 n0 _ T149.heap _
        rw [e149]
        exact ⟨(by rw [hD, own_xn (by decide)]; rfl), N41, K41, f153, (by rw [hD]; exact Fw41)⟩
    · refine OGo.via (fun _ k => XS.ifYes X22.here hx rfl (pc0 := 18) (pc' := 52) rfl (hb hby d4_18) rfl ((if0 _ _).trans (flt hc18_26).2.1) (by decide) (by decide) k) ?_
      show OGo _ _ _ _ (T22.setTop (mkF m 52 #[.val (.ref a1), .val (.long q1), .second] []))
      refine OGo.via (fun _ k => XS.aloadN X22.here hx rfl (hb hby d4_52) rfl rfl k) ?_
      obtain ⟨T154, X154, e154, st154⟩ := getF X22 hx hZ hown (host := "") (Or.inl (own_w hw 27 rfl)) Via.refl e22 Fw16 (g := (mkF m 53 #[.val (.ref a1), .val (.long q1), .second] [(.ref a1)])) rfl rfl (hb hby d4_53)
      refine OGo.via st154 ?_
      show OGo _ _ _ _ (T154.setTop (mkF m 56 #[.val (.ref a1), .val (.long q1), .second] [(.int (4 : Int32))]))
      refine OGo.via (fun _ k => XS.ifYes X154.here hx rfl (pc0 := 56) (pc' := 65) rfl (hb hby d4_56) rfl ((if0 _ _).trans (feq (by decide : ¬ ((4 : Int32) = (0 : Int32)))).2) (by decide) (by decide) k) ?_
      show OGo _ _ _ _ (T154.setTop (mkF m 65 #[.val (.ref a1), .val (.long q1), .second] []))
      refine OGo.via (fun _ k => XS.aloadN X154.here hx rfl (hb hby d4_65) rfl rfl k) ?_
      have f156 := F_positions_a1.other W12 (Or.inr (slot_ne (Or.inl (own_w hw 13 rfl)) (Or.inl (own_w hw 31 rfl)) (by decide) (t := (.array .long)) (t' := .int) (by decide) (by decide)))
      have f157 := f156.other W16 (Or.inr (slot_ne (Or.inl (own_w hw 13 rfl)) (Or.inl (own_w hw 28 rfl)) (by decide) (t := (.array .long)) (t' := .int) (by decide) (by decide)))
      obtain ⟨T155, X155, e155, st155⟩ := getF X154 hx hZ hown (host := "") (Or.inl (own_w hw 12 rfl)) Via.refl e154 f157 (g := (mkF m 66 #[.val (.ref a1), .val (.long q1), .second] [(.ref a1)])) rfl rfl (hb hby d4_66)
      refine OGo.via st155 ?_
      show OGo _ _ _ _ (T155.setTop (mkF m 69 #[.val (.ref a1), .val (.long q1), .second] [(.ref pa)]))
      refine OGo.via (fun _ k => XS.aloadN X155.here hx rfl (hb hby d4_69) rfl rfl k) ?_
      obtain ⟨T158, X158, e158, st158⟩ := getF X155 hx hZ hown (host := "") (Or.inl (own_w hw 30 rfl)) Via.refl e155 f23 (g := (mkF m 70 #[.val (.ref a1), .val (.long q1), .second] [(.ref a1), (.ref pa)])) rfl rfl (hb hby d4_70)
      refine OGo.via st158 ?_
      show OGo _ _ _ _ (T158.setTop (mkF m 73 #[.val (.ref a1), .val (.long q1), .second] [(.int (1 : Int32)), (.ref pa)]))
      have f160 := V_pa.keep K16 (ninS (Ne.symm ne_a1_pa) nin0)
      obtain ⟨cl159, Ar159, q159, Sz159, Ng159, Hs159, Gf159⟩ := id f160
      have hin159 : ¬ ((1 : Int32) < 0 ∨ cl159.slots.size ≤ ((1 : Int32)).toNatClampNeg) := inb_of Sz159 ⟨by decide, by decide⟩
      have hat159 : cl159.slots[((1 : Int32)).toNatClampNeg]? = some (.long (pz + (1 : Int64))) := Hs159.at hin159 rfl
      refine OGo.via (X158.laload hx (j := (1 : Int32)) (v := (.long (pz + (1 : Int64)))) (by rw [e158]; exact Ar159.1) (State.isArrayOf_alike hZ.alike Ar159.2.1) Ar159.2.2 hin159 hat159 (g := (mkF m 73 #[.val (.ref a1), .val (.long q1), .second] [(.int (1 : Int32)), (.ref pa)])) rfl rfl (hb hby d4_73)) ?_
      show OGo _ _ _ _ (T158.setTop (mkF m 74 #[.val (.ref a1), .val (.long q1), .second] [(.long (pz + (1 : Int64)))]))
      show OGo _ _ _ _ (T158.setTop (mkF m 74 #[.val (.ref a1), .val (.long q1), .second] [(.long (pz + (1 : Int64)))]))
      have hD : (own_adv (own_adv (own_adv (own_adv (own_adv (0 : Int32) (5 : Int32) t0 t1 t2 t3 t4 q1) (5 : Int32) t0 t1 t2 t3 t4 q1) (5 : Int32) t0 t1 t2 t3 t4 q1) (5 : Int32) t0 t1 t2 t3 t4 q1) (5 : Int32) t0 t1 t2 t3 t4 q1) = (1 : Int32) := by rw [own_adv_y (k := (0 : Int32)) (k' := (1 : Int32)) (by decide) (by decide) (by rw [own_t0]; exact hc18_5), own_adv_n (k := (1 : Int32)) (by rw [own_t1]; exact hc18_26), own_adv_n (k := (1 : Int32)) (by rw [own_t1]; exact hc18_26), own_adv_n (k := (1 : Int32)) (by rw [own_t1]; exact hc18_26), own_adv_n (k := (1 : Int32)) (by rw [own_t1]; exact hc18_26)]
      have f161 := f17.wr W16
      refine own_retL X158 hx Bd.notSynchronized Bd.returns (hb hby d4_74) (by decide) (by decide) ?_
      show Q_rm4b0 Z _ _ _ _ _ _ _ _ _ _ _ _ _ h0 n0 _ T158.heap _
      rw [e158]
      exact ⟨(by rw [hD, own_xn (by decide)]; rfl), N16, K16, f161, (by rw [hD]; exact Fw16)⟩
  · refine OGo.via (fun _ k => XS.ifYes X3.here hx rfl (pc0 := 18) (pc' := 52) rfl (hb hby d4_18) rfl ((if0 _ _).trans (flt hc18_5).2.1) (by decide) (by decide) k) ?_
    show OGo _ _ _ _ (T3.setTop (mkF m 52 #[.val (.ref a1), .val (.long q1), .second] []))
    refine OGo.via (fun _ k => XS.aloadN X3.here hx rfl (hb hby d4_52) rfl rfl k) ?_
    obtain ⟨T162, X162, e162, st162⟩ := getF X3 hx hZ hown (host := "") (Or.inl (own_w hw 27 rfl)) Via.refl e3 F_count_a1 (g := (mkF m 53 #[.val (.ref a1), .val (.long q1), .second] [(.ref a1)])) rfl rfl (hb hby d4_53)
    refine OGo.via st162 ?_
    show OGo _ _ _ _ (T162.setTop (mkF m 56 #[.val (.ref a1), .val (.long q1), .second] [(.int (5 : Int32))]))
    refine OGo.via (fun _ k => XS.ifYes X162.here hx rfl (pc0 := 56) (pc' := 65) rfl (hb hby d4_56) rfl ((if0 _ _).trans (feq (by decide : ¬ ((5 : Int32) = (0 : Int32)))).2) (by decide) (by decide) k) ?_
    show OGo _ _ _ _ (T162.setTop (mkF m 65 #[.val (.ref a1), .val (.long q1), .second] []))
    refine OGo.via (fun _ k => XS.aloadN X162.here hx rfl (hb hby d4_65) rfl rfl k) ?_
    obtain ⟨T163, X163, e163, st163⟩ := getF X162 hx hZ hown (host := "") (Or.inl (own_w hw 12 rfl)) Via.refl e162 F_positions_a1 (g := (mkF m 66 #[.val (.ref a1), .val (.long q1), .second] [(.ref a1)])) rfl rfl (hb hby d4_66)
    refine OGo.via st163 ?_
    show OGo _ _ _ _ (T163.setTop (mkF m 69 #[.val (.ref a1), .val (.long q1), .second] [(.ref pa)]))
    refine OGo.via (fun _ k => XS.aloadN X163.here hx rfl (hb hby d4_69) rfl rfl k) ?_
    obtain ⟨T164, X164, e164, st164⟩ := getF X163 hx hZ hown (host := "") (Or.inl (own_w hw 30 rfl)) Via.refl e163 F_first_a1 (g := (mkF m 70 #[.val (.ref a1), .val (.long q1), .second] [(.ref a1), (.ref pa)])) rfl rfl (hb hby d4_70)
    refine OGo.via st164 ?_
    show OGo _ _ _ _ (T164.setTop (mkF m 73 #[.val (.ref a1), .val (.long q1), .second] [(.int (0 : Int32)), (.ref pa)]))
    obtain ⟨cl165, Ar165, q165, Sz165, Ng165, Hs165, Gf165⟩ := id V_pa
    have hin165 : ¬ ((0 : Int32) < 0 ∨ cl165.slots.size ≤ ((0 : Int32)).toNatClampNeg) := inb_of Sz165 ⟨by decide, by decide⟩
    have hat165 : cl165.slots[((0 : Int32)).toNatClampNeg]? = some (.long pz) := Hs165.at hin165 rfl
    refine OGo.via (X164.laload hx (j := (0 : Int32)) (v := (.long pz)) (by rw [e164]; exact Ar165.1) (State.isArrayOf_alike hZ.alike Ar165.2.1) Ar165.2.2 hin165 hat165 (g := (mkF m 73 #[.val (.ref a1), .val (.long q1), .second] [(.int (0 : Int32)), (.ref pa)])) rfl rfl (hb hby d4_73)) ?_
    show OGo _ _ _ _ (T164.setTop (mkF m 74 #[.val (.ref a1), .val (.long q1), .second] [(.long pz)]))
    show OGo _ _ _ _ (T164.setTop (mkF m 74 #[.val (.ref a1), .val (.long q1), .second] [(.long pz)]))
    have hD : (own_adv (own_adv (own_adv (own_adv (own_adv (0 : Int32) (5 : Int32) t0 t1 t2 t3 t4 q1) (5 : Int32) t0 t1 t2 t3 t4 q1) (5 : Int32) t0 t1 t2 t3 t4 q1) (5 : Int32) t0 t1 t2 t3 t4 q1) (5 : Int32) t0 t1 t2 t3 t4 q1) = (0 : Int32) := by rw [own_adv_n (k := (0 : Int32)) (by rw [own_t0]; exact hc18_5), own_adv_n (k := (0 : Int32)) (by rw [own_t0]; exact hc18_5), own_adv_n (k := (0 : Int32)) (by rw [own_t0]; exact hc18_5), own_adv_n (k := (0 : Int32)) (by rw [own_t0]; exact hc18_5), own_adv_n (k := (0 : Int32)) (by rw [own_t0]; exact hc18_5)]
    refine own_retL X164 hx Bd.notSynchronized Bd.returns (hb hby d4_74) (by decide) (by decide) ?_
    show Q_rm4b0 Z _ _ _ _ _ _ _ _ _ _ _ _ _ h0 n0 _ T164.heap _
    rw [e164]
    exact ⟨(by rw [hD, own_xn (by decide), show (0 : Int32).toInt64 = 0 from by decide, Int64.add_zero]), N0, (Keep.refl h0 [a1]), E_a1, (by rw [hD]; exact F_count_a1)⟩
theorem ef_rm4b1 (m : MethodId) (a1 : Addr) (q1 : Int64) : entryFrame m #[(.ref a1), (.long q1)] 3 = mkF m 0 #[.val (.ref a1), .val (.long q1), .second] [] := by first | (simp [entryFrame, mkF, argsToLocals, Value.category]; done) | rfl
def Q_rm4b1 (Z : State) (a1 : Addr) (q1 : Int64) (pa : Addr) (ta : Addr) (kp : ClassId) (kt : ClassId) (bf : Int64) (pz : Int64) (t0 : Int64) (t1 : Int64) (t2 : Int64) (t3 : Int64) (t4 : Int64) (h0 : Heap) (n0 : Nat) (v : Option Value) (h : Heap) (L : List Loc) : Prop := v = some (.long (own_x (own_adv (own_adv (own_adv (own_adv (own_adv (1 : Int32) (5 : Int32) t0 t1 t2 t3 t4 q1) (5 : Int32) t0 t1 t2 t3 t4 q1) (5 : Int32) t0 t1 t2 t3 t4 q1) (5 : Int32) t0 t1 t2 t3 t4 q1) (5 : Int32) t0 t1 t2 t3 t4 q1) (5 : Int32) pz)) ∧ Fr n0 L ∧ Keep h0 h [a1] ∧ Exa Z h a1 "com/example/eventloom/eventloom/engine/Forbidden" ∧ Fld Z h a1 "com/example/eventloom/eventloom/engine/Forbidden" "count" "I" (.int (own_h (own_adv (own_adv (own_adv (own_adv (own_adv (1 : Int32) (5 : Int32) t0 t1 t2 t3 t4 q1) (5 : Int32) t0 t1 t2 t3 t4 q1) (5 : Int32) t0 t1 t2 t3 t4 q1) (5 : Int32) t0 t1 t2 t3 t4 q1) (5 : Int32) t0 t1 t2 t3 t4 q1) (5 : Int32)))
set_option maxRecDepth 65536 in
set_option maxHeartbeats 40000000 in
theorem rm4b1 (l : Launch) (Z : State) (a0 : Array Value) (hw : ∀ d ∈ tables_1, d.before a0 Z = true) (ws : List Jvm.Cond) (a1 : Addr) (q1 : Int64) (pa : Addr) (ta : Addr) (kp : ClassId) (kt : ClassId) (bf : Int64) (pz : Int64) (t0 : Int64) (t1 : Int64) (t2 : Int64) (t3 : Int64) (t4 : Int64) (h0 : Heap) (n0 : Nat) (Z0 : n0 ≤ h0.size) (E_a1 : Exa Z h0 a1 "com/example/eventloom/eventloom/engine/Forbidden") (F_positions_a1 : Fld Z h0 a1 "com/example/eventloom/eventloom/engine/Forbidden" "positions" "[J" (.ref pa)) (F_times_a1 : Fld Z h0 a1 "com/example/eventloom/eventloom/engine/Forbidden" "times" "[J" (.ref ta)) (F_first_a1 : Fld Z h0 a1 "com/example/eventloom/eventloom/engine/Forbidden" "first" "I" (.int (1 : Int32))) (F_count_a1 : Fld Z h0 a1 "com/example/eventloom/eventloom/engine/Forbidden" "count" "I" (.int (4 : Int32))) (F_befores_a1 : Fld Z h0 a1 "com/example/eventloom/eventloom/engine/Forbidden" "befores" "J" (.long bf)) (V_pa : Arv Z h0 pa kp .long (4 : Int32) [(.long (pz + (4 : Int64))), (.long (pz + (1 : Int64))), (.long (pz + (2 : Int64))), (.long (pz + (3 : Int64)))] (.long (0 : Int64))) (V_ta : Arv Z h0 ta kt .long (4 : Int32) [(.long t4), (.long t1), (.long t2), (.long t3)] (.long (0 : Int64))) (ne_a1_pa : a1 ≠ pa) (ne_a1_ta : a1 ≠ ta) (g_a1 : n0 ≤ a1) :
    MetFree l own_y4 (head1 (Jvm.Cond.code own_y4 prog_122_method_4_code 3 (some .long) :: ws) ({ frames := 0, cells := 0, slots := 0, locals := 0 } : Room)) (fun a U => a = #[(.ref a1), (.long q1)] ∧ Z.Warmed39 U.vm ∧ U.heap = h0) (fun _ _ _ _ _ => True) (fun _ U o U' => ∃ v L, o = .returned v ∧ Q_rm4b1 Z a1 q1 pa ta kp kt bf pz t0 t1 t2 t3 t4 h0 n0 v U'.heap L ∧ FrameEnd U o U' L ({ frames := 0, cells := 0, slots := 0, locals := 0 } : Room).cells ({ frames := 0, cells := 0, slots := 0, locals := 0 } : Room).slots) := by
  refine MetFree.of_bodySF (plainFor_of_name pn_Forbidden) hisR ?_
  intro p e s m args below meth c s₁ Bd hml0 hP hK
  obtain ⟨rfl, hZ, hh⟩ := hP
  have hx := Bd.exec
  have hby := Bd.bytes
  have hml : c.maxLocals = 3 := hml0
  have hown : s.vm.findClass "com/example/eventloom/eventloom/engine/Forbidden" = some m.cls := findClass_of_methodNamed Bd.named
  have hnm := (name_of_methodNamed Bd.named Bd.method).1
  have X0 : Stand p l e ({ frames := 0, cells := 0, slots := 0, locals := 0 } : Room) s m #[(.ref a1), (.long q1)] below meth c s₁ [] 0 0 := Stand.of_body Bd
  have e0 : s₁.heap = h0 := by rw [← hh, Bd.state]; rfl
  have N0 := Fr.nil n0
  show OGo p.tables e below (own_Kq s (fun v h L => Q_rm4b1 Z a1 q1 pa ta kp kt bf pz t0 t1 t2 t3 t4 h0 n0 v h L) ({ frames := 0, cells := 0, slots := 0, locals := 0 } : Room).cells ({ frames := 0, cells := 0, slots := 0, locals := 0 } : Room).slots) (s₁.setTop (entryFrame m #[(.ref a1), (.long q1)] 3))
  refine OGo.cast (ef_rm4b1 m a1 q1) ?_
  show OGo _ _ _ _ (s₁.setTop (mkF m 0 #[.val (.ref a1), .val (.long q1), .second] []))
  refine OGo.via (fun _ k => XS.aloadN X0.here hx rfl (hb hby d4_0) rfl rfl k) ?_
  obtain ⟨T1, X1, e1, st1⟩ := getF X0 hx hZ hown (host := "") (Or.inl (own_w hw 27 rfl)) Via.refl e0 F_count_a1 (g := (mkF m 1 #[.val (.ref a1), .val (.long q1), .second] [(.ref a1)])) rfl rfl (hb hby d4_1)
  refine OGo.via st1 ?_
  show OGo _ _ _ _ (T1.setTop (mkF m 4 #[.val (.ref a1), .val (.long q1), .second] [(.int (4 : Int32))]))
  refine OGo.via (fun _ k => XS.ifNo X1.here hx rfl (hb hby d4_4) rfl ((if0 _ _).trans (tlt (by decide : (0 : Int32) < (4 : Int32))).2.2.2) k) ?_
  show OGo _ _ _ _ (T1.setTop (mkF m 7 #[.val (.ref a1), .val (.long q1), .second] []))
  refine OGo.via (fun _ k => XS.aloadN X1.here hx rfl (hb hby d4_7) rfl rfl k) ?_
  obtain ⟨T2, X2, e2, st2⟩ := getF X1 hx hZ hown (host := "") (Or.inl (own_w hw 14 rfl)) Via.refl e1 F_times_a1 (g := (mkF m 8 #[.val (.ref a1), .val (.long q1), .second] [(.ref a1)])) rfl rfl (hb hby d4_8)
  refine OGo.via st2 ?_
  show OGo _ _ _ _ (T2.setTop (mkF m 11 #[.val (.ref a1), .val (.long q1), .second] [(.ref ta)]))
  refine OGo.via (fun _ k => XS.aloadN X2.here hx rfl (hb hby d4_11) rfl rfl k) ?_
  obtain ⟨T3, X3, e3, st3⟩ := getF X2 hx hZ hown (host := "") (Or.inl (own_w hw 30 rfl)) Via.refl e2 F_first_a1 (g := (mkF m 12 #[.val (.ref a1), .val (.long q1), .second] [(.ref a1), (.ref ta)])) rfl rfl (hb hby d4_12)
  refine OGo.via st3 ?_
  show OGo _ _ _ _ (T3.setTop (mkF m 15 #[.val (.ref a1), .val (.long q1), .second] [(.int (1 : Int32)), (.ref ta)]))
  obtain ⟨cl4, Ar4, q4, Sz4, Ng4, Hs4, Gf4⟩ := id V_ta
  have hin4 : ¬ ((1 : Int32) < 0 ∨ cl4.slots.size ≤ ((1 : Int32)).toNatClampNeg) := inb_of Sz4 ⟨by decide, by decide⟩
  have hat4 : cl4.slots[((1 : Int32)).toNatClampNeg]? = some (.long t1) := Hs4.at hin4 rfl
  refine OGo.via (X3.laload hx (j := (1 : Int32)) (v := (.long t1)) (by rw [e3]; exact Ar4.1) (State.isArrayOf_alike hZ.alike Ar4.2.1) Ar4.2.2 hin4 hat4 (g := (mkF m 15 #[.val (.ref a1), .val (.long q1), .second] [(.int (1 : Int32)), (.ref ta)])) rfl rfl (hb hby d4_15)) ?_
  show OGo _ _ _ _ (T3.setTop (mkF m 16 #[.val (.ref a1), .val (.long q1), .second] [(.long t1)]))
  refine OGo.via (fun _ k => XS.lloadN X3.here hx rfl (hb hby d4_16) rfl (XS.lcmp X3.here hx rfl (hb hby d4_17) rfl k)) ?_
  by_cases hc18_5 : (lcmpW t1 q1) < (0 : Int32)
  · refine OGo.via (fun _ k => XS.ifNo X3.here hx rfl (hb hby d4_18) rfl ((if0 _ _).trans (tlt hc18_5).2.1) k) ?_
    show OGo _ _ _ _ (T3.setTop (mkF m 21 #[.val (.ref a1), .val (.long q1), .second] []))
    refine OGo.via (fun _ k => XS.aloadN X3.here hx rfl (hb hby d4_21) rfl rfl (XS.aloadN X3.here hx rfl (hb hby d4_22) rfl rfl k)) ?_
    obtain ⟨T6, X6, e6, st6⟩ := getF X3 hx hZ hown (host := "") (Or.inl (own_w hw 30 rfl)) Via.refl e3 F_first_a1 (g := (mkF m 23 #[.val (.ref a1), .val (.long q1), .second] [(.ref a1), (.ref a1)])) rfl rfl (hb hby d4_23)
    refine OGo.via st6 ?_
    show OGo _ _ _ _ (T6.setTop (mkF m 26 #[.val (.ref a1), .val (.long q1), .second] [(.int (1 : Int32)), (.ref a1)]))
    refine OGo.via (fun _ k => XS.iconst X6.here hx rfl (hb hby d4_26) (XS.iadd X6.here hx rfl (hb hby d4_27) rfl k)) ?_
    show OGo _ _ _ _ (T6.setTop (mkF m 28 #[.val (.ref a1), .val (.long q1), .second] [(.int ((1 : Int32) + (1 : Int32))), (.ref a1)]))
    rw [show ((1 : Int32) + (1 : Int32)) = (2 : Int32) from by decide]
    refine OGo.via (fun _ k => XS.aloadN X6.here hx rfl (hb hby d4_28) rfl rfl k) ?_
    obtain ⟨T8, X8, e8, st8⟩ := getF X6 hx hZ hown (host := "") (Or.inl (own_w hw 12 rfl)) Via.refl e6 F_positions_a1 (g := (mkF m 29 #[.val (.ref a1), .val (.long q1), .second] [(.ref a1), (.int (2 : Int32)), (.ref a1)])) rfl rfl (hb hby d4_29)
    refine OGo.via st8 ?_
    show OGo _ _ _ _ (T8.setTop (mkF m 32 #[.val (.ref a1), .val (.long q1), .second] [(.ref pa), (.int (2 : Int32)), (.ref a1)]))
    obtain ⟨cl9, Ar9, q9, Sz9, Ng9, Hs9, Gf9⟩ := id V_pa
    refine OGo.via (X8.arraylength hx (by rw [e8]; exact Ar9.1) (State.isArrayOf_alike hZ.alike Ar9.2.1) (g := (mkF m 32 #[.val (.ref a1), .val (.long q1), .second] [(.ref pa), (.int (2 : Int32)), (.ref a1)])) rfl rfl (hb hby d4_32)) ?_
    rw [len_of Sz9 Ng9]
    show OGo _ _ _ _ (T8.setTop (mkF m 33 #[.val (.ref a1), .val (.long q1), .second] [(.int (4 : Int32)), (.int (2 : Int32)), (.ref a1)]))
    refine OGo.via (fun _ k => XS.iconst X8.here hx rfl (hb hby d4_33) (XS.isub X8.here hx rfl (hb hby d4_34) rfl k)) ?_
    show OGo _ _ _ _ (T8.setTop (mkF m 35 #[.val (.ref a1), .val (.long q1), .second] [(.int ((4 : Int32) - (1 : Int32))), (.int (2 : Int32)), (.ref a1)]))
    rw [show ((4 : Int32) - (1 : Int32)) = (3 : Int32) from by decide]
    refine OGo.via (fun _ k => XS.iand X8.here hx rfl (hb hby d4_35) rfl k) ?_
    show OGo _ _ _ _ (T8.setTop (mkF m 36 #[.val (.ref a1), .val (.long q1), .second] [(.int ((2 : Int32) &&& (3 : Int32))), (.ref a1)]))
    rw [show ((2 : Int32) &&& (3 : Int32)) = (2 : Int32) from by decide]
    obtain ⟨T12, h12, X12, e12, W12, st12⟩ := putF X8 hx hZ hown (host := "") (Or.inl (own_w hw 30 rfl)) Via.refl e8 F_first_a1 E_a1 (Or.inl (own_w hw 31 rfl)) (own_w hw 2 rfl) (ty := .int) (by decide) rfl rfl (g := (mkF m 36 #[.val (.ref a1), .val (.long q1), .second] [(.int (2 : Int32)), (.ref a1)])) rfl rfl (hb hby d4_36)
    refine OGo.via st12 ?_
    have Fw12 := F_first_a1.same W12
    have K12 : Keep h0 h12 [a1] := (Keep.refl h0 [a1]).wr W12 (Or.inl (List.mem_of_getElem? (i := 0) rfl))
    have N12 := Fr.snoc X12 N0 g_a1
    show OGo _ _ _ _ (T12.setTop (mkF m 39 #[.val (.ref a1), .val (.long q1), .second] []))
    refine OGo.via (fun _ k => XS.aloadN X12.here hx rfl (hb hby d4_39) rfl rfl (XS.dup X12.here hx rfl (hb hby d4_40) rfl rfl k)) ?_
    have f14 := F_count_a1.other W12 (Or.inr (slot_ne (Or.inl (own_w hw 28 rfl)) (Or.inl (own_w hw 31 rfl)) (by decide) (t := .int) (t' := .int) (by decide) (by decide)))
    obtain ⟨T13, X13, e13, st13⟩ := getF X12 hx hZ hown (host := "") (Or.inl (own_w hw 27 rfl)) Via.refl e12 f14 (g := (mkF m 41 #[.val (.ref a1), .val (.long q1), .second] [(.ref a1), (.ref a1)])) rfl rfl (hb hby d4_41)
    refine OGo.via st13 ?_
    show OGo _ _ _ _ (T13.setTop (mkF m 44 #[.val (.ref a1), .val (.long q1), .second] [(.int (4 : Int32)), (.ref a1)]))
    refine OGo.via (fun _ k => XS.iconst X13.here hx rfl (hb hby d4_44) (XS.isub X13.here hx rfl (hb hby d4_45) rfl k)) ?_
    show OGo _ _ _ _ (T13.setTop (mkF m 46 #[.val (.ref a1), .val (.long q1), .second] [(.int ((4 : Int32) - (1 : Int32))), (.ref a1)]))
    rw [show ((4 : Int32) - (1 : Int32)) = (3 : Int32) from by decide]
    have f17 := E_a1.wr W12
    obtain ⟨T16, h16, X16, e16, W16, st16⟩ := putF X13 hx hZ hown (host := "") (Or.inl (own_w hw 27 rfl)) Via.refl e13 f14 f17 (Or.inl (own_w hw 28 rfl)) (own_w hw 2 rfl) (ty := .int) (by decide) rfl rfl (g := (mkF m 46 #[.val (.ref a1), .val (.long q1), .second] [(.int (3 : Int32)), (.ref a1)])) rfl rfl (hb hby d4_46)
    refine OGo.via st16 ?_
    have Fw16 := f14.same W16
    have K16 : Keep h0 h16 [a1] := K12.wr W16 (Or.inl (List.mem_of_getElem? (i := 0) rfl))
    have N16 := Fr.snoc X16 N12 g_a1
    show OGo _ _ _ _ (T16.setTop (mkF m 49 #[.val (.ref a1), .val (.long q1), .second] []))
    refine OGo.via (fun _ k => XS.goto X16.here hx rfl (pc0 := 49) (pc' := 0) rfl (hb hby d4_49) (by decide) (by decide) (XS.aloadN X16.here hx rfl (hb hby d4_0) rfl rfl k)) ?_
    obtain ⟨T18, X18, e18, st18⟩ := getF X16 hx hZ hown (host := "") (Or.inl (own_w hw 27 rfl)) Via.refl e16 Fw16 (g := (mkF m 1 #[.val (.ref a1), .val (.long q1), .second] [(.ref a1)])) rfl rfl (hb hby d4_1)
    refine OGo.via st18 ?_
    show OGo _ _ _ _ (T18.setTop (mkF m 4 #[.val (.ref a1), .val (.long q1), .second] [(.int (3 : Int32))]))
    refine OGo.via (fun _ k => XS.ifNo X18.here hx rfl (hb hby d4_4) rfl ((if0 _ _).trans (tlt (by decide : (0 : Int32) < (3 : Int32))).2.2.2) k) ?_
    show OGo _ _ _ _ (T18.setTop (mkF m 7 #[.val (.ref a1), .val (.long q1), .second] []))
    refine OGo.via (fun _ k => XS.aloadN X18.here hx rfl (hb hby d4_7) rfl rfl k) ?_
    have f20 := F_times_a1.other W12 (Or.inr (slot_ne (Or.inl (own_w hw 15 rfl)) (Or.inl (own_w hw 31 rfl)) (by decide) (t := (.array .long)) (t' := .int) (by decide) (by decide)))
    have f21 := f20.other W16 (Or.inr (slot_ne (Or.inl (own_w hw 15 rfl)) (Or.inl (own_w hw 28 rfl)) (by decide) (t := (.array .long)) (t' := .int) (by decide) (by decide)))
    obtain ⟨T19, X19, e19, st19⟩ := getF X18 hx hZ hown (host := "") (Or.inl (own_w hw 14 rfl)) Via.refl e18 f21 (g := (mkF m 8 #[.val (.ref a1), .val (.long q1), .second] [(.ref a1)])) rfl rfl (hb hby d4_8)
    refine OGo.via st19 ?_
    show OGo _ _ _ _ (T19.setTop (mkF m 11 #[.val (.ref a1), .val (.long q1), .second] [(.ref ta)]))
    refine OGo.via (fun _ k => XS.aloadN X19.here hx rfl (hb hby d4_11) rfl rfl k) ?_
    have f23 := Fw12.other W16 (Or.inr (slot_ne (Or.inl (own_w hw 31 rfl)) (Or.inl (own_w hw 28 rfl)) (by decide) (t := .int) (t' := .int) (by decide) (by decide)))
    obtain ⟨T22, X22, e22, st22⟩ := getF X19 hx hZ hown (host := "") (Or.inl (own_w hw 30 rfl)) Via.refl e19 f23 (g := (mkF m 12 #[.val (.ref a1), .val (.long q1), .second] [(.ref a1), (.ref ta)])) rfl rfl (hb hby d4_12)
    refine OGo.via st22 ?_
    show OGo _ _ _ _ (T22.setTop (mkF m 15 #[.val (.ref a1), .val (.long q1), .second] [(.int (2 : Int32)), (.ref ta)]))
    have f25 := V_ta.keep K16 (ninS (Ne.symm ne_a1_ta) nin0)
    obtain ⟨cl24, Ar24, q24, Sz24, Ng24, Hs24, Gf24⟩ := id f25
    have hin24 : ¬ ((2 : Int32) < 0 ∨ cl24.slots.size ≤ ((2 : Int32)).toNatClampNeg) := inb_of Sz24 ⟨by decide, by decide⟩
    have hat24 : cl24.slots[((2 : Int32)).toNatClampNeg]? = some (.long t2) := Hs24.at hin24 rfl
    refine OGo.via (X22.laload hx (j := (2 : Int32)) (v := (.long t2)) (by rw [e22]; exact Ar24.1) (State.isArrayOf_alike hZ.alike Ar24.2.1) Ar24.2.2 hin24 hat24 (g := (mkF m 15 #[.val (.ref a1), .val (.long q1), .second] [(.int (2 : Int32)), (.ref ta)])) rfl rfl (hb hby d4_15)) ?_
    show OGo _ _ _ _ (T22.setTop (mkF m 16 #[.val (.ref a1), .val (.long q1), .second] [(.long t2)]))
    refine OGo.via (fun _ k => XS.lloadN X22.here hx rfl (hb hby d4_16) rfl (XS.lcmp X22.here hx rfl (hb hby d4_17) rfl k)) ?_
    by_cases hc18_26 : (lcmpW t2 q1) < (0 : Int32)
    · refine OGo.via (fun _ k => XS.ifNo X22.here hx rfl (hb hby d4_18) rfl ((if0 _ _).trans (tlt hc18_26).2.1) k) ?_
      show OGo _ _ _ _ (T22.setTop (mkF m 21 #[.val (.ref a1), .val (.long q1), .second] []))
      refine OGo.via (fun _ k => XS.aloadN X22.here hx rfl (hb hby d4_21) rfl rfl (XS.aloadN X22.here hx rfl (hb hby d4_22) rfl rfl k)) ?_
      obtain ⟨T27, X27, e27, st27⟩ := getF X22 hx hZ hown (host := "") (Or.inl (own_w hw 30 rfl)) Via.refl e22 f23 (g := (mkF m 23 #[.val (.ref a1), .val (.long q1), .second] [(.ref a1), (.ref a1)])) rfl rfl (hb hby d4_23)
      refine OGo.via st27 ?_
      show OGo _ _ _ _ (T27.setTop (mkF m 26 #[.val (.ref a1), .val (.long q1), .second] [(.int (2 : Int32)), (.ref a1)]))
      refine OGo.via (fun _ k => XS.iconst X27.here hx rfl (hb hby d4_26) (XS.iadd X27.here hx rfl (hb hby d4_27) rfl k)) ?_
      show OGo _ _ _ _ (T27.setTop (mkF m 28 #[.val (.ref a1), .val (.long q1), .second] [(.int ((2 : Int32) + (1 : Int32))), (.ref a1)]))
      rw [show ((2 : Int32) + (1 : Int32)) = (3 : Int32) from by decide]
      refine OGo.via (fun _ k => XS.aloadN X27.here hx rfl (hb hby d4_28) rfl rfl k) ?_
      have f30 := F_positions_a1.other W12 (Or.inr (slot_ne (Or.inl (own_w hw 13 rfl)) (Or.inl (own_w hw 31 rfl)) (by decide) (t := (.array .long)) (t' := .int) (by decide) (by decide)))
      have f31 := f30.other W16 (Or.inr (slot_ne (Or.inl (own_w hw 13 rfl)) (Or.inl (own_w hw 28 rfl)) (by decide) (t := (.array .long)) (t' := .int) (by decide) (by decide)))
      obtain ⟨T29, X29, e29, st29⟩ := getF X27 hx hZ hown (host := "") (Or.inl (own_w hw 12 rfl)) Via.refl e27 f31 (g := (mkF m 29 #[.val (.ref a1), .val (.long q1), .second] [(.ref a1), (.int (3 : Int32)), (.ref a1)])) rfl rfl (hb hby d4_29)
      refine OGo.via st29 ?_
      show OGo _ _ _ _ (T29.setTop (mkF m 32 #[.val (.ref a1), .val (.long q1), .second] [(.ref pa), (.int (3 : Int32)), (.ref a1)]))
      have f33 := V_pa.keep K16 (ninS (Ne.symm ne_a1_pa) nin0)
      obtain ⟨cl32, Ar32, q32, Sz32, Ng32, Hs32, Gf32⟩ := id f33
      refine OGo.via (X29.arraylength hx (by rw [e29]; exact Ar32.1) (State.isArrayOf_alike hZ.alike Ar32.2.1) (g := (mkF m 32 #[.val (.ref a1), .val (.long q1), .second] [(.ref pa), (.int (3 : Int32)), (.ref a1)])) rfl rfl (hb hby d4_32)) ?_
      rw [len_of Sz32 Ng32]
      show OGo _ _ _ _ (T29.setTop (mkF m 33 #[.val (.ref a1), .val (.long q1), .second] [(.int (4 : Int32)), (.int (3 : Int32)), (.ref a1)]))
      refine OGo.via (fun _ k => XS.iconst X29.here hx rfl (hb hby d4_33) (XS.isub X29.here hx rfl (hb hby d4_34) rfl k)) ?_
      show OGo _ _ _ _ (T29.setTop (mkF m 35 #[.val (.ref a1), .val (.long q1), .second] [(.int ((4 : Int32) - (1 : Int32))), (.int (3 : Int32)), (.ref a1)]))
      rw [show ((4 : Int32) - (1 : Int32)) = (3 : Int32) from by decide]
      refine OGo.via (fun _ k => XS.iand X29.here hx rfl (hb hby d4_35) rfl k) ?_
      show OGo _ _ _ _ (T29.setTop (mkF m 36 #[.val (.ref a1), .val (.long q1), .second] [(.int ((3 : Int32) &&& (3 : Int32))), (.ref a1)]))
      rw [show ((3 : Int32) &&& (3 : Int32)) = (3 : Int32) from by decide]
      have f37 := f17.wr W16
      obtain ⟨T36, h36, X36, e36, W36, st36⟩ := putF X29 hx hZ hown (host := "") (Or.inl (own_w hw 30 rfl)) Via.refl e29 f23 f37 (Or.inl (own_w hw 31 rfl)) (own_w hw 2 rfl) (ty := .int) (by decide) rfl rfl (g := (mkF m 36 #[.val (.ref a1), .val (.long q1), .second] [(.int (3 : Int32)), (.ref a1)])) rfl rfl (hb hby d4_36)
      refine OGo.via st36 ?_
      have Fw36 := f23.same W36
      have K36 : Keep h0 h36 [a1] := K16.wr W36 (Or.inl (List.mem_of_getElem? (i := 0) rfl))
      have N36 := Fr.snoc X36 N16 g_a1
      show OGo _ _ _ _ (T36.setTop (mkF m 39 #[.val (.ref a1), .val (.long q1), .second] []))
      refine OGo.via (fun _ k => XS.aloadN X36.here hx rfl (hb hby d4_39) rfl rfl (XS.dup X36.here hx rfl (hb hby d4_40) rfl rfl k)) ?_
      have f39 := Fw16.other W36 (Or.inr (slot_ne (Or.inl (own_w hw 28 rfl)) (Or.inl (own_w hw 31 rfl)) (by decide) (t := .int) (t' := .int) (by decide) (by decide)))
      obtain ⟨T38, X38, e38, st38⟩ := getF X36 hx hZ hown (host := "") (Or.inl (own_w hw 27 rfl)) Via.refl e36 f39 (g := (mkF m 41 #[.val (.ref a1), .val (.long q1), .second] [(.ref a1), (.ref a1)])) rfl rfl (hb hby d4_41)
      refine OGo.via st38 ?_
      show OGo _ _ _ _ (T38.setTop (mkF m 44 #[.val (.ref a1), .val (.long q1), .second] [(.int (3 : Int32)), (.ref a1)]))
      refine OGo.via (fun _ k => XS.iconst X38.here hx rfl (hb hby d4_44) (XS.isub X38.here hx rfl (hb hby d4_45) rfl k)) ?_
      show OGo _ _ _ _ (T38.setTop (mkF m 46 #[.val (.ref a1), .val (.long q1), .second] [(.int ((3 : Int32) - (1 : Int32))), (.ref a1)]))
      rw [show ((3 : Int32) - (1 : Int32)) = (2 : Int32) from by decide]
      have f42 := f37.wr W36
      obtain ⟨T41, h41, X41, e41, W41, st41⟩ := putF X38 hx hZ hown (host := "") (Or.inl (own_w hw 27 rfl)) Via.refl e38 f39 f42 (Or.inl (own_w hw 28 rfl)) (own_w hw 2 rfl) (ty := .int) (by decide) rfl rfl (g := (mkF m 46 #[.val (.ref a1), .val (.long q1), .second] [(.int (2 : Int32)), (.ref a1)])) rfl rfl (hb hby d4_46)
      refine OGo.via st41 ?_
      have Fw41 := f39.same W41
      have K41 : Keep h0 h41 [a1] := K36.wr W41 (Or.inl (List.mem_of_getElem? (i := 0) rfl))
      have N41 := Fr.snoc X41 N36 g_a1
      show OGo _ _ _ _ (T41.setTop (mkF m 49 #[.val (.ref a1), .val (.long q1), .second] []))
      refine OGo.via (fun _ k => XS.goto X41.here hx rfl (pc0 := 49) (pc' := 0) rfl (hb hby d4_49) (by decide) (by decide) (XS.aloadN X41.here hx rfl (hb hby d4_0) rfl rfl k)) ?_
      obtain ⟨T43, X43, e43, st43⟩ := getF X41 hx hZ hown (host := "") (Or.inl (own_w hw 27 rfl)) Via.refl e41 Fw41 (g := (mkF m 1 #[.val (.ref a1), .val (.long q1), .second] [(.ref a1)])) rfl rfl (hb hby d4_1)
      refine OGo.via st43 ?_
      show OGo _ _ _ _ (T43.setTop (mkF m 4 #[.val (.ref a1), .val (.long q1), .second] [(.int (2 : Int32))]))
      refine OGo.via (fun _ k => XS.ifNo X43.here hx rfl (hb hby d4_4) rfl ((if0 _ _).trans (tlt (by decide : (0 : Int32) < (2 : Int32))).2.2.2) k) ?_
      show OGo _ _ _ _ (T43.setTop (mkF m 7 #[.val (.ref a1), .val (.long q1), .second] []))
      refine OGo.via (fun _ k => XS.aloadN X43.here hx rfl (hb hby d4_7) rfl rfl k) ?_
      have f45 := f21.other W36 (Or.inr (slot_ne (Or.inl (own_w hw 15 rfl)) (Or.inl (own_w hw 31 rfl)) (by decide) (t := (.array .long)) (t' := .int) (by decide) (by decide)))
      have f46 := f45.other W41 (Or.inr (slot_ne (Or.inl (own_w hw 15 rfl)) (Or.inl (own_w hw 28 rfl)) (by decide) (t := (.array .long)) (t' := .int) (by decide) (by decide)))
      obtain ⟨T44, X44, e44, st44⟩ := getF X43 hx hZ hown (host := "") (Or.inl (own_w hw 14 rfl)) Via.refl e43 f46 (g := (mkF m 8 #[.val (.ref a1), .val (.long q1), .second] [(.ref a1)])) rfl rfl (hb hby d4_8)
      refine OGo.via st44 ?_
      show OGo _ _ _ _ (T44.setTop (mkF m 11 #[.val (.ref a1), .val (.long q1), .second] [(.ref ta)]))
      refine OGo.via (fun _ k => XS.aloadN X44.here hx rfl (hb hby d4_11) rfl rfl k) ?_
      have f48 := Fw36.other W41 (Or.inr (slot_ne (Or.inl (own_w hw 31 rfl)) (Or.inl (own_w hw 28 rfl)) (by decide) (t := .int) (t' := .int) (by decide) (by decide)))
      obtain ⟨T47, X47, e47, st47⟩ := getF X44 hx hZ hown (host := "") (Or.inl (own_w hw 30 rfl)) Via.refl e44 f48 (g := (mkF m 12 #[.val (.ref a1), .val (.long q1), .second] [(.ref a1), (.ref ta)])) rfl rfl (hb hby d4_12)
      refine OGo.via st47 ?_
      show OGo _ _ _ _ (T47.setTop (mkF m 15 #[.val (.ref a1), .val (.long q1), .second] [(.int (3 : Int32)), (.ref ta)]))
      have f50 := f25.other W36 (Ne.symm ne_a1_ta)
      have f51 := f50.other W41 (Ne.symm ne_a1_ta)
      obtain ⟨cl49, Ar49, q49, Sz49, Ng49, Hs49, Gf49⟩ := id f51
      have hin49 : ¬ ((3 : Int32) < 0 ∨ cl49.slots.size ≤ ((3 : Int32)).toNatClampNeg) := inb_of Sz49 ⟨by decide, by decide⟩
      have hat49 : cl49.slots[((3 : Int32)).toNatClampNeg]? = some (.long t3) := Hs49.at hin49 rfl
      refine OGo.via (X47.laload hx (j := (3 : Int32)) (v := (.long t3)) (by rw [e47]; exact Ar49.1) (State.isArrayOf_alike hZ.alike Ar49.2.1) Ar49.2.2 hin49 hat49 (g := (mkF m 15 #[.val (.ref a1), .val (.long q1), .second] [(.int (3 : Int32)), (.ref ta)])) rfl rfl (hb hby d4_15)) ?_
      show OGo _ _ _ _ (T47.setTop (mkF m 16 #[.val (.ref a1), .val (.long q1), .second] [(.long t3)]))
      refine OGo.via (fun _ k => XS.lloadN X47.here hx rfl (hb hby d4_16) rfl (XS.lcmp X47.here hx rfl (hb hby d4_17) rfl k)) ?_
      by_cases hc18_52 : (lcmpW t3 q1) < (0 : Int32)
      · refine OGo.via (fun _ k => XS.ifNo X47.here hx rfl (hb hby d4_18) rfl ((if0 _ _).trans (tlt hc18_52).2.1) k) ?_
        show OGo _ _ _ _ (T47.setTop (mkF m 21 #[.val (.ref a1), .val (.long q1), .second] []))
        refine OGo.via (fun _ k => XS.aloadN X47.here hx rfl (hb hby d4_21) rfl rfl (XS.aloadN X47.here hx rfl (hb hby d4_22) rfl rfl k)) ?_
        obtain ⟨T53, X53, e53, st53⟩ := getF X47 hx hZ hown (host := "") (Or.inl (own_w hw 30 rfl)) Via.refl e47 f48 (g := (mkF m 23 #[.val (.ref a1), .val (.long q1), .second] [(.ref a1), (.ref a1)])) rfl rfl (hb hby d4_23)
        refine OGo.via st53 ?_
        show OGo _ _ _ _ (T53.setTop (mkF m 26 #[.val (.ref a1), .val (.long q1), .second] [(.int (3 : Int32)), (.ref a1)]))
        refine OGo.via (fun _ k => XS.iconst X53.here hx rfl (hb hby d4_26) (XS.iadd X53.here hx rfl (hb hby d4_27) rfl k)) ?_
        show OGo _ _ _ _ (T53.setTop (mkF m 28 #[.val (.ref a1), .val (.long q1), .second] [(.int ((3 : Int32) + (1 : Int32))), (.ref a1)]))
        rw [show ((3 : Int32) + (1 : Int32)) = (4 : Int32) from by decide]
        refine OGo.via (fun _ k => XS.aloadN X53.here hx rfl (hb hby d4_28) rfl rfl k) ?_
        have f56 := f31.other W36 (Or.inr (slot_ne (Or.inl (own_w hw 13 rfl)) (Or.inl (own_w hw 31 rfl)) (by decide) (t := (.array .long)) (t' := .int) (by decide) (by decide)))
        have f57 := f56.other W41 (Or.inr (slot_ne (Or.inl (own_w hw 13 rfl)) (Or.inl (own_w hw 28 rfl)) (by decide) (t := (.array .long)) (t' := .int) (by decide) (by decide)))
        obtain ⟨T55, X55, e55, st55⟩ := getF X53 hx hZ hown (host := "") (Or.inl (own_w hw 12 rfl)) Via.refl e53 f57 (g := (mkF m 29 #[.val (.ref a1), .val (.long q1), .second] [(.ref a1), (.int (4 : Int32)), (.ref a1)])) rfl rfl (hb hby d4_29)
        refine OGo.via st55 ?_
        show OGo _ _ _ _ (T55.setTop (mkF m 32 #[.val (.ref a1), .val (.long q1), .second] [(.ref pa), (.int (4 : Int32)), (.ref a1)]))
        have f59 := f33.other W36 (Ne.symm ne_a1_pa)
        have f60 := f59.other W41 (Ne.symm ne_a1_pa)
        obtain ⟨cl58, Ar58, q58, Sz58, Ng58, Hs58, Gf58⟩ := id f60
        refine OGo.via (X55.arraylength hx (by rw [e55]; exact Ar58.1) (State.isArrayOf_alike hZ.alike Ar58.2.1) (g := (mkF m 32 #[.val (.ref a1), .val (.long q1), .second] [(.ref pa), (.int (4 : Int32)), (.ref a1)])) rfl rfl (hb hby d4_32)) ?_
        rw [len_of Sz58 Ng58]
        show OGo _ _ _ _ (T55.setTop (mkF m 33 #[.val (.ref a1), .val (.long q1), .second] [(.int (4 : Int32)), (.int (4 : Int32)), (.ref a1)]))
        refine OGo.via (fun _ k => XS.iconst X55.here hx rfl (hb hby d4_33) (XS.isub X55.here hx rfl (hb hby d4_34) rfl k)) ?_
        show OGo _ _ _ _ (T55.setTop (mkF m 35 #[.val (.ref a1), .val (.long q1), .second] [(.int ((4 : Int32) - (1 : Int32))), (.int (4 : Int32)), (.ref a1)]))
        rw [show ((4 : Int32) - (1 : Int32)) = (3 : Int32) from by decide]
        refine OGo.via (fun _ k => XS.iand X55.here hx rfl (hb hby d4_35) rfl k) ?_
        show OGo _ _ _ _ (T55.setTop (mkF m 36 #[.val (.ref a1), .val (.long q1), .second] [(.int ((4 : Int32) &&& (3 : Int32))), (.ref a1)]))
        rw [show ((4 : Int32) &&& (3 : Int32)) = (0 : Int32) from by decide]
        have f64 := f42.wr W41
        obtain ⟨T63, h63, X63, e63, W63, st63⟩ := putF X55 hx hZ hown (host := "") (Or.inl (own_w hw 30 rfl)) Via.refl e55 f48 f64 (Or.inl (own_w hw 31 rfl)) (own_w hw 2 rfl) (ty := .int) (by decide) rfl rfl (g := (mkF m 36 #[.val (.ref a1), .val (.long q1), .second] [(.int (0 : Int32)), (.ref a1)])) rfl rfl (hb hby d4_36)
        refine OGo.via st63 ?_
        have Fw63 := f48.same W63
        have K63 : Keep h0 h63 [a1] := K41.wr W63 (Or.inl (List.mem_of_getElem? (i := 0) rfl))
        have N63 := Fr.snoc X63 N41 g_a1
        show OGo _ _ _ _ (T63.setTop (mkF m 39 #[.val (.ref a1), .val (.long q1), .second] []))
        refine OGo.via (fun _ k => XS.aloadN X63.here hx rfl (hb hby d4_39) rfl rfl (XS.dup X63.here hx rfl (hb hby d4_40) rfl rfl k)) ?_
        have f66 := Fw41.other W63 (Or.inr (slot_ne (Or.inl (own_w hw 28 rfl)) (Or.inl (own_w hw 31 rfl)) (by decide) (t := .int) (t' := .int) (by decide) (by decide)))
        obtain ⟨T65, X65, e65, st65⟩ := getF X63 hx hZ hown (host := "") (Or.inl (own_w hw 27 rfl)) Via.refl e63 f66 (g := (mkF m 41 #[.val (.ref a1), .val (.long q1), .second] [(.ref a1), (.ref a1)])) rfl rfl (hb hby d4_41)
        refine OGo.via st65 ?_
        show OGo _ _ _ _ (T65.setTop (mkF m 44 #[.val (.ref a1), .val (.long q1), .second] [(.int (2 : Int32)), (.ref a1)]))
        refine OGo.via (fun _ k => XS.iconst X65.here hx rfl (hb hby d4_44) (XS.isub X65.here hx rfl (hb hby d4_45) rfl k)) ?_
        show OGo _ _ _ _ (T65.setTop (mkF m 46 #[.val (.ref a1), .val (.long q1), .second] [(.int ((2 : Int32) - (1 : Int32))), (.ref a1)]))
        rw [show ((2 : Int32) - (1 : Int32)) = (1 : Int32) from by decide]
        have f69 := f64.wr W63
        obtain ⟨T68, h68, X68, e68, W68, st68⟩ := putF X65 hx hZ hown (host := "") (Or.inl (own_w hw 27 rfl)) Via.refl e65 f66 f69 (Or.inl (own_w hw 28 rfl)) (own_w hw 2 rfl) (ty := .int) (by decide) rfl rfl (g := (mkF m 46 #[.val (.ref a1), .val (.long q1), .second] [(.int (1 : Int32)), (.ref a1)])) rfl rfl (hb hby d4_46)
        refine OGo.via st68 ?_
        have Fw68 := f66.same W68
        have K68 : Keep h0 h68 [a1] := K63.wr W68 (Or.inl (List.mem_of_getElem? (i := 0) rfl))
        have N68 := Fr.snoc X68 N63 g_a1
        show OGo _ _ _ _ (T68.setTop (mkF m 49 #[.val (.ref a1), .val (.long q1), .second] []))
        refine OGo.via (fun _ k => XS.goto X68.here hx rfl (pc0 := 49) (pc' := 0) rfl (hb hby d4_49) (by decide) (by decide) (XS.aloadN X68.here hx rfl (hb hby d4_0) rfl rfl k)) ?_
        obtain ⟨T70, X70, e70, st70⟩ := getF X68 hx hZ hown (host := "") (Or.inl (own_w hw 27 rfl)) Via.refl e68 Fw68 (g := (mkF m 1 #[.val (.ref a1), .val (.long q1), .second] [(.ref a1)])) rfl rfl (hb hby d4_1)
        refine OGo.via st70 ?_
        show OGo _ _ _ _ (T70.setTop (mkF m 4 #[.val (.ref a1), .val (.long q1), .second] [(.int (1 : Int32))]))
        refine OGo.via (fun _ k => XS.ifNo X70.here hx rfl (hb hby d4_4) rfl ((if0 _ _).trans (tlt (by decide : (0 : Int32) < (1 : Int32))).2.2.2) k) ?_
        show OGo _ _ _ _ (T70.setTop (mkF m 7 #[.val (.ref a1), .val (.long q1), .second] []))
        refine OGo.via (fun _ k => XS.aloadN X70.here hx rfl (hb hby d4_7) rfl rfl k) ?_
        have f72 := f46.other W63 (Or.inr (slot_ne (Or.inl (own_w hw 15 rfl)) (Or.inl (own_w hw 31 rfl)) (by decide) (t := (.array .long)) (t' := .int) (by decide) (by decide)))
        have f73 := f72.other W68 (Or.inr (slot_ne (Or.inl (own_w hw 15 rfl)) (Or.inl (own_w hw 28 rfl)) (by decide) (t := (.array .long)) (t' := .int) (by decide) (by decide)))
        obtain ⟨T71, X71, e71, st71⟩ := getF X70 hx hZ hown (host := "") (Or.inl (own_w hw 14 rfl)) Via.refl e70 f73 (g := (mkF m 8 #[.val (.ref a1), .val (.long q1), .second] [(.ref a1)])) rfl rfl (hb hby d4_8)
        refine OGo.via st71 ?_
        show OGo _ _ _ _ (T71.setTop (mkF m 11 #[.val (.ref a1), .val (.long q1), .second] [(.ref ta)]))
        refine OGo.via (fun _ k => XS.aloadN X71.here hx rfl (hb hby d4_11) rfl rfl k) ?_
        have f75 := Fw63.other W68 (Or.inr (slot_ne (Or.inl (own_w hw 31 rfl)) (Or.inl (own_w hw 28 rfl)) (by decide) (t := .int) (t' := .int) (by decide) (by decide)))
        obtain ⟨T74, X74, e74, st74⟩ := getF X71 hx hZ hown (host := "") (Or.inl (own_w hw 30 rfl)) Via.refl e71 f75 (g := (mkF m 12 #[.val (.ref a1), .val (.long q1), .second] [(.ref a1), (.ref ta)])) rfl rfl (hb hby d4_12)
        refine OGo.via st74 ?_
        show OGo _ _ _ _ (T74.setTop (mkF m 15 #[.val (.ref a1), .val (.long q1), .second] [(.int (0 : Int32)), (.ref ta)]))
        have f77 := f51.other W63 (Ne.symm ne_a1_ta)
        have f78 := f77.other W68 (Ne.symm ne_a1_ta)
        obtain ⟨cl76, Ar76, q76, Sz76, Ng76, Hs76, Gf76⟩ := id f78
        have hin76 : ¬ ((0 : Int32) < 0 ∨ cl76.slots.size ≤ ((0 : Int32)).toNatClampNeg) := inb_of Sz76 ⟨by decide, by decide⟩
        have hat76 : cl76.slots[((0 : Int32)).toNatClampNeg]? = some (.long t4) := Hs76.at hin76 rfl
        refine OGo.via (X74.laload hx (j := (0 : Int32)) (v := (.long t4)) (by rw [e74]; exact Ar76.1) (State.isArrayOf_alike hZ.alike Ar76.2.1) Ar76.2.2 hin76 hat76 (g := (mkF m 15 #[.val (.ref a1), .val (.long q1), .second] [(.int (0 : Int32)), (.ref ta)])) rfl rfl (hb hby d4_15)) ?_
        show OGo _ _ _ _ (T74.setTop (mkF m 16 #[.val (.ref a1), .val (.long q1), .second] [(.long t4)]))
        refine OGo.via (fun _ k => XS.lloadN X74.here hx rfl (hb hby d4_16) rfl (XS.lcmp X74.here hx rfl (hb hby d4_17) rfl k)) ?_
        by_cases hc18_79 : (lcmpW t4 q1) < (0 : Int32)
        · refine OGo.via (fun _ k => XS.ifNo X74.here hx rfl (hb hby d4_18) rfl ((if0 _ _).trans (tlt hc18_79).2.1) k) ?_
          show OGo _ _ _ _ (T74.setTop (mkF m 21 #[.val (.ref a1), .val (.long q1), .second] []))
          refine OGo.via (fun _ k => XS.aloadN X74.here hx rfl (hb hby d4_21) rfl rfl (XS.aloadN X74.here hx rfl (hb hby d4_22) rfl rfl k)) ?_
          obtain ⟨T80, X80, e80, st80⟩ := getF X74 hx hZ hown (host := "") (Or.inl (own_w hw 30 rfl)) Via.refl e74 f75 (g := (mkF m 23 #[.val (.ref a1), .val (.long q1), .second] [(.ref a1), (.ref a1)])) rfl rfl (hb hby d4_23)
          refine OGo.via st80 ?_
          show OGo _ _ _ _ (T80.setTop (mkF m 26 #[.val (.ref a1), .val (.long q1), .second] [(.int (0 : Int32)), (.ref a1)]))
          refine OGo.via (fun _ k => XS.iconst X80.here hx rfl (hb hby d4_26) (XS.iadd X80.here hx rfl (hb hby d4_27) rfl k)) ?_
          show OGo _ _ _ _ (T80.setTop (mkF m 28 #[.val (.ref a1), .val (.long q1), .second] [(.int ((0 : Int32) + (1 : Int32))), (.ref a1)]))
          rw [show ((0 : Int32) + (1 : Int32)) = (1 : Int32) from by decide]
          refine OGo.via (fun _ k => XS.aloadN X80.here hx rfl (hb hby d4_28) rfl rfl k) ?_
          have f83 := f57.other W63 (Or.inr (slot_ne (Or.inl (own_w hw 13 rfl)) (Or.inl (own_w hw 31 rfl)) (by decide) (t := (.array .long)) (t' := .int) (by decide) (by decide)))
          have f84 := f83.other W68 (Or.inr (slot_ne (Or.inl (own_w hw 13 rfl)) (Or.inl (own_w hw 28 rfl)) (by decide) (t := (.array .long)) (t' := .int) (by decide) (by decide)))
          obtain ⟨T82, X82, e82, st82⟩ := getF X80 hx hZ hown (host := "") (Or.inl (own_w hw 12 rfl)) Via.refl e80 f84 (g := (mkF m 29 #[.val (.ref a1), .val (.long q1), .second] [(.ref a1), (.int (1 : Int32)), (.ref a1)])) rfl rfl (hb hby d4_29)
          refine OGo.via st82 ?_
          show OGo _ _ _ _ (T82.setTop (mkF m 32 #[.val (.ref a1), .val (.long q1), .second] [(.ref pa), (.int (1 : Int32)), (.ref a1)]))
          have f86 := f60.other W63 (Ne.symm ne_a1_pa)
          have f87 := f86.other W68 (Ne.symm ne_a1_pa)
          obtain ⟨cl85, Ar85, q85, Sz85, Ng85, Hs85, Gf85⟩ := id f87
          refine OGo.via (X82.arraylength hx (by rw [e82]; exact Ar85.1) (State.isArrayOf_alike hZ.alike Ar85.2.1) (g := (mkF m 32 #[.val (.ref a1), .val (.long q1), .second] [(.ref pa), (.int (1 : Int32)), (.ref a1)])) rfl rfl (hb hby d4_32)) ?_
          rw [len_of Sz85 Ng85]
          show OGo _ _ _ _ (T82.setTop (mkF m 33 #[.val (.ref a1), .val (.long q1), .second] [(.int (4 : Int32)), (.int (1 : Int32)), (.ref a1)]))
          refine OGo.via (fun _ k => XS.iconst X82.here hx rfl (hb hby d4_33) (XS.isub X82.here hx rfl (hb hby d4_34) rfl k)) ?_
          show OGo _ _ _ _ (T82.setTop (mkF m 35 #[.val (.ref a1), .val (.long q1), .second] [(.int ((4 : Int32) - (1 : Int32))), (.int (1 : Int32)), (.ref a1)]))
          rw [show ((4 : Int32) - (1 : Int32)) = (3 : Int32) from by decide]
          refine OGo.via (fun _ k => XS.iand X82.here hx rfl (hb hby d4_35) rfl k) ?_
          show OGo _ _ _ _ (T82.setTop (mkF m 36 #[.val (.ref a1), .val (.long q1), .second] [(.int ((1 : Int32) &&& (3 : Int32))), (.ref a1)]))
          rw [show ((1 : Int32) &&& (3 : Int32)) = (1 : Int32) from by decide]
          have f91 := f69.wr W68
          obtain ⟨T90, h90, X90, e90, W90, st90⟩ := putF X82 hx hZ hown (host := "") (Or.inl (own_w hw 30 rfl)) Via.refl e82 f75 f91 (Or.inl (own_w hw 31 rfl)) (own_w hw 2 rfl) (ty := .int) (by decide) rfl rfl (g := (mkF m 36 #[.val (.ref a1), .val (.long q1), .second] [(.int (1 : Int32)), (.ref a1)])) rfl rfl (hb hby d4_36)
          refine OGo.via st90 ?_
          have Fw90 := f75.same W90
          have K90 : Keep h0 h90 [a1] := K68.wr W90 (Or.inl (List.mem_of_getElem? (i := 0) rfl))
          have N90 := Fr.snoc X90 N68 g_a1
          show OGo _ _ _ _ (T90.setTop (mkF m 39 #[.val (.ref a1), .val (.long q1), .second] []))
          refine OGo.via (fun _ k => XS.aloadN X90.here hx rfl (hb hby d4_39) rfl rfl (XS.dup X90.here hx rfl (hb hby d4_40) rfl rfl k)) ?_
          have f93 := Fw68.other W90 (Or.inr (slot_ne (Or.inl (own_w hw 28 rfl)) (Or.inl (own_w hw 31 rfl)) (by decide) (t := .int) (t' := .int) (by decide) (by decide)))
          obtain ⟨T92, X92, e92, st92⟩ := getF X90 hx hZ hown (host := "") (Or.inl (own_w hw 27 rfl)) Via.refl e90 f93 (g := (mkF m 41 #[.val (.ref a1), .val (.long q1), .second] [(.ref a1), (.ref a1)])) rfl rfl (hb hby d4_41)
          refine OGo.via st92 ?_
          show OGo _ _ _ _ (T92.setTop (mkF m 44 #[.val (.ref a1), .val (.long q1), .second] [(.int (1 : Int32)), (.ref a1)]))
          refine OGo.via (fun _ k => XS.iconst X92.here hx rfl (hb hby d4_44) (XS.isub X92.here hx rfl (hb hby d4_45) rfl k)) ?_
          show OGo _ _ _ _ (T92.setTop (mkF m 46 #[.val (.ref a1), .val (.long q1), .second] [(.int ((1 : Int32) - (1 : Int32))), (.ref a1)]))
          rw [show ((1 : Int32) - (1 : Int32)) = (0 : Int32) from by decide]
          have f96 := f91.wr W90
          obtain ⟨T95, h95, X95, e95, W95, st95⟩ := putF X92 hx hZ hown (host := "") (Or.inl (own_w hw 27 rfl)) Via.refl e92 f93 f96 (Or.inl (own_w hw 28 rfl)) (own_w hw 2 rfl) (ty := .int) (by decide) rfl rfl (g := (mkF m 46 #[.val (.ref a1), .val (.long q1), .second] [(.int (0 : Int32)), (.ref a1)])) rfl rfl (hb hby d4_46)
          refine OGo.via st95 ?_
          have Fw95 := f93.same W95
          have K95 : Keep h0 h95 [a1] := K90.wr W95 (Or.inl (List.mem_of_getElem? (i := 0) rfl))
          have N95 := Fr.snoc X95 N90 g_a1
          show OGo _ _ _ _ (T95.setTop (mkF m 49 #[.val (.ref a1), .val (.long q1), .second] []))
          refine OGo.via (fun _ k => XS.goto X95.here hx rfl (pc0 := 49) (pc' := 0) rfl (hb hby d4_49) (by decide) (by decide) (XS.aloadN X95.here hx rfl (hb hby d4_0) rfl rfl k)) ?_
          obtain ⟨T97, X97, e97, st97⟩ := getF X95 hx hZ hown (host := "") (Or.inl (own_w hw 27 rfl)) Via.refl e95 Fw95 (g := (mkF m 1 #[.val (.ref a1), .val (.long q1), .second] [(.ref a1)])) rfl rfl (hb hby d4_1)
          refine OGo.via st97 ?_
          show OGo _ _ _ _ (T97.setTop (mkF m 4 #[.val (.ref a1), .val (.long q1), .second] [(.int (0 : Int32))]))
          refine OGo.via (fun _ k => XS.ifYes X97.here hx rfl (pc0 := 4) (pc' := 52) rfl (hb hby d4_4) rfl ((if0 _ _).trans (flt (by decide : ¬ ((0 : Int32) < (0 : Int32)))).2.2.2) (by decide) (by decide) k) ?_
          show OGo _ _ _ _ (T97.setTop (mkF m 52 #[.val (.ref a1), .val (.long q1), .second] []))
          refine OGo.via (fun _ k => XS.aloadN X97.here hx rfl (hb hby d4_52) rfl rfl k) ?_
          obtain ⟨T98, X98, e98, st98⟩ := getF X97 hx hZ hown (host := "") (Or.inl (own_w hw 27 rfl)) Via.refl e97 Fw95 (g := (mkF m 53 #[.val (.ref a1), .val (.long q1), .second] [(.ref a1)])) rfl rfl (hb hby d4_53)
          refine OGo.via st98 ?_
          show OGo _ _ _ _ (T98.setTop (mkF m 56 #[.val (.ref a1), .val (.long q1), .second] [(.int (0 : Int32))]))
          refine OGo.via (fun _ k => XS.ifNo X98.here hx rfl (hb hby d4_56) rfl ((if0 _ _).trans (teq (by decide : (0 : Int32) = (0 : Int32))).2) k) ?_
          show OGo _ _ _ _ (T98.setTop (mkF m 59 #[.val (.ref a1), .val (.long q1), .second] []))
          refine OGo.via (X98.ldc2Long hx hown (mvT hZ (own_w hw 29 rfl)) (g := (mkF m 59 #[.val (.ref a1), .val (.long q1), .second] [])) rfl (hb hby d4_59)) ?_
          show OGo _ _ _ _ (T98.setTop (mkF m 62 #[.val (.ref a1), .val (.long q1), .second] [(.long (9223372036854775807 : Int64))]))
          refine OGo.via (fun _ k => XS.goto X98.here hx rfl (pc0 := 62) (pc' := 74) rfl (hb hby d4_62) (by decide) (by decide) k) ?_
          show OGo _ _ _ _ (T98.setTop (mkF m 74 #[.val (.ref a1), .val (.long q1), .second] [(.long (9223372036854775807 : Int64))]))
          have hD : (own_adv (own_adv (own_adv (own_adv (own_adv (1 : Int32) (5 : Int32) t0 t1 t2 t3 t4 q1) (5 : Int32) t0 t1 t2 t3 t4 q1) (5 : Int32) t0 t1 t2 t3 t4 q1) (5 : Int32) t0 t1 t2 t3 t4 q1) (5 : Int32) t0 t1 t2 t3 t4 q1) = (5 : Int32) := by rw [own_adv_y (k := (1 : Int32)) (k' := (2 : Int32)) (by decide) (by decide) (by rw [own_t1]; exact hc18_5), own_adv_y (k := (2 : Int32)) (k' := (3 : Int32)) (by decide) (by decide) (by rw [own_t2]; exact hc18_26), own_adv_y (k := (3 : Int32)) (k' := (4 : Int32)) (by decide) (by decide) (by rw [own_t3]; exact hc18_52), own_adv_y (k := (4 : Int32)) (k' := (5 : Int32)) (by decide) (by decide) (by rw [own_t4]; exact hc18_79), own_adv_o (k := (5 : Int32)) (by decide)]
          have f99 := f96.wr W95
          refine own_retL X98 hx Bd.notSynchronized Bd.returns (hb hby d4_74) (by decide) (by decide) ?_
          show Q_rm4b1 Z _ _ _ _ _ _ _ _ _ _ _ _ _ h0 n0 _ T98.heap _
          rw [e98]
          exact ⟨(by rw [hD, own_xy rfl]), N95, K95, f99, (by rw [hD]; exact Fw95)⟩
        · refine OGo.via (fun _ k => XS.ifYes X74.here hx rfl (pc0 := 18) (pc' := 52) rfl (hb hby d4_18) rfl ((if0 _ _).trans (flt hc18_79).2.1) (by decide) (by decide) k) ?_
          show OGo _ _ _ _ (T74.setTop (mkF m 52 #[.val (.ref a1), .val (.long q1), .second] []))
          refine OGo.via (fun _ k => XS.aloadN X74.here hx rfl (hb hby d4_52) rfl rfl k) ?_
          obtain ⟨T100, X100, e100, st100⟩ := getF X74 hx hZ hown (host := "") (Or.inl (own_w hw 27 rfl)) Via.refl e74 Fw68 (g := (mkF m 53 #[.val (.ref a1), .val (.long q1), .second] [(.ref a1)])) rfl rfl (hb hby d4_53)
          refine OGo.via st100 ?_
          show OGo _ _ _ _ (T100.setTop (mkF m 56 #[.val (.ref a1), .val (.long q1), .second] [(.int (1 : Int32))]))
          refine OGo.via (fun _ k => XS.ifYes X100.here hx rfl (pc0 := 56) (pc' := 65) rfl (hb hby d4_56) rfl ((if0 _ _).trans (feq (by decide : ¬ ((1 : Int32) = (0 : Int32)))).2) (by decide) (by decide) k) ?_
          show OGo _ _ _ _ (T100.setTop (mkF m 65 #[.val (.ref a1), .val (.long q1), .second] []))
          refine OGo.via (fun _ k => XS.aloadN X100.here hx rfl (hb hby d4_65) rfl rfl k) ?_
          have f102 := f57.other W63 (Or.inr (slot_ne (Or.inl (own_w hw 13 rfl)) (Or.inl (own_w hw 31 rfl)) (by decide) (t := (.array .long)) (t' := .int) (by decide) (by decide)))
          have f103 := f102.other W68 (Or.inr (slot_ne (Or.inl (own_w hw 13 rfl)) (Or.inl (own_w hw 28 rfl)) (by decide) (t := (.array .long)) (t' := .int) (by decide) (by decide)))
          obtain ⟨T101, X101, e101, st101⟩ := getF X100 hx hZ hown (host := "") (Or.inl (own_w hw 12 rfl)) Via.refl e100 f103 (g := (mkF m 66 #[.val (.ref a1), .val (.long q1), .second] [(.ref a1)])) rfl rfl (hb hby d4_66)
          refine OGo.via st101 ?_
          show OGo _ _ _ _ (T101.setTop (mkF m 69 #[.val (.ref a1), .val (.long q1), .second] [(.ref pa)]))
          refine OGo.via (fun _ k => XS.aloadN X101.here hx rfl (hb hby d4_69) rfl rfl k) ?_
          obtain ⟨T104, X104, e104, st104⟩ := getF X101 hx hZ hown (host := "") (Or.inl (own_w hw 30 rfl)) Via.refl e101 f75 (g := (mkF m 70 #[.val (.ref a1), .val (.long q1), .second] [(.ref a1), (.ref pa)])) rfl rfl (hb hby d4_70)
          refine OGo.via st104 ?_
          show OGo _ _ _ _ (T104.setTop (mkF m 73 #[.val (.ref a1), .val (.long q1), .second] [(.int (0 : Int32)), (.ref pa)]))
          have f106 := f60.other W63 (Ne.symm ne_a1_pa)
          have f107 := f106.other W68 (Ne.symm ne_a1_pa)
          obtain ⟨cl105, Ar105, q105, Sz105, Ng105, Hs105, Gf105⟩ := id f107
          have hin105 : ¬ ((0 : Int32) < 0 ∨ cl105.slots.size ≤ ((0 : Int32)).toNatClampNeg) := inb_of Sz105 ⟨by decide, by decide⟩
          have hat105 : cl105.slots[((0 : Int32)).toNatClampNeg]? = some (.long (pz + (4 : Int64))) := Hs105.at hin105 rfl
          refine OGo.via (X104.laload hx (j := (0 : Int32)) (v := (.long (pz + (4 : Int64)))) (by rw [e104]; exact Ar105.1) (State.isArrayOf_alike hZ.alike Ar105.2.1) Ar105.2.2 hin105 hat105 (g := (mkF m 73 #[.val (.ref a1), .val (.long q1), .second] [(.int (0 : Int32)), (.ref pa)])) rfl rfl (hb hby d4_73)) ?_
          show OGo _ _ _ _ (T104.setTop (mkF m 74 #[.val (.ref a1), .val (.long q1), .second] [(.long (pz + (4 : Int64)))]))
          show OGo _ _ _ _ (T104.setTop (mkF m 74 #[.val (.ref a1), .val (.long q1), .second] [(.long (pz + (4 : Int64)))]))
          have hD : (own_adv (own_adv (own_adv (own_adv (own_adv (1 : Int32) (5 : Int32) t0 t1 t2 t3 t4 q1) (5 : Int32) t0 t1 t2 t3 t4 q1) (5 : Int32) t0 t1 t2 t3 t4 q1) (5 : Int32) t0 t1 t2 t3 t4 q1) (5 : Int32) t0 t1 t2 t3 t4 q1) = (4 : Int32) := by rw [own_adv_y (k := (1 : Int32)) (k' := (2 : Int32)) (by decide) (by decide) (by rw [own_t1]; exact hc18_5), own_adv_y (k := (2 : Int32)) (k' := (3 : Int32)) (by decide) (by decide) (by rw [own_t2]; exact hc18_26), own_adv_y (k := (3 : Int32)) (k' := (4 : Int32)) (by decide) (by decide) (by rw [own_t3]; exact hc18_52), own_adv_n (k := (4 : Int32)) (by rw [own_t4]; exact hc18_79), own_adv_n (k := (4 : Int32)) (by rw [own_t4]; exact hc18_79)]
          have f108 := f69.wr W68
          refine own_retL X104 hx Bd.notSynchronized Bd.returns (hb hby d4_74) (by decide) (by decide) ?_
          show Q_rm4b1 Z _ _ _ _ _ _ _ _ _ _ _ _ _ h0 n0 _ T104.heap _
          rw [e104]
          exact ⟨(by rw [hD, own_xn (by decide)]; rfl), N68, K68, f108, (by rw [hD]; exact Fw68)⟩
      · refine OGo.via (fun _ k => XS.ifYes X47.here hx rfl (pc0 := 18) (pc' := 52) rfl (hb hby d4_18) rfl ((if0 _ _).trans (flt hc18_52).2.1) (by decide) (by decide) k) ?_
        show OGo _ _ _ _ (T47.setTop (mkF m 52 #[.val (.ref a1), .val (.long q1), .second] []))
        refine OGo.via (fun _ k => XS.aloadN X47.here hx rfl (hb hby d4_52) rfl rfl k) ?_
        obtain ⟨T109, X109, e109, st109⟩ := getF X47 hx hZ hown (host := "") (Or.inl (own_w hw 27 rfl)) Via.refl e47 Fw41 (g := (mkF m 53 #[.val (.ref a1), .val (.long q1), .second] [(.ref a1)])) rfl rfl (hb hby d4_53)
        refine OGo.via st109 ?_
        show OGo _ _ _ _ (T109.setTop (mkF m 56 #[.val (.ref a1), .val (.long q1), .second] [(.int (2 : Int32))]))
        refine OGo.via (fun _ k => XS.ifYes X109.here hx rfl (pc0 := 56) (pc' := 65) rfl (hb hby d4_56) rfl ((if0 _ _).trans (feq (by decide : ¬ ((2 : Int32) = (0 : Int32)))).2) (by decide) (by decide) k) ?_
        show OGo _ _ _ _ (T109.setTop (mkF m 65 #[.val (.ref a1), .val (.long q1), .second] []))
        refine OGo.via (fun _ k => XS.aloadN X109.here hx rfl (hb hby d4_65) rfl rfl k) ?_
        have f111 := f31.other W36 (Or.inr (slot_ne (Or.inl (own_w hw 13 rfl)) (Or.inl (own_w hw 31 rfl)) (by decide) (t := (.array .long)) (t' := .int) (by decide) (by decide)))
        have f112 := f111.other W41 (Or.inr (slot_ne (Or.inl (own_w hw 13 rfl)) (Or.inl (own_w hw 28 rfl)) (by decide) (t := (.array .long)) (t' := .int) (by decide) (by decide)))
        obtain ⟨T110, X110, e110, st110⟩ := getF X109 hx hZ hown (host := "") (Or.inl (own_w hw 12 rfl)) Via.refl e109 f112 (g := (mkF m 66 #[.val (.ref a1), .val (.long q1), .second] [(.ref a1)])) rfl rfl (hb hby d4_66)
        refine OGo.via st110 ?_
        show OGo _ _ _ _ (T110.setTop (mkF m 69 #[.val (.ref a1), .val (.long q1), .second] [(.ref pa)]))
        refine OGo.via (fun _ k => XS.aloadN X110.here hx rfl (hb hby d4_69) rfl rfl k) ?_
        obtain ⟨T113, X113, e113, st113⟩ := getF X110 hx hZ hown (host := "") (Or.inl (own_w hw 30 rfl)) Via.refl e110 f48 (g := (mkF m 70 #[.val (.ref a1), .val (.long q1), .second] [(.ref a1), (.ref pa)])) rfl rfl (hb hby d4_70)
        refine OGo.via st113 ?_
        show OGo _ _ _ _ (T113.setTop (mkF m 73 #[.val (.ref a1), .val (.long q1), .second] [(.int (3 : Int32)), (.ref pa)]))
        have f115 := f33.other W36 (Ne.symm ne_a1_pa)
        have f116 := f115.other W41 (Ne.symm ne_a1_pa)
        obtain ⟨cl114, Ar114, q114, Sz114, Ng114, Hs114, Gf114⟩ := id f116
        have hin114 : ¬ ((3 : Int32) < 0 ∨ cl114.slots.size ≤ ((3 : Int32)).toNatClampNeg) := inb_of Sz114 ⟨by decide, by decide⟩
        have hat114 : cl114.slots[((3 : Int32)).toNatClampNeg]? = some (.long (pz + (3 : Int64))) := Hs114.at hin114 rfl
        refine OGo.via (X113.laload hx (j := (3 : Int32)) (v := (.long (pz + (3 : Int64)))) (by rw [e113]; exact Ar114.1) (State.isArrayOf_alike hZ.alike Ar114.2.1) Ar114.2.2 hin114 hat114 (g := (mkF m 73 #[.val (.ref a1), .val (.long q1), .second] [(.int (3 : Int32)), (.ref pa)])) rfl rfl (hb hby d4_73)) ?_
        show OGo _ _ _ _ (T113.setTop (mkF m 74 #[.val (.ref a1), .val (.long q1), .second] [(.long (pz + (3 : Int64)))]))
        show OGo _ _ _ _ (T113.setTop (mkF m 74 #[.val (.ref a1), .val (.long q1), .second] [(.long (pz + (3 : Int64)))]))
        have hD : (own_adv (own_adv (own_adv (own_adv (own_adv (1 : Int32) (5 : Int32) t0 t1 t2 t3 t4 q1) (5 : Int32) t0 t1 t2 t3 t4 q1) (5 : Int32) t0 t1 t2 t3 t4 q1) (5 : Int32) t0 t1 t2 t3 t4 q1) (5 : Int32) t0 t1 t2 t3 t4 q1) = (3 : Int32) := by rw [own_adv_y (k := (1 : Int32)) (k' := (2 : Int32)) (by decide) (by decide) (by rw [own_t1]; exact hc18_5), own_adv_y (k := (2 : Int32)) (k' := (3 : Int32)) (by decide) (by decide) (by rw [own_t2]; exact hc18_26), own_adv_n (k := (3 : Int32)) (by rw [own_t3]; exact hc18_52), own_adv_n (k := (3 : Int32)) (by rw [own_t3]; exact hc18_52), own_adv_n (k := (3 : Int32)) (by rw [own_t3]; exact hc18_52)]
        have f117 := f42.wr W41
        refine own_retL X113 hx Bd.notSynchronized Bd.returns (hb hby d4_74) (by decide) (by decide) ?_
        show Q_rm4b1 Z _ _ _ _ _ _ _ _ _ _ _ _ _ h0 n0 _ T113.heap _
        rw [e113]
        exact ⟨(by rw [hD, own_xn (by decide)]; rfl), N41, K41, f117, (by rw [hD]; exact Fw41)⟩
    · refine OGo.via (fun _ k => XS.ifYes X22.here hx rfl (pc0 := 18) (pc' := 52) rfl (hb hby d4_18) rfl ((if0 _ _).trans (flt hc18_26).2.1) (by decide) (by decide) k) ?_
      show OGo _ _ _ _ (T22.setTop (mkF m 52 #[.val (.ref a1), .val (.long q1), .second] []))
      refine OGo.via (fun _ k => XS.aloadN X22.here hx rfl (hb hby d4_52) rfl rfl k) ?_
      obtain ⟨T118, X118, e118, st118⟩ := getF X22 hx hZ hown (host := "") (Or.inl (own_w hw 27 rfl)) Via.refl e22 Fw16 (g := (mkF m 53 #[.val (.ref a1), .val (.long q1), .second] [(.ref a1)])) rfl rfl (hb hby d4_53)
      refine OGo.via st118 ?_
      show OGo _ _ _ _ (T118.setTop (mkF m 56 #[.val (.ref a1), .val (.long q1), .second] [(.int (3 : Int32))]))
      refine OGo.via (fun _ k => XS.ifYes X118.here hx rfl (pc0 := 56) (pc' := 65) rfl (hb hby d4_56) rfl ((if0 _ _).trans (feq (by decide : ¬ ((3 : Int32) = (0 : Int32)))).2) (by decide) (by decide) k) ?_
      show OGo _ _ _ _ (T118.setTop (mkF m 65 #[.val (.ref a1), .val (.long q1), .second] []))
      refine OGo.via (fun _ k => XS.aloadN X118.here hx rfl (hb hby d4_65) rfl rfl k) ?_
      have f120 := F_positions_a1.other W12 (Or.inr (slot_ne (Or.inl (own_w hw 13 rfl)) (Or.inl (own_w hw 31 rfl)) (by decide) (t := (.array .long)) (t' := .int) (by decide) (by decide)))
      have f121 := f120.other W16 (Or.inr (slot_ne (Or.inl (own_w hw 13 rfl)) (Or.inl (own_w hw 28 rfl)) (by decide) (t := (.array .long)) (t' := .int) (by decide) (by decide)))
      obtain ⟨T119, X119, e119, st119⟩ := getF X118 hx hZ hown (host := "") (Or.inl (own_w hw 12 rfl)) Via.refl e118 f121 (g := (mkF m 66 #[.val (.ref a1), .val (.long q1), .second] [(.ref a1)])) rfl rfl (hb hby d4_66)
      refine OGo.via st119 ?_
      show OGo _ _ _ _ (T119.setTop (mkF m 69 #[.val (.ref a1), .val (.long q1), .second] [(.ref pa)]))
      refine OGo.via (fun _ k => XS.aloadN X119.here hx rfl (hb hby d4_69) rfl rfl k) ?_
      obtain ⟨T122, X122, e122, st122⟩ := getF X119 hx hZ hown (host := "") (Or.inl (own_w hw 30 rfl)) Via.refl e119 f23 (g := (mkF m 70 #[.val (.ref a1), .val (.long q1), .second] [(.ref a1), (.ref pa)])) rfl rfl (hb hby d4_70)
      refine OGo.via st122 ?_
      show OGo _ _ _ _ (T122.setTop (mkF m 73 #[.val (.ref a1), .val (.long q1), .second] [(.int (2 : Int32)), (.ref pa)]))
      have f124 := V_pa.keep K16 (ninS (Ne.symm ne_a1_pa) nin0)
      obtain ⟨cl123, Ar123, q123, Sz123, Ng123, Hs123, Gf123⟩ := id f124
      have hin123 : ¬ ((2 : Int32) < 0 ∨ cl123.slots.size ≤ ((2 : Int32)).toNatClampNeg) := inb_of Sz123 ⟨by decide, by decide⟩
      have hat123 : cl123.slots[((2 : Int32)).toNatClampNeg]? = some (.long (pz + (2 : Int64))) := Hs123.at hin123 rfl
      refine OGo.via (X122.laload hx (j := (2 : Int32)) (v := (.long (pz + (2 : Int64)))) (by rw [e122]; exact Ar123.1) (State.isArrayOf_alike hZ.alike Ar123.2.1) Ar123.2.2 hin123 hat123 (g := (mkF m 73 #[.val (.ref a1), .val (.long q1), .second] [(.int (2 : Int32)), (.ref pa)])) rfl rfl (hb hby d4_73)) ?_
      show OGo _ _ _ _ (T122.setTop (mkF m 74 #[.val (.ref a1), .val (.long q1), .second] [(.long (pz + (2 : Int64)))]))
      show OGo _ _ _ _ (T122.setTop (mkF m 74 #[.val (.ref a1), .val (.long q1), .second] [(.long (pz + (2 : Int64)))]))
      have hD : (own_adv (own_adv (own_adv (own_adv (own_adv (1 : Int32) (5 : Int32) t0 t1 t2 t3 t4 q1) (5 : Int32) t0 t1 t2 t3 t4 q1) (5 : Int32) t0 t1 t2 t3 t4 q1) (5 : Int32) t0 t1 t2 t3 t4 q1) (5 : Int32) t0 t1 t2 t3 t4 q1) = (2 : Int32) := by rw [own_adv_y (k := (1 : Int32)) (k' := (2 : Int32)) (by decide) (by decide) (by rw [own_t1]; exact hc18_5), own_adv_n (k := (2 : Int32)) (by rw [own_t2]; exact hc18_26), own_adv_n (k := (2 : Int32)) (by rw [own_t2]; exact hc18_26), own_adv_n (k := (2 : Int32)) (by rw [own_t2]; exact hc18_26), own_adv_n (k := (2 : Int32)) (by rw [own_t2]; exact hc18_26)]
      have f125 := f17.wr W16
      refine own_retL X122 hx Bd.notSynchronized Bd.returns (hb hby d4_74) (by decide) (by decide) ?_
      show Q_rm4b1 Z _ _ _ _ _ _ _ _ _ _ _ _ _ h0 n0 _ T122.heap _
      rw [e122]
      exact ⟨(by rw [hD, own_xn (by decide)]; rfl), N16, K16, f125, (by rw [hD]; exact Fw16)⟩
  · refine OGo.via (fun _ k => XS.ifYes X3.here hx rfl (pc0 := 18) (pc' := 52) rfl (hb hby d4_18) rfl ((if0 _ _).trans (flt hc18_5).2.1) (by decide) (by decide) k) ?_
    show OGo _ _ _ _ (T3.setTop (mkF m 52 #[.val (.ref a1), .val (.long q1), .second] []))
    refine OGo.via (fun _ k => XS.aloadN X3.here hx rfl (hb hby d4_52) rfl rfl k) ?_
    obtain ⟨T126, X126, e126, st126⟩ := getF X3 hx hZ hown (host := "") (Or.inl (own_w hw 27 rfl)) Via.refl e3 F_count_a1 (g := (mkF m 53 #[.val (.ref a1), .val (.long q1), .second] [(.ref a1)])) rfl rfl (hb hby d4_53)
    refine OGo.via st126 ?_
    show OGo _ _ _ _ (T126.setTop (mkF m 56 #[.val (.ref a1), .val (.long q1), .second] [(.int (4 : Int32))]))
    refine OGo.via (fun _ k => XS.ifYes X126.here hx rfl (pc0 := 56) (pc' := 65) rfl (hb hby d4_56) rfl ((if0 _ _).trans (feq (by decide : ¬ ((4 : Int32) = (0 : Int32)))).2) (by decide) (by decide) k) ?_
    show OGo _ _ _ _ (T126.setTop (mkF m 65 #[.val (.ref a1), .val (.long q1), .second] []))
    refine OGo.via (fun _ k => XS.aloadN X126.here hx rfl (hb hby d4_65) rfl rfl k) ?_
    obtain ⟨T127, X127, e127, st127⟩ := getF X126 hx hZ hown (host := "") (Or.inl (own_w hw 12 rfl)) Via.refl e126 F_positions_a1 (g := (mkF m 66 #[.val (.ref a1), .val (.long q1), .second] [(.ref a1)])) rfl rfl (hb hby d4_66)
    refine OGo.via st127 ?_
    show OGo _ _ _ _ (T127.setTop (mkF m 69 #[.val (.ref a1), .val (.long q1), .second] [(.ref pa)]))
    refine OGo.via (fun _ k => XS.aloadN X127.here hx rfl (hb hby d4_69) rfl rfl k) ?_
    obtain ⟨T128, X128, e128, st128⟩ := getF X127 hx hZ hown (host := "") (Or.inl (own_w hw 30 rfl)) Via.refl e127 F_first_a1 (g := (mkF m 70 #[.val (.ref a1), .val (.long q1), .second] [(.ref a1), (.ref pa)])) rfl rfl (hb hby d4_70)
    refine OGo.via st128 ?_
    show OGo _ _ _ _ (T128.setTop (mkF m 73 #[.val (.ref a1), .val (.long q1), .second] [(.int (1 : Int32)), (.ref pa)]))
    obtain ⟨cl129, Ar129, q129, Sz129, Ng129, Hs129, Gf129⟩ := id V_pa
    have hin129 : ¬ ((1 : Int32) < 0 ∨ cl129.slots.size ≤ ((1 : Int32)).toNatClampNeg) := inb_of Sz129 ⟨by decide, by decide⟩
    have hat129 : cl129.slots[((1 : Int32)).toNatClampNeg]? = some (.long (pz + (1 : Int64))) := Hs129.at hin129 rfl
    refine OGo.via (X128.laload hx (j := (1 : Int32)) (v := (.long (pz + (1 : Int64)))) (by rw [e128]; exact Ar129.1) (State.isArrayOf_alike hZ.alike Ar129.2.1) Ar129.2.2 hin129 hat129 (g := (mkF m 73 #[.val (.ref a1), .val (.long q1), .second] [(.int (1 : Int32)), (.ref pa)])) rfl rfl (hb hby d4_73)) ?_
    show OGo _ _ _ _ (T128.setTop (mkF m 74 #[.val (.ref a1), .val (.long q1), .second] [(.long (pz + (1 : Int64)))]))
    show OGo _ _ _ _ (T128.setTop (mkF m 74 #[.val (.ref a1), .val (.long q1), .second] [(.long (pz + (1 : Int64)))]))
    have hD : (own_adv (own_adv (own_adv (own_adv (own_adv (1 : Int32) (5 : Int32) t0 t1 t2 t3 t4 q1) (5 : Int32) t0 t1 t2 t3 t4 q1) (5 : Int32) t0 t1 t2 t3 t4 q1) (5 : Int32) t0 t1 t2 t3 t4 q1) (5 : Int32) t0 t1 t2 t3 t4 q1) = (1 : Int32) := by rw [own_adv_n (k := (1 : Int32)) (by rw [own_t1]; exact hc18_5), own_adv_n (k := (1 : Int32)) (by rw [own_t1]; exact hc18_5), own_adv_n (k := (1 : Int32)) (by rw [own_t1]; exact hc18_5), own_adv_n (k := (1 : Int32)) (by rw [own_t1]; exact hc18_5), own_adv_n (k := (1 : Int32)) (by rw [own_t1]; exact hc18_5)]
    refine own_retL X128 hx Bd.notSynchronized Bd.returns (hb hby d4_74) (by decide) (by decide) ?_
    show Q_rm4b1 Z _ _ _ _ _ _ _ _ _ _ _ _ _ h0 n0 _ T128.heap _
    rw [e128]
    exact ⟨(by rw [hD, own_xn (by decide)]; rfl), N0, (Keep.refl h0 [a1]), E_a1, (by rw [hD]; exact F_count_a1)⟩
theorem ef_rm4b2 (m : MethodId) (a1 : Addr) (q1 : Int64) : entryFrame m #[(.ref a1), (.long q1)] 3 = mkF m 0 #[.val (.ref a1), .val (.long q1), .second] [] := by first | (simp [entryFrame, mkF, argsToLocals, Value.category]; done) | rfl
def Q_rm4b2 (Z : State) (a1 : Addr) (q1 : Int64) (pa : Addr) (ta : Addr) (kp : ClassId) (kt : ClassId) (bf : Int64) (pz : Int64) (t0 : Int64) (t1 : Int64) (t2 : Int64) (t3 : Int64) (t4 : Int64) (h0 : Heap) (n0 : Nat) (v : Option Value) (h : Heap) (L : List Loc) : Prop := v = some (.long (own_x (own_adv (own_adv (own_adv (own_adv (own_adv (2 : Int32) (5 : Int32) t0 t1 t2 t3 t4 q1) (5 : Int32) t0 t1 t2 t3 t4 q1) (5 : Int32) t0 t1 t2 t3 t4 q1) (5 : Int32) t0 t1 t2 t3 t4 q1) (5 : Int32) t0 t1 t2 t3 t4 q1) (5 : Int32) pz)) ∧ Fr n0 L ∧ Keep h0 h [a1] ∧ Exa Z h a1 "com/example/eventloom/eventloom/engine/Forbidden" ∧ Fld Z h a1 "com/example/eventloom/eventloom/engine/Forbidden" "count" "I" (.int (own_h (own_adv (own_adv (own_adv (own_adv (own_adv (2 : Int32) (5 : Int32) t0 t1 t2 t3 t4 q1) (5 : Int32) t0 t1 t2 t3 t4 q1) (5 : Int32) t0 t1 t2 t3 t4 q1) (5 : Int32) t0 t1 t2 t3 t4 q1) (5 : Int32) t0 t1 t2 t3 t4 q1) (5 : Int32)))
set_option maxRecDepth 65536 in
set_option maxHeartbeats 40000000 in
theorem rm4b2 (l : Launch) (Z : State) (a0 : Array Value) (hw : ∀ d ∈ tables_1, d.before a0 Z = true) (ws : List Jvm.Cond) (a1 : Addr) (q1 : Int64) (pa : Addr) (ta : Addr) (kp : ClassId) (kt : ClassId) (bf : Int64) (pz : Int64) (t0 : Int64) (t1 : Int64) (t2 : Int64) (t3 : Int64) (t4 : Int64) (h0 : Heap) (n0 : Nat) (Z0 : n0 ≤ h0.size) (E_a1 : Exa Z h0 a1 "com/example/eventloom/eventloom/engine/Forbidden") (F_positions_a1 : Fld Z h0 a1 "com/example/eventloom/eventloom/engine/Forbidden" "positions" "[J" (.ref pa)) (F_times_a1 : Fld Z h0 a1 "com/example/eventloom/eventloom/engine/Forbidden" "times" "[J" (.ref ta)) (F_first_a1 : Fld Z h0 a1 "com/example/eventloom/eventloom/engine/Forbidden" "first" "I" (.int (2 : Int32))) (F_count_a1 : Fld Z h0 a1 "com/example/eventloom/eventloom/engine/Forbidden" "count" "I" (.int (3 : Int32))) (F_befores_a1 : Fld Z h0 a1 "com/example/eventloom/eventloom/engine/Forbidden" "befores" "J" (.long bf)) (V_pa : Arv Z h0 pa kp .long (4 : Int32) [(.long (pz + (4 : Int64))), (.long (pz + (1 : Int64))), (.long (pz + (2 : Int64))), (.long (pz + (3 : Int64)))] (.long (0 : Int64))) (V_ta : Arv Z h0 ta kt .long (4 : Int32) [(.long t4), (.long t1), (.long t2), (.long t3)] (.long (0 : Int64))) (ne_a1_pa : a1 ≠ pa) (ne_a1_ta : a1 ≠ ta) (g_a1 : n0 ≤ a1) :
    MetFree l own_y4 (head1 (Jvm.Cond.code own_y4 prog_122_method_4_code 3 (some .long) :: ws) ({ frames := 0, cells := 0, slots := 0, locals := 0 } : Room)) (fun a U => a = #[(.ref a1), (.long q1)] ∧ Z.Warmed39 U.vm ∧ U.heap = h0) (fun _ _ _ _ _ => True) (fun _ U o U' => ∃ v L, o = .returned v ∧ Q_rm4b2 Z a1 q1 pa ta kp kt bf pz t0 t1 t2 t3 t4 h0 n0 v U'.heap L ∧ FrameEnd U o U' L ({ frames := 0, cells := 0, slots := 0, locals := 0 } : Room).cells ({ frames := 0, cells := 0, slots := 0, locals := 0 } : Room).slots) := by
  refine MetFree.of_bodySF (plainFor_of_name pn_Forbidden) hisR ?_
  intro p e s m args below meth c s₁ Bd hml0 hP hK
  obtain ⟨rfl, hZ, hh⟩ := hP
  have hx := Bd.exec
  have hby := Bd.bytes
  have hml : c.maxLocals = 3 := hml0
  have hown : s.vm.findClass "com/example/eventloom/eventloom/engine/Forbidden" = some m.cls := findClass_of_methodNamed Bd.named
  have hnm := (name_of_methodNamed Bd.named Bd.method).1
  have X0 : Stand p l e ({ frames := 0, cells := 0, slots := 0, locals := 0 } : Room) s m #[(.ref a1), (.long q1)] below meth c s₁ [] 0 0 := Stand.of_body Bd
  have e0 : s₁.heap = h0 := by rw [← hh, Bd.state]; rfl
  have N0 := Fr.nil n0
  show OGo p.tables e below (own_Kq s (fun v h L => Q_rm4b2 Z a1 q1 pa ta kp kt bf pz t0 t1 t2 t3 t4 h0 n0 v h L) ({ frames := 0, cells := 0, slots := 0, locals := 0 } : Room).cells ({ frames := 0, cells := 0, slots := 0, locals := 0 } : Room).slots) (s₁.setTop (entryFrame m #[(.ref a1), (.long q1)] 3))
  refine OGo.cast (ef_rm4b2 m a1 q1) ?_
  show OGo _ _ _ _ (s₁.setTop (mkF m 0 #[.val (.ref a1), .val (.long q1), .second] []))
  refine OGo.via (fun _ k => XS.aloadN X0.here hx rfl (hb hby d4_0) rfl rfl k) ?_
  obtain ⟨T1, X1, e1, st1⟩ := getF X0 hx hZ hown (host := "") (Or.inl (own_w hw 27 rfl)) Via.refl e0 F_count_a1 (g := (mkF m 1 #[.val (.ref a1), .val (.long q1), .second] [(.ref a1)])) rfl rfl (hb hby d4_1)
  refine OGo.via st1 ?_
  show OGo _ _ _ _ (T1.setTop (mkF m 4 #[.val (.ref a1), .val (.long q1), .second] [(.int (3 : Int32))]))
  refine OGo.via (fun _ k => XS.ifNo X1.here hx rfl (hb hby d4_4) rfl ((if0 _ _).trans (tlt (by decide : (0 : Int32) < (3 : Int32))).2.2.2) k) ?_
  show OGo _ _ _ _ (T1.setTop (mkF m 7 #[.val (.ref a1), .val (.long q1), .second] []))
  refine OGo.via (fun _ k => XS.aloadN X1.here hx rfl (hb hby d4_7) rfl rfl k) ?_
  obtain ⟨T2, X2, e2, st2⟩ := getF X1 hx hZ hown (host := "") (Or.inl (own_w hw 14 rfl)) Via.refl e1 F_times_a1 (g := (mkF m 8 #[.val (.ref a1), .val (.long q1), .second] [(.ref a1)])) rfl rfl (hb hby d4_8)
  refine OGo.via st2 ?_
  show OGo _ _ _ _ (T2.setTop (mkF m 11 #[.val (.ref a1), .val (.long q1), .second] [(.ref ta)]))
  refine OGo.via (fun _ k => XS.aloadN X2.here hx rfl (hb hby d4_11) rfl rfl k) ?_
  obtain ⟨T3, X3, e3, st3⟩ := getF X2 hx hZ hown (host := "") (Or.inl (own_w hw 30 rfl)) Via.refl e2 F_first_a1 (g := (mkF m 12 #[.val (.ref a1), .val (.long q1), .second] [(.ref a1), (.ref ta)])) rfl rfl (hb hby d4_12)
  refine OGo.via st3 ?_
  show OGo _ _ _ _ (T3.setTop (mkF m 15 #[.val (.ref a1), .val (.long q1), .second] [(.int (2 : Int32)), (.ref ta)]))
  obtain ⟨cl4, Ar4, q4, Sz4, Ng4, Hs4, Gf4⟩ := id V_ta
  have hin4 : ¬ ((2 : Int32) < 0 ∨ cl4.slots.size ≤ ((2 : Int32)).toNatClampNeg) := inb_of Sz4 ⟨by decide, by decide⟩
  have hat4 : cl4.slots[((2 : Int32)).toNatClampNeg]? = some (.long t2) := Hs4.at hin4 rfl
  refine OGo.via (X3.laload hx (j := (2 : Int32)) (v := (.long t2)) (by rw [e3]; exact Ar4.1) (State.isArrayOf_alike hZ.alike Ar4.2.1) Ar4.2.2 hin4 hat4 (g := (mkF m 15 #[.val (.ref a1), .val (.long q1), .second] [(.int (2 : Int32)), (.ref ta)])) rfl rfl (hb hby d4_15)) ?_
  show OGo _ _ _ _ (T3.setTop (mkF m 16 #[.val (.ref a1), .val (.long q1), .second] [(.long t2)]))
  refine OGo.via (fun _ k => XS.lloadN X3.here hx rfl (hb hby d4_16) rfl (XS.lcmp X3.here hx rfl (hb hby d4_17) rfl k)) ?_
  by_cases hc18_5 : (lcmpW t2 q1) < (0 : Int32)
  · refine OGo.via (fun _ k => XS.ifNo X3.here hx rfl (hb hby d4_18) rfl ((if0 _ _).trans (tlt hc18_5).2.1) k) ?_
    show OGo _ _ _ _ (T3.setTop (mkF m 21 #[.val (.ref a1), .val (.long q1), .second] []))
    refine OGo.via (fun _ k => XS.aloadN X3.here hx rfl (hb hby d4_21) rfl rfl (XS.aloadN X3.here hx rfl (hb hby d4_22) rfl rfl k)) ?_
    obtain ⟨T6, X6, e6, st6⟩ := getF X3 hx hZ hown (host := "") (Or.inl (own_w hw 30 rfl)) Via.refl e3 F_first_a1 (g := (mkF m 23 #[.val (.ref a1), .val (.long q1), .second] [(.ref a1), (.ref a1)])) rfl rfl (hb hby d4_23)
    refine OGo.via st6 ?_
    show OGo _ _ _ _ (T6.setTop (mkF m 26 #[.val (.ref a1), .val (.long q1), .second] [(.int (2 : Int32)), (.ref a1)]))
    refine OGo.via (fun _ k => XS.iconst X6.here hx rfl (hb hby d4_26) (XS.iadd X6.here hx rfl (hb hby d4_27) rfl k)) ?_
    show OGo _ _ _ _ (T6.setTop (mkF m 28 #[.val (.ref a1), .val (.long q1), .second] [(.int ((2 : Int32) + (1 : Int32))), (.ref a1)]))
    rw [show ((2 : Int32) + (1 : Int32)) = (3 : Int32) from by decide]
    refine OGo.via (fun _ k => XS.aloadN X6.here hx rfl (hb hby d4_28) rfl rfl k) ?_
    obtain ⟨T8, X8, e8, st8⟩ := getF X6 hx hZ hown (host := "") (Or.inl (own_w hw 12 rfl)) Via.refl e6 F_positions_a1 (g := (mkF m 29 #[.val (.ref a1), .val (.long q1), .second] [(.ref a1), (.int (3 : Int32)), (.ref a1)])) rfl rfl (hb hby d4_29)
    refine OGo.via st8 ?_
    show OGo _ _ _ _ (T8.setTop (mkF m 32 #[.val (.ref a1), .val (.long q1), .second] [(.ref pa), (.int (3 : Int32)), (.ref a1)]))
    obtain ⟨cl9, Ar9, q9, Sz9, Ng9, Hs9, Gf9⟩ := id V_pa
    refine OGo.via (X8.arraylength hx (by rw [e8]; exact Ar9.1) (State.isArrayOf_alike hZ.alike Ar9.2.1) (g := (mkF m 32 #[.val (.ref a1), .val (.long q1), .second] [(.ref pa), (.int (3 : Int32)), (.ref a1)])) rfl rfl (hb hby d4_32)) ?_
    rw [len_of Sz9 Ng9]
    show OGo _ _ _ _ (T8.setTop (mkF m 33 #[.val (.ref a1), .val (.long q1), .second] [(.int (4 : Int32)), (.int (3 : Int32)), (.ref a1)]))
    refine OGo.via (fun _ k => XS.iconst X8.here hx rfl (hb hby d4_33) (XS.isub X8.here hx rfl (hb hby d4_34) rfl k)) ?_
    show OGo _ _ _ _ (T8.setTop (mkF m 35 #[.val (.ref a1), .val (.long q1), .second] [(.int ((4 : Int32) - (1 : Int32))), (.int (3 : Int32)), (.ref a1)]))
    rw [show ((4 : Int32) - (1 : Int32)) = (3 : Int32) from by decide]
    refine OGo.via (fun _ k => XS.iand X8.here hx rfl (hb hby d4_35) rfl k) ?_
    show OGo _ _ _ _ (T8.setTop (mkF m 36 #[.val (.ref a1), .val (.long q1), .second] [(.int ((3 : Int32) &&& (3 : Int32))), (.ref a1)]))
    rw [show ((3 : Int32) &&& (3 : Int32)) = (3 : Int32) from by decide]
    obtain ⟨T12, h12, X12, e12, W12, st12⟩ := putF X8 hx hZ hown (host := "") (Or.inl (own_w hw 30 rfl)) Via.refl e8 F_first_a1 E_a1 (Or.inl (own_w hw 31 rfl)) (own_w hw 2 rfl) (ty := .int) (by decide) rfl rfl (g := (mkF m 36 #[.val (.ref a1), .val (.long q1), .second] [(.int (3 : Int32)), (.ref a1)])) rfl rfl (hb hby d4_36)
    refine OGo.via st12 ?_
    have Fw12 := F_first_a1.same W12
    have K12 : Keep h0 h12 [a1] := (Keep.refl h0 [a1]).wr W12 (Or.inl (List.mem_of_getElem? (i := 0) rfl))
    have N12 := Fr.snoc X12 N0 g_a1
    show OGo _ _ _ _ (T12.setTop (mkF m 39 #[.val (.ref a1), .val (.long q1), .second] []))
    refine OGo.via (fun _ k => XS.aloadN X12.here hx rfl (hb hby d4_39) rfl rfl (XS.dup X12.here hx rfl (hb hby d4_40) rfl rfl k)) ?_
    have f14 := F_count_a1.other W12 (Or.inr (slot_ne (Or.inl (own_w hw 28 rfl)) (Or.inl (own_w hw 31 rfl)) (by decide) (t := .int) (t' := .int) (by decide) (by decide)))
    obtain ⟨T13, X13, e13, st13⟩ := getF X12 hx hZ hown (host := "") (Or.inl (own_w hw 27 rfl)) Via.refl e12 f14 (g := (mkF m 41 #[.val (.ref a1), .val (.long q1), .second] [(.ref a1), (.ref a1)])) rfl rfl (hb hby d4_41)
    refine OGo.via st13 ?_
    show OGo _ _ _ _ (T13.setTop (mkF m 44 #[.val (.ref a1), .val (.long q1), .second] [(.int (3 : Int32)), (.ref a1)]))
    refine OGo.via (fun _ k => XS.iconst X13.here hx rfl (hb hby d4_44) (XS.isub X13.here hx rfl (hb hby d4_45) rfl k)) ?_
    show OGo _ _ _ _ (T13.setTop (mkF m 46 #[.val (.ref a1), .val (.long q1), .second] [(.int ((3 : Int32) - (1 : Int32))), (.ref a1)]))
    rw [show ((3 : Int32) - (1 : Int32)) = (2 : Int32) from by decide]
    have f17 := E_a1.wr W12
    obtain ⟨T16, h16, X16, e16, W16, st16⟩ := putF X13 hx hZ hown (host := "") (Or.inl (own_w hw 27 rfl)) Via.refl e13 f14 f17 (Or.inl (own_w hw 28 rfl)) (own_w hw 2 rfl) (ty := .int) (by decide) rfl rfl (g := (mkF m 46 #[.val (.ref a1), .val (.long q1), .second] [(.int (2 : Int32)), (.ref a1)])) rfl rfl (hb hby d4_46)
    refine OGo.via st16 ?_
    have Fw16 := f14.same W16
    have K16 : Keep h0 h16 [a1] := K12.wr W16 (Or.inl (List.mem_of_getElem? (i := 0) rfl))
    have N16 := Fr.snoc X16 N12 g_a1
    show OGo _ _ _ _ (T16.setTop (mkF m 49 #[.val (.ref a1), .val (.long q1), .second] []))
    refine OGo.via (fun _ k => XS.goto X16.here hx rfl (pc0 := 49) (pc' := 0) rfl (hb hby d4_49) (by decide) (by decide) (XS.aloadN X16.here hx rfl (hb hby d4_0) rfl rfl k)) ?_
    obtain ⟨T18, X18, e18, st18⟩ := getF X16 hx hZ hown (host := "") (Or.inl (own_w hw 27 rfl)) Via.refl e16 Fw16 (g := (mkF m 1 #[.val (.ref a1), .val (.long q1), .second] [(.ref a1)])) rfl rfl (hb hby d4_1)
    refine OGo.via st18 ?_
    show OGo _ _ _ _ (T18.setTop (mkF m 4 #[.val (.ref a1), .val (.long q1), .second] [(.int (2 : Int32))]))
    refine OGo.via (fun _ k => XS.ifNo X18.here hx rfl (hb hby d4_4) rfl ((if0 _ _).trans (tlt (by decide : (0 : Int32) < (2 : Int32))).2.2.2) k) ?_
    show OGo _ _ _ _ (T18.setTop (mkF m 7 #[.val (.ref a1), .val (.long q1), .second] []))
    refine OGo.via (fun _ k => XS.aloadN X18.here hx rfl (hb hby d4_7) rfl rfl k) ?_
    have f20 := F_times_a1.other W12 (Or.inr (slot_ne (Or.inl (own_w hw 15 rfl)) (Or.inl (own_w hw 31 rfl)) (by decide) (t := (.array .long)) (t' := .int) (by decide) (by decide)))
    have f21 := f20.other W16 (Or.inr (slot_ne (Or.inl (own_w hw 15 rfl)) (Or.inl (own_w hw 28 rfl)) (by decide) (t := (.array .long)) (t' := .int) (by decide) (by decide)))
    obtain ⟨T19, X19, e19, st19⟩ := getF X18 hx hZ hown (host := "") (Or.inl (own_w hw 14 rfl)) Via.refl e18 f21 (g := (mkF m 8 #[.val (.ref a1), .val (.long q1), .second] [(.ref a1)])) rfl rfl (hb hby d4_8)
    refine OGo.via st19 ?_
    show OGo _ _ _ _ (T19.setTop (mkF m 11 #[.val (.ref a1), .val (.long q1), .second] [(.ref ta)]))
    refine OGo.via (fun _ k => XS.aloadN X19.here hx rfl (hb hby d4_11) rfl rfl k) ?_
    have f23 := Fw12.other W16 (Or.inr (slot_ne (Or.inl (own_w hw 31 rfl)) (Or.inl (own_w hw 28 rfl)) (by decide) (t := .int) (t' := .int) (by decide) (by decide)))
    obtain ⟨T22, X22, e22, st22⟩ := getF X19 hx hZ hown (host := "") (Or.inl (own_w hw 30 rfl)) Via.refl e19 f23 (g := (mkF m 12 #[.val (.ref a1), .val (.long q1), .second] [(.ref a1), (.ref ta)])) rfl rfl (hb hby d4_12)
    refine OGo.via st22 ?_
    show OGo _ _ _ _ (T22.setTop (mkF m 15 #[.val (.ref a1), .val (.long q1), .second] [(.int (3 : Int32)), (.ref ta)]))
    have f25 := V_ta.keep K16 (ninS (Ne.symm ne_a1_ta) nin0)
    obtain ⟨cl24, Ar24, q24, Sz24, Ng24, Hs24, Gf24⟩ := id f25
    have hin24 : ¬ ((3 : Int32) < 0 ∨ cl24.slots.size ≤ ((3 : Int32)).toNatClampNeg) := inb_of Sz24 ⟨by decide, by decide⟩
    have hat24 : cl24.slots[((3 : Int32)).toNatClampNeg]? = some (.long t3) := Hs24.at hin24 rfl
    refine OGo.via (X22.laload hx (j := (3 : Int32)) (v := (.long t3)) (by rw [e22]; exact Ar24.1) (State.isArrayOf_alike hZ.alike Ar24.2.1) Ar24.2.2 hin24 hat24 (g := (mkF m 15 #[.val (.ref a1), .val (.long q1), .second] [(.int (3 : Int32)), (.ref ta)])) rfl rfl (hb hby d4_15)) ?_
    show OGo _ _ _ _ (T22.setTop (mkF m 16 #[.val (.ref a1), .val (.long q1), .second] [(.long t3)]))
    refine OGo.via (fun _ k => XS.lloadN X22.here hx rfl (hb hby d4_16) rfl (XS.lcmp X22.here hx rfl (hb hby d4_17) rfl k)) ?_
    by_cases hc18_26 : (lcmpW t3 q1) < (0 : Int32)
    · refine OGo.via (fun _ k => XS.ifNo X22.here hx rfl (hb hby d4_18) rfl ((if0 _ _).trans (tlt hc18_26).2.1) k) ?_
      show OGo _ _ _ _ (T22.setTop (mkF m 21 #[.val (.ref a1), .val (.long q1), .second] []))
      refine OGo.via (fun _ k => XS.aloadN X22.here hx rfl (hb hby d4_21) rfl rfl (XS.aloadN X22.here hx rfl (hb hby d4_22) rfl rfl k)) ?_
      obtain ⟨T27, X27, e27, st27⟩ := getF X22 hx hZ hown (host := "") (Or.inl (own_w hw 30 rfl)) Via.refl e22 f23 (g := (mkF m 23 #[.val (.ref a1), .val (.long q1), .second] [(.ref a1), (.ref a1)])) rfl rfl (hb hby d4_23)
      refine OGo.via st27 ?_
      show OGo _ _ _ _ (T27.setTop (mkF m 26 #[.val (.ref a1), .val (.long q1), .second] [(.int (3 : Int32)), (.ref a1)]))
      refine OGo.via (fun _ k => XS.iconst X27.here hx rfl (hb hby d4_26) (XS.iadd X27.here hx rfl (hb hby d4_27) rfl k)) ?_
      show OGo _ _ _ _ (T27.setTop (mkF m 28 #[.val (.ref a1), .val (.long q1), .second] [(.int ((3 : Int32) + (1 : Int32))), (.ref a1)]))
      rw [show ((3 : Int32) + (1 : Int32)) = (4 : Int32) from by decide]
      refine OGo.via (fun _ k => XS.aloadN X27.here hx rfl (hb hby d4_28) rfl rfl k) ?_
      have f30 := F_positions_a1.other W12 (Or.inr (slot_ne (Or.inl (own_w hw 13 rfl)) (Or.inl (own_w hw 31 rfl)) (by decide) (t := (.array .long)) (t' := .int) (by decide) (by decide)))
      have f31 := f30.other W16 (Or.inr (slot_ne (Or.inl (own_w hw 13 rfl)) (Or.inl (own_w hw 28 rfl)) (by decide) (t := (.array .long)) (t' := .int) (by decide) (by decide)))
      obtain ⟨T29, X29, e29, st29⟩ := getF X27 hx hZ hown (host := "") (Or.inl (own_w hw 12 rfl)) Via.refl e27 f31 (g := (mkF m 29 #[.val (.ref a1), .val (.long q1), .second] [(.ref a1), (.int (4 : Int32)), (.ref a1)])) rfl rfl (hb hby d4_29)
      refine OGo.via st29 ?_
      show OGo _ _ _ _ (T29.setTop (mkF m 32 #[.val (.ref a1), .val (.long q1), .second] [(.ref pa), (.int (4 : Int32)), (.ref a1)]))
      have f33 := V_pa.keep K16 (ninS (Ne.symm ne_a1_pa) nin0)
      obtain ⟨cl32, Ar32, q32, Sz32, Ng32, Hs32, Gf32⟩ := id f33
      refine OGo.via (X29.arraylength hx (by rw [e29]; exact Ar32.1) (State.isArrayOf_alike hZ.alike Ar32.2.1) (g := (mkF m 32 #[.val (.ref a1), .val (.long q1), .second] [(.ref pa), (.int (4 : Int32)), (.ref a1)])) rfl rfl (hb hby d4_32)) ?_
      rw [len_of Sz32 Ng32]
      show OGo _ _ _ _ (T29.setTop (mkF m 33 #[.val (.ref a1), .val (.long q1), .second] [(.int (4 : Int32)), (.int (4 : Int32)), (.ref a1)]))
      refine OGo.via (fun _ k => XS.iconst X29.here hx rfl (hb hby d4_33) (XS.isub X29.here hx rfl (hb hby d4_34) rfl k)) ?_
      show OGo _ _ _ _ (T29.setTop (mkF m 35 #[.val (.ref a1), .val (.long q1), .second] [(.int ((4 : Int32) - (1 : Int32))), (.int (4 : Int32)), (.ref a1)]))
      rw [show ((4 : Int32) - (1 : Int32)) = (3 : Int32) from by decide]
      refine OGo.via (fun _ k => XS.iand X29.here hx rfl (hb hby d4_35) rfl k) ?_
      show OGo _ _ _ _ (T29.setTop (mkF m 36 #[.val (.ref a1), .val (.long q1), .second] [(.int ((4 : Int32) &&& (3 : Int32))), (.ref a1)]))
      rw [show ((4 : Int32) &&& (3 : Int32)) = (0 : Int32) from by decide]
      have f37 := f17.wr W16
      obtain ⟨T36, h36, X36, e36, W36, st36⟩ := putF X29 hx hZ hown (host := "") (Or.inl (own_w hw 30 rfl)) Via.refl e29 f23 f37 (Or.inl (own_w hw 31 rfl)) (own_w hw 2 rfl) (ty := .int) (by decide) rfl rfl (g := (mkF m 36 #[.val (.ref a1), .val (.long q1), .second] [(.int (0 : Int32)), (.ref a1)])) rfl rfl (hb hby d4_36)
      refine OGo.via st36 ?_
      have Fw36 := f23.same W36
      have K36 : Keep h0 h36 [a1] := K16.wr W36 (Or.inl (List.mem_of_getElem? (i := 0) rfl))
      have N36 := Fr.snoc X36 N16 g_a1
      show OGo _ _ _ _ (T36.setTop (mkF m 39 #[.val (.ref a1), .val (.long q1), .second] []))
      refine OGo.via (fun _ k => XS.aloadN X36.here hx rfl (hb hby d4_39) rfl rfl (XS.dup X36.here hx rfl (hb hby d4_40) rfl rfl k)) ?_
      have f39 := Fw16.other W36 (Or.inr (slot_ne (Or.inl (own_w hw 28 rfl)) (Or.inl (own_w hw 31 rfl)) (by decide) (t := .int) (t' := .int) (by decide) (by decide)))
      obtain ⟨T38, X38, e38, st38⟩ := getF X36 hx hZ hown (host := "") (Or.inl (own_w hw 27 rfl)) Via.refl e36 f39 (g := (mkF m 41 #[.val (.ref a1), .val (.long q1), .second] [(.ref a1), (.ref a1)])) rfl rfl (hb hby d4_41)
      refine OGo.via st38 ?_
      show OGo _ _ _ _ (T38.setTop (mkF m 44 #[.val (.ref a1), .val (.long q1), .second] [(.int (2 : Int32)), (.ref a1)]))
      refine OGo.via (fun _ k => XS.iconst X38.here hx rfl (hb hby d4_44) (XS.isub X38.here hx rfl (hb hby d4_45) rfl k)) ?_
      show OGo _ _ _ _ (T38.setTop (mkF m 46 #[.val (.ref a1), .val (.long q1), .second] [(.int ((2 : Int32) - (1 : Int32))), (.ref a1)]))
      rw [show ((2 : Int32) - (1 : Int32)) = (1 : Int32) from by decide]
      have f42 := f37.wr W36
      obtain ⟨T41, h41, X41, e41, W41, st41⟩ := putF X38 hx hZ hown (host := "") (Or.inl (own_w hw 27 rfl)) Via.refl e38 f39 f42 (Or.inl (own_w hw 28 rfl)) (own_w hw 2 rfl) (ty := .int) (by decide) rfl rfl (g := (mkF m 46 #[.val (.ref a1), .val (.long q1), .second] [(.int (1 : Int32)), (.ref a1)])) rfl rfl (hb hby d4_46)
      refine OGo.via st41 ?_
      have Fw41 := f39.same W41
      have K41 : Keep h0 h41 [a1] := K36.wr W41 (Or.inl (List.mem_of_getElem? (i := 0) rfl))
      have N41 := Fr.snoc X41 N36 g_a1
      show OGo _ _ _ _ (T41.setTop (mkF m 49 #[.val (.ref a1), .val (.long q1), .second] []))
      refine OGo.via (fun _ k => XS.goto X41.here hx rfl (pc0 := 49) (pc' := 0) rfl (hb hby d4_49) (by decide) (by decide) (XS.aloadN X41.here hx rfl (hb hby d4_0) rfl rfl k)) ?_
      obtain ⟨T43, X43, e43, st43⟩ := getF X41 hx hZ hown (host := "") (Or.inl (own_w hw 27 rfl)) Via.refl e41 Fw41 (g := (mkF m 1 #[.val (.ref a1), .val (.long q1), .second] [(.ref a1)])) rfl rfl (hb hby d4_1)
      refine OGo.via st43 ?_
      show OGo _ _ _ _ (T43.setTop (mkF m 4 #[.val (.ref a1), .val (.long q1), .second] [(.int (1 : Int32))]))
      refine OGo.via (fun _ k => XS.ifNo X43.here hx rfl (hb hby d4_4) rfl ((if0 _ _).trans (tlt (by decide : (0 : Int32) < (1 : Int32))).2.2.2) k) ?_
      show OGo _ _ _ _ (T43.setTop (mkF m 7 #[.val (.ref a1), .val (.long q1), .second] []))
      refine OGo.via (fun _ k => XS.aloadN X43.here hx rfl (hb hby d4_7) rfl rfl k) ?_
      have f45 := f21.other W36 (Or.inr (slot_ne (Or.inl (own_w hw 15 rfl)) (Or.inl (own_w hw 31 rfl)) (by decide) (t := (.array .long)) (t' := .int) (by decide) (by decide)))
      have f46 := f45.other W41 (Or.inr (slot_ne (Or.inl (own_w hw 15 rfl)) (Or.inl (own_w hw 28 rfl)) (by decide) (t := (.array .long)) (t' := .int) (by decide) (by decide)))
      obtain ⟨T44, X44, e44, st44⟩ := getF X43 hx hZ hown (host := "") (Or.inl (own_w hw 14 rfl)) Via.refl e43 f46 (g := (mkF m 8 #[.val (.ref a1), .val (.long q1), .second] [(.ref a1)])) rfl rfl (hb hby d4_8)
      refine OGo.via st44 ?_
      show OGo _ _ _ _ (T44.setTop (mkF m 11 #[.val (.ref a1), .val (.long q1), .second] [(.ref ta)]))
      refine OGo.via (fun _ k => XS.aloadN X44.here hx rfl (hb hby d4_11) rfl rfl k) ?_
      have f48 := Fw36.other W41 (Or.inr (slot_ne (Or.inl (own_w hw 31 rfl)) (Or.inl (own_w hw 28 rfl)) (by decide) (t := .int) (t' := .int) (by decide) (by decide)))
      obtain ⟨T47, X47, e47, st47⟩ := getF X44 hx hZ hown (host := "") (Or.inl (own_w hw 30 rfl)) Via.refl e44 f48 (g := (mkF m 12 #[.val (.ref a1), .val (.long q1), .second] [(.ref a1), (.ref ta)])) rfl rfl (hb hby d4_12)
      refine OGo.via st47 ?_
      show OGo _ _ _ _ (T47.setTop (mkF m 15 #[.val (.ref a1), .val (.long q1), .second] [(.int (0 : Int32)), (.ref ta)]))
      have f50 := f25.other W36 (Ne.symm ne_a1_ta)
      have f51 := f50.other W41 (Ne.symm ne_a1_ta)
      obtain ⟨cl49, Ar49, q49, Sz49, Ng49, Hs49, Gf49⟩ := id f51
      have hin49 : ¬ ((0 : Int32) < 0 ∨ cl49.slots.size ≤ ((0 : Int32)).toNatClampNeg) := inb_of Sz49 ⟨by decide, by decide⟩
      have hat49 : cl49.slots[((0 : Int32)).toNatClampNeg]? = some (.long t4) := Hs49.at hin49 rfl
      refine OGo.via (X47.laload hx (j := (0 : Int32)) (v := (.long t4)) (by rw [e47]; exact Ar49.1) (State.isArrayOf_alike hZ.alike Ar49.2.1) Ar49.2.2 hin49 hat49 (g := (mkF m 15 #[.val (.ref a1), .val (.long q1), .second] [(.int (0 : Int32)), (.ref ta)])) rfl rfl (hb hby d4_15)) ?_
      show OGo _ _ _ _ (T47.setTop (mkF m 16 #[.val (.ref a1), .val (.long q1), .second] [(.long t4)]))
      refine OGo.via (fun _ k => XS.lloadN X47.here hx rfl (hb hby d4_16) rfl (XS.lcmp X47.here hx rfl (hb hby d4_17) rfl k)) ?_
      by_cases hc18_52 : (lcmpW t4 q1) < (0 : Int32)
      · refine OGo.via (fun _ k => XS.ifNo X47.here hx rfl (hb hby d4_18) rfl ((if0 _ _).trans (tlt hc18_52).2.1) k) ?_
        show OGo _ _ _ _ (T47.setTop (mkF m 21 #[.val (.ref a1), .val (.long q1), .second] []))
        refine OGo.via (fun _ k => XS.aloadN X47.here hx rfl (hb hby d4_21) rfl rfl (XS.aloadN X47.here hx rfl (hb hby d4_22) rfl rfl k)) ?_
        obtain ⟨T53, X53, e53, st53⟩ := getF X47 hx hZ hown (host := "") (Or.inl (own_w hw 30 rfl)) Via.refl e47 f48 (g := (mkF m 23 #[.val (.ref a1), .val (.long q1), .second] [(.ref a1), (.ref a1)])) rfl rfl (hb hby d4_23)
        refine OGo.via st53 ?_
        show OGo _ _ _ _ (T53.setTop (mkF m 26 #[.val (.ref a1), .val (.long q1), .second] [(.int (0 : Int32)), (.ref a1)]))
        refine OGo.via (fun _ k => XS.iconst X53.here hx rfl (hb hby d4_26) (XS.iadd X53.here hx rfl (hb hby d4_27) rfl k)) ?_
        show OGo _ _ _ _ (T53.setTop (mkF m 28 #[.val (.ref a1), .val (.long q1), .second] [(.int ((0 : Int32) + (1 : Int32))), (.ref a1)]))
        rw [show ((0 : Int32) + (1 : Int32)) = (1 : Int32) from by decide]
        refine OGo.via (fun _ k => XS.aloadN X53.here hx rfl (hb hby d4_28) rfl rfl k) ?_
        have f56 := f31.other W36 (Or.inr (slot_ne (Or.inl (own_w hw 13 rfl)) (Or.inl (own_w hw 31 rfl)) (by decide) (t := (.array .long)) (t' := .int) (by decide) (by decide)))
        have f57 := f56.other W41 (Or.inr (slot_ne (Or.inl (own_w hw 13 rfl)) (Or.inl (own_w hw 28 rfl)) (by decide) (t := (.array .long)) (t' := .int) (by decide) (by decide)))
        obtain ⟨T55, X55, e55, st55⟩ := getF X53 hx hZ hown (host := "") (Or.inl (own_w hw 12 rfl)) Via.refl e53 f57 (g := (mkF m 29 #[.val (.ref a1), .val (.long q1), .second] [(.ref a1), (.int (1 : Int32)), (.ref a1)])) rfl rfl (hb hby d4_29)
        refine OGo.via st55 ?_
        show OGo _ _ _ _ (T55.setTop (mkF m 32 #[.val (.ref a1), .val (.long q1), .second] [(.ref pa), (.int (1 : Int32)), (.ref a1)]))
        have f59 := f33.other W36 (Ne.symm ne_a1_pa)
        have f60 := f59.other W41 (Ne.symm ne_a1_pa)
        obtain ⟨cl58, Ar58, q58, Sz58, Ng58, Hs58, Gf58⟩ := id f60
        refine OGo.via (X55.arraylength hx (by rw [e55]; exact Ar58.1) (State.isArrayOf_alike hZ.alike Ar58.2.1) (g := (mkF m 32 #[.val (.ref a1), .val (.long q1), .second] [(.ref pa), (.int (1 : Int32)), (.ref a1)])) rfl rfl (hb hby d4_32)) ?_
        rw [len_of Sz58 Ng58]
        show OGo _ _ _ _ (T55.setTop (mkF m 33 #[.val (.ref a1), .val (.long q1), .second] [(.int (4 : Int32)), (.int (1 : Int32)), (.ref a1)]))
        refine OGo.via (fun _ k => XS.iconst X55.here hx rfl (hb hby d4_33) (XS.isub X55.here hx rfl (hb hby d4_34) rfl k)) ?_
        show OGo _ _ _ _ (T55.setTop (mkF m 35 #[.val (.ref a1), .val (.long q1), .second] [(.int ((4 : Int32) - (1 : Int32))), (.int (1 : Int32)), (.ref a1)]))
        rw [show ((4 : Int32) - (1 : Int32)) = (3 : Int32) from by decide]
        refine OGo.via (fun _ k => XS.iand X55.here hx rfl (hb hby d4_35) rfl k) ?_
        show OGo _ _ _ _ (T55.setTop (mkF m 36 #[.val (.ref a1), .val (.long q1), .second] [(.int ((1 : Int32) &&& (3 : Int32))), (.ref a1)]))
        rw [show ((1 : Int32) &&& (3 : Int32)) = (1 : Int32) from by decide]
        have f64 := f42.wr W41
        obtain ⟨T63, h63, X63, e63, W63, st63⟩ := putF X55 hx hZ hown (host := "") (Or.inl (own_w hw 30 rfl)) Via.refl e55 f48 f64 (Or.inl (own_w hw 31 rfl)) (own_w hw 2 rfl) (ty := .int) (by decide) rfl rfl (g := (mkF m 36 #[.val (.ref a1), .val (.long q1), .second] [(.int (1 : Int32)), (.ref a1)])) rfl rfl (hb hby d4_36)
        refine OGo.via st63 ?_
        have Fw63 := f48.same W63
        have K63 : Keep h0 h63 [a1] := K41.wr W63 (Or.inl (List.mem_of_getElem? (i := 0) rfl))
        have N63 := Fr.snoc X63 N41 g_a1
        show OGo _ _ _ _ (T63.setTop (mkF m 39 #[.val (.ref a1), .val (.long q1), .second] []))
        refine OGo.via (fun _ k => XS.aloadN X63.here hx rfl (hb hby d4_39) rfl rfl (XS.dup X63.here hx rfl (hb hby d4_40) rfl rfl k)) ?_
        have f66 := Fw41.other W63 (Or.inr (slot_ne (Or.inl (own_w hw 28 rfl)) (Or.inl (own_w hw 31 rfl)) (by decide) (t := .int) (t' := .int) (by decide) (by decide)))
        obtain ⟨T65, X65, e65, st65⟩ := getF X63 hx hZ hown (host := "") (Or.inl (own_w hw 27 rfl)) Via.refl e63 f66 (g := (mkF m 41 #[.val (.ref a1), .val (.long q1), .second] [(.ref a1), (.ref a1)])) rfl rfl (hb hby d4_41)
        refine OGo.via st65 ?_
        show OGo _ _ _ _ (T65.setTop (mkF m 44 #[.val (.ref a1), .val (.long q1), .second] [(.int (1 : Int32)), (.ref a1)]))
        refine OGo.via (fun _ k => XS.iconst X65.here hx rfl (hb hby d4_44) (XS.isub X65.here hx rfl (hb hby d4_45) rfl k)) ?_
        show OGo _ _ _ _ (T65.setTop (mkF m 46 #[.val (.ref a1), .val (.long q1), .second] [(.int ((1 : Int32) - (1 : Int32))), (.ref a1)]))
        rw [show ((1 : Int32) - (1 : Int32)) = (0 : Int32) from by decide]
        have f69 := f64.wr W63
        obtain ⟨T68, h68, X68, e68, W68, st68⟩ := putF X65 hx hZ hown (host := "") (Or.inl (own_w hw 27 rfl)) Via.refl e65 f66 f69 (Or.inl (own_w hw 28 rfl)) (own_w hw 2 rfl) (ty := .int) (by decide) rfl rfl (g := (mkF m 46 #[.val (.ref a1), .val (.long q1), .second] [(.int (0 : Int32)), (.ref a1)])) rfl rfl (hb hby d4_46)
        refine OGo.via st68 ?_
        have Fw68 := f66.same W68
        have K68 : Keep h0 h68 [a1] := K63.wr W68 (Or.inl (List.mem_of_getElem? (i := 0) rfl))
        have N68 := Fr.snoc X68 N63 g_a1
        show OGo _ _ _ _ (T68.setTop (mkF m 49 #[.val (.ref a1), .val (.long q1), .second] []))
        refine OGo.via (fun _ k => XS.goto X68.here hx rfl (pc0 := 49) (pc' := 0) rfl (hb hby d4_49) (by decide) (by decide) (XS.aloadN X68.here hx rfl (hb hby d4_0) rfl rfl k)) ?_
        obtain ⟨T70, X70, e70, st70⟩ := getF X68 hx hZ hown (host := "") (Or.inl (own_w hw 27 rfl)) Via.refl e68 Fw68 (g := (mkF m 1 #[.val (.ref a1), .val (.long q1), .second] [(.ref a1)])) rfl rfl (hb hby d4_1)
        refine OGo.via st70 ?_
        show OGo _ _ _ _ (T70.setTop (mkF m 4 #[.val (.ref a1), .val (.long q1), .second] [(.int (0 : Int32))]))
        refine OGo.via (fun _ k => XS.ifYes X70.here hx rfl (pc0 := 4) (pc' := 52) rfl (hb hby d4_4) rfl ((if0 _ _).trans (flt (by decide : ¬ ((0 : Int32) < (0 : Int32)))).2.2.2) (by decide) (by decide) k) ?_
        show OGo _ _ _ _ (T70.setTop (mkF m 52 #[.val (.ref a1), .val (.long q1), .second] []))
        refine OGo.via (fun _ k => XS.aloadN X70.here hx rfl (hb hby d4_52) rfl rfl k) ?_
        obtain ⟨T71, X71, e71, st71⟩ := getF X70 hx hZ hown (host := "") (Or.inl (own_w hw 27 rfl)) Via.refl e70 Fw68 (g := (mkF m 53 #[.val (.ref a1), .val (.long q1), .second] [(.ref a1)])) rfl rfl (hb hby d4_53)
        refine OGo.via st71 ?_
        show OGo _ _ _ _ (T71.setTop (mkF m 56 #[.val (.ref a1), .val (.long q1), .second] [(.int (0 : Int32))]))
        refine OGo.via (fun _ k => XS.ifNo X71.here hx rfl (hb hby d4_56) rfl ((if0 _ _).trans (teq (by decide : (0 : Int32) = (0 : Int32))).2) k) ?_
        show OGo _ _ _ _ (T71.setTop (mkF m 59 #[.val (.ref a1), .val (.long q1), .second] []))
        refine OGo.via (X71.ldc2Long hx hown (mvT hZ (own_w hw 29 rfl)) (g := (mkF m 59 #[.val (.ref a1), .val (.long q1), .second] [])) rfl (hb hby d4_59)) ?_
        show OGo _ _ _ _ (T71.setTop (mkF m 62 #[.val (.ref a1), .val (.long q1), .second] [(.long (9223372036854775807 : Int64))]))
        refine OGo.via (fun _ k => XS.goto X71.here hx rfl (pc0 := 62) (pc' := 74) rfl (hb hby d4_62) (by decide) (by decide) k) ?_
        show OGo _ _ _ _ (T71.setTop (mkF m 74 #[.val (.ref a1), .val (.long q1), .second] [(.long (9223372036854775807 : Int64))]))
        have hD : (own_adv (own_adv (own_adv (own_adv (own_adv (2 : Int32) (5 : Int32) t0 t1 t2 t3 t4 q1) (5 : Int32) t0 t1 t2 t3 t4 q1) (5 : Int32) t0 t1 t2 t3 t4 q1) (5 : Int32) t0 t1 t2 t3 t4 q1) (5 : Int32) t0 t1 t2 t3 t4 q1) = (5 : Int32) := by rw [own_adv_y (k := (2 : Int32)) (k' := (3 : Int32)) (by decide) (by decide) (by rw [own_t2]; exact hc18_5), own_adv_y (k := (3 : Int32)) (k' := (4 : Int32)) (by decide) (by decide) (by rw [own_t3]; exact hc18_26), own_adv_y (k := (4 : Int32)) (k' := (5 : Int32)) (by decide) (by decide) (by rw [own_t4]; exact hc18_52), own_adv_o (k := (5 : Int32)) (by decide), own_adv_o (k := (5 : Int32)) (by decide)]
        have f72 := f69.wr W68
        refine own_retL X71 hx Bd.notSynchronized Bd.returns (hb hby d4_74) (by decide) (by decide) ?_
        show Q_rm4b2 Z _ _ _ _ _ _ _ _ _ _ _ _ _ h0 n0 _ T71.heap _
        rw [e71]
        exact ⟨(by rw [hD, own_xy rfl]), N68, K68, f72, (by rw [hD]; exact Fw68)⟩
      · refine OGo.via (fun _ k => XS.ifYes X47.here hx rfl (pc0 := 18) (pc' := 52) rfl (hb hby d4_18) rfl ((if0 _ _).trans (flt hc18_52).2.1) (by decide) (by decide) k) ?_
        show OGo _ _ _ _ (T47.setTop (mkF m 52 #[.val (.ref a1), .val (.long q1), .second] []))
        refine OGo.via (fun _ k => XS.aloadN X47.here hx rfl (hb hby d4_52) rfl rfl k) ?_
        obtain ⟨T73, X73, e73, st73⟩ := getF X47 hx hZ hown (host := "") (Or.inl (own_w hw 27 rfl)) Via.refl e47 Fw41 (g := (mkF m 53 #[.val (.ref a1), .val (.long q1), .second] [(.ref a1)])) rfl rfl (hb hby d4_53)
        refine OGo.via st73 ?_
        show OGo _ _ _ _ (T73.setTop (mkF m 56 #[.val (.ref a1), .val (.long q1), .second] [(.int (1 : Int32))]))
        refine OGo.via (fun _ k => XS.ifYes X73.here hx rfl (pc0 := 56) (pc' := 65) rfl (hb hby d4_56) rfl ((if0 _ _).trans (feq (by decide : ¬ ((1 : Int32) = (0 : Int32)))).2) (by decide) (by decide) k) ?_
        show OGo _ _ _ _ (T73.setTop (mkF m 65 #[.val (.ref a1), .val (.long q1), .second] []))
        refine OGo.via (fun _ k => XS.aloadN X73.here hx rfl (hb hby d4_65) rfl rfl k) ?_
        have f75 := f31.other W36 (Or.inr (slot_ne (Or.inl (own_w hw 13 rfl)) (Or.inl (own_w hw 31 rfl)) (by decide) (t := (.array .long)) (t' := .int) (by decide) (by decide)))
        have f76 := f75.other W41 (Or.inr (slot_ne (Or.inl (own_w hw 13 rfl)) (Or.inl (own_w hw 28 rfl)) (by decide) (t := (.array .long)) (t' := .int) (by decide) (by decide)))
        obtain ⟨T74, X74, e74, st74⟩ := getF X73 hx hZ hown (host := "") (Or.inl (own_w hw 12 rfl)) Via.refl e73 f76 (g := (mkF m 66 #[.val (.ref a1), .val (.long q1), .second] [(.ref a1)])) rfl rfl (hb hby d4_66)
        refine OGo.via st74 ?_
        show OGo _ _ _ _ (T74.setTop (mkF m 69 #[.val (.ref a1), .val (.long q1), .second] [(.ref pa)]))
        refine OGo.via (fun _ k => XS.aloadN X74.here hx rfl (hb hby d4_69) rfl rfl k) ?_
        obtain ⟨T77, X77, e77, st77⟩ := getF X74 hx hZ hown (host := "") (Or.inl (own_w hw 30 rfl)) Via.refl e74 f48 (g := (mkF m 70 #[.val (.ref a1), .val (.long q1), .second] [(.ref a1), (.ref pa)])) rfl rfl (hb hby d4_70)
        refine OGo.via st77 ?_
        show OGo _ _ _ _ (T77.setTop (mkF m 73 #[.val (.ref a1), .val (.long q1), .second] [(.int (0 : Int32)), (.ref pa)]))
        have f79 := f33.other W36 (Ne.symm ne_a1_pa)
        have f80 := f79.other W41 (Ne.symm ne_a1_pa)
        obtain ⟨cl78, Ar78, q78, Sz78, Ng78, Hs78, Gf78⟩ := id f80
        have hin78 : ¬ ((0 : Int32) < 0 ∨ cl78.slots.size ≤ ((0 : Int32)).toNatClampNeg) := inb_of Sz78 ⟨by decide, by decide⟩
        have hat78 : cl78.slots[((0 : Int32)).toNatClampNeg]? = some (.long (pz + (4 : Int64))) := Hs78.at hin78 rfl
        refine OGo.via (X77.laload hx (j := (0 : Int32)) (v := (.long (pz + (4 : Int64)))) (by rw [e77]; exact Ar78.1) (State.isArrayOf_alike hZ.alike Ar78.2.1) Ar78.2.2 hin78 hat78 (g := (mkF m 73 #[.val (.ref a1), .val (.long q1), .second] [(.int (0 : Int32)), (.ref pa)])) rfl rfl (hb hby d4_73)) ?_
        show OGo _ _ _ _ (T77.setTop (mkF m 74 #[.val (.ref a1), .val (.long q1), .second] [(.long (pz + (4 : Int64)))]))
        show OGo _ _ _ _ (T77.setTop (mkF m 74 #[.val (.ref a1), .val (.long q1), .second] [(.long (pz + (4 : Int64)))]))
        have hD : (own_adv (own_adv (own_adv (own_adv (own_adv (2 : Int32) (5 : Int32) t0 t1 t2 t3 t4 q1) (5 : Int32) t0 t1 t2 t3 t4 q1) (5 : Int32) t0 t1 t2 t3 t4 q1) (5 : Int32) t0 t1 t2 t3 t4 q1) (5 : Int32) t0 t1 t2 t3 t4 q1) = (4 : Int32) := by rw [own_adv_y (k := (2 : Int32)) (k' := (3 : Int32)) (by decide) (by decide) (by rw [own_t2]; exact hc18_5), own_adv_y (k := (3 : Int32)) (k' := (4 : Int32)) (by decide) (by decide) (by rw [own_t3]; exact hc18_26), own_adv_n (k := (4 : Int32)) (by rw [own_t4]; exact hc18_52), own_adv_n (k := (4 : Int32)) (by rw [own_t4]; exact hc18_52), own_adv_n (k := (4 : Int32)) (by rw [own_t4]; exact hc18_52)]
        have f81 := f42.wr W41
        refine own_retL X77 hx Bd.notSynchronized Bd.returns (hb hby d4_74) (by decide) (by decide) ?_
        show Q_rm4b2 Z _ _ _ _ _ _ _ _ _ _ _ _ _ h0 n0 _ T77.heap _
        rw [e77]
        exact ⟨(by rw [hD, own_xn (by decide)]; rfl), N41, K41, f81, (by rw [hD]; exact Fw41)⟩
    · refine OGo.via (fun _ k => XS.ifYes X22.here hx rfl (pc0 := 18) (pc' := 52) rfl (hb hby d4_18) rfl ((if0 _ _).trans (flt hc18_26).2.1) (by decide) (by decide) k) ?_
      show OGo _ _ _ _ (T22.setTop (mkF m 52 #[.val (.ref a1), .val (.long q1), .second] []))
      refine OGo.via (fun _ k => XS.aloadN X22.here hx rfl (hb hby d4_52) rfl rfl k) ?_
      obtain ⟨T82, X82, e82, st82⟩ := getF X22 hx hZ hown (host := "") (Or.inl (own_w hw 27 rfl)) Via.refl e22 Fw16 (g := (mkF m 53 #[.val (.ref a1), .val (.long q1), .second] [(.ref a1)])) rfl rfl (hb hby d4_53)
      refine OGo.via st82 ?_
      show OGo _ _ _ _ (T82.setTop (mkF m 56 #[.val (.ref a1), .val (.long q1), .second] [(.int (2 : Int32))]))
      refine OGo.via (fun _ k => XS.ifYes X82.here hx rfl (pc0 := 56) (pc' := 65) rfl (hb hby d4_56) rfl ((if0 _ _).trans (feq (by decide : ¬ ((2 : Int32) = (0 : Int32)))).2) (by decide) (by decide) k) ?_
      show OGo _ _ _ _ (T82.setTop (mkF m 65 #[.val (.ref a1), .val (.long q1), .second] []))
      refine OGo.via (fun _ k => XS.aloadN X82.here hx rfl (hb hby d4_65) rfl rfl k) ?_
      have f84 := F_positions_a1.other W12 (Or.inr (slot_ne (Or.inl (own_w hw 13 rfl)) (Or.inl (own_w hw 31 rfl)) (by decide) (t := (.array .long)) (t' := .int) (by decide) (by decide)))
      have f85 := f84.other W16 (Or.inr (slot_ne (Or.inl (own_w hw 13 rfl)) (Or.inl (own_w hw 28 rfl)) (by decide) (t := (.array .long)) (t' := .int) (by decide) (by decide)))
      obtain ⟨T83, X83, e83, st83⟩ := getF X82 hx hZ hown (host := "") (Or.inl (own_w hw 12 rfl)) Via.refl e82 f85 (g := (mkF m 66 #[.val (.ref a1), .val (.long q1), .second] [(.ref a1)])) rfl rfl (hb hby d4_66)
      refine OGo.via st83 ?_
      show OGo _ _ _ _ (T83.setTop (mkF m 69 #[.val (.ref a1), .val (.long q1), .second] [(.ref pa)]))
      refine OGo.via (fun _ k => XS.aloadN X83.here hx rfl (hb hby d4_69) rfl rfl k) ?_
      obtain ⟨T86, X86, e86, st86⟩ := getF X83 hx hZ hown (host := "") (Or.inl (own_w hw 30 rfl)) Via.refl e83 f23 (g := (mkF m 70 #[.val (.ref a1), .val (.long q1), .second] [(.ref a1), (.ref pa)])) rfl rfl (hb hby d4_70)
      refine OGo.via st86 ?_
      show OGo _ _ _ _ (T86.setTop (mkF m 73 #[.val (.ref a1), .val (.long q1), .second] [(.int (3 : Int32)), (.ref pa)]))
      have f88 := V_pa.keep K16 (ninS (Ne.symm ne_a1_pa) nin0)
      obtain ⟨cl87, Ar87, q87, Sz87, Ng87, Hs87, Gf87⟩ := id f88
      have hin87 : ¬ ((3 : Int32) < 0 ∨ cl87.slots.size ≤ ((3 : Int32)).toNatClampNeg) := inb_of Sz87 ⟨by decide, by decide⟩
      have hat87 : cl87.slots[((3 : Int32)).toNatClampNeg]? = some (.long (pz + (3 : Int64))) := Hs87.at hin87 rfl
      refine OGo.via (X86.laload hx (j := (3 : Int32)) (v := (.long (pz + (3 : Int64)))) (by rw [e86]; exact Ar87.1) (State.isArrayOf_alike hZ.alike Ar87.2.1) Ar87.2.2 hin87 hat87 (g := (mkF m 73 #[.val (.ref a1), .val (.long q1), .second] [(.int (3 : Int32)), (.ref pa)])) rfl rfl (hb hby d4_73)) ?_
      show OGo _ _ _ _ (T86.setTop (mkF m 74 #[.val (.ref a1), .val (.long q1), .second] [(.long (pz + (3 : Int64)))]))
      show OGo _ _ _ _ (T86.setTop (mkF m 74 #[.val (.ref a1), .val (.long q1), .second] [(.long (pz + (3 : Int64)))]))
      have hD : (own_adv (own_adv (own_adv (own_adv (own_adv (2 : Int32) (5 : Int32) t0 t1 t2 t3 t4 q1) (5 : Int32) t0 t1 t2 t3 t4 q1) (5 : Int32) t0 t1 t2 t3 t4 q1) (5 : Int32) t0 t1 t2 t3 t4 q1) (5 : Int32) t0 t1 t2 t3 t4 q1) = (3 : Int32) := by rw [own_adv_y (k := (2 : Int32)) (k' := (3 : Int32)) (by decide) (by decide) (by rw [own_t2]; exact hc18_5), own_adv_n (k := (3 : Int32)) (by rw [own_t3]; exact hc18_26), own_adv_n (k := (3 : Int32)) (by rw [own_t3]; exact hc18_26), own_adv_n (k := (3 : Int32)) (by rw [own_t3]; exact hc18_26), own_adv_n (k := (3 : Int32)) (by rw [own_t3]; exact hc18_26)]
      have f89 := f17.wr W16
      refine own_retL X86 hx Bd.notSynchronized Bd.returns (hb hby d4_74) (by decide) (by decide) ?_
      show Q_rm4b2 Z _ _ _ _ _ _ _ _ _ _ _ _ _ h0 n0 _ T86.heap _
      rw [e86]
      exact ⟨(by rw [hD, own_xn (by decide)]; rfl), N16, K16, f89, (by rw [hD]; exact Fw16)⟩
  · refine OGo.via (fun _ k => XS.ifYes X3.here hx rfl (pc0 := 18) (pc' := 52) rfl (hb hby d4_18) rfl ((if0 _ _).trans (flt hc18_5).2.1) (by decide) (by decide) k) ?_
    show OGo _ _ _ _ (T3.setTop (mkF m 52 #[.val (.ref a1), .val (.long q1), .second] []))
    refine OGo.via (fun _ k => XS.aloadN X3.here hx rfl (hb hby d4_52) rfl rfl k) ?_
    obtain ⟨T90, X90, e90, st90⟩ := getF X3 hx hZ hown (host := "") (Or.inl (own_w hw 27 rfl)) Via.refl e3 F_count_a1 (g := (mkF m 53 #[.val (.ref a1), .val (.long q1), .second] [(.ref a1)])) rfl rfl (hb hby d4_53)
    refine OGo.via st90 ?_
    show OGo _ _ _ _ (T90.setTop (mkF m 56 #[.val (.ref a1), .val (.long q1), .second] [(.int (3 : Int32))]))
    refine OGo.via (fun _ k => XS.ifYes X90.here hx rfl (pc0 := 56) (pc' := 65) rfl (hb hby d4_56) rfl ((if0 _ _).trans (feq (by decide : ¬ ((3 : Int32) = (0 : Int32)))).2) (by decide) (by decide) k) ?_
    show OGo _ _ _ _ (T90.setTop (mkF m 65 #[.val (.ref a1), .val (.long q1), .second] []))
    refine OGo.via (fun _ k => XS.aloadN X90.here hx rfl (hb hby d4_65) rfl rfl k) ?_
    obtain ⟨T91, X91, e91, st91⟩ := getF X90 hx hZ hown (host := "") (Or.inl (own_w hw 12 rfl)) Via.refl e90 F_positions_a1 (g := (mkF m 66 #[.val (.ref a1), .val (.long q1), .second] [(.ref a1)])) rfl rfl (hb hby d4_66)
    refine OGo.via st91 ?_
    show OGo _ _ _ _ (T91.setTop (mkF m 69 #[.val (.ref a1), .val (.long q1), .second] [(.ref pa)]))
    refine OGo.via (fun _ k => XS.aloadN X91.here hx rfl (hb hby d4_69) rfl rfl k) ?_
    obtain ⟨T92, X92, e92, st92⟩ := getF X91 hx hZ hown (host := "") (Or.inl (own_w hw 30 rfl)) Via.refl e91 F_first_a1 (g := (mkF m 70 #[.val (.ref a1), .val (.long q1), .second] [(.ref a1), (.ref pa)])) rfl rfl (hb hby d4_70)
    refine OGo.via st92 ?_
    show OGo _ _ _ _ (T92.setTop (mkF m 73 #[.val (.ref a1), .val (.long q1), .second] [(.int (2 : Int32)), (.ref pa)]))
    obtain ⟨cl93, Ar93, q93, Sz93, Ng93, Hs93, Gf93⟩ := id V_pa
    have hin93 : ¬ ((2 : Int32) < 0 ∨ cl93.slots.size ≤ ((2 : Int32)).toNatClampNeg) := inb_of Sz93 ⟨by decide, by decide⟩
    have hat93 : cl93.slots[((2 : Int32)).toNatClampNeg]? = some (.long (pz + (2 : Int64))) := Hs93.at hin93 rfl
    refine OGo.via (X92.laload hx (j := (2 : Int32)) (v := (.long (pz + (2 : Int64)))) (by rw [e92]; exact Ar93.1) (State.isArrayOf_alike hZ.alike Ar93.2.1) Ar93.2.2 hin93 hat93 (g := (mkF m 73 #[.val (.ref a1), .val (.long q1), .second] [(.int (2 : Int32)), (.ref pa)])) rfl rfl (hb hby d4_73)) ?_
    show OGo _ _ _ _ (T92.setTop (mkF m 74 #[.val (.ref a1), .val (.long q1), .second] [(.long (pz + (2 : Int64)))]))
    show OGo _ _ _ _ (T92.setTop (mkF m 74 #[.val (.ref a1), .val (.long q1), .second] [(.long (pz + (2 : Int64)))]))
    have hD : (own_adv (own_adv (own_adv (own_adv (own_adv (2 : Int32) (5 : Int32) t0 t1 t2 t3 t4 q1) (5 : Int32) t0 t1 t2 t3 t4 q1) (5 : Int32) t0 t1 t2 t3 t4 q1) (5 : Int32) t0 t1 t2 t3 t4 q1) (5 : Int32) t0 t1 t2 t3 t4 q1) = (2 : Int32) := by rw [own_adv_n (k := (2 : Int32)) (by rw [own_t2]; exact hc18_5), own_adv_n (k := (2 : Int32)) (by rw [own_t2]; exact hc18_5), own_adv_n (k := (2 : Int32)) (by rw [own_t2]; exact hc18_5), own_adv_n (k := (2 : Int32)) (by rw [own_t2]; exact hc18_5), own_adv_n (k := (2 : Int32)) (by rw [own_t2]; exact hc18_5)]
    refine own_retL X92 hx Bd.notSynchronized Bd.returns (hb hby d4_74) (by decide) (by decide) ?_
    show Q_rm4b2 Z _ _ _ _ _ _ _ _ _ _ _ _ _ h0 n0 _ T92.heap _
    rw [e92]
    exact ⟨(by rw [hD, own_xn (by decide)]; rfl), N0, (Keep.refl h0 [a1]), E_a1, (by rw [hD]; exact F_count_a1)⟩
theorem ef_rm4b3 (m : MethodId) (a1 : Addr) (q1 : Int64) : entryFrame m #[(.ref a1), (.long q1)] 3 = mkF m 0 #[.val (.ref a1), .val (.long q1), .second] [] := by first | (simp [entryFrame, mkF, argsToLocals, Value.category]; done) | rfl
def Q_rm4b3 (Z : State) (a1 : Addr) (q1 : Int64) (pa : Addr) (ta : Addr) (kp : ClassId) (kt : ClassId) (bf : Int64) (pz : Int64) (t0 : Int64) (t1 : Int64) (t2 : Int64) (t3 : Int64) (t4 : Int64) (h0 : Heap) (n0 : Nat) (v : Option Value) (h : Heap) (L : List Loc) : Prop := v = some (.long (own_x (own_adv (own_adv (own_adv (own_adv (own_adv (3 : Int32) (5 : Int32) t0 t1 t2 t3 t4 q1) (5 : Int32) t0 t1 t2 t3 t4 q1) (5 : Int32) t0 t1 t2 t3 t4 q1) (5 : Int32) t0 t1 t2 t3 t4 q1) (5 : Int32) t0 t1 t2 t3 t4 q1) (5 : Int32) pz)) ∧ Fr n0 L ∧ Keep h0 h [a1] ∧ Exa Z h a1 "com/example/eventloom/eventloom/engine/Forbidden" ∧ Fld Z h a1 "com/example/eventloom/eventloom/engine/Forbidden" "count" "I" (.int (own_h (own_adv (own_adv (own_adv (own_adv (own_adv (3 : Int32) (5 : Int32) t0 t1 t2 t3 t4 q1) (5 : Int32) t0 t1 t2 t3 t4 q1) (5 : Int32) t0 t1 t2 t3 t4 q1) (5 : Int32) t0 t1 t2 t3 t4 q1) (5 : Int32) t0 t1 t2 t3 t4 q1) (5 : Int32)))
set_option maxRecDepth 65536 in
set_option maxHeartbeats 40000000 in
theorem rm4b3 (l : Launch) (Z : State) (a0 : Array Value) (hw : ∀ d ∈ tables_1, d.before a0 Z = true) (ws : List Jvm.Cond) (a1 : Addr) (q1 : Int64) (pa : Addr) (ta : Addr) (kp : ClassId) (kt : ClassId) (bf : Int64) (pz : Int64) (t0 : Int64) (t1 : Int64) (t2 : Int64) (t3 : Int64) (t4 : Int64) (h0 : Heap) (n0 : Nat) (Z0 : n0 ≤ h0.size) (E_a1 : Exa Z h0 a1 "com/example/eventloom/eventloom/engine/Forbidden") (F_positions_a1 : Fld Z h0 a1 "com/example/eventloom/eventloom/engine/Forbidden" "positions" "[J" (.ref pa)) (F_times_a1 : Fld Z h0 a1 "com/example/eventloom/eventloom/engine/Forbidden" "times" "[J" (.ref ta)) (F_first_a1 : Fld Z h0 a1 "com/example/eventloom/eventloom/engine/Forbidden" "first" "I" (.int (3 : Int32))) (F_count_a1 : Fld Z h0 a1 "com/example/eventloom/eventloom/engine/Forbidden" "count" "I" (.int (2 : Int32))) (F_befores_a1 : Fld Z h0 a1 "com/example/eventloom/eventloom/engine/Forbidden" "befores" "J" (.long bf)) (V_pa : Arv Z h0 pa kp .long (4 : Int32) [(.long (pz + (4 : Int64))), (.long (pz + (1 : Int64))), (.long (pz + (2 : Int64))), (.long (pz + (3 : Int64)))] (.long (0 : Int64))) (V_ta : Arv Z h0 ta kt .long (4 : Int32) [(.long t4), (.long t1), (.long t2), (.long t3)] (.long (0 : Int64))) (ne_a1_pa : a1 ≠ pa) (ne_a1_ta : a1 ≠ ta) (g_a1 : n0 ≤ a1) :
    MetFree l own_y4 (head1 (Jvm.Cond.code own_y4 prog_122_method_4_code 3 (some .long) :: ws) ({ frames := 0, cells := 0, slots := 0, locals := 0 } : Room)) (fun a U => a = #[(.ref a1), (.long q1)] ∧ Z.Warmed39 U.vm ∧ U.heap = h0) (fun _ _ _ _ _ => True) (fun _ U o U' => ∃ v L, o = .returned v ∧ Q_rm4b3 Z a1 q1 pa ta kp kt bf pz t0 t1 t2 t3 t4 h0 n0 v U'.heap L ∧ FrameEnd U o U' L ({ frames := 0, cells := 0, slots := 0, locals := 0 } : Room).cells ({ frames := 0, cells := 0, slots := 0, locals := 0 } : Room).slots) := by
  refine MetFree.of_bodySF (plainFor_of_name pn_Forbidden) hisR ?_
  intro p e s m args below meth c s₁ Bd hml0 hP hK
  obtain ⟨rfl, hZ, hh⟩ := hP
  have hx := Bd.exec
  have hby := Bd.bytes
  have hml : c.maxLocals = 3 := hml0
  have hown : s.vm.findClass "com/example/eventloom/eventloom/engine/Forbidden" = some m.cls := findClass_of_methodNamed Bd.named
  have hnm := (name_of_methodNamed Bd.named Bd.method).1
  have X0 : Stand p l e ({ frames := 0, cells := 0, slots := 0, locals := 0 } : Room) s m #[(.ref a1), (.long q1)] below meth c s₁ [] 0 0 := Stand.of_body Bd
  have e0 : s₁.heap = h0 := by rw [← hh, Bd.state]; rfl
  have N0 := Fr.nil n0
  show OGo p.tables e below (own_Kq s (fun v h L => Q_rm4b3 Z a1 q1 pa ta kp kt bf pz t0 t1 t2 t3 t4 h0 n0 v h L) ({ frames := 0, cells := 0, slots := 0, locals := 0 } : Room).cells ({ frames := 0, cells := 0, slots := 0, locals := 0 } : Room).slots) (s₁.setTop (entryFrame m #[(.ref a1), (.long q1)] 3))
  refine OGo.cast (ef_rm4b3 m a1 q1) ?_
  show OGo _ _ _ _ (s₁.setTop (mkF m 0 #[.val (.ref a1), .val (.long q1), .second] []))
  refine OGo.via (fun _ k => XS.aloadN X0.here hx rfl (hb hby d4_0) rfl rfl k) ?_
  obtain ⟨T1, X1, e1, st1⟩ := getF X0 hx hZ hown (host := "") (Or.inl (own_w hw 27 rfl)) Via.refl e0 F_count_a1 (g := (mkF m 1 #[.val (.ref a1), .val (.long q1), .second] [(.ref a1)])) rfl rfl (hb hby d4_1)
  refine OGo.via st1 ?_
  show OGo _ _ _ _ (T1.setTop (mkF m 4 #[.val (.ref a1), .val (.long q1), .second] [(.int (2 : Int32))]))
  refine OGo.via (fun _ k => XS.ifNo X1.here hx rfl (hb hby d4_4) rfl ((if0 _ _).trans (tlt (by decide : (0 : Int32) < (2 : Int32))).2.2.2) k) ?_
  show OGo _ _ _ _ (T1.setTop (mkF m 7 #[.val (.ref a1), .val (.long q1), .second] []))
  refine OGo.via (fun _ k => XS.aloadN X1.here hx rfl (hb hby d4_7) rfl rfl k) ?_
  obtain ⟨T2, X2, e2, st2⟩ := getF X1 hx hZ hown (host := "") (Or.inl (own_w hw 14 rfl)) Via.refl e1 F_times_a1 (g := (mkF m 8 #[.val (.ref a1), .val (.long q1), .second] [(.ref a1)])) rfl rfl (hb hby d4_8)
  refine OGo.via st2 ?_
  show OGo _ _ _ _ (T2.setTop (mkF m 11 #[.val (.ref a1), .val (.long q1), .second] [(.ref ta)]))
  refine OGo.via (fun _ k => XS.aloadN X2.here hx rfl (hb hby d4_11) rfl rfl k) ?_
  obtain ⟨T3, X3, e3, st3⟩ := getF X2 hx hZ hown (host := "") (Or.inl (own_w hw 30 rfl)) Via.refl e2 F_first_a1 (g := (mkF m 12 #[.val (.ref a1), .val (.long q1), .second] [(.ref a1), (.ref ta)])) rfl rfl (hb hby d4_12)
  refine OGo.via st3 ?_
  show OGo _ _ _ _ (T3.setTop (mkF m 15 #[.val (.ref a1), .val (.long q1), .second] [(.int (3 : Int32)), (.ref ta)]))
  obtain ⟨cl4, Ar4, q4, Sz4, Ng4, Hs4, Gf4⟩ := id V_ta
  have hin4 : ¬ ((3 : Int32) < 0 ∨ cl4.slots.size ≤ ((3 : Int32)).toNatClampNeg) := inb_of Sz4 ⟨by decide, by decide⟩
  have hat4 : cl4.slots[((3 : Int32)).toNatClampNeg]? = some (.long t3) := Hs4.at hin4 rfl
  refine OGo.via (X3.laload hx (j := (3 : Int32)) (v := (.long t3)) (by rw [e3]; exact Ar4.1) (State.isArrayOf_alike hZ.alike Ar4.2.1) Ar4.2.2 hin4 hat4 (g := (mkF m 15 #[.val (.ref a1), .val (.long q1), .second] [(.int (3 : Int32)), (.ref ta)])) rfl rfl (hb hby d4_15)) ?_
  show OGo _ _ _ _ (T3.setTop (mkF m 16 #[.val (.ref a1), .val (.long q1), .second] [(.long t3)]))
  refine OGo.via (fun _ k => XS.lloadN X3.here hx rfl (hb hby d4_16) rfl (XS.lcmp X3.here hx rfl (hb hby d4_17) rfl k)) ?_
  by_cases hc18_5 : (lcmpW t3 q1) < (0 : Int32)
  · refine OGo.via (fun _ k => XS.ifNo X3.here hx rfl (hb hby d4_18) rfl ((if0 _ _).trans (tlt hc18_5).2.1) k) ?_
    show OGo _ _ _ _ (T3.setTop (mkF m 21 #[.val (.ref a1), .val (.long q1), .second] []))
    refine OGo.via (fun _ k => XS.aloadN X3.here hx rfl (hb hby d4_21) rfl rfl (XS.aloadN X3.here hx rfl (hb hby d4_22) rfl rfl k)) ?_
    obtain ⟨T6, X6, e6, st6⟩ := getF X3 hx hZ hown (host := "") (Or.inl (own_w hw 30 rfl)) Via.refl e3 F_first_a1 (g := (mkF m 23 #[.val (.ref a1), .val (.long q1), .second] [(.ref a1), (.ref a1)])) rfl rfl (hb hby d4_23)
    refine OGo.via st6 ?_
    show OGo _ _ _ _ (T6.setTop (mkF m 26 #[.val (.ref a1), .val (.long q1), .second] [(.int (3 : Int32)), (.ref a1)]))
    refine OGo.via (fun _ k => XS.iconst X6.here hx rfl (hb hby d4_26) (XS.iadd X6.here hx rfl (hb hby d4_27) rfl k)) ?_
    show OGo _ _ _ _ (T6.setTop (mkF m 28 #[.val (.ref a1), .val (.long q1), .second] [(.int ((3 : Int32) + (1 : Int32))), (.ref a1)]))
    rw [show ((3 : Int32) + (1 : Int32)) = (4 : Int32) from by decide]
    refine OGo.via (fun _ k => XS.aloadN X6.here hx rfl (hb hby d4_28) rfl rfl k) ?_
    obtain ⟨T8, X8, e8, st8⟩ := getF X6 hx hZ hown (host := "") (Or.inl (own_w hw 12 rfl)) Via.refl e6 F_positions_a1 (g := (mkF m 29 #[.val (.ref a1), .val (.long q1), .second] [(.ref a1), (.int (4 : Int32)), (.ref a1)])) rfl rfl (hb hby d4_29)
    refine OGo.via st8 ?_
    show OGo _ _ _ _ (T8.setTop (mkF m 32 #[.val (.ref a1), .val (.long q1), .second] [(.ref pa), (.int (4 : Int32)), (.ref a1)]))
    obtain ⟨cl9, Ar9, q9, Sz9, Ng9, Hs9, Gf9⟩ := id V_pa
    refine OGo.via (X8.arraylength hx (by rw [e8]; exact Ar9.1) (State.isArrayOf_alike hZ.alike Ar9.2.1) (g := (mkF m 32 #[.val (.ref a1), .val (.long q1), .second] [(.ref pa), (.int (4 : Int32)), (.ref a1)])) rfl rfl (hb hby d4_32)) ?_
    rw [len_of Sz9 Ng9]
    show OGo _ _ _ _ (T8.setTop (mkF m 33 #[.val (.ref a1), .val (.long q1), .second] [(.int (4 : Int32)), (.int (4 : Int32)), (.ref a1)]))
    refine OGo.via (fun _ k => XS.iconst X8.here hx rfl (hb hby d4_33) (XS.isub X8.here hx rfl (hb hby d4_34) rfl k)) ?_
    show OGo _ _ _ _ (T8.setTop (mkF m 35 #[.val (.ref a1), .val (.long q1), .second] [(.int ((4 : Int32) - (1 : Int32))), (.int (4 : Int32)), (.ref a1)]))
    rw [show ((4 : Int32) - (1 : Int32)) = (3 : Int32) from by decide]
    refine OGo.via (fun _ k => XS.iand X8.here hx rfl (hb hby d4_35) rfl k) ?_
    show OGo _ _ _ _ (T8.setTop (mkF m 36 #[.val (.ref a1), .val (.long q1), .second] [(.int ((4 : Int32) &&& (3 : Int32))), (.ref a1)]))
    rw [show ((4 : Int32) &&& (3 : Int32)) = (0 : Int32) from by decide]
    obtain ⟨T12, h12, X12, e12, W12, st12⟩ := putF X8 hx hZ hown (host := "") (Or.inl (own_w hw 30 rfl)) Via.refl e8 F_first_a1 E_a1 (Or.inl (own_w hw 31 rfl)) (own_w hw 2 rfl) (ty := .int) (by decide) rfl rfl (g := (mkF m 36 #[.val (.ref a1), .val (.long q1), .second] [(.int (0 : Int32)), (.ref a1)])) rfl rfl (hb hby d4_36)
    refine OGo.via st12 ?_
    have Fw12 := F_first_a1.same W12
    have K12 : Keep h0 h12 [a1] := (Keep.refl h0 [a1]).wr W12 (Or.inl (List.mem_of_getElem? (i := 0) rfl))
    have N12 := Fr.snoc X12 N0 g_a1
    show OGo _ _ _ _ (T12.setTop (mkF m 39 #[.val (.ref a1), .val (.long q1), .second] []))
    refine OGo.via (fun _ k => XS.aloadN X12.here hx rfl (hb hby d4_39) rfl rfl (XS.dup X12.here hx rfl (hb hby d4_40) rfl rfl k)) ?_
    have f14 := F_count_a1.other W12 (Or.inr (slot_ne (Or.inl (own_w hw 28 rfl)) (Or.inl (own_w hw 31 rfl)) (by decide) (t := .int) (t' := .int) (by decide) (by decide)))
    obtain ⟨T13, X13, e13, st13⟩ := getF X12 hx hZ hown (host := "") (Or.inl (own_w hw 27 rfl)) Via.refl e12 f14 (g := (mkF m 41 #[.val (.ref a1), .val (.long q1), .second] [(.ref a1), (.ref a1)])) rfl rfl (hb hby d4_41)
    refine OGo.via st13 ?_
    show OGo _ _ _ _ (T13.setTop (mkF m 44 #[.val (.ref a1), .val (.long q1), .second] [(.int (2 : Int32)), (.ref a1)]))
    refine OGo.via (fun _ k => XS.iconst X13.here hx rfl (hb hby d4_44) (XS.isub X13.here hx rfl (hb hby d4_45) rfl k)) ?_
    show OGo _ _ _ _ (T13.setTop (mkF m 46 #[.val (.ref a1), .val (.long q1), .second] [(.int ((2 : Int32) - (1 : Int32))), (.ref a1)]))
    rw [show ((2 : Int32) - (1 : Int32)) = (1 : Int32) from by decide]
    have f17 := E_a1.wr W12
    obtain ⟨T16, h16, X16, e16, W16, st16⟩ := putF X13 hx hZ hown (host := "") (Or.inl (own_w hw 27 rfl)) Via.refl e13 f14 f17 (Or.inl (own_w hw 28 rfl)) (own_w hw 2 rfl) (ty := .int) (by decide) rfl rfl (g := (mkF m 46 #[.val (.ref a1), .val (.long q1), .second] [(.int (1 : Int32)), (.ref a1)])) rfl rfl (hb hby d4_46)
    refine OGo.via st16 ?_
    have Fw16 := f14.same W16
    have K16 : Keep h0 h16 [a1] := K12.wr W16 (Or.inl (List.mem_of_getElem? (i := 0) rfl))
    have N16 := Fr.snoc X16 N12 g_a1
    show OGo _ _ _ _ (T16.setTop (mkF m 49 #[.val (.ref a1), .val (.long q1), .second] []))
    refine OGo.via (fun _ k => XS.goto X16.here hx rfl (pc0 := 49) (pc' := 0) rfl (hb hby d4_49) (by decide) (by decide) (XS.aloadN X16.here hx rfl (hb hby d4_0) rfl rfl k)) ?_
    obtain ⟨T18, X18, e18, st18⟩ := getF X16 hx hZ hown (host := "") (Or.inl (own_w hw 27 rfl)) Via.refl e16 Fw16 (g := (mkF m 1 #[.val (.ref a1), .val (.long q1), .second] [(.ref a1)])) rfl rfl (hb hby d4_1)
    refine OGo.via st18 ?_
    show OGo _ _ _ _ (T18.setTop (mkF m 4 #[.val (.ref a1), .val (.long q1), .second] [(.int (1 : Int32))]))
    refine OGo.via (fun _ k => XS.ifNo X18.here hx rfl (hb hby d4_4) rfl ((if0 _ _).trans (tlt (by decide : (0 : Int32) < (1 : Int32))).2.2.2) k) ?_
    show OGo _ _ _ _ (T18.setTop (mkF m 7 #[.val (.ref a1), .val (.long q1), .second] []))
    refine OGo.via (fun _ k => XS.aloadN X18.here hx rfl (hb hby d4_7) rfl rfl k) ?_
    have f20 := F_times_a1.other W12 (Or.inr (slot_ne (Or.inl (own_w hw 15 rfl)) (Or.inl (own_w hw 31 rfl)) (by decide) (t := (.array .long)) (t' := .int) (by decide) (by decide)))
    have f21 := f20.other W16 (Or.inr (slot_ne (Or.inl (own_w hw 15 rfl)) (Or.inl (own_w hw 28 rfl)) (by decide) (t := (.array .long)) (t' := .int) (by decide) (by decide)))
    obtain ⟨T19, X19, e19, st19⟩ := getF X18 hx hZ hown (host := "") (Or.inl (own_w hw 14 rfl)) Via.refl e18 f21 (g := (mkF m 8 #[.val (.ref a1), .val (.long q1), .second] [(.ref a1)])) rfl rfl (hb hby d4_8)
    refine OGo.via st19 ?_
    show OGo _ _ _ _ (T19.setTop (mkF m 11 #[.val (.ref a1), .val (.long q1), .second] [(.ref ta)]))
    refine OGo.via (fun _ k => XS.aloadN X19.here hx rfl (hb hby d4_11) rfl rfl k) ?_
    have f23 := Fw12.other W16 (Or.inr (slot_ne (Or.inl (own_w hw 31 rfl)) (Or.inl (own_w hw 28 rfl)) (by decide) (t := .int) (t' := .int) (by decide) (by decide)))
    obtain ⟨T22, X22, e22, st22⟩ := getF X19 hx hZ hown (host := "") (Or.inl (own_w hw 30 rfl)) Via.refl e19 f23 (g := (mkF m 12 #[.val (.ref a1), .val (.long q1), .second] [(.ref a1), (.ref ta)])) rfl rfl (hb hby d4_12)
    refine OGo.via st22 ?_
    show OGo _ _ _ _ (T22.setTop (mkF m 15 #[.val (.ref a1), .val (.long q1), .second] [(.int (0 : Int32)), (.ref ta)]))
    have f25 := V_ta.keep K16 (ninS (Ne.symm ne_a1_ta) nin0)
    obtain ⟨cl24, Ar24, q24, Sz24, Ng24, Hs24, Gf24⟩ := id f25
    have hin24 : ¬ ((0 : Int32) < 0 ∨ cl24.slots.size ≤ ((0 : Int32)).toNatClampNeg) := inb_of Sz24 ⟨by decide, by decide⟩
    have hat24 : cl24.slots[((0 : Int32)).toNatClampNeg]? = some (.long t4) := Hs24.at hin24 rfl
    refine OGo.via (X22.laload hx (j := (0 : Int32)) (v := (.long t4)) (by rw [e22]; exact Ar24.1) (State.isArrayOf_alike hZ.alike Ar24.2.1) Ar24.2.2 hin24 hat24 (g := (mkF m 15 #[.val (.ref a1), .val (.long q1), .second] [(.int (0 : Int32)), (.ref ta)])) rfl rfl (hb hby d4_15)) ?_
    show OGo _ _ _ _ (T22.setTop (mkF m 16 #[.val (.ref a1), .val (.long q1), .second] [(.long t4)]))
    refine OGo.via (fun _ k => XS.lloadN X22.here hx rfl (hb hby d4_16) rfl (XS.lcmp X22.here hx rfl (hb hby d4_17) rfl k)) ?_
    by_cases hc18_26 : (lcmpW t4 q1) < (0 : Int32)
    · refine OGo.via (fun _ k => XS.ifNo X22.here hx rfl (hb hby d4_18) rfl ((if0 _ _).trans (tlt hc18_26).2.1) k) ?_
      show OGo _ _ _ _ (T22.setTop (mkF m 21 #[.val (.ref a1), .val (.long q1), .second] []))
      refine OGo.via (fun _ k => XS.aloadN X22.here hx rfl (hb hby d4_21) rfl rfl (XS.aloadN X22.here hx rfl (hb hby d4_22) rfl rfl k)) ?_
      obtain ⟨T27, X27, e27, st27⟩ := getF X22 hx hZ hown (host := "") (Or.inl (own_w hw 30 rfl)) Via.refl e22 f23 (g := (mkF m 23 #[.val (.ref a1), .val (.long q1), .second] [(.ref a1), (.ref a1)])) rfl rfl (hb hby d4_23)
      refine OGo.via st27 ?_
      show OGo _ _ _ _ (T27.setTop (mkF m 26 #[.val (.ref a1), .val (.long q1), .second] [(.int (0 : Int32)), (.ref a1)]))
      refine OGo.via (fun _ k => XS.iconst X27.here hx rfl (hb hby d4_26) (XS.iadd X27.here hx rfl (hb hby d4_27) rfl k)) ?_
      show OGo _ _ _ _ (T27.setTop (mkF m 28 #[.val (.ref a1), .val (.long q1), .second] [(.int ((0 : Int32) + (1 : Int32))), (.ref a1)]))
      rw [show ((0 : Int32) + (1 : Int32)) = (1 : Int32) from by decide]
      refine OGo.via (fun _ k => XS.aloadN X27.here hx rfl (hb hby d4_28) rfl rfl k) ?_
      have f30 := F_positions_a1.other W12 (Or.inr (slot_ne (Or.inl (own_w hw 13 rfl)) (Or.inl (own_w hw 31 rfl)) (by decide) (t := (.array .long)) (t' := .int) (by decide) (by decide)))
      have f31 := f30.other W16 (Or.inr (slot_ne (Or.inl (own_w hw 13 rfl)) (Or.inl (own_w hw 28 rfl)) (by decide) (t := (.array .long)) (t' := .int) (by decide) (by decide)))
      obtain ⟨T29, X29, e29, st29⟩ := getF X27 hx hZ hown (host := "") (Or.inl (own_w hw 12 rfl)) Via.refl e27 f31 (g := (mkF m 29 #[.val (.ref a1), .val (.long q1), .second] [(.ref a1), (.int (1 : Int32)), (.ref a1)])) rfl rfl (hb hby d4_29)
      refine OGo.via st29 ?_
      show OGo _ _ _ _ (T29.setTop (mkF m 32 #[.val (.ref a1), .val (.long q1), .second] [(.ref pa), (.int (1 : Int32)), (.ref a1)]))
      have f33 := V_pa.keep K16 (ninS (Ne.symm ne_a1_pa) nin0)
      obtain ⟨cl32, Ar32, q32, Sz32, Ng32, Hs32, Gf32⟩ := id f33
      refine OGo.via (X29.arraylength hx (by rw [e29]; exact Ar32.1) (State.isArrayOf_alike hZ.alike Ar32.2.1) (g := (mkF m 32 #[.val (.ref a1), .val (.long q1), .second] [(.ref pa), (.int (1 : Int32)), (.ref a1)])) rfl rfl (hb hby d4_32)) ?_
      rw [len_of Sz32 Ng32]
      show OGo _ _ _ _ (T29.setTop (mkF m 33 #[.val (.ref a1), .val (.long q1), .second] [(.int (4 : Int32)), (.int (1 : Int32)), (.ref a1)]))
      refine OGo.via (fun _ k => XS.iconst X29.here hx rfl (hb hby d4_33) (XS.isub X29.here hx rfl (hb hby d4_34) rfl k)) ?_
      show OGo _ _ _ _ (T29.setTop (mkF m 35 #[.val (.ref a1), .val (.long q1), .second] [(.int ((4 : Int32) - (1 : Int32))), (.int (1 : Int32)), (.ref a1)]))
      rw [show ((4 : Int32) - (1 : Int32)) = (3 : Int32) from by decide]
      refine OGo.via (fun _ k => XS.iand X29.here hx rfl (hb hby d4_35) rfl k) ?_
      show OGo _ _ _ _ (T29.setTop (mkF m 36 #[.val (.ref a1), .val (.long q1), .second] [(.int ((1 : Int32) &&& (3 : Int32))), (.ref a1)]))
      rw [show ((1 : Int32) &&& (3 : Int32)) = (1 : Int32) from by decide]
      have f37 := f17.wr W16
      obtain ⟨T36, h36, X36, e36, W36, st36⟩ := putF X29 hx hZ hown (host := "") (Or.inl (own_w hw 30 rfl)) Via.refl e29 f23 f37 (Or.inl (own_w hw 31 rfl)) (own_w hw 2 rfl) (ty := .int) (by decide) rfl rfl (g := (mkF m 36 #[.val (.ref a1), .val (.long q1), .second] [(.int (1 : Int32)), (.ref a1)])) rfl rfl (hb hby d4_36)
      refine OGo.via st36 ?_
      have Fw36 := f23.same W36
      have K36 : Keep h0 h36 [a1] := K16.wr W36 (Or.inl (List.mem_of_getElem? (i := 0) rfl))
      have N36 := Fr.snoc X36 N16 g_a1
      show OGo _ _ _ _ (T36.setTop (mkF m 39 #[.val (.ref a1), .val (.long q1), .second] []))
      refine OGo.via (fun _ k => XS.aloadN X36.here hx rfl (hb hby d4_39) rfl rfl (XS.dup X36.here hx rfl (hb hby d4_40) rfl rfl k)) ?_
      have f39 := Fw16.other W36 (Or.inr (slot_ne (Or.inl (own_w hw 28 rfl)) (Or.inl (own_w hw 31 rfl)) (by decide) (t := .int) (t' := .int) (by decide) (by decide)))
      obtain ⟨T38, X38, e38, st38⟩ := getF X36 hx hZ hown (host := "") (Or.inl (own_w hw 27 rfl)) Via.refl e36 f39 (g := (mkF m 41 #[.val (.ref a1), .val (.long q1), .second] [(.ref a1), (.ref a1)])) rfl rfl (hb hby d4_41)
      refine OGo.via st38 ?_
      show OGo _ _ _ _ (T38.setTop (mkF m 44 #[.val (.ref a1), .val (.long q1), .second] [(.int (1 : Int32)), (.ref a1)]))
      refine OGo.via (fun _ k => XS.iconst X38.here hx rfl (hb hby d4_44) (XS.isub X38.here hx rfl (hb hby d4_45) rfl k)) ?_
      show OGo _ _ _ _ (T38.setTop (mkF m 46 #[.val (.ref a1), .val (.long q1), .second] [(.int ((1 : Int32) - (1 : Int32))), (.ref a1)]))
      rw [show ((1 : Int32) - (1 : Int32)) = (0 : Int32) from by decide]
      have f42 := f37.wr W36
      obtain ⟨T41, h41, X41, e41, W41, st41⟩ := putF X38 hx hZ hown (host := "") (Or.inl (own_w hw 27 rfl)) Via.refl e38 f39 f42 (Or.inl (own_w hw 28 rfl)) (own_w hw 2 rfl) (ty := .int) (by decide) rfl rfl (g := (mkF m 46 #[.val (.ref a1), .val (.long q1), .second] [(.int (0 : Int32)), (.ref a1)])) rfl rfl (hb hby d4_46)
      refine OGo.via st41 ?_
      have Fw41 := f39.same W41
      have K41 : Keep h0 h41 [a1] := K36.wr W41 (Or.inl (List.mem_of_getElem? (i := 0) rfl))
      have N41 := Fr.snoc X41 N36 g_a1
      show OGo _ _ _ _ (T41.setTop (mkF m 49 #[.val (.ref a1), .val (.long q1), .second] []))
      refine OGo.via (fun _ k => XS.goto X41.here hx rfl (pc0 := 49) (pc' := 0) rfl (hb hby d4_49) (by decide) (by decide) (XS.aloadN X41.here hx rfl (hb hby d4_0) rfl rfl k)) ?_
      obtain ⟨T43, X43, e43, st43⟩ := getF X41 hx hZ hown (host := "") (Or.inl (own_w hw 27 rfl)) Via.refl e41 Fw41 (g := (mkF m 1 #[.val (.ref a1), .val (.long q1), .second] [(.ref a1)])) rfl rfl (hb hby d4_1)
      refine OGo.via st43 ?_
      show OGo _ _ _ _ (T43.setTop (mkF m 4 #[.val (.ref a1), .val (.long q1), .second] [(.int (0 : Int32))]))
      refine OGo.via (fun _ k => XS.ifYes X43.here hx rfl (pc0 := 4) (pc' := 52) rfl (hb hby d4_4) rfl ((if0 _ _).trans (flt (by decide : ¬ ((0 : Int32) < (0 : Int32)))).2.2.2) (by decide) (by decide) k) ?_
      show OGo _ _ _ _ (T43.setTop (mkF m 52 #[.val (.ref a1), .val (.long q1), .second] []))
      refine OGo.via (fun _ k => XS.aloadN X43.here hx rfl (hb hby d4_52) rfl rfl k) ?_
      obtain ⟨T44, X44, e44, st44⟩ := getF X43 hx hZ hown (host := "") (Or.inl (own_w hw 27 rfl)) Via.refl e43 Fw41 (g := (mkF m 53 #[.val (.ref a1), .val (.long q1), .second] [(.ref a1)])) rfl rfl (hb hby d4_53)
      refine OGo.via st44 ?_
      show OGo _ _ _ _ (T44.setTop (mkF m 56 #[.val (.ref a1), .val (.long q1), .second] [(.int (0 : Int32))]))
      refine OGo.via (fun _ k => XS.ifNo X44.here hx rfl (hb hby d4_56) rfl ((if0 _ _).trans (teq (by decide : (0 : Int32) = (0 : Int32))).2) k) ?_
      show OGo _ _ _ _ (T44.setTop (mkF m 59 #[.val (.ref a1), .val (.long q1), .second] []))
      refine OGo.via (X44.ldc2Long hx hown (mvT hZ (own_w hw 29 rfl)) (g := (mkF m 59 #[.val (.ref a1), .val (.long q1), .second] [])) rfl (hb hby d4_59)) ?_
      show OGo _ _ _ _ (T44.setTop (mkF m 62 #[.val (.ref a1), .val (.long q1), .second] [(.long (9223372036854775807 : Int64))]))
      refine OGo.via (fun _ k => XS.goto X44.here hx rfl (pc0 := 62) (pc' := 74) rfl (hb hby d4_62) (by decide) (by decide) k) ?_
      show OGo _ _ _ _ (T44.setTop (mkF m 74 #[.val (.ref a1), .val (.long q1), .second] [(.long (9223372036854775807 : Int64))]))
      have hD : (own_adv (own_adv (own_adv (own_adv (own_adv (3 : Int32) (5 : Int32) t0 t1 t2 t3 t4 q1) (5 : Int32) t0 t1 t2 t3 t4 q1) (5 : Int32) t0 t1 t2 t3 t4 q1) (5 : Int32) t0 t1 t2 t3 t4 q1) (5 : Int32) t0 t1 t2 t3 t4 q1) = (5 : Int32) := by rw [own_adv_y (k := (3 : Int32)) (k' := (4 : Int32)) (by decide) (by decide) (by rw [own_t3]; exact hc18_5), own_adv_y (k := (4 : Int32)) (k' := (5 : Int32)) (by decide) (by decide) (by rw [own_t4]; exact hc18_26), own_adv_o (k := (5 : Int32)) (by decide), own_adv_o (k := (5 : Int32)) (by decide), own_adv_o (k := (5 : Int32)) (by decide)]
      have f45 := f42.wr W41
      refine own_retL X44 hx Bd.notSynchronized Bd.returns (hb hby d4_74) (by decide) (by decide) ?_
      show Q_rm4b3 Z _ _ _ _ _ _ _ _ _ _ _ _ _ h0 n0 _ T44.heap _
      rw [e44]
      exact ⟨(by rw [hD, own_xy rfl]), N41, K41, f45, (by rw [hD]; exact Fw41)⟩
    · refine OGo.via (fun _ k => XS.ifYes X22.here hx rfl (pc0 := 18) (pc' := 52) rfl (hb hby d4_18) rfl ((if0 _ _).trans (flt hc18_26).2.1) (by decide) (by decide) k) ?_
      show OGo _ _ _ _ (T22.setTop (mkF m 52 #[.val (.ref a1), .val (.long q1), .second] []))
      refine OGo.via (fun _ k => XS.aloadN X22.here hx rfl (hb hby d4_52) rfl rfl k) ?_
      obtain ⟨T46, X46, e46, st46⟩ := getF X22 hx hZ hown (host := "") (Or.inl (own_w hw 27 rfl)) Via.refl e22 Fw16 (g := (mkF m 53 #[.val (.ref a1), .val (.long q1), .second] [(.ref a1)])) rfl rfl (hb hby d4_53)
      refine OGo.via st46 ?_
      show OGo _ _ _ _ (T46.setTop (mkF m 56 #[.val (.ref a1), .val (.long q1), .second] [(.int (1 : Int32))]))
      refine OGo.via (fun _ k => XS.ifYes X46.here hx rfl (pc0 := 56) (pc' := 65) rfl (hb hby d4_56) rfl ((if0 _ _).trans (feq (by decide : ¬ ((1 : Int32) = (0 : Int32)))).2) (by decide) (by decide) k) ?_
      show OGo _ _ _ _ (T46.setTop (mkF m 65 #[.val (.ref a1), .val (.long q1), .second] []))
      refine OGo.via (fun _ k => XS.aloadN X46.here hx rfl (hb hby d4_65) rfl rfl k) ?_
      have f48 := F_positions_a1.other W12 (Or.inr (slot_ne (Or.inl (own_w hw 13 rfl)) (Or.inl (own_w hw 31 rfl)) (by decide) (t := (.array .long)) (t' := .int) (by decide) (by decide)))
      have f49 := f48.other W16 (Or.inr (slot_ne (Or.inl (own_w hw 13 rfl)) (Or.inl (own_w hw 28 rfl)) (by decide) (t := (.array .long)) (t' := .int) (by decide) (by decide)))
      obtain ⟨T47, X47, e47, st47⟩ := getF X46 hx hZ hown (host := "") (Or.inl (own_w hw 12 rfl)) Via.refl e46 f49 (g := (mkF m 66 #[.val (.ref a1), .val (.long q1), .second] [(.ref a1)])) rfl rfl (hb hby d4_66)
      refine OGo.via st47 ?_
      show OGo _ _ _ _ (T47.setTop (mkF m 69 #[.val (.ref a1), .val (.long q1), .second] [(.ref pa)]))
      refine OGo.via (fun _ k => XS.aloadN X47.here hx rfl (hb hby d4_69) rfl rfl k) ?_
      obtain ⟨T50, X50, e50, st50⟩ := getF X47 hx hZ hown (host := "") (Or.inl (own_w hw 30 rfl)) Via.refl e47 f23 (g := (mkF m 70 #[.val (.ref a1), .val (.long q1), .second] [(.ref a1), (.ref pa)])) rfl rfl (hb hby d4_70)
      refine OGo.via st50 ?_
      show OGo _ _ _ _ (T50.setTop (mkF m 73 #[.val (.ref a1), .val (.long q1), .second] [(.int (0 : Int32)), (.ref pa)]))
      have f52 := V_pa.keep K16 (ninS (Ne.symm ne_a1_pa) nin0)
      obtain ⟨cl51, Ar51, q51, Sz51, Ng51, Hs51, Gf51⟩ := id f52
      have hin51 : ¬ ((0 : Int32) < 0 ∨ cl51.slots.size ≤ ((0 : Int32)).toNatClampNeg) := inb_of Sz51 ⟨by decide, by decide⟩
      have hat51 : cl51.slots[((0 : Int32)).toNatClampNeg]? = some (.long (pz + (4 : Int64))) := Hs51.at hin51 rfl
      refine OGo.via (X50.laload hx (j := (0 : Int32)) (v := (.long (pz + (4 : Int64)))) (by rw [e50]; exact Ar51.1) (State.isArrayOf_alike hZ.alike Ar51.2.1) Ar51.2.2 hin51 hat51 (g := (mkF m 73 #[.val (.ref a1), .val (.long q1), .second] [(.int (0 : Int32)), (.ref pa)])) rfl rfl (hb hby d4_73)) ?_
      show OGo _ _ _ _ (T50.setTop (mkF m 74 #[.val (.ref a1), .val (.long q1), .second] [(.long (pz + (4 : Int64)))]))
      show OGo _ _ _ _ (T50.setTop (mkF m 74 #[.val (.ref a1), .val (.long q1), .second] [(.long (pz + (4 : Int64)))]))
      have hD : (own_adv (own_adv (own_adv (own_adv (own_adv (3 : Int32) (5 : Int32) t0 t1 t2 t3 t4 q1) (5 : Int32) t0 t1 t2 t3 t4 q1) (5 : Int32) t0 t1 t2 t3 t4 q1) (5 : Int32) t0 t1 t2 t3 t4 q1) (5 : Int32) t0 t1 t2 t3 t4 q1) = (4 : Int32) := by rw [own_adv_y (k := (3 : Int32)) (k' := (4 : Int32)) (by decide) (by decide) (by rw [own_t3]; exact hc18_5), own_adv_n (k := (4 : Int32)) (by rw [own_t4]; exact hc18_26), own_adv_n (k := (4 : Int32)) (by rw [own_t4]; exact hc18_26), own_adv_n (k := (4 : Int32)) (by rw [own_t4]; exact hc18_26), own_adv_n (k := (4 : Int32)) (by rw [own_t4]; exact hc18_26)]
      have f53 := f17.wr W16
      refine own_retL X50 hx Bd.notSynchronized Bd.returns (hb hby d4_74) (by decide) (by decide) ?_
      show Q_rm4b3 Z _ _ _ _ _ _ _ _ _ _ _ _ _ h0 n0 _ T50.heap _
      rw [e50]
      exact ⟨(by rw [hD, own_xn (by decide)]; rfl), N16, K16, f53, (by rw [hD]; exact Fw16)⟩
  · refine OGo.via (fun _ k => XS.ifYes X3.here hx rfl (pc0 := 18) (pc' := 52) rfl (hb hby d4_18) rfl ((if0 _ _).trans (flt hc18_5).2.1) (by decide) (by decide) k) ?_
    show OGo _ _ _ _ (T3.setTop (mkF m 52 #[.val (.ref a1), .val (.long q1), .second] []))
    refine OGo.via (fun _ k => XS.aloadN X3.here hx rfl (hb hby d4_52) rfl rfl k) ?_
    obtain ⟨T54, X54, e54, st54⟩ := getF X3 hx hZ hown (host := "") (Or.inl (own_w hw 27 rfl)) Via.refl e3 F_count_a1 (g := (mkF m 53 #[.val (.ref a1), .val (.long q1), .second] [(.ref a1)])) rfl rfl (hb hby d4_53)
    refine OGo.via st54 ?_
    show OGo _ _ _ _ (T54.setTop (mkF m 56 #[.val (.ref a1), .val (.long q1), .second] [(.int (2 : Int32))]))
    refine OGo.via (fun _ k => XS.ifYes X54.here hx rfl (pc0 := 56) (pc' := 65) rfl (hb hby d4_56) rfl ((if0 _ _).trans (feq (by decide : ¬ ((2 : Int32) = (0 : Int32)))).2) (by decide) (by decide) k) ?_
    show OGo _ _ _ _ (T54.setTop (mkF m 65 #[.val (.ref a1), .val (.long q1), .second] []))
    refine OGo.via (fun _ k => XS.aloadN X54.here hx rfl (hb hby d4_65) rfl rfl k) ?_
    obtain ⟨T55, X55, e55, st55⟩ := getF X54 hx hZ hown (host := "") (Or.inl (own_w hw 12 rfl)) Via.refl e54 F_positions_a1 (g := (mkF m 66 #[.val (.ref a1), .val (.long q1), .second] [(.ref a1)])) rfl rfl (hb hby d4_66)
    refine OGo.via st55 ?_
    show OGo _ _ _ _ (T55.setTop (mkF m 69 #[.val (.ref a1), .val (.long q1), .second] [(.ref pa)]))
    refine OGo.via (fun _ k => XS.aloadN X55.here hx rfl (hb hby d4_69) rfl rfl k) ?_
    obtain ⟨T56, X56, e56, st56⟩ := getF X55 hx hZ hown (host := "") (Or.inl (own_w hw 30 rfl)) Via.refl e55 F_first_a1 (g := (mkF m 70 #[.val (.ref a1), .val (.long q1), .second] [(.ref a1), (.ref pa)])) rfl rfl (hb hby d4_70)
    refine OGo.via st56 ?_
    show OGo _ _ _ _ (T56.setTop (mkF m 73 #[.val (.ref a1), .val (.long q1), .second] [(.int (3 : Int32)), (.ref pa)]))
    obtain ⟨cl57, Ar57, q57, Sz57, Ng57, Hs57, Gf57⟩ := id V_pa
    have hin57 : ¬ ((3 : Int32) < 0 ∨ cl57.slots.size ≤ ((3 : Int32)).toNatClampNeg) := inb_of Sz57 ⟨by decide, by decide⟩
    have hat57 : cl57.slots[((3 : Int32)).toNatClampNeg]? = some (.long (pz + (3 : Int64))) := Hs57.at hin57 rfl
    refine OGo.via (X56.laload hx (j := (3 : Int32)) (v := (.long (pz + (3 : Int64)))) (by rw [e56]; exact Ar57.1) (State.isArrayOf_alike hZ.alike Ar57.2.1) Ar57.2.2 hin57 hat57 (g := (mkF m 73 #[.val (.ref a1), .val (.long q1), .second] [(.int (3 : Int32)), (.ref pa)])) rfl rfl (hb hby d4_73)) ?_
    show OGo _ _ _ _ (T56.setTop (mkF m 74 #[.val (.ref a1), .val (.long q1), .second] [(.long (pz + (3 : Int64)))]))
    show OGo _ _ _ _ (T56.setTop (mkF m 74 #[.val (.ref a1), .val (.long q1), .second] [(.long (pz + (3 : Int64)))]))
    have hD : (own_adv (own_adv (own_adv (own_adv (own_adv (3 : Int32) (5 : Int32) t0 t1 t2 t3 t4 q1) (5 : Int32) t0 t1 t2 t3 t4 q1) (5 : Int32) t0 t1 t2 t3 t4 q1) (5 : Int32) t0 t1 t2 t3 t4 q1) (5 : Int32) t0 t1 t2 t3 t4 q1) = (3 : Int32) := by rw [own_adv_n (k := (3 : Int32)) (by rw [own_t3]; exact hc18_5), own_adv_n (k := (3 : Int32)) (by rw [own_t3]; exact hc18_5), own_adv_n (k := (3 : Int32)) (by rw [own_t3]; exact hc18_5), own_adv_n (k := (3 : Int32)) (by rw [own_t3]; exact hc18_5), own_adv_n (k := (3 : Int32)) (by rw [own_t3]; exact hc18_5)]
    refine own_retL X56 hx Bd.notSynchronized Bd.returns (hb hby d4_74) (by decide) (by decide) ?_
    show Q_rm4b3 Z _ _ _ _ _ _ _ _ _ _ _ _ _ h0 n0 _ T56.heap _
    rw [e56]
    exact ⟨(by rw [hD, own_xn (by decide)]; rfl), N0, (Keep.refl h0 [a1]), E_a1, (by rw [hD]; exact F_count_a1)⟩
theorem ef_rm4b4 (m : MethodId) (a1 : Addr) (q1 : Int64) : entryFrame m #[(.ref a1), (.long q1)] 3 = mkF m 0 #[.val (.ref a1), .val (.long q1), .second] [] := by first | (simp [entryFrame, mkF, argsToLocals, Value.category]; done) | rfl
def Q_rm4b4 (Z : State) (a1 : Addr) (q1 : Int64) (pa : Addr) (ta : Addr) (kp : ClassId) (kt : ClassId) (bf : Int64) (pz : Int64) (t0 : Int64) (t1 : Int64) (t2 : Int64) (t3 : Int64) (t4 : Int64) (h0 : Heap) (n0 : Nat) (v : Option Value) (h : Heap) (L : List Loc) : Prop := v = some (.long (own_x (own_adv (own_adv (own_adv (own_adv (own_adv (4 : Int32) (5 : Int32) t0 t1 t2 t3 t4 q1) (5 : Int32) t0 t1 t2 t3 t4 q1) (5 : Int32) t0 t1 t2 t3 t4 q1) (5 : Int32) t0 t1 t2 t3 t4 q1) (5 : Int32) t0 t1 t2 t3 t4 q1) (5 : Int32) pz)) ∧ Fr n0 L ∧ Keep h0 h [a1] ∧ Exa Z h a1 "com/example/eventloom/eventloom/engine/Forbidden" ∧ Fld Z h a1 "com/example/eventloom/eventloom/engine/Forbidden" "count" "I" (.int (own_h (own_adv (own_adv (own_adv (own_adv (own_adv (4 : Int32) (5 : Int32) t0 t1 t2 t3 t4 q1) (5 : Int32) t0 t1 t2 t3 t4 q1) (5 : Int32) t0 t1 t2 t3 t4 q1) (5 : Int32) t0 t1 t2 t3 t4 q1) (5 : Int32) t0 t1 t2 t3 t4 q1) (5 : Int32)))
set_option maxRecDepth 65536 in
set_option maxHeartbeats 40000000 in
theorem rm4b4 (l : Launch) (Z : State) (a0 : Array Value) (hw : ∀ d ∈ tables_1, d.before a0 Z = true) (ws : List Jvm.Cond) (a1 : Addr) (q1 : Int64) (pa : Addr) (ta : Addr) (kp : ClassId) (kt : ClassId) (bf : Int64) (pz : Int64) (t0 : Int64) (t1 : Int64) (t2 : Int64) (t3 : Int64) (t4 : Int64) (h0 : Heap) (n0 : Nat) (Z0 : n0 ≤ h0.size) (E_a1 : Exa Z h0 a1 "com/example/eventloom/eventloom/engine/Forbidden") (F_positions_a1 : Fld Z h0 a1 "com/example/eventloom/eventloom/engine/Forbidden" "positions" "[J" (.ref pa)) (F_times_a1 : Fld Z h0 a1 "com/example/eventloom/eventloom/engine/Forbidden" "times" "[J" (.ref ta)) (F_first_a1 : Fld Z h0 a1 "com/example/eventloom/eventloom/engine/Forbidden" "first" "I" (.int (0 : Int32))) (F_count_a1 : Fld Z h0 a1 "com/example/eventloom/eventloom/engine/Forbidden" "count" "I" (.int (1 : Int32))) (F_befores_a1 : Fld Z h0 a1 "com/example/eventloom/eventloom/engine/Forbidden" "befores" "J" (.long bf)) (V_pa : Arv Z h0 pa kp .long (4 : Int32) [(.long (pz + (4 : Int64))), (.long (pz + (1 : Int64))), (.long (pz + (2 : Int64))), (.long (pz + (3 : Int64)))] (.long (0 : Int64))) (V_ta : Arv Z h0 ta kt .long (4 : Int32) [(.long t4), (.long t1), (.long t2), (.long t3)] (.long (0 : Int64))) (ne_a1_pa : a1 ≠ pa) (ne_a1_ta : a1 ≠ ta) (g_a1 : n0 ≤ a1) :
    MetFree l own_y4 (head1 (Jvm.Cond.code own_y4 prog_122_method_4_code 3 (some .long) :: ws) ({ frames := 0, cells := 0, slots := 0, locals := 0 } : Room)) (fun a U => a = #[(.ref a1), (.long q1)] ∧ Z.Warmed39 U.vm ∧ U.heap = h0) (fun _ _ _ _ _ => True) (fun _ U o U' => ∃ v L, o = .returned v ∧ Q_rm4b4 Z a1 q1 pa ta kp kt bf pz t0 t1 t2 t3 t4 h0 n0 v U'.heap L ∧ FrameEnd U o U' L ({ frames := 0, cells := 0, slots := 0, locals := 0 } : Room).cells ({ frames := 0, cells := 0, slots := 0, locals := 0 } : Room).slots) := by
  refine MetFree.of_bodySF (plainFor_of_name pn_Forbidden) hisR ?_
  intro p e s m args below meth c s₁ Bd hml0 hP hK
  obtain ⟨rfl, hZ, hh⟩ := hP
  have hx := Bd.exec
  have hby := Bd.bytes
  have hml : c.maxLocals = 3 := hml0
  have hown : s.vm.findClass "com/example/eventloom/eventloom/engine/Forbidden" = some m.cls := findClass_of_methodNamed Bd.named
  have hnm := (name_of_methodNamed Bd.named Bd.method).1
  have X0 : Stand p l e ({ frames := 0, cells := 0, slots := 0, locals := 0 } : Room) s m #[(.ref a1), (.long q1)] below meth c s₁ [] 0 0 := Stand.of_body Bd
  have e0 : s₁.heap = h0 := by rw [← hh, Bd.state]; rfl
  have N0 := Fr.nil n0
  show OGo p.tables e below (own_Kq s (fun v h L => Q_rm4b4 Z a1 q1 pa ta kp kt bf pz t0 t1 t2 t3 t4 h0 n0 v h L) ({ frames := 0, cells := 0, slots := 0, locals := 0 } : Room).cells ({ frames := 0, cells := 0, slots := 0, locals := 0 } : Room).slots) (s₁.setTop (entryFrame m #[(.ref a1), (.long q1)] 3))
  refine OGo.cast (ef_rm4b4 m a1 q1) ?_
  show OGo _ _ _ _ (s₁.setTop (mkF m 0 #[.val (.ref a1), .val (.long q1), .second] []))
  refine OGo.via (fun _ k => XS.aloadN X0.here hx rfl (hb hby d4_0) rfl rfl k) ?_
  obtain ⟨T1, X1, e1, st1⟩ := getF X0 hx hZ hown (host := "") (Or.inl (own_w hw 27 rfl)) Via.refl e0 F_count_a1 (g := (mkF m 1 #[.val (.ref a1), .val (.long q1), .second] [(.ref a1)])) rfl rfl (hb hby d4_1)
  refine OGo.via st1 ?_
  show OGo _ _ _ _ (T1.setTop (mkF m 4 #[.val (.ref a1), .val (.long q1), .second] [(.int (1 : Int32))]))
  refine OGo.via (fun _ k => XS.ifNo X1.here hx rfl (hb hby d4_4) rfl ((if0 _ _).trans (tlt (by decide : (0 : Int32) < (1 : Int32))).2.2.2) k) ?_
  show OGo _ _ _ _ (T1.setTop (mkF m 7 #[.val (.ref a1), .val (.long q1), .second] []))
  refine OGo.via (fun _ k => XS.aloadN X1.here hx rfl (hb hby d4_7) rfl rfl k) ?_
  obtain ⟨T2, X2, e2, st2⟩ := getF X1 hx hZ hown (host := "") (Or.inl (own_w hw 14 rfl)) Via.refl e1 F_times_a1 (g := (mkF m 8 #[.val (.ref a1), .val (.long q1), .second] [(.ref a1)])) rfl rfl (hb hby d4_8)
  refine OGo.via st2 ?_
  show OGo _ _ _ _ (T2.setTop (mkF m 11 #[.val (.ref a1), .val (.long q1), .second] [(.ref ta)]))
  refine OGo.via (fun _ k => XS.aloadN X2.here hx rfl (hb hby d4_11) rfl rfl k) ?_
  obtain ⟨T3, X3, e3, st3⟩ := getF X2 hx hZ hown (host := "") (Or.inl (own_w hw 30 rfl)) Via.refl e2 F_first_a1 (g := (mkF m 12 #[.val (.ref a1), .val (.long q1), .second] [(.ref a1), (.ref ta)])) rfl rfl (hb hby d4_12)
  refine OGo.via st3 ?_
  show OGo _ _ _ _ (T3.setTop (mkF m 15 #[.val (.ref a1), .val (.long q1), .second] [(.int (0 : Int32)), (.ref ta)]))
  obtain ⟨cl4, Ar4, q4, Sz4, Ng4, Hs4, Gf4⟩ := id V_ta
  have hin4 : ¬ ((0 : Int32) < 0 ∨ cl4.slots.size ≤ ((0 : Int32)).toNatClampNeg) := inb_of Sz4 ⟨by decide, by decide⟩
  have hat4 : cl4.slots[((0 : Int32)).toNatClampNeg]? = some (.long t4) := Hs4.at hin4 rfl
  refine OGo.via (X3.laload hx (j := (0 : Int32)) (v := (.long t4)) (by rw [e3]; exact Ar4.1) (State.isArrayOf_alike hZ.alike Ar4.2.1) Ar4.2.2 hin4 hat4 (g := (mkF m 15 #[.val (.ref a1), .val (.long q1), .second] [(.int (0 : Int32)), (.ref ta)])) rfl rfl (hb hby d4_15)) ?_
  show OGo _ _ _ _ (T3.setTop (mkF m 16 #[.val (.ref a1), .val (.long q1), .second] [(.long t4)]))
  refine OGo.via (fun _ k => XS.lloadN X3.here hx rfl (hb hby d4_16) rfl (XS.lcmp X3.here hx rfl (hb hby d4_17) rfl k)) ?_
  by_cases hc18_5 : (lcmpW t4 q1) < (0 : Int32)
  · refine OGo.via (fun _ k => XS.ifNo X3.here hx rfl (hb hby d4_18) rfl ((if0 _ _).trans (tlt hc18_5).2.1) k) ?_
    show OGo _ _ _ _ (T3.setTop (mkF m 21 #[.val (.ref a1), .val (.long q1), .second] []))
    refine OGo.via (fun _ k => XS.aloadN X3.here hx rfl (hb hby d4_21) rfl rfl (XS.aloadN X3.here hx rfl (hb hby d4_22) rfl rfl k)) ?_
    obtain ⟨T6, X6, e6, st6⟩ := getF X3 hx hZ hown (host := "") (Or.inl (own_w hw 30 rfl)) Via.refl e3 F_first_a1 (g := (mkF m 23 #[.val (.ref a1), .val (.long q1), .second] [(.ref a1), (.ref a1)])) rfl rfl (hb hby d4_23)
    refine OGo.via st6 ?_
    show OGo _ _ _ _ (T6.setTop (mkF m 26 #[.val (.ref a1), .val (.long q1), .second] [(.int (0 : Int32)), (.ref a1)]))
    refine OGo.via (fun _ k => XS.iconst X6.here hx rfl (hb hby d4_26) (XS.iadd X6.here hx rfl (hb hby d4_27) rfl k)) ?_
    show OGo _ _ _ _ (T6.setTop (mkF m 28 #[.val (.ref a1), .val (.long q1), .second] [(.int ((0 : Int32) + (1 : Int32))), (.ref a1)]))
    rw [show ((0 : Int32) + (1 : Int32)) = (1 : Int32) from by decide]
    refine OGo.via (fun _ k => XS.aloadN X6.here hx rfl (hb hby d4_28) rfl rfl k) ?_
    obtain ⟨T8, X8, e8, st8⟩ := getF X6 hx hZ hown (host := "") (Or.inl (own_w hw 12 rfl)) Via.refl e6 F_positions_a1 (g := (mkF m 29 #[.val (.ref a1), .val (.long q1), .second] [(.ref a1), (.int (1 : Int32)), (.ref a1)])) rfl rfl (hb hby d4_29)
    refine OGo.via st8 ?_
    show OGo _ _ _ _ (T8.setTop (mkF m 32 #[.val (.ref a1), .val (.long q1), .second] [(.ref pa), (.int (1 : Int32)), (.ref a1)]))
    obtain ⟨cl9, Ar9, q9, Sz9, Ng9, Hs9, Gf9⟩ := id V_pa
    refine OGo.via (X8.arraylength hx (by rw [e8]; exact Ar9.1) (State.isArrayOf_alike hZ.alike Ar9.2.1) (g := (mkF m 32 #[.val (.ref a1), .val (.long q1), .second] [(.ref pa), (.int (1 : Int32)), (.ref a1)])) rfl rfl (hb hby d4_32)) ?_
    rw [len_of Sz9 Ng9]
    show OGo _ _ _ _ (T8.setTop (mkF m 33 #[.val (.ref a1), .val (.long q1), .second] [(.int (4 : Int32)), (.int (1 : Int32)), (.ref a1)]))
    refine OGo.via (fun _ k => XS.iconst X8.here hx rfl (hb hby d4_33) (XS.isub X8.here hx rfl (hb hby d4_34) rfl k)) ?_
    show OGo _ _ _ _ (T8.setTop (mkF m 35 #[.val (.ref a1), .val (.long q1), .second] [(.int ((4 : Int32) - (1 : Int32))), (.int (1 : Int32)), (.ref a1)]))
    rw [show ((4 : Int32) - (1 : Int32)) = (3 : Int32) from by decide]
    refine OGo.via (fun _ k => XS.iand X8.here hx rfl (hb hby d4_35) rfl k) ?_
    show OGo _ _ _ _ (T8.setTop (mkF m 36 #[.val (.ref a1), .val (.long q1), .second] [(.int ((1 : Int32) &&& (3 : Int32))), (.ref a1)]))
    rw [show ((1 : Int32) &&& (3 : Int32)) = (1 : Int32) from by decide]
    obtain ⟨T12, h12, X12, e12, W12, st12⟩ := putF X8 hx hZ hown (host := "") (Or.inl (own_w hw 30 rfl)) Via.refl e8 F_first_a1 E_a1 (Or.inl (own_w hw 31 rfl)) (own_w hw 2 rfl) (ty := .int) (by decide) rfl rfl (g := (mkF m 36 #[.val (.ref a1), .val (.long q1), .second] [(.int (1 : Int32)), (.ref a1)])) rfl rfl (hb hby d4_36)
    refine OGo.via st12 ?_
    have Fw12 := F_first_a1.same W12
    have K12 : Keep h0 h12 [a1] := (Keep.refl h0 [a1]).wr W12 (Or.inl (List.mem_of_getElem? (i := 0) rfl))
    have N12 := Fr.snoc X12 N0 g_a1
    show OGo _ _ _ _ (T12.setTop (mkF m 39 #[.val (.ref a1), .val (.long q1), .second] []))
    refine OGo.via (fun _ k => XS.aloadN X12.here hx rfl (hb hby d4_39) rfl rfl (XS.dup X12.here hx rfl (hb hby d4_40) rfl rfl k)) ?_
    have f14 := F_count_a1.other W12 (Or.inr (slot_ne (Or.inl (own_w hw 28 rfl)) (Or.inl (own_w hw 31 rfl)) (by decide) (t := .int) (t' := .int) (by decide) (by decide)))
    obtain ⟨T13, X13, e13, st13⟩ := getF X12 hx hZ hown (host := "") (Or.inl (own_w hw 27 rfl)) Via.refl e12 f14 (g := (mkF m 41 #[.val (.ref a1), .val (.long q1), .second] [(.ref a1), (.ref a1)])) rfl rfl (hb hby d4_41)
    refine OGo.via st13 ?_
    show OGo _ _ _ _ (T13.setTop (mkF m 44 #[.val (.ref a1), .val (.long q1), .second] [(.int (1 : Int32)), (.ref a1)]))
    refine OGo.via (fun _ k => XS.iconst X13.here hx rfl (hb hby d4_44) (XS.isub X13.here hx rfl (hb hby d4_45) rfl k)) ?_
    show OGo _ _ _ _ (T13.setTop (mkF m 46 #[.val (.ref a1), .val (.long q1), .second] [(.int ((1 : Int32) - (1 : Int32))), (.ref a1)]))
    rw [show ((1 : Int32) - (1 : Int32)) = (0 : Int32) from by decide]
    have f17 := E_a1.wr W12
    obtain ⟨T16, h16, X16, e16, W16, st16⟩ := putF X13 hx hZ hown (host := "") (Or.inl (own_w hw 27 rfl)) Via.refl e13 f14 f17 (Or.inl (own_w hw 28 rfl)) (own_w hw 2 rfl) (ty := .int) (by decide) rfl rfl (g := (mkF m 46 #[.val (.ref a1), .val (.long q1), .second] [(.int (0 : Int32)), (.ref a1)])) rfl rfl (hb hby d4_46)
    refine OGo.via st16 ?_
    have Fw16 := f14.same W16
    have K16 : Keep h0 h16 [a1] := K12.wr W16 (Or.inl (List.mem_of_getElem? (i := 0) rfl))
    have N16 := Fr.snoc X16 N12 g_a1
    show OGo _ _ _ _ (T16.setTop (mkF m 49 #[.val (.ref a1), .val (.long q1), .second] []))
    refine OGo.via (fun _ k => XS.goto X16.here hx rfl (pc0 := 49) (pc' := 0) rfl (hb hby d4_49) (by decide) (by decide) (XS.aloadN X16.here hx rfl (hb hby d4_0) rfl rfl k)) ?_
    obtain ⟨T18, X18, e18, st18⟩ := getF X16 hx hZ hown (host := "") (Or.inl (own_w hw 27 rfl)) Via.refl e16 Fw16 (g := (mkF m 1 #[.val (.ref a1), .val (.long q1), .second] [(.ref a1)])) rfl rfl (hb hby d4_1)
    refine OGo.via st18 ?_
    show OGo _ _ _ _ (T18.setTop (mkF m 4 #[.val (.ref a1), .val (.long q1), .second] [(.int (0 : Int32))]))
    refine OGo.via (fun _ k => XS.ifYes X18.here hx rfl (pc0 := 4) (pc' := 52) rfl (hb hby d4_4) rfl ((if0 _ _).trans (flt (by decide : ¬ ((0 : Int32) < (0 : Int32)))).2.2.2) (by decide) (by decide) k) ?_
    show OGo _ _ _ _ (T18.setTop (mkF m 52 #[.val (.ref a1), .val (.long q1), .second] []))
    refine OGo.via (fun _ k => XS.aloadN X18.here hx rfl (hb hby d4_52) rfl rfl k) ?_
    obtain ⟨T19, X19, e19, st19⟩ := getF X18 hx hZ hown (host := "") (Or.inl (own_w hw 27 rfl)) Via.refl e18 Fw16 (g := (mkF m 53 #[.val (.ref a1), .val (.long q1), .second] [(.ref a1)])) rfl rfl (hb hby d4_53)
    refine OGo.via st19 ?_
    show OGo _ _ _ _ (T19.setTop (mkF m 56 #[.val (.ref a1), .val (.long q1), .second] [(.int (0 : Int32))]))
    refine OGo.via (fun _ k => XS.ifNo X19.here hx rfl (hb hby d4_56) rfl ((if0 _ _).trans (teq (by decide : (0 : Int32) = (0 : Int32))).2) k) ?_
    show OGo _ _ _ _ (T19.setTop (mkF m 59 #[.val (.ref a1), .val (.long q1), .second] []))
    refine OGo.via (X19.ldc2Long hx hown (mvT hZ (own_w hw 29 rfl)) (g := (mkF m 59 #[.val (.ref a1), .val (.long q1), .second] [])) rfl (hb hby d4_59)) ?_
    show OGo _ _ _ _ (T19.setTop (mkF m 62 #[.val (.ref a1), .val (.long q1), .second] [(.long (9223372036854775807 : Int64))]))
    refine OGo.via (fun _ k => XS.goto X19.here hx rfl (pc0 := 62) (pc' := 74) rfl (hb hby d4_62) (by decide) (by decide) k) ?_
    show OGo _ _ _ _ (T19.setTop (mkF m 74 #[.val (.ref a1), .val (.long q1), .second] [(.long (9223372036854775807 : Int64))]))
    have hD : (own_adv (own_adv (own_adv (own_adv (own_adv (4 : Int32) (5 : Int32) t0 t1 t2 t3 t4 q1) (5 : Int32) t0 t1 t2 t3 t4 q1) (5 : Int32) t0 t1 t2 t3 t4 q1) (5 : Int32) t0 t1 t2 t3 t4 q1) (5 : Int32) t0 t1 t2 t3 t4 q1) = (5 : Int32) := by rw [own_adv_y (k := (4 : Int32)) (k' := (5 : Int32)) (by decide) (by decide) (by rw [own_t4]; exact hc18_5), own_adv_o (k := (5 : Int32)) (by decide), own_adv_o (k := (5 : Int32)) (by decide), own_adv_o (k := (5 : Int32)) (by decide), own_adv_o (k := (5 : Int32)) (by decide)]
    have f20 := f17.wr W16
    refine own_retL X19 hx Bd.notSynchronized Bd.returns (hb hby d4_74) (by decide) (by decide) ?_
    show Q_rm4b4 Z _ _ _ _ _ _ _ _ _ _ _ _ _ h0 n0 _ T19.heap _
    rw [e19]
    exact ⟨(by rw [hD, own_xy rfl]), N16, K16, f20, (by rw [hD]; exact Fw16)⟩
  · refine OGo.via (fun _ k => XS.ifYes X3.here hx rfl (pc0 := 18) (pc' := 52) rfl (hb hby d4_18) rfl ((if0 _ _).trans (flt hc18_5).2.1) (by decide) (by decide) k) ?_
    show OGo _ _ _ _ (T3.setTop (mkF m 52 #[.val (.ref a1), .val (.long q1), .second] []))
    refine OGo.via (fun _ k => XS.aloadN X3.here hx rfl (hb hby d4_52) rfl rfl k) ?_
    obtain ⟨T21, X21, e21, st21⟩ := getF X3 hx hZ hown (host := "") (Or.inl (own_w hw 27 rfl)) Via.refl e3 F_count_a1 (g := (mkF m 53 #[.val (.ref a1), .val (.long q1), .second] [(.ref a1)])) rfl rfl (hb hby d4_53)
    refine OGo.via st21 ?_
    show OGo _ _ _ _ (T21.setTop (mkF m 56 #[.val (.ref a1), .val (.long q1), .second] [(.int (1 : Int32))]))
    refine OGo.via (fun _ k => XS.ifYes X21.here hx rfl (pc0 := 56) (pc' := 65) rfl (hb hby d4_56) rfl ((if0 _ _).trans (feq (by decide : ¬ ((1 : Int32) = (0 : Int32)))).2) (by decide) (by decide) k) ?_
    show OGo _ _ _ _ (T21.setTop (mkF m 65 #[.val (.ref a1), .val (.long q1), .second] []))
    refine OGo.via (fun _ k => XS.aloadN X21.here hx rfl (hb hby d4_65) rfl rfl k) ?_
    obtain ⟨T22, X22, e22, st22⟩ := getF X21 hx hZ hown (host := "") (Or.inl (own_w hw 12 rfl)) Via.refl e21 F_positions_a1 (g := (mkF m 66 #[.val (.ref a1), .val (.long q1), .second] [(.ref a1)])) rfl rfl (hb hby d4_66)
    refine OGo.via st22 ?_
    show OGo _ _ _ _ (T22.setTop (mkF m 69 #[.val (.ref a1), .val (.long q1), .second] [(.ref pa)]))
    refine OGo.via (fun _ k => XS.aloadN X22.here hx rfl (hb hby d4_69) rfl rfl k) ?_
    obtain ⟨T23, X23, e23, st23⟩ := getF X22 hx hZ hown (host := "") (Or.inl (own_w hw 30 rfl)) Via.refl e22 F_first_a1 (g := (mkF m 70 #[.val (.ref a1), .val (.long q1), .second] [(.ref a1), (.ref pa)])) rfl rfl (hb hby d4_70)
    refine OGo.via st23 ?_
    show OGo _ _ _ _ (T23.setTop (mkF m 73 #[.val (.ref a1), .val (.long q1), .second] [(.int (0 : Int32)), (.ref pa)]))
    obtain ⟨cl24, Ar24, q24, Sz24, Ng24, Hs24, Gf24⟩ := id V_pa
    have hin24 : ¬ ((0 : Int32) < 0 ∨ cl24.slots.size ≤ ((0 : Int32)).toNatClampNeg) := inb_of Sz24 ⟨by decide, by decide⟩
    have hat24 : cl24.slots[((0 : Int32)).toNatClampNeg]? = some (.long (pz + (4 : Int64))) := Hs24.at hin24 rfl
    refine OGo.via (X23.laload hx (j := (0 : Int32)) (v := (.long (pz + (4 : Int64)))) (by rw [e23]; exact Ar24.1) (State.isArrayOf_alike hZ.alike Ar24.2.1) Ar24.2.2 hin24 hat24 (g := (mkF m 73 #[.val (.ref a1), .val (.long q1), .second] [(.int (0 : Int32)), (.ref pa)])) rfl rfl (hb hby d4_73)) ?_
    show OGo _ _ _ _ (T23.setTop (mkF m 74 #[.val (.ref a1), .val (.long q1), .second] [(.long (pz + (4 : Int64)))]))
    show OGo _ _ _ _ (T23.setTop (mkF m 74 #[.val (.ref a1), .val (.long q1), .second] [(.long (pz + (4 : Int64)))]))
    have hD : (own_adv (own_adv (own_adv (own_adv (own_adv (4 : Int32) (5 : Int32) t0 t1 t2 t3 t4 q1) (5 : Int32) t0 t1 t2 t3 t4 q1) (5 : Int32) t0 t1 t2 t3 t4 q1) (5 : Int32) t0 t1 t2 t3 t4 q1) (5 : Int32) t0 t1 t2 t3 t4 q1) = (4 : Int32) := by rw [own_adv_n (k := (4 : Int32)) (by rw [own_t4]; exact hc18_5), own_adv_n (k := (4 : Int32)) (by rw [own_t4]; exact hc18_5), own_adv_n (k := (4 : Int32)) (by rw [own_t4]; exact hc18_5), own_adv_n (k := (4 : Int32)) (by rw [own_t4]; exact hc18_5), own_adv_n (k := (4 : Int32)) (by rw [own_t4]; exact hc18_5)]
    refine own_retL X23 hx Bd.notSynchronized Bd.returns (hb hby d4_74) (by decide) (by decide) ?_
    show Q_rm4b4 Z _ _ _ _ _ _ _ _ _ _ _ _ _ h0 n0 _ T23.heap _
    rw [e23]
    exact ⟨(by rw [hD, own_xn (by decide)]; rfl), N0, (Keep.refl h0 [a1]), E_a1, (by rw [hD]; exact F_count_a1)⟩
theorem own_D1 (t0 t1 t2 t3 t4 e : Int64) : (own_adv (own_adv (own_adv (own_adv (0 : Int32) (4 : Int32) t0 t1 t2 t3 t4 e) (4 : Int32) t0 t1 t2 t3 t4 e) (4 : Int32) t0 t1 t2 t3 t4 e) (4 : Int32) t0 t1 t2 t3 t4 e) = 0 ∨ (own_adv (own_adv (own_adv (own_adv (0 : Int32) (4 : Int32) t0 t1 t2 t3 t4 e) (4 : Int32) t0 t1 t2 t3 t4 e) (4 : Int32) t0 t1 t2 t3 t4 e) (4 : Int32) t0 t1 t2 t3 t4 e) = 1 ∨ (own_adv (own_adv (own_adv (own_adv (0 : Int32) (4 : Int32) t0 t1 t2 t3 t4 e) (4 : Int32) t0 t1 t2 t3 t4 e) (4 : Int32) t0 t1 t2 t3 t4 e) (4 : Int32) t0 t1 t2 t3 t4 e) = 2 ∨ (own_adv (own_adv (own_adv (own_adv (0 : Int32) (4 : Int32) t0 t1 t2 t3 t4 e) (4 : Int32) t0 t1 t2 t3 t4 e) (4 : Int32) t0 t1 t2 t3 t4 e) (4 : Int32) t0 t1 t2 t3 t4 e) = 3 ∨ (own_adv (own_adv (own_adv (own_adv (0 : Int32) (4 : Int32) t0 t1 t2 t3 t4 e) (4 : Int32) t0 t1 t2 t3 t4 e) (4 : Int32) t0 t1 t2 t3 t4 e) (4 : Int32) t0 t1 t2 t3 t4 e) = 4 := by
  by_cases h0 : lcmpW t0 e < 0
  · by_cases h1 : lcmpW t1 e < 0
    · by_cases h2 : lcmpW t2 e < 0
      · by_cases h3 : lcmpW t3 e < 0
        · right; right; right; right
          rw [own_adv_y (k := 0) (k' := 1) (by decide) (by decide) (by rw [own_t0]; exact h0), own_adv_y (k := 1) (k' := 2) (by decide) (by decide) (by rw [own_t1]; exact h1), own_adv_y (k := 2) (k' := 3) (by decide) (by decide) (by rw [own_t2]; exact h2), own_adv_y (k := 3) (k' := 4) (by decide) (by decide) (by rw [own_t3]; exact h3)]
        · right; right; right; left
          rw [own_adv_y (k := 0) (k' := 1) (by decide) (by decide) (by rw [own_t0]; exact h0), own_adv_y (k := 1) (k' := 2) (by decide) (by decide) (by rw [own_t1]; exact h1), own_adv_y (k := 2) (k' := 3) (by decide) (by decide) (by rw [own_t2]; exact h2), own_adv_n (k := 3) (by rw [own_t3]; exact h3)]
      · right; right; left
        rw [own_adv_y (k := 0) (k' := 1) (by decide) (by decide) (by rw [own_t0]; exact h0), own_adv_y (k := 1) (k' := 2) (by decide) (by decide) (by rw [own_t1]; exact h1), own_adv_n (k := 2) (by rw [own_t2]; exact h2), own_adv_n (k := 2) (by rw [own_t2]; exact h2)]
    · right; left
      rw [own_adv_y (k := 0) (k' := 1) (by decide) (by decide) (by rw [own_t0]; exact h0), own_adv_n (k := 1) (by rw [own_t1]; exact h1), own_adv_n (k := 1) (by rw [own_t1]; exact h1), own_adv_n (k := 1) (by rw [own_t1]; exact h1)]
  · left
    rw [own_adv_n (k := 0) (by rw [own_t0]; exact h0), own_adv_n (k := 0) (by rw [own_t0]; exact h0), own_adv_n (k := 0) (by rw [own_t0]; exact h0), own_adv_n (k := 0) (by rw [own_t0]; exact h0)]
theorem pd_4 : parseMethodDescriptor "()V" = some ⟨[], none⟩ := by decide +kernel
theorem pd_5 : parseMethodDescriptor "(JJJ)V" = some ⟨[.long, .long, .long], none⟩ := by decide +kernel
theorem pd_6 : parseMethodDescriptor "()I" = some ⟨[], some .int⟩ := by decide +kernel
theorem pd_7 : parseMethodDescriptor "(II[JJ)I" = some ⟨[.int, .int, (.array .long), .long], some .int⟩ := by decide +kernel
theorem ef_rm0 (m : MethodId) (qa : Int64) (qb : Int64) (ea : Int64) (eb : Int64) (pz : Int64) (mask : Int32) : entryFrame m #[(.long qa), (.long qb), (.long ea), (.long eb), (.long pz), (.int mask)] maxLocals = mkF m 0 #[.val (.long qa), .second, .val (.long qb), .second, .val (.long ea), .second, .val (.long eb), .second, .val (.long pz), .second, .val (.int mask), .unset, .unset, .unset, .unset, .unset, .unset, .unset, .unset, .unset, .unset, .unset, .unset, .unset, .unset] [] := by first | (simp [entryFrame, mkF, argsToLocals, Value.category, maxLocals]; done) | rfl
def Q_rm0 (Z : State) (qa : Int64) (qb : Int64) (ea : Int64) (eb : Int64) (pz : Int64) (mask : Int32) (wN : Addr) (k0 : ClassId) (h0 : Heap) (n0 : Nat) (v : Option Value) (h : Heap) (L : List Loc) : Prop := v = some (.int (1 : Int32)) ∧ Fr n0 L
set_option maxRecDepth 65536 in
set_option maxHeartbeats 40000000 in
theorem rm0 (l : Launch) (Z : State) (a0 : Array Value) (hw : ∀ d ∈ tables_1, d.before a0 Z = true) (ws : List Jvm.Cond) (qa : Int64) (qb : Int64) (ea : Int64) (eb : Int64) (pz : Int64) (mask : Int32) (wN : Addr) (k0 : ClassId) (h0 : Heap) (n0 : Nat) (Z0 : n0 ≤ h0.size) (S_NONE : Sta Z h0 "com/example/eventloom/eventloom/engine/Forbidden" "NONE" "[J" (.ref wN)) (V_wN : Arv Z h0 wN k0 .long (0 : Int32) [] (.long (0 : Int64))) :
    MetFree l x (head1 (Jvm.Cond.code x code maxLocals ret :: ws) room_1) (fun a U => a = #[(.long qa), (.long qb), (.long ea), (.long eb), (.long pz), (.int mask)] ∧ Z.Warmed39 U.vm ∧ U.heap = h0) (fun _ _ _ _ _ => True) (fun _ U o U' => ∃ v L, o = .returned v ∧ Q_rm0 Z qa qb ea eb pz mask wN k0 h0 n0 v U'.heap L ∧ FrameEnd U o U' L room_1.cells room_1.slots) := by
  refine MetFree.of_bodySF (plainFor_of_name pn_ForbiddenLatestFirstPinLaw) hisR ?_
  intro p e s m args below meth c s₁ Bd hml0 hP hK
  obtain ⟨rfl, hZ, hh⟩ := hP
  have hx := Bd.exec
  have hby := Bd.bytes
  have hml : c.maxLocals = 25 := hml0
  have hown : s.vm.findClass "com/example/eventloom/eventloom/engine/ForbiddenLatestFirstPinLaw" = some m.cls := findClass_of_methodNamed Bd.named
  have hnm := (name_of_methodNamed Bd.named Bd.method).1
  have X0 : Stand p l e room_1 s m #[(.long qa), (.long qb), (.long ea), (.long eb), (.long pz), (.int mask)] below meth c s₁ [] 0 0 := Stand.of_body Bd
  have e0 : s₁.heap = h0 := by rw [← hh, Bd.state]; rfl
  have N0 := Fr.nil n0
  show OGo p.tables e below (own_Kq s (fun v h L => Q_rm0 Z qa qb ea eb pz mask wN k0 h0 n0 v h L) room_1.cells room_1.slots) (s₁.setTop (entryFrame m #[(.long qa), (.long qb), (.long ea), (.long eb), (.long pz), (.int mask)] maxLocals))
  refine OGo.cast (ef_rm0 m qa qb ea eb pz mask) ?_
  show OGo _ _ _ _ (s₁.setTop (mkF m 0 #[.val (.long qa), .second, .val (.long qb), .second, .val (.long ea), .second, .val (.long eb), .second, .val (.long pz), .second, .val (.int mask), .unset, .unset, .unset, .unset, .unset, .unset, .unset, .unset, .unset, .unset, .unset, .unset, .unset, .unset] []))
  refine OGo.via (fun _ k => XS.iconst X0.here hx rfl (hb hby at_0) k) ?_
  obtain ⟨T1, h1, ka1, X1, e1, E1, A1, Y1, st1⟩ := newPE (ad := "[J") X0 hx hZ (own_w hw 0 rfl) e0 (g := (mkF m 1 #[.val (.long qa), .second, .val (.long qb), .second, .val (.long ea), .second, .val (.long eb), .second, .val (.long pz), .second, .val (.int mask), .unset, .unset, .unset, .unset, .unset, .unset, .unset, .unset, .unset, .unset, .unset, .unset, .unset, .unset] [(.int (5 : Int32))])) rfl (hb hby at_1) rfl (by decide) (cap := 5) (by decide) (by decide) (by decide) (by decide) (by decide)
  obtain ⟨b1, g1⟩ : ∃ z, z = h0.size := ⟨_, rfl⟩
  rw [← g1] at A1 Y1 st1
  refine OGo.via st1 ?_
  have K1 : Keep h0 h1 [] := (Keep.refl h0 []).ext E1
  have lt_wN_b1 : wN < b1 := Nat.lt_of_lt_of_le V_wN.lt (Nat.le_of_eq g1.symm)
  have sz_b1 : h0.size ≤ b1 := Nat.le_trans (Keep.refl h0 []).1 (Nat.le_of_eq g1.symm)
  have g_b1 : n0 ≤ b1 := Nat.le_trans Z0 sz_b1
  have V1 : Arv Z h1 b1 ka1 .long (5 : Int32) [(.long (0 : Int64)), (.long (0 : Int64)), (.long (0 : Int64)), (.long (0 : Int64)), (.long (0 : Int64))] (.long (0 : Int64)) := (Arv.new A1 (by decide)).pad (pad_rep [] (.long (0 : Int64)) 5)
  show OGo _ _ _ _ (T1.setTop (mkF m 3 #[.val (.long qa), .second, .val (.long qb), .second, .val (.long ea), .second, .val (.long eb), .second, .val (.long pz), .second, .val (.int mask), .unset, .unset, .unset, .unset, .unset, .unset, .unset, .unset, .unset, .unset, .unset, .unset, .unset, .unset] [(.ref b1)]))
  refine OGo.via (fun _ k => XS.astore X1.here hx rfl (hb hby at_3) rfl rfl (l' := #[.val (.long qa), .second, .val (.long qb), .second, .val (.long ea), .second, .val (.long eb), .second, .val (.long pz), .second, .val (.int mask), .val (.ref b1), .unset, .unset, .unset, .unset, .unset, .unset, .unset, .unset, .unset, .unset, .unset, .unset, .unset]) rfl (XS.aload X1.here hx rfl (hb hby at_5) rfl rfl (XS.iconst X1.here hx rfl (hb hby at_7) (XS.iload X1.here hx rfl (hb hby at_8) rfl (XS.iconst X1.here hx rfl (hb hby at_10) (XS.iand X1.here hx rfl (hb hby at_11) rfl k)))))) ?_
  have jn2 : OJn p.tables e below (fun T' (t0 : Int64) => own_St X1 n0 T' ∧ T'.heap = h1 ∧ (True)) (fun t0 => (mkF m 20 #[.val (.long qa), .second, .val (.long qb), .second, .val (.long ea), .second, .val (.long eb), .second, .val (.long pz), .second, .val (.int mask), .val (.ref b1), .unset, .unset, .unset, .unset, .unset, .unset, .unset, .unset, .unset, .unset, .unset, .unset, .unset] [(.long t0), (.int (0 : Int32)), (.ref b1)])) (T1.setTop (mkF m 12 #[.val (.long qa), .second, .val (.long qb), .second, .val (.long ea), .second, .val (.long eb), .second, .val (.long pz), .second, .val (.int mask), .val (.ref b1), .unset, .unset, .unset, .unset, .unset, .unset, .unset, .unset, .unset, .unset, .unset, .unset, .unset] [(.int (mask &&& (1 : Int32))), (.int (0 : Int32)), (.ref b1)])) := by
    by_cases hc12_3 : (mask &&& (1 : Int32)) = (0 : Int32)
    · refine OJn.via (fun _ k => XS.ifYes X1.here hx rfl (pc0 := 12) (pc' := 19) rfl (hb hby at_12) rfl ((if0 _ _).trans (teq hc12_3).1) (by decide) (by decide) k) ?_
      show OJn _ _ _ _ _ (T1.setTop (mkF m 19 #[.val (.long qa), .second, .val (.long qb), .second, .val (.long ea), .second, .val (.long eb), .second, .val (.long pz), .second, .val (.int mask), .val (.ref b1), .unset, .unset, .unset, .unset, .unset, .unset, .unset, .unset, .unset, .unset, .unset, .unset, .unset] [(.int (0 : Int32)), (.ref b1)]))
      refine OJn.via (fun _ k => XS.lloadN X1.here hx rfl (hb hby at_19) rfl k) ?_
      show OJn _ _ _ _ _ (T1.setTop (mkF m 20 #[.val (.long qa), .second, .val (.long qb), .second, .val (.long ea), .second, .val (.long eb), .second, .val (.long pz), .second, .val (.int mask), .val (.ref b1), .unset, .unset, .unset, .unset, .unset, .unset, .unset, .unset, .unset, .unset, .unset, .unset, .unset] [(.long qb), (.int (0 : Int32)), (.ref b1)]))
      exact ⟨_, qb, ⟨⟨_, X1, N0⟩, e1, trivial⟩, fun _ k => k⟩
    · refine OJn.via (fun _ k => XS.ifNo X1.here hx rfl (hb hby at_12) rfl ((if0 _ _).trans (feq hc12_3).1) k) ?_
      show OJn _ _ _ _ _ (T1.setTop (mkF m 15 #[.val (.long qa), .second, .val (.long qb), .second, .val (.long ea), .second, .val (.long eb), .second, .val (.long pz), .second, .val (.int mask), .val (.ref b1), .unset, .unset, .unset, .unset, .unset, .unset, .unset, .unset, .unset, .unset, .unset, .unset, .unset] [(.int (0 : Int32)), (.ref b1)]))
      refine OJn.via (fun _ k => XS.lloadN X1.here hx rfl (hb hby at_15) rfl (XS.goto X1.here hx rfl (pc0 := 16) (pc' := 20) rfl (hb hby at_16) (by decide) (by decide) k)) ?_
      show OJn _ _ _ _ _ (T1.setTop (mkF m 20 #[.val (.long qa), .second, .val (.long qb), .second, .val (.long ea), .second, .val (.long eb), .second, .val (.long pz), .second, .val (.int mask), .val (.ref b1), .unset, .unset, .unset, .unset, .unset, .unset, .unset, .unset, .unset, .unset, .unset, .unset, .unset] [(.long qa), (.int (0 : Int32)), (.ref b1)]))
      exact ⟨_, qa, ⟨⟨_, X1, N0⟩, e1, trivial⟩, fun _ k => k⟩
  obtain ⟨T2, t0, ⟨⟨locs2, X2, N2⟩, e2, hj2⟩, st2⟩ := jn2
  refine OGo.via st2 ?_
  show OGo _ _ _ _ (T2.setTop (mkF m 20 #[.val (.long qa), .second, .val (.long qb), .second, .val (.long ea), .second, .val (.long eb), .second, .val (.long pz), .second, .val (.int mask), .val (.ref b1), .unset, .unset, .unset, .unset, .unset, .unset, .unset, .unset, .unset, .unset, .unset, .unset, .unset] [(.long t0), (.int (0 : Int32)), (.ref b1)]))
  obtain ⟨cl4, Ar4, q4, Sz4, Ng4, Hs4, Gf4⟩ := id V1
  have hin4 : ¬ ((0 : Int32) < 0 ∨ cl4.slots.size ≤ ((0 : Int32)).toNatClampNeg) := inb_of Sz4 ⟨by decide, by decide⟩
  obtain ⟨T4, h4, X4, e4, W4, st4⟩ := stJ X2 hx hZ e2 Ar4 (j := (0 : Int32)) hin4 (g := (mkF m 20 #[.val (.long qa), .second, .val (.long qb), .second, .val (.long ea), .second, .val (.long eb), .second, .val (.long pz), .second, .val (.int mask), .val (.ref b1), .unset, .unset, .unset, .unset, .unset, .unset, .unset, .unset, .unset, .unset, .unset, .unset, .unset] [(.long t0), (.int (0 : Int32)), (.ref b1)])) rfl rfl (hb hby at_20)
  refine OGo.via st4 ?_
  have V4 : Arv Z h4 b1 ka1 .long (5 : Int32) [(.long t0), (.long (0 : Int64)), (.long (0 : Int64)), (.long (0 : Int64)), (.long (0 : Int64))] (.long (0 : Int64)) := Arv.set Ar4 q4 Sz4 Ng4 Hs4 Gf4 rfl W4 0 rfl (Nat.le_of_ble_eq_true rfl)
  have K4 : Keep h0 h4 [] := K1.wr W4 (Or.inr sz_b1)
  have N4 := Fr.snoc X4 N2 g_b1
  show OGo _ _ _ _ (T4.setTop (mkF m 21 #[.val (.long qa), .second, .val (.long qb), .second, .val (.long ea), .second, .val (.long eb), .second, .val (.long pz), .second, .val (.int mask), .val (.ref b1), .unset, .unset, .unset, .unset, .unset, .unset, .unset, .unset, .unset, .unset, .unset, .unset, .unset] []))
  refine OGo.via (fun _ k => XS.aload X4.here hx rfl (hb hby at_21) rfl rfl (XS.iconst X4.here hx rfl (hb hby at_23) (XS.iload X4.here hx rfl (hb hby at_24) rfl (XS.iconst X4.here hx rfl (hb hby at_26) (XS.iand X4.here hx rfl (hb hby at_27) rfl k))))) ?_
  have jn5 : OJn p.tables e below (fun T' (t1 : Int64) => own_St X4 n0 T' ∧ T'.heap = h4 ∧ (True)) (fun t1 => (mkF m 36 #[.val (.long qa), .second, .val (.long qb), .second, .val (.long ea), .second, .val (.long eb), .second, .val (.long pz), .second, .val (.int mask), .val (.ref b1), .unset, .unset, .unset, .unset, .unset, .unset, .unset, .unset, .unset, .unset, .unset, .unset, .unset] [(.long t1), (.int (1 : Int32)), (.ref b1)])) (T4.setTop (mkF m 28 #[.val (.long qa), .second, .val (.long qb), .second, .val (.long ea), .second, .val (.long eb), .second, .val (.long pz), .second, .val (.int mask), .val (.ref b1), .unset, .unset, .unset, .unset, .unset, .unset, .unset, .unset, .unset, .unset, .unset, .unset, .unset] [(.int (mask &&& (2 : Int32))), (.int (1 : Int32)), (.ref b1)])) := by
    by_cases hc28_6 : (mask &&& (2 : Int32)) = (0 : Int32)
    · refine OJn.via (fun _ k => XS.ifYes X4.here hx rfl (pc0 := 28) (pc' := 35) rfl (hb hby at_28) rfl ((if0 _ _).trans (teq hc28_6).1) (by decide) (by decide) k) ?_
      show OJn _ _ _ _ _ (T4.setTop (mkF m 35 #[.val (.long qa), .second, .val (.long qb), .second, .val (.long ea), .second, .val (.long eb), .second, .val (.long pz), .second, .val (.int mask), .val (.ref b1), .unset, .unset, .unset, .unset, .unset, .unset, .unset, .unset, .unset, .unset, .unset, .unset, .unset] [(.int (1 : Int32)), (.ref b1)]))
      refine OJn.via (fun _ k => XS.lloadN X4.here hx rfl (hb hby at_35) rfl k) ?_
      show OJn _ _ _ _ _ (T4.setTop (mkF m 36 #[.val (.long qa), .second, .val (.long qb), .second, .val (.long ea), .second, .val (.long eb), .second, .val (.long pz), .second, .val (.int mask), .val (.ref b1), .unset, .unset, .unset, .unset, .unset, .unset, .unset, .unset, .unset, .unset, .unset, .unset, .unset] [(.long qb), (.int (1 : Int32)), (.ref b1)]))
      exact ⟨_, qb, ⟨⟨_, X4, N4⟩, e4, trivial⟩, fun _ k => k⟩
    · refine OJn.via (fun _ k => XS.ifNo X4.here hx rfl (hb hby at_28) rfl ((if0 _ _).trans (feq hc28_6).1) k) ?_
      show OJn _ _ _ _ _ (T4.setTop (mkF m 31 #[.val (.long qa), .second, .val (.long qb), .second, .val (.long ea), .second, .val (.long eb), .second, .val (.long pz), .second, .val (.int mask), .val (.ref b1), .unset, .unset, .unset, .unset, .unset, .unset, .unset, .unset, .unset, .unset, .unset, .unset, .unset] [(.int (1 : Int32)), (.ref b1)]))
      refine OJn.via (fun _ k => XS.lloadN X4.here hx rfl (hb hby at_31) rfl (XS.goto X4.here hx rfl (pc0 := 32) (pc' := 36) rfl (hb hby at_32) (by decide) (by decide) k)) ?_
      show OJn _ _ _ _ _ (T4.setTop (mkF m 36 #[.val (.long qa), .second, .val (.long qb), .second, .val (.long ea), .second, .val (.long eb), .second, .val (.long pz), .second, .val (.int mask), .val (.ref b1), .unset, .unset, .unset, .unset, .unset, .unset, .unset, .unset, .unset, .unset, .unset, .unset, .unset] [(.long qa), (.int (1 : Int32)), (.ref b1)]))
      exact ⟨_, qa, ⟨⟨_, X4, N4⟩, e4, trivial⟩, fun _ k => k⟩
  obtain ⟨T5, t1, ⟨⟨locs5, X5, N5⟩, e5, hj5⟩, st5⟩ := jn5
  refine OGo.via st5 ?_
  show OGo _ _ _ _ (T5.setTop (mkF m 36 #[.val (.long qa), .second, .val (.long qb), .second, .val (.long ea), .second, .val (.long eb), .second, .val (.long pz), .second, .val (.int mask), .val (.ref b1), .unset, .unset, .unset, .unset, .unset, .unset, .unset, .unset, .unset, .unset, .unset, .unset, .unset] [(.long t1), (.int (1 : Int32)), (.ref b1)]))
  obtain ⟨cl7, Ar7, q7, Sz7, Ng7, Hs7, Gf7⟩ := id V4
  have hin7 : ¬ ((1 : Int32) < 0 ∨ cl7.slots.size ≤ ((1 : Int32)).toNatClampNeg) := inb_of Sz7 ⟨by decide, by decide⟩
  obtain ⟨T7, h7, X7, e7, W7, st7⟩ := stJ X5 hx hZ e5 Ar7 (j := (1 : Int32)) hin7 (g := (mkF m 36 #[.val (.long qa), .second, .val (.long qb), .second, .val (.long ea), .second, .val (.long eb), .second, .val (.long pz), .second, .val (.int mask), .val (.ref b1), .unset, .unset, .unset, .unset, .unset, .unset, .unset, .unset, .unset, .unset, .unset, .unset, .unset] [(.long t1), (.int (1 : Int32)), (.ref b1)])) rfl rfl (hb hby at_36)
  refine OGo.via st7 ?_
  have V7 : Arv Z h7 b1 ka1 .long (5 : Int32) [(.long t0), (.long t1), (.long (0 : Int64)), (.long (0 : Int64)), (.long (0 : Int64))] (.long (0 : Int64)) := Arv.set Ar7 q7 Sz7 Ng7 Hs7 Gf7 rfl W7 1 rfl (Nat.le_of_ble_eq_true rfl)
  have K7 : Keep h0 h7 [] := K4.wr W7 (Or.inr sz_b1)
  have N7 := Fr.snoc X7 N5 g_b1
  show OGo _ _ _ _ (T7.setTop (mkF m 37 #[.val (.long qa), .second, .val (.long qb), .second, .val (.long ea), .second, .val (.long eb), .second, .val (.long pz), .second, .val (.int mask), .val (.ref b1), .unset, .unset, .unset, .unset, .unset, .unset, .unset, .unset, .unset, .unset, .unset, .unset, .unset] []))
  refine OGo.via (fun _ k => XS.aload X7.here hx rfl (hb hby at_37) rfl rfl (XS.iconst X7.here hx rfl (hb hby at_39) (XS.iload X7.here hx rfl (hb hby at_40) rfl (XS.iconst X7.here hx rfl (hb hby at_42) (XS.iand X7.here hx rfl (hb hby at_43) rfl k))))) ?_
  have jn8 : OJn p.tables e below (fun T' (t2 : Int64) => own_St X7 n0 T' ∧ T'.heap = h7 ∧ (True)) (fun t2 => (mkF m 52 #[.val (.long qa), .second, .val (.long qb), .second, .val (.long ea), .second, .val (.long eb), .second, .val (.long pz), .second, .val (.int mask), .val (.ref b1), .unset, .unset, .unset, .unset, .unset, .unset, .unset, .unset, .unset, .unset, .unset, .unset, .unset] [(.long t2), (.int (2 : Int32)), (.ref b1)])) (T7.setTop (mkF m 44 #[.val (.long qa), .second, .val (.long qb), .second, .val (.long ea), .second, .val (.long eb), .second, .val (.long pz), .second, .val (.int mask), .val (.ref b1), .unset, .unset, .unset, .unset, .unset, .unset, .unset, .unset, .unset, .unset, .unset, .unset, .unset] [(.int (mask &&& (4 : Int32))), (.int (2 : Int32)), (.ref b1)])) := by
    by_cases hc44_9 : (mask &&& (4 : Int32)) = (0 : Int32)
    · refine OJn.via (fun _ k => XS.ifYes X7.here hx rfl (pc0 := 44) (pc' := 51) rfl (hb hby at_44) rfl ((if0 _ _).trans (teq hc44_9).1) (by decide) (by decide) k) ?_
      show OJn _ _ _ _ _ (T7.setTop (mkF m 51 #[.val (.long qa), .second, .val (.long qb), .second, .val (.long ea), .second, .val (.long eb), .second, .val (.long pz), .second, .val (.int mask), .val (.ref b1), .unset, .unset, .unset, .unset, .unset, .unset, .unset, .unset, .unset, .unset, .unset, .unset, .unset] [(.int (2 : Int32)), (.ref b1)]))
      refine OJn.via (fun _ k => XS.lloadN X7.here hx rfl (hb hby at_51) rfl k) ?_
      show OJn _ _ _ _ _ (T7.setTop (mkF m 52 #[.val (.long qa), .second, .val (.long qb), .second, .val (.long ea), .second, .val (.long eb), .second, .val (.long pz), .second, .val (.int mask), .val (.ref b1), .unset, .unset, .unset, .unset, .unset, .unset, .unset, .unset, .unset, .unset, .unset, .unset, .unset] [(.long qb), (.int (2 : Int32)), (.ref b1)]))
      exact ⟨_, qb, ⟨⟨_, X7, N7⟩, e7, trivial⟩, fun _ k => k⟩
    · refine OJn.via (fun _ k => XS.ifNo X7.here hx rfl (hb hby at_44) rfl ((if0 _ _).trans (feq hc44_9).1) k) ?_
      show OJn _ _ _ _ _ (T7.setTop (mkF m 47 #[.val (.long qa), .second, .val (.long qb), .second, .val (.long ea), .second, .val (.long eb), .second, .val (.long pz), .second, .val (.int mask), .val (.ref b1), .unset, .unset, .unset, .unset, .unset, .unset, .unset, .unset, .unset, .unset, .unset, .unset, .unset] [(.int (2 : Int32)), (.ref b1)]))
      refine OJn.via (fun _ k => XS.lloadN X7.here hx rfl (hb hby at_47) rfl (XS.goto X7.here hx rfl (pc0 := 48) (pc' := 52) rfl (hb hby at_48) (by decide) (by decide) k)) ?_
      show OJn _ _ _ _ _ (T7.setTop (mkF m 52 #[.val (.long qa), .second, .val (.long qb), .second, .val (.long ea), .second, .val (.long eb), .second, .val (.long pz), .second, .val (.int mask), .val (.ref b1), .unset, .unset, .unset, .unset, .unset, .unset, .unset, .unset, .unset, .unset, .unset, .unset, .unset] [(.long qa), (.int (2 : Int32)), (.ref b1)]))
      exact ⟨_, qa, ⟨⟨_, X7, N7⟩, e7, trivial⟩, fun _ k => k⟩
  obtain ⟨T8, t2, ⟨⟨locs8, X8, N8⟩, e8, hj8⟩, st8⟩ := jn8
  refine OGo.via st8 ?_
  show OGo _ _ _ _ (T8.setTop (mkF m 52 #[.val (.long qa), .second, .val (.long qb), .second, .val (.long ea), .second, .val (.long eb), .second, .val (.long pz), .second, .val (.int mask), .val (.ref b1), .unset, .unset, .unset, .unset, .unset, .unset, .unset, .unset, .unset, .unset, .unset, .unset, .unset] [(.long t2), (.int (2 : Int32)), (.ref b1)]))
  obtain ⟨cl10, Ar10, q10, Sz10, Ng10, Hs10, Gf10⟩ := id V7
  have hin10 : ¬ ((2 : Int32) < 0 ∨ cl10.slots.size ≤ ((2 : Int32)).toNatClampNeg) := inb_of Sz10 ⟨by decide, by decide⟩
  obtain ⟨T10, h10, X10, e10, W10, st10⟩ := stJ X8 hx hZ e8 Ar10 (j := (2 : Int32)) hin10 (g := (mkF m 52 #[.val (.long qa), .second, .val (.long qb), .second, .val (.long ea), .second, .val (.long eb), .second, .val (.long pz), .second, .val (.int mask), .val (.ref b1), .unset, .unset, .unset, .unset, .unset, .unset, .unset, .unset, .unset, .unset, .unset, .unset, .unset] [(.long t2), (.int (2 : Int32)), (.ref b1)])) rfl rfl (hb hby at_52)
  refine OGo.via st10 ?_
  have V10 : Arv Z h10 b1 ka1 .long (5 : Int32) [(.long t0), (.long t1), (.long t2), (.long (0 : Int64)), (.long (0 : Int64))] (.long (0 : Int64)) := Arv.set Ar10 q10 Sz10 Ng10 Hs10 Gf10 rfl W10 2 rfl (Nat.le_of_ble_eq_true rfl)
  have K10 : Keep h0 h10 [] := K7.wr W10 (Or.inr sz_b1)
  have N10 := Fr.snoc X10 N8 g_b1
  show OGo _ _ _ _ (T10.setTop (mkF m 53 #[.val (.long qa), .second, .val (.long qb), .second, .val (.long ea), .second, .val (.long eb), .second, .val (.long pz), .second, .val (.int mask), .val (.ref b1), .unset, .unset, .unset, .unset, .unset, .unset, .unset, .unset, .unset, .unset, .unset, .unset, .unset] []))
  refine OGo.via (fun _ k => XS.aload X10.here hx rfl (hb hby at_53) rfl rfl (XS.iconst X10.here hx rfl (hb hby at_55) (XS.iload X10.here hx rfl (hb hby at_56) rfl (XS.bipush X10.here hx rfl (hb hby at_58) (XS.iand X10.here hx rfl (hb hby at_60) rfl k))))) ?_
  have jn11 : OJn p.tables e below (fun T' (t3 : Int64) => own_St X10 n0 T' ∧ T'.heap = h10 ∧ (True)) (fun t3 => (mkF m 69 #[.val (.long qa), .second, .val (.long qb), .second, .val (.long ea), .second, .val (.long eb), .second, .val (.long pz), .second, .val (.int mask), .val (.ref b1), .unset, .unset, .unset, .unset, .unset, .unset, .unset, .unset, .unset, .unset, .unset, .unset, .unset] [(.long t3), (.int (3 : Int32)), (.ref b1)])) (T10.setTop (mkF m 61 #[.val (.long qa), .second, .val (.long qb), .second, .val (.long ea), .second, .val (.long eb), .second, .val (.long pz), .second, .val (.int mask), .val (.ref b1), .unset, .unset, .unset, .unset, .unset, .unset, .unset, .unset, .unset, .unset, .unset, .unset, .unset] [(.int (mask &&& (8 : Int32))), (.int (3 : Int32)), (.ref b1)])) := by
    by_cases hc61_12 : (mask &&& (8 : Int32)) = (0 : Int32)
    · refine OJn.via (fun _ k => XS.ifYes X10.here hx rfl (pc0 := 61) (pc' := 68) rfl (hb hby at_61) rfl ((if0 _ _).trans (teq hc61_12).1) (by decide) (by decide) k) ?_
      show OJn _ _ _ _ _ (T10.setTop (mkF m 68 #[.val (.long qa), .second, .val (.long qb), .second, .val (.long ea), .second, .val (.long eb), .second, .val (.long pz), .second, .val (.int mask), .val (.ref b1), .unset, .unset, .unset, .unset, .unset, .unset, .unset, .unset, .unset, .unset, .unset, .unset, .unset] [(.int (3 : Int32)), (.ref b1)]))
      refine OJn.via (fun _ k => XS.lloadN X10.here hx rfl (hb hby at_68) rfl k) ?_
      show OJn _ _ _ _ _ (T10.setTop (mkF m 69 #[.val (.long qa), .second, .val (.long qb), .second, .val (.long ea), .second, .val (.long eb), .second, .val (.long pz), .second, .val (.int mask), .val (.ref b1), .unset, .unset, .unset, .unset, .unset, .unset, .unset, .unset, .unset, .unset, .unset, .unset, .unset] [(.long qb), (.int (3 : Int32)), (.ref b1)]))
      exact ⟨_, qb, ⟨⟨_, X10, N10⟩, e10, trivial⟩, fun _ k => k⟩
    · refine OJn.via (fun _ k => XS.ifNo X10.here hx rfl (hb hby at_61) rfl ((if0 _ _).trans (feq hc61_12).1) k) ?_
      show OJn _ _ _ _ _ (T10.setTop (mkF m 64 #[.val (.long qa), .second, .val (.long qb), .second, .val (.long ea), .second, .val (.long eb), .second, .val (.long pz), .second, .val (.int mask), .val (.ref b1), .unset, .unset, .unset, .unset, .unset, .unset, .unset, .unset, .unset, .unset, .unset, .unset, .unset] [(.int (3 : Int32)), (.ref b1)]))
      refine OJn.via (fun _ k => XS.lloadN X10.here hx rfl (hb hby at_64) rfl (XS.goto X10.here hx rfl (pc0 := 65) (pc' := 69) rfl (hb hby at_65) (by decide) (by decide) k)) ?_
      show OJn _ _ _ _ _ (T10.setTop (mkF m 69 #[.val (.long qa), .second, .val (.long qb), .second, .val (.long ea), .second, .val (.long eb), .second, .val (.long pz), .second, .val (.int mask), .val (.ref b1), .unset, .unset, .unset, .unset, .unset, .unset, .unset, .unset, .unset, .unset, .unset, .unset, .unset] [(.long qa), (.int (3 : Int32)), (.ref b1)]))
      exact ⟨_, qa, ⟨⟨_, X10, N10⟩, e10, trivial⟩, fun _ k => k⟩
  obtain ⟨T11, t3, ⟨⟨locs11, X11, N11⟩, e11, hj11⟩, st11⟩ := jn11
  refine OGo.via st11 ?_
  show OGo _ _ _ _ (T11.setTop (mkF m 69 #[.val (.long qa), .second, .val (.long qb), .second, .val (.long ea), .second, .val (.long eb), .second, .val (.long pz), .second, .val (.int mask), .val (.ref b1), .unset, .unset, .unset, .unset, .unset, .unset, .unset, .unset, .unset, .unset, .unset, .unset, .unset] [(.long t3), (.int (3 : Int32)), (.ref b1)]))
  obtain ⟨cl13, Ar13, q13, Sz13, Ng13, Hs13, Gf13⟩ := id V10
  have hin13 : ¬ ((3 : Int32) < 0 ∨ cl13.slots.size ≤ ((3 : Int32)).toNatClampNeg) := inb_of Sz13 ⟨by decide, by decide⟩
  obtain ⟨T13, h13, X13, e13, W13, st13⟩ := stJ X11 hx hZ e11 Ar13 (j := (3 : Int32)) hin13 (g := (mkF m 69 #[.val (.long qa), .second, .val (.long qb), .second, .val (.long ea), .second, .val (.long eb), .second, .val (.long pz), .second, .val (.int mask), .val (.ref b1), .unset, .unset, .unset, .unset, .unset, .unset, .unset, .unset, .unset, .unset, .unset, .unset, .unset] [(.long t3), (.int (3 : Int32)), (.ref b1)])) rfl rfl (hb hby at_69)
  refine OGo.via st13 ?_
  have V13 : Arv Z h13 b1 ka1 .long (5 : Int32) [(.long t0), (.long t1), (.long t2), (.long t3), (.long (0 : Int64))] (.long (0 : Int64)) := Arv.set Ar13 q13 Sz13 Ng13 Hs13 Gf13 rfl W13 3 rfl (Nat.le_of_ble_eq_true rfl)
  have K13 : Keep h0 h13 [] := K10.wr W13 (Or.inr sz_b1)
  have N13 := Fr.snoc X13 N11 g_b1
  show OGo _ _ _ _ (T13.setTop (mkF m 70 #[.val (.long qa), .second, .val (.long qb), .second, .val (.long ea), .second, .val (.long eb), .second, .val (.long pz), .second, .val (.int mask), .val (.ref b1), .unset, .unset, .unset, .unset, .unset, .unset, .unset, .unset, .unset, .unset, .unset, .unset, .unset] []))
  refine OGo.via (fun _ k => XS.aload X13.here hx rfl (hb hby at_70) rfl rfl (XS.iconst X13.here hx rfl (hb hby at_72) (XS.iload X13.here hx rfl (hb hby at_73) rfl (XS.bipush X13.here hx rfl (hb hby at_75) (XS.iand X13.here hx rfl (hb hby at_77) rfl k))))) ?_
  have jn14 : OJn p.tables e below (fun T' (t4 : Int64) => own_St X13 n0 T' ∧ T'.heap = h13 ∧ (True)) (fun t4 => (mkF m 86 #[.val (.long qa), .second, .val (.long qb), .second, .val (.long ea), .second, .val (.long eb), .second, .val (.long pz), .second, .val (.int mask), .val (.ref b1), .unset, .unset, .unset, .unset, .unset, .unset, .unset, .unset, .unset, .unset, .unset, .unset, .unset] [(.long t4), (.int (4 : Int32)), (.ref b1)])) (T13.setTop (mkF m 78 #[.val (.long qa), .second, .val (.long qb), .second, .val (.long ea), .second, .val (.long eb), .second, .val (.long pz), .second, .val (.int mask), .val (.ref b1), .unset, .unset, .unset, .unset, .unset, .unset, .unset, .unset, .unset, .unset, .unset, .unset, .unset] [(.int (mask &&& (16 : Int32))), (.int (4 : Int32)), (.ref b1)])) := by
    by_cases hc78_15 : (mask &&& (16 : Int32)) = (0 : Int32)
    · refine OJn.via (fun _ k => XS.ifYes X13.here hx rfl (pc0 := 78) (pc' := 85) rfl (hb hby at_78) rfl ((if0 _ _).trans (teq hc78_15).1) (by decide) (by decide) k) ?_
      show OJn _ _ _ _ _ (T13.setTop (mkF m 85 #[.val (.long qa), .second, .val (.long qb), .second, .val (.long ea), .second, .val (.long eb), .second, .val (.long pz), .second, .val (.int mask), .val (.ref b1), .unset, .unset, .unset, .unset, .unset, .unset, .unset, .unset, .unset, .unset, .unset, .unset, .unset] [(.int (4 : Int32)), (.ref b1)]))
      refine OJn.via (fun _ k => XS.lloadN X13.here hx rfl (hb hby at_85) rfl k) ?_
      show OJn _ _ _ _ _ (T13.setTop (mkF m 86 #[.val (.long qa), .second, .val (.long qb), .second, .val (.long ea), .second, .val (.long eb), .second, .val (.long pz), .second, .val (.int mask), .val (.ref b1), .unset, .unset, .unset, .unset, .unset, .unset, .unset, .unset, .unset, .unset, .unset, .unset, .unset] [(.long qb), (.int (4 : Int32)), (.ref b1)]))
      exact ⟨_, qb, ⟨⟨_, X13, N13⟩, e13, trivial⟩, fun _ k => k⟩
    · refine OJn.via (fun _ k => XS.ifNo X13.here hx rfl (hb hby at_78) rfl ((if0 _ _).trans (feq hc78_15).1) k) ?_
      show OJn _ _ _ _ _ (T13.setTop (mkF m 81 #[.val (.long qa), .second, .val (.long qb), .second, .val (.long ea), .second, .val (.long eb), .second, .val (.long pz), .second, .val (.int mask), .val (.ref b1), .unset, .unset, .unset, .unset, .unset, .unset, .unset, .unset, .unset, .unset, .unset, .unset, .unset] [(.int (4 : Int32)), (.ref b1)]))
      refine OJn.via (fun _ k => XS.lloadN X13.here hx rfl (hb hby at_81) rfl (XS.goto X13.here hx rfl (pc0 := 82) (pc' := 86) rfl (hb hby at_82) (by decide) (by decide) k)) ?_
      show OJn _ _ _ _ _ (T13.setTop (mkF m 86 #[.val (.long qa), .second, .val (.long qb), .second, .val (.long ea), .second, .val (.long eb), .second, .val (.long pz), .second, .val (.int mask), .val (.ref b1), .unset, .unset, .unset, .unset, .unset, .unset, .unset, .unset, .unset, .unset, .unset, .unset, .unset] [(.long qa), (.int (4 : Int32)), (.ref b1)]))
      exact ⟨_, qa, ⟨⟨_, X13, N13⟩, e13, trivial⟩, fun _ k => k⟩
  obtain ⟨T14, t4, ⟨⟨locs14, X14, N14⟩, e14, hj14⟩, st14⟩ := jn14
  refine OGo.via st14 ?_
  show OGo _ _ _ _ (T14.setTop (mkF m 86 #[.val (.long qa), .second, .val (.long qb), .second, .val (.long ea), .second, .val (.long eb), .second, .val (.long pz), .second, .val (.int mask), .val (.ref b1), .unset, .unset, .unset, .unset, .unset, .unset, .unset, .unset, .unset, .unset, .unset, .unset, .unset] [(.long t4), (.int (4 : Int32)), (.ref b1)]))
  obtain ⟨cl16, Ar16, q16, Sz16, Ng16, Hs16, Gf16⟩ := id V13
  have hin16 : ¬ ((4 : Int32) < 0 ∨ cl16.slots.size ≤ ((4 : Int32)).toNatClampNeg) := inb_of Sz16 ⟨by decide, by decide⟩
  obtain ⟨T16, h16, X16, e16, W16, st16⟩ := stJ X14 hx hZ e14 Ar16 (j := (4 : Int32)) hin16 (g := (mkF m 86 #[.val (.long qa), .second, .val (.long qb), .second, .val (.long ea), .second, .val (.long eb), .second, .val (.long pz), .second, .val (.int mask), .val (.ref b1), .unset, .unset, .unset, .unset, .unset, .unset, .unset, .unset, .unset, .unset, .unset, .unset, .unset] [(.long t4), (.int (4 : Int32)), (.ref b1)])) rfl rfl (hb hby at_86)
  refine OGo.via st16 ?_
  have V16 : Arv Z h16 b1 ka1 .long (5 : Int32) [(.long t0), (.long t1), (.long t2), (.long t3), (.long t4)] (.long (0 : Int64)) := Arv.set Ar16 q16 Sz16 Ng16 Hs16 Gf16 rfl W16 4 rfl (Nat.le_of_ble_eq_true rfl)
  have K16 : Keep h0 h16 [] := K13.wr W16 (Or.inr sz_b1)
  have N16 := Fr.snoc X16 N14 g_b1
  show OGo _ _ _ _ (T16.setTop (mkF m 87 #[.val (.long qa), .second, .val (.long qb), .second, .val (.long ea), .second, .val (.long eb), .second, .val (.long pz), .second, .val (.int mask), .val (.ref b1), .unset, .unset, .unset, .unset, .unset, .unset, .unset, .unset, .unset, .unset, .unset, .unset, .unset] []))
  have f18 := V_wN.keep K16 nin0
  have f19 := Y1.wr W4
  have f20 := f19.wr W7
  have f21 := f20.wr W10
  have f22 := f21.wr W13
  have f23 := f22.wr W16
  obtain ⟨T17, h17, X17, e17, E17, A17, D17, -, st17⟩ := newO X16 hx hZ hown (own_w hw 1 rfl) (own_w hw 2 rfl) (own_w hw 3 rfl) e16 (g := (mkF m 87 #[.val (.long qa), .second, .val (.long qb), .second, .val (.long ea), .second, .val (.long eb), .second, .val (.long pz), .second, .val (.int mask), .val (.ref b1), .unset, .unset, .unset, .unset, .unset, .unset, .unset, .unset, .unset, .unset, .unset, .unset, .unset] [])) rfl (hb hby at_87) (by decide) (by decide)
  obtain ⟨b17, g17⟩ : ∃ z, z = h16.size := ⟨_, rfl⟩
  rw [← g17] at A17 D17 st17
  refine OGo.via st17 ?_
  have K17 : Keep h0 h17 [] := K16.ext E17
  have lt_wN_b17 : wN < b17 := Nat.lt_of_lt_of_le f18.lt (Nat.le_of_eq g17.symm)
  have lt_b1_b17 : b1 < b17 := Nat.lt_of_lt_of_le f23.lt (Nat.le_of_eq g17.symm)
  have sz_b17 : h0.size ≤ b17 := Nat.le_trans K16.1 (Nat.le_of_eq g17.symm)
  have g_b17 : n0 ≤ b17 := Nat.le_trans Z0 sz_b17
  have F17_positions : Fld Z h17 b17 "com/example/eventloom/eventloom/engine/Forbidden" "positions" "[J" .null := D17 (Or.inl (own_w hw 13 rfl)) (ty := (.array .long)) (by decide)
  have F17_times : Fld Z h17 b17 "com/example/eventloom/eventloom/engine/Forbidden" "times" "[J" .null := D17 (Or.inl (own_w hw 15 rfl)) (ty := (.array .long)) (by decide)
  have F17_count : Fld Z h17 b17 "com/example/eventloom/eventloom/engine/Forbidden" "count" "I" (.int (0 : Int32)) := D17 (Or.inl (own_w hw 28 rfl)) (ty := .int) (by decide)
  have F17_first : Fld Z h17 b17 "com/example/eventloom/eventloom/engine/Forbidden" "first" "I" (.int (0 : Int32)) := D17 (Or.inl (own_w hw 31 rfl)) (ty := .int) (by decide)
  have F17_befores : Fld Z h17 b17 "com/example/eventloom/eventloom/engine/Forbidden" "befores" "J" (.long (0 : Int64)) := D17 (Or.inl (own_w hw 33 rfl)) (ty := .long) (by decide)
  show OGo _ _ _ _ (T17.setTop (mkF m 90 #[.val (.long qa), .second, .val (.long qb), .second, .val (.long ea), .second, .val (.long eb), .second, .val (.long pz), .second, .val (.int mask), .val (.ref b1), .unset, .unset, .unset, .unset, .unset, .unset, .unset, .unset, .unset, .unset, .unset, .unset, .unset] [(.ref b17)]))
  refine OGo.via (fun _ k => XS.dup X17.here hx rfl (hb hby at_90) rfl rfl k) ?_
  have f25 := own_staKeep0 S_NONE K17
  obtain ⟨_, T24, Lc24, X24, hQ24, st24⟩ := own_open X17 (X17.specialBack hx (y := own_y0) rfl hown (mvT hZ (own_w hw 4 rfl)) (mvT hZ (own_w hw 5 rfl)) (mvT hZ (own_w hw 6 rfl)) (by decide) (backOf (W := 1) (rm1 l Z a0 hw [] b17 wN h17 n0 (Nat.le_trans Z0 K17.1) A17 F17_positions F17_times F17_first F17_count F17_befores f25 g_b17) hZ (own_w hw 6 rfl) (own_w hw 3 rfl) (by decide) (by decide)) (g := (mkF m 91 #[.val (.long qa), .second, .val (.long qb), .second, .val (.long ea), .second, .val (.long eb), .second, .val (.long pz), .second, .val (.int mask), .val (.ref b1), .unset, .unset, .unset, .unset, .unset, .unset, .unset, .unset, .unset, .unset, .unset, .unset, .unset] [(.ref b17), (.ref b17)])) rfl (by rw [hml]; rfl) (Steps.refl _) (a := b17) (argsL := []) (rest := [(.ref b17)]) (lenOf pd_4 rfl) rfl (by show 2 * 0 + _ ≤ _; exact Nat.le_of_eq rfl) (hb hby at_91) (fun _ _ => ⟨rfl, e17, (by decide : 2 + 0 ≤ _), (by decide : 12 + 0 ≤ _)⟩))
  obtain ⟨rfl, N24q, r24_0, r24_1, r24_2, r24_3, r24_4, r24_5, r24_6⟩ := hQ24
  have N24 := Fr.app N16 N24q
  have K24 : Keep h0 T24.heap [] := K17.trans r24_0 (allS (Or.inr sz_b17) all0)
  refine OGo.via (fun _ k => st24.trans k) ?_
  show OGo _ _ _ _ (T24.setTop (mkF m 94 #[.val (.long qa), .second, .val (.long qb), .second, .val (.long ea), .second, .val (.long eb), .second, .val (.long pz), .second, .val (.int mask), .val (.ref b1), .unset, .unset, .unset, .unset, .unset, .unset, .unset, .unset, .unset, .unset, .unset, .unset, .unset] [(.ref b17)]))
  refine OGo.via (fun _ k => XS.astore X24.here hx rfl (hb hby at_94) rfl rfl (l' := #[.val (.long qa), .second, .val (.long qb), .second, .val (.long ea), .second, .val (.long eb), .second, .val (.long pz), .second, .val (.int mask), .val (.ref b1), .val (.ref b17), .unset, .unset, .unset, .unset, .unset, .unset, .unset, .unset, .unset, .unset, .unset, .unset]) rfl (XS.aload X24.here hx rfl (hb hby at_96) rfl rfl (XS.lload X24.here hx rfl (hb hby at_98) rfl (XS.aload X24.here hx rfl (hb hby at_100) rfl rfl (XS.iconst X24.here hx rfl (hb hby at_102) k))))) ?_
  have f27 := V16.ext E17
  have f28 := f27.keep r24_0 (ninS (Nat.ne_of_lt lt_b1_b17) nin0)
  obtain ⟨cl26, Ar26, q26, Sz26, Ng26, Hs26, Gf26⟩ := id f28
  have hin26 : ¬ ((0 : Int32) < 0 ∨ cl26.slots.size ≤ ((0 : Int32)).toNatClampNeg) := inb_of Sz26 ⟨by decide, by decide⟩
  have hat26 : cl26.slots[((0 : Int32)).toNatClampNeg]? = some (.long t0) := Hs26.at hin26 rfl
  refine OGo.via (X24.laload hx (j := (0 : Int32)) (v := (.long t0)) Ar26.1 (State.isArrayOf_alike hZ.alike Ar26.2.1) Ar26.2.2 hin26 hat26 (g := (mkF m 103 #[.val (.long qa), .second, .val (.long qb), .second, .val (.long ea), .second, .val (.long eb), .second, .val (.long pz), .second, .val (.int mask), .val (.ref b1), .val (.ref b17), .unset, .unset, .unset, .unset, .unset, .unset, .unset, .unset, .unset, .unset, .unset, .unset] [(.int (0 : Int32)), (.ref b1), (.long pz), (.ref b17)])) rfl rfl (hb hby at_103)) ?_
  show OGo _ _ _ _ (T24.setTop (mkF m 104 #[.val (.long qa), .second, .val (.long qb), .second, .val (.long ea), .second, .val (.long eb), .second, .val (.long pz), .second, .val (.int mask), .val (.ref b1), .val (.ref b17), .unset, .unset, .unset, .unset, .unset, .unset, .unset, .unset, .unset, .unset, .unset, .unset] [(.long t0), (.long pz), (.ref b17)]))
  refine OGo.via (X24.ldc2Long hx hown (mvT hZ (own_w hw 16 rfl)) (g := (mkF m 104 #[.val (.long qa), .second, .val (.long qb), .second, .val (.long ea), .second, .val (.long eb), .second, .val (.long pz), .second, .val (.int mask), .val (.ref b1), .val (.ref b17), .unset, .unset, .unset, .unset, .unset, .unset, .unset, .unset, .unset, .unset, .unset, .unset] [(.long t0), (.long pz), (.ref b17)])) rfl (hb hby at_104)) ?_
  show OGo _ _ _ _ (T24.setTop (mkF m 107 #[.val (.long qa), .second, .val (.long qb), .second, .val (.long ea), .second, .val (.long eb), .second, .val (.long pz), .second, .val (.int mask), .val (.ref b1), .val (.ref b17), .unset, .unset, .unset, .unset, .unset, .unset, .unset, .unset, .unset, .unset, .unset, .unset] [(.long (-9223372036854775808 : Int64)), (.long t0), (.long pz), (.ref b17)]))
  have f30 := f18.ext E17
  have f31 := f30.keep r24_0 (ninS (Nat.ne_of_lt lt_wN_b17) nin0)
  have f32 := f23.ext E17
  have f33 := f32.keep r24_0
  obtain ⟨cq29, kq29, q29a, q29b, q29c⟩ := isOf hZ rfl r24_1
  obtain ⟨_, T29, Lc29, X29, hQ29, st29⟩ := own_open X24 (X24.virtualBack hx (y := own_y5) (z := own_y5) hown (mvT hZ (own_w hw 17 rfl)) (mvT hZ (own_w hw 18 rfl)) (notFace_of_selects (args := #[]) (mvT hZ (own_w hw 20 rfl))) (mvT hZ (own_w hw 20 rfl)) (mvT hZ (own_w hw 19 rfl)) (by decide) (backOf (W := 0) (rm3n l Z a0 hw [] b17 pz t0 wN k0 T24.heap n0 (Nat.le_trans Z0 K24.1) r24_1 r24_2 r24_3 r24_4 r24_5 r24_6 f31 (Nat.ne_of_gt lt_wN_b17) g_b17) hZ (own_w hw 21 rfl) (own_w hw 3 rfl) (by decide) (by decide)) q29a q29c (g := (mkF m 107 #[.val (.long qa), .second, .val (.long qb), .second, .val (.long ea), .second, .val (.long eb), .second, .val (.long pz), .second, .val (.int mask), .val (.ref b1), .val (.ref b17), .unset, .unset, .unset, .unset, .unset, .unset, .unset, .unset, .unset, .unset, .unset, .unset] [(.long (-9223372036854775808 : Int64)), (.long t0), (.long pz), (.ref b17)])) rfl (by rw [hml]; rfl) (Steps.refl _) (argsL := [(.long pz), (.long t0), (.long (-9223372036854775808 : Int64))]) (rest := []) (lenOf pd_5 rfl) rfl (by show 2 * 0 + _ ≤ _; exact Nat.le_of_eq rfl) (hb hby at_107) (fun _ _ => ⟨rfl, rfl, (by decide : 2 + 2 ≤ _), (by decide : 12 + 8 ≤ _)⟩))
  obtain ⟨pa, ta, kp, kt, rfl, N29q, r29_0, r29_1, r29_2, r29_3, r29_4, r29_5, r29_6, r29_7, r29_8, r29_9, r29_10, r29_11⟩ := hQ29
  have N29 := Fr.app N24 N29q
  have K29 : Keep h0 T29.heap [] := K24.trans r29_0 (allS (Or.inr sz_b17) all0)
  have lt_wN_pa : wN < pa := Nat.lt_of_lt_of_le f31.lt r29_1
  have lt_b1_pa : b1 < pa := Nat.lt_of_lt_of_le f33.lt r29_1
  have lt_b17_pa : b17 < pa := Nat.lt_of_lt_of_le r24_1.lt r29_1
  have sz_pa : h0.size ≤ pa := Nat.le_trans K24.1 r29_1
  have g_pa : n0 ≤ pa := Nat.le_trans Z0 sz_pa
  have lt_wN_ta : wN < ta := Nat.lt_of_lt_of_le f31.lt r29_2
  have lt_b1_ta : b1 < ta := Nat.lt_of_lt_of_le f33.lt r29_2
  have lt_b17_ta : b17 < ta := Nat.lt_of_lt_of_le r24_1.lt r29_2
  have sz_ta : h0.size ≤ ta := Nat.le_trans K24.1 r29_2
  have g_ta : n0 ≤ ta := Nat.le_trans Z0 sz_ta
  refine OGo.via (fun _ k => st29.trans k) ?_
  show OGo _ _ _ _ (T29.setTop (mkF m 110 #[.val (.long qa), .second, .val (.long qb), .second, .val (.long ea), .second, .val (.long eb), .second, .val (.long pz), .second, .val (.int mask), .val (.ref b1), .val (.ref b17), .unset, .unset, .unset, .unset, .unset, .unset, .unset, .unset, .unset, .unset, .unset, .unset] []))
  refine OGo.via (fun _ k => XS.aload X29.here hx rfl (hb hby at_110) rfl rfl (XS.lload X29.here hx rfl (hb hby at_112) rfl (XS.lconst X29.here hx rfl (hb hby at_114) (XS.ladd X29.here hx rfl (hb hby at_115) rfl (XS.aload X29.here hx rfl (hb hby at_116) rfl rfl (XS.iconst X29.here hx rfl (hb hby at_118) k)))))) ?_
  have f35 := f28.keep r29_0 (ninS (Nat.ne_of_lt lt_b1_b17) nin0)
  obtain ⟨cl34, Ar34, q34, Sz34, Ng34, Hs34, Gf34⟩ := id f35
  have hin34 : ¬ ((1 : Int32) < 0 ∨ cl34.slots.size ≤ ((1 : Int32)).toNatClampNeg) := inb_of Sz34 ⟨by decide, by decide⟩
  have hat34 : cl34.slots[((1 : Int32)).toNatClampNeg]? = some (.long t1) := Hs34.at hin34 rfl
  refine OGo.via (X29.laload hx (j := (1 : Int32)) (v := (.long t1)) Ar34.1 (State.isArrayOf_alike hZ.alike Ar34.2.1) Ar34.2.2 hin34 hat34 (g := (mkF m 119 #[.val (.long qa), .second, .val (.long qb), .second, .val (.long ea), .second, .val (.long eb), .second, .val (.long pz), .second, .val (.int mask), .val (.ref b1), .val (.ref b17), .unset, .unset, .unset, .unset, .unset, .unset, .unset, .unset, .unset, .unset, .unset, .unset] [(.int (1 : Int32)), (.ref b1), (.long (pz + (1 : Int64))), (.ref b17)])) rfl rfl (hb hby at_119)) ?_
  show OGo _ _ _ _ (T29.setTop (mkF m 120 #[.val (.long qa), .second, .val (.long qb), .second, .val (.long ea), .second, .val (.long eb), .second, .val (.long pz), .second, .val (.int mask), .val (.ref b1), .val (.ref b17), .unset, .unset, .unset, .unset, .unset, .unset, .unset, .unset, .unset, .unset, .unset, .unset] [(.long t1), (.long (pz + (1 : Int64))), (.ref b17)]))
  refine OGo.via (X29.ldc2Long hx hown (mvT hZ (own_w hw 16 rfl)) (g := (mkF m 120 #[.val (.long qa), .second, .val (.long qb), .second, .val (.long ea), .second, .val (.long eb), .second, .val (.long pz), .second, .val (.int mask), .val (.ref b1), .val (.ref b17), .unset, .unset, .unset, .unset, .unset, .unset, .unset, .unset, .unset, .unset, .unset, .unset] [(.long t1), (.long (pz + (1 : Int64))), (.ref b17)])) rfl (hb hby at_120)) ?_
  show OGo _ _ _ _ (T29.setTop (mkF m 123 #[.val (.long qa), .second, .val (.long qb), .second, .val (.long ea), .second, .val (.long eb), .second, .val (.long pz), .second, .val (.int mask), .val (.ref b1), .val (.ref b17), .unset, .unset, .unset, .unset, .unset, .unset, .unset, .unset, .unset, .unset, .unset, .unset] [(.long (-9223372036854775808 : Int64)), (.long t1), (.long (pz + (1 : Int64))), (.ref b17)]))
  obtain ⟨cq36, kq36, q36a, q36b, q36c⟩ := isOf hZ rfl r29_4
  obtain ⟨_, T36, Lc36, X36, hQ36, st36⟩ := own_open X29 (X29.virtualBack hx (y := own_y5) (z := own_y5) hown (mvT hZ (own_w hw 17 rfl)) (mvT hZ (own_w hw 18 rfl)) (notFace_of_selects (args := #[]) (mvT hZ (own_w hw 20 rfl))) (mvT hZ (own_w hw 20 rfl)) (mvT hZ (own_w hw 19 rfl)) (by decide) (backOf (W := 0) (rm3p l Z a0 hw [] b17 (pz + (1 : Int64)) t1 (1 : Int32) (0 : Int32) (4 : Int32) pa ta kp kt [(.long pz), (.long (0 : Int64)), (.long (0 : Int64)), (.long (0 : Int64))] [(.long t0), (.long (0 : Int64)), (.long (0 : Int64)), (.long (0 : Int64))] (1 : Int64) 1 t0 pz T29.heap n0 (Nat.le_trans Z0 K29.1) r29_4 r29_5 r29_6 r29_7 r29_8 r29_9 r29_10 r29_11 (Nat.ne_of_lt lt_b17_pa) (Nat.ne_of_lt lt_b17_ta) (Nat.ne_of_lt r29_3) g_b17 g_pa g_ta (by decide) (by decide) rfl ⟨by decide, by decide⟩ (Nat.le_of_ble_eq_true rfl) (Nat.le_of_ble_eq_true rfl) (by decide) (by decide) ⟨by decide, by decide⟩ rfl rfl) hZ (own_w hw 21 rfl) (own_w hw 3 rfl) (by decide) (by decide)) q36a q36c (g := (mkF m 123 #[.val (.long qa), .second, .val (.long qb), .second, .val (.long ea), .second, .val (.long eb), .second, .val (.long pz), .second, .val (.int mask), .val (.ref b1), .val (.ref b17), .unset, .unset, .unset, .unset, .unset, .unset, .unset, .unset, .unset, .unset, .unset, .unset] [(.long (-9223372036854775808 : Int64)), (.long t1), (.long (pz + (1 : Int64))), (.ref b17)])) rfl (by rw [hml]; rfl) (Steps.refl _) (argsL := [(.long (pz + (1 : Int64))), (.long t1), (.long (-9223372036854775808 : Int64))]) (rest := []) (lenOf pd_5 rfl) rfl (by show 2 * 0 + _ ≤ _; exact Nat.le_of_eq rfl) (hb hby at_123) (fun _ _ => ⟨rfl, rfl, (by decide : 4 + 0 ≤ _), (by decide : 20 + 0 ≤ _)⟩))
  obtain ⟨rfl, N36q, r36_0, r36_1, r36_2, r36_3, r36_4, r36_5, r36_6, r36_7, r36_8⟩ := hQ36
  have N36 := Fr.app N29 N36q
  have K36 : Keep h0 T36.heap [] := K29.trans r36_0 (allS (Or.inr sz_b17) (allS (Or.inr sz_pa) (allS (Or.inr sz_ta) all0)))
  refine OGo.via (fun _ k => st36.trans k) ?_
  show OGo _ _ _ _ (T36.setTop (mkF m 126 #[.val (.long qa), .second, .val (.long qb), .second, .val (.long ea), .second, .val (.long eb), .second, .val (.long pz), .second, .val (.int mask), .val (.ref b1), .val (.ref b17), .unset, .unset, .unset, .unset, .unset, .unset, .unset, .unset, .unset, .unset, .unset, .unset] []))
  have f37 : Arv Z T36.heap pa kp .long (4 : Int32) [(.long pz), (.long (pz + (1 : Int64))), (.long (0 : Int64)), (.long (0 : Int64))] (.long (0 : Int64)) := r36_7
  have f38 : Arv Z T36.heap ta kt .long (4 : Int32) [(.long t0), (.long t1), (.long (0 : Int64)), (.long (0 : Int64))] (.long (0 : Int64)) := r36_8
  have f39 : Fld Z T36.heap b17 "com/example/eventloom/eventloom/engine/Forbidden" "count" "I" (.int (2 : Int32)) := r36_5
  refine OGo.via (fun _ k => XS.aload X36.here hx rfl (hb hby at_126) rfl rfl (XS.lload X36.here hx rfl (hb hby at_128) rfl k)) ?_
  refine OGo.via (X36.ldc2Long hx hown (mvT hZ (own_w hw 34 rfl)) (g := (mkF m 130 #[.val (.long qa), .second, .val (.long qb), .second, .val (.long ea), .second, .val (.long eb), .second, .val (.long pz), .second, .val (.int mask), .val (.ref b1), .val (.ref b17), .unset, .unset, .unset, .unset, .unset, .unset, .unset, .unset, .unset, .unset, .unset, .unset] [(.long pz), (.ref b17)])) rfl (hb hby at_130)) ?_
  show OGo _ _ _ _ (T36.setTop (mkF m 133 #[.val (.long qa), .second, .val (.long qb), .second, .val (.long ea), .second, .val (.long eb), .second, .val (.long pz), .second, .val (.int mask), .val (.ref b1), .val (.ref b17), .unset, .unset, .unset, .unset, .unset, .unset, .unset, .unset, .unset, .unset, .unset, .unset] [(.long (2 : Int64)), (.long pz), (.ref b17)]))
  refine OGo.via (fun _ k => XS.ladd X36.here hx rfl (hb hby at_133) rfl (XS.aload X36.here hx rfl (hb hby at_134) rfl rfl (XS.iconst X36.here hx rfl (hb hby at_136) k))) ?_
  have f41 := f35.keep r36_0 (ninS (Nat.ne_of_lt lt_b1_b17) (ninS (Nat.ne_of_lt lt_b1_pa) (ninS (Nat.ne_of_lt lt_b1_ta) nin0)))
  obtain ⟨cl40, Ar40, q40, Sz40, Ng40, Hs40, Gf40⟩ := id f41
  have hin40 : ¬ ((2 : Int32) < 0 ∨ cl40.slots.size ≤ ((2 : Int32)).toNatClampNeg) := inb_of Sz40 ⟨by decide, by decide⟩
  have hat40 : cl40.slots[((2 : Int32)).toNatClampNeg]? = some (.long t2) := Hs40.at hin40 rfl
  refine OGo.via (X36.laload hx (j := (2 : Int32)) (v := (.long t2)) Ar40.1 (State.isArrayOf_alike hZ.alike Ar40.2.1) Ar40.2.2 hin40 hat40 (g := (mkF m 137 #[.val (.long qa), .second, .val (.long qb), .second, .val (.long ea), .second, .val (.long eb), .second, .val (.long pz), .second, .val (.int mask), .val (.ref b1), .val (.ref b17), .unset, .unset, .unset, .unset, .unset, .unset, .unset, .unset, .unset, .unset, .unset, .unset] [(.int (2 : Int32)), (.ref b1), (.long (pz + (2 : Int64))), (.ref b17)])) rfl rfl (hb hby at_137)) ?_
  show OGo _ _ _ _ (T36.setTop (mkF m 138 #[.val (.long qa), .second, .val (.long qb), .second, .val (.long ea), .second, .val (.long eb), .second, .val (.long pz), .second, .val (.int mask), .val (.ref b1), .val (.ref b17), .unset, .unset, .unset, .unset, .unset, .unset, .unset, .unset, .unset, .unset, .unset, .unset] [(.long t2), (.long (pz + (2 : Int64))), (.ref b17)]))
  refine OGo.via (X36.ldc2Long hx hown (mvT hZ (own_w hw 16 rfl)) (g := (mkF m 138 #[.val (.long qa), .second, .val (.long qb), .second, .val (.long ea), .second, .val (.long eb), .second, .val (.long pz), .second, .val (.int mask), .val (.ref b1), .val (.ref b17), .unset, .unset, .unset, .unset, .unset, .unset, .unset, .unset, .unset, .unset, .unset, .unset] [(.long t2), (.long (pz + (2 : Int64))), (.ref b17)])) rfl (hb hby at_138)) ?_
  show OGo _ _ _ _ (T36.setTop (mkF m 141 #[.val (.long qa), .second, .val (.long qb), .second, .val (.long ea), .second, .val (.long eb), .second, .val (.long pz), .second, .val (.int mask), .val (.ref b1), .val (.ref b17), .unset, .unset, .unset, .unset, .unset, .unset, .unset, .unset, .unset, .unset, .unset, .unset] [(.long (-9223372036854775808 : Int64)), (.long t2), (.long (pz + (2 : Int64))), (.ref b17)]))
  obtain ⟨cq42, kq42, q42a, q42b, q42c⟩ := isOf hZ rfl r36_1
  obtain ⟨_, T42, Lc42, X42, hQ42, st42⟩ := own_open X36 (X36.virtualBack hx (y := own_y5) (z := own_y5) hown (mvT hZ (own_w hw 17 rfl)) (mvT hZ (own_w hw 18 rfl)) (notFace_of_selects (args := #[]) (mvT hZ (own_w hw 20 rfl))) (mvT hZ (own_w hw 20 rfl)) (mvT hZ (own_w hw 19 rfl)) (by decide) (backOf (W := 0) (rm3p l Z a0 hw [] b17 (pz + (2 : Int64)) t2 (2 : Int32) (0 : Int32) (4 : Int32) pa ta kp kt [(.long pz), (.long (pz + (1 : Int64))), (.long (0 : Int64)), (.long (0 : Int64))] [(.long t0), (.long t1), (.long (0 : Int64)), (.long (0 : Int64))] ((1 : Int64) + (1 : Int64)) 2 t0 pz T36.heap n0 (Nat.le_trans Z0 K36.1) r36_1 r36_2 r36_3 r36_4 f39 r36_6 f37 f38 (Nat.ne_of_lt lt_b17_pa) (Nat.ne_of_lt lt_b17_ta) (Nat.ne_of_lt r29_3) g_b17 g_pa g_ta (by decide) (by decide) rfl ⟨by decide, by decide⟩ (Nat.le_of_ble_eq_true rfl) (Nat.le_of_ble_eq_true rfl) (by decide) (by decide) ⟨by decide, by decide⟩ rfl rfl) hZ (own_w hw 21 rfl) (own_w hw 3 rfl) (by decide) (by decide)) q42a q42c (g := (mkF m 141 #[.val (.long qa), .second, .val (.long qb), .second, .val (.long ea), .second, .val (.long eb), .second, .val (.long pz), .second, .val (.int mask), .val (.ref b1), .val (.ref b17), .unset, .unset, .unset, .unset, .unset, .unset, .unset, .unset, .unset, .unset, .unset, .unset] [(.long (-9223372036854775808 : Int64)), (.long t2), (.long (pz + (2 : Int64))), (.ref b17)])) rfl (by rw [hml]; rfl) (Steps.refl _) (argsL := [(.long (pz + (2 : Int64))), (.long t2), (.long (-9223372036854775808 : Int64))]) (rest := []) (lenOf pd_5 rfl) rfl (by show 2 * 0 + _ ≤ _; exact Nat.le_of_eq rfl) (hb hby at_141) (fun _ _ => ⟨rfl, rfl, (by decide : 4 + 0 ≤ _), (by decide : 20 + 0 ≤ _)⟩))
  obtain ⟨rfl, N42q, r42_0, r42_1, r42_2, r42_3, r42_4, r42_5, r42_6, r42_7, r42_8⟩ := hQ42
  have N42 := Fr.app N36 N42q
  have K42 : Keep h0 T42.heap [] := K36.trans r42_0 (allS (Or.inr sz_b17) (allS (Or.inr sz_pa) (allS (Or.inr sz_ta) all0)))
  refine OGo.via (fun _ k => st42.trans k) ?_
  show OGo _ _ _ _ (T42.setTop (mkF m 144 #[.val (.long qa), .second, .val (.long qb), .second, .val (.long ea), .second, .val (.long eb), .second, .val (.long pz), .second, .val (.int mask), .val (.ref b1), .val (.ref b17), .unset, .unset, .unset, .unset, .unset, .unset, .unset, .unset, .unset, .unset, .unset, .unset] []))
  have f43 : Arv Z T42.heap pa kp .long (4 : Int32) [(.long pz), (.long (pz + (1 : Int64))), (.long (pz + (2 : Int64))), (.long (0 : Int64))] (.long (0 : Int64)) := r42_7
  have f44 : Arv Z T42.heap ta kt .long (4 : Int32) [(.long t0), (.long t1), (.long t2), (.long (0 : Int64))] (.long (0 : Int64)) := r42_8
  have f45 : Fld Z T42.heap b17 "com/example/eventloom/eventloom/engine/Forbidden" "count" "I" (.int (3 : Int32)) := r42_5
  refine OGo.via (fun _ k => XS.aload X42.here hx rfl (hb hby at_144) rfl rfl (XS.lload X42.here hx rfl (hb hby at_146) rfl k)) ?_
  refine OGo.via (X42.ldc2Long hx hown (mvT hZ (own_w hw 35 rfl)) (g := (mkF m 148 #[.val (.long qa), .second, .val (.long qb), .second, .val (.long ea), .second, .val (.long eb), .second, .val (.long pz), .second, .val (.int mask), .val (.ref b1), .val (.ref b17), .unset, .unset, .unset, .unset, .unset, .unset, .unset, .unset, .unset, .unset, .unset, .unset] [(.long pz), (.ref b17)])) rfl (hb hby at_148)) ?_
  show OGo _ _ _ _ (T42.setTop (mkF m 151 #[.val (.long qa), .second, .val (.long qb), .second, .val (.long ea), .second, .val (.long eb), .second, .val (.long pz), .second, .val (.int mask), .val (.ref b1), .val (.ref b17), .unset, .unset, .unset, .unset, .unset, .unset, .unset, .unset, .unset, .unset, .unset, .unset] [(.long (3 : Int64)), (.long pz), (.ref b17)]))
  refine OGo.via (fun _ k => XS.ladd X42.here hx rfl (hb hby at_151) rfl (XS.aload X42.here hx rfl (hb hby at_152) rfl rfl (XS.iconst X42.here hx rfl (hb hby at_154) k))) ?_
  have f47 := f41.keep r42_0 (ninS (Nat.ne_of_lt lt_b1_b17) (ninS (Nat.ne_of_lt lt_b1_pa) (ninS (Nat.ne_of_lt lt_b1_ta) nin0)))
  obtain ⟨cl46, Ar46, q46, Sz46, Ng46, Hs46, Gf46⟩ := id f47
  have hin46 : ¬ ((3 : Int32) < 0 ∨ cl46.slots.size ≤ ((3 : Int32)).toNatClampNeg) := inb_of Sz46 ⟨by decide, by decide⟩
  have hat46 : cl46.slots[((3 : Int32)).toNatClampNeg]? = some (.long t3) := Hs46.at hin46 rfl
  refine OGo.via (X42.laload hx (j := (3 : Int32)) (v := (.long t3)) Ar46.1 (State.isArrayOf_alike hZ.alike Ar46.2.1) Ar46.2.2 hin46 hat46 (g := (mkF m 155 #[.val (.long qa), .second, .val (.long qb), .second, .val (.long ea), .second, .val (.long eb), .second, .val (.long pz), .second, .val (.int mask), .val (.ref b1), .val (.ref b17), .unset, .unset, .unset, .unset, .unset, .unset, .unset, .unset, .unset, .unset, .unset, .unset] [(.int (3 : Int32)), (.ref b1), (.long (pz + (3 : Int64))), (.ref b17)])) rfl rfl (hb hby at_155)) ?_
  show OGo _ _ _ _ (T42.setTop (mkF m 156 #[.val (.long qa), .second, .val (.long qb), .second, .val (.long ea), .second, .val (.long eb), .second, .val (.long pz), .second, .val (.int mask), .val (.ref b1), .val (.ref b17), .unset, .unset, .unset, .unset, .unset, .unset, .unset, .unset, .unset, .unset, .unset, .unset] [(.long t3), (.long (pz + (3 : Int64))), (.ref b17)]))
  refine OGo.via (X42.ldc2Long hx hown (mvT hZ (own_w hw 16 rfl)) (g := (mkF m 156 #[.val (.long qa), .second, .val (.long qb), .second, .val (.long ea), .second, .val (.long eb), .second, .val (.long pz), .second, .val (.int mask), .val (.ref b1), .val (.ref b17), .unset, .unset, .unset, .unset, .unset, .unset, .unset, .unset, .unset, .unset, .unset, .unset] [(.long t3), (.long (pz + (3 : Int64))), (.ref b17)])) rfl (hb hby at_156)) ?_
  show OGo _ _ _ _ (T42.setTop (mkF m 159 #[.val (.long qa), .second, .val (.long qb), .second, .val (.long ea), .second, .val (.long eb), .second, .val (.long pz), .second, .val (.int mask), .val (.ref b1), .val (.ref b17), .unset, .unset, .unset, .unset, .unset, .unset, .unset, .unset, .unset, .unset, .unset, .unset] [(.long (-9223372036854775808 : Int64)), (.long t3), (.long (pz + (3 : Int64))), (.ref b17)]))
  obtain ⟨cq48, kq48, q48a, q48b, q48c⟩ := isOf hZ rfl r42_1
  obtain ⟨_, T48, Lc48, X48, hQ48, st48⟩ := own_open X42 (X42.virtualBack hx (y := own_y5) (z := own_y5) hown (mvT hZ (own_w hw 17 rfl)) (mvT hZ (own_w hw 18 rfl)) (notFace_of_selects (args := #[]) (mvT hZ (own_w hw 20 rfl))) (mvT hZ (own_w hw 20 rfl)) (mvT hZ (own_w hw 19 rfl)) (by decide) (backOf (W := 0) (rm3p l Z a0 hw [] b17 (pz + (3 : Int64)) t3 (3 : Int32) (0 : Int32) (4 : Int32) pa ta kp kt [(.long pz), (.long (pz + (1 : Int64))), (.long (pz + (2 : Int64))), (.long (0 : Int64))] [(.long t0), (.long t1), (.long t2), (.long (0 : Int64))] (((1 : Int64) + (1 : Int64)) + (1 : Int64)) 3 t0 pz T42.heap n0 (Nat.le_trans Z0 K42.1) r42_1 r42_2 r42_3 r42_4 f45 r42_6 f43 f44 (Nat.ne_of_lt lt_b17_pa) (Nat.ne_of_lt lt_b17_ta) (Nat.ne_of_lt r29_3) g_b17 g_pa g_ta (by decide) (by decide) rfl ⟨by decide, by decide⟩ (Nat.le_of_ble_eq_true rfl) (Nat.le_of_ble_eq_true rfl) (by decide) (by decide) ⟨by decide, by decide⟩ rfl rfl) hZ (own_w hw 21 rfl) (own_w hw 3 rfl) (by decide) (by decide)) q48a q48c (g := (mkF m 159 #[.val (.long qa), .second, .val (.long qb), .second, .val (.long ea), .second, .val (.long eb), .second, .val (.long pz), .second, .val (.int mask), .val (.ref b1), .val (.ref b17), .unset, .unset, .unset, .unset, .unset, .unset, .unset, .unset, .unset, .unset, .unset, .unset] [(.long (-9223372036854775808 : Int64)), (.long t3), (.long (pz + (3 : Int64))), (.ref b17)])) rfl (by rw [hml]; rfl) (Steps.refl _) (argsL := [(.long (pz + (3 : Int64))), (.long t3), (.long (-9223372036854775808 : Int64))]) (rest := []) (lenOf pd_5 rfl) rfl (by show 2 * 0 + _ ≤ _; exact Nat.le_of_eq rfl) (hb hby at_159) (fun _ _ => ⟨rfl, rfl, (by decide : 4 + 0 ≤ _), (by decide : 20 + 0 ≤ _)⟩))
  obtain ⟨rfl, N48q, r48_0, r48_1, r48_2, r48_3, r48_4, r48_5, r48_6, r48_7, r48_8⟩ := hQ48
  have N48 := Fr.app N42 N48q
  have K48 : Keep h0 T48.heap [] := K42.trans r48_0 (allS (Or.inr sz_b17) (allS (Or.inr sz_pa) (allS (Or.inr sz_ta) all0)))
  refine OGo.via (fun _ k => st48.trans k) ?_
  show OGo _ _ _ _ (T48.setTop (mkF m 162 #[.val (.long qa), .second, .val (.long qb), .second, .val (.long ea), .second, .val (.long eb), .second, .val (.long pz), .second, .val (.int mask), .val (.ref b1), .val (.ref b17), .unset, .unset, .unset, .unset, .unset, .unset, .unset, .unset, .unset, .unset, .unset, .unset] []))
  have f49 : Arv Z T48.heap pa kp .long (4 : Int32) [(.long pz), (.long (pz + (1 : Int64))), (.long (pz + (2 : Int64))), (.long (pz + (3 : Int64)))] (.long (0 : Int64)) := r48_7
  have f50 : Arv Z T48.heap ta kt .long (4 : Int32) [(.long t0), (.long t1), (.long t2), (.long t3)] (.long (0 : Int64)) := r48_8
  have f51 : Fld Z T48.heap b17 "com/example/eventloom/eventloom/engine/Forbidden" "count" "I" (.int (4 : Int32)) := r48_5
  refine OGo.via (fun _ k => XS.aload X48.here hx rfl (hb hby at_162) rfl rfl (XS.lload X48.here hx rfl (hb hby at_164) rfl k)) ?_
  obtain ⟨cq52, kq52, q52a, q52b, q52c⟩ := isOf hZ rfl r48_1
  obtain ⟨_, T52, Lc52, X52, hQ52, st52⟩ := own_open X48 (X48.virtualBack hx (y := own_y4) (z := own_y4) hown (mvT hZ (own_w hw 36 rfl)) (mvT hZ (own_w hw 23 rfl)) (notFace_of_selects (args := #[]) (mvT hZ (own_w hw 25 rfl))) (mvT hZ (own_w hw 25 rfl)) (mvT hZ (own_w hw 24 rfl)) (by decide) (backOf (W := 0) (rm4a l Z a0 hw [] b17 ea pa ta kp kt ((((1 : Int64) + (1 : Int64)) + (1 : Int64)) + (1 : Int64)) pz t0 t1 t2 t3 t4 T48.heap n0 (Nat.le_trans Z0 K48.1) r48_1 r48_2 r48_3 r48_4 f51 r48_6 f49 f50 (Nat.ne_of_lt lt_b17_pa) (Nat.ne_of_lt lt_b17_ta) g_b17) hZ (own_w hw 26 rfl) (own_w hw 3 rfl) (by decide) (by decide)) q52a q52c (g := (mkF m 166 #[.val (.long qa), .second, .val (.long qb), .second, .val (.long ea), .second, .val (.long eb), .second, .val (.long pz), .second, .val (.int mask), .val (.ref b1), .val (.ref b17), .unset, .unset, .unset, .unset, .unset, .unset, .unset, .unset, .unset, .unset, .unset, .unset] [(.long ea), (.ref b17)])) rfl (by rw [hml]; rfl) (Steps.refl _) (argsL := [(.long ea)]) (rest := []) (lenOf pd_2 rfl) rfl (by show 2 * 0 + _ ≤ _; exact Nat.le_of_eq rfl) (hb hby at_166) (fun _ _ => ⟨rfl, rfl, (by decide : 4 + 0 ≤ _), (by decide : 20 + 0 ≤ _)⟩))
  obtain ⟨rfl, N52q, r52_0, r52_1, r52_2, r52_3, r52_4, r52_5, r52_6⟩ := hQ52
  have N52 := Fr.app N48 N52q
  have K52 : Keep h0 T52.heap [] := K48.trans r52_0 (allS (Or.inr sz_b17) all0)
  refine OGo.via (fun _ k => st52.trans k) ?_
  show OGo _ _ _ _ (T52.setTop (mkF m 169 #[.val (.long qa), .second, .val (.long qb), .second, .val (.long ea), .second, .val (.long eb), .second, .val (.long pz), .second, .val (.int mask), .val (.ref b1), .val (.ref b17), .unset, .unset, .unset, .unset, .unset, .unset, .unset, .unset, .unset, .unset, .unset, .unset] [(.long (own_x (own_adv (own_adv (own_adv (own_adv (0 : Int32) (4 : Int32) t0 t1 t2 t3 t4 ea) (4 : Int32) t0 t1 t2 t3 t4 ea) (4 : Int32) t0 t1 t2 t3 t4 ea) (4 : Int32) t0 t1 t2 t3 t4 ea) (4 : Int32) pz))]))
  show OGo _ _ _ _ (T52.setTop (mkF m 169 #[.val (.long qa), .second, .val (.long qb), .second, .val (.long ea), .second, .val (.long eb), .second, .val (.long pz), .second, .val (.int mask), .val (.ref b1), .val (.ref b17), .unset, .unset, .unset, .unset, .unset, .unset, .unset, .unset, .unset, .unset, .unset, .unset] [(.long (own_x (own_adv (own_adv (own_adv (own_adv (0 : Int32) (4 : Int32) t0 t1 t2 t3 t4 ea) (4 : Int32) t0 t1 t2 t3 t4 ea) (4 : Int32) t0 t1 t2 t3 t4 ea) (4 : Int32) t0 t1 t2 t3 t4 ea) (4 : Int32) pz))]))
  obtain ⟨dd, hdd⟩ : ∃ z, z = (own_adv (own_adv (own_adv (own_adv (0 : Int32) (4 : Int32) t0 t1 t2 t3 t4 ea) (4 : Int32) t0 t1 t2 t3 t4 ea) (4 : Int32) t0 t1 t2 t3 t4 ea) (4 : Int32) t0 t1 t2 t3 t4 ea) := ⟨_, rfl⟩
  rw [← hdd]
  rw [← hdd] at r52_2 r52_3
  show OGo _ _ _ _ (T52.setTop (mkF m 169 #[.val (.long qa), .second, .val (.long qb), .second, .val (.long ea), .second, .val (.long eb), .second, .val (.long pz), .second, .val (.int mask), .val (.ref b1), .val (.ref b17), .unset, .unset, .unset, .unset, .unset, .unset, .unset, .unset, .unset, .unset, .unset, .unset] [(.long (own_x dd (4 : Int32) pz))]))
  refine OGo.via (fun _ k => XS.lstore X52.here hx rfl (hb hby at_169) rfl (l' := #[.val (.long qa), .second, .val (.long qb), .second, .val (.long ea), .second, .val (.long eb), .second, .val (.long pz), .second, .val (.int mask), .val (.ref b1), .val (.ref b17), .val (.long (own_x dd (4 : Int32) pz)), .second, .unset, .unset, .unset, .unset, .unset, .unset, .unset, .unset, .unset, .unset]) rfl (XS.aload X52.here hx rfl (hb hby at_171) rfl rfl k)) ?_
  obtain ⟨cq53, kq53, q53a, q53b, q53c⟩ := isOf hZ rfl r52_1
  obtain ⟨_, T53, Lc53, X53, hQ53, st53⟩ := own_open X52 (X52.virtualBack hx (y := own_y6) (z := own_y6) hown (mvT hZ (own_w hw 37 rfl)) (mvT hZ (own_w hw 38 rfl)) (notFace_of_selects (args := #[]) (mvT hZ (own_w hw 40 rfl))) (mvT hZ (own_w hw 40 rfl)) (mvT hZ (own_w hw 39 rfl)) (by decide) (backOf (W := 0) (rm5 l Z a0 hw [] b17 (own_h dd (4 : Int32)) T52.heap n0 (Nat.le_trans Z0 K52.1) r52_2) hZ (own_w hw 41 rfl) (own_w hw 3 rfl) (by decide) (by decide)) q53a q53c (g := (mkF m 173 #[.val (.long qa), .second, .val (.long qb), .second, .val (.long ea), .second, .val (.long eb), .second, .val (.long pz), .second, .val (.int mask), .val (.ref b1), .val (.ref b17), .val (.long (own_x dd (4 : Int32) pz)), .second, .unset, .unset, .unset, .unset, .unset, .unset, .unset, .unset, .unset, .unset] [(.ref b17)])) rfl (by rw [hml]; rfl) (Steps.refl _) (argsL := []) (rest := []) (lenOf pd_6 rfl) rfl (by show 2 * 0 + _ ≤ _; exact Nat.le_of_eq rfl) (hb hby at_173) (fun _ _ => ⟨rfl, rfl, (by decide : 4 + 0 ≤ _), (by decide : 20 + 0 ≤ _)⟩))
  obtain ⟨rfl, N53q, r53_0⟩ := hQ53
  have N53 := Fr.app N52 N53q
  refine OGo.via (fun _ k => st53.trans k) ?_
  show OGo _ _ _ _ (T53.setTop (mkF m 176 #[.val (.long qa), .second, .val (.long qb), .second, .val (.long ea), .second, .val (.long eb), .second, .val (.long pz), .second, .val (.int mask), .val (.ref b1), .val (.ref b17), .val (.long (own_x dd (4 : Int32) pz)), .second, .unset, .unset, .unset, .unset, .unset, .unset, .unset, .unset, .unset, .unset] [(.int (own_h dd (4 : Int32)))]))
  refine OGo.via (fun _ k => XS.istore X53.here hx rfl (hb hby at_176) rfl (l' := #[.val (.long qa), .second, .val (.long qb), .second, .val (.long ea), .second, .val (.long eb), .second, .val (.long pz), .second, .val (.int mask), .val (.ref b1), .val (.ref b17), .val (.long (own_x dd (4 : Int32) pz)), .second, .val (.int (own_h dd (4 : Int32))), .unset, .unset, .unset, .unset, .unset, .unset, .unset, .unset, .unset]) rfl k) ?_
  have hcs := own_D1 t0 t1 t2 t3 t4 ea
  rw [← hdd] at hcs
  rcases hcs with hd | hd | hd | hd | hd
  · subst hd
    show OGo _ _ _ _ (T53.setTop (mkF m 178 #[.val (.long qa), .second, .val (.long qb), .second, .val (.long ea), .second, .val (.long eb), .second, .val (.long pz), .second, .val (.int mask), .val (.ref b1), .val (.ref b17), .val (.long (own_x (0 : Int32) (4 : Int32) pz)), .second, .val (.int (own_h (0 : Int32) (4 : Int32))), .unset, .unset, .unset, .unset, .unset, .unset, .unset, .unset, .unset] []))
    have f54 : Fld Z T52.heap b17 "com/example/eventloom/eventloom/engine/Forbidden" "count" "I" (.int (4 : Int32)) := r52_2
    have f55 : Fld Z T52.heap b17 "com/example/eventloom/eventloom/engine/Forbidden" "first" "I" (.int (0 : Int32)) := r52_3
    refine OGo.via (fun _ k => XS.aload X53.here hx rfl (hb hby at_178) rfl rfl (XS.lload X53.here hx rfl (hb hby at_180) rfl k)) ?_
    refine OGo.via (X53.ldc2Long hx hown (mvT hZ (own_w hw 42 rfl)) (g := (mkF m 182 #[.val (.long qa), .second, .val (.long qb), .second, .val (.long ea), .second, .val (.long eb), .second, .val (.long pz), .second, .val (.int mask), .val (.ref b1), .val (.ref b17), .val (.long (own_x (0 : Int32) (4 : Int32) pz)), .second, .val (.int (own_h (0 : Int32) (4 : Int32))), .unset, .unset, .unset, .unset, .unset, .unset, .unset, .unset, .unset] [(.long pz), (.ref b17)])) rfl (hb hby at_182)) ?_
    show OGo _ _ _ _ (T53.setTop (mkF m 185 #[.val (.long qa), .second, .val (.long qb), .second, .val (.long ea), .second, .val (.long eb), .second, .val (.long pz), .second, .val (.int mask), .val (.ref b1), .val (.ref b17), .val (.long (own_x (0 : Int32) (4 : Int32) pz)), .second, .val (.int (own_h (0 : Int32) (4 : Int32))), .unset, .unset, .unset, .unset, .unset, .unset, .unset, .unset, .unset] [(.long (4 : Int64)), (.long pz), (.ref b17)]))
    refine OGo.via (fun _ k => XS.ladd X53.here hx rfl (hb hby at_185) rfl (XS.aload X53.here hx rfl (hb hby at_186) rfl rfl (XS.iconst X53.here hx rfl (hb hby at_188) k))) ?_
    have f57 := f47.keep r48_0 (ninS (Nat.ne_of_lt lt_b1_b17) (ninS (Nat.ne_of_lt lt_b1_pa) (ninS (Nat.ne_of_lt lt_b1_ta) nin0)))
    have f58 := f57.keep r52_0 (ninS (Nat.ne_of_lt lt_b1_b17) nin0)
    obtain ⟨cl56, Ar56, q56, Sz56, Ng56, Hs56, Gf56⟩ := id f58
    have hin56 : ¬ ((4 : Int32) < 0 ∨ cl56.slots.size ≤ ((4 : Int32)).toNatClampNeg) := inb_of Sz56 ⟨by decide, by decide⟩
    have hat56 : cl56.slots[((4 : Int32)).toNatClampNeg]? = some (.long t4) := Hs56.at hin56 rfl
    refine OGo.via (X53.laload hx (j := (4 : Int32)) (v := (.long t4)) (by rw [r53_0]; exact Ar56.1) (State.isArrayOf_alike hZ.alike Ar56.2.1) Ar56.2.2 hin56 hat56 (g := (mkF m 189 #[.val (.long qa), .second, .val (.long qb), .second, .val (.long ea), .second, .val (.long eb), .second, .val (.long pz), .second, .val (.int mask), .val (.ref b1), .val (.ref b17), .val (.long (own_x (0 : Int32) (4 : Int32) pz)), .second, .val (.int (own_h (0 : Int32) (4 : Int32))), .unset, .unset, .unset, .unset, .unset, .unset, .unset, .unset, .unset] [(.int (4 : Int32)), (.ref b1), (.long (pz + (4 : Int64))), (.ref b17)])) rfl rfl (hb hby at_189)) ?_
    show OGo _ _ _ _ (T53.setTop (mkF m 190 #[.val (.long qa), .second, .val (.long qb), .second, .val (.long ea), .second, .val (.long eb), .second, .val (.long pz), .second, .val (.int mask), .val (.ref b1), .val (.ref b17), .val (.long (own_x (0 : Int32) (4 : Int32) pz)), .second, .val (.int (own_h (0 : Int32) (4 : Int32))), .unset, .unset, .unset, .unset, .unset, .unset, .unset, .unset, .unset] [(.long t4), (.long (pz + (4 : Int64))), (.ref b17)]))
    refine OGo.via (X53.ldc2Long hx hown (mvT hZ (own_w hw 16 rfl)) (g := (mkF m 190 #[.val (.long qa), .second, .val (.long qb), .second, .val (.long ea), .second, .val (.long eb), .second, .val (.long pz), .second, .val (.int mask), .val (.ref b1), .val (.ref b17), .val (.long (own_x (0 : Int32) (4 : Int32) pz)), .second, .val (.int (own_h (0 : Int32) (4 : Int32))), .unset, .unset, .unset, .unset, .unset, .unset, .unset, .unset, .unset] [(.long t4), (.long (pz + (4 : Int64))), (.ref b17)])) rfl (hb hby at_190)) ?_
    show OGo _ _ _ _ (T53.setTop (mkF m 193 #[.val (.long qa), .second, .val (.long qb), .second, .val (.long ea), .second, .val (.long eb), .second, .val (.long pz), .second, .val (.int mask), .val (.ref b1), .val (.ref b17), .val (.long (own_x (0 : Int32) (4 : Int32) pz)), .second, .val (.int (own_h (0 : Int32) (4 : Int32))), .unset, .unset, .unset, .unset, .unset, .unset, .unset, .unset, .unset] [(.long (-9223372036854775808 : Int64)), (.long t4), (.long (pz + (4 : Int64))), (.ref b17)]))
    have f60 := f49.keep r52_0 (ninS (Nat.ne_of_gt lt_b17_pa) nin0)
    have f61 := f50.keep r52_0 (ninS (Nat.ne_of_gt lt_b17_ta) nin0)
    have f62 := f31.keep r29_0 (ninS (Nat.ne_of_lt lt_wN_b17) nin0)
    have f63 := f62.keep r36_0 (ninS (Nat.ne_of_lt lt_wN_b17) (ninS (Nat.ne_of_lt lt_wN_pa) (ninS (Nat.ne_of_lt lt_wN_ta) nin0)))
    have f64 := f63.keep r42_0 (ninS (Nat.ne_of_lt lt_wN_b17) (ninS (Nat.ne_of_lt lt_wN_pa) (ninS (Nat.ne_of_lt lt_wN_ta) nin0)))
    have f65 := f64.keep r48_0 (ninS (Nat.ne_of_lt lt_wN_b17) (ninS (Nat.ne_of_lt lt_wN_pa) (ninS (Nat.ne_of_lt lt_wN_ta) nin0)))
    have f66 := f65.keep r52_0 (ninS (Nat.ne_of_lt lt_wN_b17) nin0)
    have f67 := f33.keep r29_0
    have f68 := f67.keep r36_0
    have f69 := f68.keep r42_0
    have f70 := f69.keep r48_0
    have f71 := f70.keep r52_0
    obtain ⟨cq59, kq59, q59a, q59b, q59c⟩ := isOf hZ r53_0 r52_1
    obtain ⟨_, T59, Lc59, X59, hQ59, st59⟩ := own_open X53 (X53.virtualBack hx (y := own_y5) (z := own_y5) hown (mvT hZ (own_w hw 17 rfl)) (mvT hZ (own_w hw 18 rfl)) (notFace_of_selects (args := #[]) (mvT hZ (own_w hw 20 rfl))) (mvT hZ (own_w hw 20 rfl)) (mvT hZ (own_w hw 19 rfl)) (by decide) (backOf (W := 0) (rm3g l Z a0 hw [] b17 (pz + (4 : Int64)) t4 pa ta kp kt ((((1 : Int64) + (1 : Int64)) + (1 : Int64)) + (1 : Int64)) pz (pz + (1 : Int64)) (pz + (2 : Int64)) (pz + (3 : Int64)) t0 t1 t2 t3 T52.heap n0 (Nat.le_trans Z0 K52.1) r52_1 r52_4 r52_5 f55 f54 r52_6 f60 f61 (Nat.ne_of_lt lt_b17_pa) (Nat.ne_of_lt lt_b17_ta) (Nat.ne_of_lt r29_3) g_b17) hZ (own_w hw 21 rfl) (own_w hw 3 rfl) (by decide) (by decide)) q59a q59c (g := (mkF m 193 #[.val (.long qa), .second, .val (.long qb), .second, .val (.long ea), .second, .val (.long eb), .second, .val (.long pz), .second, .val (.int mask), .val (.ref b1), .val (.ref b17), .val (.long (own_x (0 : Int32) (4 : Int32) pz)), .second, .val (.int (own_h (0 : Int32) (4 : Int32))), .unset, .unset, .unset, .unset, .unset, .unset, .unset, .unset, .unset] [(.long (-9223372036854775808 : Int64)), (.long t4), (.long (pz + (4 : Int64))), (.ref b17)])) rfl (by rw [hml]; rfl) (Steps.refl _) (argsL := [(.long (pz + (4 : Int64))), (.long t4), (.long (-9223372036854775808 : Int64))]) (rest := []) (lenOf pd_5 rfl) rfl (by show 2 * 0 + _ ≤ _; exact Nat.le_of_eq rfl) (hb hby at_193) (fun _ _ => ⟨rfl, r53_0, (by decide : 4 + 2 ≤ _), (by decide : 20 + 16 ≤ _)⟩))
    obtain ⟨pb, tb, kq, ku, rfl, N59q, r59_0, r59_1, r59_2, r59_3, r59_4, r59_5, r59_6, r59_7, r59_8, r59_9, r59_10, r59_11⟩ := hQ59
    have N59 := Fr.app N53 N59q
    have K59 : Keep h0 T59.heap [] := K52.trans r59_0 (allS (Or.inr sz_b17) all0)
    have lt_wN_pb : wN < pb := Nat.lt_of_lt_of_le f66.lt r59_1
    have lt_b1_pb : b1 < pb := Nat.lt_of_lt_of_le f71.lt r59_1
    have lt_b17_pb : b17 < pb := Nat.lt_of_lt_of_le r52_1.lt r59_1
    have lt_pa_pb : pa < pb := Nat.lt_of_lt_of_le f60.lt r59_1
    have lt_ta_pb : ta < pb := Nat.lt_of_lt_of_le f61.lt r59_1
    have sz_pb : h0.size ≤ pb := Nat.le_trans K52.1 r59_1
    have g_pb : n0 ≤ pb := Nat.le_trans Z0 sz_pb
    have lt_wN_tb : wN < tb := Nat.lt_of_lt_of_le f66.lt r59_2
    have lt_b1_tb : b1 < tb := Nat.lt_of_lt_of_le f71.lt r59_2
    have lt_b17_tb : b17 < tb := Nat.lt_of_lt_of_le r52_1.lt r59_2
    have lt_pa_tb : pa < tb := Nat.lt_of_lt_of_le f60.lt r59_2
    have lt_ta_tb : ta < tb := Nat.lt_of_lt_of_le f61.lt r59_2
    have sz_tb : h0.size ≤ tb := Nat.le_trans K52.1 r59_2
    have g_tb : n0 ≤ tb := Nat.le_trans Z0 sz_tb
    refine OGo.via (fun _ k => st59.trans k) ?_
    show OGo _ _ _ _ (T59.setTop (mkF m 196 #[.val (.long qa), .second, .val (.long qb), .second, .val (.long ea), .second, .val (.long eb), .second, .val (.long pz), .second, .val (.int mask), .val (.ref b1), .val (.ref b17), .val (.long (own_x (0 : Int32) (4 : Int32) pz)), .second, .val (.int (own_h (0 : Int32) (4 : Int32))), .unset, .unset, .unset, .unset, .unset, .unset, .unset, .unset, .unset] []))
    refine OGo.via (fun _ k => XS.aload X59.here hx rfl (hb hby at_196) rfl rfl (XS.lload X59.here hx rfl (hb hby at_198) rfl k)) ?_
    obtain ⟨cq72, kq72, q72a, q72b, q72c⟩ := isOf hZ rfl r59_4
    obtain ⟨_, T72, Lc72, X72, hQ72, st72⟩ := own_open X59 (X59.virtualBack hx (y := own_y4) (z := own_y4) hown (mvT hZ (own_w hw 36 rfl)) (mvT hZ (own_w hw 23 rfl)) (notFace_of_selects (args := #[]) (mvT hZ (own_w hw 25 rfl))) (mvT hZ (own_w hw 25 rfl)) (mvT hZ (own_w hw 24 rfl)) (by decide) (backOf (W := 0) (rm4b0 l Z a0 hw [] b17 eb pb tb kq ku (((((1 : Int64) + (1 : Int64)) + (1 : Int64)) + (1 : Int64)) + (1 : Int64)) pz t0 t1 t2 t3 t4 T59.heap n0 (Nat.le_trans Z0 K59.1) r59_4 r59_5 r59_6 r59_7 r59_8 r59_9 r59_10 r59_11 (Nat.ne_of_lt lt_b17_pb) (Nat.ne_of_lt lt_b17_tb) g_b17) hZ (own_w hw 26 rfl) (own_w hw 3 rfl) (by decide) (by decide)) q72a q72c (g := (mkF m 200 #[.val (.long qa), .second, .val (.long qb), .second, .val (.long ea), .second, .val (.long eb), .second, .val (.long pz), .second, .val (.int mask), .val (.ref b1), .val (.ref b17), .val (.long (own_x (0 : Int32) (4 : Int32) pz)), .second, .val (.int (own_h (0 : Int32) (4 : Int32))), .unset, .unset, .unset, .unset, .unset, .unset, .unset, .unset, .unset] [(.long eb), (.ref b17)])) rfl (by rw [hml]; rfl) (Steps.refl _) (argsL := [(.long eb)]) (rest := []) (lenOf pd_2 rfl) rfl (by show 2 * 0 + _ ≤ _; exact Nat.le_of_eq rfl) (hb hby at_200) (fun _ _ => ⟨rfl, rfl, (by decide : 6 + 0 ≤ _), (by decide : 36 + 0 ≤ _)⟩))
    obtain ⟨rfl, N72q, r72_0, r72_1, r72_2⟩ := hQ72
    have N72 := Fr.app N59 N72q
    have K72 : Keep h0 T72.heap [] := K59.trans r72_0 (allS (Or.inr sz_b17) all0)
    refine OGo.via (fun _ k => st72.trans k) ?_
    show OGo _ _ _ _ (T72.setTop (mkF m 203 #[.val (.long qa), .second, .val (.long qb), .second, .val (.long ea), .second, .val (.long eb), .second, .val (.long pz), .second, .val (.int mask), .val (.ref b1), .val (.ref b17), .val (.long (own_x (0 : Int32) (4 : Int32) pz)), .second, .val (.int (own_h (0 : Int32) (4 : Int32))), .unset, .unset, .unset, .unset, .unset, .unset, .unset, .unset, .unset] [(.long (own_x (own_adv (own_adv (own_adv (own_adv (own_adv (0 : Int32) (5 : Int32) t0 t1 t2 t3 t4 eb) (5 : Int32) t0 t1 t2 t3 t4 eb) (5 : Int32) t0 t1 t2 t3 t4 eb) (5 : Int32) t0 t1 t2 t3 t4 eb) (5 : Int32) t0 t1 t2 t3 t4 eb) (5 : Int32) pz))]))
    show OGo _ _ _ _ (T72.setTop (mkF m 203 #[.val (.long qa), .second, .val (.long qb), .second, .val (.long ea), .second, .val (.long eb), .second, .val (.long pz), .second, .val (.int mask), .val (.ref b1), .val (.ref b17), .val (.long (own_x (0 : Int32) (4 : Int32) pz)), .second, .val (.int (own_h (0 : Int32) (4 : Int32))), .unset, .unset, .unset, .unset, .unset, .unset, .unset, .unset, .unset] [(.long (own_x (own_adv (own_adv (own_adv (own_adv (own_adv (0 : Int32) (5 : Int32) t0 t1 t2 t3 t4 eb) (5 : Int32) t0 t1 t2 t3 t4 eb) (5 : Int32) t0 t1 t2 t3 t4 eb) (5 : Int32) t0 t1 t2 t3 t4 eb) (5 : Int32) t0 t1 t2 t3 t4 eb) (5 : Int32) pz))]))
    obtain ⟨dc, hdc⟩ : ∃ z, z = (own_adv (own_adv (own_adv (own_adv (own_adv (0 : Int32) (5 : Int32) t0 t1 t2 t3 t4 eb) (5 : Int32) t0 t1 t2 t3 t4 eb) (5 : Int32) t0 t1 t2 t3 t4 eb) (5 : Int32) t0 t1 t2 t3 t4 eb) (5 : Int32) t0 t1 t2 t3 t4 eb) := ⟨_, rfl⟩
    rw [← hdc]
    rw [← hdc] at r72_2
    show OGo _ _ _ _ (T72.setTop (mkF m 203 #[.val (.long qa), .second, .val (.long qb), .second, .val (.long ea), .second, .val (.long eb), .second, .val (.long pz), .second, .val (.int mask), .val (.ref b1), .val (.ref b17), .val (.long (own_x (0 : Int32) (4 : Int32) pz)), .second, .val (.int (own_h (0 : Int32) (4 : Int32))), .unset, .unset, .unset, .unset, .unset, .unset, .unset, .unset, .unset] [(.long (own_x dc (5 : Int32) pz))]))
    refine OGo.via (fun _ k => XS.lstore X72.here hx rfl (hb hby at_203) rfl (l' := #[.val (.long qa), .second, .val (.long qb), .second, .val (.long ea), .second, .val (.long eb), .second, .val (.long pz), .second, .val (.int mask), .val (.ref b1), .val (.ref b17), .val (.long (own_x (0 : Int32) (4 : Int32) pz)), .second, .val (.int (own_h (0 : Int32) (4 : Int32))), .val (.long (own_x dc (5 : Int32) pz)), .second, .unset, .unset, .unset, .unset, .unset, .unset, .unset]) rfl (XS.aload X72.here hx rfl (hb hby at_205) rfl rfl k)) ?_
    obtain ⟨cq73, kq73, q73a, q73b, q73c⟩ := isOf hZ rfl r72_1
    obtain ⟨_, T73, Lc73, X73, hQ73, st73⟩ := own_open X72 (X72.virtualBack hx (y := own_y6) (z := own_y6) hown (mvT hZ (own_w hw 37 rfl)) (mvT hZ (own_w hw 38 rfl)) (notFace_of_selects (args := #[]) (mvT hZ (own_w hw 40 rfl))) (mvT hZ (own_w hw 40 rfl)) (mvT hZ (own_w hw 39 rfl)) (by decide) (backOf (W := 0) (rm5 l Z a0 hw [] b17 (own_h dc (5 : Int32)) T72.heap n0 (Nat.le_trans Z0 K72.1) r72_2) hZ (own_w hw 41 rfl) (own_w hw 3 rfl) (by decide) (by decide)) q73a q73c (g := (mkF m 207 #[.val (.long qa), .second, .val (.long qb), .second, .val (.long ea), .second, .val (.long eb), .second, .val (.long pz), .second, .val (.int mask), .val (.ref b1), .val (.ref b17), .val (.long (own_x (0 : Int32) (4 : Int32) pz)), .second, .val (.int (own_h (0 : Int32) (4 : Int32))), .val (.long (own_x dc (5 : Int32) pz)), .second, .unset, .unset, .unset, .unset, .unset, .unset, .unset] [(.ref b17)])) rfl (by rw [hml]; rfl) (Steps.refl _) (argsL := []) (rest := []) (lenOf pd_6 rfl) rfl (by show 2 * 0 + _ ≤ _; exact Nat.le_of_eq rfl) (hb hby at_207) (fun _ _ => ⟨rfl, rfl, (by decide : 6 + 0 ≤ _), (by decide : 36 + 0 ≤ _)⟩))
    obtain ⟨rfl, N73q, r73_0⟩ := hQ73
    have N73 := Fr.app N72 N73q
    refine OGo.via (fun _ k => st73.trans k) ?_
    show OGo _ _ _ _ (T73.setTop (mkF m 210 #[.val (.long qa), .second, .val (.long qb), .second, .val (.long ea), .second, .val (.long eb), .second, .val (.long pz), .second, .val (.int mask), .val (.ref b1), .val (.ref b17), .val (.long (own_x (0 : Int32) (4 : Int32) pz)), .second, .val (.int (own_h (0 : Int32) (4 : Int32))), .val (.long (own_x dc (5 : Int32) pz)), .second, .unset, .unset, .unset, .unset, .unset, .unset, .unset] [(.int (own_h dc (5 : Int32)))]))
    refine OGo.via (fun _ k => XS.istore X73.here hx rfl (hb hby at_210) rfl (l' := #[.val (.long qa), .second, .val (.long qb), .second, .val (.long ea), .second, .val (.long eb), .second, .val (.long pz), .second, .val (.int mask), .val (.ref b1), .val (.ref b17), .val (.long (own_x (0 : Int32) (4 : Int32) pz)), .second, .val (.int (own_h (0 : Int32) (4 : Int32))), .val (.long (own_x dc (5 : Int32) pz)), .second, .val (.int (own_h dc (5 : Int32))), .unset, .unset, .unset, .unset, .unset, .unset]) rfl (XS.iconst X73.here hx rfl (hb hby at_212) (XS.iconst X73.here hx rfl (hb hby at_213) (XS.aload X73.here hx rfl (hb hby at_214) rfl rfl (XS.lload X73.here hx rfl (hb hby at_216) rfl k))))) ?_
    have f75 := f58.keep r59_0 (ninS (Nat.ne_of_lt lt_b1_b17) nin0)
    have f76 := f75.keep r72_0 (ninS (Nat.ne_of_lt lt_b1_b17) nin0)
    obtain ⟨_, T74, Lc74, X74, hQ74, st74⟩ := own_open X73 (Jvm.LawKit.callS X73 hx (y := own_y7) hown (mvT hZ (own_w hw 60 rfl)) (mvT hZ (own_w hw 61 rfl)) (mvT hZ (own_w hw 62 rfl)) (mvT hZ (own_w hw 63 rfl)) (by decide) (backOf (W := 0) (rm9 l Z a0 hw [] (0 : Int32) (4 : Int32) b1 ea ka1 t0 t1 t2 t3 t4 T72.heap n0 (Nat.le_trans Z0 K72.1) f76 (by decide) (by decide)) hZ (own_w hw 63 rfl) (own_w hw 62 rfl) (by decide) (by decide)) (g := (mkF m 218 #[.val (.long qa), .second, .val (.long qb), .second, .val (.long ea), .second, .val (.long eb), .second, .val (.long pz), .second, .val (.int mask), .val (.ref b1), .val (.ref b17), .val (.long (own_x (0 : Int32) (4 : Int32) pz)), .second, .val (.int (own_h (0 : Int32) (4 : Int32))), .val (.long (own_x dc (5 : Int32) pz)), .second, .val (.int (own_h dc (5 : Int32))), .unset, .unset, .unset, .unset, .unset, .unset] [(.long ea), (.ref b1), (.int (4 : Int32)), (.int (0 : Int32))])) rfl (by rw [hml]; rfl) (argsL := [(.int (0 : Int32)), (.int (4 : Int32)), (.ref b1), (.long ea)]) (rest := []) (lenOf pd_7 rfl) rfl (by show 2 * 0 + _ ≤ _; exact Nat.le_of_eq rfl) (hb hby at_218) (fun _ _ => ⟨rfl, r73_0, (by decide : 6 + 0 ≤ _), (by decide : 36 + 0 ≤ _)⟩))
    obtain ⟨rfl, N74q, r74_0⟩ := hQ74
    have N74 := Fr.app N73 N74q
    refine OGo.via st74 ?_
    show OGo _ _ _ _ (T74.setTop (mkF m 221 #[.val (.long qa), .second, .val (.long qb), .second, .val (.long ea), .second, .val (.long eb), .second, .val (.long pz), .second, .val (.int mask), .val (.ref b1), .val (.ref b17), .val (.long (own_x (0 : Int32) (4 : Int32) pz)), .second, .val (.int (own_h (0 : Int32) (4 : Int32))), .val (.long (own_x dc (5 : Int32) pz)), .second, .val (.int (own_h dc (5 : Int32))), .unset, .unset, .unset, .unset, .unset, .unset] [(.int (own_adv (0 : Int32) (4 : Int32) t0 t1 t2 t3 t4 ea))]))
    obtain ⟨v77, hv77⟩ : ∃ z, z = (own_adv (0 : Int32) (4 : Int32) t0 t1 t2 t3 t4 ea) := ⟨_, rfl⟩
    rw [← hv77]
    have hnv77 : ¬ v77 < 0 := by rw [hv77]; exact own_adv_nn (by decide) (by decide)
    show OGo _ _ _ _ (T74.setTop (mkF m 221 #[.val (.long qa), .second, .val (.long qb), .second, .val (.long ea), .second, .val (.long eb), .second, .val (.long pz), .second, .val (.int mask), .val (.ref b1), .val (.ref b17), .val (.long (own_x (0 : Int32) (4 : Int32) pz)), .second, .val (.int (own_h (0 : Int32) (4 : Int32))), .val (.long (own_x dc (5 : Int32) pz)), .second, .val (.int (own_h dc (5 : Int32))), .unset, .unset, .unset, .unset, .unset, .unset] [(.int v77)]))
    refine OGo.via (fun _ k => XS.iconst X74.here hx rfl (hb hby at_221) (XS.aload X74.here hx rfl (hb hby at_222) rfl rfl (XS.lload X74.here hx rfl (hb hby at_224) rfl k))) ?_
    obtain ⟨_, T78, Lc78, X78, hQ78, st78⟩ := own_open X74 (Jvm.LawKit.callS X74 hx (y := own_y7) hown (mvT hZ (own_w hw 60 rfl)) (mvT hZ (own_w hw 61 rfl)) (mvT hZ (own_w hw 62 rfl)) (mvT hZ (own_w hw 63 rfl)) (by decide) (backOf (W := 0) (rm9 l Z a0 hw [] v77 (4 : Int32) b1 ea ka1 t0 t1 t2 t3 t4 T72.heap n0 (Nat.le_trans Z0 K72.1) f76 hnv77 (by decide)) hZ (own_w hw 63 rfl) (own_w hw 62 rfl) (by decide) (by decide)) (g := (mkF m 226 #[.val (.long qa), .second, .val (.long qb), .second, .val (.long ea), .second, .val (.long eb), .second, .val (.long pz), .second, .val (.int mask), .val (.ref b1), .val (.ref b17), .val (.long (own_x (0 : Int32) (4 : Int32) pz)), .second, .val (.int (own_h (0 : Int32) (4 : Int32))), .val (.long (own_x dc (5 : Int32) pz)), .second, .val (.int (own_h dc (5 : Int32))), .unset, .unset, .unset, .unset, .unset, .unset] [(.long ea), (.ref b1), (.int (4 : Int32)), (.int v77)])) rfl (by rw [hml]; rfl) (argsL := [(.int v77), (.int (4 : Int32)), (.ref b1), (.long ea)]) (rest := []) (lenOf pd_7 rfl) rfl (by show 2 * 0 + _ ≤ _; exact Nat.le_of_eq rfl) (hb hby at_226) (fun _ _ => ⟨rfl, r74_0, (by decide : 6 + 0 ≤ _), (by decide : 36 + 0 ≤ _)⟩))
    obtain ⟨rfl, N78q, r78_0⟩ := hQ78
    have N78 := Fr.app N74 N78q
    refine OGo.via st78 ?_
    show OGo _ _ _ _ (T78.setTop (mkF m 229 #[.val (.long qa), .second, .val (.long qb), .second, .val (.long ea), .second, .val (.long eb), .second, .val (.long pz), .second, .val (.int mask), .val (.ref b1), .val (.ref b17), .val (.long (own_x (0 : Int32) (4 : Int32) pz)), .second, .val (.int (own_h (0 : Int32) (4 : Int32))), .val (.long (own_x dc (5 : Int32) pz)), .second, .val (.int (own_h dc (5 : Int32))), .unset, .unset, .unset, .unset, .unset, .unset] [(.int (own_adv v77 (4 : Int32) t0 t1 t2 t3 t4 ea))]))
    obtain ⟨v79, hv79⟩ : ∃ z, z = (own_adv v77 (4 : Int32) t0 t1 t2 t3 t4 ea) := ⟨_, rfl⟩
    rw [← hv79]
    have hnv79 : ¬ v79 < 0 := by rw [hv79]; exact own_adv_nn hnv77 (by decide)
    show OGo _ _ _ _ (T78.setTop (mkF m 229 #[.val (.long qa), .second, .val (.long qb), .second, .val (.long ea), .second, .val (.long eb), .second, .val (.long pz), .second, .val (.int mask), .val (.ref b1), .val (.ref b17), .val (.long (own_x (0 : Int32) (4 : Int32) pz)), .second, .val (.int (own_h (0 : Int32) (4 : Int32))), .val (.long (own_x dc (5 : Int32) pz)), .second, .val (.int (own_h dc (5 : Int32))), .unset, .unset, .unset, .unset, .unset, .unset] [(.int v79)]))
    refine OGo.via (fun _ k => XS.iconst X78.here hx rfl (hb hby at_229) (XS.aload X78.here hx rfl (hb hby at_230) rfl rfl (XS.lload X78.here hx rfl (hb hby at_232) rfl k))) ?_
    obtain ⟨_, T80, Lc80, X80, hQ80, st80⟩ := own_open X78 (Jvm.LawKit.callS X78 hx (y := own_y7) hown (mvT hZ (own_w hw 60 rfl)) (mvT hZ (own_w hw 61 rfl)) (mvT hZ (own_w hw 62 rfl)) (mvT hZ (own_w hw 63 rfl)) (by decide) (backOf (W := 0) (rm9 l Z a0 hw [] v79 (4 : Int32) b1 ea ka1 t0 t1 t2 t3 t4 T72.heap n0 (Nat.le_trans Z0 K72.1) f76 hnv79 (by decide)) hZ (own_w hw 63 rfl) (own_w hw 62 rfl) (by decide) (by decide)) (g := (mkF m 234 #[.val (.long qa), .second, .val (.long qb), .second, .val (.long ea), .second, .val (.long eb), .second, .val (.long pz), .second, .val (.int mask), .val (.ref b1), .val (.ref b17), .val (.long (own_x (0 : Int32) (4 : Int32) pz)), .second, .val (.int (own_h (0 : Int32) (4 : Int32))), .val (.long (own_x dc (5 : Int32) pz)), .second, .val (.int (own_h dc (5 : Int32))), .unset, .unset, .unset, .unset, .unset, .unset] [(.long ea), (.ref b1), (.int (4 : Int32)), (.int v79)])) rfl (by rw [hml]; rfl) (argsL := [(.int v79), (.int (4 : Int32)), (.ref b1), (.long ea)]) (rest := []) (lenOf pd_7 rfl) rfl (by show 2 * 0 + _ ≤ _; exact Nat.le_of_eq rfl) (hb hby at_234) (fun _ _ => ⟨rfl, r78_0, (by decide : 6 + 0 ≤ _), (by decide : 36 + 0 ≤ _)⟩))
    obtain ⟨rfl, N80q, r80_0⟩ := hQ80
    have N80 := Fr.app N78 N80q
    refine OGo.via st80 ?_
    show OGo _ _ _ _ (T80.setTop (mkF m 237 #[.val (.long qa), .second, .val (.long qb), .second, .val (.long ea), .second, .val (.long eb), .second, .val (.long pz), .second, .val (.int mask), .val (.ref b1), .val (.ref b17), .val (.long (own_x (0 : Int32) (4 : Int32) pz)), .second, .val (.int (own_h (0 : Int32) (4 : Int32))), .val (.long (own_x dc (5 : Int32) pz)), .second, .val (.int (own_h dc (5 : Int32))), .unset, .unset, .unset, .unset, .unset, .unset] [(.int (own_adv v79 (4 : Int32) t0 t1 t2 t3 t4 ea))]))
    obtain ⟨v81, hv81⟩ : ∃ z, z = (own_adv v79 (4 : Int32) t0 t1 t2 t3 t4 ea) := ⟨_, rfl⟩
    rw [← hv81]
    have hnv81 : ¬ v81 < 0 := by rw [hv81]; exact own_adv_nn hnv79 (by decide)
    show OGo _ _ _ _ (T80.setTop (mkF m 237 #[.val (.long qa), .second, .val (.long qb), .second, .val (.long ea), .second, .val (.long eb), .second, .val (.long pz), .second, .val (.int mask), .val (.ref b1), .val (.ref b17), .val (.long (own_x (0 : Int32) (4 : Int32) pz)), .second, .val (.int (own_h (0 : Int32) (4 : Int32))), .val (.long (own_x dc (5 : Int32) pz)), .second, .val (.int (own_h dc (5 : Int32))), .unset, .unset, .unset, .unset, .unset, .unset] [(.int v81)]))
    refine OGo.via (fun _ k => XS.iconst X80.here hx rfl (hb hby at_237) (XS.aload X80.here hx rfl (hb hby at_238) rfl rfl (XS.lload X80.here hx rfl (hb hby at_240) rfl k))) ?_
    obtain ⟨_, T82, Lc82, X82, hQ82, st82⟩ := own_open X80 (Jvm.LawKit.callS X80 hx (y := own_y7) hown (mvT hZ (own_w hw 60 rfl)) (mvT hZ (own_w hw 61 rfl)) (mvT hZ (own_w hw 62 rfl)) (mvT hZ (own_w hw 63 rfl)) (by decide) (backOf (W := 0) (rm9 l Z a0 hw [] v81 (4 : Int32) b1 ea ka1 t0 t1 t2 t3 t4 T72.heap n0 (Nat.le_trans Z0 K72.1) f76 hnv81 (by decide)) hZ (own_w hw 63 rfl) (own_w hw 62 rfl) (by decide) (by decide)) (g := (mkF m 242 #[.val (.long qa), .second, .val (.long qb), .second, .val (.long ea), .second, .val (.long eb), .second, .val (.long pz), .second, .val (.int mask), .val (.ref b1), .val (.ref b17), .val (.long (own_x (0 : Int32) (4 : Int32) pz)), .second, .val (.int (own_h (0 : Int32) (4 : Int32))), .val (.long (own_x dc (5 : Int32) pz)), .second, .val (.int (own_h dc (5 : Int32))), .unset, .unset, .unset, .unset, .unset, .unset] [(.long ea), (.ref b1), (.int (4 : Int32)), (.int v81)])) rfl (by rw [hml]; rfl) (argsL := [(.int v81), (.int (4 : Int32)), (.ref b1), (.long ea)]) (rest := []) (lenOf pd_7 rfl) rfl (by show 2 * 0 + _ ≤ _; exact Nat.le_of_eq rfl) (hb hby at_242) (fun _ _ => ⟨rfl, r80_0, (by decide : 6 + 0 ≤ _), (by decide : 36 + 0 ≤ _)⟩))
    obtain ⟨rfl, N82q, r82_0⟩ := hQ82
    have N82 := Fr.app N80 N82q
    refine OGo.via st82 ?_
    show OGo _ _ _ _ (T82.setTop (mkF m 245 #[.val (.long qa), .second, .val (.long qb), .second, .val (.long ea), .second, .val (.long eb), .second, .val (.long pz), .second, .val (.int mask), .val (.ref b1), .val (.ref b17), .val (.long (own_x (0 : Int32) (4 : Int32) pz)), .second, .val (.int (own_h (0 : Int32) (4 : Int32))), .val (.long (own_x dc (5 : Int32) pz)), .second, .val (.int (own_h dc (5 : Int32))), .unset, .unset, .unset, .unset, .unset, .unset] [(.int (own_adv v81 (4 : Int32) t0 t1 t2 t3 t4 ea))]))
    obtain ⟨v83, hv83⟩ : ∃ z, z = (own_adv v81 (4 : Int32) t0 t1 t2 t3 t4 ea) := ⟨_, rfl⟩
    rw [← hv83]
    have hnv83 : ¬ v83 < 0 := by rw [hv83]; exact own_adv_nn hnv81 (by decide)
    show OGo _ _ _ _ (T82.setTop (mkF m 245 #[.val (.long qa), .second, .val (.long qb), .second, .val (.long ea), .second, .val (.long eb), .second, .val (.long pz), .second, .val (.int mask), .val (.ref b1), .val (.ref b17), .val (.long (own_x (0 : Int32) (4 : Int32) pz)), .second, .val (.int (own_h (0 : Int32) (4 : Int32))), .val (.long (own_x dc (5 : Int32) pz)), .second, .val (.int (own_h dc (5 : Int32))), .unset, .unset, .unset, .unset, .unset, .unset] [(.int v83)]))
    have hd' : v83 = (0 : Int32) := by rw [hv83, hv81, hv79, hv77]; exact hdd.symm
    rw [hd']
    show OGo _ _ _ _ (T82.setTop (mkF m 245 #[.val (.long qa), .second, .val (.long qb), .second, .val (.long ea), .second, .val (.long eb), .second, .val (.long pz), .second, .val (.int mask), .val (.ref b1), .val (.ref b17), .val (.long (own_x (0 : Int32) (4 : Int32) pz)), .second, .val (.int (own_h (0 : Int32) (4 : Int32))), .val (.long (own_x dc (5 : Int32) pz)), .second, .val (.int (own_h dc (5 : Int32))), .unset, .unset, .unset, .unset, .unset, .unset] [(.int (0 : Int32))]))
    refine OGo.via (fun _ k => XS.istore X82.here hx rfl (hb hby at_245) rfl (l' := #[.val (.long qa), .second, .val (.long qb), .second, .val (.long ea), .second, .val (.long eb), .second, .val (.long pz), .second, .val (.int mask), .val (.ref b1), .val (.ref b17), .val (.long (own_x (0 : Int32) (4 : Int32) pz)), .second, .val (.int (own_h (0 : Int32) (4 : Int32))), .val (.long (own_x dc (5 : Int32) pz)), .second, .val (.int (own_h dc (5 : Int32))), .val (.int (0 : Int32)), .unset, .unset, .unset, .unset, .unset]) rfl (XS.iload X82.here hx rfl (hb hby at_247) rfl (XS.iconst X82.here hx rfl (hb hby at_249) (XS.aload X82.here hx rfl (hb hby at_250) rfl rfl (XS.lload X82.here hx rfl (hb hby at_252) rfl k))))) ?_
    obtain ⟨_, T84, Lc84, X84, hQ84, st84⟩ := own_open X82 (Jvm.LawKit.callS X82 hx (y := own_y7) hown (mvT hZ (own_w hw 60 rfl)) (mvT hZ (own_w hw 61 rfl)) (mvT hZ (own_w hw 62 rfl)) (mvT hZ (own_w hw 63 rfl)) (by decide) (backOf (W := 0) (rm9 l Z a0 hw [] (0 : Int32) (5 : Int32) b1 eb ka1 t0 t1 t2 t3 t4 T72.heap n0 (Nat.le_trans Z0 K72.1) f76 (by decide) (by decide)) hZ (own_w hw 63 rfl) (own_w hw 62 rfl) (by decide) (by decide)) (g := (mkF m 254 #[.val (.long qa), .second, .val (.long qb), .second, .val (.long ea), .second, .val (.long eb), .second, .val (.long pz), .second, .val (.int mask), .val (.ref b1), .val (.ref b17), .val (.long (own_x (0 : Int32) (4 : Int32) pz)), .second, .val (.int (own_h (0 : Int32) (4 : Int32))), .val (.long (own_x dc (5 : Int32) pz)), .second, .val (.int (own_h dc (5 : Int32))), .val (.int (0 : Int32)), .unset, .unset, .unset, .unset, .unset] [(.long eb), (.ref b1), (.int (5 : Int32)), (.int (0 : Int32))])) rfl (by rw [hml]; rfl) (argsL := [(.int (0 : Int32)), (.int (5 : Int32)), (.ref b1), (.long eb)]) (rest := []) (lenOf pd_7 rfl) rfl (by show 2 * 0 + _ ≤ _; exact Nat.le_of_eq rfl) (hb hby at_254) (fun _ _ => ⟨rfl, r82_0, (by decide : 6 + 0 ≤ _), (by decide : 36 + 0 ≤ _)⟩))
    obtain ⟨rfl, N84q, r84_0⟩ := hQ84
    have N84 := Fr.app N82 N84q
    refine OGo.via st84 ?_
    show OGo _ _ _ _ (T84.setTop (mkF m 257 #[.val (.long qa), .second, .val (.long qb), .second, .val (.long ea), .second, .val (.long eb), .second, .val (.long pz), .second, .val (.int mask), .val (.ref b1), .val (.ref b17), .val (.long (own_x (0 : Int32) (4 : Int32) pz)), .second, .val (.int (own_h (0 : Int32) (4 : Int32))), .val (.long (own_x dc (5 : Int32) pz)), .second, .val (.int (own_h dc (5 : Int32))), .val (.int (0 : Int32)), .unset, .unset, .unset, .unset, .unset] [(.int (own_adv (0 : Int32) (5 : Int32) t0 t1 t2 t3 t4 eb))]))
    obtain ⟨v85, hv85⟩ : ∃ z, z = (own_adv (0 : Int32) (5 : Int32) t0 t1 t2 t3 t4 eb) := ⟨_, rfl⟩
    rw [← hv85]
    have hnv85 : ¬ v85 < 0 := by rw [hv85]; exact own_adv_nn (by decide) (by decide)
    show OGo _ _ _ _ (T84.setTop (mkF m 257 #[.val (.long qa), .second, .val (.long qb), .second, .val (.long ea), .second, .val (.long eb), .second, .val (.long pz), .second, .val (.int mask), .val (.ref b1), .val (.ref b17), .val (.long (own_x (0 : Int32) (4 : Int32) pz)), .second, .val (.int (own_h (0 : Int32) (4 : Int32))), .val (.long (own_x dc (5 : Int32) pz)), .second, .val (.int (own_h dc (5 : Int32))), .val (.int (0 : Int32)), .unset, .unset, .unset, .unset, .unset] [(.int v85)]))
    refine OGo.via (fun _ k => XS.iconst X84.here hx rfl (hb hby at_257) (XS.aload X84.here hx rfl (hb hby at_258) rfl rfl (XS.lload X84.here hx rfl (hb hby at_260) rfl k))) ?_
    obtain ⟨_, T86, Lc86, X86, hQ86, st86⟩ := own_open X84 (Jvm.LawKit.callS X84 hx (y := own_y7) hown (mvT hZ (own_w hw 60 rfl)) (mvT hZ (own_w hw 61 rfl)) (mvT hZ (own_w hw 62 rfl)) (mvT hZ (own_w hw 63 rfl)) (by decide) (backOf (W := 0) (rm9 l Z a0 hw [] v85 (5 : Int32) b1 eb ka1 t0 t1 t2 t3 t4 T72.heap n0 (Nat.le_trans Z0 K72.1) f76 hnv85 (by decide)) hZ (own_w hw 63 rfl) (own_w hw 62 rfl) (by decide) (by decide)) (g := (mkF m 262 #[.val (.long qa), .second, .val (.long qb), .second, .val (.long ea), .second, .val (.long eb), .second, .val (.long pz), .second, .val (.int mask), .val (.ref b1), .val (.ref b17), .val (.long (own_x (0 : Int32) (4 : Int32) pz)), .second, .val (.int (own_h (0 : Int32) (4 : Int32))), .val (.long (own_x dc (5 : Int32) pz)), .second, .val (.int (own_h dc (5 : Int32))), .val (.int (0 : Int32)), .unset, .unset, .unset, .unset, .unset] [(.long eb), (.ref b1), (.int (5 : Int32)), (.int v85)])) rfl (by rw [hml]; rfl) (argsL := [(.int v85), (.int (5 : Int32)), (.ref b1), (.long eb)]) (rest := []) (lenOf pd_7 rfl) rfl (by show 2 * 0 + _ ≤ _; exact Nat.le_of_eq rfl) (hb hby at_262) (fun _ _ => ⟨rfl, r84_0, (by decide : 6 + 0 ≤ _), (by decide : 36 + 0 ≤ _)⟩))
    obtain ⟨rfl, N86q, r86_0⟩ := hQ86
    have N86 := Fr.app N84 N86q
    refine OGo.via st86 ?_
    show OGo _ _ _ _ (T86.setTop (mkF m 265 #[.val (.long qa), .second, .val (.long qb), .second, .val (.long ea), .second, .val (.long eb), .second, .val (.long pz), .second, .val (.int mask), .val (.ref b1), .val (.ref b17), .val (.long (own_x (0 : Int32) (4 : Int32) pz)), .second, .val (.int (own_h (0 : Int32) (4 : Int32))), .val (.long (own_x dc (5 : Int32) pz)), .second, .val (.int (own_h dc (5 : Int32))), .val (.int (0 : Int32)), .unset, .unset, .unset, .unset, .unset] [(.int (own_adv v85 (5 : Int32) t0 t1 t2 t3 t4 eb))]))
    obtain ⟨v87, hv87⟩ : ∃ z, z = (own_adv v85 (5 : Int32) t0 t1 t2 t3 t4 eb) := ⟨_, rfl⟩
    rw [← hv87]
    have hnv87 : ¬ v87 < 0 := by rw [hv87]; exact own_adv_nn hnv85 (by decide)
    show OGo _ _ _ _ (T86.setTop (mkF m 265 #[.val (.long qa), .second, .val (.long qb), .second, .val (.long ea), .second, .val (.long eb), .second, .val (.long pz), .second, .val (.int mask), .val (.ref b1), .val (.ref b17), .val (.long (own_x (0 : Int32) (4 : Int32) pz)), .second, .val (.int (own_h (0 : Int32) (4 : Int32))), .val (.long (own_x dc (5 : Int32) pz)), .second, .val (.int (own_h dc (5 : Int32))), .val (.int (0 : Int32)), .unset, .unset, .unset, .unset, .unset] [(.int v87)]))
    refine OGo.via (fun _ k => XS.iconst X86.here hx rfl (hb hby at_265) (XS.aload X86.here hx rfl (hb hby at_266) rfl rfl (XS.lload X86.here hx rfl (hb hby at_268) rfl k))) ?_
    obtain ⟨_, T88, Lc88, X88, hQ88, st88⟩ := own_open X86 (Jvm.LawKit.callS X86 hx (y := own_y7) hown (mvT hZ (own_w hw 60 rfl)) (mvT hZ (own_w hw 61 rfl)) (mvT hZ (own_w hw 62 rfl)) (mvT hZ (own_w hw 63 rfl)) (by decide) (backOf (W := 0) (rm9 l Z a0 hw [] v87 (5 : Int32) b1 eb ka1 t0 t1 t2 t3 t4 T72.heap n0 (Nat.le_trans Z0 K72.1) f76 hnv87 (by decide)) hZ (own_w hw 63 rfl) (own_w hw 62 rfl) (by decide) (by decide)) (g := (mkF m 270 #[.val (.long qa), .second, .val (.long qb), .second, .val (.long ea), .second, .val (.long eb), .second, .val (.long pz), .second, .val (.int mask), .val (.ref b1), .val (.ref b17), .val (.long (own_x (0 : Int32) (4 : Int32) pz)), .second, .val (.int (own_h (0 : Int32) (4 : Int32))), .val (.long (own_x dc (5 : Int32) pz)), .second, .val (.int (own_h dc (5 : Int32))), .val (.int (0 : Int32)), .unset, .unset, .unset, .unset, .unset] [(.long eb), (.ref b1), (.int (5 : Int32)), (.int v87)])) rfl (by rw [hml]; rfl) (argsL := [(.int v87), (.int (5 : Int32)), (.ref b1), (.long eb)]) (rest := []) (lenOf pd_7 rfl) rfl (by show 2 * 0 + _ ≤ _; exact Nat.le_of_eq rfl) (hb hby at_270) (fun _ _ => ⟨rfl, r86_0, (by decide : 6 + 0 ≤ _), (by decide : 36 + 0 ≤ _)⟩))
    obtain ⟨rfl, N88q, r88_0⟩ := hQ88
    have N88 := Fr.app N86 N88q
    refine OGo.via st88 ?_
    show OGo _ _ _ _ (T88.setTop (mkF m 273 #[.val (.long qa), .second, .val (.long qb), .second, .val (.long ea), .second, .val (.long eb), .second, .val (.long pz), .second, .val (.int mask), .val (.ref b1), .val (.ref b17), .val (.long (own_x (0 : Int32) (4 : Int32) pz)), .second, .val (.int (own_h (0 : Int32) (4 : Int32))), .val (.long (own_x dc (5 : Int32) pz)), .second, .val (.int (own_h dc (5 : Int32))), .val (.int (0 : Int32)), .unset, .unset, .unset, .unset, .unset] [(.int (own_adv v87 (5 : Int32) t0 t1 t2 t3 t4 eb))]))
    obtain ⟨v89, hv89⟩ : ∃ z, z = (own_adv v87 (5 : Int32) t0 t1 t2 t3 t4 eb) := ⟨_, rfl⟩
    rw [← hv89]
    have hnv89 : ¬ v89 < 0 := by rw [hv89]; exact own_adv_nn hnv87 (by decide)
    show OGo _ _ _ _ (T88.setTop (mkF m 273 #[.val (.long qa), .second, .val (.long qb), .second, .val (.long ea), .second, .val (.long eb), .second, .val (.long pz), .second, .val (.int mask), .val (.ref b1), .val (.ref b17), .val (.long (own_x (0 : Int32) (4 : Int32) pz)), .second, .val (.int (own_h (0 : Int32) (4 : Int32))), .val (.long (own_x dc (5 : Int32) pz)), .second, .val (.int (own_h dc (5 : Int32))), .val (.int (0 : Int32)), .unset, .unset, .unset, .unset, .unset] [(.int v89)]))
    refine OGo.via (fun _ k => XS.iconst X88.here hx rfl (hb hby at_273) (XS.aload X88.here hx rfl (hb hby at_274) rfl rfl (XS.lload X88.here hx rfl (hb hby at_276) rfl k))) ?_
    obtain ⟨_, T90, Lc90, X90, hQ90, st90⟩ := own_open X88 (Jvm.LawKit.callS X88 hx (y := own_y7) hown (mvT hZ (own_w hw 60 rfl)) (mvT hZ (own_w hw 61 rfl)) (mvT hZ (own_w hw 62 rfl)) (mvT hZ (own_w hw 63 rfl)) (by decide) (backOf (W := 0) (rm9 l Z a0 hw [] v89 (5 : Int32) b1 eb ka1 t0 t1 t2 t3 t4 T72.heap n0 (Nat.le_trans Z0 K72.1) f76 hnv89 (by decide)) hZ (own_w hw 63 rfl) (own_w hw 62 rfl) (by decide) (by decide)) (g := (mkF m 278 #[.val (.long qa), .second, .val (.long qb), .second, .val (.long ea), .second, .val (.long eb), .second, .val (.long pz), .second, .val (.int mask), .val (.ref b1), .val (.ref b17), .val (.long (own_x (0 : Int32) (4 : Int32) pz)), .second, .val (.int (own_h (0 : Int32) (4 : Int32))), .val (.long (own_x dc (5 : Int32) pz)), .second, .val (.int (own_h dc (5 : Int32))), .val (.int (0 : Int32)), .unset, .unset, .unset, .unset, .unset] [(.long eb), (.ref b1), (.int (5 : Int32)), (.int v89)])) rfl (by rw [hml]; rfl) (argsL := [(.int v89), (.int (5 : Int32)), (.ref b1), (.long eb)]) (rest := []) (lenOf pd_7 rfl) rfl (by show 2 * 0 + _ ≤ _; exact Nat.le_of_eq rfl) (hb hby at_278) (fun _ _ => ⟨rfl, r88_0, (by decide : 6 + 0 ≤ _), (by decide : 36 + 0 ≤ _)⟩))
    obtain ⟨rfl, N90q, r90_0⟩ := hQ90
    have N90 := Fr.app N88 N90q
    refine OGo.via st90 ?_
    show OGo _ _ _ _ (T90.setTop (mkF m 281 #[.val (.long qa), .second, .val (.long qb), .second, .val (.long ea), .second, .val (.long eb), .second, .val (.long pz), .second, .val (.int mask), .val (.ref b1), .val (.ref b17), .val (.long (own_x (0 : Int32) (4 : Int32) pz)), .second, .val (.int (own_h (0 : Int32) (4 : Int32))), .val (.long (own_x dc (5 : Int32) pz)), .second, .val (.int (own_h dc (5 : Int32))), .val (.int (0 : Int32)), .unset, .unset, .unset, .unset, .unset] [(.int (own_adv v89 (5 : Int32) t0 t1 t2 t3 t4 eb))]))
    obtain ⟨v91, hv91⟩ : ∃ z, z = (own_adv v89 (5 : Int32) t0 t1 t2 t3 t4 eb) := ⟨_, rfl⟩
    rw [← hv91]
    have hnv91 : ¬ v91 < 0 := by rw [hv91]; exact own_adv_nn hnv89 (by decide)
    show OGo _ _ _ _ (T90.setTop (mkF m 281 #[.val (.long qa), .second, .val (.long qb), .second, .val (.long ea), .second, .val (.long eb), .second, .val (.long pz), .second, .val (.int mask), .val (.ref b1), .val (.ref b17), .val (.long (own_x (0 : Int32) (4 : Int32) pz)), .second, .val (.int (own_h (0 : Int32) (4 : Int32))), .val (.long (own_x dc (5 : Int32) pz)), .second, .val (.int (own_h dc (5 : Int32))), .val (.int (0 : Int32)), .unset, .unset, .unset, .unset, .unset] [(.int v91)]))
    refine OGo.via (fun _ k => XS.iconst X90.here hx rfl (hb hby at_281) (XS.aload X90.here hx rfl (hb hby at_282) rfl rfl (XS.lload X90.here hx rfl (hb hby at_284) rfl k))) ?_
    obtain ⟨_, T92, Lc92, X92, hQ92, st92⟩ := own_open X90 (Jvm.LawKit.callS X90 hx (y := own_y7) hown (mvT hZ (own_w hw 60 rfl)) (mvT hZ (own_w hw 61 rfl)) (mvT hZ (own_w hw 62 rfl)) (mvT hZ (own_w hw 63 rfl)) (by decide) (backOf (W := 0) (rm9 l Z a0 hw [] v91 (5 : Int32) b1 eb ka1 t0 t1 t2 t3 t4 T72.heap n0 (Nat.le_trans Z0 K72.1) f76 hnv91 (by decide)) hZ (own_w hw 63 rfl) (own_w hw 62 rfl) (by decide) (by decide)) (g := (mkF m 286 #[.val (.long qa), .second, .val (.long qb), .second, .val (.long ea), .second, .val (.long eb), .second, .val (.long pz), .second, .val (.int mask), .val (.ref b1), .val (.ref b17), .val (.long (own_x (0 : Int32) (4 : Int32) pz)), .second, .val (.int (own_h (0 : Int32) (4 : Int32))), .val (.long (own_x dc (5 : Int32) pz)), .second, .val (.int (own_h dc (5 : Int32))), .val (.int (0 : Int32)), .unset, .unset, .unset, .unset, .unset] [(.long eb), (.ref b1), (.int (5 : Int32)), (.int v91)])) rfl (by rw [hml]; rfl) (argsL := [(.int v91), (.int (5 : Int32)), (.ref b1), (.long eb)]) (rest := []) (lenOf pd_7 rfl) rfl (by show 2 * 0 + _ ≤ _; exact Nat.le_of_eq rfl) (hb hby at_286) (fun _ _ => ⟨rfl, r90_0, (by decide : 6 + 0 ≤ _), (by decide : 36 + 0 ≤ _)⟩))
    obtain ⟨rfl, N92q, r92_0⟩ := hQ92
    have N92 := Fr.app N90 N92q
    refine OGo.via st92 ?_
    show OGo _ _ _ _ (T92.setTop (mkF m 289 #[.val (.long qa), .second, .val (.long qb), .second, .val (.long ea), .second, .val (.long eb), .second, .val (.long pz), .second, .val (.int mask), .val (.ref b1), .val (.ref b17), .val (.long (own_x (0 : Int32) (4 : Int32) pz)), .second, .val (.int (own_h (0 : Int32) (4 : Int32))), .val (.long (own_x dc (5 : Int32) pz)), .second, .val (.int (own_h dc (5 : Int32))), .val (.int (0 : Int32)), .unset, .unset, .unset, .unset, .unset] [(.int (own_adv v91 (5 : Int32) t0 t1 t2 t3 t4 eb))]))
    obtain ⟨v93, hv93⟩ : ∃ z, z = (own_adv v91 (5 : Int32) t0 t1 t2 t3 t4 eb) := ⟨_, rfl⟩
    rw [← hv93]
    have hnv93 : ¬ v93 < 0 := by rw [hv93]; exact own_adv_nn hnv91 (by decide)
    show OGo _ _ _ _ (T92.setTop (mkF m 289 #[.val (.long qa), .second, .val (.long qb), .second, .val (.long ea), .second, .val (.long eb), .second, .val (.long pz), .second, .val (.int mask), .val (.ref b1), .val (.ref b17), .val (.long (own_x (0 : Int32) (4 : Int32) pz)), .second, .val (.int (own_h (0 : Int32) (4 : Int32))), .val (.long (own_x dc (5 : Int32) pz)), .second, .val (.int (own_h dc (5 : Int32))), .val (.int (0 : Int32)), .unset, .unset, .unset, .unset, .unset] [(.int v93)]))
    have hd2 : v93 = dc := by rw [hv93, hv91, hv89, hv87, hv85]; exact hdc.symm
    rw [hd2]
    show OGo _ _ _ _ (T92.setTop (mkF m 289 #[.val (.long qa), .second, .val (.long qb), .second, .val (.long ea), .second, .val (.long eb), .second, .val (.long pz), .second, .val (.int mask), .val (.ref b1), .val (.ref b17), .val (.long (own_x (0 : Int32) (4 : Int32) pz)), .second, .val (.int (own_h (0 : Int32) (4 : Int32))), .val (.long (own_x dc (5 : Int32) pz)), .second, .val (.int (own_h dc (5 : Int32))), .val (.int (0 : Int32)), .unset, .unset, .unset, .unset, .unset] [(.int dc)]))
    refine OGo.via (fun _ k => XS.istore X92.here hx rfl (hb hby at_289) rfl (l' := #[.val (.long qa), .second, .val (.long qb), .second, .val (.long ea), .second, .val (.long eb), .second, .val (.long pz), .second, .val (.int mask), .val (.ref b1), .val (.ref b17), .val (.long (own_x (0 : Int32) (4 : Int32) pz)), .second, .val (.int (own_h (0 : Int32) (4 : Int32))), .val (.long (own_x dc (5 : Int32) pz)), .second, .val (.int (own_h dc (5 : Int32))), .val (.int (0 : Int32)), .val (.int dc), .unset, .unset, .unset, .unset]) rfl (XS.iload X92.here hx rfl (hb hby at_291) rfl (XS.iconst X92.here hx rfl (hb hby at_293) k))) ?_
    refine OGo.via (fun _ k => XS.icmpYes X92.here hx rfl (pc0 := 294) (pc' := 303) rfl (hb hby at_294) rfl (feq (by decide : ¬ ((0 : Int32) = (4 : Int32)))).2 (by decide) (by decide) k) ?_
    show OGo _ _ _ _ (T92.setTop (mkF m 303 #[.val (.long qa), .second, .val (.long qb), .second, .val (.long ea), .second, .val (.long eb), .second, .val (.long pz), .second, .val (.int mask), .val (.ref b1), .val (.ref b17), .val (.long (own_x (0 : Int32) (4 : Int32) pz)), .second, .val (.int (own_h (0 : Int32) (4 : Int32))), .val (.long (own_x dc (5 : Int32) pz)), .second, .val (.int (own_h dc (5 : Int32))), .val (.int (0 : Int32)), .val (.int dc), .unset, .unset, .unset, .unset] []))
    refine OGo.via (fun _ k => XS.lload X92.here hx rfl (hb hby at_303) rfl (XS.iload X92.here hx rfl (hb hby at_305) rfl (XS.i2l X92.here hx rfl (hb hby at_307) rfl k))) ?_
    show OGo _ _ _ _ (T92.setTop (mkF m 308 #[.val (.long qa), .second, .val (.long qb), .second, .val (.long ea), .second, .val (.long eb), .second, .val (.long pz), .second, .val (.int mask), .val (.ref b1), .val (.ref b17), .val (.long (own_x (0 : Int32) (4 : Int32) pz)), .second, .val (.int (own_h (0 : Int32) (4 : Int32))), .val (.long (own_x dc (5 : Int32) pz)), .second, .val (.int (own_h dc (5 : Int32))), .val (.int (0 : Int32)), .val (.int dc), .unset, .unset, .unset, .unset] [(.long ((0 : Int32).toInt64)), (.long pz)]))
    rw [show ((0 : Int32).toInt64) = (0 : Int64) from by decide]
    refine OGo.via (fun _ k => XS.ladd X92.here hx rfl (hb hby at_308) rfl (XS.lstore X92.here hx rfl (hb hby at_309) rfl (l' := #[.val (.long qa), .second, .val (.long qb), .second, .val (.long ea), .second, .val (.long eb), .second, .val (.long pz), .second, .val (.int mask), .val (.ref b1), .val (.ref b17), .val (.long (own_x (0 : Int32) (4 : Int32) pz)), .second, .val (.int (own_h (0 : Int32) (4 : Int32))), .val (.long (own_x dc (5 : Int32) pz)), .second, .val (.int (own_h dc (5 : Int32))), .val (.int (0 : Int32)), .val (.int dc), .val (.long (pz + (0 : Int64))), .second, .unset, .unset]) rfl (XS.iload X92.here hx rfl (hb hby at_311) rfl (XS.iconst X92.here hx rfl (hb hby at_313) k)))) ?_
    by_cases hc314_95 : dc = (5 : Int32)
    · refine OGo.via (fun _ k => XS.icmpNo X92.here hx rfl (hb hby at_314) rfl (teq hc314_95).2 k) ?_
      show OGo _ _ _ _ (T92.setTop (mkF m 317 #[.val (.long qa), .second, .val (.long qb), .second, .val (.long ea), .second, .val (.long eb), .second, .val (.long pz), .second, .val (.int mask), .val (.ref b1), .val (.ref b17), .val (.long (own_x (0 : Int32) (4 : Int32) pz)), .second, .val (.int (own_h (0 : Int32) (4 : Int32))), .val (.long (own_x dc (5 : Int32) pz)), .second, .val (.int (own_h dc (5 : Int32))), .val (.int (0 : Int32)), .val (.int dc), .val (.long (pz + (0 : Int64))), .second, .unset, .unset] []))
      refine OGo.via (X92.ldc2Long hx hown (mvT hZ (own_w hw 64 rfl)) (g := (mkF m 317 #[.val (.long qa), .second, .val (.long qb), .second, .val (.long ea), .second, .val (.long eb), .second, .val (.long pz), .second, .val (.int mask), .val (.ref b1), .val (.ref b17), .val (.long (own_x (0 : Int32) (4 : Int32) pz)), .second, .val (.int (own_h (0 : Int32) (4 : Int32))), .val (.long (own_x dc (5 : Int32) pz)), .second, .val (.int (own_h dc (5 : Int32))), .val (.int (0 : Int32)), .val (.int dc), .val (.long (pz + (0 : Int64))), .second, .unset, .unset] [])) rfl (hb hby at_317)) ?_
      show OGo _ _ _ _ (T92.setTop (mkF m 320 #[.val (.long qa), .second, .val (.long qb), .second, .val (.long ea), .second, .val (.long eb), .second, .val (.long pz), .second, .val (.int mask), .val (.ref b1), .val (.ref b17), .val (.long (own_x (0 : Int32) (4 : Int32) pz)), .second, .val (.int (own_h (0 : Int32) (4 : Int32))), .val (.long (own_x dc (5 : Int32) pz)), .second, .val (.int (own_h dc (5 : Int32))), .val (.int (0 : Int32)), .val (.int dc), .val (.long (pz + (0 : Int64))), .second, .unset, .unset] [(.long (9223372036854775807 : Int64))]))
      refine OGo.via (fun _ k => XS.goto X92.here hx rfl (pc0 := 320) (pc' := 329) rfl (hb hby at_320) (by decide) (by decide) (XS.lstore X92.here hx rfl (hb hby at_329) rfl (l' := #[.val (.long qa), .second, .val (.long qb), .second, .val (.long ea), .second, .val (.long eb), .second, .val (.long pz), .second, .val (.int mask), .val (.ref b1), .val (.ref b17), .val (.long (own_x (0 : Int32) (4 : Int32) pz)), .second, .val (.int (own_h (0 : Int32) (4 : Int32))), .val (.long (own_x dc (5 : Int32) pz)), .second, .val (.int (own_h dc (5 : Int32))), .val (.int (0 : Int32)), .val (.int dc), .val (.long (pz + (0 : Int64))), .second, .val (.long (9223372036854775807 : Int64)), .second]) rfl (XS.lload X92.here hx rfl (hb hby at_331) rfl (XS.lload X92.here hx rfl (hb hby at_333) rfl (XS.lcmp X92.here hx rfl (hb hby at_335) rfl k))))) ?_
      refine OGo.via (fun _ k => XS.ifNo X92.here hx rfl (hb hby at_336) rfl ((if0 _ _).trans (teq ((lw_eq _ _).mpr (own_xn (by decide)) : (lcmpW (own_x (0 : Int32) (4 : Int32) pz) (pz + (0 : Int64))) = (0 : Int32))).2) k) ?_
      show OGo _ _ _ _ (T92.setTop (mkF m 339 #[.val (.long qa), .second, .val (.long qb), .second, .val (.long ea), .second, .val (.long eb), .second, .val (.long pz), .second, .val (.int mask), .val (.ref b1), .val (.ref b17), .val (.long (own_x (0 : Int32) (4 : Int32) pz)), .second, .val (.int (own_h (0 : Int32) (4 : Int32))), .val (.long (own_x dc (5 : Int32) pz)), .second, .val (.int (own_h dc (5 : Int32))), .val (.int (0 : Int32)), .val (.int dc), .val (.long (pz + (0 : Int64))), .second, .val (.long (9223372036854775807 : Int64)), .second] []))
      refine OGo.via (fun _ k => XS.iload X92.here hx rfl (hb hby at_339) rfl (XS.iconst X92.here hx rfl (hb hby at_341) (XS.iload X92.here hx rfl (hb hby at_342) rfl (XS.isub X92.here hx rfl (hb hby at_344) rfl k)))) ?_
      show OGo _ _ _ _ (T92.setTop (mkF m 345 #[.val (.long qa), .second, .val (.long qb), .second, .val (.long ea), .second, .val (.long eb), .second, .val (.long pz), .second, .val (.int mask), .val (.ref b1), .val (.ref b17), .val (.long (own_x (0 : Int32) (4 : Int32) pz)), .second, .val (.int (own_h (0 : Int32) (4 : Int32))), .val (.long (own_x dc (5 : Int32) pz)), .second, .val (.int (own_h dc (5 : Int32))), .val (.int (0 : Int32)), .val (.int dc), .val (.long (pz + (0 : Int64))), .second, .val (.long (9223372036854775807 : Int64)), .second] [(.int ((4 : Int32) - (0 : Int32))), (.int (own_h (0 : Int32) (4 : Int32)))]))
      rw [show ((4 : Int32) - (0 : Int32)) = (4 : Int32) from by decide]
      refine OGo.via (fun _ k => XS.icmpNo X92.here hx rfl (hb hby at_345) rfl (teq (rfl : (own_h (0 : Int32) (4 : Int32)) = (4 : Int32))).2 k) ?_
      show OGo _ _ _ _ (T92.setTop (mkF m 348 #[.val (.long qa), .second, .val (.long qb), .second, .val (.long ea), .second, .val (.long eb), .second, .val (.long pz), .second, .val (.int mask), .val (.ref b1), .val (.ref b17), .val (.long (own_x (0 : Int32) (4 : Int32) pz)), .second, .val (.int (own_h (0 : Int32) (4 : Int32))), .val (.long (own_x dc (5 : Int32) pz)), .second, .val (.int (own_h dc (5 : Int32))), .val (.int (0 : Int32)), .val (.int dc), .val (.long (pz + (0 : Int64))), .second, .val (.long (9223372036854775807 : Int64)), .second] []))
      refine OGo.via (fun _ k => XS.lload X92.here hx rfl (hb hby at_348) rfl (XS.lload X92.here hx rfl (hb hby at_350) rfl (XS.lcmp X92.here hx rfl (hb hby at_352) rfl k))) ?_
      refine OGo.via (fun _ k => XS.ifNo X92.here hx rfl (hb hby at_353) rfl ((if0 _ _).trans (teq ((lw_eq _ _).mpr (own_xy hc314_95) : (lcmpW (own_x dc (5 : Int32) pz) (9223372036854775807 : Int64)) = (0 : Int32))).2) k) ?_
      show OGo _ _ _ _ (T92.setTop (mkF m 356 #[.val (.long qa), .second, .val (.long qb), .second, .val (.long ea), .second, .val (.long eb), .second, .val (.long pz), .second, .val (.int mask), .val (.ref b1), .val (.ref b17), .val (.long (own_x (0 : Int32) (4 : Int32) pz)), .second, .val (.int (own_h (0 : Int32) (4 : Int32))), .val (.long (own_x dc (5 : Int32) pz)), .second, .val (.int (own_h dc (5 : Int32))), .val (.int (0 : Int32)), .val (.int dc), .val (.long (pz + (0 : Int64))), .second, .val (.long (9223372036854775807 : Int64)), .second] []))
      refine OGo.via (fun _ k => XS.iload X92.here hx rfl (hb hby at_356) rfl (XS.iconst X92.here hx rfl (hb hby at_358) (XS.iload X92.here hx rfl (hb hby at_359) rfl (XS.isub X92.here hx rfl (hb hby at_361) rfl k)))) ?_
      refine OGo.via (fun _ k => XS.icmpNo X92.here hx rfl (hb hby at_362) rfl (teq (rfl : (own_h dc (5 : Int32)) = ((5 : Int32) - dc))).2 k) ?_
      show OGo _ _ _ _ (T92.setTop (mkF m 365 #[.val (.long qa), .second, .val (.long qb), .second, .val (.long ea), .second, .val (.long eb), .second, .val (.long pz), .second, .val (.int mask), .val (.ref b1), .val (.ref b17), .val (.long (own_x (0 : Int32) (4 : Int32) pz)), .second, .val (.int (own_h (0 : Int32) (4 : Int32))), .val (.long (own_x dc (5 : Int32) pz)), .second, .val (.int (own_h dc (5 : Int32))), .val (.int (0 : Int32)), .val (.int dc), .val (.long (pz + (0 : Int64))), .second, .val (.long (9223372036854775807 : Int64)), .second] []))
      refine OGo.via (fun _ k => XS.iconst X92.here hx rfl (hb hby at_365) (XS.goto X92.here hx rfl (pc0 := 366) (pc' := 370) rfl (hb hby at_366) (by decide) (by decide) k)) ?_
      show OGo _ _ _ _ (T92.setTop (mkF m 370 #[.val (.long qa), .second, .val (.long qb), .second, .val (.long ea), .second, .val (.long eb), .second, .val (.long pz), .second, .val (.int mask), .val (.ref b1), .val (.ref b17), .val (.long (own_x (0 : Int32) (4 : Int32) pz)), .second, .val (.int (own_h (0 : Int32) (4 : Int32))), .val (.long (own_x dc (5 : Int32) pz)), .second, .val (.int (own_h dc (5 : Int32))), .val (.int (0 : Int32)), .val (.int dc), .val (.long (pz + (0 : Int64))), .second, .val (.long (9223372036854775807 : Int64)), .second] [(.int (1 : Int32))]))
      refine own_retN (t := .boolean) (by simp) X92 hx Bd.notSynchronized Bd.returns (hb hby at_370) (by decide) (by decide) ?_
      show Q_rm0 Z _ _ _ _ _ _ _ _ h0 n0 _ T92.heap _
      rw [r92_0]
      exact ⟨rfl, N92⟩
    · refine OGo.via (fun _ k => XS.icmpYes X92.here hx rfl (pc0 := 314) (pc' := 323) rfl (hb hby at_314) rfl (feq hc314_95).2 (by decide) (by decide) k) ?_
      show OGo _ _ _ _ (T92.setTop (mkF m 323 #[.val (.long qa), .second, .val (.long qb), .second, .val (.long ea), .second, .val (.long eb), .second, .val (.long pz), .second, .val (.int mask), .val (.ref b1), .val (.ref b17), .val (.long (own_x (0 : Int32) (4 : Int32) pz)), .second, .val (.int (own_h (0 : Int32) (4 : Int32))), .val (.long (own_x dc (5 : Int32) pz)), .second, .val (.int (own_h dc (5 : Int32))), .val (.int (0 : Int32)), .val (.int dc), .val (.long (pz + (0 : Int64))), .second, .unset, .unset] []))
      refine OGo.via (fun _ k => XS.lload X92.here hx rfl (hb hby at_323) rfl (XS.iload X92.here hx rfl (hb hby at_325) rfl (XS.i2l X92.here hx rfl (hb hby at_327) rfl (XS.ladd X92.here hx rfl (hb hby at_328) rfl (XS.lstore X92.here hx rfl (hb hby at_329) rfl (l' := #[.val (.long qa), .second, .val (.long qb), .second, .val (.long ea), .second, .val (.long eb), .second, .val (.long pz), .second, .val (.int mask), .val (.ref b1), .val (.ref b17), .val (.long (own_x (0 : Int32) (4 : Int32) pz)), .second, .val (.int (own_h (0 : Int32) (4 : Int32))), .val (.long (own_x dc (5 : Int32) pz)), .second, .val (.int (own_h dc (5 : Int32))), .val (.int (0 : Int32)), .val (.int dc), .val (.long (pz + (0 : Int64))), .second, .val (.long (pz + (dc.toInt64))), .second]) rfl (XS.lload X92.here hx rfl (hb hby at_331) rfl (XS.lload X92.here hx rfl (hb hby at_333) rfl (XS.lcmp X92.here hx rfl (hb hby at_335) rfl k)))))))) ?_
      show OGo _ _ _ _ (T92.setTop (mkF m 336 #[.val (.long qa), .second, .val (.long qb), .second, .val (.long ea), .second, .val (.long eb), .second, .val (.long pz), .second, .val (.int mask), .val (.ref b1), .val (.ref b17), .val (.long (own_x (0 : Int32) (4 : Int32) pz)), .second, .val (.int (own_h (0 : Int32) (4 : Int32))), .val (.long (own_x dc (5 : Int32) pz)), .second, .val (.int (own_h dc (5 : Int32))), .val (.int (0 : Int32)), .val (.int dc), .val (.long (pz + (0 : Int64))), .second, .val (.long (pz + (dc.toInt64))), .second] [(.int (lcmpW (own_x (0 : Int32) (4 : Int32) pz) (pz + (0 : Int64))))]))
      refine OGo.via (fun _ k => XS.ifNo X92.here hx rfl (hb hby at_336) rfl ((if0 _ _).trans (teq ((lw_eq _ _).mpr (own_xn (by decide)) : (lcmpW (own_x (0 : Int32) (4 : Int32) pz) (pz + (0 : Int64))) = (0 : Int32))).2) k) ?_
      show OGo _ _ _ _ (T92.setTop (mkF m 339 #[.val (.long qa), .second, .val (.long qb), .second, .val (.long ea), .second, .val (.long eb), .second, .val (.long pz), .second, .val (.int mask), .val (.ref b1), .val (.ref b17), .val (.long (own_x (0 : Int32) (4 : Int32) pz)), .second, .val (.int (own_h (0 : Int32) (4 : Int32))), .val (.long (own_x dc (5 : Int32) pz)), .second, .val (.int (own_h dc (5 : Int32))), .val (.int (0 : Int32)), .val (.int dc), .val (.long (pz + (0 : Int64))), .second, .val (.long (pz + (dc.toInt64))), .second] []))
      refine OGo.via (fun _ k => XS.iload X92.here hx rfl (hb hby at_339) rfl (XS.iconst X92.here hx rfl (hb hby at_341) (XS.iload X92.here hx rfl (hb hby at_342) rfl (XS.isub X92.here hx rfl (hb hby at_344) rfl k)))) ?_
      show OGo _ _ _ _ (T92.setTop (mkF m 345 #[.val (.long qa), .second, .val (.long qb), .second, .val (.long ea), .second, .val (.long eb), .second, .val (.long pz), .second, .val (.int mask), .val (.ref b1), .val (.ref b17), .val (.long (own_x (0 : Int32) (4 : Int32) pz)), .second, .val (.int (own_h (0 : Int32) (4 : Int32))), .val (.long (own_x dc (5 : Int32) pz)), .second, .val (.int (own_h dc (5 : Int32))), .val (.int (0 : Int32)), .val (.int dc), .val (.long (pz + (0 : Int64))), .second, .val (.long (pz + (dc.toInt64))), .second] [(.int ((4 : Int32) - (0 : Int32))), (.int (own_h (0 : Int32) (4 : Int32)))]))
      rw [show ((4 : Int32) - (0 : Int32)) = (4 : Int32) from by decide]
      refine OGo.via (fun _ k => XS.icmpNo X92.here hx rfl (hb hby at_345) rfl (teq (rfl : (own_h (0 : Int32) (4 : Int32)) = (4 : Int32))).2 k) ?_
      show OGo _ _ _ _ (T92.setTop (mkF m 348 #[.val (.long qa), .second, .val (.long qb), .second, .val (.long ea), .second, .val (.long eb), .second, .val (.long pz), .second, .val (.int mask), .val (.ref b1), .val (.ref b17), .val (.long (own_x (0 : Int32) (4 : Int32) pz)), .second, .val (.int (own_h (0 : Int32) (4 : Int32))), .val (.long (own_x dc (5 : Int32) pz)), .second, .val (.int (own_h dc (5 : Int32))), .val (.int (0 : Int32)), .val (.int dc), .val (.long (pz + (0 : Int64))), .second, .val (.long (pz + (dc.toInt64))), .second] []))
      refine OGo.via (fun _ k => XS.lload X92.here hx rfl (hb hby at_348) rfl (XS.lload X92.here hx rfl (hb hby at_350) rfl (XS.lcmp X92.here hx rfl (hb hby at_352) rfl k))) ?_
      refine OGo.via (fun _ k => XS.ifNo X92.here hx rfl (hb hby at_353) rfl ((if0 _ _).trans (teq ((lw_eq _ _).mpr (own_xn hc314_95) : (lcmpW (own_x dc (5 : Int32) pz) (pz + (dc.toInt64))) = (0 : Int32))).2) k) ?_
      show OGo _ _ _ _ (T92.setTop (mkF m 356 #[.val (.long qa), .second, .val (.long qb), .second, .val (.long ea), .second, .val (.long eb), .second, .val (.long pz), .second, .val (.int mask), .val (.ref b1), .val (.ref b17), .val (.long (own_x (0 : Int32) (4 : Int32) pz)), .second, .val (.int (own_h (0 : Int32) (4 : Int32))), .val (.long (own_x dc (5 : Int32) pz)), .second, .val (.int (own_h dc (5 : Int32))), .val (.int (0 : Int32)), .val (.int dc), .val (.long (pz + (0 : Int64))), .second, .val (.long (pz + (dc.toInt64))), .second] []))
      refine OGo.via (fun _ k => XS.iload X92.here hx rfl (hb hby at_356) rfl (XS.iconst X92.here hx rfl (hb hby at_358) (XS.iload X92.here hx rfl (hb hby at_359) rfl (XS.isub X92.here hx rfl (hb hby at_361) rfl k)))) ?_
      refine OGo.via (fun _ k => XS.icmpNo X92.here hx rfl (hb hby at_362) rfl (teq (rfl : (own_h dc (5 : Int32)) = ((5 : Int32) - dc))).2 k) ?_
      show OGo _ _ _ _ (T92.setTop (mkF m 365 #[.val (.long qa), .second, .val (.long qb), .second, .val (.long ea), .second, .val (.long eb), .second, .val (.long pz), .second, .val (.int mask), .val (.ref b1), .val (.ref b17), .val (.long (own_x (0 : Int32) (4 : Int32) pz)), .second, .val (.int (own_h (0 : Int32) (4 : Int32))), .val (.long (own_x dc (5 : Int32) pz)), .second, .val (.int (own_h dc (5 : Int32))), .val (.int (0 : Int32)), .val (.int dc), .val (.long (pz + (0 : Int64))), .second, .val (.long (pz + (dc.toInt64))), .second] []))
      refine OGo.via (fun _ k => XS.iconst X92.here hx rfl (hb hby at_365) (XS.goto X92.here hx rfl (pc0 := 366) (pc' := 370) rfl (hb hby at_366) (by decide) (by decide) k)) ?_
      show OGo _ _ _ _ (T92.setTop (mkF m 370 #[.val (.long qa), .second, .val (.long qb), .second, .val (.long ea), .second, .val (.long eb), .second, .val (.long pz), .second, .val (.int mask), .val (.ref b1), .val (.ref b17), .val (.long (own_x (0 : Int32) (4 : Int32) pz)), .second, .val (.int (own_h (0 : Int32) (4 : Int32))), .val (.long (own_x dc (5 : Int32) pz)), .second, .val (.int (own_h dc (5 : Int32))), .val (.int (0 : Int32)), .val (.int dc), .val (.long (pz + (0 : Int64))), .second, .val (.long (pz + (dc.toInt64))), .second] [(.int (1 : Int32))]))
      refine own_retN (t := .boolean) (by simp) X92 hx Bd.notSynchronized Bd.returns (hb hby at_370) (by decide) (by decide) ?_
      show Q_rm0 Z _ _ _ _ _ _ _ _ h0 n0 _ T92.heap _
      rw [r92_0]
      exact ⟨rfl, N92⟩
  · subst hd
    show OGo _ _ _ _ (T53.setTop (mkF m 178 #[.val (.long qa), .second, .val (.long qb), .second, .val (.long ea), .second, .val (.long eb), .second, .val (.long pz), .second, .val (.int mask), .val (.ref b1), .val (.ref b17), .val (.long (own_x (1 : Int32) (4 : Int32) pz)), .second, .val (.int (own_h (1 : Int32) (4 : Int32))), .unset, .unset, .unset, .unset, .unset, .unset, .unset, .unset, .unset] []))
    have f98 : Fld Z T52.heap b17 "com/example/eventloom/eventloom/engine/Forbidden" "count" "I" (.int (3 : Int32)) := r52_2
    have f99 : Fld Z T52.heap b17 "com/example/eventloom/eventloom/engine/Forbidden" "first" "I" (.int (1 : Int32)) := r52_3
    refine OGo.via (fun _ k => XS.aload X53.here hx rfl (hb hby at_178) rfl rfl (XS.lload X53.here hx rfl (hb hby at_180) rfl k)) ?_
    refine OGo.via (X53.ldc2Long hx hown (mvT hZ (own_w hw 42 rfl)) (g := (mkF m 182 #[.val (.long qa), .second, .val (.long qb), .second, .val (.long ea), .second, .val (.long eb), .second, .val (.long pz), .second, .val (.int mask), .val (.ref b1), .val (.ref b17), .val (.long (own_x (1 : Int32) (4 : Int32) pz)), .second, .val (.int (own_h (1 : Int32) (4 : Int32))), .unset, .unset, .unset, .unset, .unset, .unset, .unset, .unset, .unset] [(.long pz), (.ref b17)])) rfl (hb hby at_182)) ?_
    show OGo _ _ _ _ (T53.setTop (mkF m 185 #[.val (.long qa), .second, .val (.long qb), .second, .val (.long ea), .second, .val (.long eb), .second, .val (.long pz), .second, .val (.int mask), .val (.ref b1), .val (.ref b17), .val (.long (own_x (1 : Int32) (4 : Int32) pz)), .second, .val (.int (own_h (1 : Int32) (4 : Int32))), .unset, .unset, .unset, .unset, .unset, .unset, .unset, .unset, .unset] [(.long (4 : Int64)), (.long pz), (.ref b17)]))
    refine OGo.via (fun _ k => XS.ladd X53.here hx rfl (hb hby at_185) rfl (XS.aload X53.here hx rfl (hb hby at_186) rfl rfl (XS.iconst X53.here hx rfl (hb hby at_188) k))) ?_
    have f101 := f47.keep r48_0 (ninS (Nat.ne_of_lt lt_b1_b17) (ninS (Nat.ne_of_lt lt_b1_pa) (ninS (Nat.ne_of_lt lt_b1_ta) nin0)))
    have f102 := f101.keep r52_0 (ninS (Nat.ne_of_lt lt_b1_b17) nin0)
    obtain ⟨cl100, Ar100, q100, Sz100, Ng100, Hs100, Gf100⟩ := id f102
    have hin100 : ¬ ((4 : Int32) < 0 ∨ cl100.slots.size ≤ ((4 : Int32)).toNatClampNeg) := inb_of Sz100 ⟨by decide, by decide⟩
    have hat100 : cl100.slots[((4 : Int32)).toNatClampNeg]? = some (.long t4) := Hs100.at hin100 rfl
    refine OGo.via (X53.laload hx (j := (4 : Int32)) (v := (.long t4)) (by rw [r53_0]; exact Ar100.1) (State.isArrayOf_alike hZ.alike Ar100.2.1) Ar100.2.2 hin100 hat100 (g := (mkF m 189 #[.val (.long qa), .second, .val (.long qb), .second, .val (.long ea), .second, .val (.long eb), .second, .val (.long pz), .second, .val (.int mask), .val (.ref b1), .val (.ref b17), .val (.long (own_x (1 : Int32) (4 : Int32) pz)), .second, .val (.int (own_h (1 : Int32) (4 : Int32))), .unset, .unset, .unset, .unset, .unset, .unset, .unset, .unset, .unset] [(.int (4 : Int32)), (.ref b1), (.long (pz + (4 : Int64))), (.ref b17)])) rfl rfl (hb hby at_189)) ?_
    show OGo _ _ _ _ (T53.setTop (mkF m 190 #[.val (.long qa), .second, .val (.long qb), .second, .val (.long ea), .second, .val (.long eb), .second, .val (.long pz), .second, .val (.int mask), .val (.ref b1), .val (.ref b17), .val (.long (own_x (1 : Int32) (4 : Int32) pz)), .second, .val (.int (own_h (1 : Int32) (4 : Int32))), .unset, .unset, .unset, .unset, .unset, .unset, .unset, .unset, .unset] [(.long t4), (.long (pz + (4 : Int64))), (.ref b17)]))
    refine OGo.via (X53.ldc2Long hx hown (mvT hZ (own_w hw 16 rfl)) (g := (mkF m 190 #[.val (.long qa), .second, .val (.long qb), .second, .val (.long ea), .second, .val (.long eb), .second, .val (.long pz), .second, .val (.int mask), .val (.ref b1), .val (.ref b17), .val (.long (own_x (1 : Int32) (4 : Int32) pz)), .second, .val (.int (own_h (1 : Int32) (4 : Int32))), .unset, .unset, .unset, .unset, .unset, .unset, .unset, .unset, .unset] [(.long t4), (.long (pz + (4 : Int64))), (.ref b17)])) rfl (hb hby at_190)) ?_
    show OGo _ _ _ _ (T53.setTop (mkF m 193 #[.val (.long qa), .second, .val (.long qb), .second, .val (.long ea), .second, .val (.long eb), .second, .val (.long pz), .second, .val (.int mask), .val (.ref b1), .val (.ref b17), .val (.long (own_x (1 : Int32) (4 : Int32) pz)), .second, .val (.int (own_h (1 : Int32) (4 : Int32))), .unset, .unset, .unset, .unset, .unset, .unset, .unset, .unset, .unset] [(.long (-9223372036854775808 : Int64)), (.long t4), (.long (pz + (4 : Int64))), (.ref b17)]))
    have f104 := f49.keep r52_0 (ninS (Nat.ne_of_gt lt_b17_pa) nin0)
    have f105 := f50.keep r52_0 (ninS (Nat.ne_of_gt lt_b17_ta) nin0)
    obtain ⟨cq103, kq103, q103a, q103b, q103c⟩ := isOf hZ r53_0 r52_1
    obtain ⟨_, T103, Lc103, X103, hQ103, st103⟩ := own_open X53 (X53.virtualBack hx (y := own_y5) (z := own_y5) hown (mvT hZ (own_w hw 17 rfl)) (mvT hZ (own_w hw 18 rfl)) (notFace_of_selects (args := #[]) (mvT hZ (own_w hw 20 rfl))) (mvT hZ (own_w hw 20 rfl)) (mvT hZ (own_w hw 19 rfl)) (by decide) (backOf (W := 0) (rm3p l Z a0 hw [] b17 (pz + (4 : Int64)) t4 (3 : Int32) (1 : Int32) (4 : Int32) pa ta kp kt [(.long pz), (.long (pz + (1 : Int64))), (.long (pz + (2 : Int64))), (.long (pz + (3 : Int64)))] [(.long t0), (.long t1), (.long t2), (.long t3)] ((((1 : Int64) + (1 : Int64)) + (1 : Int64)) + (1 : Int64)) 0 t1 (pz + (1 : Int64)) T52.heap n0 (Nat.le_trans Z0 K52.1) r52_1 r52_4 r52_5 f99 f98 r52_6 f104 f105 (Nat.ne_of_lt lt_b17_pa) (Nat.ne_of_lt lt_b17_ta) (Nat.ne_of_lt r29_3) g_b17 g_pa g_ta (by decide) (by decide) rfl ⟨by decide, by decide⟩ (Nat.le_of_ble_eq_true rfl) (Nat.le_of_ble_eq_true rfl) (by decide) (by decide) ⟨by decide, by decide⟩ rfl rfl) hZ (own_w hw 21 rfl) (own_w hw 3 rfl) (by decide) (by decide)) q103a q103c (g := (mkF m 193 #[.val (.long qa), .second, .val (.long qb), .second, .val (.long ea), .second, .val (.long eb), .second, .val (.long pz), .second, .val (.int mask), .val (.ref b1), .val (.ref b17), .val (.long (own_x (1 : Int32) (4 : Int32) pz)), .second, .val (.int (own_h (1 : Int32) (4 : Int32))), .unset, .unset, .unset, .unset, .unset, .unset, .unset, .unset, .unset] [(.long (-9223372036854775808 : Int64)), (.long t4), (.long (pz + (4 : Int64))), (.ref b17)])) rfl (by rw [hml]; rfl) (Steps.refl _) (argsL := [(.long (pz + (4 : Int64))), (.long t4), (.long (-9223372036854775808 : Int64))]) (rest := []) (lenOf pd_5 rfl) rfl (by show 2 * 0 + _ ≤ _; exact Nat.le_of_eq rfl) (hb hby at_193) (fun _ _ => ⟨rfl, r53_0, (by decide : 4 + 0 ≤ _), (by decide : 20 + 0 ≤ _)⟩))
    obtain ⟨rfl, N103q, r103_0, r103_1, r103_2, r103_3, r103_4, r103_5, r103_6, r103_7, r103_8⟩ := hQ103
    have N103 := Fr.app N53 N103q
    have K103 : Keep h0 T103.heap [] := K52.trans r103_0 (allS (Or.inr sz_b17) (allS (Or.inr sz_pa) (allS (Or.inr sz_ta) all0)))
    refine OGo.via (fun _ k => st103.trans k) ?_
    show OGo _ _ _ _ (T103.setTop (mkF m 196 #[.val (.long qa), .second, .val (.long qb), .second, .val (.long ea), .second, .val (.long eb), .second, .val (.long pz), .second, .val (.int mask), .val (.ref b1), .val (.ref b17), .val (.long (own_x (1 : Int32) (4 : Int32) pz)), .second, .val (.int (own_h (1 : Int32) (4 : Int32))), .unset, .unset, .unset, .unset, .unset, .unset, .unset, .unset, .unset] []))
    have f106 : Arv Z T103.heap pa kp .long (4 : Int32) [(.long (pz + (4 : Int64))), (.long (pz + (1 : Int64))), (.long (pz + (2 : Int64))), (.long (pz + (3 : Int64)))] (.long (0 : Int64)) := r103_7
    have f107 : Arv Z T103.heap ta kt .long (4 : Int32) [(.long t4), (.long t1), (.long t2), (.long t3)] (.long (0 : Int64)) := r103_8
    have f108 : Fld Z T103.heap b17 "com/example/eventloom/eventloom/engine/Forbidden" "count" "I" (.int (4 : Int32)) := r103_5
    refine OGo.via (fun _ k => XS.aload X103.here hx rfl (hb hby at_196) rfl rfl (XS.lload X103.here hx rfl (hb hby at_198) rfl k)) ?_
    obtain ⟨cq109, kq109, q109a, q109b, q109c⟩ := isOf hZ rfl r103_1
    obtain ⟨_, T109, Lc109, X109, hQ109, st109⟩ := own_open X103 (X103.virtualBack hx (y := own_y4) (z := own_y4) hown (mvT hZ (own_w hw 36 rfl)) (mvT hZ (own_w hw 23 rfl)) (notFace_of_selects (args := #[]) (mvT hZ (own_w hw 25 rfl))) (mvT hZ (own_w hw 25 rfl)) (mvT hZ (own_w hw 24 rfl)) (by decide) (backOf (W := 0) (rm4b1 l Z a0 hw [] b17 eb pa ta kp kt (((((1 : Int64) + (1 : Int64)) + (1 : Int64)) + (1 : Int64)) + (1 : Int64)) pz t0 t1 t2 t3 t4 T103.heap n0 (Nat.le_trans Z0 K103.1) r103_1 r103_2 r103_3 r103_4 f108 r103_6 f106 f107 (Nat.ne_of_lt lt_b17_pa) (Nat.ne_of_lt lt_b17_ta) g_b17) hZ (own_w hw 26 rfl) (own_w hw 3 rfl) (by decide) (by decide)) q109a q109c (g := (mkF m 200 #[.val (.long qa), .second, .val (.long qb), .second, .val (.long ea), .second, .val (.long eb), .second, .val (.long pz), .second, .val (.int mask), .val (.ref b1), .val (.ref b17), .val (.long (own_x (1 : Int32) (4 : Int32) pz)), .second, .val (.int (own_h (1 : Int32) (4 : Int32))), .unset, .unset, .unset, .unset, .unset, .unset, .unset, .unset, .unset] [(.long eb), (.ref b17)])) rfl (by rw [hml]; rfl) (Steps.refl _) (argsL := [(.long eb)]) (rest := []) (lenOf pd_2 rfl) rfl (by show 2 * 0 + _ ≤ _; exact Nat.le_of_eq rfl) (hb hby at_200) (fun _ _ => ⟨rfl, rfl, (by decide : 4 + 0 ≤ _), (by decide : 20 + 0 ≤ _)⟩))
    obtain ⟨rfl, N109q, r109_0, r109_1, r109_2⟩ := hQ109
    have N109 := Fr.app N103 N109q
    have K109 : Keep h0 T109.heap [] := K103.trans r109_0 (allS (Or.inr sz_b17) all0)
    refine OGo.via (fun _ k => st109.trans k) ?_
    show OGo _ _ _ _ (T109.setTop (mkF m 203 #[.val (.long qa), .second, .val (.long qb), .second, .val (.long ea), .second, .val (.long eb), .second, .val (.long pz), .second, .val (.int mask), .val (.ref b1), .val (.ref b17), .val (.long (own_x (1 : Int32) (4 : Int32) pz)), .second, .val (.int (own_h (1 : Int32) (4 : Int32))), .unset, .unset, .unset, .unset, .unset, .unset, .unset, .unset, .unset] [(.long (own_x (own_adv (own_adv (own_adv (own_adv (own_adv (1 : Int32) (5 : Int32) t0 t1 t2 t3 t4 eb) (5 : Int32) t0 t1 t2 t3 t4 eb) (5 : Int32) t0 t1 t2 t3 t4 eb) (5 : Int32) t0 t1 t2 t3 t4 eb) (5 : Int32) t0 t1 t2 t3 t4 eb) (5 : Int32) pz))]))
    show OGo _ _ _ _ (T109.setTop (mkF m 203 #[.val (.long qa), .second, .val (.long qb), .second, .val (.long ea), .second, .val (.long eb), .second, .val (.long pz), .second, .val (.int mask), .val (.ref b1), .val (.ref b17), .val (.long (own_x (1 : Int32) (4 : Int32) pz)), .second, .val (.int (own_h (1 : Int32) (4 : Int32))), .unset, .unset, .unset, .unset, .unset, .unset, .unset, .unset, .unset] [(.long (own_x (own_adv (own_adv (own_adv (own_adv (own_adv (1 : Int32) (5 : Int32) t0 t1 t2 t3 t4 eb) (5 : Int32) t0 t1 t2 t3 t4 eb) (5 : Int32) t0 t1 t2 t3 t4 eb) (5 : Int32) t0 t1 t2 t3 t4 eb) (5 : Int32) t0 t1 t2 t3 t4 eb) (5 : Int32) pz))]))
    obtain ⟨dc, hdc⟩ : ∃ z, z = (own_adv (own_adv (own_adv (own_adv (own_adv (1 : Int32) (5 : Int32) t0 t1 t2 t3 t4 eb) (5 : Int32) t0 t1 t2 t3 t4 eb) (5 : Int32) t0 t1 t2 t3 t4 eb) (5 : Int32) t0 t1 t2 t3 t4 eb) (5 : Int32) t0 t1 t2 t3 t4 eb) := ⟨_, rfl⟩
    rw [← hdc]
    rw [← hdc] at r109_2
    show OGo _ _ _ _ (T109.setTop (mkF m 203 #[.val (.long qa), .second, .val (.long qb), .second, .val (.long ea), .second, .val (.long eb), .second, .val (.long pz), .second, .val (.int mask), .val (.ref b1), .val (.ref b17), .val (.long (own_x (1 : Int32) (4 : Int32) pz)), .second, .val (.int (own_h (1 : Int32) (4 : Int32))), .unset, .unset, .unset, .unset, .unset, .unset, .unset, .unset, .unset] [(.long (own_x dc (5 : Int32) pz))]))
    refine OGo.via (fun _ k => XS.lstore X109.here hx rfl (hb hby at_203) rfl (l' := #[.val (.long qa), .second, .val (.long qb), .second, .val (.long ea), .second, .val (.long eb), .second, .val (.long pz), .second, .val (.int mask), .val (.ref b1), .val (.ref b17), .val (.long (own_x (1 : Int32) (4 : Int32) pz)), .second, .val (.int (own_h (1 : Int32) (4 : Int32))), .val (.long (own_x dc (5 : Int32) pz)), .second, .unset, .unset, .unset, .unset, .unset, .unset, .unset]) rfl (XS.aload X109.here hx rfl (hb hby at_205) rfl rfl k)) ?_
    obtain ⟨cq110, kq110, q110a, q110b, q110c⟩ := isOf hZ rfl r109_1
    obtain ⟨_, T110, Lc110, X110, hQ110, st110⟩ := own_open X109 (X109.virtualBack hx (y := own_y6) (z := own_y6) hown (mvT hZ (own_w hw 37 rfl)) (mvT hZ (own_w hw 38 rfl)) (notFace_of_selects (args := #[]) (mvT hZ (own_w hw 40 rfl))) (mvT hZ (own_w hw 40 rfl)) (mvT hZ (own_w hw 39 rfl)) (by decide) (backOf (W := 0) (rm5 l Z a0 hw [] b17 (own_h dc (5 : Int32)) T109.heap n0 (Nat.le_trans Z0 K109.1) r109_2) hZ (own_w hw 41 rfl) (own_w hw 3 rfl) (by decide) (by decide)) q110a q110c (g := (mkF m 207 #[.val (.long qa), .second, .val (.long qb), .second, .val (.long ea), .second, .val (.long eb), .second, .val (.long pz), .second, .val (.int mask), .val (.ref b1), .val (.ref b17), .val (.long (own_x (1 : Int32) (4 : Int32) pz)), .second, .val (.int (own_h (1 : Int32) (4 : Int32))), .val (.long (own_x dc (5 : Int32) pz)), .second, .unset, .unset, .unset, .unset, .unset, .unset, .unset] [(.ref b17)])) rfl (by rw [hml]; rfl) (Steps.refl _) (argsL := []) (rest := []) (lenOf pd_6 rfl) rfl (by show 2 * 0 + _ ≤ _; exact Nat.le_of_eq rfl) (hb hby at_207) (fun _ _ => ⟨rfl, rfl, (by decide : 4 + 0 ≤ _), (by decide : 20 + 0 ≤ _)⟩))
    obtain ⟨rfl, N110q, r110_0⟩ := hQ110
    have N110 := Fr.app N109 N110q
    refine OGo.via (fun _ k => st110.trans k) ?_
    show OGo _ _ _ _ (T110.setTop (mkF m 210 #[.val (.long qa), .second, .val (.long qb), .second, .val (.long ea), .second, .val (.long eb), .second, .val (.long pz), .second, .val (.int mask), .val (.ref b1), .val (.ref b17), .val (.long (own_x (1 : Int32) (4 : Int32) pz)), .second, .val (.int (own_h (1 : Int32) (4 : Int32))), .val (.long (own_x dc (5 : Int32) pz)), .second, .unset, .unset, .unset, .unset, .unset, .unset, .unset] [(.int (own_h dc (5 : Int32)))]))
    refine OGo.via (fun _ k => XS.istore X110.here hx rfl (hb hby at_210) rfl (l' := #[.val (.long qa), .second, .val (.long qb), .second, .val (.long ea), .second, .val (.long eb), .second, .val (.long pz), .second, .val (.int mask), .val (.ref b1), .val (.ref b17), .val (.long (own_x (1 : Int32) (4 : Int32) pz)), .second, .val (.int (own_h (1 : Int32) (4 : Int32))), .val (.long (own_x dc (5 : Int32) pz)), .second, .val (.int (own_h dc (5 : Int32))), .unset, .unset, .unset, .unset, .unset, .unset]) rfl (XS.iconst X110.here hx rfl (hb hby at_212) (XS.iconst X110.here hx rfl (hb hby at_213) (XS.aload X110.here hx rfl (hb hby at_214) rfl rfl (XS.lload X110.here hx rfl (hb hby at_216) rfl k))))) ?_
    have f112 := f102.keep r103_0 (ninS (Nat.ne_of_lt lt_b1_b17) (ninS (Nat.ne_of_lt lt_b1_pa) (ninS (Nat.ne_of_lt lt_b1_ta) nin0)))
    have f113 := f112.keep r109_0 (ninS (Nat.ne_of_lt lt_b1_b17) nin0)
    obtain ⟨_, T111, Lc111, X111, hQ111, st111⟩ := own_open X110 (Jvm.LawKit.callS X110 hx (y := own_y7) hown (mvT hZ (own_w hw 60 rfl)) (mvT hZ (own_w hw 61 rfl)) (mvT hZ (own_w hw 62 rfl)) (mvT hZ (own_w hw 63 rfl)) (by decide) (backOf (W := 0) (rm9 l Z a0 hw [] (0 : Int32) (4 : Int32) b1 ea ka1 t0 t1 t2 t3 t4 T109.heap n0 (Nat.le_trans Z0 K109.1) f113 (by decide) (by decide)) hZ (own_w hw 63 rfl) (own_w hw 62 rfl) (by decide) (by decide)) (g := (mkF m 218 #[.val (.long qa), .second, .val (.long qb), .second, .val (.long ea), .second, .val (.long eb), .second, .val (.long pz), .second, .val (.int mask), .val (.ref b1), .val (.ref b17), .val (.long (own_x (1 : Int32) (4 : Int32) pz)), .second, .val (.int (own_h (1 : Int32) (4 : Int32))), .val (.long (own_x dc (5 : Int32) pz)), .second, .val (.int (own_h dc (5 : Int32))), .unset, .unset, .unset, .unset, .unset, .unset] [(.long ea), (.ref b1), (.int (4 : Int32)), (.int (0 : Int32))])) rfl (by rw [hml]; rfl) (argsL := [(.int (0 : Int32)), (.int (4 : Int32)), (.ref b1), (.long ea)]) (rest := []) (lenOf pd_7 rfl) rfl (by show 2 * 0 + _ ≤ _; exact Nat.le_of_eq rfl) (hb hby at_218) (fun _ _ => ⟨rfl, r110_0, (by decide : 4 + 0 ≤ _), (by decide : 20 + 0 ≤ _)⟩))
    obtain ⟨rfl, N111q, r111_0⟩ := hQ111
    have N111 := Fr.app N110 N111q
    refine OGo.via st111 ?_
    show OGo _ _ _ _ (T111.setTop (mkF m 221 #[.val (.long qa), .second, .val (.long qb), .second, .val (.long ea), .second, .val (.long eb), .second, .val (.long pz), .second, .val (.int mask), .val (.ref b1), .val (.ref b17), .val (.long (own_x (1 : Int32) (4 : Int32) pz)), .second, .val (.int (own_h (1 : Int32) (4 : Int32))), .val (.long (own_x dc (5 : Int32) pz)), .second, .val (.int (own_h dc (5 : Int32))), .unset, .unset, .unset, .unset, .unset, .unset] [(.int (own_adv (0 : Int32) (4 : Int32) t0 t1 t2 t3 t4 ea))]))
    obtain ⟨v114, hv114⟩ : ∃ z, z = (own_adv (0 : Int32) (4 : Int32) t0 t1 t2 t3 t4 ea) := ⟨_, rfl⟩
    rw [← hv114]
    have hnv114 : ¬ v114 < 0 := by rw [hv114]; exact own_adv_nn (by decide) (by decide)
    show OGo _ _ _ _ (T111.setTop (mkF m 221 #[.val (.long qa), .second, .val (.long qb), .second, .val (.long ea), .second, .val (.long eb), .second, .val (.long pz), .second, .val (.int mask), .val (.ref b1), .val (.ref b17), .val (.long (own_x (1 : Int32) (4 : Int32) pz)), .second, .val (.int (own_h (1 : Int32) (4 : Int32))), .val (.long (own_x dc (5 : Int32) pz)), .second, .val (.int (own_h dc (5 : Int32))), .unset, .unset, .unset, .unset, .unset, .unset] [(.int v114)]))
    refine OGo.via (fun _ k => XS.iconst X111.here hx rfl (hb hby at_221) (XS.aload X111.here hx rfl (hb hby at_222) rfl rfl (XS.lload X111.here hx rfl (hb hby at_224) rfl k))) ?_
    obtain ⟨_, T115, Lc115, X115, hQ115, st115⟩ := own_open X111 (Jvm.LawKit.callS X111 hx (y := own_y7) hown (mvT hZ (own_w hw 60 rfl)) (mvT hZ (own_w hw 61 rfl)) (mvT hZ (own_w hw 62 rfl)) (mvT hZ (own_w hw 63 rfl)) (by decide) (backOf (W := 0) (rm9 l Z a0 hw [] v114 (4 : Int32) b1 ea ka1 t0 t1 t2 t3 t4 T109.heap n0 (Nat.le_trans Z0 K109.1) f113 hnv114 (by decide)) hZ (own_w hw 63 rfl) (own_w hw 62 rfl) (by decide) (by decide)) (g := (mkF m 226 #[.val (.long qa), .second, .val (.long qb), .second, .val (.long ea), .second, .val (.long eb), .second, .val (.long pz), .second, .val (.int mask), .val (.ref b1), .val (.ref b17), .val (.long (own_x (1 : Int32) (4 : Int32) pz)), .second, .val (.int (own_h (1 : Int32) (4 : Int32))), .val (.long (own_x dc (5 : Int32) pz)), .second, .val (.int (own_h dc (5 : Int32))), .unset, .unset, .unset, .unset, .unset, .unset] [(.long ea), (.ref b1), (.int (4 : Int32)), (.int v114)])) rfl (by rw [hml]; rfl) (argsL := [(.int v114), (.int (4 : Int32)), (.ref b1), (.long ea)]) (rest := []) (lenOf pd_7 rfl) rfl (by show 2 * 0 + _ ≤ _; exact Nat.le_of_eq rfl) (hb hby at_226) (fun _ _ => ⟨rfl, r111_0, (by decide : 4 + 0 ≤ _), (by decide : 20 + 0 ≤ _)⟩))
    obtain ⟨rfl, N115q, r115_0⟩ := hQ115
    have N115 := Fr.app N111 N115q
    refine OGo.via st115 ?_
    show OGo _ _ _ _ (T115.setTop (mkF m 229 #[.val (.long qa), .second, .val (.long qb), .second, .val (.long ea), .second, .val (.long eb), .second, .val (.long pz), .second, .val (.int mask), .val (.ref b1), .val (.ref b17), .val (.long (own_x (1 : Int32) (4 : Int32) pz)), .second, .val (.int (own_h (1 : Int32) (4 : Int32))), .val (.long (own_x dc (5 : Int32) pz)), .second, .val (.int (own_h dc (5 : Int32))), .unset, .unset, .unset, .unset, .unset, .unset] [(.int (own_adv v114 (4 : Int32) t0 t1 t2 t3 t4 ea))]))
    obtain ⟨v116, hv116⟩ : ∃ z, z = (own_adv v114 (4 : Int32) t0 t1 t2 t3 t4 ea) := ⟨_, rfl⟩
    rw [← hv116]
    have hnv116 : ¬ v116 < 0 := by rw [hv116]; exact own_adv_nn hnv114 (by decide)
    show OGo _ _ _ _ (T115.setTop (mkF m 229 #[.val (.long qa), .second, .val (.long qb), .second, .val (.long ea), .second, .val (.long eb), .second, .val (.long pz), .second, .val (.int mask), .val (.ref b1), .val (.ref b17), .val (.long (own_x (1 : Int32) (4 : Int32) pz)), .second, .val (.int (own_h (1 : Int32) (4 : Int32))), .val (.long (own_x dc (5 : Int32) pz)), .second, .val (.int (own_h dc (5 : Int32))), .unset, .unset, .unset, .unset, .unset, .unset] [(.int v116)]))
    refine OGo.via (fun _ k => XS.iconst X115.here hx rfl (hb hby at_229) (XS.aload X115.here hx rfl (hb hby at_230) rfl rfl (XS.lload X115.here hx rfl (hb hby at_232) rfl k))) ?_
    obtain ⟨_, T117, Lc117, X117, hQ117, st117⟩ := own_open X115 (Jvm.LawKit.callS X115 hx (y := own_y7) hown (mvT hZ (own_w hw 60 rfl)) (mvT hZ (own_w hw 61 rfl)) (mvT hZ (own_w hw 62 rfl)) (mvT hZ (own_w hw 63 rfl)) (by decide) (backOf (W := 0) (rm9 l Z a0 hw [] v116 (4 : Int32) b1 ea ka1 t0 t1 t2 t3 t4 T109.heap n0 (Nat.le_trans Z0 K109.1) f113 hnv116 (by decide)) hZ (own_w hw 63 rfl) (own_w hw 62 rfl) (by decide) (by decide)) (g := (mkF m 234 #[.val (.long qa), .second, .val (.long qb), .second, .val (.long ea), .second, .val (.long eb), .second, .val (.long pz), .second, .val (.int mask), .val (.ref b1), .val (.ref b17), .val (.long (own_x (1 : Int32) (4 : Int32) pz)), .second, .val (.int (own_h (1 : Int32) (4 : Int32))), .val (.long (own_x dc (5 : Int32) pz)), .second, .val (.int (own_h dc (5 : Int32))), .unset, .unset, .unset, .unset, .unset, .unset] [(.long ea), (.ref b1), (.int (4 : Int32)), (.int v116)])) rfl (by rw [hml]; rfl) (argsL := [(.int v116), (.int (4 : Int32)), (.ref b1), (.long ea)]) (rest := []) (lenOf pd_7 rfl) rfl (by show 2 * 0 + _ ≤ _; exact Nat.le_of_eq rfl) (hb hby at_234) (fun _ _ => ⟨rfl, r115_0, (by decide : 4 + 0 ≤ _), (by decide : 20 + 0 ≤ _)⟩))
    obtain ⟨rfl, N117q, r117_0⟩ := hQ117
    have N117 := Fr.app N115 N117q
    refine OGo.via st117 ?_
    show OGo _ _ _ _ (T117.setTop (mkF m 237 #[.val (.long qa), .second, .val (.long qb), .second, .val (.long ea), .second, .val (.long eb), .second, .val (.long pz), .second, .val (.int mask), .val (.ref b1), .val (.ref b17), .val (.long (own_x (1 : Int32) (4 : Int32) pz)), .second, .val (.int (own_h (1 : Int32) (4 : Int32))), .val (.long (own_x dc (5 : Int32) pz)), .second, .val (.int (own_h dc (5 : Int32))), .unset, .unset, .unset, .unset, .unset, .unset] [(.int (own_adv v116 (4 : Int32) t0 t1 t2 t3 t4 ea))]))
    obtain ⟨v118, hv118⟩ : ∃ z, z = (own_adv v116 (4 : Int32) t0 t1 t2 t3 t4 ea) := ⟨_, rfl⟩
    rw [← hv118]
    have hnv118 : ¬ v118 < 0 := by rw [hv118]; exact own_adv_nn hnv116 (by decide)
    show OGo _ _ _ _ (T117.setTop (mkF m 237 #[.val (.long qa), .second, .val (.long qb), .second, .val (.long ea), .second, .val (.long eb), .second, .val (.long pz), .second, .val (.int mask), .val (.ref b1), .val (.ref b17), .val (.long (own_x (1 : Int32) (4 : Int32) pz)), .second, .val (.int (own_h (1 : Int32) (4 : Int32))), .val (.long (own_x dc (5 : Int32) pz)), .second, .val (.int (own_h dc (5 : Int32))), .unset, .unset, .unset, .unset, .unset, .unset] [(.int v118)]))
    refine OGo.via (fun _ k => XS.iconst X117.here hx rfl (hb hby at_237) (XS.aload X117.here hx rfl (hb hby at_238) rfl rfl (XS.lload X117.here hx rfl (hb hby at_240) rfl k))) ?_
    obtain ⟨_, T119, Lc119, X119, hQ119, st119⟩ := own_open X117 (Jvm.LawKit.callS X117 hx (y := own_y7) hown (mvT hZ (own_w hw 60 rfl)) (mvT hZ (own_w hw 61 rfl)) (mvT hZ (own_w hw 62 rfl)) (mvT hZ (own_w hw 63 rfl)) (by decide) (backOf (W := 0) (rm9 l Z a0 hw [] v118 (4 : Int32) b1 ea ka1 t0 t1 t2 t3 t4 T109.heap n0 (Nat.le_trans Z0 K109.1) f113 hnv118 (by decide)) hZ (own_w hw 63 rfl) (own_w hw 62 rfl) (by decide) (by decide)) (g := (mkF m 242 #[.val (.long qa), .second, .val (.long qb), .second, .val (.long ea), .second, .val (.long eb), .second, .val (.long pz), .second, .val (.int mask), .val (.ref b1), .val (.ref b17), .val (.long (own_x (1 : Int32) (4 : Int32) pz)), .second, .val (.int (own_h (1 : Int32) (4 : Int32))), .val (.long (own_x dc (5 : Int32) pz)), .second, .val (.int (own_h dc (5 : Int32))), .unset, .unset, .unset, .unset, .unset, .unset] [(.long ea), (.ref b1), (.int (4 : Int32)), (.int v118)])) rfl (by rw [hml]; rfl) (argsL := [(.int v118), (.int (4 : Int32)), (.ref b1), (.long ea)]) (rest := []) (lenOf pd_7 rfl) rfl (by show 2 * 0 + _ ≤ _; exact Nat.le_of_eq rfl) (hb hby at_242) (fun _ _ => ⟨rfl, r117_0, (by decide : 4 + 0 ≤ _), (by decide : 20 + 0 ≤ _)⟩))
    obtain ⟨rfl, N119q, r119_0⟩ := hQ119
    have N119 := Fr.app N117 N119q
    refine OGo.via st119 ?_
    show OGo _ _ _ _ (T119.setTop (mkF m 245 #[.val (.long qa), .second, .val (.long qb), .second, .val (.long ea), .second, .val (.long eb), .second, .val (.long pz), .second, .val (.int mask), .val (.ref b1), .val (.ref b17), .val (.long (own_x (1 : Int32) (4 : Int32) pz)), .second, .val (.int (own_h (1 : Int32) (4 : Int32))), .val (.long (own_x dc (5 : Int32) pz)), .second, .val (.int (own_h dc (5 : Int32))), .unset, .unset, .unset, .unset, .unset, .unset] [(.int (own_adv v118 (4 : Int32) t0 t1 t2 t3 t4 ea))]))
    obtain ⟨v120, hv120⟩ : ∃ z, z = (own_adv v118 (4 : Int32) t0 t1 t2 t3 t4 ea) := ⟨_, rfl⟩
    rw [← hv120]
    have hnv120 : ¬ v120 < 0 := by rw [hv120]; exact own_adv_nn hnv118 (by decide)
    show OGo _ _ _ _ (T119.setTop (mkF m 245 #[.val (.long qa), .second, .val (.long qb), .second, .val (.long ea), .second, .val (.long eb), .second, .val (.long pz), .second, .val (.int mask), .val (.ref b1), .val (.ref b17), .val (.long (own_x (1 : Int32) (4 : Int32) pz)), .second, .val (.int (own_h (1 : Int32) (4 : Int32))), .val (.long (own_x dc (5 : Int32) pz)), .second, .val (.int (own_h dc (5 : Int32))), .unset, .unset, .unset, .unset, .unset, .unset] [(.int v120)]))
    have hd' : v120 = (1 : Int32) := by rw [hv120, hv118, hv116, hv114]; exact hdd.symm
    rw [hd']
    show OGo _ _ _ _ (T119.setTop (mkF m 245 #[.val (.long qa), .second, .val (.long qb), .second, .val (.long ea), .second, .val (.long eb), .second, .val (.long pz), .second, .val (.int mask), .val (.ref b1), .val (.ref b17), .val (.long (own_x (1 : Int32) (4 : Int32) pz)), .second, .val (.int (own_h (1 : Int32) (4 : Int32))), .val (.long (own_x dc (5 : Int32) pz)), .second, .val (.int (own_h dc (5 : Int32))), .unset, .unset, .unset, .unset, .unset, .unset] [(.int (1 : Int32))]))
    refine OGo.via (fun _ k => XS.istore X119.here hx rfl (hb hby at_245) rfl (l' := #[.val (.long qa), .second, .val (.long qb), .second, .val (.long ea), .second, .val (.long eb), .second, .val (.long pz), .second, .val (.int mask), .val (.ref b1), .val (.ref b17), .val (.long (own_x (1 : Int32) (4 : Int32) pz)), .second, .val (.int (own_h (1 : Int32) (4 : Int32))), .val (.long (own_x dc (5 : Int32) pz)), .second, .val (.int (own_h dc (5 : Int32))), .val (.int (1 : Int32)), .unset, .unset, .unset, .unset, .unset]) rfl (XS.iload X119.here hx rfl (hb hby at_247) rfl (XS.iconst X119.here hx rfl (hb hby at_249) (XS.aload X119.here hx rfl (hb hby at_250) rfl rfl (XS.lload X119.here hx rfl (hb hby at_252) rfl k))))) ?_
    obtain ⟨_, T121, Lc121, X121, hQ121, st121⟩ := own_open X119 (Jvm.LawKit.callS X119 hx (y := own_y7) hown (mvT hZ (own_w hw 60 rfl)) (mvT hZ (own_w hw 61 rfl)) (mvT hZ (own_w hw 62 rfl)) (mvT hZ (own_w hw 63 rfl)) (by decide) (backOf (W := 0) (rm9 l Z a0 hw [] (1 : Int32) (5 : Int32) b1 eb ka1 t0 t1 t2 t3 t4 T109.heap n0 (Nat.le_trans Z0 K109.1) f113 (by decide) (by decide)) hZ (own_w hw 63 rfl) (own_w hw 62 rfl) (by decide) (by decide)) (g := (mkF m 254 #[.val (.long qa), .second, .val (.long qb), .second, .val (.long ea), .second, .val (.long eb), .second, .val (.long pz), .second, .val (.int mask), .val (.ref b1), .val (.ref b17), .val (.long (own_x (1 : Int32) (4 : Int32) pz)), .second, .val (.int (own_h (1 : Int32) (4 : Int32))), .val (.long (own_x dc (5 : Int32) pz)), .second, .val (.int (own_h dc (5 : Int32))), .val (.int (1 : Int32)), .unset, .unset, .unset, .unset, .unset] [(.long eb), (.ref b1), (.int (5 : Int32)), (.int (1 : Int32))])) rfl (by rw [hml]; rfl) (argsL := [(.int (1 : Int32)), (.int (5 : Int32)), (.ref b1), (.long eb)]) (rest := []) (lenOf pd_7 rfl) rfl (by show 2 * 0 + _ ≤ _; exact Nat.le_of_eq rfl) (hb hby at_254) (fun _ _ => ⟨rfl, r119_0, (by decide : 4 + 0 ≤ _), (by decide : 20 + 0 ≤ _)⟩))
    obtain ⟨rfl, N121q, r121_0⟩ := hQ121
    have N121 := Fr.app N119 N121q
    refine OGo.via st121 ?_
    show OGo _ _ _ _ (T121.setTop (mkF m 257 #[.val (.long qa), .second, .val (.long qb), .second, .val (.long ea), .second, .val (.long eb), .second, .val (.long pz), .second, .val (.int mask), .val (.ref b1), .val (.ref b17), .val (.long (own_x (1 : Int32) (4 : Int32) pz)), .second, .val (.int (own_h (1 : Int32) (4 : Int32))), .val (.long (own_x dc (5 : Int32) pz)), .second, .val (.int (own_h dc (5 : Int32))), .val (.int (1 : Int32)), .unset, .unset, .unset, .unset, .unset] [(.int (own_adv (1 : Int32) (5 : Int32) t0 t1 t2 t3 t4 eb))]))
    obtain ⟨v122, hv122⟩ : ∃ z, z = (own_adv (1 : Int32) (5 : Int32) t0 t1 t2 t3 t4 eb) := ⟨_, rfl⟩
    rw [← hv122]
    have hnv122 : ¬ v122 < 0 := by rw [hv122]; exact own_adv_nn (by decide) (by decide)
    show OGo _ _ _ _ (T121.setTop (mkF m 257 #[.val (.long qa), .second, .val (.long qb), .second, .val (.long ea), .second, .val (.long eb), .second, .val (.long pz), .second, .val (.int mask), .val (.ref b1), .val (.ref b17), .val (.long (own_x (1 : Int32) (4 : Int32) pz)), .second, .val (.int (own_h (1 : Int32) (4 : Int32))), .val (.long (own_x dc (5 : Int32) pz)), .second, .val (.int (own_h dc (5 : Int32))), .val (.int (1 : Int32)), .unset, .unset, .unset, .unset, .unset] [(.int v122)]))
    refine OGo.via (fun _ k => XS.iconst X121.here hx rfl (hb hby at_257) (XS.aload X121.here hx rfl (hb hby at_258) rfl rfl (XS.lload X121.here hx rfl (hb hby at_260) rfl k))) ?_
    obtain ⟨_, T123, Lc123, X123, hQ123, st123⟩ := own_open X121 (Jvm.LawKit.callS X121 hx (y := own_y7) hown (mvT hZ (own_w hw 60 rfl)) (mvT hZ (own_w hw 61 rfl)) (mvT hZ (own_w hw 62 rfl)) (mvT hZ (own_w hw 63 rfl)) (by decide) (backOf (W := 0) (rm9 l Z a0 hw [] v122 (5 : Int32) b1 eb ka1 t0 t1 t2 t3 t4 T109.heap n0 (Nat.le_trans Z0 K109.1) f113 hnv122 (by decide)) hZ (own_w hw 63 rfl) (own_w hw 62 rfl) (by decide) (by decide)) (g := (mkF m 262 #[.val (.long qa), .second, .val (.long qb), .second, .val (.long ea), .second, .val (.long eb), .second, .val (.long pz), .second, .val (.int mask), .val (.ref b1), .val (.ref b17), .val (.long (own_x (1 : Int32) (4 : Int32) pz)), .second, .val (.int (own_h (1 : Int32) (4 : Int32))), .val (.long (own_x dc (5 : Int32) pz)), .second, .val (.int (own_h dc (5 : Int32))), .val (.int (1 : Int32)), .unset, .unset, .unset, .unset, .unset] [(.long eb), (.ref b1), (.int (5 : Int32)), (.int v122)])) rfl (by rw [hml]; rfl) (argsL := [(.int v122), (.int (5 : Int32)), (.ref b1), (.long eb)]) (rest := []) (lenOf pd_7 rfl) rfl (by show 2 * 0 + _ ≤ _; exact Nat.le_of_eq rfl) (hb hby at_262) (fun _ _ => ⟨rfl, r121_0, (by decide : 4 + 0 ≤ _), (by decide : 20 + 0 ≤ _)⟩))
    obtain ⟨rfl, N123q, r123_0⟩ := hQ123
    have N123 := Fr.app N121 N123q
    refine OGo.via st123 ?_
    show OGo _ _ _ _ (T123.setTop (mkF m 265 #[.val (.long qa), .second, .val (.long qb), .second, .val (.long ea), .second, .val (.long eb), .second, .val (.long pz), .second, .val (.int mask), .val (.ref b1), .val (.ref b17), .val (.long (own_x (1 : Int32) (4 : Int32) pz)), .second, .val (.int (own_h (1 : Int32) (4 : Int32))), .val (.long (own_x dc (5 : Int32) pz)), .second, .val (.int (own_h dc (5 : Int32))), .val (.int (1 : Int32)), .unset, .unset, .unset, .unset, .unset] [(.int (own_adv v122 (5 : Int32) t0 t1 t2 t3 t4 eb))]))
    obtain ⟨v124, hv124⟩ : ∃ z, z = (own_adv v122 (5 : Int32) t0 t1 t2 t3 t4 eb) := ⟨_, rfl⟩
    rw [← hv124]
    have hnv124 : ¬ v124 < 0 := by rw [hv124]; exact own_adv_nn hnv122 (by decide)
    show OGo _ _ _ _ (T123.setTop (mkF m 265 #[.val (.long qa), .second, .val (.long qb), .second, .val (.long ea), .second, .val (.long eb), .second, .val (.long pz), .second, .val (.int mask), .val (.ref b1), .val (.ref b17), .val (.long (own_x (1 : Int32) (4 : Int32) pz)), .second, .val (.int (own_h (1 : Int32) (4 : Int32))), .val (.long (own_x dc (5 : Int32) pz)), .second, .val (.int (own_h dc (5 : Int32))), .val (.int (1 : Int32)), .unset, .unset, .unset, .unset, .unset] [(.int v124)]))
    refine OGo.via (fun _ k => XS.iconst X123.here hx rfl (hb hby at_265) (XS.aload X123.here hx rfl (hb hby at_266) rfl rfl (XS.lload X123.here hx rfl (hb hby at_268) rfl k))) ?_
    obtain ⟨_, T125, Lc125, X125, hQ125, st125⟩ := own_open X123 (Jvm.LawKit.callS X123 hx (y := own_y7) hown (mvT hZ (own_w hw 60 rfl)) (mvT hZ (own_w hw 61 rfl)) (mvT hZ (own_w hw 62 rfl)) (mvT hZ (own_w hw 63 rfl)) (by decide) (backOf (W := 0) (rm9 l Z a0 hw [] v124 (5 : Int32) b1 eb ka1 t0 t1 t2 t3 t4 T109.heap n0 (Nat.le_trans Z0 K109.1) f113 hnv124 (by decide)) hZ (own_w hw 63 rfl) (own_w hw 62 rfl) (by decide) (by decide)) (g := (mkF m 270 #[.val (.long qa), .second, .val (.long qb), .second, .val (.long ea), .second, .val (.long eb), .second, .val (.long pz), .second, .val (.int mask), .val (.ref b1), .val (.ref b17), .val (.long (own_x (1 : Int32) (4 : Int32) pz)), .second, .val (.int (own_h (1 : Int32) (4 : Int32))), .val (.long (own_x dc (5 : Int32) pz)), .second, .val (.int (own_h dc (5 : Int32))), .val (.int (1 : Int32)), .unset, .unset, .unset, .unset, .unset] [(.long eb), (.ref b1), (.int (5 : Int32)), (.int v124)])) rfl (by rw [hml]; rfl) (argsL := [(.int v124), (.int (5 : Int32)), (.ref b1), (.long eb)]) (rest := []) (lenOf pd_7 rfl) rfl (by show 2 * 0 + _ ≤ _; exact Nat.le_of_eq rfl) (hb hby at_270) (fun _ _ => ⟨rfl, r123_0, (by decide : 4 + 0 ≤ _), (by decide : 20 + 0 ≤ _)⟩))
    obtain ⟨rfl, N125q, r125_0⟩ := hQ125
    have N125 := Fr.app N123 N125q
    refine OGo.via st125 ?_
    show OGo _ _ _ _ (T125.setTop (mkF m 273 #[.val (.long qa), .second, .val (.long qb), .second, .val (.long ea), .second, .val (.long eb), .second, .val (.long pz), .second, .val (.int mask), .val (.ref b1), .val (.ref b17), .val (.long (own_x (1 : Int32) (4 : Int32) pz)), .second, .val (.int (own_h (1 : Int32) (4 : Int32))), .val (.long (own_x dc (5 : Int32) pz)), .second, .val (.int (own_h dc (5 : Int32))), .val (.int (1 : Int32)), .unset, .unset, .unset, .unset, .unset] [(.int (own_adv v124 (5 : Int32) t0 t1 t2 t3 t4 eb))]))
    obtain ⟨v126, hv126⟩ : ∃ z, z = (own_adv v124 (5 : Int32) t0 t1 t2 t3 t4 eb) := ⟨_, rfl⟩
    rw [← hv126]
    have hnv126 : ¬ v126 < 0 := by rw [hv126]; exact own_adv_nn hnv124 (by decide)
    show OGo _ _ _ _ (T125.setTop (mkF m 273 #[.val (.long qa), .second, .val (.long qb), .second, .val (.long ea), .second, .val (.long eb), .second, .val (.long pz), .second, .val (.int mask), .val (.ref b1), .val (.ref b17), .val (.long (own_x (1 : Int32) (4 : Int32) pz)), .second, .val (.int (own_h (1 : Int32) (4 : Int32))), .val (.long (own_x dc (5 : Int32) pz)), .second, .val (.int (own_h dc (5 : Int32))), .val (.int (1 : Int32)), .unset, .unset, .unset, .unset, .unset] [(.int v126)]))
    refine OGo.via (fun _ k => XS.iconst X125.here hx rfl (hb hby at_273) (XS.aload X125.here hx rfl (hb hby at_274) rfl rfl (XS.lload X125.here hx rfl (hb hby at_276) rfl k))) ?_
    obtain ⟨_, T127, Lc127, X127, hQ127, st127⟩ := own_open X125 (Jvm.LawKit.callS X125 hx (y := own_y7) hown (mvT hZ (own_w hw 60 rfl)) (mvT hZ (own_w hw 61 rfl)) (mvT hZ (own_w hw 62 rfl)) (mvT hZ (own_w hw 63 rfl)) (by decide) (backOf (W := 0) (rm9 l Z a0 hw [] v126 (5 : Int32) b1 eb ka1 t0 t1 t2 t3 t4 T109.heap n0 (Nat.le_trans Z0 K109.1) f113 hnv126 (by decide)) hZ (own_w hw 63 rfl) (own_w hw 62 rfl) (by decide) (by decide)) (g := (mkF m 278 #[.val (.long qa), .second, .val (.long qb), .second, .val (.long ea), .second, .val (.long eb), .second, .val (.long pz), .second, .val (.int mask), .val (.ref b1), .val (.ref b17), .val (.long (own_x (1 : Int32) (4 : Int32) pz)), .second, .val (.int (own_h (1 : Int32) (4 : Int32))), .val (.long (own_x dc (5 : Int32) pz)), .second, .val (.int (own_h dc (5 : Int32))), .val (.int (1 : Int32)), .unset, .unset, .unset, .unset, .unset] [(.long eb), (.ref b1), (.int (5 : Int32)), (.int v126)])) rfl (by rw [hml]; rfl) (argsL := [(.int v126), (.int (5 : Int32)), (.ref b1), (.long eb)]) (rest := []) (lenOf pd_7 rfl) rfl (by show 2 * 0 + _ ≤ _; exact Nat.le_of_eq rfl) (hb hby at_278) (fun _ _ => ⟨rfl, r125_0, (by decide : 4 + 0 ≤ _), (by decide : 20 + 0 ≤ _)⟩))
    obtain ⟨rfl, N127q, r127_0⟩ := hQ127
    have N127 := Fr.app N125 N127q
    refine OGo.via st127 ?_
    show OGo _ _ _ _ (T127.setTop (mkF m 281 #[.val (.long qa), .second, .val (.long qb), .second, .val (.long ea), .second, .val (.long eb), .second, .val (.long pz), .second, .val (.int mask), .val (.ref b1), .val (.ref b17), .val (.long (own_x (1 : Int32) (4 : Int32) pz)), .second, .val (.int (own_h (1 : Int32) (4 : Int32))), .val (.long (own_x dc (5 : Int32) pz)), .second, .val (.int (own_h dc (5 : Int32))), .val (.int (1 : Int32)), .unset, .unset, .unset, .unset, .unset] [(.int (own_adv v126 (5 : Int32) t0 t1 t2 t3 t4 eb))]))
    obtain ⟨v128, hv128⟩ : ∃ z, z = (own_adv v126 (5 : Int32) t0 t1 t2 t3 t4 eb) := ⟨_, rfl⟩
    rw [← hv128]
    have hnv128 : ¬ v128 < 0 := by rw [hv128]; exact own_adv_nn hnv126 (by decide)
    show OGo _ _ _ _ (T127.setTop (mkF m 281 #[.val (.long qa), .second, .val (.long qb), .second, .val (.long ea), .second, .val (.long eb), .second, .val (.long pz), .second, .val (.int mask), .val (.ref b1), .val (.ref b17), .val (.long (own_x (1 : Int32) (4 : Int32) pz)), .second, .val (.int (own_h (1 : Int32) (4 : Int32))), .val (.long (own_x dc (5 : Int32) pz)), .second, .val (.int (own_h dc (5 : Int32))), .val (.int (1 : Int32)), .unset, .unset, .unset, .unset, .unset] [(.int v128)]))
    refine OGo.via (fun _ k => XS.iconst X127.here hx rfl (hb hby at_281) (XS.aload X127.here hx rfl (hb hby at_282) rfl rfl (XS.lload X127.here hx rfl (hb hby at_284) rfl k))) ?_
    obtain ⟨_, T129, Lc129, X129, hQ129, st129⟩ := own_open X127 (Jvm.LawKit.callS X127 hx (y := own_y7) hown (mvT hZ (own_w hw 60 rfl)) (mvT hZ (own_w hw 61 rfl)) (mvT hZ (own_w hw 62 rfl)) (mvT hZ (own_w hw 63 rfl)) (by decide) (backOf (W := 0) (rm9 l Z a0 hw [] v128 (5 : Int32) b1 eb ka1 t0 t1 t2 t3 t4 T109.heap n0 (Nat.le_trans Z0 K109.1) f113 hnv128 (by decide)) hZ (own_w hw 63 rfl) (own_w hw 62 rfl) (by decide) (by decide)) (g := (mkF m 286 #[.val (.long qa), .second, .val (.long qb), .second, .val (.long ea), .second, .val (.long eb), .second, .val (.long pz), .second, .val (.int mask), .val (.ref b1), .val (.ref b17), .val (.long (own_x (1 : Int32) (4 : Int32) pz)), .second, .val (.int (own_h (1 : Int32) (4 : Int32))), .val (.long (own_x dc (5 : Int32) pz)), .second, .val (.int (own_h dc (5 : Int32))), .val (.int (1 : Int32)), .unset, .unset, .unset, .unset, .unset] [(.long eb), (.ref b1), (.int (5 : Int32)), (.int v128)])) rfl (by rw [hml]; rfl) (argsL := [(.int v128), (.int (5 : Int32)), (.ref b1), (.long eb)]) (rest := []) (lenOf pd_7 rfl) rfl (by show 2 * 0 + _ ≤ _; exact Nat.le_of_eq rfl) (hb hby at_286) (fun _ _ => ⟨rfl, r127_0, (by decide : 4 + 0 ≤ _), (by decide : 20 + 0 ≤ _)⟩))
    obtain ⟨rfl, N129q, r129_0⟩ := hQ129
    have N129 := Fr.app N127 N129q
    refine OGo.via st129 ?_
    show OGo _ _ _ _ (T129.setTop (mkF m 289 #[.val (.long qa), .second, .val (.long qb), .second, .val (.long ea), .second, .val (.long eb), .second, .val (.long pz), .second, .val (.int mask), .val (.ref b1), .val (.ref b17), .val (.long (own_x (1 : Int32) (4 : Int32) pz)), .second, .val (.int (own_h (1 : Int32) (4 : Int32))), .val (.long (own_x dc (5 : Int32) pz)), .second, .val (.int (own_h dc (5 : Int32))), .val (.int (1 : Int32)), .unset, .unset, .unset, .unset, .unset] [(.int (own_adv v128 (5 : Int32) t0 t1 t2 t3 t4 eb))]))
    obtain ⟨v130, hv130⟩ : ∃ z, z = (own_adv v128 (5 : Int32) t0 t1 t2 t3 t4 eb) := ⟨_, rfl⟩
    rw [← hv130]
    have hnv130 : ¬ v130 < 0 := by rw [hv130]; exact own_adv_nn hnv128 (by decide)
    show OGo _ _ _ _ (T129.setTop (mkF m 289 #[.val (.long qa), .second, .val (.long qb), .second, .val (.long ea), .second, .val (.long eb), .second, .val (.long pz), .second, .val (.int mask), .val (.ref b1), .val (.ref b17), .val (.long (own_x (1 : Int32) (4 : Int32) pz)), .second, .val (.int (own_h (1 : Int32) (4 : Int32))), .val (.long (own_x dc (5 : Int32) pz)), .second, .val (.int (own_h dc (5 : Int32))), .val (.int (1 : Int32)), .unset, .unset, .unset, .unset, .unset] [(.int v130)]))
    have hd2 : v130 = dc := by rw [hv130, hv128, hv126, hv124, hv122]; exact hdc.symm
    rw [hd2]
    show OGo _ _ _ _ (T129.setTop (mkF m 289 #[.val (.long qa), .second, .val (.long qb), .second, .val (.long ea), .second, .val (.long eb), .second, .val (.long pz), .second, .val (.int mask), .val (.ref b1), .val (.ref b17), .val (.long (own_x (1 : Int32) (4 : Int32) pz)), .second, .val (.int (own_h (1 : Int32) (4 : Int32))), .val (.long (own_x dc (5 : Int32) pz)), .second, .val (.int (own_h dc (5 : Int32))), .val (.int (1 : Int32)), .unset, .unset, .unset, .unset, .unset] [(.int dc)]))
    refine OGo.via (fun _ k => XS.istore X129.here hx rfl (hb hby at_289) rfl (l' := #[.val (.long qa), .second, .val (.long qb), .second, .val (.long ea), .second, .val (.long eb), .second, .val (.long pz), .second, .val (.int mask), .val (.ref b1), .val (.ref b17), .val (.long (own_x (1 : Int32) (4 : Int32) pz)), .second, .val (.int (own_h (1 : Int32) (4 : Int32))), .val (.long (own_x dc (5 : Int32) pz)), .second, .val (.int (own_h dc (5 : Int32))), .val (.int (1 : Int32)), .val (.int dc), .unset, .unset, .unset, .unset]) rfl (XS.iload X129.here hx rfl (hb hby at_291) rfl (XS.iconst X129.here hx rfl (hb hby at_293) k))) ?_
    refine OGo.via (fun _ k => XS.icmpYes X129.here hx rfl (pc0 := 294) (pc' := 303) rfl (hb hby at_294) rfl (feq (by decide : ¬ ((1 : Int32) = (4 : Int32)))).2 (by decide) (by decide) k) ?_
    show OGo _ _ _ _ (T129.setTop (mkF m 303 #[.val (.long qa), .second, .val (.long qb), .second, .val (.long ea), .second, .val (.long eb), .second, .val (.long pz), .second, .val (.int mask), .val (.ref b1), .val (.ref b17), .val (.long (own_x (1 : Int32) (4 : Int32) pz)), .second, .val (.int (own_h (1 : Int32) (4 : Int32))), .val (.long (own_x dc (5 : Int32) pz)), .second, .val (.int (own_h dc (5 : Int32))), .val (.int (1 : Int32)), .val (.int dc), .unset, .unset, .unset, .unset] []))
    refine OGo.via (fun _ k => XS.lload X129.here hx rfl (hb hby at_303) rfl (XS.iload X129.here hx rfl (hb hby at_305) rfl (XS.i2l X129.here hx rfl (hb hby at_307) rfl k))) ?_
    show OGo _ _ _ _ (T129.setTop (mkF m 308 #[.val (.long qa), .second, .val (.long qb), .second, .val (.long ea), .second, .val (.long eb), .second, .val (.long pz), .second, .val (.int mask), .val (.ref b1), .val (.ref b17), .val (.long (own_x (1 : Int32) (4 : Int32) pz)), .second, .val (.int (own_h (1 : Int32) (4 : Int32))), .val (.long (own_x dc (5 : Int32) pz)), .second, .val (.int (own_h dc (5 : Int32))), .val (.int (1 : Int32)), .val (.int dc), .unset, .unset, .unset, .unset] [(.long ((1 : Int32).toInt64)), (.long pz)]))
    rw [show ((1 : Int32).toInt64) = (1 : Int64) from by decide]
    refine OGo.via (fun _ k => XS.ladd X129.here hx rfl (hb hby at_308) rfl (XS.lstore X129.here hx rfl (hb hby at_309) rfl (l' := #[.val (.long qa), .second, .val (.long qb), .second, .val (.long ea), .second, .val (.long eb), .second, .val (.long pz), .second, .val (.int mask), .val (.ref b1), .val (.ref b17), .val (.long (own_x (1 : Int32) (4 : Int32) pz)), .second, .val (.int (own_h (1 : Int32) (4 : Int32))), .val (.long (own_x dc (5 : Int32) pz)), .second, .val (.int (own_h dc (5 : Int32))), .val (.int (1 : Int32)), .val (.int dc), .val (.long (pz + (1 : Int64))), .second, .unset, .unset]) rfl (XS.iload X129.here hx rfl (hb hby at_311) rfl (XS.iconst X129.here hx rfl (hb hby at_313) k)))) ?_
    by_cases hc314_132 : dc = (5 : Int32)
    · refine OGo.via (fun _ k => XS.icmpNo X129.here hx rfl (hb hby at_314) rfl (teq hc314_132).2 k) ?_
      show OGo _ _ _ _ (T129.setTop (mkF m 317 #[.val (.long qa), .second, .val (.long qb), .second, .val (.long ea), .second, .val (.long eb), .second, .val (.long pz), .second, .val (.int mask), .val (.ref b1), .val (.ref b17), .val (.long (own_x (1 : Int32) (4 : Int32) pz)), .second, .val (.int (own_h (1 : Int32) (4 : Int32))), .val (.long (own_x dc (5 : Int32) pz)), .second, .val (.int (own_h dc (5 : Int32))), .val (.int (1 : Int32)), .val (.int dc), .val (.long (pz + (1 : Int64))), .second, .unset, .unset] []))
      refine OGo.via (X129.ldc2Long hx hown (mvT hZ (own_w hw 64 rfl)) (g := (mkF m 317 #[.val (.long qa), .second, .val (.long qb), .second, .val (.long ea), .second, .val (.long eb), .second, .val (.long pz), .second, .val (.int mask), .val (.ref b1), .val (.ref b17), .val (.long (own_x (1 : Int32) (4 : Int32) pz)), .second, .val (.int (own_h (1 : Int32) (4 : Int32))), .val (.long (own_x dc (5 : Int32) pz)), .second, .val (.int (own_h dc (5 : Int32))), .val (.int (1 : Int32)), .val (.int dc), .val (.long (pz + (1 : Int64))), .second, .unset, .unset] [])) rfl (hb hby at_317)) ?_
      show OGo _ _ _ _ (T129.setTop (mkF m 320 #[.val (.long qa), .second, .val (.long qb), .second, .val (.long ea), .second, .val (.long eb), .second, .val (.long pz), .second, .val (.int mask), .val (.ref b1), .val (.ref b17), .val (.long (own_x (1 : Int32) (4 : Int32) pz)), .second, .val (.int (own_h (1 : Int32) (4 : Int32))), .val (.long (own_x dc (5 : Int32) pz)), .second, .val (.int (own_h dc (5 : Int32))), .val (.int (1 : Int32)), .val (.int dc), .val (.long (pz + (1 : Int64))), .second, .unset, .unset] [(.long (9223372036854775807 : Int64))]))
      refine OGo.via (fun _ k => XS.goto X129.here hx rfl (pc0 := 320) (pc' := 329) rfl (hb hby at_320) (by decide) (by decide) (XS.lstore X129.here hx rfl (hb hby at_329) rfl (l' := #[.val (.long qa), .second, .val (.long qb), .second, .val (.long ea), .second, .val (.long eb), .second, .val (.long pz), .second, .val (.int mask), .val (.ref b1), .val (.ref b17), .val (.long (own_x (1 : Int32) (4 : Int32) pz)), .second, .val (.int (own_h (1 : Int32) (4 : Int32))), .val (.long (own_x dc (5 : Int32) pz)), .second, .val (.int (own_h dc (5 : Int32))), .val (.int (1 : Int32)), .val (.int dc), .val (.long (pz + (1 : Int64))), .second, .val (.long (9223372036854775807 : Int64)), .second]) rfl (XS.lload X129.here hx rfl (hb hby at_331) rfl (XS.lload X129.here hx rfl (hb hby at_333) rfl (XS.lcmp X129.here hx rfl (hb hby at_335) rfl k))))) ?_
      refine OGo.via (fun _ k => XS.ifNo X129.here hx rfl (hb hby at_336) rfl ((if0 _ _).trans (teq ((lw_eq _ _).mpr (own_xn (by decide)) : (lcmpW (own_x (1 : Int32) (4 : Int32) pz) (pz + (1 : Int64))) = (0 : Int32))).2) k) ?_
      show OGo _ _ _ _ (T129.setTop (mkF m 339 #[.val (.long qa), .second, .val (.long qb), .second, .val (.long ea), .second, .val (.long eb), .second, .val (.long pz), .second, .val (.int mask), .val (.ref b1), .val (.ref b17), .val (.long (own_x (1 : Int32) (4 : Int32) pz)), .second, .val (.int (own_h (1 : Int32) (4 : Int32))), .val (.long (own_x dc (5 : Int32) pz)), .second, .val (.int (own_h dc (5 : Int32))), .val (.int (1 : Int32)), .val (.int dc), .val (.long (pz + (1 : Int64))), .second, .val (.long (9223372036854775807 : Int64)), .second] []))
      refine OGo.via (fun _ k => XS.iload X129.here hx rfl (hb hby at_339) rfl (XS.iconst X129.here hx rfl (hb hby at_341) (XS.iload X129.here hx rfl (hb hby at_342) rfl (XS.isub X129.here hx rfl (hb hby at_344) rfl k)))) ?_
      show OGo _ _ _ _ (T129.setTop (mkF m 345 #[.val (.long qa), .second, .val (.long qb), .second, .val (.long ea), .second, .val (.long eb), .second, .val (.long pz), .second, .val (.int mask), .val (.ref b1), .val (.ref b17), .val (.long (own_x (1 : Int32) (4 : Int32) pz)), .second, .val (.int (own_h (1 : Int32) (4 : Int32))), .val (.long (own_x dc (5 : Int32) pz)), .second, .val (.int (own_h dc (5 : Int32))), .val (.int (1 : Int32)), .val (.int dc), .val (.long (pz + (1 : Int64))), .second, .val (.long (9223372036854775807 : Int64)), .second] [(.int ((4 : Int32) - (1 : Int32))), (.int (own_h (1 : Int32) (4 : Int32)))]))
      rw [show ((4 : Int32) - (1 : Int32)) = (3 : Int32) from by decide]
      refine OGo.via (fun _ k => XS.icmpNo X129.here hx rfl (hb hby at_345) rfl (teq (rfl : (own_h (1 : Int32) (4 : Int32)) = (3 : Int32))).2 k) ?_
      show OGo _ _ _ _ (T129.setTop (mkF m 348 #[.val (.long qa), .second, .val (.long qb), .second, .val (.long ea), .second, .val (.long eb), .second, .val (.long pz), .second, .val (.int mask), .val (.ref b1), .val (.ref b17), .val (.long (own_x (1 : Int32) (4 : Int32) pz)), .second, .val (.int (own_h (1 : Int32) (4 : Int32))), .val (.long (own_x dc (5 : Int32) pz)), .second, .val (.int (own_h dc (5 : Int32))), .val (.int (1 : Int32)), .val (.int dc), .val (.long (pz + (1 : Int64))), .second, .val (.long (9223372036854775807 : Int64)), .second] []))
      refine OGo.via (fun _ k => XS.lload X129.here hx rfl (hb hby at_348) rfl (XS.lload X129.here hx rfl (hb hby at_350) rfl (XS.lcmp X129.here hx rfl (hb hby at_352) rfl k))) ?_
      refine OGo.via (fun _ k => XS.ifNo X129.here hx rfl (hb hby at_353) rfl ((if0 _ _).trans (teq ((lw_eq _ _).mpr (own_xy hc314_132) : (lcmpW (own_x dc (5 : Int32) pz) (9223372036854775807 : Int64)) = (0 : Int32))).2) k) ?_
      show OGo _ _ _ _ (T129.setTop (mkF m 356 #[.val (.long qa), .second, .val (.long qb), .second, .val (.long ea), .second, .val (.long eb), .second, .val (.long pz), .second, .val (.int mask), .val (.ref b1), .val (.ref b17), .val (.long (own_x (1 : Int32) (4 : Int32) pz)), .second, .val (.int (own_h (1 : Int32) (4 : Int32))), .val (.long (own_x dc (5 : Int32) pz)), .second, .val (.int (own_h dc (5 : Int32))), .val (.int (1 : Int32)), .val (.int dc), .val (.long (pz + (1 : Int64))), .second, .val (.long (9223372036854775807 : Int64)), .second] []))
      refine OGo.via (fun _ k => XS.iload X129.here hx rfl (hb hby at_356) rfl (XS.iconst X129.here hx rfl (hb hby at_358) (XS.iload X129.here hx rfl (hb hby at_359) rfl (XS.isub X129.here hx rfl (hb hby at_361) rfl k)))) ?_
      refine OGo.via (fun _ k => XS.icmpNo X129.here hx rfl (hb hby at_362) rfl (teq (rfl : (own_h dc (5 : Int32)) = ((5 : Int32) - dc))).2 k) ?_
      show OGo _ _ _ _ (T129.setTop (mkF m 365 #[.val (.long qa), .second, .val (.long qb), .second, .val (.long ea), .second, .val (.long eb), .second, .val (.long pz), .second, .val (.int mask), .val (.ref b1), .val (.ref b17), .val (.long (own_x (1 : Int32) (4 : Int32) pz)), .second, .val (.int (own_h (1 : Int32) (4 : Int32))), .val (.long (own_x dc (5 : Int32) pz)), .second, .val (.int (own_h dc (5 : Int32))), .val (.int (1 : Int32)), .val (.int dc), .val (.long (pz + (1 : Int64))), .second, .val (.long (9223372036854775807 : Int64)), .second] []))
      refine OGo.via (fun _ k => XS.iconst X129.here hx rfl (hb hby at_365) (XS.goto X129.here hx rfl (pc0 := 366) (pc' := 370) rfl (hb hby at_366) (by decide) (by decide) k)) ?_
      show OGo _ _ _ _ (T129.setTop (mkF m 370 #[.val (.long qa), .second, .val (.long qb), .second, .val (.long ea), .second, .val (.long eb), .second, .val (.long pz), .second, .val (.int mask), .val (.ref b1), .val (.ref b17), .val (.long (own_x (1 : Int32) (4 : Int32) pz)), .second, .val (.int (own_h (1 : Int32) (4 : Int32))), .val (.long (own_x dc (5 : Int32) pz)), .second, .val (.int (own_h dc (5 : Int32))), .val (.int (1 : Int32)), .val (.int dc), .val (.long (pz + (1 : Int64))), .second, .val (.long (9223372036854775807 : Int64)), .second] [(.int (1 : Int32))]))
      refine own_retN (t := .boolean) (by simp) X129 hx Bd.notSynchronized Bd.returns (hb hby at_370) (by decide) (by decide) ?_
      show Q_rm0 Z _ _ _ _ _ _ _ _ h0 n0 _ T129.heap _
      rw [r129_0]
      exact ⟨rfl, N129⟩
    · refine OGo.via (fun _ k => XS.icmpYes X129.here hx rfl (pc0 := 314) (pc' := 323) rfl (hb hby at_314) rfl (feq hc314_132).2 (by decide) (by decide) k) ?_
      show OGo _ _ _ _ (T129.setTop (mkF m 323 #[.val (.long qa), .second, .val (.long qb), .second, .val (.long ea), .second, .val (.long eb), .second, .val (.long pz), .second, .val (.int mask), .val (.ref b1), .val (.ref b17), .val (.long (own_x (1 : Int32) (4 : Int32) pz)), .second, .val (.int (own_h (1 : Int32) (4 : Int32))), .val (.long (own_x dc (5 : Int32) pz)), .second, .val (.int (own_h dc (5 : Int32))), .val (.int (1 : Int32)), .val (.int dc), .val (.long (pz + (1 : Int64))), .second, .unset, .unset] []))
      refine OGo.via (fun _ k => XS.lload X129.here hx rfl (hb hby at_323) rfl (XS.iload X129.here hx rfl (hb hby at_325) rfl (XS.i2l X129.here hx rfl (hb hby at_327) rfl (XS.ladd X129.here hx rfl (hb hby at_328) rfl (XS.lstore X129.here hx rfl (hb hby at_329) rfl (l' := #[.val (.long qa), .second, .val (.long qb), .second, .val (.long ea), .second, .val (.long eb), .second, .val (.long pz), .second, .val (.int mask), .val (.ref b1), .val (.ref b17), .val (.long (own_x (1 : Int32) (4 : Int32) pz)), .second, .val (.int (own_h (1 : Int32) (4 : Int32))), .val (.long (own_x dc (5 : Int32) pz)), .second, .val (.int (own_h dc (5 : Int32))), .val (.int (1 : Int32)), .val (.int dc), .val (.long (pz + (1 : Int64))), .second, .val (.long (pz + (dc.toInt64))), .second]) rfl (XS.lload X129.here hx rfl (hb hby at_331) rfl (XS.lload X129.here hx rfl (hb hby at_333) rfl (XS.lcmp X129.here hx rfl (hb hby at_335) rfl k)))))))) ?_
      show OGo _ _ _ _ (T129.setTop (mkF m 336 #[.val (.long qa), .second, .val (.long qb), .second, .val (.long ea), .second, .val (.long eb), .second, .val (.long pz), .second, .val (.int mask), .val (.ref b1), .val (.ref b17), .val (.long (own_x (1 : Int32) (4 : Int32) pz)), .second, .val (.int (own_h (1 : Int32) (4 : Int32))), .val (.long (own_x dc (5 : Int32) pz)), .second, .val (.int (own_h dc (5 : Int32))), .val (.int (1 : Int32)), .val (.int dc), .val (.long (pz + (1 : Int64))), .second, .val (.long (pz + (dc.toInt64))), .second] [(.int (lcmpW (own_x (1 : Int32) (4 : Int32) pz) (pz + (1 : Int64))))]))
      refine OGo.via (fun _ k => XS.ifNo X129.here hx rfl (hb hby at_336) rfl ((if0 _ _).trans (teq ((lw_eq _ _).mpr (own_xn (by decide)) : (lcmpW (own_x (1 : Int32) (4 : Int32) pz) (pz + (1 : Int64))) = (0 : Int32))).2) k) ?_
      show OGo _ _ _ _ (T129.setTop (mkF m 339 #[.val (.long qa), .second, .val (.long qb), .second, .val (.long ea), .second, .val (.long eb), .second, .val (.long pz), .second, .val (.int mask), .val (.ref b1), .val (.ref b17), .val (.long (own_x (1 : Int32) (4 : Int32) pz)), .second, .val (.int (own_h (1 : Int32) (4 : Int32))), .val (.long (own_x dc (5 : Int32) pz)), .second, .val (.int (own_h dc (5 : Int32))), .val (.int (1 : Int32)), .val (.int dc), .val (.long (pz + (1 : Int64))), .second, .val (.long (pz + (dc.toInt64))), .second] []))
      refine OGo.via (fun _ k => XS.iload X129.here hx rfl (hb hby at_339) rfl (XS.iconst X129.here hx rfl (hb hby at_341) (XS.iload X129.here hx rfl (hb hby at_342) rfl (XS.isub X129.here hx rfl (hb hby at_344) rfl k)))) ?_
      show OGo _ _ _ _ (T129.setTop (mkF m 345 #[.val (.long qa), .second, .val (.long qb), .second, .val (.long ea), .second, .val (.long eb), .second, .val (.long pz), .second, .val (.int mask), .val (.ref b1), .val (.ref b17), .val (.long (own_x (1 : Int32) (4 : Int32) pz)), .second, .val (.int (own_h (1 : Int32) (4 : Int32))), .val (.long (own_x dc (5 : Int32) pz)), .second, .val (.int (own_h dc (5 : Int32))), .val (.int (1 : Int32)), .val (.int dc), .val (.long (pz + (1 : Int64))), .second, .val (.long (pz + (dc.toInt64))), .second] [(.int ((4 : Int32) - (1 : Int32))), (.int (own_h (1 : Int32) (4 : Int32)))]))
      rw [show ((4 : Int32) - (1 : Int32)) = (3 : Int32) from by decide]
      refine OGo.via (fun _ k => XS.icmpNo X129.here hx rfl (hb hby at_345) rfl (teq (rfl : (own_h (1 : Int32) (4 : Int32)) = (3 : Int32))).2 k) ?_
      show OGo _ _ _ _ (T129.setTop (mkF m 348 #[.val (.long qa), .second, .val (.long qb), .second, .val (.long ea), .second, .val (.long eb), .second, .val (.long pz), .second, .val (.int mask), .val (.ref b1), .val (.ref b17), .val (.long (own_x (1 : Int32) (4 : Int32) pz)), .second, .val (.int (own_h (1 : Int32) (4 : Int32))), .val (.long (own_x dc (5 : Int32) pz)), .second, .val (.int (own_h dc (5 : Int32))), .val (.int (1 : Int32)), .val (.int dc), .val (.long (pz + (1 : Int64))), .second, .val (.long (pz + (dc.toInt64))), .second] []))
      refine OGo.via (fun _ k => XS.lload X129.here hx rfl (hb hby at_348) rfl (XS.lload X129.here hx rfl (hb hby at_350) rfl (XS.lcmp X129.here hx rfl (hb hby at_352) rfl k))) ?_
      refine OGo.via (fun _ k => XS.ifNo X129.here hx rfl (hb hby at_353) rfl ((if0 _ _).trans (teq ((lw_eq _ _).mpr (own_xn hc314_132) : (lcmpW (own_x dc (5 : Int32) pz) (pz + (dc.toInt64))) = (0 : Int32))).2) k) ?_
      show OGo _ _ _ _ (T129.setTop (mkF m 356 #[.val (.long qa), .second, .val (.long qb), .second, .val (.long ea), .second, .val (.long eb), .second, .val (.long pz), .second, .val (.int mask), .val (.ref b1), .val (.ref b17), .val (.long (own_x (1 : Int32) (4 : Int32) pz)), .second, .val (.int (own_h (1 : Int32) (4 : Int32))), .val (.long (own_x dc (5 : Int32) pz)), .second, .val (.int (own_h dc (5 : Int32))), .val (.int (1 : Int32)), .val (.int dc), .val (.long (pz + (1 : Int64))), .second, .val (.long (pz + (dc.toInt64))), .second] []))
      refine OGo.via (fun _ k => XS.iload X129.here hx rfl (hb hby at_356) rfl (XS.iconst X129.here hx rfl (hb hby at_358) (XS.iload X129.here hx rfl (hb hby at_359) rfl (XS.isub X129.here hx rfl (hb hby at_361) rfl k)))) ?_
      refine OGo.via (fun _ k => XS.icmpNo X129.here hx rfl (hb hby at_362) rfl (teq (rfl : (own_h dc (5 : Int32)) = ((5 : Int32) - dc))).2 k) ?_
      show OGo _ _ _ _ (T129.setTop (mkF m 365 #[.val (.long qa), .second, .val (.long qb), .second, .val (.long ea), .second, .val (.long eb), .second, .val (.long pz), .second, .val (.int mask), .val (.ref b1), .val (.ref b17), .val (.long (own_x (1 : Int32) (4 : Int32) pz)), .second, .val (.int (own_h (1 : Int32) (4 : Int32))), .val (.long (own_x dc (5 : Int32) pz)), .second, .val (.int (own_h dc (5 : Int32))), .val (.int (1 : Int32)), .val (.int dc), .val (.long (pz + (1 : Int64))), .second, .val (.long (pz + (dc.toInt64))), .second] []))
      refine OGo.via (fun _ k => XS.iconst X129.here hx rfl (hb hby at_365) (XS.goto X129.here hx rfl (pc0 := 366) (pc' := 370) rfl (hb hby at_366) (by decide) (by decide) k)) ?_
      show OGo _ _ _ _ (T129.setTop (mkF m 370 #[.val (.long qa), .second, .val (.long qb), .second, .val (.long ea), .second, .val (.long eb), .second, .val (.long pz), .second, .val (.int mask), .val (.ref b1), .val (.ref b17), .val (.long (own_x (1 : Int32) (4 : Int32) pz)), .second, .val (.int (own_h (1 : Int32) (4 : Int32))), .val (.long (own_x dc (5 : Int32) pz)), .second, .val (.int (own_h dc (5 : Int32))), .val (.int (1 : Int32)), .val (.int dc), .val (.long (pz + (1 : Int64))), .second, .val (.long (pz + (dc.toInt64))), .second] [(.int (1 : Int32))]))
      refine own_retN (t := .boolean) (by simp) X129 hx Bd.notSynchronized Bd.returns (hb hby at_370) (by decide) (by decide) ?_
      show Q_rm0 Z _ _ _ _ _ _ _ _ h0 n0 _ T129.heap _
      rw [r129_0]
      exact ⟨rfl, N129⟩
  · subst hd
    show OGo _ _ _ _ (T53.setTop (mkF m 178 #[.val (.long qa), .second, .val (.long qb), .second, .val (.long ea), .second, .val (.long eb), .second, .val (.long pz), .second, .val (.int mask), .val (.ref b1), .val (.ref b17), .val (.long (own_x (2 : Int32) (4 : Int32) pz)), .second, .val (.int (own_h (2 : Int32) (4 : Int32))), .unset, .unset, .unset, .unset, .unset, .unset, .unset, .unset, .unset] []))
    have f135 : Fld Z T52.heap b17 "com/example/eventloom/eventloom/engine/Forbidden" "count" "I" (.int (2 : Int32)) := r52_2
    have f136 : Fld Z T52.heap b17 "com/example/eventloom/eventloom/engine/Forbidden" "first" "I" (.int (2 : Int32)) := r52_3
    refine OGo.via (fun _ k => XS.aload X53.here hx rfl (hb hby at_178) rfl rfl (XS.lload X53.here hx rfl (hb hby at_180) rfl k)) ?_
    refine OGo.via (X53.ldc2Long hx hown (mvT hZ (own_w hw 42 rfl)) (g := (mkF m 182 #[.val (.long qa), .second, .val (.long qb), .second, .val (.long ea), .second, .val (.long eb), .second, .val (.long pz), .second, .val (.int mask), .val (.ref b1), .val (.ref b17), .val (.long (own_x (2 : Int32) (4 : Int32) pz)), .second, .val (.int (own_h (2 : Int32) (4 : Int32))), .unset, .unset, .unset, .unset, .unset, .unset, .unset, .unset, .unset] [(.long pz), (.ref b17)])) rfl (hb hby at_182)) ?_
    show OGo _ _ _ _ (T53.setTop (mkF m 185 #[.val (.long qa), .second, .val (.long qb), .second, .val (.long ea), .second, .val (.long eb), .second, .val (.long pz), .second, .val (.int mask), .val (.ref b1), .val (.ref b17), .val (.long (own_x (2 : Int32) (4 : Int32) pz)), .second, .val (.int (own_h (2 : Int32) (4 : Int32))), .unset, .unset, .unset, .unset, .unset, .unset, .unset, .unset, .unset] [(.long (4 : Int64)), (.long pz), (.ref b17)]))
    refine OGo.via (fun _ k => XS.ladd X53.here hx rfl (hb hby at_185) rfl (XS.aload X53.here hx rfl (hb hby at_186) rfl rfl (XS.iconst X53.here hx rfl (hb hby at_188) k))) ?_
    have f138 := f47.keep r48_0 (ninS (Nat.ne_of_lt lt_b1_b17) (ninS (Nat.ne_of_lt lt_b1_pa) (ninS (Nat.ne_of_lt lt_b1_ta) nin0)))
    have f139 := f138.keep r52_0 (ninS (Nat.ne_of_lt lt_b1_b17) nin0)
    obtain ⟨cl137, Ar137, q137, Sz137, Ng137, Hs137, Gf137⟩ := id f139
    have hin137 : ¬ ((4 : Int32) < 0 ∨ cl137.slots.size ≤ ((4 : Int32)).toNatClampNeg) := inb_of Sz137 ⟨by decide, by decide⟩
    have hat137 : cl137.slots[((4 : Int32)).toNatClampNeg]? = some (.long t4) := Hs137.at hin137 rfl
    refine OGo.via (X53.laload hx (j := (4 : Int32)) (v := (.long t4)) (by rw [r53_0]; exact Ar137.1) (State.isArrayOf_alike hZ.alike Ar137.2.1) Ar137.2.2 hin137 hat137 (g := (mkF m 189 #[.val (.long qa), .second, .val (.long qb), .second, .val (.long ea), .second, .val (.long eb), .second, .val (.long pz), .second, .val (.int mask), .val (.ref b1), .val (.ref b17), .val (.long (own_x (2 : Int32) (4 : Int32) pz)), .second, .val (.int (own_h (2 : Int32) (4 : Int32))), .unset, .unset, .unset, .unset, .unset, .unset, .unset, .unset, .unset] [(.int (4 : Int32)), (.ref b1), (.long (pz + (4 : Int64))), (.ref b17)])) rfl rfl (hb hby at_189)) ?_
    show OGo _ _ _ _ (T53.setTop (mkF m 190 #[.val (.long qa), .second, .val (.long qb), .second, .val (.long ea), .second, .val (.long eb), .second, .val (.long pz), .second, .val (.int mask), .val (.ref b1), .val (.ref b17), .val (.long (own_x (2 : Int32) (4 : Int32) pz)), .second, .val (.int (own_h (2 : Int32) (4 : Int32))), .unset, .unset, .unset, .unset, .unset, .unset, .unset, .unset, .unset] [(.long t4), (.long (pz + (4 : Int64))), (.ref b17)]))
    refine OGo.via (X53.ldc2Long hx hown (mvT hZ (own_w hw 16 rfl)) (g := (mkF m 190 #[.val (.long qa), .second, .val (.long qb), .second, .val (.long ea), .second, .val (.long eb), .second, .val (.long pz), .second, .val (.int mask), .val (.ref b1), .val (.ref b17), .val (.long (own_x (2 : Int32) (4 : Int32) pz)), .second, .val (.int (own_h (2 : Int32) (4 : Int32))), .unset, .unset, .unset, .unset, .unset, .unset, .unset, .unset, .unset] [(.long t4), (.long (pz + (4 : Int64))), (.ref b17)])) rfl (hb hby at_190)) ?_
    show OGo _ _ _ _ (T53.setTop (mkF m 193 #[.val (.long qa), .second, .val (.long qb), .second, .val (.long ea), .second, .val (.long eb), .second, .val (.long pz), .second, .val (.int mask), .val (.ref b1), .val (.ref b17), .val (.long (own_x (2 : Int32) (4 : Int32) pz)), .second, .val (.int (own_h (2 : Int32) (4 : Int32))), .unset, .unset, .unset, .unset, .unset, .unset, .unset, .unset, .unset] [(.long (-9223372036854775808 : Int64)), (.long t4), (.long (pz + (4 : Int64))), (.ref b17)]))
    have f141 := f49.keep r52_0 (ninS (Nat.ne_of_gt lt_b17_pa) nin0)
    have f142 := f50.keep r52_0 (ninS (Nat.ne_of_gt lt_b17_ta) nin0)
    obtain ⟨cq140, kq140, q140a, q140b, q140c⟩ := isOf hZ r53_0 r52_1
    obtain ⟨_, T140, Lc140, X140, hQ140, st140⟩ := own_open X53 (X53.virtualBack hx (y := own_y5) (z := own_y5) hown (mvT hZ (own_w hw 17 rfl)) (mvT hZ (own_w hw 18 rfl)) (notFace_of_selects (args := #[]) (mvT hZ (own_w hw 20 rfl))) (mvT hZ (own_w hw 20 rfl)) (mvT hZ (own_w hw 19 rfl)) (by decide) (backOf (W := 0) (rm3p l Z a0 hw [] b17 (pz + (4 : Int64)) t4 (2 : Int32) (2 : Int32) (4 : Int32) pa ta kp kt [(.long pz), (.long (pz + (1 : Int64))), (.long (pz + (2 : Int64))), (.long (pz + (3 : Int64)))] [(.long t0), (.long t1), (.long t2), (.long t3)] ((((1 : Int64) + (1 : Int64)) + (1 : Int64)) + (1 : Int64)) 0 t2 (pz + (2 : Int64)) T52.heap n0 (Nat.le_trans Z0 K52.1) r52_1 r52_4 r52_5 f136 f135 r52_6 f141 f142 (Nat.ne_of_lt lt_b17_pa) (Nat.ne_of_lt lt_b17_ta) (Nat.ne_of_lt r29_3) g_b17 g_pa g_ta (by decide) (by decide) rfl ⟨by decide, by decide⟩ (Nat.le_of_ble_eq_true rfl) (Nat.le_of_ble_eq_true rfl) (by decide) (by decide) ⟨by decide, by decide⟩ rfl rfl) hZ (own_w hw 21 rfl) (own_w hw 3 rfl) (by decide) (by decide)) q140a q140c (g := (mkF m 193 #[.val (.long qa), .second, .val (.long qb), .second, .val (.long ea), .second, .val (.long eb), .second, .val (.long pz), .second, .val (.int mask), .val (.ref b1), .val (.ref b17), .val (.long (own_x (2 : Int32) (4 : Int32) pz)), .second, .val (.int (own_h (2 : Int32) (4 : Int32))), .unset, .unset, .unset, .unset, .unset, .unset, .unset, .unset, .unset] [(.long (-9223372036854775808 : Int64)), (.long t4), (.long (pz + (4 : Int64))), (.ref b17)])) rfl (by rw [hml]; rfl) (Steps.refl _) (argsL := [(.long (pz + (4 : Int64))), (.long t4), (.long (-9223372036854775808 : Int64))]) (rest := []) (lenOf pd_5 rfl) rfl (by show 2 * 0 + _ ≤ _; exact Nat.le_of_eq rfl) (hb hby at_193) (fun _ _ => ⟨rfl, r53_0, (by decide : 4 + 0 ≤ _), (by decide : 20 + 0 ≤ _)⟩))
    obtain ⟨rfl, N140q, r140_0, r140_1, r140_2, r140_3, r140_4, r140_5, r140_6, r140_7, r140_8⟩ := hQ140
    have N140 := Fr.app N53 N140q
    have K140 : Keep h0 T140.heap [] := K52.trans r140_0 (allS (Or.inr sz_b17) (allS (Or.inr sz_pa) (allS (Or.inr sz_ta) all0)))
    refine OGo.via (fun _ k => st140.trans k) ?_
    show OGo _ _ _ _ (T140.setTop (mkF m 196 #[.val (.long qa), .second, .val (.long qb), .second, .val (.long ea), .second, .val (.long eb), .second, .val (.long pz), .second, .val (.int mask), .val (.ref b1), .val (.ref b17), .val (.long (own_x (2 : Int32) (4 : Int32) pz)), .second, .val (.int (own_h (2 : Int32) (4 : Int32))), .unset, .unset, .unset, .unset, .unset, .unset, .unset, .unset, .unset] []))
    have f143 : Arv Z T140.heap pa kp .long (4 : Int32) [(.long (pz + (4 : Int64))), (.long (pz + (1 : Int64))), (.long (pz + (2 : Int64))), (.long (pz + (3 : Int64)))] (.long (0 : Int64)) := r140_7
    have f144 : Arv Z T140.heap ta kt .long (4 : Int32) [(.long t4), (.long t1), (.long t2), (.long t3)] (.long (0 : Int64)) := r140_8
    have f145 : Fld Z T140.heap b17 "com/example/eventloom/eventloom/engine/Forbidden" "count" "I" (.int (3 : Int32)) := r140_5
    refine OGo.via (fun _ k => XS.aload X140.here hx rfl (hb hby at_196) rfl rfl (XS.lload X140.here hx rfl (hb hby at_198) rfl k)) ?_
    obtain ⟨cq146, kq146, q146a, q146b, q146c⟩ := isOf hZ rfl r140_1
    obtain ⟨_, T146, Lc146, X146, hQ146, st146⟩ := own_open X140 (X140.virtualBack hx (y := own_y4) (z := own_y4) hown (mvT hZ (own_w hw 36 rfl)) (mvT hZ (own_w hw 23 rfl)) (notFace_of_selects (args := #[]) (mvT hZ (own_w hw 25 rfl))) (mvT hZ (own_w hw 25 rfl)) (mvT hZ (own_w hw 24 rfl)) (by decide) (backOf (W := 0) (rm4b2 l Z a0 hw [] b17 eb pa ta kp kt (((((1 : Int64) + (1 : Int64)) + (1 : Int64)) + (1 : Int64)) + (1 : Int64)) pz t0 t1 t2 t3 t4 T140.heap n0 (Nat.le_trans Z0 K140.1) r140_1 r140_2 r140_3 r140_4 f145 r140_6 f143 f144 (Nat.ne_of_lt lt_b17_pa) (Nat.ne_of_lt lt_b17_ta) g_b17) hZ (own_w hw 26 rfl) (own_w hw 3 rfl) (by decide) (by decide)) q146a q146c (g := (mkF m 200 #[.val (.long qa), .second, .val (.long qb), .second, .val (.long ea), .second, .val (.long eb), .second, .val (.long pz), .second, .val (.int mask), .val (.ref b1), .val (.ref b17), .val (.long (own_x (2 : Int32) (4 : Int32) pz)), .second, .val (.int (own_h (2 : Int32) (4 : Int32))), .unset, .unset, .unset, .unset, .unset, .unset, .unset, .unset, .unset] [(.long eb), (.ref b17)])) rfl (by rw [hml]; rfl) (Steps.refl _) (argsL := [(.long eb)]) (rest := []) (lenOf pd_2 rfl) rfl (by show 2 * 0 + _ ≤ _; exact Nat.le_of_eq rfl) (hb hby at_200) (fun _ _ => ⟨rfl, rfl, (by decide : 4 + 0 ≤ _), (by decide : 20 + 0 ≤ _)⟩))
    obtain ⟨rfl, N146q, r146_0, r146_1, r146_2⟩ := hQ146
    have N146 := Fr.app N140 N146q
    have K146 : Keep h0 T146.heap [] := K140.trans r146_0 (allS (Or.inr sz_b17) all0)
    refine OGo.via (fun _ k => st146.trans k) ?_
    show OGo _ _ _ _ (T146.setTop (mkF m 203 #[.val (.long qa), .second, .val (.long qb), .second, .val (.long ea), .second, .val (.long eb), .second, .val (.long pz), .second, .val (.int mask), .val (.ref b1), .val (.ref b17), .val (.long (own_x (2 : Int32) (4 : Int32) pz)), .second, .val (.int (own_h (2 : Int32) (4 : Int32))), .unset, .unset, .unset, .unset, .unset, .unset, .unset, .unset, .unset] [(.long (own_x (own_adv (own_adv (own_adv (own_adv (own_adv (2 : Int32) (5 : Int32) t0 t1 t2 t3 t4 eb) (5 : Int32) t0 t1 t2 t3 t4 eb) (5 : Int32) t0 t1 t2 t3 t4 eb) (5 : Int32) t0 t1 t2 t3 t4 eb) (5 : Int32) t0 t1 t2 t3 t4 eb) (5 : Int32) pz))]))
    show OGo _ _ _ _ (T146.setTop (mkF m 203 #[.val (.long qa), .second, .val (.long qb), .second, .val (.long ea), .second, .val (.long eb), .second, .val (.long pz), .second, .val (.int mask), .val (.ref b1), .val (.ref b17), .val (.long (own_x (2 : Int32) (4 : Int32) pz)), .second, .val (.int (own_h (2 : Int32) (4 : Int32))), .unset, .unset, .unset, .unset, .unset, .unset, .unset, .unset, .unset] [(.long (own_x (own_adv (own_adv (own_adv (own_adv (own_adv (2 : Int32) (5 : Int32) t0 t1 t2 t3 t4 eb) (5 : Int32) t0 t1 t2 t3 t4 eb) (5 : Int32) t0 t1 t2 t3 t4 eb) (5 : Int32) t0 t1 t2 t3 t4 eb) (5 : Int32) t0 t1 t2 t3 t4 eb) (5 : Int32) pz))]))
    obtain ⟨dc, hdc⟩ : ∃ z, z = (own_adv (own_adv (own_adv (own_adv (own_adv (2 : Int32) (5 : Int32) t0 t1 t2 t3 t4 eb) (5 : Int32) t0 t1 t2 t3 t4 eb) (5 : Int32) t0 t1 t2 t3 t4 eb) (5 : Int32) t0 t1 t2 t3 t4 eb) (5 : Int32) t0 t1 t2 t3 t4 eb) := ⟨_, rfl⟩
    rw [← hdc]
    rw [← hdc] at r146_2
    show OGo _ _ _ _ (T146.setTop (mkF m 203 #[.val (.long qa), .second, .val (.long qb), .second, .val (.long ea), .second, .val (.long eb), .second, .val (.long pz), .second, .val (.int mask), .val (.ref b1), .val (.ref b17), .val (.long (own_x (2 : Int32) (4 : Int32) pz)), .second, .val (.int (own_h (2 : Int32) (4 : Int32))), .unset, .unset, .unset, .unset, .unset, .unset, .unset, .unset, .unset] [(.long (own_x dc (5 : Int32) pz))]))
    refine OGo.via (fun _ k => XS.lstore X146.here hx rfl (hb hby at_203) rfl (l' := #[.val (.long qa), .second, .val (.long qb), .second, .val (.long ea), .second, .val (.long eb), .second, .val (.long pz), .second, .val (.int mask), .val (.ref b1), .val (.ref b17), .val (.long (own_x (2 : Int32) (4 : Int32) pz)), .second, .val (.int (own_h (2 : Int32) (4 : Int32))), .val (.long (own_x dc (5 : Int32) pz)), .second, .unset, .unset, .unset, .unset, .unset, .unset, .unset]) rfl (XS.aload X146.here hx rfl (hb hby at_205) rfl rfl k)) ?_
    obtain ⟨cq147, kq147, q147a, q147b, q147c⟩ := isOf hZ rfl r146_1
    obtain ⟨_, T147, Lc147, X147, hQ147, st147⟩ := own_open X146 (X146.virtualBack hx (y := own_y6) (z := own_y6) hown (mvT hZ (own_w hw 37 rfl)) (mvT hZ (own_w hw 38 rfl)) (notFace_of_selects (args := #[]) (mvT hZ (own_w hw 40 rfl))) (mvT hZ (own_w hw 40 rfl)) (mvT hZ (own_w hw 39 rfl)) (by decide) (backOf (W := 0) (rm5 l Z a0 hw [] b17 (own_h dc (5 : Int32)) T146.heap n0 (Nat.le_trans Z0 K146.1) r146_2) hZ (own_w hw 41 rfl) (own_w hw 3 rfl) (by decide) (by decide)) q147a q147c (g := (mkF m 207 #[.val (.long qa), .second, .val (.long qb), .second, .val (.long ea), .second, .val (.long eb), .second, .val (.long pz), .second, .val (.int mask), .val (.ref b1), .val (.ref b17), .val (.long (own_x (2 : Int32) (4 : Int32) pz)), .second, .val (.int (own_h (2 : Int32) (4 : Int32))), .val (.long (own_x dc (5 : Int32) pz)), .second, .unset, .unset, .unset, .unset, .unset, .unset, .unset] [(.ref b17)])) rfl (by rw [hml]; rfl) (Steps.refl _) (argsL := []) (rest := []) (lenOf pd_6 rfl) rfl (by show 2 * 0 + _ ≤ _; exact Nat.le_of_eq rfl) (hb hby at_207) (fun _ _ => ⟨rfl, rfl, (by decide : 4 + 0 ≤ _), (by decide : 20 + 0 ≤ _)⟩))
    obtain ⟨rfl, N147q, r147_0⟩ := hQ147
    have N147 := Fr.app N146 N147q
    refine OGo.via (fun _ k => st147.trans k) ?_
    show OGo _ _ _ _ (T147.setTop (mkF m 210 #[.val (.long qa), .second, .val (.long qb), .second, .val (.long ea), .second, .val (.long eb), .second, .val (.long pz), .second, .val (.int mask), .val (.ref b1), .val (.ref b17), .val (.long (own_x (2 : Int32) (4 : Int32) pz)), .second, .val (.int (own_h (2 : Int32) (4 : Int32))), .val (.long (own_x dc (5 : Int32) pz)), .second, .unset, .unset, .unset, .unset, .unset, .unset, .unset] [(.int (own_h dc (5 : Int32)))]))
    refine OGo.via (fun _ k => XS.istore X147.here hx rfl (hb hby at_210) rfl (l' := #[.val (.long qa), .second, .val (.long qb), .second, .val (.long ea), .second, .val (.long eb), .second, .val (.long pz), .second, .val (.int mask), .val (.ref b1), .val (.ref b17), .val (.long (own_x (2 : Int32) (4 : Int32) pz)), .second, .val (.int (own_h (2 : Int32) (4 : Int32))), .val (.long (own_x dc (5 : Int32) pz)), .second, .val (.int (own_h dc (5 : Int32))), .unset, .unset, .unset, .unset, .unset, .unset]) rfl (XS.iconst X147.here hx rfl (hb hby at_212) (XS.iconst X147.here hx rfl (hb hby at_213) (XS.aload X147.here hx rfl (hb hby at_214) rfl rfl (XS.lload X147.here hx rfl (hb hby at_216) rfl k))))) ?_
    have f149 := f139.keep r140_0 (ninS (Nat.ne_of_lt lt_b1_b17) (ninS (Nat.ne_of_lt lt_b1_pa) (ninS (Nat.ne_of_lt lt_b1_ta) nin0)))
    have f150 := f149.keep r146_0 (ninS (Nat.ne_of_lt lt_b1_b17) nin0)
    obtain ⟨_, T148, Lc148, X148, hQ148, st148⟩ := own_open X147 (Jvm.LawKit.callS X147 hx (y := own_y7) hown (mvT hZ (own_w hw 60 rfl)) (mvT hZ (own_w hw 61 rfl)) (mvT hZ (own_w hw 62 rfl)) (mvT hZ (own_w hw 63 rfl)) (by decide) (backOf (W := 0) (rm9 l Z a0 hw [] (0 : Int32) (4 : Int32) b1 ea ka1 t0 t1 t2 t3 t4 T146.heap n0 (Nat.le_trans Z0 K146.1) f150 (by decide) (by decide)) hZ (own_w hw 63 rfl) (own_w hw 62 rfl) (by decide) (by decide)) (g := (mkF m 218 #[.val (.long qa), .second, .val (.long qb), .second, .val (.long ea), .second, .val (.long eb), .second, .val (.long pz), .second, .val (.int mask), .val (.ref b1), .val (.ref b17), .val (.long (own_x (2 : Int32) (4 : Int32) pz)), .second, .val (.int (own_h (2 : Int32) (4 : Int32))), .val (.long (own_x dc (5 : Int32) pz)), .second, .val (.int (own_h dc (5 : Int32))), .unset, .unset, .unset, .unset, .unset, .unset] [(.long ea), (.ref b1), (.int (4 : Int32)), (.int (0 : Int32))])) rfl (by rw [hml]; rfl) (argsL := [(.int (0 : Int32)), (.int (4 : Int32)), (.ref b1), (.long ea)]) (rest := []) (lenOf pd_7 rfl) rfl (by show 2 * 0 + _ ≤ _; exact Nat.le_of_eq rfl) (hb hby at_218) (fun _ _ => ⟨rfl, r147_0, (by decide : 4 + 0 ≤ _), (by decide : 20 + 0 ≤ _)⟩))
    obtain ⟨rfl, N148q, r148_0⟩ := hQ148
    have N148 := Fr.app N147 N148q
    refine OGo.via st148 ?_
    show OGo _ _ _ _ (T148.setTop (mkF m 221 #[.val (.long qa), .second, .val (.long qb), .second, .val (.long ea), .second, .val (.long eb), .second, .val (.long pz), .second, .val (.int mask), .val (.ref b1), .val (.ref b17), .val (.long (own_x (2 : Int32) (4 : Int32) pz)), .second, .val (.int (own_h (2 : Int32) (4 : Int32))), .val (.long (own_x dc (5 : Int32) pz)), .second, .val (.int (own_h dc (5 : Int32))), .unset, .unset, .unset, .unset, .unset, .unset] [(.int (own_adv (0 : Int32) (4 : Int32) t0 t1 t2 t3 t4 ea))]))
    obtain ⟨v151, hv151⟩ : ∃ z, z = (own_adv (0 : Int32) (4 : Int32) t0 t1 t2 t3 t4 ea) := ⟨_, rfl⟩
    rw [← hv151]
    have hnv151 : ¬ v151 < 0 := by rw [hv151]; exact own_adv_nn (by decide) (by decide)
    show OGo _ _ _ _ (T148.setTop (mkF m 221 #[.val (.long qa), .second, .val (.long qb), .second, .val (.long ea), .second, .val (.long eb), .second, .val (.long pz), .second, .val (.int mask), .val (.ref b1), .val (.ref b17), .val (.long (own_x (2 : Int32) (4 : Int32) pz)), .second, .val (.int (own_h (2 : Int32) (4 : Int32))), .val (.long (own_x dc (5 : Int32) pz)), .second, .val (.int (own_h dc (5 : Int32))), .unset, .unset, .unset, .unset, .unset, .unset] [(.int v151)]))
    refine OGo.via (fun _ k => XS.iconst X148.here hx rfl (hb hby at_221) (XS.aload X148.here hx rfl (hb hby at_222) rfl rfl (XS.lload X148.here hx rfl (hb hby at_224) rfl k))) ?_
    obtain ⟨_, T152, Lc152, X152, hQ152, st152⟩ := own_open X148 (Jvm.LawKit.callS X148 hx (y := own_y7) hown (mvT hZ (own_w hw 60 rfl)) (mvT hZ (own_w hw 61 rfl)) (mvT hZ (own_w hw 62 rfl)) (mvT hZ (own_w hw 63 rfl)) (by decide) (backOf (W := 0) (rm9 l Z a0 hw [] v151 (4 : Int32) b1 ea ka1 t0 t1 t2 t3 t4 T146.heap n0 (Nat.le_trans Z0 K146.1) f150 hnv151 (by decide)) hZ (own_w hw 63 rfl) (own_w hw 62 rfl) (by decide) (by decide)) (g := (mkF m 226 #[.val (.long qa), .second, .val (.long qb), .second, .val (.long ea), .second, .val (.long eb), .second, .val (.long pz), .second, .val (.int mask), .val (.ref b1), .val (.ref b17), .val (.long (own_x (2 : Int32) (4 : Int32) pz)), .second, .val (.int (own_h (2 : Int32) (4 : Int32))), .val (.long (own_x dc (5 : Int32) pz)), .second, .val (.int (own_h dc (5 : Int32))), .unset, .unset, .unset, .unset, .unset, .unset] [(.long ea), (.ref b1), (.int (4 : Int32)), (.int v151)])) rfl (by rw [hml]; rfl) (argsL := [(.int v151), (.int (4 : Int32)), (.ref b1), (.long ea)]) (rest := []) (lenOf pd_7 rfl) rfl (by show 2 * 0 + _ ≤ _; exact Nat.le_of_eq rfl) (hb hby at_226) (fun _ _ => ⟨rfl, r148_0, (by decide : 4 + 0 ≤ _), (by decide : 20 + 0 ≤ _)⟩))
    obtain ⟨rfl, N152q, r152_0⟩ := hQ152
    have N152 := Fr.app N148 N152q
    refine OGo.via st152 ?_
    show OGo _ _ _ _ (T152.setTop (mkF m 229 #[.val (.long qa), .second, .val (.long qb), .second, .val (.long ea), .second, .val (.long eb), .second, .val (.long pz), .second, .val (.int mask), .val (.ref b1), .val (.ref b17), .val (.long (own_x (2 : Int32) (4 : Int32) pz)), .second, .val (.int (own_h (2 : Int32) (4 : Int32))), .val (.long (own_x dc (5 : Int32) pz)), .second, .val (.int (own_h dc (5 : Int32))), .unset, .unset, .unset, .unset, .unset, .unset] [(.int (own_adv v151 (4 : Int32) t0 t1 t2 t3 t4 ea))]))
    obtain ⟨v153, hv153⟩ : ∃ z, z = (own_adv v151 (4 : Int32) t0 t1 t2 t3 t4 ea) := ⟨_, rfl⟩
    rw [← hv153]
    have hnv153 : ¬ v153 < 0 := by rw [hv153]; exact own_adv_nn hnv151 (by decide)
    show OGo _ _ _ _ (T152.setTop (mkF m 229 #[.val (.long qa), .second, .val (.long qb), .second, .val (.long ea), .second, .val (.long eb), .second, .val (.long pz), .second, .val (.int mask), .val (.ref b1), .val (.ref b17), .val (.long (own_x (2 : Int32) (4 : Int32) pz)), .second, .val (.int (own_h (2 : Int32) (4 : Int32))), .val (.long (own_x dc (5 : Int32) pz)), .second, .val (.int (own_h dc (5 : Int32))), .unset, .unset, .unset, .unset, .unset, .unset] [(.int v153)]))
    refine OGo.via (fun _ k => XS.iconst X152.here hx rfl (hb hby at_229) (XS.aload X152.here hx rfl (hb hby at_230) rfl rfl (XS.lload X152.here hx rfl (hb hby at_232) rfl k))) ?_
    obtain ⟨_, T154, Lc154, X154, hQ154, st154⟩ := own_open X152 (Jvm.LawKit.callS X152 hx (y := own_y7) hown (mvT hZ (own_w hw 60 rfl)) (mvT hZ (own_w hw 61 rfl)) (mvT hZ (own_w hw 62 rfl)) (mvT hZ (own_w hw 63 rfl)) (by decide) (backOf (W := 0) (rm9 l Z a0 hw [] v153 (4 : Int32) b1 ea ka1 t0 t1 t2 t3 t4 T146.heap n0 (Nat.le_trans Z0 K146.1) f150 hnv153 (by decide)) hZ (own_w hw 63 rfl) (own_w hw 62 rfl) (by decide) (by decide)) (g := (mkF m 234 #[.val (.long qa), .second, .val (.long qb), .second, .val (.long ea), .second, .val (.long eb), .second, .val (.long pz), .second, .val (.int mask), .val (.ref b1), .val (.ref b17), .val (.long (own_x (2 : Int32) (4 : Int32) pz)), .second, .val (.int (own_h (2 : Int32) (4 : Int32))), .val (.long (own_x dc (5 : Int32) pz)), .second, .val (.int (own_h dc (5 : Int32))), .unset, .unset, .unset, .unset, .unset, .unset] [(.long ea), (.ref b1), (.int (4 : Int32)), (.int v153)])) rfl (by rw [hml]; rfl) (argsL := [(.int v153), (.int (4 : Int32)), (.ref b1), (.long ea)]) (rest := []) (lenOf pd_7 rfl) rfl (by show 2 * 0 + _ ≤ _; exact Nat.le_of_eq rfl) (hb hby at_234) (fun _ _ => ⟨rfl, r152_0, (by decide : 4 + 0 ≤ _), (by decide : 20 + 0 ≤ _)⟩))
    obtain ⟨rfl, N154q, r154_0⟩ := hQ154
    have N154 := Fr.app N152 N154q
    refine OGo.via st154 ?_
    show OGo _ _ _ _ (T154.setTop (mkF m 237 #[.val (.long qa), .second, .val (.long qb), .second, .val (.long ea), .second, .val (.long eb), .second, .val (.long pz), .second, .val (.int mask), .val (.ref b1), .val (.ref b17), .val (.long (own_x (2 : Int32) (4 : Int32) pz)), .second, .val (.int (own_h (2 : Int32) (4 : Int32))), .val (.long (own_x dc (5 : Int32) pz)), .second, .val (.int (own_h dc (5 : Int32))), .unset, .unset, .unset, .unset, .unset, .unset] [(.int (own_adv v153 (4 : Int32) t0 t1 t2 t3 t4 ea))]))
    obtain ⟨v155, hv155⟩ : ∃ z, z = (own_adv v153 (4 : Int32) t0 t1 t2 t3 t4 ea) := ⟨_, rfl⟩
    rw [← hv155]
    have hnv155 : ¬ v155 < 0 := by rw [hv155]; exact own_adv_nn hnv153 (by decide)
    show OGo _ _ _ _ (T154.setTop (mkF m 237 #[.val (.long qa), .second, .val (.long qb), .second, .val (.long ea), .second, .val (.long eb), .second, .val (.long pz), .second, .val (.int mask), .val (.ref b1), .val (.ref b17), .val (.long (own_x (2 : Int32) (4 : Int32) pz)), .second, .val (.int (own_h (2 : Int32) (4 : Int32))), .val (.long (own_x dc (5 : Int32) pz)), .second, .val (.int (own_h dc (5 : Int32))), .unset, .unset, .unset, .unset, .unset, .unset] [(.int v155)]))
    refine OGo.via (fun _ k => XS.iconst X154.here hx rfl (hb hby at_237) (XS.aload X154.here hx rfl (hb hby at_238) rfl rfl (XS.lload X154.here hx rfl (hb hby at_240) rfl k))) ?_
    obtain ⟨_, T156, Lc156, X156, hQ156, st156⟩ := own_open X154 (Jvm.LawKit.callS X154 hx (y := own_y7) hown (mvT hZ (own_w hw 60 rfl)) (mvT hZ (own_w hw 61 rfl)) (mvT hZ (own_w hw 62 rfl)) (mvT hZ (own_w hw 63 rfl)) (by decide) (backOf (W := 0) (rm9 l Z a0 hw [] v155 (4 : Int32) b1 ea ka1 t0 t1 t2 t3 t4 T146.heap n0 (Nat.le_trans Z0 K146.1) f150 hnv155 (by decide)) hZ (own_w hw 63 rfl) (own_w hw 62 rfl) (by decide) (by decide)) (g := (mkF m 242 #[.val (.long qa), .second, .val (.long qb), .second, .val (.long ea), .second, .val (.long eb), .second, .val (.long pz), .second, .val (.int mask), .val (.ref b1), .val (.ref b17), .val (.long (own_x (2 : Int32) (4 : Int32) pz)), .second, .val (.int (own_h (2 : Int32) (4 : Int32))), .val (.long (own_x dc (5 : Int32) pz)), .second, .val (.int (own_h dc (5 : Int32))), .unset, .unset, .unset, .unset, .unset, .unset] [(.long ea), (.ref b1), (.int (4 : Int32)), (.int v155)])) rfl (by rw [hml]; rfl) (argsL := [(.int v155), (.int (4 : Int32)), (.ref b1), (.long ea)]) (rest := []) (lenOf pd_7 rfl) rfl (by show 2 * 0 + _ ≤ _; exact Nat.le_of_eq rfl) (hb hby at_242) (fun _ _ => ⟨rfl, r154_0, (by decide : 4 + 0 ≤ _), (by decide : 20 + 0 ≤ _)⟩))
    obtain ⟨rfl, N156q, r156_0⟩ := hQ156
    have N156 := Fr.app N154 N156q
    refine OGo.via st156 ?_
    show OGo _ _ _ _ (T156.setTop (mkF m 245 #[.val (.long qa), .second, .val (.long qb), .second, .val (.long ea), .second, .val (.long eb), .second, .val (.long pz), .second, .val (.int mask), .val (.ref b1), .val (.ref b17), .val (.long (own_x (2 : Int32) (4 : Int32) pz)), .second, .val (.int (own_h (2 : Int32) (4 : Int32))), .val (.long (own_x dc (5 : Int32) pz)), .second, .val (.int (own_h dc (5 : Int32))), .unset, .unset, .unset, .unset, .unset, .unset] [(.int (own_adv v155 (4 : Int32) t0 t1 t2 t3 t4 ea))]))
    obtain ⟨v157, hv157⟩ : ∃ z, z = (own_adv v155 (4 : Int32) t0 t1 t2 t3 t4 ea) := ⟨_, rfl⟩
    rw [← hv157]
    have hnv157 : ¬ v157 < 0 := by rw [hv157]; exact own_adv_nn hnv155 (by decide)
    show OGo _ _ _ _ (T156.setTop (mkF m 245 #[.val (.long qa), .second, .val (.long qb), .second, .val (.long ea), .second, .val (.long eb), .second, .val (.long pz), .second, .val (.int mask), .val (.ref b1), .val (.ref b17), .val (.long (own_x (2 : Int32) (4 : Int32) pz)), .second, .val (.int (own_h (2 : Int32) (4 : Int32))), .val (.long (own_x dc (5 : Int32) pz)), .second, .val (.int (own_h dc (5 : Int32))), .unset, .unset, .unset, .unset, .unset, .unset] [(.int v157)]))
    have hd' : v157 = (2 : Int32) := by rw [hv157, hv155, hv153, hv151]; exact hdd.symm
    rw [hd']
    show OGo _ _ _ _ (T156.setTop (mkF m 245 #[.val (.long qa), .second, .val (.long qb), .second, .val (.long ea), .second, .val (.long eb), .second, .val (.long pz), .second, .val (.int mask), .val (.ref b1), .val (.ref b17), .val (.long (own_x (2 : Int32) (4 : Int32) pz)), .second, .val (.int (own_h (2 : Int32) (4 : Int32))), .val (.long (own_x dc (5 : Int32) pz)), .second, .val (.int (own_h dc (5 : Int32))), .unset, .unset, .unset, .unset, .unset, .unset] [(.int (2 : Int32))]))
    refine OGo.via (fun _ k => XS.istore X156.here hx rfl (hb hby at_245) rfl (l' := #[.val (.long qa), .second, .val (.long qb), .second, .val (.long ea), .second, .val (.long eb), .second, .val (.long pz), .second, .val (.int mask), .val (.ref b1), .val (.ref b17), .val (.long (own_x (2 : Int32) (4 : Int32) pz)), .second, .val (.int (own_h (2 : Int32) (4 : Int32))), .val (.long (own_x dc (5 : Int32) pz)), .second, .val (.int (own_h dc (5 : Int32))), .val (.int (2 : Int32)), .unset, .unset, .unset, .unset, .unset]) rfl (XS.iload X156.here hx rfl (hb hby at_247) rfl (XS.iconst X156.here hx rfl (hb hby at_249) (XS.aload X156.here hx rfl (hb hby at_250) rfl rfl (XS.lload X156.here hx rfl (hb hby at_252) rfl k))))) ?_
    obtain ⟨_, T158, Lc158, X158, hQ158, st158⟩ := own_open X156 (Jvm.LawKit.callS X156 hx (y := own_y7) hown (mvT hZ (own_w hw 60 rfl)) (mvT hZ (own_w hw 61 rfl)) (mvT hZ (own_w hw 62 rfl)) (mvT hZ (own_w hw 63 rfl)) (by decide) (backOf (W := 0) (rm9 l Z a0 hw [] (2 : Int32) (5 : Int32) b1 eb ka1 t0 t1 t2 t3 t4 T146.heap n0 (Nat.le_trans Z0 K146.1) f150 (by decide) (by decide)) hZ (own_w hw 63 rfl) (own_w hw 62 rfl) (by decide) (by decide)) (g := (mkF m 254 #[.val (.long qa), .second, .val (.long qb), .second, .val (.long ea), .second, .val (.long eb), .second, .val (.long pz), .second, .val (.int mask), .val (.ref b1), .val (.ref b17), .val (.long (own_x (2 : Int32) (4 : Int32) pz)), .second, .val (.int (own_h (2 : Int32) (4 : Int32))), .val (.long (own_x dc (5 : Int32) pz)), .second, .val (.int (own_h dc (5 : Int32))), .val (.int (2 : Int32)), .unset, .unset, .unset, .unset, .unset] [(.long eb), (.ref b1), (.int (5 : Int32)), (.int (2 : Int32))])) rfl (by rw [hml]; rfl) (argsL := [(.int (2 : Int32)), (.int (5 : Int32)), (.ref b1), (.long eb)]) (rest := []) (lenOf pd_7 rfl) rfl (by show 2 * 0 + _ ≤ _; exact Nat.le_of_eq rfl) (hb hby at_254) (fun _ _ => ⟨rfl, r156_0, (by decide : 4 + 0 ≤ _), (by decide : 20 + 0 ≤ _)⟩))
    obtain ⟨rfl, N158q, r158_0⟩ := hQ158
    have N158 := Fr.app N156 N158q
    refine OGo.via st158 ?_
    show OGo _ _ _ _ (T158.setTop (mkF m 257 #[.val (.long qa), .second, .val (.long qb), .second, .val (.long ea), .second, .val (.long eb), .second, .val (.long pz), .second, .val (.int mask), .val (.ref b1), .val (.ref b17), .val (.long (own_x (2 : Int32) (4 : Int32) pz)), .second, .val (.int (own_h (2 : Int32) (4 : Int32))), .val (.long (own_x dc (5 : Int32) pz)), .second, .val (.int (own_h dc (5 : Int32))), .val (.int (2 : Int32)), .unset, .unset, .unset, .unset, .unset] [(.int (own_adv (2 : Int32) (5 : Int32) t0 t1 t2 t3 t4 eb))]))
    obtain ⟨v159, hv159⟩ : ∃ z, z = (own_adv (2 : Int32) (5 : Int32) t0 t1 t2 t3 t4 eb) := ⟨_, rfl⟩
    rw [← hv159]
    have hnv159 : ¬ v159 < 0 := by rw [hv159]; exact own_adv_nn (by decide) (by decide)
    show OGo _ _ _ _ (T158.setTop (mkF m 257 #[.val (.long qa), .second, .val (.long qb), .second, .val (.long ea), .second, .val (.long eb), .second, .val (.long pz), .second, .val (.int mask), .val (.ref b1), .val (.ref b17), .val (.long (own_x (2 : Int32) (4 : Int32) pz)), .second, .val (.int (own_h (2 : Int32) (4 : Int32))), .val (.long (own_x dc (5 : Int32) pz)), .second, .val (.int (own_h dc (5 : Int32))), .val (.int (2 : Int32)), .unset, .unset, .unset, .unset, .unset] [(.int v159)]))
    refine OGo.via (fun _ k => XS.iconst X158.here hx rfl (hb hby at_257) (XS.aload X158.here hx rfl (hb hby at_258) rfl rfl (XS.lload X158.here hx rfl (hb hby at_260) rfl k))) ?_
    obtain ⟨_, T160, Lc160, X160, hQ160, st160⟩ := own_open X158 (Jvm.LawKit.callS X158 hx (y := own_y7) hown (mvT hZ (own_w hw 60 rfl)) (mvT hZ (own_w hw 61 rfl)) (mvT hZ (own_w hw 62 rfl)) (mvT hZ (own_w hw 63 rfl)) (by decide) (backOf (W := 0) (rm9 l Z a0 hw [] v159 (5 : Int32) b1 eb ka1 t0 t1 t2 t3 t4 T146.heap n0 (Nat.le_trans Z0 K146.1) f150 hnv159 (by decide)) hZ (own_w hw 63 rfl) (own_w hw 62 rfl) (by decide) (by decide)) (g := (mkF m 262 #[.val (.long qa), .second, .val (.long qb), .second, .val (.long ea), .second, .val (.long eb), .second, .val (.long pz), .second, .val (.int mask), .val (.ref b1), .val (.ref b17), .val (.long (own_x (2 : Int32) (4 : Int32) pz)), .second, .val (.int (own_h (2 : Int32) (4 : Int32))), .val (.long (own_x dc (5 : Int32) pz)), .second, .val (.int (own_h dc (5 : Int32))), .val (.int (2 : Int32)), .unset, .unset, .unset, .unset, .unset] [(.long eb), (.ref b1), (.int (5 : Int32)), (.int v159)])) rfl (by rw [hml]; rfl) (argsL := [(.int v159), (.int (5 : Int32)), (.ref b1), (.long eb)]) (rest := []) (lenOf pd_7 rfl) rfl (by show 2 * 0 + _ ≤ _; exact Nat.le_of_eq rfl) (hb hby at_262) (fun _ _ => ⟨rfl, r158_0, (by decide : 4 + 0 ≤ _), (by decide : 20 + 0 ≤ _)⟩))
    obtain ⟨rfl, N160q, r160_0⟩ := hQ160
    have N160 := Fr.app N158 N160q
    refine OGo.via st160 ?_
    show OGo _ _ _ _ (T160.setTop (mkF m 265 #[.val (.long qa), .second, .val (.long qb), .second, .val (.long ea), .second, .val (.long eb), .second, .val (.long pz), .second, .val (.int mask), .val (.ref b1), .val (.ref b17), .val (.long (own_x (2 : Int32) (4 : Int32) pz)), .second, .val (.int (own_h (2 : Int32) (4 : Int32))), .val (.long (own_x dc (5 : Int32) pz)), .second, .val (.int (own_h dc (5 : Int32))), .val (.int (2 : Int32)), .unset, .unset, .unset, .unset, .unset] [(.int (own_adv v159 (5 : Int32) t0 t1 t2 t3 t4 eb))]))
    obtain ⟨v161, hv161⟩ : ∃ z, z = (own_adv v159 (5 : Int32) t0 t1 t2 t3 t4 eb) := ⟨_, rfl⟩
    rw [← hv161]
    have hnv161 : ¬ v161 < 0 := by rw [hv161]; exact own_adv_nn hnv159 (by decide)
    show OGo _ _ _ _ (T160.setTop (mkF m 265 #[.val (.long qa), .second, .val (.long qb), .second, .val (.long ea), .second, .val (.long eb), .second, .val (.long pz), .second, .val (.int mask), .val (.ref b1), .val (.ref b17), .val (.long (own_x (2 : Int32) (4 : Int32) pz)), .second, .val (.int (own_h (2 : Int32) (4 : Int32))), .val (.long (own_x dc (5 : Int32) pz)), .second, .val (.int (own_h dc (5 : Int32))), .val (.int (2 : Int32)), .unset, .unset, .unset, .unset, .unset] [(.int v161)]))
    refine OGo.via (fun _ k => XS.iconst X160.here hx rfl (hb hby at_265) (XS.aload X160.here hx rfl (hb hby at_266) rfl rfl (XS.lload X160.here hx rfl (hb hby at_268) rfl k))) ?_
    obtain ⟨_, T162, Lc162, X162, hQ162, st162⟩ := own_open X160 (Jvm.LawKit.callS X160 hx (y := own_y7) hown (mvT hZ (own_w hw 60 rfl)) (mvT hZ (own_w hw 61 rfl)) (mvT hZ (own_w hw 62 rfl)) (mvT hZ (own_w hw 63 rfl)) (by decide) (backOf (W := 0) (rm9 l Z a0 hw [] v161 (5 : Int32) b1 eb ka1 t0 t1 t2 t3 t4 T146.heap n0 (Nat.le_trans Z0 K146.1) f150 hnv161 (by decide)) hZ (own_w hw 63 rfl) (own_w hw 62 rfl) (by decide) (by decide)) (g := (mkF m 270 #[.val (.long qa), .second, .val (.long qb), .second, .val (.long ea), .second, .val (.long eb), .second, .val (.long pz), .second, .val (.int mask), .val (.ref b1), .val (.ref b17), .val (.long (own_x (2 : Int32) (4 : Int32) pz)), .second, .val (.int (own_h (2 : Int32) (4 : Int32))), .val (.long (own_x dc (5 : Int32) pz)), .second, .val (.int (own_h dc (5 : Int32))), .val (.int (2 : Int32)), .unset, .unset, .unset, .unset, .unset] [(.long eb), (.ref b1), (.int (5 : Int32)), (.int v161)])) rfl (by rw [hml]; rfl) (argsL := [(.int v161), (.int (5 : Int32)), (.ref b1), (.long eb)]) (rest := []) (lenOf pd_7 rfl) rfl (by show 2 * 0 + _ ≤ _; exact Nat.le_of_eq rfl) (hb hby at_270) (fun _ _ => ⟨rfl, r160_0, (by decide : 4 + 0 ≤ _), (by decide : 20 + 0 ≤ _)⟩))
    obtain ⟨rfl, N162q, r162_0⟩ := hQ162
    have N162 := Fr.app N160 N162q
    refine OGo.via st162 ?_
    show OGo _ _ _ _ (T162.setTop (mkF m 273 #[.val (.long qa), .second, .val (.long qb), .second, .val (.long ea), .second, .val (.long eb), .second, .val (.long pz), .second, .val (.int mask), .val (.ref b1), .val (.ref b17), .val (.long (own_x (2 : Int32) (4 : Int32) pz)), .second, .val (.int (own_h (2 : Int32) (4 : Int32))), .val (.long (own_x dc (5 : Int32) pz)), .second, .val (.int (own_h dc (5 : Int32))), .val (.int (2 : Int32)), .unset, .unset, .unset, .unset, .unset] [(.int (own_adv v161 (5 : Int32) t0 t1 t2 t3 t4 eb))]))
    obtain ⟨v163, hv163⟩ : ∃ z, z = (own_adv v161 (5 : Int32) t0 t1 t2 t3 t4 eb) := ⟨_, rfl⟩
    rw [← hv163]
    have hnv163 : ¬ v163 < 0 := by rw [hv163]; exact own_adv_nn hnv161 (by decide)
    show OGo _ _ _ _ (T162.setTop (mkF m 273 #[.val (.long qa), .second, .val (.long qb), .second, .val (.long ea), .second, .val (.long eb), .second, .val (.long pz), .second, .val (.int mask), .val (.ref b1), .val (.ref b17), .val (.long (own_x (2 : Int32) (4 : Int32) pz)), .second, .val (.int (own_h (2 : Int32) (4 : Int32))), .val (.long (own_x dc (5 : Int32) pz)), .second, .val (.int (own_h dc (5 : Int32))), .val (.int (2 : Int32)), .unset, .unset, .unset, .unset, .unset] [(.int v163)]))
    refine OGo.via (fun _ k => XS.iconst X162.here hx rfl (hb hby at_273) (XS.aload X162.here hx rfl (hb hby at_274) rfl rfl (XS.lload X162.here hx rfl (hb hby at_276) rfl k))) ?_
    obtain ⟨_, T164, Lc164, X164, hQ164, st164⟩ := own_open X162 (Jvm.LawKit.callS X162 hx (y := own_y7) hown (mvT hZ (own_w hw 60 rfl)) (mvT hZ (own_w hw 61 rfl)) (mvT hZ (own_w hw 62 rfl)) (mvT hZ (own_w hw 63 rfl)) (by decide) (backOf (W := 0) (rm9 l Z a0 hw [] v163 (5 : Int32) b1 eb ka1 t0 t1 t2 t3 t4 T146.heap n0 (Nat.le_trans Z0 K146.1) f150 hnv163 (by decide)) hZ (own_w hw 63 rfl) (own_w hw 62 rfl) (by decide) (by decide)) (g := (mkF m 278 #[.val (.long qa), .second, .val (.long qb), .second, .val (.long ea), .second, .val (.long eb), .second, .val (.long pz), .second, .val (.int mask), .val (.ref b1), .val (.ref b17), .val (.long (own_x (2 : Int32) (4 : Int32) pz)), .second, .val (.int (own_h (2 : Int32) (4 : Int32))), .val (.long (own_x dc (5 : Int32) pz)), .second, .val (.int (own_h dc (5 : Int32))), .val (.int (2 : Int32)), .unset, .unset, .unset, .unset, .unset] [(.long eb), (.ref b1), (.int (5 : Int32)), (.int v163)])) rfl (by rw [hml]; rfl) (argsL := [(.int v163), (.int (5 : Int32)), (.ref b1), (.long eb)]) (rest := []) (lenOf pd_7 rfl) rfl (by show 2 * 0 + _ ≤ _; exact Nat.le_of_eq rfl) (hb hby at_278) (fun _ _ => ⟨rfl, r162_0, (by decide : 4 + 0 ≤ _), (by decide : 20 + 0 ≤ _)⟩))
    obtain ⟨rfl, N164q, r164_0⟩ := hQ164
    have N164 := Fr.app N162 N164q
    refine OGo.via st164 ?_
    show OGo _ _ _ _ (T164.setTop (mkF m 281 #[.val (.long qa), .second, .val (.long qb), .second, .val (.long ea), .second, .val (.long eb), .second, .val (.long pz), .second, .val (.int mask), .val (.ref b1), .val (.ref b17), .val (.long (own_x (2 : Int32) (4 : Int32) pz)), .second, .val (.int (own_h (2 : Int32) (4 : Int32))), .val (.long (own_x dc (5 : Int32) pz)), .second, .val (.int (own_h dc (5 : Int32))), .val (.int (2 : Int32)), .unset, .unset, .unset, .unset, .unset] [(.int (own_adv v163 (5 : Int32) t0 t1 t2 t3 t4 eb))]))
    obtain ⟨v165, hv165⟩ : ∃ z, z = (own_adv v163 (5 : Int32) t0 t1 t2 t3 t4 eb) := ⟨_, rfl⟩
    rw [← hv165]
    have hnv165 : ¬ v165 < 0 := by rw [hv165]; exact own_adv_nn hnv163 (by decide)
    show OGo _ _ _ _ (T164.setTop (mkF m 281 #[.val (.long qa), .second, .val (.long qb), .second, .val (.long ea), .second, .val (.long eb), .second, .val (.long pz), .second, .val (.int mask), .val (.ref b1), .val (.ref b17), .val (.long (own_x (2 : Int32) (4 : Int32) pz)), .second, .val (.int (own_h (2 : Int32) (4 : Int32))), .val (.long (own_x dc (5 : Int32) pz)), .second, .val (.int (own_h dc (5 : Int32))), .val (.int (2 : Int32)), .unset, .unset, .unset, .unset, .unset] [(.int v165)]))
    refine OGo.via (fun _ k => XS.iconst X164.here hx rfl (hb hby at_281) (XS.aload X164.here hx rfl (hb hby at_282) rfl rfl (XS.lload X164.here hx rfl (hb hby at_284) rfl k))) ?_
    obtain ⟨_, T166, Lc166, X166, hQ166, st166⟩ := own_open X164 (Jvm.LawKit.callS X164 hx (y := own_y7) hown (mvT hZ (own_w hw 60 rfl)) (mvT hZ (own_w hw 61 rfl)) (mvT hZ (own_w hw 62 rfl)) (mvT hZ (own_w hw 63 rfl)) (by decide) (backOf (W := 0) (rm9 l Z a0 hw [] v165 (5 : Int32) b1 eb ka1 t0 t1 t2 t3 t4 T146.heap n0 (Nat.le_trans Z0 K146.1) f150 hnv165 (by decide)) hZ (own_w hw 63 rfl) (own_w hw 62 rfl) (by decide) (by decide)) (g := (mkF m 286 #[.val (.long qa), .second, .val (.long qb), .second, .val (.long ea), .second, .val (.long eb), .second, .val (.long pz), .second, .val (.int mask), .val (.ref b1), .val (.ref b17), .val (.long (own_x (2 : Int32) (4 : Int32) pz)), .second, .val (.int (own_h (2 : Int32) (4 : Int32))), .val (.long (own_x dc (5 : Int32) pz)), .second, .val (.int (own_h dc (5 : Int32))), .val (.int (2 : Int32)), .unset, .unset, .unset, .unset, .unset] [(.long eb), (.ref b1), (.int (5 : Int32)), (.int v165)])) rfl (by rw [hml]; rfl) (argsL := [(.int v165), (.int (5 : Int32)), (.ref b1), (.long eb)]) (rest := []) (lenOf pd_7 rfl) rfl (by show 2 * 0 + _ ≤ _; exact Nat.le_of_eq rfl) (hb hby at_286) (fun _ _ => ⟨rfl, r164_0, (by decide : 4 + 0 ≤ _), (by decide : 20 + 0 ≤ _)⟩))
    obtain ⟨rfl, N166q, r166_0⟩ := hQ166
    have N166 := Fr.app N164 N166q
    refine OGo.via st166 ?_
    show OGo _ _ _ _ (T166.setTop (mkF m 289 #[.val (.long qa), .second, .val (.long qb), .second, .val (.long ea), .second, .val (.long eb), .second, .val (.long pz), .second, .val (.int mask), .val (.ref b1), .val (.ref b17), .val (.long (own_x (2 : Int32) (4 : Int32) pz)), .second, .val (.int (own_h (2 : Int32) (4 : Int32))), .val (.long (own_x dc (5 : Int32) pz)), .second, .val (.int (own_h dc (5 : Int32))), .val (.int (2 : Int32)), .unset, .unset, .unset, .unset, .unset] [(.int (own_adv v165 (5 : Int32) t0 t1 t2 t3 t4 eb))]))
    obtain ⟨v167, hv167⟩ : ∃ z, z = (own_adv v165 (5 : Int32) t0 t1 t2 t3 t4 eb) := ⟨_, rfl⟩
    rw [← hv167]
    have hnv167 : ¬ v167 < 0 := by rw [hv167]; exact own_adv_nn hnv165 (by decide)
    show OGo _ _ _ _ (T166.setTop (mkF m 289 #[.val (.long qa), .second, .val (.long qb), .second, .val (.long ea), .second, .val (.long eb), .second, .val (.long pz), .second, .val (.int mask), .val (.ref b1), .val (.ref b17), .val (.long (own_x (2 : Int32) (4 : Int32) pz)), .second, .val (.int (own_h (2 : Int32) (4 : Int32))), .val (.long (own_x dc (5 : Int32) pz)), .second, .val (.int (own_h dc (5 : Int32))), .val (.int (2 : Int32)), .unset, .unset, .unset, .unset, .unset] [(.int v167)]))
    have hd2 : v167 = dc := by rw [hv167, hv165, hv163, hv161, hv159]; exact hdc.symm
    rw [hd2]
    show OGo _ _ _ _ (T166.setTop (mkF m 289 #[.val (.long qa), .second, .val (.long qb), .second, .val (.long ea), .second, .val (.long eb), .second, .val (.long pz), .second, .val (.int mask), .val (.ref b1), .val (.ref b17), .val (.long (own_x (2 : Int32) (4 : Int32) pz)), .second, .val (.int (own_h (2 : Int32) (4 : Int32))), .val (.long (own_x dc (5 : Int32) pz)), .second, .val (.int (own_h dc (5 : Int32))), .val (.int (2 : Int32)), .unset, .unset, .unset, .unset, .unset] [(.int dc)]))
    refine OGo.via (fun _ k => XS.istore X166.here hx rfl (hb hby at_289) rfl (l' := #[.val (.long qa), .second, .val (.long qb), .second, .val (.long ea), .second, .val (.long eb), .second, .val (.long pz), .second, .val (.int mask), .val (.ref b1), .val (.ref b17), .val (.long (own_x (2 : Int32) (4 : Int32) pz)), .second, .val (.int (own_h (2 : Int32) (4 : Int32))), .val (.long (own_x dc (5 : Int32) pz)), .second, .val (.int (own_h dc (5 : Int32))), .val (.int (2 : Int32)), .val (.int dc), .unset, .unset, .unset, .unset]) rfl (XS.iload X166.here hx rfl (hb hby at_291) rfl (XS.iconst X166.here hx rfl (hb hby at_293) k))) ?_
    refine OGo.via (fun _ k => XS.icmpYes X166.here hx rfl (pc0 := 294) (pc' := 303) rfl (hb hby at_294) rfl (feq (by decide : ¬ ((2 : Int32) = (4 : Int32)))).2 (by decide) (by decide) k) ?_
    show OGo _ _ _ _ (T166.setTop (mkF m 303 #[.val (.long qa), .second, .val (.long qb), .second, .val (.long ea), .second, .val (.long eb), .second, .val (.long pz), .second, .val (.int mask), .val (.ref b1), .val (.ref b17), .val (.long (own_x (2 : Int32) (4 : Int32) pz)), .second, .val (.int (own_h (2 : Int32) (4 : Int32))), .val (.long (own_x dc (5 : Int32) pz)), .second, .val (.int (own_h dc (5 : Int32))), .val (.int (2 : Int32)), .val (.int dc), .unset, .unset, .unset, .unset] []))
    refine OGo.via (fun _ k => XS.lload X166.here hx rfl (hb hby at_303) rfl (XS.iload X166.here hx rfl (hb hby at_305) rfl (XS.i2l X166.here hx rfl (hb hby at_307) rfl k))) ?_
    show OGo _ _ _ _ (T166.setTop (mkF m 308 #[.val (.long qa), .second, .val (.long qb), .second, .val (.long ea), .second, .val (.long eb), .second, .val (.long pz), .second, .val (.int mask), .val (.ref b1), .val (.ref b17), .val (.long (own_x (2 : Int32) (4 : Int32) pz)), .second, .val (.int (own_h (2 : Int32) (4 : Int32))), .val (.long (own_x dc (5 : Int32) pz)), .second, .val (.int (own_h dc (5 : Int32))), .val (.int (2 : Int32)), .val (.int dc), .unset, .unset, .unset, .unset] [(.long ((2 : Int32).toInt64)), (.long pz)]))
    rw [show ((2 : Int32).toInt64) = (2 : Int64) from by decide]
    refine OGo.via (fun _ k => XS.ladd X166.here hx rfl (hb hby at_308) rfl (XS.lstore X166.here hx rfl (hb hby at_309) rfl (l' := #[.val (.long qa), .second, .val (.long qb), .second, .val (.long ea), .second, .val (.long eb), .second, .val (.long pz), .second, .val (.int mask), .val (.ref b1), .val (.ref b17), .val (.long (own_x (2 : Int32) (4 : Int32) pz)), .second, .val (.int (own_h (2 : Int32) (4 : Int32))), .val (.long (own_x dc (5 : Int32) pz)), .second, .val (.int (own_h dc (5 : Int32))), .val (.int (2 : Int32)), .val (.int dc), .val (.long (pz + (2 : Int64))), .second, .unset, .unset]) rfl (XS.iload X166.here hx rfl (hb hby at_311) rfl (XS.iconst X166.here hx rfl (hb hby at_313) k)))) ?_
    by_cases hc314_169 : dc = (5 : Int32)
    · refine OGo.via (fun _ k => XS.icmpNo X166.here hx rfl (hb hby at_314) rfl (teq hc314_169).2 k) ?_
      show OGo _ _ _ _ (T166.setTop (mkF m 317 #[.val (.long qa), .second, .val (.long qb), .second, .val (.long ea), .second, .val (.long eb), .second, .val (.long pz), .second, .val (.int mask), .val (.ref b1), .val (.ref b17), .val (.long (own_x (2 : Int32) (4 : Int32) pz)), .second, .val (.int (own_h (2 : Int32) (4 : Int32))), .val (.long (own_x dc (5 : Int32) pz)), .second, .val (.int (own_h dc (5 : Int32))), .val (.int (2 : Int32)), .val (.int dc), .val (.long (pz + (2 : Int64))), .second, .unset, .unset] []))
      refine OGo.via (X166.ldc2Long hx hown (mvT hZ (own_w hw 64 rfl)) (g := (mkF m 317 #[.val (.long qa), .second, .val (.long qb), .second, .val (.long ea), .second, .val (.long eb), .second, .val (.long pz), .second, .val (.int mask), .val (.ref b1), .val (.ref b17), .val (.long (own_x (2 : Int32) (4 : Int32) pz)), .second, .val (.int (own_h (2 : Int32) (4 : Int32))), .val (.long (own_x dc (5 : Int32) pz)), .second, .val (.int (own_h dc (5 : Int32))), .val (.int (2 : Int32)), .val (.int dc), .val (.long (pz + (2 : Int64))), .second, .unset, .unset] [])) rfl (hb hby at_317)) ?_
      show OGo _ _ _ _ (T166.setTop (mkF m 320 #[.val (.long qa), .second, .val (.long qb), .second, .val (.long ea), .second, .val (.long eb), .second, .val (.long pz), .second, .val (.int mask), .val (.ref b1), .val (.ref b17), .val (.long (own_x (2 : Int32) (4 : Int32) pz)), .second, .val (.int (own_h (2 : Int32) (4 : Int32))), .val (.long (own_x dc (5 : Int32) pz)), .second, .val (.int (own_h dc (5 : Int32))), .val (.int (2 : Int32)), .val (.int dc), .val (.long (pz + (2 : Int64))), .second, .unset, .unset] [(.long (9223372036854775807 : Int64))]))
      refine OGo.via (fun _ k => XS.goto X166.here hx rfl (pc0 := 320) (pc' := 329) rfl (hb hby at_320) (by decide) (by decide) (XS.lstore X166.here hx rfl (hb hby at_329) rfl (l' := #[.val (.long qa), .second, .val (.long qb), .second, .val (.long ea), .second, .val (.long eb), .second, .val (.long pz), .second, .val (.int mask), .val (.ref b1), .val (.ref b17), .val (.long (own_x (2 : Int32) (4 : Int32) pz)), .second, .val (.int (own_h (2 : Int32) (4 : Int32))), .val (.long (own_x dc (5 : Int32) pz)), .second, .val (.int (own_h dc (5 : Int32))), .val (.int (2 : Int32)), .val (.int dc), .val (.long (pz + (2 : Int64))), .second, .val (.long (9223372036854775807 : Int64)), .second]) rfl (XS.lload X166.here hx rfl (hb hby at_331) rfl (XS.lload X166.here hx rfl (hb hby at_333) rfl (XS.lcmp X166.here hx rfl (hb hby at_335) rfl k))))) ?_
      refine OGo.via (fun _ k => XS.ifNo X166.here hx rfl (hb hby at_336) rfl ((if0 _ _).trans (teq ((lw_eq _ _).mpr (own_xn (by decide)) : (lcmpW (own_x (2 : Int32) (4 : Int32) pz) (pz + (2 : Int64))) = (0 : Int32))).2) k) ?_
      show OGo _ _ _ _ (T166.setTop (mkF m 339 #[.val (.long qa), .second, .val (.long qb), .second, .val (.long ea), .second, .val (.long eb), .second, .val (.long pz), .second, .val (.int mask), .val (.ref b1), .val (.ref b17), .val (.long (own_x (2 : Int32) (4 : Int32) pz)), .second, .val (.int (own_h (2 : Int32) (4 : Int32))), .val (.long (own_x dc (5 : Int32) pz)), .second, .val (.int (own_h dc (5 : Int32))), .val (.int (2 : Int32)), .val (.int dc), .val (.long (pz + (2 : Int64))), .second, .val (.long (9223372036854775807 : Int64)), .second] []))
      refine OGo.via (fun _ k => XS.iload X166.here hx rfl (hb hby at_339) rfl (XS.iconst X166.here hx rfl (hb hby at_341) (XS.iload X166.here hx rfl (hb hby at_342) rfl (XS.isub X166.here hx rfl (hb hby at_344) rfl k)))) ?_
      show OGo _ _ _ _ (T166.setTop (mkF m 345 #[.val (.long qa), .second, .val (.long qb), .second, .val (.long ea), .second, .val (.long eb), .second, .val (.long pz), .second, .val (.int mask), .val (.ref b1), .val (.ref b17), .val (.long (own_x (2 : Int32) (4 : Int32) pz)), .second, .val (.int (own_h (2 : Int32) (4 : Int32))), .val (.long (own_x dc (5 : Int32) pz)), .second, .val (.int (own_h dc (5 : Int32))), .val (.int (2 : Int32)), .val (.int dc), .val (.long (pz + (2 : Int64))), .second, .val (.long (9223372036854775807 : Int64)), .second] [(.int ((4 : Int32) - (2 : Int32))), (.int (own_h (2 : Int32) (4 : Int32)))]))
      rw [show ((4 : Int32) - (2 : Int32)) = (2 : Int32) from by decide]
      refine OGo.via (fun _ k => XS.icmpNo X166.here hx rfl (hb hby at_345) rfl (teq (rfl : (own_h (2 : Int32) (4 : Int32)) = (2 : Int32))).2 k) ?_
      show OGo _ _ _ _ (T166.setTop (mkF m 348 #[.val (.long qa), .second, .val (.long qb), .second, .val (.long ea), .second, .val (.long eb), .second, .val (.long pz), .second, .val (.int mask), .val (.ref b1), .val (.ref b17), .val (.long (own_x (2 : Int32) (4 : Int32) pz)), .second, .val (.int (own_h (2 : Int32) (4 : Int32))), .val (.long (own_x dc (5 : Int32) pz)), .second, .val (.int (own_h dc (5 : Int32))), .val (.int (2 : Int32)), .val (.int dc), .val (.long (pz + (2 : Int64))), .second, .val (.long (9223372036854775807 : Int64)), .second] []))
      refine OGo.via (fun _ k => XS.lload X166.here hx rfl (hb hby at_348) rfl (XS.lload X166.here hx rfl (hb hby at_350) rfl (XS.lcmp X166.here hx rfl (hb hby at_352) rfl k))) ?_
      refine OGo.via (fun _ k => XS.ifNo X166.here hx rfl (hb hby at_353) rfl ((if0 _ _).trans (teq ((lw_eq _ _).mpr (own_xy hc314_169) : (lcmpW (own_x dc (5 : Int32) pz) (9223372036854775807 : Int64)) = (0 : Int32))).2) k) ?_
      show OGo _ _ _ _ (T166.setTop (mkF m 356 #[.val (.long qa), .second, .val (.long qb), .second, .val (.long ea), .second, .val (.long eb), .second, .val (.long pz), .second, .val (.int mask), .val (.ref b1), .val (.ref b17), .val (.long (own_x (2 : Int32) (4 : Int32) pz)), .second, .val (.int (own_h (2 : Int32) (4 : Int32))), .val (.long (own_x dc (5 : Int32) pz)), .second, .val (.int (own_h dc (5 : Int32))), .val (.int (2 : Int32)), .val (.int dc), .val (.long (pz + (2 : Int64))), .second, .val (.long (9223372036854775807 : Int64)), .second] []))
      refine OGo.via (fun _ k => XS.iload X166.here hx rfl (hb hby at_356) rfl (XS.iconst X166.here hx rfl (hb hby at_358) (XS.iload X166.here hx rfl (hb hby at_359) rfl (XS.isub X166.here hx rfl (hb hby at_361) rfl k)))) ?_
      refine OGo.via (fun _ k => XS.icmpNo X166.here hx rfl (hb hby at_362) rfl (teq (rfl : (own_h dc (5 : Int32)) = ((5 : Int32) - dc))).2 k) ?_
      show OGo _ _ _ _ (T166.setTop (mkF m 365 #[.val (.long qa), .second, .val (.long qb), .second, .val (.long ea), .second, .val (.long eb), .second, .val (.long pz), .second, .val (.int mask), .val (.ref b1), .val (.ref b17), .val (.long (own_x (2 : Int32) (4 : Int32) pz)), .second, .val (.int (own_h (2 : Int32) (4 : Int32))), .val (.long (own_x dc (5 : Int32) pz)), .second, .val (.int (own_h dc (5 : Int32))), .val (.int (2 : Int32)), .val (.int dc), .val (.long (pz + (2 : Int64))), .second, .val (.long (9223372036854775807 : Int64)), .second] []))
      refine OGo.via (fun _ k => XS.iconst X166.here hx rfl (hb hby at_365) (XS.goto X166.here hx rfl (pc0 := 366) (pc' := 370) rfl (hb hby at_366) (by decide) (by decide) k)) ?_
      show OGo _ _ _ _ (T166.setTop (mkF m 370 #[.val (.long qa), .second, .val (.long qb), .second, .val (.long ea), .second, .val (.long eb), .second, .val (.long pz), .second, .val (.int mask), .val (.ref b1), .val (.ref b17), .val (.long (own_x (2 : Int32) (4 : Int32) pz)), .second, .val (.int (own_h (2 : Int32) (4 : Int32))), .val (.long (own_x dc (5 : Int32) pz)), .second, .val (.int (own_h dc (5 : Int32))), .val (.int (2 : Int32)), .val (.int dc), .val (.long (pz + (2 : Int64))), .second, .val (.long (9223372036854775807 : Int64)), .second] [(.int (1 : Int32))]))
      refine own_retN (t := .boolean) (by simp) X166 hx Bd.notSynchronized Bd.returns (hb hby at_370) (by decide) (by decide) ?_
      show Q_rm0 Z _ _ _ _ _ _ _ _ h0 n0 _ T166.heap _
      rw [r166_0]
      exact ⟨rfl, N166⟩
    · refine OGo.via (fun _ k => XS.icmpYes X166.here hx rfl (pc0 := 314) (pc' := 323) rfl (hb hby at_314) rfl (feq hc314_169).2 (by decide) (by decide) k) ?_
      show OGo _ _ _ _ (T166.setTop (mkF m 323 #[.val (.long qa), .second, .val (.long qb), .second, .val (.long ea), .second, .val (.long eb), .second, .val (.long pz), .second, .val (.int mask), .val (.ref b1), .val (.ref b17), .val (.long (own_x (2 : Int32) (4 : Int32) pz)), .second, .val (.int (own_h (2 : Int32) (4 : Int32))), .val (.long (own_x dc (5 : Int32) pz)), .second, .val (.int (own_h dc (5 : Int32))), .val (.int (2 : Int32)), .val (.int dc), .val (.long (pz + (2 : Int64))), .second, .unset, .unset] []))
      refine OGo.via (fun _ k => XS.lload X166.here hx rfl (hb hby at_323) rfl (XS.iload X166.here hx rfl (hb hby at_325) rfl (XS.i2l X166.here hx rfl (hb hby at_327) rfl (XS.ladd X166.here hx rfl (hb hby at_328) rfl (XS.lstore X166.here hx rfl (hb hby at_329) rfl (l' := #[.val (.long qa), .second, .val (.long qb), .second, .val (.long ea), .second, .val (.long eb), .second, .val (.long pz), .second, .val (.int mask), .val (.ref b1), .val (.ref b17), .val (.long (own_x (2 : Int32) (4 : Int32) pz)), .second, .val (.int (own_h (2 : Int32) (4 : Int32))), .val (.long (own_x dc (5 : Int32) pz)), .second, .val (.int (own_h dc (5 : Int32))), .val (.int (2 : Int32)), .val (.int dc), .val (.long (pz + (2 : Int64))), .second, .val (.long (pz + (dc.toInt64))), .second]) rfl (XS.lload X166.here hx rfl (hb hby at_331) rfl (XS.lload X166.here hx rfl (hb hby at_333) rfl (XS.lcmp X166.here hx rfl (hb hby at_335) rfl k)))))))) ?_
      show OGo _ _ _ _ (T166.setTop (mkF m 336 #[.val (.long qa), .second, .val (.long qb), .second, .val (.long ea), .second, .val (.long eb), .second, .val (.long pz), .second, .val (.int mask), .val (.ref b1), .val (.ref b17), .val (.long (own_x (2 : Int32) (4 : Int32) pz)), .second, .val (.int (own_h (2 : Int32) (4 : Int32))), .val (.long (own_x dc (5 : Int32) pz)), .second, .val (.int (own_h dc (5 : Int32))), .val (.int (2 : Int32)), .val (.int dc), .val (.long (pz + (2 : Int64))), .second, .val (.long (pz + (dc.toInt64))), .second] [(.int (lcmpW (own_x (2 : Int32) (4 : Int32) pz) (pz + (2 : Int64))))]))
      refine OGo.via (fun _ k => XS.ifNo X166.here hx rfl (hb hby at_336) rfl ((if0 _ _).trans (teq ((lw_eq _ _).mpr (own_xn (by decide)) : (lcmpW (own_x (2 : Int32) (4 : Int32) pz) (pz + (2 : Int64))) = (0 : Int32))).2) k) ?_
      show OGo _ _ _ _ (T166.setTop (mkF m 339 #[.val (.long qa), .second, .val (.long qb), .second, .val (.long ea), .second, .val (.long eb), .second, .val (.long pz), .second, .val (.int mask), .val (.ref b1), .val (.ref b17), .val (.long (own_x (2 : Int32) (4 : Int32) pz)), .second, .val (.int (own_h (2 : Int32) (4 : Int32))), .val (.long (own_x dc (5 : Int32) pz)), .second, .val (.int (own_h dc (5 : Int32))), .val (.int (2 : Int32)), .val (.int dc), .val (.long (pz + (2 : Int64))), .second, .val (.long (pz + (dc.toInt64))), .second] []))
      refine OGo.via (fun _ k => XS.iload X166.here hx rfl (hb hby at_339) rfl (XS.iconst X166.here hx rfl (hb hby at_341) (XS.iload X166.here hx rfl (hb hby at_342) rfl (XS.isub X166.here hx rfl (hb hby at_344) rfl k)))) ?_
      show OGo _ _ _ _ (T166.setTop (mkF m 345 #[.val (.long qa), .second, .val (.long qb), .second, .val (.long ea), .second, .val (.long eb), .second, .val (.long pz), .second, .val (.int mask), .val (.ref b1), .val (.ref b17), .val (.long (own_x (2 : Int32) (4 : Int32) pz)), .second, .val (.int (own_h (2 : Int32) (4 : Int32))), .val (.long (own_x dc (5 : Int32) pz)), .second, .val (.int (own_h dc (5 : Int32))), .val (.int (2 : Int32)), .val (.int dc), .val (.long (pz + (2 : Int64))), .second, .val (.long (pz + (dc.toInt64))), .second] [(.int ((4 : Int32) - (2 : Int32))), (.int (own_h (2 : Int32) (4 : Int32)))]))
      rw [show ((4 : Int32) - (2 : Int32)) = (2 : Int32) from by decide]
      refine OGo.via (fun _ k => XS.icmpNo X166.here hx rfl (hb hby at_345) rfl (teq (rfl : (own_h (2 : Int32) (4 : Int32)) = (2 : Int32))).2 k) ?_
      show OGo _ _ _ _ (T166.setTop (mkF m 348 #[.val (.long qa), .second, .val (.long qb), .second, .val (.long ea), .second, .val (.long eb), .second, .val (.long pz), .second, .val (.int mask), .val (.ref b1), .val (.ref b17), .val (.long (own_x (2 : Int32) (4 : Int32) pz)), .second, .val (.int (own_h (2 : Int32) (4 : Int32))), .val (.long (own_x dc (5 : Int32) pz)), .second, .val (.int (own_h dc (5 : Int32))), .val (.int (2 : Int32)), .val (.int dc), .val (.long (pz + (2 : Int64))), .second, .val (.long (pz + (dc.toInt64))), .second] []))
      refine OGo.via (fun _ k => XS.lload X166.here hx rfl (hb hby at_348) rfl (XS.lload X166.here hx rfl (hb hby at_350) rfl (XS.lcmp X166.here hx rfl (hb hby at_352) rfl k))) ?_
      refine OGo.via (fun _ k => XS.ifNo X166.here hx rfl (hb hby at_353) rfl ((if0 _ _).trans (teq ((lw_eq _ _).mpr (own_xn hc314_169) : (lcmpW (own_x dc (5 : Int32) pz) (pz + (dc.toInt64))) = (0 : Int32))).2) k) ?_
      show OGo _ _ _ _ (T166.setTop (mkF m 356 #[.val (.long qa), .second, .val (.long qb), .second, .val (.long ea), .second, .val (.long eb), .second, .val (.long pz), .second, .val (.int mask), .val (.ref b1), .val (.ref b17), .val (.long (own_x (2 : Int32) (4 : Int32) pz)), .second, .val (.int (own_h (2 : Int32) (4 : Int32))), .val (.long (own_x dc (5 : Int32) pz)), .second, .val (.int (own_h dc (5 : Int32))), .val (.int (2 : Int32)), .val (.int dc), .val (.long (pz + (2 : Int64))), .second, .val (.long (pz + (dc.toInt64))), .second] []))
      refine OGo.via (fun _ k => XS.iload X166.here hx rfl (hb hby at_356) rfl (XS.iconst X166.here hx rfl (hb hby at_358) (XS.iload X166.here hx rfl (hb hby at_359) rfl (XS.isub X166.here hx rfl (hb hby at_361) rfl k)))) ?_
      refine OGo.via (fun _ k => XS.icmpNo X166.here hx rfl (hb hby at_362) rfl (teq (rfl : (own_h dc (5 : Int32)) = ((5 : Int32) - dc))).2 k) ?_
      show OGo _ _ _ _ (T166.setTop (mkF m 365 #[.val (.long qa), .second, .val (.long qb), .second, .val (.long ea), .second, .val (.long eb), .second, .val (.long pz), .second, .val (.int mask), .val (.ref b1), .val (.ref b17), .val (.long (own_x (2 : Int32) (4 : Int32) pz)), .second, .val (.int (own_h (2 : Int32) (4 : Int32))), .val (.long (own_x dc (5 : Int32) pz)), .second, .val (.int (own_h dc (5 : Int32))), .val (.int (2 : Int32)), .val (.int dc), .val (.long (pz + (2 : Int64))), .second, .val (.long (pz + (dc.toInt64))), .second] []))
      refine OGo.via (fun _ k => XS.iconst X166.here hx rfl (hb hby at_365) (XS.goto X166.here hx rfl (pc0 := 366) (pc' := 370) rfl (hb hby at_366) (by decide) (by decide) k)) ?_
      show OGo _ _ _ _ (T166.setTop (mkF m 370 #[.val (.long qa), .second, .val (.long qb), .second, .val (.long ea), .second, .val (.long eb), .second, .val (.long pz), .second, .val (.int mask), .val (.ref b1), .val (.ref b17), .val (.long (own_x (2 : Int32) (4 : Int32) pz)), .second, .val (.int (own_h (2 : Int32) (4 : Int32))), .val (.long (own_x dc (5 : Int32) pz)), .second, .val (.int (own_h dc (5 : Int32))), .val (.int (2 : Int32)), .val (.int dc), .val (.long (pz + (2 : Int64))), .second, .val (.long (pz + (dc.toInt64))), .second] [(.int (1 : Int32))]))
      refine own_retN (t := .boolean) (by simp) X166 hx Bd.notSynchronized Bd.returns (hb hby at_370) (by decide) (by decide) ?_
      show Q_rm0 Z _ _ _ _ _ _ _ _ h0 n0 _ T166.heap _
      rw [r166_0]
      exact ⟨rfl, N166⟩
  · subst hd
    show OGo _ _ _ _ (T53.setTop (mkF m 178 #[.val (.long qa), .second, .val (.long qb), .second, .val (.long ea), .second, .val (.long eb), .second, .val (.long pz), .second, .val (.int mask), .val (.ref b1), .val (.ref b17), .val (.long (own_x (3 : Int32) (4 : Int32) pz)), .second, .val (.int (own_h (3 : Int32) (4 : Int32))), .unset, .unset, .unset, .unset, .unset, .unset, .unset, .unset, .unset] []))
    have f172 : Fld Z T52.heap b17 "com/example/eventloom/eventloom/engine/Forbidden" "count" "I" (.int (1 : Int32)) := r52_2
    have f173 : Fld Z T52.heap b17 "com/example/eventloom/eventloom/engine/Forbidden" "first" "I" (.int (3 : Int32)) := r52_3
    refine OGo.via (fun _ k => XS.aload X53.here hx rfl (hb hby at_178) rfl rfl (XS.lload X53.here hx rfl (hb hby at_180) rfl k)) ?_
    refine OGo.via (X53.ldc2Long hx hown (mvT hZ (own_w hw 42 rfl)) (g := (mkF m 182 #[.val (.long qa), .second, .val (.long qb), .second, .val (.long ea), .second, .val (.long eb), .second, .val (.long pz), .second, .val (.int mask), .val (.ref b1), .val (.ref b17), .val (.long (own_x (3 : Int32) (4 : Int32) pz)), .second, .val (.int (own_h (3 : Int32) (4 : Int32))), .unset, .unset, .unset, .unset, .unset, .unset, .unset, .unset, .unset] [(.long pz), (.ref b17)])) rfl (hb hby at_182)) ?_
    show OGo _ _ _ _ (T53.setTop (mkF m 185 #[.val (.long qa), .second, .val (.long qb), .second, .val (.long ea), .second, .val (.long eb), .second, .val (.long pz), .second, .val (.int mask), .val (.ref b1), .val (.ref b17), .val (.long (own_x (3 : Int32) (4 : Int32) pz)), .second, .val (.int (own_h (3 : Int32) (4 : Int32))), .unset, .unset, .unset, .unset, .unset, .unset, .unset, .unset, .unset] [(.long (4 : Int64)), (.long pz), (.ref b17)]))
    refine OGo.via (fun _ k => XS.ladd X53.here hx rfl (hb hby at_185) rfl (XS.aload X53.here hx rfl (hb hby at_186) rfl rfl (XS.iconst X53.here hx rfl (hb hby at_188) k))) ?_
    have f175 := f47.keep r48_0 (ninS (Nat.ne_of_lt lt_b1_b17) (ninS (Nat.ne_of_lt lt_b1_pa) (ninS (Nat.ne_of_lt lt_b1_ta) nin0)))
    have f176 := f175.keep r52_0 (ninS (Nat.ne_of_lt lt_b1_b17) nin0)
    obtain ⟨cl174, Ar174, q174, Sz174, Ng174, Hs174, Gf174⟩ := id f176
    have hin174 : ¬ ((4 : Int32) < 0 ∨ cl174.slots.size ≤ ((4 : Int32)).toNatClampNeg) := inb_of Sz174 ⟨by decide, by decide⟩
    have hat174 : cl174.slots[((4 : Int32)).toNatClampNeg]? = some (.long t4) := Hs174.at hin174 rfl
    refine OGo.via (X53.laload hx (j := (4 : Int32)) (v := (.long t4)) (by rw [r53_0]; exact Ar174.1) (State.isArrayOf_alike hZ.alike Ar174.2.1) Ar174.2.2 hin174 hat174 (g := (mkF m 189 #[.val (.long qa), .second, .val (.long qb), .second, .val (.long ea), .second, .val (.long eb), .second, .val (.long pz), .second, .val (.int mask), .val (.ref b1), .val (.ref b17), .val (.long (own_x (3 : Int32) (4 : Int32) pz)), .second, .val (.int (own_h (3 : Int32) (4 : Int32))), .unset, .unset, .unset, .unset, .unset, .unset, .unset, .unset, .unset] [(.int (4 : Int32)), (.ref b1), (.long (pz + (4 : Int64))), (.ref b17)])) rfl rfl (hb hby at_189)) ?_
    show OGo _ _ _ _ (T53.setTop (mkF m 190 #[.val (.long qa), .second, .val (.long qb), .second, .val (.long ea), .second, .val (.long eb), .second, .val (.long pz), .second, .val (.int mask), .val (.ref b1), .val (.ref b17), .val (.long (own_x (3 : Int32) (4 : Int32) pz)), .second, .val (.int (own_h (3 : Int32) (4 : Int32))), .unset, .unset, .unset, .unset, .unset, .unset, .unset, .unset, .unset] [(.long t4), (.long (pz + (4 : Int64))), (.ref b17)]))
    refine OGo.via (X53.ldc2Long hx hown (mvT hZ (own_w hw 16 rfl)) (g := (mkF m 190 #[.val (.long qa), .second, .val (.long qb), .second, .val (.long ea), .second, .val (.long eb), .second, .val (.long pz), .second, .val (.int mask), .val (.ref b1), .val (.ref b17), .val (.long (own_x (3 : Int32) (4 : Int32) pz)), .second, .val (.int (own_h (3 : Int32) (4 : Int32))), .unset, .unset, .unset, .unset, .unset, .unset, .unset, .unset, .unset] [(.long t4), (.long (pz + (4 : Int64))), (.ref b17)])) rfl (hb hby at_190)) ?_
    show OGo _ _ _ _ (T53.setTop (mkF m 193 #[.val (.long qa), .second, .val (.long qb), .second, .val (.long ea), .second, .val (.long eb), .second, .val (.long pz), .second, .val (.int mask), .val (.ref b1), .val (.ref b17), .val (.long (own_x (3 : Int32) (4 : Int32) pz)), .second, .val (.int (own_h (3 : Int32) (4 : Int32))), .unset, .unset, .unset, .unset, .unset, .unset, .unset, .unset, .unset] [(.long (-9223372036854775808 : Int64)), (.long t4), (.long (pz + (4 : Int64))), (.ref b17)]))
    have f178 := f49.keep r52_0 (ninS (Nat.ne_of_gt lt_b17_pa) nin0)
    have f179 := f50.keep r52_0 (ninS (Nat.ne_of_gt lt_b17_ta) nin0)
    obtain ⟨cq177, kq177, q177a, q177b, q177c⟩ := isOf hZ r53_0 r52_1
    obtain ⟨_, T177, Lc177, X177, hQ177, st177⟩ := own_open X53 (X53.virtualBack hx (y := own_y5) (z := own_y5) hown (mvT hZ (own_w hw 17 rfl)) (mvT hZ (own_w hw 18 rfl)) (notFace_of_selects (args := #[]) (mvT hZ (own_w hw 20 rfl))) (mvT hZ (own_w hw 20 rfl)) (mvT hZ (own_w hw 19 rfl)) (by decide) (backOf (W := 0) (rm3p l Z a0 hw [] b17 (pz + (4 : Int64)) t4 (1 : Int32) (3 : Int32) (4 : Int32) pa ta kp kt [(.long pz), (.long (pz + (1 : Int64))), (.long (pz + (2 : Int64))), (.long (pz + (3 : Int64)))] [(.long t0), (.long t1), (.long t2), (.long t3)] ((((1 : Int64) + (1 : Int64)) + (1 : Int64)) + (1 : Int64)) 0 t3 (pz + (3 : Int64)) T52.heap n0 (Nat.le_trans Z0 K52.1) r52_1 r52_4 r52_5 f173 f172 r52_6 f178 f179 (Nat.ne_of_lt lt_b17_pa) (Nat.ne_of_lt lt_b17_ta) (Nat.ne_of_lt r29_3) g_b17 g_pa g_ta (by decide) (by decide) rfl ⟨by decide, by decide⟩ (Nat.le_of_ble_eq_true rfl) (Nat.le_of_ble_eq_true rfl) (by decide) (by decide) ⟨by decide, by decide⟩ rfl rfl) hZ (own_w hw 21 rfl) (own_w hw 3 rfl) (by decide) (by decide)) q177a q177c (g := (mkF m 193 #[.val (.long qa), .second, .val (.long qb), .second, .val (.long ea), .second, .val (.long eb), .second, .val (.long pz), .second, .val (.int mask), .val (.ref b1), .val (.ref b17), .val (.long (own_x (3 : Int32) (4 : Int32) pz)), .second, .val (.int (own_h (3 : Int32) (4 : Int32))), .unset, .unset, .unset, .unset, .unset, .unset, .unset, .unset, .unset] [(.long (-9223372036854775808 : Int64)), (.long t4), (.long (pz + (4 : Int64))), (.ref b17)])) rfl (by rw [hml]; rfl) (Steps.refl _) (argsL := [(.long (pz + (4 : Int64))), (.long t4), (.long (-9223372036854775808 : Int64))]) (rest := []) (lenOf pd_5 rfl) rfl (by show 2 * 0 + _ ≤ _; exact Nat.le_of_eq rfl) (hb hby at_193) (fun _ _ => ⟨rfl, r53_0, (by decide : 4 + 0 ≤ _), (by decide : 20 + 0 ≤ _)⟩))
    obtain ⟨rfl, N177q, r177_0, r177_1, r177_2, r177_3, r177_4, r177_5, r177_6, r177_7, r177_8⟩ := hQ177
    have N177 := Fr.app N53 N177q
    have K177 : Keep h0 T177.heap [] := K52.trans r177_0 (allS (Or.inr sz_b17) (allS (Or.inr sz_pa) (allS (Or.inr sz_ta) all0)))
    refine OGo.via (fun _ k => st177.trans k) ?_
    show OGo _ _ _ _ (T177.setTop (mkF m 196 #[.val (.long qa), .second, .val (.long qb), .second, .val (.long ea), .second, .val (.long eb), .second, .val (.long pz), .second, .val (.int mask), .val (.ref b1), .val (.ref b17), .val (.long (own_x (3 : Int32) (4 : Int32) pz)), .second, .val (.int (own_h (3 : Int32) (4 : Int32))), .unset, .unset, .unset, .unset, .unset, .unset, .unset, .unset, .unset] []))
    have f180 : Arv Z T177.heap pa kp .long (4 : Int32) [(.long (pz + (4 : Int64))), (.long (pz + (1 : Int64))), (.long (pz + (2 : Int64))), (.long (pz + (3 : Int64)))] (.long (0 : Int64)) := r177_7
    have f181 : Arv Z T177.heap ta kt .long (4 : Int32) [(.long t4), (.long t1), (.long t2), (.long t3)] (.long (0 : Int64)) := r177_8
    have f182 : Fld Z T177.heap b17 "com/example/eventloom/eventloom/engine/Forbidden" "count" "I" (.int (2 : Int32)) := r177_5
    refine OGo.via (fun _ k => XS.aload X177.here hx rfl (hb hby at_196) rfl rfl (XS.lload X177.here hx rfl (hb hby at_198) rfl k)) ?_
    obtain ⟨cq183, kq183, q183a, q183b, q183c⟩ := isOf hZ rfl r177_1
    obtain ⟨_, T183, Lc183, X183, hQ183, st183⟩ := own_open X177 (X177.virtualBack hx (y := own_y4) (z := own_y4) hown (mvT hZ (own_w hw 36 rfl)) (mvT hZ (own_w hw 23 rfl)) (notFace_of_selects (args := #[]) (mvT hZ (own_w hw 25 rfl))) (mvT hZ (own_w hw 25 rfl)) (mvT hZ (own_w hw 24 rfl)) (by decide) (backOf (W := 0) (rm4b3 l Z a0 hw [] b17 eb pa ta kp kt (((((1 : Int64) + (1 : Int64)) + (1 : Int64)) + (1 : Int64)) + (1 : Int64)) pz t0 t1 t2 t3 t4 T177.heap n0 (Nat.le_trans Z0 K177.1) r177_1 r177_2 r177_3 r177_4 f182 r177_6 f180 f181 (Nat.ne_of_lt lt_b17_pa) (Nat.ne_of_lt lt_b17_ta) g_b17) hZ (own_w hw 26 rfl) (own_w hw 3 rfl) (by decide) (by decide)) q183a q183c (g := (mkF m 200 #[.val (.long qa), .second, .val (.long qb), .second, .val (.long ea), .second, .val (.long eb), .second, .val (.long pz), .second, .val (.int mask), .val (.ref b1), .val (.ref b17), .val (.long (own_x (3 : Int32) (4 : Int32) pz)), .second, .val (.int (own_h (3 : Int32) (4 : Int32))), .unset, .unset, .unset, .unset, .unset, .unset, .unset, .unset, .unset] [(.long eb), (.ref b17)])) rfl (by rw [hml]; rfl) (Steps.refl _) (argsL := [(.long eb)]) (rest := []) (lenOf pd_2 rfl) rfl (by show 2 * 0 + _ ≤ _; exact Nat.le_of_eq rfl) (hb hby at_200) (fun _ _ => ⟨rfl, rfl, (by decide : 4 + 0 ≤ _), (by decide : 20 + 0 ≤ _)⟩))
    obtain ⟨rfl, N183q, r183_0, r183_1, r183_2⟩ := hQ183
    have N183 := Fr.app N177 N183q
    have K183 : Keep h0 T183.heap [] := K177.trans r183_0 (allS (Or.inr sz_b17) all0)
    refine OGo.via (fun _ k => st183.trans k) ?_
    show OGo _ _ _ _ (T183.setTop (mkF m 203 #[.val (.long qa), .second, .val (.long qb), .second, .val (.long ea), .second, .val (.long eb), .second, .val (.long pz), .second, .val (.int mask), .val (.ref b1), .val (.ref b17), .val (.long (own_x (3 : Int32) (4 : Int32) pz)), .second, .val (.int (own_h (3 : Int32) (4 : Int32))), .unset, .unset, .unset, .unset, .unset, .unset, .unset, .unset, .unset] [(.long (own_x (own_adv (own_adv (own_adv (own_adv (own_adv (3 : Int32) (5 : Int32) t0 t1 t2 t3 t4 eb) (5 : Int32) t0 t1 t2 t3 t4 eb) (5 : Int32) t0 t1 t2 t3 t4 eb) (5 : Int32) t0 t1 t2 t3 t4 eb) (5 : Int32) t0 t1 t2 t3 t4 eb) (5 : Int32) pz))]))
    show OGo _ _ _ _ (T183.setTop (mkF m 203 #[.val (.long qa), .second, .val (.long qb), .second, .val (.long ea), .second, .val (.long eb), .second, .val (.long pz), .second, .val (.int mask), .val (.ref b1), .val (.ref b17), .val (.long (own_x (3 : Int32) (4 : Int32) pz)), .second, .val (.int (own_h (3 : Int32) (4 : Int32))), .unset, .unset, .unset, .unset, .unset, .unset, .unset, .unset, .unset] [(.long (own_x (own_adv (own_adv (own_adv (own_adv (own_adv (3 : Int32) (5 : Int32) t0 t1 t2 t3 t4 eb) (5 : Int32) t0 t1 t2 t3 t4 eb) (5 : Int32) t0 t1 t2 t3 t4 eb) (5 : Int32) t0 t1 t2 t3 t4 eb) (5 : Int32) t0 t1 t2 t3 t4 eb) (5 : Int32) pz))]))
    obtain ⟨dc, hdc⟩ : ∃ z, z = (own_adv (own_adv (own_adv (own_adv (own_adv (3 : Int32) (5 : Int32) t0 t1 t2 t3 t4 eb) (5 : Int32) t0 t1 t2 t3 t4 eb) (5 : Int32) t0 t1 t2 t3 t4 eb) (5 : Int32) t0 t1 t2 t3 t4 eb) (5 : Int32) t0 t1 t2 t3 t4 eb) := ⟨_, rfl⟩
    rw [← hdc]
    rw [← hdc] at r183_2
    show OGo _ _ _ _ (T183.setTop (mkF m 203 #[.val (.long qa), .second, .val (.long qb), .second, .val (.long ea), .second, .val (.long eb), .second, .val (.long pz), .second, .val (.int mask), .val (.ref b1), .val (.ref b17), .val (.long (own_x (3 : Int32) (4 : Int32) pz)), .second, .val (.int (own_h (3 : Int32) (4 : Int32))), .unset, .unset, .unset, .unset, .unset, .unset, .unset, .unset, .unset] [(.long (own_x dc (5 : Int32) pz))]))
    refine OGo.via (fun _ k => XS.lstore X183.here hx rfl (hb hby at_203) rfl (l' := #[.val (.long qa), .second, .val (.long qb), .second, .val (.long ea), .second, .val (.long eb), .second, .val (.long pz), .second, .val (.int mask), .val (.ref b1), .val (.ref b17), .val (.long (own_x (3 : Int32) (4 : Int32) pz)), .second, .val (.int (own_h (3 : Int32) (4 : Int32))), .val (.long (own_x dc (5 : Int32) pz)), .second, .unset, .unset, .unset, .unset, .unset, .unset, .unset]) rfl (XS.aload X183.here hx rfl (hb hby at_205) rfl rfl k)) ?_
    obtain ⟨cq184, kq184, q184a, q184b, q184c⟩ := isOf hZ rfl r183_1
    obtain ⟨_, T184, Lc184, X184, hQ184, st184⟩ := own_open X183 (X183.virtualBack hx (y := own_y6) (z := own_y6) hown (mvT hZ (own_w hw 37 rfl)) (mvT hZ (own_w hw 38 rfl)) (notFace_of_selects (args := #[]) (mvT hZ (own_w hw 40 rfl))) (mvT hZ (own_w hw 40 rfl)) (mvT hZ (own_w hw 39 rfl)) (by decide) (backOf (W := 0) (rm5 l Z a0 hw [] b17 (own_h dc (5 : Int32)) T183.heap n0 (Nat.le_trans Z0 K183.1) r183_2) hZ (own_w hw 41 rfl) (own_w hw 3 rfl) (by decide) (by decide)) q184a q184c (g := (mkF m 207 #[.val (.long qa), .second, .val (.long qb), .second, .val (.long ea), .second, .val (.long eb), .second, .val (.long pz), .second, .val (.int mask), .val (.ref b1), .val (.ref b17), .val (.long (own_x (3 : Int32) (4 : Int32) pz)), .second, .val (.int (own_h (3 : Int32) (4 : Int32))), .val (.long (own_x dc (5 : Int32) pz)), .second, .unset, .unset, .unset, .unset, .unset, .unset, .unset] [(.ref b17)])) rfl (by rw [hml]; rfl) (Steps.refl _) (argsL := []) (rest := []) (lenOf pd_6 rfl) rfl (by show 2 * 0 + _ ≤ _; exact Nat.le_of_eq rfl) (hb hby at_207) (fun _ _ => ⟨rfl, rfl, (by decide : 4 + 0 ≤ _), (by decide : 20 + 0 ≤ _)⟩))
    obtain ⟨rfl, N184q, r184_0⟩ := hQ184
    have N184 := Fr.app N183 N184q
    refine OGo.via (fun _ k => st184.trans k) ?_
    show OGo _ _ _ _ (T184.setTop (mkF m 210 #[.val (.long qa), .second, .val (.long qb), .second, .val (.long ea), .second, .val (.long eb), .second, .val (.long pz), .second, .val (.int mask), .val (.ref b1), .val (.ref b17), .val (.long (own_x (3 : Int32) (4 : Int32) pz)), .second, .val (.int (own_h (3 : Int32) (4 : Int32))), .val (.long (own_x dc (5 : Int32) pz)), .second, .unset, .unset, .unset, .unset, .unset, .unset, .unset] [(.int (own_h dc (5 : Int32)))]))
    refine OGo.via (fun _ k => XS.istore X184.here hx rfl (hb hby at_210) rfl (l' := #[.val (.long qa), .second, .val (.long qb), .second, .val (.long ea), .second, .val (.long eb), .second, .val (.long pz), .second, .val (.int mask), .val (.ref b1), .val (.ref b17), .val (.long (own_x (3 : Int32) (4 : Int32) pz)), .second, .val (.int (own_h (3 : Int32) (4 : Int32))), .val (.long (own_x dc (5 : Int32) pz)), .second, .val (.int (own_h dc (5 : Int32))), .unset, .unset, .unset, .unset, .unset, .unset]) rfl (XS.iconst X184.here hx rfl (hb hby at_212) (XS.iconst X184.here hx rfl (hb hby at_213) (XS.aload X184.here hx rfl (hb hby at_214) rfl rfl (XS.lload X184.here hx rfl (hb hby at_216) rfl k))))) ?_
    have f186 := f176.keep r177_0 (ninS (Nat.ne_of_lt lt_b1_b17) (ninS (Nat.ne_of_lt lt_b1_pa) (ninS (Nat.ne_of_lt lt_b1_ta) nin0)))
    have f187 := f186.keep r183_0 (ninS (Nat.ne_of_lt lt_b1_b17) nin0)
    obtain ⟨_, T185, Lc185, X185, hQ185, st185⟩ := own_open X184 (Jvm.LawKit.callS X184 hx (y := own_y7) hown (mvT hZ (own_w hw 60 rfl)) (mvT hZ (own_w hw 61 rfl)) (mvT hZ (own_w hw 62 rfl)) (mvT hZ (own_w hw 63 rfl)) (by decide) (backOf (W := 0) (rm9 l Z a0 hw [] (0 : Int32) (4 : Int32) b1 ea ka1 t0 t1 t2 t3 t4 T183.heap n0 (Nat.le_trans Z0 K183.1) f187 (by decide) (by decide)) hZ (own_w hw 63 rfl) (own_w hw 62 rfl) (by decide) (by decide)) (g := (mkF m 218 #[.val (.long qa), .second, .val (.long qb), .second, .val (.long ea), .second, .val (.long eb), .second, .val (.long pz), .second, .val (.int mask), .val (.ref b1), .val (.ref b17), .val (.long (own_x (3 : Int32) (4 : Int32) pz)), .second, .val (.int (own_h (3 : Int32) (4 : Int32))), .val (.long (own_x dc (5 : Int32) pz)), .second, .val (.int (own_h dc (5 : Int32))), .unset, .unset, .unset, .unset, .unset, .unset] [(.long ea), (.ref b1), (.int (4 : Int32)), (.int (0 : Int32))])) rfl (by rw [hml]; rfl) (argsL := [(.int (0 : Int32)), (.int (4 : Int32)), (.ref b1), (.long ea)]) (rest := []) (lenOf pd_7 rfl) rfl (by show 2 * 0 + _ ≤ _; exact Nat.le_of_eq rfl) (hb hby at_218) (fun _ _ => ⟨rfl, r184_0, (by decide : 4 + 0 ≤ _), (by decide : 20 + 0 ≤ _)⟩))
    obtain ⟨rfl, N185q, r185_0⟩ := hQ185
    have N185 := Fr.app N184 N185q
    refine OGo.via st185 ?_
    show OGo _ _ _ _ (T185.setTop (mkF m 221 #[.val (.long qa), .second, .val (.long qb), .second, .val (.long ea), .second, .val (.long eb), .second, .val (.long pz), .second, .val (.int mask), .val (.ref b1), .val (.ref b17), .val (.long (own_x (3 : Int32) (4 : Int32) pz)), .second, .val (.int (own_h (3 : Int32) (4 : Int32))), .val (.long (own_x dc (5 : Int32) pz)), .second, .val (.int (own_h dc (5 : Int32))), .unset, .unset, .unset, .unset, .unset, .unset] [(.int (own_adv (0 : Int32) (4 : Int32) t0 t1 t2 t3 t4 ea))]))
    obtain ⟨v188, hv188⟩ : ∃ z, z = (own_adv (0 : Int32) (4 : Int32) t0 t1 t2 t3 t4 ea) := ⟨_, rfl⟩
    rw [← hv188]
    have hnv188 : ¬ v188 < 0 := by rw [hv188]; exact own_adv_nn (by decide) (by decide)
    show OGo _ _ _ _ (T185.setTop (mkF m 221 #[.val (.long qa), .second, .val (.long qb), .second, .val (.long ea), .second, .val (.long eb), .second, .val (.long pz), .second, .val (.int mask), .val (.ref b1), .val (.ref b17), .val (.long (own_x (3 : Int32) (4 : Int32) pz)), .second, .val (.int (own_h (3 : Int32) (4 : Int32))), .val (.long (own_x dc (5 : Int32) pz)), .second, .val (.int (own_h dc (5 : Int32))), .unset, .unset, .unset, .unset, .unset, .unset] [(.int v188)]))
    refine OGo.via (fun _ k => XS.iconst X185.here hx rfl (hb hby at_221) (XS.aload X185.here hx rfl (hb hby at_222) rfl rfl (XS.lload X185.here hx rfl (hb hby at_224) rfl k))) ?_
    obtain ⟨_, T189, Lc189, X189, hQ189, st189⟩ := own_open X185 (Jvm.LawKit.callS X185 hx (y := own_y7) hown (mvT hZ (own_w hw 60 rfl)) (mvT hZ (own_w hw 61 rfl)) (mvT hZ (own_w hw 62 rfl)) (mvT hZ (own_w hw 63 rfl)) (by decide) (backOf (W := 0) (rm9 l Z a0 hw [] v188 (4 : Int32) b1 ea ka1 t0 t1 t2 t3 t4 T183.heap n0 (Nat.le_trans Z0 K183.1) f187 hnv188 (by decide)) hZ (own_w hw 63 rfl) (own_w hw 62 rfl) (by decide) (by decide)) (g := (mkF m 226 #[.val (.long qa), .second, .val (.long qb), .second, .val (.long ea), .second, .val (.long eb), .second, .val (.long pz), .second, .val (.int mask), .val (.ref b1), .val (.ref b17), .val (.long (own_x (3 : Int32) (4 : Int32) pz)), .second, .val (.int (own_h (3 : Int32) (4 : Int32))), .val (.long (own_x dc (5 : Int32) pz)), .second, .val (.int (own_h dc (5 : Int32))), .unset, .unset, .unset, .unset, .unset, .unset] [(.long ea), (.ref b1), (.int (4 : Int32)), (.int v188)])) rfl (by rw [hml]; rfl) (argsL := [(.int v188), (.int (4 : Int32)), (.ref b1), (.long ea)]) (rest := []) (lenOf pd_7 rfl) rfl (by show 2 * 0 + _ ≤ _; exact Nat.le_of_eq rfl) (hb hby at_226) (fun _ _ => ⟨rfl, r185_0, (by decide : 4 + 0 ≤ _), (by decide : 20 + 0 ≤ _)⟩))
    obtain ⟨rfl, N189q, r189_0⟩ := hQ189
    have N189 := Fr.app N185 N189q
    refine OGo.via st189 ?_
    show OGo _ _ _ _ (T189.setTop (mkF m 229 #[.val (.long qa), .second, .val (.long qb), .second, .val (.long ea), .second, .val (.long eb), .second, .val (.long pz), .second, .val (.int mask), .val (.ref b1), .val (.ref b17), .val (.long (own_x (3 : Int32) (4 : Int32) pz)), .second, .val (.int (own_h (3 : Int32) (4 : Int32))), .val (.long (own_x dc (5 : Int32) pz)), .second, .val (.int (own_h dc (5 : Int32))), .unset, .unset, .unset, .unset, .unset, .unset] [(.int (own_adv v188 (4 : Int32) t0 t1 t2 t3 t4 ea))]))
    obtain ⟨v190, hv190⟩ : ∃ z, z = (own_adv v188 (4 : Int32) t0 t1 t2 t3 t4 ea) := ⟨_, rfl⟩
    rw [← hv190]
    have hnv190 : ¬ v190 < 0 := by rw [hv190]; exact own_adv_nn hnv188 (by decide)
    show OGo _ _ _ _ (T189.setTop (mkF m 229 #[.val (.long qa), .second, .val (.long qb), .second, .val (.long ea), .second, .val (.long eb), .second, .val (.long pz), .second, .val (.int mask), .val (.ref b1), .val (.ref b17), .val (.long (own_x (3 : Int32) (4 : Int32) pz)), .second, .val (.int (own_h (3 : Int32) (4 : Int32))), .val (.long (own_x dc (5 : Int32) pz)), .second, .val (.int (own_h dc (5 : Int32))), .unset, .unset, .unset, .unset, .unset, .unset] [(.int v190)]))
    refine OGo.via (fun _ k => XS.iconst X189.here hx rfl (hb hby at_229) (XS.aload X189.here hx rfl (hb hby at_230) rfl rfl (XS.lload X189.here hx rfl (hb hby at_232) rfl k))) ?_
    obtain ⟨_, T191, Lc191, X191, hQ191, st191⟩ := own_open X189 (Jvm.LawKit.callS X189 hx (y := own_y7) hown (mvT hZ (own_w hw 60 rfl)) (mvT hZ (own_w hw 61 rfl)) (mvT hZ (own_w hw 62 rfl)) (mvT hZ (own_w hw 63 rfl)) (by decide) (backOf (W := 0) (rm9 l Z a0 hw [] v190 (4 : Int32) b1 ea ka1 t0 t1 t2 t3 t4 T183.heap n0 (Nat.le_trans Z0 K183.1) f187 hnv190 (by decide)) hZ (own_w hw 63 rfl) (own_w hw 62 rfl) (by decide) (by decide)) (g := (mkF m 234 #[.val (.long qa), .second, .val (.long qb), .second, .val (.long ea), .second, .val (.long eb), .second, .val (.long pz), .second, .val (.int mask), .val (.ref b1), .val (.ref b17), .val (.long (own_x (3 : Int32) (4 : Int32) pz)), .second, .val (.int (own_h (3 : Int32) (4 : Int32))), .val (.long (own_x dc (5 : Int32) pz)), .second, .val (.int (own_h dc (5 : Int32))), .unset, .unset, .unset, .unset, .unset, .unset] [(.long ea), (.ref b1), (.int (4 : Int32)), (.int v190)])) rfl (by rw [hml]; rfl) (argsL := [(.int v190), (.int (4 : Int32)), (.ref b1), (.long ea)]) (rest := []) (lenOf pd_7 rfl) rfl (by show 2 * 0 + _ ≤ _; exact Nat.le_of_eq rfl) (hb hby at_234) (fun _ _ => ⟨rfl, r189_0, (by decide : 4 + 0 ≤ _), (by decide : 20 + 0 ≤ _)⟩))
    obtain ⟨rfl, N191q, r191_0⟩ := hQ191
    have N191 := Fr.app N189 N191q
    refine OGo.via st191 ?_
    show OGo _ _ _ _ (T191.setTop (mkF m 237 #[.val (.long qa), .second, .val (.long qb), .second, .val (.long ea), .second, .val (.long eb), .second, .val (.long pz), .second, .val (.int mask), .val (.ref b1), .val (.ref b17), .val (.long (own_x (3 : Int32) (4 : Int32) pz)), .second, .val (.int (own_h (3 : Int32) (4 : Int32))), .val (.long (own_x dc (5 : Int32) pz)), .second, .val (.int (own_h dc (5 : Int32))), .unset, .unset, .unset, .unset, .unset, .unset] [(.int (own_adv v190 (4 : Int32) t0 t1 t2 t3 t4 ea))]))
    obtain ⟨v192, hv192⟩ : ∃ z, z = (own_adv v190 (4 : Int32) t0 t1 t2 t3 t4 ea) := ⟨_, rfl⟩
    rw [← hv192]
    have hnv192 : ¬ v192 < 0 := by rw [hv192]; exact own_adv_nn hnv190 (by decide)
    show OGo _ _ _ _ (T191.setTop (mkF m 237 #[.val (.long qa), .second, .val (.long qb), .second, .val (.long ea), .second, .val (.long eb), .second, .val (.long pz), .second, .val (.int mask), .val (.ref b1), .val (.ref b17), .val (.long (own_x (3 : Int32) (4 : Int32) pz)), .second, .val (.int (own_h (3 : Int32) (4 : Int32))), .val (.long (own_x dc (5 : Int32) pz)), .second, .val (.int (own_h dc (5 : Int32))), .unset, .unset, .unset, .unset, .unset, .unset] [(.int v192)]))
    refine OGo.via (fun _ k => XS.iconst X191.here hx rfl (hb hby at_237) (XS.aload X191.here hx rfl (hb hby at_238) rfl rfl (XS.lload X191.here hx rfl (hb hby at_240) rfl k))) ?_
    obtain ⟨_, T193, Lc193, X193, hQ193, st193⟩ := own_open X191 (Jvm.LawKit.callS X191 hx (y := own_y7) hown (mvT hZ (own_w hw 60 rfl)) (mvT hZ (own_w hw 61 rfl)) (mvT hZ (own_w hw 62 rfl)) (mvT hZ (own_w hw 63 rfl)) (by decide) (backOf (W := 0) (rm9 l Z a0 hw [] v192 (4 : Int32) b1 ea ka1 t0 t1 t2 t3 t4 T183.heap n0 (Nat.le_trans Z0 K183.1) f187 hnv192 (by decide)) hZ (own_w hw 63 rfl) (own_w hw 62 rfl) (by decide) (by decide)) (g := (mkF m 242 #[.val (.long qa), .second, .val (.long qb), .second, .val (.long ea), .second, .val (.long eb), .second, .val (.long pz), .second, .val (.int mask), .val (.ref b1), .val (.ref b17), .val (.long (own_x (3 : Int32) (4 : Int32) pz)), .second, .val (.int (own_h (3 : Int32) (4 : Int32))), .val (.long (own_x dc (5 : Int32) pz)), .second, .val (.int (own_h dc (5 : Int32))), .unset, .unset, .unset, .unset, .unset, .unset] [(.long ea), (.ref b1), (.int (4 : Int32)), (.int v192)])) rfl (by rw [hml]; rfl) (argsL := [(.int v192), (.int (4 : Int32)), (.ref b1), (.long ea)]) (rest := []) (lenOf pd_7 rfl) rfl (by show 2 * 0 + _ ≤ _; exact Nat.le_of_eq rfl) (hb hby at_242) (fun _ _ => ⟨rfl, r191_0, (by decide : 4 + 0 ≤ _), (by decide : 20 + 0 ≤ _)⟩))
    obtain ⟨rfl, N193q, r193_0⟩ := hQ193
    have N193 := Fr.app N191 N193q
    refine OGo.via st193 ?_
    show OGo _ _ _ _ (T193.setTop (mkF m 245 #[.val (.long qa), .second, .val (.long qb), .second, .val (.long ea), .second, .val (.long eb), .second, .val (.long pz), .second, .val (.int mask), .val (.ref b1), .val (.ref b17), .val (.long (own_x (3 : Int32) (4 : Int32) pz)), .second, .val (.int (own_h (3 : Int32) (4 : Int32))), .val (.long (own_x dc (5 : Int32) pz)), .second, .val (.int (own_h dc (5 : Int32))), .unset, .unset, .unset, .unset, .unset, .unset] [(.int (own_adv v192 (4 : Int32) t0 t1 t2 t3 t4 ea))]))
    obtain ⟨v194, hv194⟩ : ∃ z, z = (own_adv v192 (4 : Int32) t0 t1 t2 t3 t4 ea) := ⟨_, rfl⟩
    rw [← hv194]
    have hnv194 : ¬ v194 < 0 := by rw [hv194]; exact own_adv_nn hnv192 (by decide)
    show OGo _ _ _ _ (T193.setTop (mkF m 245 #[.val (.long qa), .second, .val (.long qb), .second, .val (.long ea), .second, .val (.long eb), .second, .val (.long pz), .second, .val (.int mask), .val (.ref b1), .val (.ref b17), .val (.long (own_x (3 : Int32) (4 : Int32) pz)), .second, .val (.int (own_h (3 : Int32) (4 : Int32))), .val (.long (own_x dc (5 : Int32) pz)), .second, .val (.int (own_h dc (5 : Int32))), .unset, .unset, .unset, .unset, .unset, .unset] [(.int v194)]))
    have hd' : v194 = (3 : Int32) := by rw [hv194, hv192, hv190, hv188]; exact hdd.symm
    rw [hd']
    show OGo _ _ _ _ (T193.setTop (mkF m 245 #[.val (.long qa), .second, .val (.long qb), .second, .val (.long ea), .second, .val (.long eb), .second, .val (.long pz), .second, .val (.int mask), .val (.ref b1), .val (.ref b17), .val (.long (own_x (3 : Int32) (4 : Int32) pz)), .second, .val (.int (own_h (3 : Int32) (4 : Int32))), .val (.long (own_x dc (5 : Int32) pz)), .second, .val (.int (own_h dc (5 : Int32))), .unset, .unset, .unset, .unset, .unset, .unset] [(.int (3 : Int32))]))
    refine OGo.via (fun _ k => XS.istore X193.here hx rfl (hb hby at_245) rfl (l' := #[.val (.long qa), .second, .val (.long qb), .second, .val (.long ea), .second, .val (.long eb), .second, .val (.long pz), .second, .val (.int mask), .val (.ref b1), .val (.ref b17), .val (.long (own_x (3 : Int32) (4 : Int32) pz)), .second, .val (.int (own_h (3 : Int32) (4 : Int32))), .val (.long (own_x dc (5 : Int32) pz)), .second, .val (.int (own_h dc (5 : Int32))), .val (.int (3 : Int32)), .unset, .unset, .unset, .unset, .unset]) rfl (XS.iload X193.here hx rfl (hb hby at_247) rfl (XS.iconst X193.here hx rfl (hb hby at_249) (XS.aload X193.here hx rfl (hb hby at_250) rfl rfl (XS.lload X193.here hx rfl (hb hby at_252) rfl k))))) ?_
    obtain ⟨_, T195, Lc195, X195, hQ195, st195⟩ := own_open X193 (Jvm.LawKit.callS X193 hx (y := own_y7) hown (mvT hZ (own_w hw 60 rfl)) (mvT hZ (own_w hw 61 rfl)) (mvT hZ (own_w hw 62 rfl)) (mvT hZ (own_w hw 63 rfl)) (by decide) (backOf (W := 0) (rm9 l Z a0 hw [] (3 : Int32) (5 : Int32) b1 eb ka1 t0 t1 t2 t3 t4 T183.heap n0 (Nat.le_trans Z0 K183.1) f187 (by decide) (by decide)) hZ (own_w hw 63 rfl) (own_w hw 62 rfl) (by decide) (by decide)) (g := (mkF m 254 #[.val (.long qa), .second, .val (.long qb), .second, .val (.long ea), .second, .val (.long eb), .second, .val (.long pz), .second, .val (.int mask), .val (.ref b1), .val (.ref b17), .val (.long (own_x (3 : Int32) (4 : Int32) pz)), .second, .val (.int (own_h (3 : Int32) (4 : Int32))), .val (.long (own_x dc (5 : Int32) pz)), .second, .val (.int (own_h dc (5 : Int32))), .val (.int (3 : Int32)), .unset, .unset, .unset, .unset, .unset] [(.long eb), (.ref b1), (.int (5 : Int32)), (.int (3 : Int32))])) rfl (by rw [hml]; rfl) (argsL := [(.int (3 : Int32)), (.int (5 : Int32)), (.ref b1), (.long eb)]) (rest := []) (lenOf pd_7 rfl) rfl (by show 2 * 0 + _ ≤ _; exact Nat.le_of_eq rfl) (hb hby at_254) (fun _ _ => ⟨rfl, r193_0, (by decide : 4 + 0 ≤ _), (by decide : 20 + 0 ≤ _)⟩))
    obtain ⟨rfl, N195q, r195_0⟩ := hQ195
    have N195 := Fr.app N193 N195q
    refine OGo.via st195 ?_
    show OGo _ _ _ _ (T195.setTop (mkF m 257 #[.val (.long qa), .second, .val (.long qb), .second, .val (.long ea), .second, .val (.long eb), .second, .val (.long pz), .second, .val (.int mask), .val (.ref b1), .val (.ref b17), .val (.long (own_x (3 : Int32) (4 : Int32) pz)), .second, .val (.int (own_h (3 : Int32) (4 : Int32))), .val (.long (own_x dc (5 : Int32) pz)), .second, .val (.int (own_h dc (5 : Int32))), .val (.int (3 : Int32)), .unset, .unset, .unset, .unset, .unset] [(.int (own_adv (3 : Int32) (5 : Int32) t0 t1 t2 t3 t4 eb))]))
    obtain ⟨v196, hv196⟩ : ∃ z, z = (own_adv (3 : Int32) (5 : Int32) t0 t1 t2 t3 t4 eb) := ⟨_, rfl⟩
    rw [← hv196]
    have hnv196 : ¬ v196 < 0 := by rw [hv196]; exact own_adv_nn (by decide) (by decide)
    show OGo _ _ _ _ (T195.setTop (mkF m 257 #[.val (.long qa), .second, .val (.long qb), .second, .val (.long ea), .second, .val (.long eb), .second, .val (.long pz), .second, .val (.int mask), .val (.ref b1), .val (.ref b17), .val (.long (own_x (3 : Int32) (4 : Int32) pz)), .second, .val (.int (own_h (3 : Int32) (4 : Int32))), .val (.long (own_x dc (5 : Int32) pz)), .second, .val (.int (own_h dc (5 : Int32))), .val (.int (3 : Int32)), .unset, .unset, .unset, .unset, .unset] [(.int v196)]))
    refine OGo.via (fun _ k => XS.iconst X195.here hx rfl (hb hby at_257) (XS.aload X195.here hx rfl (hb hby at_258) rfl rfl (XS.lload X195.here hx rfl (hb hby at_260) rfl k))) ?_
    obtain ⟨_, T197, Lc197, X197, hQ197, st197⟩ := own_open X195 (Jvm.LawKit.callS X195 hx (y := own_y7) hown (mvT hZ (own_w hw 60 rfl)) (mvT hZ (own_w hw 61 rfl)) (mvT hZ (own_w hw 62 rfl)) (mvT hZ (own_w hw 63 rfl)) (by decide) (backOf (W := 0) (rm9 l Z a0 hw [] v196 (5 : Int32) b1 eb ka1 t0 t1 t2 t3 t4 T183.heap n0 (Nat.le_trans Z0 K183.1) f187 hnv196 (by decide)) hZ (own_w hw 63 rfl) (own_w hw 62 rfl) (by decide) (by decide)) (g := (mkF m 262 #[.val (.long qa), .second, .val (.long qb), .second, .val (.long ea), .second, .val (.long eb), .second, .val (.long pz), .second, .val (.int mask), .val (.ref b1), .val (.ref b17), .val (.long (own_x (3 : Int32) (4 : Int32) pz)), .second, .val (.int (own_h (3 : Int32) (4 : Int32))), .val (.long (own_x dc (5 : Int32) pz)), .second, .val (.int (own_h dc (5 : Int32))), .val (.int (3 : Int32)), .unset, .unset, .unset, .unset, .unset] [(.long eb), (.ref b1), (.int (5 : Int32)), (.int v196)])) rfl (by rw [hml]; rfl) (argsL := [(.int v196), (.int (5 : Int32)), (.ref b1), (.long eb)]) (rest := []) (lenOf pd_7 rfl) rfl (by show 2 * 0 + _ ≤ _; exact Nat.le_of_eq rfl) (hb hby at_262) (fun _ _ => ⟨rfl, r195_0, (by decide : 4 + 0 ≤ _), (by decide : 20 + 0 ≤ _)⟩))
    obtain ⟨rfl, N197q, r197_0⟩ := hQ197
    have N197 := Fr.app N195 N197q
    refine OGo.via st197 ?_
    show OGo _ _ _ _ (T197.setTop (mkF m 265 #[.val (.long qa), .second, .val (.long qb), .second, .val (.long ea), .second, .val (.long eb), .second, .val (.long pz), .second, .val (.int mask), .val (.ref b1), .val (.ref b17), .val (.long (own_x (3 : Int32) (4 : Int32) pz)), .second, .val (.int (own_h (3 : Int32) (4 : Int32))), .val (.long (own_x dc (5 : Int32) pz)), .second, .val (.int (own_h dc (5 : Int32))), .val (.int (3 : Int32)), .unset, .unset, .unset, .unset, .unset] [(.int (own_adv v196 (5 : Int32) t0 t1 t2 t3 t4 eb))]))
    obtain ⟨v198, hv198⟩ : ∃ z, z = (own_adv v196 (5 : Int32) t0 t1 t2 t3 t4 eb) := ⟨_, rfl⟩
    rw [← hv198]
    have hnv198 : ¬ v198 < 0 := by rw [hv198]; exact own_adv_nn hnv196 (by decide)
    show OGo _ _ _ _ (T197.setTop (mkF m 265 #[.val (.long qa), .second, .val (.long qb), .second, .val (.long ea), .second, .val (.long eb), .second, .val (.long pz), .second, .val (.int mask), .val (.ref b1), .val (.ref b17), .val (.long (own_x (3 : Int32) (4 : Int32) pz)), .second, .val (.int (own_h (3 : Int32) (4 : Int32))), .val (.long (own_x dc (5 : Int32) pz)), .second, .val (.int (own_h dc (5 : Int32))), .val (.int (3 : Int32)), .unset, .unset, .unset, .unset, .unset] [(.int v198)]))
    refine OGo.via (fun _ k => XS.iconst X197.here hx rfl (hb hby at_265) (XS.aload X197.here hx rfl (hb hby at_266) rfl rfl (XS.lload X197.here hx rfl (hb hby at_268) rfl k))) ?_
    obtain ⟨_, T199, Lc199, X199, hQ199, st199⟩ := own_open X197 (Jvm.LawKit.callS X197 hx (y := own_y7) hown (mvT hZ (own_w hw 60 rfl)) (mvT hZ (own_w hw 61 rfl)) (mvT hZ (own_w hw 62 rfl)) (mvT hZ (own_w hw 63 rfl)) (by decide) (backOf (W := 0) (rm9 l Z a0 hw [] v198 (5 : Int32) b1 eb ka1 t0 t1 t2 t3 t4 T183.heap n0 (Nat.le_trans Z0 K183.1) f187 hnv198 (by decide)) hZ (own_w hw 63 rfl) (own_w hw 62 rfl) (by decide) (by decide)) (g := (mkF m 270 #[.val (.long qa), .second, .val (.long qb), .second, .val (.long ea), .second, .val (.long eb), .second, .val (.long pz), .second, .val (.int mask), .val (.ref b1), .val (.ref b17), .val (.long (own_x (3 : Int32) (4 : Int32) pz)), .second, .val (.int (own_h (3 : Int32) (4 : Int32))), .val (.long (own_x dc (5 : Int32) pz)), .second, .val (.int (own_h dc (5 : Int32))), .val (.int (3 : Int32)), .unset, .unset, .unset, .unset, .unset] [(.long eb), (.ref b1), (.int (5 : Int32)), (.int v198)])) rfl (by rw [hml]; rfl) (argsL := [(.int v198), (.int (5 : Int32)), (.ref b1), (.long eb)]) (rest := []) (lenOf pd_7 rfl) rfl (by show 2 * 0 + _ ≤ _; exact Nat.le_of_eq rfl) (hb hby at_270) (fun _ _ => ⟨rfl, r197_0, (by decide : 4 + 0 ≤ _), (by decide : 20 + 0 ≤ _)⟩))
    obtain ⟨rfl, N199q, r199_0⟩ := hQ199
    have N199 := Fr.app N197 N199q
    refine OGo.via st199 ?_
    show OGo _ _ _ _ (T199.setTop (mkF m 273 #[.val (.long qa), .second, .val (.long qb), .second, .val (.long ea), .second, .val (.long eb), .second, .val (.long pz), .second, .val (.int mask), .val (.ref b1), .val (.ref b17), .val (.long (own_x (3 : Int32) (4 : Int32) pz)), .second, .val (.int (own_h (3 : Int32) (4 : Int32))), .val (.long (own_x dc (5 : Int32) pz)), .second, .val (.int (own_h dc (5 : Int32))), .val (.int (3 : Int32)), .unset, .unset, .unset, .unset, .unset] [(.int (own_adv v198 (5 : Int32) t0 t1 t2 t3 t4 eb))]))
    obtain ⟨v200, hv200⟩ : ∃ z, z = (own_adv v198 (5 : Int32) t0 t1 t2 t3 t4 eb) := ⟨_, rfl⟩
    rw [← hv200]
    have hnv200 : ¬ v200 < 0 := by rw [hv200]; exact own_adv_nn hnv198 (by decide)
    show OGo _ _ _ _ (T199.setTop (mkF m 273 #[.val (.long qa), .second, .val (.long qb), .second, .val (.long ea), .second, .val (.long eb), .second, .val (.long pz), .second, .val (.int mask), .val (.ref b1), .val (.ref b17), .val (.long (own_x (3 : Int32) (4 : Int32) pz)), .second, .val (.int (own_h (3 : Int32) (4 : Int32))), .val (.long (own_x dc (5 : Int32) pz)), .second, .val (.int (own_h dc (5 : Int32))), .val (.int (3 : Int32)), .unset, .unset, .unset, .unset, .unset] [(.int v200)]))
    refine OGo.via (fun _ k => XS.iconst X199.here hx rfl (hb hby at_273) (XS.aload X199.here hx rfl (hb hby at_274) rfl rfl (XS.lload X199.here hx rfl (hb hby at_276) rfl k))) ?_
    obtain ⟨_, T201, Lc201, X201, hQ201, st201⟩ := own_open X199 (Jvm.LawKit.callS X199 hx (y := own_y7) hown (mvT hZ (own_w hw 60 rfl)) (mvT hZ (own_w hw 61 rfl)) (mvT hZ (own_w hw 62 rfl)) (mvT hZ (own_w hw 63 rfl)) (by decide) (backOf (W := 0) (rm9 l Z a0 hw [] v200 (5 : Int32) b1 eb ka1 t0 t1 t2 t3 t4 T183.heap n0 (Nat.le_trans Z0 K183.1) f187 hnv200 (by decide)) hZ (own_w hw 63 rfl) (own_w hw 62 rfl) (by decide) (by decide)) (g := (mkF m 278 #[.val (.long qa), .second, .val (.long qb), .second, .val (.long ea), .second, .val (.long eb), .second, .val (.long pz), .second, .val (.int mask), .val (.ref b1), .val (.ref b17), .val (.long (own_x (3 : Int32) (4 : Int32) pz)), .second, .val (.int (own_h (3 : Int32) (4 : Int32))), .val (.long (own_x dc (5 : Int32) pz)), .second, .val (.int (own_h dc (5 : Int32))), .val (.int (3 : Int32)), .unset, .unset, .unset, .unset, .unset] [(.long eb), (.ref b1), (.int (5 : Int32)), (.int v200)])) rfl (by rw [hml]; rfl) (argsL := [(.int v200), (.int (5 : Int32)), (.ref b1), (.long eb)]) (rest := []) (lenOf pd_7 rfl) rfl (by show 2 * 0 + _ ≤ _; exact Nat.le_of_eq rfl) (hb hby at_278) (fun _ _ => ⟨rfl, r199_0, (by decide : 4 + 0 ≤ _), (by decide : 20 + 0 ≤ _)⟩))
    obtain ⟨rfl, N201q, r201_0⟩ := hQ201
    have N201 := Fr.app N199 N201q
    refine OGo.via st201 ?_
    show OGo _ _ _ _ (T201.setTop (mkF m 281 #[.val (.long qa), .second, .val (.long qb), .second, .val (.long ea), .second, .val (.long eb), .second, .val (.long pz), .second, .val (.int mask), .val (.ref b1), .val (.ref b17), .val (.long (own_x (3 : Int32) (4 : Int32) pz)), .second, .val (.int (own_h (3 : Int32) (4 : Int32))), .val (.long (own_x dc (5 : Int32) pz)), .second, .val (.int (own_h dc (5 : Int32))), .val (.int (3 : Int32)), .unset, .unset, .unset, .unset, .unset] [(.int (own_adv v200 (5 : Int32) t0 t1 t2 t3 t4 eb))]))
    obtain ⟨v202, hv202⟩ : ∃ z, z = (own_adv v200 (5 : Int32) t0 t1 t2 t3 t4 eb) := ⟨_, rfl⟩
    rw [← hv202]
    have hnv202 : ¬ v202 < 0 := by rw [hv202]; exact own_adv_nn hnv200 (by decide)
    show OGo _ _ _ _ (T201.setTop (mkF m 281 #[.val (.long qa), .second, .val (.long qb), .second, .val (.long ea), .second, .val (.long eb), .second, .val (.long pz), .second, .val (.int mask), .val (.ref b1), .val (.ref b17), .val (.long (own_x (3 : Int32) (4 : Int32) pz)), .second, .val (.int (own_h (3 : Int32) (4 : Int32))), .val (.long (own_x dc (5 : Int32) pz)), .second, .val (.int (own_h dc (5 : Int32))), .val (.int (3 : Int32)), .unset, .unset, .unset, .unset, .unset] [(.int v202)]))
    refine OGo.via (fun _ k => XS.iconst X201.here hx rfl (hb hby at_281) (XS.aload X201.here hx rfl (hb hby at_282) rfl rfl (XS.lload X201.here hx rfl (hb hby at_284) rfl k))) ?_
    obtain ⟨_, T203, Lc203, X203, hQ203, st203⟩ := own_open X201 (Jvm.LawKit.callS X201 hx (y := own_y7) hown (mvT hZ (own_w hw 60 rfl)) (mvT hZ (own_w hw 61 rfl)) (mvT hZ (own_w hw 62 rfl)) (mvT hZ (own_w hw 63 rfl)) (by decide) (backOf (W := 0) (rm9 l Z a0 hw [] v202 (5 : Int32) b1 eb ka1 t0 t1 t2 t3 t4 T183.heap n0 (Nat.le_trans Z0 K183.1) f187 hnv202 (by decide)) hZ (own_w hw 63 rfl) (own_w hw 62 rfl) (by decide) (by decide)) (g := (mkF m 286 #[.val (.long qa), .second, .val (.long qb), .second, .val (.long ea), .second, .val (.long eb), .second, .val (.long pz), .second, .val (.int mask), .val (.ref b1), .val (.ref b17), .val (.long (own_x (3 : Int32) (4 : Int32) pz)), .second, .val (.int (own_h (3 : Int32) (4 : Int32))), .val (.long (own_x dc (5 : Int32) pz)), .second, .val (.int (own_h dc (5 : Int32))), .val (.int (3 : Int32)), .unset, .unset, .unset, .unset, .unset] [(.long eb), (.ref b1), (.int (5 : Int32)), (.int v202)])) rfl (by rw [hml]; rfl) (argsL := [(.int v202), (.int (5 : Int32)), (.ref b1), (.long eb)]) (rest := []) (lenOf pd_7 rfl) rfl (by show 2 * 0 + _ ≤ _; exact Nat.le_of_eq rfl) (hb hby at_286) (fun _ _ => ⟨rfl, r201_0, (by decide : 4 + 0 ≤ _), (by decide : 20 + 0 ≤ _)⟩))
    obtain ⟨rfl, N203q, r203_0⟩ := hQ203
    have N203 := Fr.app N201 N203q
    refine OGo.via st203 ?_
    show OGo _ _ _ _ (T203.setTop (mkF m 289 #[.val (.long qa), .second, .val (.long qb), .second, .val (.long ea), .second, .val (.long eb), .second, .val (.long pz), .second, .val (.int mask), .val (.ref b1), .val (.ref b17), .val (.long (own_x (3 : Int32) (4 : Int32) pz)), .second, .val (.int (own_h (3 : Int32) (4 : Int32))), .val (.long (own_x dc (5 : Int32) pz)), .second, .val (.int (own_h dc (5 : Int32))), .val (.int (3 : Int32)), .unset, .unset, .unset, .unset, .unset] [(.int (own_adv v202 (5 : Int32) t0 t1 t2 t3 t4 eb))]))
    obtain ⟨v204, hv204⟩ : ∃ z, z = (own_adv v202 (5 : Int32) t0 t1 t2 t3 t4 eb) := ⟨_, rfl⟩
    rw [← hv204]
    have hnv204 : ¬ v204 < 0 := by rw [hv204]; exact own_adv_nn hnv202 (by decide)
    show OGo _ _ _ _ (T203.setTop (mkF m 289 #[.val (.long qa), .second, .val (.long qb), .second, .val (.long ea), .second, .val (.long eb), .second, .val (.long pz), .second, .val (.int mask), .val (.ref b1), .val (.ref b17), .val (.long (own_x (3 : Int32) (4 : Int32) pz)), .second, .val (.int (own_h (3 : Int32) (4 : Int32))), .val (.long (own_x dc (5 : Int32) pz)), .second, .val (.int (own_h dc (5 : Int32))), .val (.int (3 : Int32)), .unset, .unset, .unset, .unset, .unset] [(.int v204)]))
    have hd2 : v204 = dc := by rw [hv204, hv202, hv200, hv198, hv196]; exact hdc.symm
    rw [hd2]
    show OGo _ _ _ _ (T203.setTop (mkF m 289 #[.val (.long qa), .second, .val (.long qb), .second, .val (.long ea), .second, .val (.long eb), .second, .val (.long pz), .second, .val (.int mask), .val (.ref b1), .val (.ref b17), .val (.long (own_x (3 : Int32) (4 : Int32) pz)), .second, .val (.int (own_h (3 : Int32) (4 : Int32))), .val (.long (own_x dc (5 : Int32) pz)), .second, .val (.int (own_h dc (5 : Int32))), .val (.int (3 : Int32)), .unset, .unset, .unset, .unset, .unset] [(.int dc)]))
    refine OGo.via (fun _ k => XS.istore X203.here hx rfl (hb hby at_289) rfl (l' := #[.val (.long qa), .second, .val (.long qb), .second, .val (.long ea), .second, .val (.long eb), .second, .val (.long pz), .second, .val (.int mask), .val (.ref b1), .val (.ref b17), .val (.long (own_x (3 : Int32) (4 : Int32) pz)), .second, .val (.int (own_h (3 : Int32) (4 : Int32))), .val (.long (own_x dc (5 : Int32) pz)), .second, .val (.int (own_h dc (5 : Int32))), .val (.int (3 : Int32)), .val (.int dc), .unset, .unset, .unset, .unset]) rfl (XS.iload X203.here hx rfl (hb hby at_291) rfl (XS.iconst X203.here hx rfl (hb hby at_293) k))) ?_
    refine OGo.via (fun _ k => XS.icmpYes X203.here hx rfl (pc0 := 294) (pc' := 303) rfl (hb hby at_294) rfl (feq (by decide : ¬ ((3 : Int32) = (4 : Int32)))).2 (by decide) (by decide) k) ?_
    show OGo _ _ _ _ (T203.setTop (mkF m 303 #[.val (.long qa), .second, .val (.long qb), .second, .val (.long ea), .second, .val (.long eb), .second, .val (.long pz), .second, .val (.int mask), .val (.ref b1), .val (.ref b17), .val (.long (own_x (3 : Int32) (4 : Int32) pz)), .second, .val (.int (own_h (3 : Int32) (4 : Int32))), .val (.long (own_x dc (5 : Int32) pz)), .second, .val (.int (own_h dc (5 : Int32))), .val (.int (3 : Int32)), .val (.int dc), .unset, .unset, .unset, .unset] []))
    refine OGo.via (fun _ k => XS.lload X203.here hx rfl (hb hby at_303) rfl (XS.iload X203.here hx rfl (hb hby at_305) rfl (XS.i2l X203.here hx rfl (hb hby at_307) rfl k))) ?_
    show OGo _ _ _ _ (T203.setTop (mkF m 308 #[.val (.long qa), .second, .val (.long qb), .second, .val (.long ea), .second, .val (.long eb), .second, .val (.long pz), .second, .val (.int mask), .val (.ref b1), .val (.ref b17), .val (.long (own_x (3 : Int32) (4 : Int32) pz)), .second, .val (.int (own_h (3 : Int32) (4 : Int32))), .val (.long (own_x dc (5 : Int32) pz)), .second, .val (.int (own_h dc (5 : Int32))), .val (.int (3 : Int32)), .val (.int dc), .unset, .unset, .unset, .unset] [(.long ((3 : Int32).toInt64)), (.long pz)]))
    rw [show ((3 : Int32).toInt64) = (3 : Int64) from by decide]
    refine OGo.via (fun _ k => XS.ladd X203.here hx rfl (hb hby at_308) rfl (XS.lstore X203.here hx rfl (hb hby at_309) rfl (l' := #[.val (.long qa), .second, .val (.long qb), .second, .val (.long ea), .second, .val (.long eb), .second, .val (.long pz), .second, .val (.int mask), .val (.ref b1), .val (.ref b17), .val (.long (own_x (3 : Int32) (4 : Int32) pz)), .second, .val (.int (own_h (3 : Int32) (4 : Int32))), .val (.long (own_x dc (5 : Int32) pz)), .second, .val (.int (own_h dc (5 : Int32))), .val (.int (3 : Int32)), .val (.int dc), .val (.long (pz + (3 : Int64))), .second, .unset, .unset]) rfl (XS.iload X203.here hx rfl (hb hby at_311) rfl (XS.iconst X203.here hx rfl (hb hby at_313) k)))) ?_
    by_cases hc314_206 : dc = (5 : Int32)
    · refine OGo.via (fun _ k => XS.icmpNo X203.here hx rfl (hb hby at_314) rfl (teq hc314_206).2 k) ?_
      show OGo _ _ _ _ (T203.setTop (mkF m 317 #[.val (.long qa), .second, .val (.long qb), .second, .val (.long ea), .second, .val (.long eb), .second, .val (.long pz), .second, .val (.int mask), .val (.ref b1), .val (.ref b17), .val (.long (own_x (3 : Int32) (4 : Int32) pz)), .second, .val (.int (own_h (3 : Int32) (4 : Int32))), .val (.long (own_x dc (5 : Int32) pz)), .second, .val (.int (own_h dc (5 : Int32))), .val (.int (3 : Int32)), .val (.int dc), .val (.long (pz + (3 : Int64))), .second, .unset, .unset] []))
      refine OGo.via (X203.ldc2Long hx hown (mvT hZ (own_w hw 64 rfl)) (g := (mkF m 317 #[.val (.long qa), .second, .val (.long qb), .second, .val (.long ea), .second, .val (.long eb), .second, .val (.long pz), .second, .val (.int mask), .val (.ref b1), .val (.ref b17), .val (.long (own_x (3 : Int32) (4 : Int32) pz)), .second, .val (.int (own_h (3 : Int32) (4 : Int32))), .val (.long (own_x dc (5 : Int32) pz)), .second, .val (.int (own_h dc (5 : Int32))), .val (.int (3 : Int32)), .val (.int dc), .val (.long (pz + (3 : Int64))), .second, .unset, .unset] [])) rfl (hb hby at_317)) ?_
      show OGo _ _ _ _ (T203.setTop (mkF m 320 #[.val (.long qa), .second, .val (.long qb), .second, .val (.long ea), .second, .val (.long eb), .second, .val (.long pz), .second, .val (.int mask), .val (.ref b1), .val (.ref b17), .val (.long (own_x (3 : Int32) (4 : Int32) pz)), .second, .val (.int (own_h (3 : Int32) (4 : Int32))), .val (.long (own_x dc (5 : Int32) pz)), .second, .val (.int (own_h dc (5 : Int32))), .val (.int (3 : Int32)), .val (.int dc), .val (.long (pz + (3 : Int64))), .second, .unset, .unset] [(.long (9223372036854775807 : Int64))]))
      refine OGo.via (fun _ k => XS.goto X203.here hx rfl (pc0 := 320) (pc' := 329) rfl (hb hby at_320) (by decide) (by decide) (XS.lstore X203.here hx rfl (hb hby at_329) rfl (l' := #[.val (.long qa), .second, .val (.long qb), .second, .val (.long ea), .second, .val (.long eb), .second, .val (.long pz), .second, .val (.int mask), .val (.ref b1), .val (.ref b17), .val (.long (own_x (3 : Int32) (4 : Int32) pz)), .second, .val (.int (own_h (3 : Int32) (4 : Int32))), .val (.long (own_x dc (5 : Int32) pz)), .second, .val (.int (own_h dc (5 : Int32))), .val (.int (3 : Int32)), .val (.int dc), .val (.long (pz + (3 : Int64))), .second, .val (.long (9223372036854775807 : Int64)), .second]) rfl (XS.lload X203.here hx rfl (hb hby at_331) rfl (XS.lload X203.here hx rfl (hb hby at_333) rfl (XS.lcmp X203.here hx rfl (hb hby at_335) rfl k))))) ?_
      refine OGo.via (fun _ k => XS.ifNo X203.here hx rfl (hb hby at_336) rfl ((if0 _ _).trans (teq ((lw_eq _ _).mpr (own_xn (by decide)) : (lcmpW (own_x (3 : Int32) (4 : Int32) pz) (pz + (3 : Int64))) = (0 : Int32))).2) k) ?_
      show OGo _ _ _ _ (T203.setTop (mkF m 339 #[.val (.long qa), .second, .val (.long qb), .second, .val (.long ea), .second, .val (.long eb), .second, .val (.long pz), .second, .val (.int mask), .val (.ref b1), .val (.ref b17), .val (.long (own_x (3 : Int32) (4 : Int32) pz)), .second, .val (.int (own_h (3 : Int32) (4 : Int32))), .val (.long (own_x dc (5 : Int32) pz)), .second, .val (.int (own_h dc (5 : Int32))), .val (.int (3 : Int32)), .val (.int dc), .val (.long (pz + (3 : Int64))), .second, .val (.long (9223372036854775807 : Int64)), .second] []))
      refine OGo.via (fun _ k => XS.iload X203.here hx rfl (hb hby at_339) rfl (XS.iconst X203.here hx rfl (hb hby at_341) (XS.iload X203.here hx rfl (hb hby at_342) rfl (XS.isub X203.here hx rfl (hb hby at_344) rfl k)))) ?_
      show OGo _ _ _ _ (T203.setTop (mkF m 345 #[.val (.long qa), .second, .val (.long qb), .second, .val (.long ea), .second, .val (.long eb), .second, .val (.long pz), .second, .val (.int mask), .val (.ref b1), .val (.ref b17), .val (.long (own_x (3 : Int32) (4 : Int32) pz)), .second, .val (.int (own_h (3 : Int32) (4 : Int32))), .val (.long (own_x dc (5 : Int32) pz)), .second, .val (.int (own_h dc (5 : Int32))), .val (.int (3 : Int32)), .val (.int dc), .val (.long (pz + (3 : Int64))), .second, .val (.long (9223372036854775807 : Int64)), .second] [(.int ((4 : Int32) - (3 : Int32))), (.int (own_h (3 : Int32) (4 : Int32)))]))
      rw [show ((4 : Int32) - (3 : Int32)) = (1 : Int32) from by decide]
      refine OGo.via (fun _ k => XS.icmpNo X203.here hx rfl (hb hby at_345) rfl (teq (rfl : (own_h (3 : Int32) (4 : Int32)) = (1 : Int32))).2 k) ?_
      show OGo _ _ _ _ (T203.setTop (mkF m 348 #[.val (.long qa), .second, .val (.long qb), .second, .val (.long ea), .second, .val (.long eb), .second, .val (.long pz), .second, .val (.int mask), .val (.ref b1), .val (.ref b17), .val (.long (own_x (3 : Int32) (4 : Int32) pz)), .second, .val (.int (own_h (3 : Int32) (4 : Int32))), .val (.long (own_x dc (5 : Int32) pz)), .second, .val (.int (own_h dc (5 : Int32))), .val (.int (3 : Int32)), .val (.int dc), .val (.long (pz + (3 : Int64))), .second, .val (.long (9223372036854775807 : Int64)), .second] []))
      refine OGo.via (fun _ k => XS.lload X203.here hx rfl (hb hby at_348) rfl (XS.lload X203.here hx rfl (hb hby at_350) rfl (XS.lcmp X203.here hx rfl (hb hby at_352) rfl k))) ?_
      refine OGo.via (fun _ k => XS.ifNo X203.here hx rfl (hb hby at_353) rfl ((if0 _ _).trans (teq ((lw_eq _ _).mpr (own_xy hc314_206) : (lcmpW (own_x dc (5 : Int32) pz) (9223372036854775807 : Int64)) = (0 : Int32))).2) k) ?_
      show OGo _ _ _ _ (T203.setTop (mkF m 356 #[.val (.long qa), .second, .val (.long qb), .second, .val (.long ea), .second, .val (.long eb), .second, .val (.long pz), .second, .val (.int mask), .val (.ref b1), .val (.ref b17), .val (.long (own_x (3 : Int32) (4 : Int32) pz)), .second, .val (.int (own_h (3 : Int32) (4 : Int32))), .val (.long (own_x dc (5 : Int32) pz)), .second, .val (.int (own_h dc (5 : Int32))), .val (.int (3 : Int32)), .val (.int dc), .val (.long (pz + (3 : Int64))), .second, .val (.long (9223372036854775807 : Int64)), .second] []))
      refine OGo.via (fun _ k => XS.iload X203.here hx rfl (hb hby at_356) rfl (XS.iconst X203.here hx rfl (hb hby at_358) (XS.iload X203.here hx rfl (hb hby at_359) rfl (XS.isub X203.here hx rfl (hb hby at_361) rfl k)))) ?_
      refine OGo.via (fun _ k => XS.icmpNo X203.here hx rfl (hb hby at_362) rfl (teq (rfl : (own_h dc (5 : Int32)) = ((5 : Int32) - dc))).2 k) ?_
      show OGo _ _ _ _ (T203.setTop (mkF m 365 #[.val (.long qa), .second, .val (.long qb), .second, .val (.long ea), .second, .val (.long eb), .second, .val (.long pz), .second, .val (.int mask), .val (.ref b1), .val (.ref b17), .val (.long (own_x (3 : Int32) (4 : Int32) pz)), .second, .val (.int (own_h (3 : Int32) (4 : Int32))), .val (.long (own_x dc (5 : Int32) pz)), .second, .val (.int (own_h dc (5 : Int32))), .val (.int (3 : Int32)), .val (.int dc), .val (.long (pz + (3 : Int64))), .second, .val (.long (9223372036854775807 : Int64)), .second] []))
      refine OGo.via (fun _ k => XS.iconst X203.here hx rfl (hb hby at_365) (XS.goto X203.here hx rfl (pc0 := 366) (pc' := 370) rfl (hb hby at_366) (by decide) (by decide) k)) ?_
      show OGo _ _ _ _ (T203.setTop (mkF m 370 #[.val (.long qa), .second, .val (.long qb), .second, .val (.long ea), .second, .val (.long eb), .second, .val (.long pz), .second, .val (.int mask), .val (.ref b1), .val (.ref b17), .val (.long (own_x (3 : Int32) (4 : Int32) pz)), .second, .val (.int (own_h (3 : Int32) (4 : Int32))), .val (.long (own_x dc (5 : Int32) pz)), .second, .val (.int (own_h dc (5 : Int32))), .val (.int (3 : Int32)), .val (.int dc), .val (.long (pz + (3 : Int64))), .second, .val (.long (9223372036854775807 : Int64)), .second] [(.int (1 : Int32))]))
      refine own_retN (t := .boolean) (by simp) X203 hx Bd.notSynchronized Bd.returns (hb hby at_370) (by decide) (by decide) ?_
      show Q_rm0 Z _ _ _ _ _ _ _ _ h0 n0 _ T203.heap _
      rw [r203_0]
      exact ⟨rfl, N203⟩
    · refine OGo.via (fun _ k => XS.icmpYes X203.here hx rfl (pc0 := 314) (pc' := 323) rfl (hb hby at_314) rfl (feq hc314_206).2 (by decide) (by decide) k) ?_
      show OGo _ _ _ _ (T203.setTop (mkF m 323 #[.val (.long qa), .second, .val (.long qb), .second, .val (.long ea), .second, .val (.long eb), .second, .val (.long pz), .second, .val (.int mask), .val (.ref b1), .val (.ref b17), .val (.long (own_x (3 : Int32) (4 : Int32) pz)), .second, .val (.int (own_h (3 : Int32) (4 : Int32))), .val (.long (own_x dc (5 : Int32) pz)), .second, .val (.int (own_h dc (5 : Int32))), .val (.int (3 : Int32)), .val (.int dc), .val (.long (pz + (3 : Int64))), .second, .unset, .unset] []))
      refine OGo.via (fun _ k => XS.lload X203.here hx rfl (hb hby at_323) rfl (XS.iload X203.here hx rfl (hb hby at_325) rfl (XS.i2l X203.here hx rfl (hb hby at_327) rfl (XS.ladd X203.here hx rfl (hb hby at_328) rfl (XS.lstore X203.here hx rfl (hb hby at_329) rfl (l' := #[.val (.long qa), .second, .val (.long qb), .second, .val (.long ea), .second, .val (.long eb), .second, .val (.long pz), .second, .val (.int mask), .val (.ref b1), .val (.ref b17), .val (.long (own_x (3 : Int32) (4 : Int32) pz)), .second, .val (.int (own_h (3 : Int32) (4 : Int32))), .val (.long (own_x dc (5 : Int32) pz)), .second, .val (.int (own_h dc (5 : Int32))), .val (.int (3 : Int32)), .val (.int dc), .val (.long (pz + (3 : Int64))), .second, .val (.long (pz + (dc.toInt64))), .second]) rfl (XS.lload X203.here hx rfl (hb hby at_331) rfl (XS.lload X203.here hx rfl (hb hby at_333) rfl (XS.lcmp X203.here hx rfl (hb hby at_335) rfl k)))))))) ?_
      show OGo _ _ _ _ (T203.setTop (mkF m 336 #[.val (.long qa), .second, .val (.long qb), .second, .val (.long ea), .second, .val (.long eb), .second, .val (.long pz), .second, .val (.int mask), .val (.ref b1), .val (.ref b17), .val (.long (own_x (3 : Int32) (4 : Int32) pz)), .second, .val (.int (own_h (3 : Int32) (4 : Int32))), .val (.long (own_x dc (5 : Int32) pz)), .second, .val (.int (own_h dc (5 : Int32))), .val (.int (3 : Int32)), .val (.int dc), .val (.long (pz + (3 : Int64))), .second, .val (.long (pz + (dc.toInt64))), .second] [(.int (lcmpW (own_x (3 : Int32) (4 : Int32) pz) (pz + (3 : Int64))))]))
      refine OGo.via (fun _ k => XS.ifNo X203.here hx rfl (hb hby at_336) rfl ((if0 _ _).trans (teq ((lw_eq _ _).mpr (own_xn (by decide)) : (lcmpW (own_x (3 : Int32) (4 : Int32) pz) (pz + (3 : Int64))) = (0 : Int32))).2) k) ?_
      show OGo _ _ _ _ (T203.setTop (mkF m 339 #[.val (.long qa), .second, .val (.long qb), .second, .val (.long ea), .second, .val (.long eb), .second, .val (.long pz), .second, .val (.int mask), .val (.ref b1), .val (.ref b17), .val (.long (own_x (3 : Int32) (4 : Int32) pz)), .second, .val (.int (own_h (3 : Int32) (4 : Int32))), .val (.long (own_x dc (5 : Int32) pz)), .second, .val (.int (own_h dc (5 : Int32))), .val (.int (3 : Int32)), .val (.int dc), .val (.long (pz + (3 : Int64))), .second, .val (.long (pz + (dc.toInt64))), .second] []))
      refine OGo.via (fun _ k => XS.iload X203.here hx rfl (hb hby at_339) rfl (XS.iconst X203.here hx rfl (hb hby at_341) (XS.iload X203.here hx rfl (hb hby at_342) rfl (XS.isub X203.here hx rfl (hb hby at_344) rfl k)))) ?_
      show OGo _ _ _ _ (T203.setTop (mkF m 345 #[.val (.long qa), .second, .val (.long qb), .second, .val (.long ea), .second, .val (.long eb), .second, .val (.long pz), .second, .val (.int mask), .val (.ref b1), .val (.ref b17), .val (.long (own_x (3 : Int32) (4 : Int32) pz)), .second, .val (.int (own_h (3 : Int32) (4 : Int32))), .val (.long (own_x dc (5 : Int32) pz)), .second, .val (.int (own_h dc (5 : Int32))), .val (.int (3 : Int32)), .val (.int dc), .val (.long (pz + (3 : Int64))), .second, .val (.long (pz + (dc.toInt64))), .second] [(.int ((4 : Int32) - (3 : Int32))), (.int (own_h (3 : Int32) (4 : Int32)))]))
      rw [show ((4 : Int32) - (3 : Int32)) = (1 : Int32) from by decide]
      refine OGo.via (fun _ k => XS.icmpNo X203.here hx rfl (hb hby at_345) rfl (teq (rfl : (own_h (3 : Int32) (4 : Int32)) = (1 : Int32))).2 k) ?_
      show OGo _ _ _ _ (T203.setTop (mkF m 348 #[.val (.long qa), .second, .val (.long qb), .second, .val (.long ea), .second, .val (.long eb), .second, .val (.long pz), .second, .val (.int mask), .val (.ref b1), .val (.ref b17), .val (.long (own_x (3 : Int32) (4 : Int32) pz)), .second, .val (.int (own_h (3 : Int32) (4 : Int32))), .val (.long (own_x dc (5 : Int32) pz)), .second, .val (.int (own_h dc (5 : Int32))), .val (.int (3 : Int32)), .val (.int dc), .val (.long (pz + (3 : Int64))), .second, .val (.long (pz + (dc.toInt64))), .second] []))
      refine OGo.via (fun _ k => XS.lload X203.here hx rfl (hb hby at_348) rfl (XS.lload X203.here hx rfl (hb hby at_350) rfl (XS.lcmp X203.here hx rfl (hb hby at_352) rfl k))) ?_
      refine OGo.via (fun _ k => XS.ifNo X203.here hx rfl (hb hby at_353) rfl ((if0 _ _).trans (teq ((lw_eq _ _).mpr (own_xn hc314_206) : (lcmpW (own_x dc (5 : Int32) pz) (pz + (dc.toInt64))) = (0 : Int32))).2) k) ?_
      show OGo _ _ _ _ (T203.setTop (mkF m 356 #[.val (.long qa), .second, .val (.long qb), .second, .val (.long ea), .second, .val (.long eb), .second, .val (.long pz), .second, .val (.int mask), .val (.ref b1), .val (.ref b17), .val (.long (own_x (3 : Int32) (4 : Int32) pz)), .second, .val (.int (own_h (3 : Int32) (4 : Int32))), .val (.long (own_x dc (5 : Int32) pz)), .second, .val (.int (own_h dc (5 : Int32))), .val (.int (3 : Int32)), .val (.int dc), .val (.long (pz + (3 : Int64))), .second, .val (.long (pz + (dc.toInt64))), .second] []))
      refine OGo.via (fun _ k => XS.iload X203.here hx rfl (hb hby at_356) rfl (XS.iconst X203.here hx rfl (hb hby at_358) (XS.iload X203.here hx rfl (hb hby at_359) rfl (XS.isub X203.here hx rfl (hb hby at_361) rfl k)))) ?_
      refine OGo.via (fun _ k => XS.icmpNo X203.here hx rfl (hb hby at_362) rfl (teq (rfl : (own_h dc (5 : Int32)) = ((5 : Int32) - dc))).2 k) ?_
      show OGo _ _ _ _ (T203.setTop (mkF m 365 #[.val (.long qa), .second, .val (.long qb), .second, .val (.long ea), .second, .val (.long eb), .second, .val (.long pz), .second, .val (.int mask), .val (.ref b1), .val (.ref b17), .val (.long (own_x (3 : Int32) (4 : Int32) pz)), .second, .val (.int (own_h (3 : Int32) (4 : Int32))), .val (.long (own_x dc (5 : Int32) pz)), .second, .val (.int (own_h dc (5 : Int32))), .val (.int (3 : Int32)), .val (.int dc), .val (.long (pz + (3 : Int64))), .second, .val (.long (pz + (dc.toInt64))), .second] []))
      refine OGo.via (fun _ k => XS.iconst X203.here hx rfl (hb hby at_365) (XS.goto X203.here hx rfl (pc0 := 366) (pc' := 370) rfl (hb hby at_366) (by decide) (by decide) k)) ?_
      show OGo _ _ _ _ (T203.setTop (mkF m 370 #[.val (.long qa), .second, .val (.long qb), .second, .val (.long ea), .second, .val (.long eb), .second, .val (.long pz), .second, .val (.int mask), .val (.ref b1), .val (.ref b17), .val (.long (own_x (3 : Int32) (4 : Int32) pz)), .second, .val (.int (own_h (3 : Int32) (4 : Int32))), .val (.long (own_x dc (5 : Int32) pz)), .second, .val (.int (own_h dc (5 : Int32))), .val (.int (3 : Int32)), .val (.int dc), .val (.long (pz + (3 : Int64))), .second, .val (.long (pz + (dc.toInt64))), .second] [(.int (1 : Int32))]))
      refine own_retN (t := .boolean) (by simp) X203 hx Bd.notSynchronized Bd.returns (hb hby at_370) (by decide) (by decide) ?_
      show Q_rm0 Z _ _ _ _ _ _ _ _ h0 n0 _ T203.heap _
      rw [r203_0]
      exact ⟨rfl, N203⟩
  · subst hd
    show OGo _ _ _ _ (T53.setTop (mkF m 178 #[.val (.long qa), .second, .val (.long qb), .second, .val (.long ea), .second, .val (.long eb), .second, .val (.long pz), .second, .val (.int mask), .val (.ref b1), .val (.ref b17), .val (.long (own_x (4 : Int32) (4 : Int32) pz)), .second, .val (.int (own_h (4 : Int32) (4 : Int32))), .unset, .unset, .unset, .unset, .unset, .unset, .unset, .unset, .unset] []))
    have f209 : Fld Z T52.heap b17 "com/example/eventloom/eventloom/engine/Forbidden" "count" "I" (.int (0 : Int32)) := r52_2
    have f210 : Fld Z T52.heap b17 "com/example/eventloom/eventloom/engine/Forbidden" "first" "I" (.int (0 : Int32)) := r52_3
    refine OGo.via (fun _ k => XS.aload X53.here hx rfl (hb hby at_178) rfl rfl (XS.lload X53.here hx rfl (hb hby at_180) rfl k)) ?_
    refine OGo.via (X53.ldc2Long hx hown (mvT hZ (own_w hw 42 rfl)) (g := (mkF m 182 #[.val (.long qa), .second, .val (.long qb), .second, .val (.long ea), .second, .val (.long eb), .second, .val (.long pz), .second, .val (.int mask), .val (.ref b1), .val (.ref b17), .val (.long (own_x (4 : Int32) (4 : Int32) pz)), .second, .val (.int (own_h (4 : Int32) (4 : Int32))), .unset, .unset, .unset, .unset, .unset, .unset, .unset, .unset, .unset] [(.long pz), (.ref b17)])) rfl (hb hby at_182)) ?_
    show OGo _ _ _ _ (T53.setTop (mkF m 185 #[.val (.long qa), .second, .val (.long qb), .second, .val (.long ea), .second, .val (.long eb), .second, .val (.long pz), .second, .val (.int mask), .val (.ref b1), .val (.ref b17), .val (.long (own_x (4 : Int32) (4 : Int32) pz)), .second, .val (.int (own_h (4 : Int32) (4 : Int32))), .unset, .unset, .unset, .unset, .unset, .unset, .unset, .unset, .unset] [(.long (4 : Int64)), (.long pz), (.ref b17)]))
    refine OGo.via (fun _ k => XS.ladd X53.here hx rfl (hb hby at_185) rfl (XS.aload X53.here hx rfl (hb hby at_186) rfl rfl (XS.iconst X53.here hx rfl (hb hby at_188) k))) ?_
    have f212 := f47.keep r48_0 (ninS (Nat.ne_of_lt lt_b1_b17) (ninS (Nat.ne_of_lt lt_b1_pa) (ninS (Nat.ne_of_lt lt_b1_ta) nin0)))
    have f213 := f212.keep r52_0 (ninS (Nat.ne_of_lt lt_b1_b17) nin0)
    obtain ⟨cl211, Ar211, q211, Sz211, Ng211, Hs211, Gf211⟩ := id f213
    have hin211 : ¬ ((4 : Int32) < 0 ∨ cl211.slots.size ≤ ((4 : Int32)).toNatClampNeg) := inb_of Sz211 ⟨by decide, by decide⟩
    have hat211 : cl211.slots[((4 : Int32)).toNatClampNeg]? = some (.long t4) := Hs211.at hin211 rfl
    refine OGo.via (X53.laload hx (j := (4 : Int32)) (v := (.long t4)) (by rw [r53_0]; exact Ar211.1) (State.isArrayOf_alike hZ.alike Ar211.2.1) Ar211.2.2 hin211 hat211 (g := (mkF m 189 #[.val (.long qa), .second, .val (.long qb), .second, .val (.long ea), .second, .val (.long eb), .second, .val (.long pz), .second, .val (.int mask), .val (.ref b1), .val (.ref b17), .val (.long (own_x (4 : Int32) (4 : Int32) pz)), .second, .val (.int (own_h (4 : Int32) (4 : Int32))), .unset, .unset, .unset, .unset, .unset, .unset, .unset, .unset, .unset] [(.int (4 : Int32)), (.ref b1), (.long (pz + (4 : Int64))), (.ref b17)])) rfl rfl (hb hby at_189)) ?_
    show OGo _ _ _ _ (T53.setTop (mkF m 190 #[.val (.long qa), .second, .val (.long qb), .second, .val (.long ea), .second, .val (.long eb), .second, .val (.long pz), .second, .val (.int mask), .val (.ref b1), .val (.ref b17), .val (.long (own_x (4 : Int32) (4 : Int32) pz)), .second, .val (.int (own_h (4 : Int32) (4 : Int32))), .unset, .unset, .unset, .unset, .unset, .unset, .unset, .unset, .unset] [(.long t4), (.long (pz + (4 : Int64))), (.ref b17)]))
    refine OGo.via (X53.ldc2Long hx hown (mvT hZ (own_w hw 16 rfl)) (g := (mkF m 190 #[.val (.long qa), .second, .val (.long qb), .second, .val (.long ea), .second, .val (.long eb), .second, .val (.long pz), .second, .val (.int mask), .val (.ref b1), .val (.ref b17), .val (.long (own_x (4 : Int32) (4 : Int32) pz)), .second, .val (.int (own_h (4 : Int32) (4 : Int32))), .unset, .unset, .unset, .unset, .unset, .unset, .unset, .unset, .unset] [(.long t4), (.long (pz + (4 : Int64))), (.ref b17)])) rfl (hb hby at_190)) ?_
    show OGo _ _ _ _ (T53.setTop (mkF m 193 #[.val (.long qa), .second, .val (.long qb), .second, .val (.long ea), .second, .val (.long eb), .second, .val (.long pz), .second, .val (.int mask), .val (.ref b1), .val (.ref b17), .val (.long (own_x (4 : Int32) (4 : Int32) pz)), .second, .val (.int (own_h (4 : Int32) (4 : Int32))), .unset, .unset, .unset, .unset, .unset, .unset, .unset, .unset, .unset] [(.long (-9223372036854775808 : Int64)), (.long t4), (.long (pz + (4 : Int64))), (.ref b17)]))
    have f215 := f49.keep r52_0 (ninS (Nat.ne_of_gt lt_b17_pa) nin0)
    have f216 := f50.keep r52_0 (ninS (Nat.ne_of_gt lt_b17_ta) nin0)
    obtain ⟨cq214, kq214, q214a, q214b, q214c⟩ := isOf hZ r53_0 r52_1
    obtain ⟨_, T214, Lc214, X214, hQ214, st214⟩ := own_open X53 (X53.virtualBack hx (y := own_y5) (z := own_y5) hown (mvT hZ (own_w hw 17 rfl)) (mvT hZ (own_w hw 18 rfl)) (notFace_of_selects (args := #[]) (mvT hZ (own_w hw 20 rfl))) (mvT hZ (own_w hw 20 rfl)) (mvT hZ (own_w hw 19 rfl)) (by decide) (backOf (W := 0) (rm3z l Z a0 hw [] b17 (pz + (4 : Int64)) t4 (0 : Int32) (4 : Int32) pa ta kp kt [(.long pz), (.long (pz + (1 : Int64))), (.long (pz + (2 : Int64))), (.long (pz + (3 : Int64)))] [(.long t0), (.long t1), (.long t2), (.long t3)] ((((1 : Int64) + (1 : Int64)) + (1 : Int64)) + (1 : Int64)) 0 T52.heap n0 (Nat.le_trans Z0 K52.1) r52_1 r52_4 r52_5 f210 f209 r52_6 f215 f216 (Nat.ne_of_lt lt_b17_pa) (Nat.ne_of_lt lt_b17_ta) (Nat.ne_of_lt r29_3) g_b17 g_pa g_ta (by decide) (by decide) rfl ⟨by decide, by decide⟩ (Nat.le_of_ble_eq_true rfl) (Nat.le_of_ble_eq_true rfl)) hZ (own_w hw 21 rfl) (own_w hw 3 rfl) (by decide) (by decide)) q214a q214c (g := (mkF m 193 #[.val (.long qa), .second, .val (.long qb), .second, .val (.long ea), .second, .val (.long eb), .second, .val (.long pz), .second, .val (.int mask), .val (.ref b1), .val (.ref b17), .val (.long (own_x (4 : Int32) (4 : Int32) pz)), .second, .val (.int (own_h (4 : Int32) (4 : Int32))), .unset, .unset, .unset, .unset, .unset, .unset, .unset, .unset, .unset] [(.long (-9223372036854775808 : Int64)), (.long t4), (.long (pz + (4 : Int64))), (.ref b17)])) rfl (by rw [hml]; rfl) (Steps.refl _) (argsL := [(.long (pz + (4 : Int64))), (.long t4), (.long (-9223372036854775808 : Int64))]) (rest := []) (lenOf pd_5 rfl) rfl (by show 2 * 0 + _ ≤ _; exact Nat.le_of_eq rfl) (hb hby at_193) (fun _ _ => ⟨rfl, r53_0, (by decide : 4 + 0 ≤ _), (by decide : 20 + 0 ≤ _)⟩))
    obtain ⟨rfl, N214q, r214_0, r214_1, r214_2, r214_3, r214_4, r214_5, r214_6, r214_7, r214_8⟩ := hQ214
    have N214 := Fr.app N53 N214q
    have K214 : Keep h0 T214.heap [] := K52.trans r214_0 (allS (Or.inr sz_b17) (allS (Or.inr sz_pa) (allS (Or.inr sz_ta) all0)))
    refine OGo.via (fun _ k => st214.trans k) ?_
    show OGo _ _ _ _ (T214.setTop (mkF m 196 #[.val (.long qa), .second, .val (.long qb), .second, .val (.long ea), .second, .val (.long eb), .second, .val (.long pz), .second, .val (.int mask), .val (.ref b1), .val (.ref b17), .val (.long (own_x (4 : Int32) (4 : Int32) pz)), .second, .val (.int (own_h (4 : Int32) (4 : Int32))), .unset, .unset, .unset, .unset, .unset, .unset, .unset, .unset, .unset] []))
    have f217 : Arv Z T214.heap pa kp .long (4 : Int32) [(.long (pz + (4 : Int64))), (.long (pz + (1 : Int64))), (.long (pz + (2 : Int64))), (.long (pz + (3 : Int64)))] (.long (0 : Int64)) := r214_7
    have f218 : Arv Z T214.heap ta kt .long (4 : Int32) [(.long t4), (.long t1), (.long t2), (.long t3)] (.long (0 : Int64)) := r214_8
    refine OGo.via (fun _ k => XS.aload X214.here hx rfl (hb hby at_196) rfl rfl (XS.lload X214.here hx rfl (hb hby at_198) rfl k)) ?_
    obtain ⟨cq219, kq219, q219a, q219b, q219c⟩ := isOf hZ rfl r214_1
    obtain ⟨_, T219, Lc219, X219, hQ219, st219⟩ := own_open X214 (X214.virtualBack hx (y := own_y4) (z := own_y4) hown (mvT hZ (own_w hw 36 rfl)) (mvT hZ (own_w hw 23 rfl)) (notFace_of_selects (args := #[]) (mvT hZ (own_w hw 25 rfl))) (mvT hZ (own_w hw 25 rfl)) (mvT hZ (own_w hw 24 rfl)) (by decide) (backOf (W := 0) (rm4b4 l Z a0 hw [] b17 eb pa ta kp kt (((((1 : Int64) + (1 : Int64)) + (1 : Int64)) + (1 : Int64)) + (1 : Int64)) pz t0 t1 t2 t3 t4 T214.heap n0 (Nat.le_trans Z0 K214.1) r214_1 r214_2 r214_3 r214_4 r214_5 r214_6 f217 f218 (Nat.ne_of_lt lt_b17_pa) (Nat.ne_of_lt lt_b17_ta) g_b17) hZ (own_w hw 26 rfl) (own_w hw 3 rfl) (by decide) (by decide)) q219a q219c (g := (mkF m 200 #[.val (.long qa), .second, .val (.long qb), .second, .val (.long ea), .second, .val (.long eb), .second, .val (.long pz), .second, .val (.int mask), .val (.ref b1), .val (.ref b17), .val (.long (own_x (4 : Int32) (4 : Int32) pz)), .second, .val (.int (own_h (4 : Int32) (4 : Int32))), .unset, .unset, .unset, .unset, .unset, .unset, .unset, .unset, .unset] [(.long eb), (.ref b17)])) rfl (by rw [hml]; rfl) (Steps.refl _) (argsL := [(.long eb)]) (rest := []) (lenOf pd_2 rfl) rfl (by show 2 * 0 + _ ≤ _; exact Nat.le_of_eq rfl) (hb hby at_200) (fun _ _ => ⟨rfl, rfl, (by decide : 4 + 0 ≤ _), (by decide : 20 + 0 ≤ _)⟩))
    obtain ⟨rfl, N219q, r219_0, r219_1, r219_2⟩ := hQ219
    have N219 := Fr.app N214 N219q
    have K219 : Keep h0 T219.heap [] := K214.trans r219_0 (allS (Or.inr sz_b17) all0)
    refine OGo.via (fun _ k => st219.trans k) ?_
    show OGo _ _ _ _ (T219.setTop (mkF m 203 #[.val (.long qa), .second, .val (.long qb), .second, .val (.long ea), .second, .val (.long eb), .second, .val (.long pz), .second, .val (.int mask), .val (.ref b1), .val (.ref b17), .val (.long (own_x (4 : Int32) (4 : Int32) pz)), .second, .val (.int (own_h (4 : Int32) (4 : Int32))), .unset, .unset, .unset, .unset, .unset, .unset, .unset, .unset, .unset] [(.long (own_x (own_adv (own_adv (own_adv (own_adv (own_adv (4 : Int32) (5 : Int32) t0 t1 t2 t3 t4 eb) (5 : Int32) t0 t1 t2 t3 t4 eb) (5 : Int32) t0 t1 t2 t3 t4 eb) (5 : Int32) t0 t1 t2 t3 t4 eb) (5 : Int32) t0 t1 t2 t3 t4 eb) (5 : Int32) pz))]))
    show OGo _ _ _ _ (T219.setTop (mkF m 203 #[.val (.long qa), .second, .val (.long qb), .second, .val (.long ea), .second, .val (.long eb), .second, .val (.long pz), .second, .val (.int mask), .val (.ref b1), .val (.ref b17), .val (.long (own_x (4 : Int32) (4 : Int32) pz)), .second, .val (.int (own_h (4 : Int32) (4 : Int32))), .unset, .unset, .unset, .unset, .unset, .unset, .unset, .unset, .unset] [(.long (own_x (own_adv (own_adv (own_adv (own_adv (own_adv (4 : Int32) (5 : Int32) t0 t1 t2 t3 t4 eb) (5 : Int32) t0 t1 t2 t3 t4 eb) (5 : Int32) t0 t1 t2 t3 t4 eb) (5 : Int32) t0 t1 t2 t3 t4 eb) (5 : Int32) t0 t1 t2 t3 t4 eb) (5 : Int32) pz))]))
    obtain ⟨dc, hdc⟩ : ∃ z, z = (own_adv (own_adv (own_adv (own_adv (own_adv (4 : Int32) (5 : Int32) t0 t1 t2 t3 t4 eb) (5 : Int32) t0 t1 t2 t3 t4 eb) (5 : Int32) t0 t1 t2 t3 t4 eb) (5 : Int32) t0 t1 t2 t3 t4 eb) (5 : Int32) t0 t1 t2 t3 t4 eb) := ⟨_, rfl⟩
    rw [← hdc]
    rw [← hdc] at r219_2
    show OGo _ _ _ _ (T219.setTop (mkF m 203 #[.val (.long qa), .second, .val (.long qb), .second, .val (.long ea), .second, .val (.long eb), .second, .val (.long pz), .second, .val (.int mask), .val (.ref b1), .val (.ref b17), .val (.long (own_x (4 : Int32) (4 : Int32) pz)), .second, .val (.int (own_h (4 : Int32) (4 : Int32))), .unset, .unset, .unset, .unset, .unset, .unset, .unset, .unset, .unset] [(.long (own_x dc (5 : Int32) pz))]))
    refine OGo.via (fun _ k => XS.lstore X219.here hx rfl (hb hby at_203) rfl (l' := #[.val (.long qa), .second, .val (.long qb), .second, .val (.long ea), .second, .val (.long eb), .second, .val (.long pz), .second, .val (.int mask), .val (.ref b1), .val (.ref b17), .val (.long (own_x (4 : Int32) (4 : Int32) pz)), .second, .val (.int (own_h (4 : Int32) (4 : Int32))), .val (.long (own_x dc (5 : Int32) pz)), .second, .unset, .unset, .unset, .unset, .unset, .unset, .unset]) rfl (XS.aload X219.here hx rfl (hb hby at_205) rfl rfl k)) ?_
    obtain ⟨cq220, kq220, q220a, q220b, q220c⟩ := isOf hZ rfl r219_1
    obtain ⟨_, T220, Lc220, X220, hQ220, st220⟩ := own_open X219 (X219.virtualBack hx (y := own_y6) (z := own_y6) hown (mvT hZ (own_w hw 37 rfl)) (mvT hZ (own_w hw 38 rfl)) (notFace_of_selects (args := #[]) (mvT hZ (own_w hw 40 rfl))) (mvT hZ (own_w hw 40 rfl)) (mvT hZ (own_w hw 39 rfl)) (by decide) (backOf (W := 0) (rm5 l Z a0 hw [] b17 (own_h dc (5 : Int32)) T219.heap n0 (Nat.le_trans Z0 K219.1) r219_2) hZ (own_w hw 41 rfl) (own_w hw 3 rfl) (by decide) (by decide)) q220a q220c (g := (mkF m 207 #[.val (.long qa), .second, .val (.long qb), .second, .val (.long ea), .second, .val (.long eb), .second, .val (.long pz), .second, .val (.int mask), .val (.ref b1), .val (.ref b17), .val (.long (own_x (4 : Int32) (4 : Int32) pz)), .second, .val (.int (own_h (4 : Int32) (4 : Int32))), .val (.long (own_x dc (5 : Int32) pz)), .second, .unset, .unset, .unset, .unset, .unset, .unset, .unset] [(.ref b17)])) rfl (by rw [hml]; rfl) (Steps.refl _) (argsL := []) (rest := []) (lenOf pd_6 rfl) rfl (by show 2 * 0 + _ ≤ _; exact Nat.le_of_eq rfl) (hb hby at_207) (fun _ _ => ⟨rfl, rfl, (by decide : 4 + 0 ≤ _), (by decide : 20 + 0 ≤ _)⟩))
    obtain ⟨rfl, N220q, r220_0⟩ := hQ220
    have N220 := Fr.app N219 N220q
    refine OGo.via (fun _ k => st220.trans k) ?_
    show OGo _ _ _ _ (T220.setTop (mkF m 210 #[.val (.long qa), .second, .val (.long qb), .second, .val (.long ea), .second, .val (.long eb), .second, .val (.long pz), .second, .val (.int mask), .val (.ref b1), .val (.ref b17), .val (.long (own_x (4 : Int32) (4 : Int32) pz)), .second, .val (.int (own_h (4 : Int32) (4 : Int32))), .val (.long (own_x dc (5 : Int32) pz)), .second, .unset, .unset, .unset, .unset, .unset, .unset, .unset] [(.int (own_h dc (5 : Int32)))]))
    refine OGo.via (fun _ k => XS.istore X220.here hx rfl (hb hby at_210) rfl (l' := #[.val (.long qa), .second, .val (.long qb), .second, .val (.long ea), .second, .val (.long eb), .second, .val (.long pz), .second, .val (.int mask), .val (.ref b1), .val (.ref b17), .val (.long (own_x (4 : Int32) (4 : Int32) pz)), .second, .val (.int (own_h (4 : Int32) (4 : Int32))), .val (.long (own_x dc (5 : Int32) pz)), .second, .val (.int (own_h dc (5 : Int32))), .unset, .unset, .unset, .unset, .unset, .unset]) rfl (XS.iconst X220.here hx rfl (hb hby at_212) (XS.iconst X220.here hx rfl (hb hby at_213) (XS.aload X220.here hx rfl (hb hby at_214) rfl rfl (XS.lload X220.here hx rfl (hb hby at_216) rfl k))))) ?_
    have f222 := f213.keep r214_0 (ninS (Nat.ne_of_lt lt_b1_b17) (ninS (Nat.ne_of_lt lt_b1_pa) (ninS (Nat.ne_of_lt lt_b1_ta) nin0)))
    have f223 := f222.keep r219_0 (ninS (Nat.ne_of_lt lt_b1_b17) nin0)
    obtain ⟨_, T221, Lc221, X221, hQ221, st221⟩ := own_open X220 (Jvm.LawKit.callS X220 hx (y := own_y7) hown (mvT hZ (own_w hw 60 rfl)) (mvT hZ (own_w hw 61 rfl)) (mvT hZ (own_w hw 62 rfl)) (mvT hZ (own_w hw 63 rfl)) (by decide) (backOf (W := 0) (rm9 l Z a0 hw [] (0 : Int32) (4 : Int32) b1 ea ka1 t0 t1 t2 t3 t4 T219.heap n0 (Nat.le_trans Z0 K219.1) f223 (by decide) (by decide)) hZ (own_w hw 63 rfl) (own_w hw 62 rfl) (by decide) (by decide)) (g := (mkF m 218 #[.val (.long qa), .second, .val (.long qb), .second, .val (.long ea), .second, .val (.long eb), .second, .val (.long pz), .second, .val (.int mask), .val (.ref b1), .val (.ref b17), .val (.long (own_x (4 : Int32) (4 : Int32) pz)), .second, .val (.int (own_h (4 : Int32) (4 : Int32))), .val (.long (own_x dc (5 : Int32) pz)), .second, .val (.int (own_h dc (5 : Int32))), .unset, .unset, .unset, .unset, .unset, .unset] [(.long ea), (.ref b1), (.int (4 : Int32)), (.int (0 : Int32))])) rfl (by rw [hml]; rfl) (argsL := [(.int (0 : Int32)), (.int (4 : Int32)), (.ref b1), (.long ea)]) (rest := []) (lenOf pd_7 rfl) rfl (by show 2 * 0 + _ ≤ _; exact Nat.le_of_eq rfl) (hb hby at_218) (fun _ _ => ⟨rfl, r220_0, (by decide : 4 + 0 ≤ _), (by decide : 20 + 0 ≤ _)⟩))
    obtain ⟨rfl, N221q, r221_0⟩ := hQ221
    have N221 := Fr.app N220 N221q
    refine OGo.via st221 ?_
    show OGo _ _ _ _ (T221.setTop (mkF m 221 #[.val (.long qa), .second, .val (.long qb), .second, .val (.long ea), .second, .val (.long eb), .second, .val (.long pz), .second, .val (.int mask), .val (.ref b1), .val (.ref b17), .val (.long (own_x (4 : Int32) (4 : Int32) pz)), .second, .val (.int (own_h (4 : Int32) (4 : Int32))), .val (.long (own_x dc (5 : Int32) pz)), .second, .val (.int (own_h dc (5 : Int32))), .unset, .unset, .unset, .unset, .unset, .unset] [(.int (own_adv (0 : Int32) (4 : Int32) t0 t1 t2 t3 t4 ea))]))
    obtain ⟨v224, hv224⟩ : ∃ z, z = (own_adv (0 : Int32) (4 : Int32) t0 t1 t2 t3 t4 ea) := ⟨_, rfl⟩
    rw [← hv224]
    have hnv224 : ¬ v224 < 0 := by rw [hv224]; exact own_adv_nn (by decide) (by decide)
    show OGo _ _ _ _ (T221.setTop (mkF m 221 #[.val (.long qa), .second, .val (.long qb), .second, .val (.long ea), .second, .val (.long eb), .second, .val (.long pz), .second, .val (.int mask), .val (.ref b1), .val (.ref b17), .val (.long (own_x (4 : Int32) (4 : Int32) pz)), .second, .val (.int (own_h (4 : Int32) (4 : Int32))), .val (.long (own_x dc (5 : Int32) pz)), .second, .val (.int (own_h dc (5 : Int32))), .unset, .unset, .unset, .unset, .unset, .unset] [(.int v224)]))
    refine OGo.via (fun _ k => XS.iconst X221.here hx rfl (hb hby at_221) (XS.aload X221.here hx rfl (hb hby at_222) rfl rfl (XS.lload X221.here hx rfl (hb hby at_224) rfl k))) ?_
    obtain ⟨_, T225, Lc225, X225, hQ225, st225⟩ := own_open X221 (Jvm.LawKit.callS X221 hx (y := own_y7) hown (mvT hZ (own_w hw 60 rfl)) (mvT hZ (own_w hw 61 rfl)) (mvT hZ (own_w hw 62 rfl)) (mvT hZ (own_w hw 63 rfl)) (by decide) (backOf (W := 0) (rm9 l Z a0 hw [] v224 (4 : Int32) b1 ea ka1 t0 t1 t2 t3 t4 T219.heap n0 (Nat.le_trans Z0 K219.1) f223 hnv224 (by decide)) hZ (own_w hw 63 rfl) (own_w hw 62 rfl) (by decide) (by decide)) (g := (mkF m 226 #[.val (.long qa), .second, .val (.long qb), .second, .val (.long ea), .second, .val (.long eb), .second, .val (.long pz), .second, .val (.int mask), .val (.ref b1), .val (.ref b17), .val (.long (own_x (4 : Int32) (4 : Int32) pz)), .second, .val (.int (own_h (4 : Int32) (4 : Int32))), .val (.long (own_x dc (5 : Int32) pz)), .second, .val (.int (own_h dc (5 : Int32))), .unset, .unset, .unset, .unset, .unset, .unset] [(.long ea), (.ref b1), (.int (4 : Int32)), (.int v224)])) rfl (by rw [hml]; rfl) (argsL := [(.int v224), (.int (4 : Int32)), (.ref b1), (.long ea)]) (rest := []) (lenOf pd_7 rfl) rfl (by show 2 * 0 + _ ≤ _; exact Nat.le_of_eq rfl) (hb hby at_226) (fun _ _ => ⟨rfl, r221_0, (by decide : 4 + 0 ≤ _), (by decide : 20 + 0 ≤ _)⟩))
    obtain ⟨rfl, N225q, r225_0⟩ := hQ225
    have N225 := Fr.app N221 N225q
    refine OGo.via st225 ?_
    show OGo _ _ _ _ (T225.setTop (mkF m 229 #[.val (.long qa), .second, .val (.long qb), .second, .val (.long ea), .second, .val (.long eb), .second, .val (.long pz), .second, .val (.int mask), .val (.ref b1), .val (.ref b17), .val (.long (own_x (4 : Int32) (4 : Int32) pz)), .second, .val (.int (own_h (4 : Int32) (4 : Int32))), .val (.long (own_x dc (5 : Int32) pz)), .second, .val (.int (own_h dc (5 : Int32))), .unset, .unset, .unset, .unset, .unset, .unset] [(.int (own_adv v224 (4 : Int32) t0 t1 t2 t3 t4 ea))]))
    obtain ⟨v226, hv226⟩ : ∃ z, z = (own_adv v224 (4 : Int32) t0 t1 t2 t3 t4 ea) := ⟨_, rfl⟩
    rw [← hv226]
    have hnv226 : ¬ v226 < 0 := by rw [hv226]; exact own_adv_nn hnv224 (by decide)
    show OGo _ _ _ _ (T225.setTop (mkF m 229 #[.val (.long qa), .second, .val (.long qb), .second, .val (.long ea), .second, .val (.long eb), .second, .val (.long pz), .second, .val (.int mask), .val (.ref b1), .val (.ref b17), .val (.long (own_x (4 : Int32) (4 : Int32) pz)), .second, .val (.int (own_h (4 : Int32) (4 : Int32))), .val (.long (own_x dc (5 : Int32) pz)), .second, .val (.int (own_h dc (5 : Int32))), .unset, .unset, .unset, .unset, .unset, .unset] [(.int v226)]))
    refine OGo.via (fun _ k => XS.iconst X225.here hx rfl (hb hby at_229) (XS.aload X225.here hx rfl (hb hby at_230) rfl rfl (XS.lload X225.here hx rfl (hb hby at_232) rfl k))) ?_
    obtain ⟨_, T227, Lc227, X227, hQ227, st227⟩ := own_open X225 (Jvm.LawKit.callS X225 hx (y := own_y7) hown (mvT hZ (own_w hw 60 rfl)) (mvT hZ (own_w hw 61 rfl)) (mvT hZ (own_w hw 62 rfl)) (mvT hZ (own_w hw 63 rfl)) (by decide) (backOf (W := 0) (rm9 l Z a0 hw [] v226 (4 : Int32) b1 ea ka1 t0 t1 t2 t3 t4 T219.heap n0 (Nat.le_trans Z0 K219.1) f223 hnv226 (by decide)) hZ (own_w hw 63 rfl) (own_w hw 62 rfl) (by decide) (by decide)) (g := (mkF m 234 #[.val (.long qa), .second, .val (.long qb), .second, .val (.long ea), .second, .val (.long eb), .second, .val (.long pz), .second, .val (.int mask), .val (.ref b1), .val (.ref b17), .val (.long (own_x (4 : Int32) (4 : Int32) pz)), .second, .val (.int (own_h (4 : Int32) (4 : Int32))), .val (.long (own_x dc (5 : Int32) pz)), .second, .val (.int (own_h dc (5 : Int32))), .unset, .unset, .unset, .unset, .unset, .unset] [(.long ea), (.ref b1), (.int (4 : Int32)), (.int v226)])) rfl (by rw [hml]; rfl) (argsL := [(.int v226), (.int (4 : Int32)), (.ref b1), (.long ea)]) (rest := []) (lenOf pd_7 rfl) rfl (by show 2 * 0 + _ ≤ _; exact Nat.le_of_eq rfl) (hb hby at_234) (fun _ _ => ⟨rfl, r225_0, (by decide : 4 + 0 ≤ _), (by decide : 20 + 0 ≤ _)⟩))
    obtain ⟨rfl, N227q, r227_0⟩ := hQ227
    have N227 := Fr.app N225 N227q
    refine OGo.via st227 ?_
    show OGo _ _ _ _ (T227.setTop (mkF m 237 #[.val (.long qa), .second, .val (.long qb), .second, .val (.long ea), .second, .val (.long eb), .second, .val (.long pz), .second, .val (.int mask), .val (.ref b1), .val (.ref b17), .val (.long (own_x (4 : Int32) (4 : Int32) pz)), .second, .val (.int (own_h (4 : Int32) (4 : Int32))), .val (.long (own_x dc (5 : Int32) pz)), .second, .val (.int (own_h dc (5 : Int32))), .unset, .unset, .unset, .unset, .unset, .unset] [(.int (own_adv v226 (4 : Int32) t0 t1 t2 t3 t4 ea))]))
    obtain ⟨v228, hv228⟩ : ∃ z, z = (own_adv v226 (4 : Int32) t0 t1 t2 t3 t4 ea) := ⟨_, rfl⟩
    rw [← hv228]
    have hnv228 : ¬ v228 < 0 := by rw [hv228]; exact own_adv_nn hnv226 (by decide)
    show OGo _ _ _ _ (T227.setTop (mkF m 237 #[.val (.long qa), .second, .val (.long qb), .second, .val (.long ea), .second, .val (.long eb), .second, .val (.long pz), .second, .val (.int mask), .val (.ref b1), .val (.ref b17), .val (.long (own_x (4 : Int32) (4 : Int32) pz)), .second, .val (.int (own_h (4 : Int32) (4 : Int32))), .val (.long (own_x dc (5 : Int32) pz)), .second, .val (.int (own_h dc (5 : Int32))), .unset, .unset, .unset, .unset, .unset, .unset] [(.int v228)]))
    refine OGo.via (fun _ k => XS.iconst X227.here hx rfl (hb hby at_237) (XS.aload X227.here hx rfl (hb hby at_238) rfl rfl (XS.lload X227.here hx rfl (hb hby at_240) rfl k))) ?_
    obtain ⟨_, T229, Lc229, X229, hQ229, st229⟩ := own_open X227 (Jvm.LawKit.callS X227 hx (y := own_y7) hown (mvT hZ (own_w hw 60 rfl)) (mvT hZ (own_w hw 61 rfl)) (mvT hZ (own_w hw 62 rfl)) (mvT hZ (own_w hw 63 rfl)) (by decide) (backOf (W := 0) (rm9 l Z a0 hw [] v228 (4 : Int32) b1 ea ka1 t0 t1 t2 t3 t4 T219.heap n0 (Nat.le_trans Z0 K219.1) f223 hnv228 (by decide)) hZ (own_w hw 63 rfl) (own_w hw 62 rfl) (by decide) (by decide)) (g := (mkF m 242 #[.val (.long qa), .second, .val (.long qb), .second, .val (.long ea), .second, .val (.long eb), .second, .val (.long pz), .second, .val (.int mask), .val (.ref b1), .val (.ref b17), .val (.long (own_x (4 : Int32) (4 : Int32) pz)), .second, .val (.int (own_h (4 : Int32) (4 : Int32))), .val (.long (own_x dc (5 : Int32) pz)), .second, .val (.int (own_h dc (5 : Int32))), .unset, .unset, .unset, .unset, .unset, .unset] [(.long ea), (.ref b1), (.int (4 : Int32)), (.int v228)])) rfl (by rw [hml]; rfl) (argsL := [(.int v228), (.int (4 : Int32)), (.ref b1), (.long ea)]) (rest := []) (lenOf pd_7 rfl) rfl (by show 2 * 0 + _ ≤ _; exact Nat.le_of_eq rfl) (hb hby at_242) (fun _ _ => ⟨rfl, r227_0, (by decide : 4 + 0 ≤ _), (by decide : 20 + 0 ≤ _)⟩))
    obtain ⟨rfl, N229q, r229_0⟩ := hQ229
    have N229 := Fr.app N227 N229q
    refine OGo.via st229 ?_
    show OGo _ _ _ _ (T229.setTop (mkF m 245 #[.val (.long qa), .second, .val (.long qb), .second, .val (.long ea), .second, .val (.long eb), .second, .val (.long pz), .second, .val (.int mask), .val (.ref b1), .val (.ref b17), .val (.long (own_x (4 : Int32) (4 : Int32) pz)), .second, .val (.int (own_h (4 : Int32) (4 : Int32))), .val (.long (own_x dc (5 : Int32) pz)), .second, .val (.int (own_h dc (5 : Int32))), .unset, .unset, .unset, .unset, .unset, .unset] [(.int (own_adv v228 (4 : Int32) t0 t1 t2 t3 t4 ea))]))
    obtain ⟨v230, hv230⟩ : ∃ z, z = (own_adv v228 (4 : Int32) t0 t1 t2 t3 t4 ea) := ⟨_, rfl⟩
    rw [← hv230]
    have hnv230 : ¬ v230 < 0 := by rw [hv230]; exact own_adv_nn hnv228 (by decide)
    show OGo _ _ _ _ (T229.setTop (mkF m 245 #[.val (.long qa), .second, .val (.long qb), .second, .val (.long ea), .second, .val (.long eb), .second, .val (.long pz), .second, .val (.int mask), .val (.ref b1), .val (.ref b17), .val (.long (own_x (4 : Int32) (4 : Int32) pz)), .second, .val (.int (own_h (4 : Int32) (4 : Int32))), .val (.long (own_x dc (5 : Int32) pz)), .second, .val (.int (own_h dc (5 : Int32))), .unset, .unset, .unset, .unset, .unset, .unset] [(.int v230)]))
    have hd' : v230 = (4 : Int32) := by rw [hv230, hv228, hv226, hv224]; exact hdd.symm
    rw [hd']
    show OGo _ _ _ _ (T229.setTop (mkF m 245 #[.val (.long qa), .second, .val (.long qb), .second, .val (.long ea), .second, .val (.long eb), .second, .val (.long pz), .second, .val (.int mask), .val (.ref b1), .val (.ref b17), .val (.long (own_x (4 : Int32) (4 : Int32) pz)), .second, .val (.int (own_h (4 : Int32) (4 : Int32))), .val (.long (own_x dc (5 : Int32) pz)), .second, .val (.int (own_h dc (5 : Int32))), .unset, .unset, .unset, .unset, .unset, .unset] [(.int (4 : Int32))]))
    refine OGo.via (fun _ k => XS.istore X229.here hx rfl (hb hby at_245) rfl (l' := #[.val (.long qa), .second, .val (.long qb), .second, .val (.long ea), .second, .val (.long eb), .second, .val (.long pz), .second, .val (.int mask), .val (.ref b1), .val (.ref b17), .val (.long (own_x (4 : Int32) (4 : Int32) pz)), .second, .val (.int (own_h (4 : Int32) (4 : Int32))), .val (.long (own_x dc (5 : Int32) pz)), .second, .val (.int (own_h dc (5 : Int32))), .val (.int (4 : Int32)), .unset, .unset, .unset, .unset, .unset]) rfl (XS.iload X229.here hx rfl (hb hby at_247) rfl (XS.iconst X229.here hx rfl (hb hby at_249) (XS.aload X229.here hx rfl (hb hby at_250) rfl rfl (XS.lload X229.here hx rfl (hb hby at_252) rfl k))))) ?_
    obtain ⟨_, T231, Lc231, X231, hQ231, st231⟩ := own_open X229 (Jvm.LawKit.callS X229 hx (y := own_y7) hown (mvT hZ (own_w hw 60 rfl)) (mvT hZ (own_w hw 61 rfl)) (mvT hZ (own_w hw 62 rfl)) (mvT hZ (own_w hw 63 rfl)) (by decide) (backOf (W := 0) (rm9 l Z a0 hw [] (4 : Int32) (5 : Int32) b1 eb ka1 t0 t1 t2 t3 t4 T219.heap n0 (Nat.le_trans Z0 K219.1) f223 (by decide) (by decide)) hZ (own_w hw 63 rfl) (own_w hw 62 rfl) (by decide) (by decide)) (g := (mkF m 254 #[.val (.long qa), .second, .val (.long qb), .second, .val (.long ea), .second, .val (.long eb), .second, .val (.long pz), .second, .val (.int mask), .val (.ref b1), .val (.ref b17), .val (.long (own_x (4 : Int32) (4 : Int32) pz)), .second, .val (.int (own_h (4 : Int32) (4 : Int32))), .val (.long (own_x dc (5 : Int32) pz)), .second, .val (.int (own_h dc (5 : Int32))), .val (.int (4 : Int32)), .unset, .unset, .unset, .unset, .unset] [(.long eb), (.ref b1), (.int (5 : Int32)), (.int (4 : Int32))])) rfl (by rw [hml]; rfl) (argsL := [(.int (4 : Int32)), (.int (5 : Int32)), (.ref b1), (.long eb)]) (rest := []) (lenOf pd_7 rfl) rfl (by show 2 * 0 + _ ≤ _; exact Nat.le_of_eq rfl) (hb hby at_254) (fun _ _ => ⟨rfl, r229_0, (by decide : 4 + 0 ≤ _), (by decide : 20 + 0 ≤ _)⟩))
    obtain ⟨rfl, N231q, r231_0⟩ := hQ231
    have N231 := Fr.app N229 N231q
    refine OGo.via st231 ?_
    show OGo _ _ _ _ (T231.setTop (mkF m 257 #[.val (.long qa), .second, .val (.long qb), .second, .val (.long ea), .second, .val (.long eb), .second, .val (.long pz), .second, .val (.int mask), .val (.ref b1), .val (.ref b17), .val (.long (own_x (4 : Int32) (4 : Int32) pz)), .second, .val (.int (own_h (4 : Int32) (4 : Int32))), .val (.long (own_x dc (5 : Int32) pz)), .second, .val (.int (own_h dc (5 : Int32))), .val (.int (4 : Int32)), .unset, .unset, .unset, .unset, .unset] [(.int (own_adv (4 : Int32) (5 : Int32) t0 t1 t2 t3 t4 eb))]))
    obtain ⟨v232, hv232⟩ : ∃ z, z = (own_adv (4 : Int32) (5 : Int32) t0 t1 t2 t3 t4 eb) := ⟨_, rfl⟩
    rw [← hv232]
    have hnv232 : ¬ v232 < 0 := by rw [hv232]; exact own_adv_nn (by decide) (by decide)
    show OGo _ _ _ _ (T231.setTop (mkF m 257 #[.val (.long qa), .second, .val (.long qb), .second, .val (.long ea), .second, .val (.long eb), .second, .val (.long pz), .second, .val (.int mask), .val (.ref b1), .val (.ref b17), .val (.long (own_x (4 : Int32) (4 : Int32) pz)), .second, .val (.int (own_h (4 : Int32) (4 : Int32))), .val (.long (own_x dc (5 : Int32) pz)), .second, .val (.int (own_h dc (5 : Int32))), .val (.int (4 : Int32)), .unset, .unset, .unset, .unset, .unset] [(.int v232)]))
    refine OGo.via (fun _ k => XS.iconst X231.here hx rfl (hb hby at_257) (XS.aload X231.here hx rfl (hb hby at_258) rfl rfl (XS.lload X231.here hx rfl (hb hby at_260) rfl k))) ?_
    obtain ⟨_, T233, Lc233, X233, hQ233, st233⟩ := own_open X231 (Jvm.LawKit.callS X231 hx (y := own_y7) hown (mvT hZ (own_w hw 60 rfl)) (mvT hZ (own_w hw 61 rfl)) (mvT hZ (own_w hw 62 rfl)) (mvT hZ (own_w hw 63 rfl)) (by decide) (backOf (W := 0) (rm9 l Z a0 hw [] v232 (5 : Int32) b1 eb ka1 t0 t1 t2 t3 t4 T219.heap n0 (Nat.le_trans Z0 K219.1) f223 hnv232 (by decide)) hZ (own_w hw 63 rfl) (own_w hw 62 rfl) (by decide) (by decide)) (g := (mkF m 262 #[.val (.long qa), .second, .val (.long qb), .second, .val (.long ea), .second, .val (.long eb), .second, .val (.long pz), .second, .val (.int mask), .val (.ref b1), .val (.ref b17), .val (.long (own_x (4 : Int32) (4 : Int32) pz)), .second, .val (.int (own_h (4 : Int32) (4 : Int32))), .val (.long (own_x dc (5 : Int32) pz)), .second, .val (.int (own_h dc (5 : Int32))), .val (.int (4 : Int32)), .unset, .unset, .unset, .unset, .unset] [(.long eb), (.ref b1), (.int (5 : Int32)), (.int v232)])) rfl (by rw [hml]; rfl) (argsL := [(.int v232), (.int (5 : Int32)), (.ref b1), (.long eb)]) (rest := []) (lenOf pd_7 rfl) rfl (by show 2 * 0 + _ ≤ _; exact Nat.le_of_eq rfl) (hb hby at_262) (fun _ _ => ⟨rfl, r231_0, (by decide : 4 + 0 ≤ _), (by decide : 20 + 0 ≤ _)⟩))
    obtain ⟨rfl, N233q, r233_0⟩ := hQ233
    have N233 := Fr.app N231 N233q
    refine OGo.via st233 ?_
    show OGo _ _ _ _ (T233.setTop (mkF m 265 #[.val (.long qa), .second, .val (.long qb), .second, .val (.long ea), .second, .val (.long eb), .second, .val (.long pz), .second, .val (.int mask), .val (.ref b1), .val (.ref b17), .val (.long (own_x (4 : Int32) (4 : Int32) pz)), .second, .val (.int (own_h (4 : Int32) (4 : Int32))), .val (.long (own_x dc (5 : Int32) pz)), .second, .val (.int (own_h dc (5 : Int32))), .val (.int (4 : Int32)), .unset, .unset, .unset, .unset, .unset] [(.int (own_adv v232 (5 : Int32) t0 t1 t2 t3 t4 eb))]))
    obtain ⟨v234, hv234⟩ : ∃ z, z = (own_adv v232 (5 : Int32) t0 t1 t2 t3 t4 eb) := ⟨_, rfl⟩
    rw [← hv234]
    have hnv234 : ¬ v234 < 0 := by rw [hv234]; exact own_adv_nn hnv232 (by decide)
    show OGo _ _ _ _ (T233.setTop (mkF m 265 #[.val (.long qa), .second, .val (.long qb), .second, .val (.long ea), .second, .val (.long eb), .second, .val (.long pz), .second, .val (.int mask), .val (.ref b1), .val (.ref b17), .val (.long (own_x (4 : Int32) (4 : Int32) pz)), .second, .val (.int (own_h (4 : Int32) (4 : Int32))), .val (.long (own_x dc (5 : Int32) pz)), .second, .val (.int (own_h dc (5 : Int32))), .val (.int (4 : Int32)), .unset, .unset, .unset, .unset, .unset] [(.int v234)]))
    refine OGo.via (fun _ k => XS.iconst X233.here hx rfl (hb hby at_265) (XS.aload X233.here hx rfl (hb hby at_266) rfl rfl (XS.lload X233.here hx rfl (hb hby at_268) rfl k))) ?_
    obtain ⟨_, T235, Lc235, X235, hQ235, st235⟩ := own_open X233 (Jvm.LawKit.callS X233 hx (y := own_y7) hown (mvT hZ (own_w hw 60 rfl)) (mvT hZ (own_w hw 61 rfl)) (mvT hZ (own_w hw 62 rfl)) (mvT hZ (own_w hw 63 rfl)) (by decide) (backOf (W := 0) (rm9 l Z a0 hw [] v234 (5 : Int32) b1 eb ka1 t0 t1 t2 t3 t4 T219.heap n0 (Nat.le_trans Z0 K219.1) f223 hnv234 (by decide)) hZ (own_w hw 63 rfl) (own_w hw 62 rfl) (by decide) (by decide)) (g := (mkF m 270 #[.val (.long qa), .second, .val (.long qb), .second, .val (.long ea), .second, .val (.long eb), .second, .val (.long pz), .second, .val (.int mask), .val (.ref b1), .val (.ref b17), .val (.long (own_x (4 : Int32) (4 : Int32) pz)), .second, .val (.int (own_h (4 : Int32) (4 : Int32))), .val (.long (own_x dc (5 : Int32) pz)), .second, .val (.int (own_h dc (5 : Int32))), .val (.int (4 : Int32)), .unset, .unset, .unset, .unset, .unset] [(.long eb), (.ref b1), (.int (5 : Int32)), (.int v234)])) rfl (by rw [hml]; rfl) (argsL := [(.int v234), (.int (5 : Int32)), (.ref b1), (.long eb)]) (rest := []) (lenOf pd_7 rfl) rfl (by show 2 * 0 + _ ≤ _; exact Nat.le_of_eq rfl) (hb hby at_270) (fun _ _ => ⟨rfl, r233_0, (by decide : 4 + 0 ≤ _), (by decide : 20 + 0 ≤ _)⟩))
    obtain ⟨rfl, N235q, r235_0⟩ := hQ235
    have N235 := Fr.app N233 N235q
    refine OGo.via st235 ?_
    show OGo _ _ _ _ (T235.setTop (mkF m 273 #[.val (.long qa), .second, .val (.long qb), .second, .val (.long ea), .second, .val (.long eb), .second, .val (.long pz), .second, .val (.int mask), .val (.ref b1), .val (.ref b17), .val (.long (own_x (4 : Int32) (4 : Int32) pz)), .second, .val (.int (own_h (4 : Int32) (4 : Int32))), .val (.long (own_x dc (5 : Int32) pz)), .second, .val (.int (own_h dc (5 : Int32))), .val (.int (4 : Int32)), .unset, .unset, .unset, .unset, .unset] [(.int (own_adv v234 (5 : Int32) t0 t1 t2 t3 t4 eb))]))
    obtain ⟨v236, hv236⟩ : ∃ z, z = (own_adv v234 (5 : Int32) t0 t1 t2 t3 t4 eb) := ⟨_, rfl⟩
    rw [← hv236]
    have hnv236 : ¬ v236 < 0 := by rw [hv236]; exact own_adv_nn hnv234 (by decide)
    show OGo _ _ _ _ (T235.setTop (mkF m 273 #[.val (.long qa), .second, .val (.long qb), .second, .val (.long ea), .second, .val (.long eb), .second, .val (.long pz), .second, .val (.int mask), .val (.ref b1), .val (.ref b17), .val (.long (own_x (4 : Int32) (4 : Int32) pz)), .second, .val (.int (own_h (4 : Int32) (4 : Int32))), .val (.long (own_x dc (5 : Int32) pz)), .second, .val (.int (own_h dc (5 : Int32))), .val (.int (4 : Int32)), .unset, .unset, .unset, .unset, .unset] [(.int v236)]))
    refine OGo.via (fun _ k => XS.iconst X235.here hx rfl (hb hby at_273) (XS.aload X235.here hx rfl (hb hby at_274) rfl rfl (XS.lload X235.here hx rfl (hb hby at_276) rfl k))) ?_
    obtain ⟨_, T237, Lc237, X237, hQ237, st237⟩ := own_open X235 (Jvm.LawKit.callS X235 hx (y := own_y7) hown (mvT hZ (own_w hw 60 rfl)) (mvT hZ (own_w hw 61 rfl)) (mvT hZ (own_w hw 62 rfl)) (mvT hZ (own_w hw 63 rfl)) (by decide) (backOf (W := 0) (rm9 l Z a0 hw [] v236 (5 : Int32) b1 eb ka1 t0 t1 t2 t3 t4 T219.heap n0 (Nat.le_trans Z0 K219.1) f223 hnv236 (by decide)) hZ (own_w hw 63 rfl) (own_w hw 62 rfl) (by decide) (by decide)) (g := (mkF m 278 #[.val (.long qa), .second, .val (.long qb), .second, .val (.long ea), .second, .val (.long eb), .second, .val (.long pz), .second, .val (.int mask), .val (.ref b1), .val (.ref b17), .val (.long (own_x (4 : Int32) (4 : Int32) pz)), .second, .val (.int (own_h (4 : Int32) (4 : Int32))), .val (.long (own_x dc (5 : Int32) pz)), .second, .val (.int (own_h dc (5 : Int32))), .val (.int (4 : Int32)), .unset, .unset, .unset, .unset, .unset] [(.long eb), (.ref b1), (.int (5 : Int32)), (.int v236)])) rfl (by rw [hml]; rfl) (argsL := [(.int v236), (.int (5 : Int32)), (.ref b1), (.long eb)]) (rest := []) (lenOf pd_7 rfl) rfl (by show 2 * 0 + _ ≤ _; exact Nat.le_of_eq rfl) (hb hby at_278) (fun _ _ => ⟨rfl, r235_0, (by decide : 4 + 0 ≤ _), (by decide : 20 + 0 ≤ _)⟩))
    obtain ⟨rfl, N237q, r237_0⟩ := hQ237
    have N237 := Fr.app N235 N237q
    refine OGo.via st237 ?_
    show OGo _ _ _ _ (T237.setTop (mkF m 281 #[.val (.long qa), .second, .val (.long qb), .second, .val (.long ea), .second, .val (.long eb), .second, .val (.long pz), .second, .val (.int mask), .val (.ref b1), .val (.ref b17), .val (.long (own_x (4 : Int32) (4 : Int32) pz)), .second, .val (.int (own_h (4 : Int32) (4 : Int32))), .val (.long (own_x dc (5 : Int32) pz)), .second, .val (.int (own_h dc (5 : Int32))), .val (.int (4 : Int32)), .unset, .unset, .unset, .unset, .unset] [(.int (own_adv v236 (5 : Int32) t0 t1 t2 t3 t4 eb))]))
    obtain ⟨v238, hv238⟩ : ∃ z, z = (own_adv v236 (5 : Int32) t0 t1 t2 t3 t4 eb) := ⟨_, rfl⟩
    rw [← hv238]
    have hnv238 : ¬ v238 < 0 := by rw [hv238]; exact own_adv_nn hnv236 (by decide)
    show OGo _ _ _ _ (T237.setTop (mkF m 281 #[.val (.long qa), .second, .val (.long qb), .second, .val (.long ea), .second, .val (.long eb), .second, .val (.long pz), .second, .val (.int mask), .val (.ref b1), .val (.ref b17), .val (.long (own_x (4 : Int32) (4 : Int32) pz)), .second, .val (.int (own_h (4 : Int32) (4 : Int32))), .val (.long (own_x dc (5 : Int32) pz)), .second, .val (.int (own_h dc (5 : Int32))), .val (.int (4 : Int32)), .unset, .unset, .unset, .unset, .unset] [(.int v238)]))
    refine OGo.via (fun _ k => XS.iconst X237.here hx rfl (hb hby at_281) (XS.aload X237.here hx rfl (hb hby at_282) rfl rfl (XS.lload X237.here hx rfl (hb hby at_284) rfl k))) ?_
    obtain ⟨_, T239, Lc239, X239, hQ239, st239⟩ := own_open X237 (Jvm.LawKit.callS X237 hx (y := own_y7) hown (mvT hZ (own_w hw 60 rfl)) (mvT hZ (own_w hw 61 rfl)) (mvT hZ (own_w hw 62 rfl)) (mvT hZ (own_w hw 63 rfl)) (by decide) (backOf (W := 0) (rm9 l Z a0 hw [] v238 (5 : Int32) b1 eb ka1 t0 t1 t2 t3 t4 T219.heap n0 (Nat.le_trans Z0 K219.1) f223 hnv238 (by decide)) hZ (own_w hw 63 rfl) (own_w hw 62 rfl) (by decide) (by decide)) (g := (mkF m 286 #[.val (.long qa), .second, .val (.long qb), .second, .val (.long ea), .second, .val (.long eb), .second, .val (.long pz), .second, .val (.int mask), .val (.ref b1), .val (.ref b17), .val (.long (own_x (4 : Int32) (4 : Int32) pz)), .second, .val (.int (own_h (4 : Int32) (4 : Int32))), .val (.long (own_x dc (5 : Int32) pz)), .second, .val (.int (own_h dc (5 : Int32))), .val (.int (4 : Int32)), .unset, .unset, .unset, .unset, .unset] [(.long eb), (.ref b1), (.int (5 : Int32)), (.int v238)])) rfl (by rw [hml]; rfl) (argsL := [(.int v238), (.int (5 : Int32)), (.ref b1), (.long eb)]) (rest := []) (lenOf pd_7 rfl) rfl (by show 2 * 0 + _ ≤ _; exact Nat.le_of_eq rfl) (hb hby at_286) (fun _ _ => ⟨rfl, r237_0, (by decide : 4 + 0 ≤ _), (by decide : 20 + 0 ≤ _)⟩))
    obtain ⟨rfl, N239q, r239_0⟩ := hQ239
    have N239 := Fr.app N237 N239q
    refine OGo.via st239 ?_
    show OGo _ _ _ _ (T239.setTop (mkF m 289 #[.val (.long qa), .second, .val (.long qb), .second, .val (.long ea), .second, .val (.long eb), .second, .val (.long pz), .second, .val (.int mask), .val (.ref b1), .val (.ref b17), .val (.long (own_x (4 : Int32) (4 : Int32) pz)), .second, .val (.int (own_h (4 : Int32) (4 : Int32))), .val (.long (own_x dc (5 : Int32) pz)), .second, .val (.int (own_h dc (5 : Int32))), .val (.int (4 : Int32)), .unset, .unset, .unset, .unset, .unset] [(.int (own_adv v238 (5 : Int32) t0 t1 t2 t3 t4 eb))]))
    obtain ⟨v240, hv240⟩ : ∃ z, z = (own_adv v238 (5 : Int32) t0 t1 t2 t3 t4 eb) := ⟨_, rfl⟩
    rw [← hv240]
    have hnv240 : ¬ v240 < 0 := by rw [hv240]; exact own_adv_nn hnv238 (by decide)
    show OGo _ _ _ _ (T239.setTop (mkF m 289 #[.val (.long qa), .second, .val (.long qb), .second, .val (.long ea), .second, .val (.long eb), .second, .val (.long pz), .second, .val (.int mask), .val (.ref b1), .val (.ref b17), .val (.long (own_x (4 : Int32) (4 : Int32) pz)), .second, .val (.int (own_h (4 : Int32) (4 : Int32))), .val (.long (own_x dc (5 : Int32) pz)), .second, .val (.int (own_h dc (5 : Int32))), .val (.int (4 : Int32)), .unset, .unset, .unset, .unset, .unset] [(.int v240)]))
    have hd2 : v240 = dc := by rw [hv240, hv238, hv236, hv234, hv232]; exact hdc.symm
    rw [hd2]
    show OGo _ _ _ _ (T239.setTop (mkF m 289 #[.val (.long qa), .second, .val (.long qb), .second, .val (.long ea), .second, .val (.long eb), .second, .val (.long pz), .second, .val (.int mask), .val (.ref b1), .val (.ref b17), .val (.long (own_x (4 : Int32) (4 : Int32) pz)), .second, .val (.int (own_h (4 : Int32) (4 : Int32))), .val (.long (own_x dc (5 : Int32) pz)), .second, .val (.int (own_h dc (5 : Int32))), .val (.int (4 : Int32)), .unset, .unset, .unset, .unset, .unset] [(.int dc)]))
    refine OGo.via (fun _ k => XS.istore X239.here hx rfl (hb hby at_289) rfl (l' := #[.val (.long qa), .second, .val (.long qb), .second, .val (.long ea), .second, .val (.long eb), .second, .val (.long pz), .second, .val (.int mask), .val (.ref b1), .val (.ref b17), .val (.long (own_x (4 : Int32) (4 : Int32) pz)), .second, .val (.int (own_h (4 : Int32) (4 : Int32))), .val (.long (own_x dc (5 : Int32) pz)), .second, .val (.int (own_h dc (5 : Int32))), .val (.int (4 : Int32)), .val (.int dc), .unset, .unset, .unset, .unset]) rfl (XS.iload X239.here hx rfl (hb hby at_291) rfl (XS.iconst X239.here hx rfl (hb hby at_293) k))) ?_
    refine OGo.via (fun _ k => XS.icmpNo X239.here hx rfl (hb hby at_294) rfl (teq (by decide : (4 : Int32) = (4 : Int32))).2 k) ?_
    show OGo _ _ _ _ (T239.setTop (mkF m 297 #[.val (.long qa), .second, .val (.long qb), .second, .val (.long ea), .second, .val (.long eb), .second, .val (.long pz), .second, .val (.int mask), .val (.ref b1), .val (.ref b17), .val (.long (own_x (4 : Int32) (4 : Int32) pz)), .second, .val (.int (own_h (4 : Int32) (4 : Int32))), .val (.long (own_x dc (5 : Int32) pz)), .second, .val (.int (own_h dc (5 : Int32))), .val (.int (4 : Int32)), .val (.int dc), .unset, .unset, .unset, .unset] []))
    refine OGo.via (X239.ldc2Long hx hown (mvT hZ (own_w hw 64 rfl)) (g := (mkF m 297 #[.val (.long qa), .second, .val (.long qb), .second, .val (.long ea), .second, .val (.long eb), .second, .val (.long pz), .second, .val (.int mask), .val (.ref b1), .val (.ref b17), .val (.long (own_x (4 : Int32) (4 : Int32) pz)), .second, .val (.int (own_h (4 : Int32) (4 : Int32))), .val (.long (own_x dc (5 : Int32) pz)), .second, .val (.int (own_h dc (5 : Int32))), .val (.int (4 : Int32)), .val (.int dc), .unset, .unset, .unset, .unset] [])) rfl (hb hby at_297)) ?_
    show OGo _ _ _ _ (T239.setTop (mkF m 300 #[.val (.long qa), .second, .val (.long qb), .second, .val (.long ea), .second, .val (.long eb), .second, .val (.long pz), .second, .val (.int mask), .val (.ref b1), .val (.ref b17), .val (.long (own_x (4 : Int32) (4 : Int32) pz)), .second, .val (.int (own_h (4 : Int32) (4 : Int32))), .val (.long (own_x dc (5 : Int32) pz)), .second, .val (.int (own_h dc (5 : Int32))), .val (.int (4 : Int32)), .val (.int dc), .unset, .unset, .unset, .unset] [(.long (9223372036854775807 : Int64))]))
    refine OGo.via (fun _ k => XS.goto X239.here hx rfl (pc0 := 300) (pc' := 309) rfl (hb hby at_300) (by decide) (by decide) (XS.lstore X239.here hx rfl (hb hby at_309) rfl (l' := #[.val (.long qa), .second, .val (.long qb), .second, .val (.long ea), .second, .val (.long eb), .second, .val (.long pz), .second, .val (.int mask), .val (.ref b1), .val (.ref b17), .val (.long (own_x (4 : Int32) (4 : Int32) pz)), .second, .val (.int (own_h (4 : Int32) (4 : Int32))), .val (.long (own_x dc (5 : Int32) pz)), .second, .val (.int (own_h dc (5 : Int32))), .val (.int (4 : Int32)), .val (.int dc), .val (.long (9223372036854775807 : Int64)), .second, .unset, .unset]) rfl (XS.iload X239.here hx rfl (hb hby at_311) rfl (XS.iconst X239.here hx rfl (hb hby at_313) k)))) ?_
    by_cases hc314_241 : dc = (5 : Int32)
    · refine OGo.via (fun _ k => XS.icmpNo X239.here hx rfl (hb hby at_314) rfl (teq hc314_241).2 k) ?_
      show OGo _ _ _ _ (T239.setTop (mkF m 317 #[.val (.long qa), .second, .val (.long qb), .second, .val (.long ea), .second, .val (.long eb), .second, .val (.long pz), .second, .val (.int mask), .val (.ref b1), .val (.ref b17), .val (.long (own_x (4 : Int32) (4 : Int32) pz)), .second, .val (.int (own_h (4 : Int32) (4 : Int32))), .val (.long (own_x dc (5 : Int32) pz)), .second, .val (.int (own_h dc (5 : Int32))), .val (.int (4 : Int32)), .val (.int dc), .val (.long (9223372036854775807 : Int64)), .second, .unset, .unset] []))
      refine OGo.via (X239.ldc2Long hx hown (mvT hZ (own_w hw 64 rfl)) (g := (mkF m 317 #[.val (.long qa), .second, .val (.long qb), .second, .val (.long ea), .second, .val (.long eb), .second, .val (.long pz), .second, .val (.int mask), .val (.ref b1), .val (.ref b17), .val (.long (own_x (4 : Int32) (4 : Int32) pz)), .second, .val (.int (own_h (4 : Int32) (4 : Int32))), .val (.long (own_x dc (5 : Int32) pz)), .second, .val (.int (own_h dc (5 : Int32))), .val (.int (4 : Int32)), .val (.int dc), .val (.long (9223372036854775807 : Int64)), .second, .unset, .unset] [])) rfl (hb hby at_317)) ?_
      show OGo _ _ _ _ (T239.setTop (mkF m 320 #[.val (.long qa), .second, .val (.long qb), .second, .val (.long ea), .second, .val (.long eb), .second, .val (.long pz), .second, .val (.int mask), .val (.ref b1), .val (.ref b17), .val (.long (own_x (4 : Int32) (4 : Int32) pz)), .second, .val (.int (own_h (4 : Int32) (4 : Int32))), .val (.long (own_x dc (5 : Int32) pz)), .second, .val (.int (own_h dc (5 : Int32))), .val (.int (4 : Int32)), .val (.int dc), .val (.long (9223372036854775807 : Int64)), .second, .unset, .unset] [(.long (9223372036854775807 : Int64))]))
      refine OGo.via (fun _ k => XS.goto X239.here hx rfl (pc0 := 320) (pc' := 329) rfl (hb hby at_320) (by decide) (by decide) (XS.lstore X239.here hx rfl (hb hby at_329) rfl (l' := #[.val (.long qa), .second, .val (.long qb), .second, .val (.long ea), .second, .val (.long eb), .second, .val (.long pz), .second, .val (.int mask), .val (.ref b1), .val (.ref b17), .val (.long (own_x (4 : Int32) (4 : Int32) pz)), .second, .val (.int (own_h (4 : Int32) (4 : Int32))), .val (.long (own_x dc (5 : Int32) pz)), .second, .val (.int (own_h dc (5 : Int32))), .val (.int (4 : Int32)), .val (.int dc), .val (.long (9223372036854775807 : Int64)), .second, .val (.long (9223372036854775807 : Int64)), .second]) rfl (XS.lload X239.here hx rfl (hb hby at_331) rfl (XS.lload X239.here hx rfl (hb hby at_333) rfl (XS.lcmp X239.here hx rfl (hb hby at_335) rfl k))))) ?_
      refine OGo.via (fun _ k => XS.ifNo X239.here hx rfl (hb hby at_336) rfl ((if0 _ _).trans (teq ((lw_eq _ _).mpr (own_xy rfl) : (lcmpW (own_x (4 : Int32) (4 : Int32) pz) (9223372036854775807 : Int64)) = (0 : Int32))).2) k) ?_
      show OGo _ _ _ _ (T239.setTop (mkF m 339 #[.val (.long qa), .second, .val (.long qb), .second, .val (.long ea), .second, .val (.long eb), .second, .val (.long pz), .second, .val (.int mask), .val (.ref b1), .val (.ref b17), .val (.long (own_x (4 : Int32) (4 : Int32) pz)), .second, .val (.int (own_h (4 : Int32) (4 : Int32))), .val (.long (own_x dc (5 : Int32) pz)), .second, .val (.int (own_h dc (5 : Int32))), .val (.int (4 : Int32)), .val (.int dc), .val (.long (9223372036854775807 : Int64)), .second, .val (.long (9223372036854775807 : Int64)), .second] []))
      refine OGo.via (fun _ k => XS.iload X239.here hx rfl (hb hby at_339) rfl (XS.iconst X239.here hx rfl (hb hby at_341) (XS.iload X239.here hx rfl (hb hby at_342) rfl (XS.isub X239.here hx rfl (hb hby at_344) rfl k)))) ?_
      show OGo _ _ _ _ (T239.setTop (mkF m 345 #[.val (.long qa), .second, .val (.long qb), .second, .val (.long ea), .second, .val (.long eb), .second, .val (.long pz), .second, .val (.int mask), .val (.ref b1), .val (.ref b17), .val (.long (own_x (4 : Int32) (4 : Int32) pz)), .second, .val (.int (own_h (4 : Int32) (4 : Int32))), .val (.long (own_x dc (5 : Int32) pz)), .second, .val (.int (own_h dc (5 : Int32))), .val (.int (4 : Int32)), .val (.int dc), .val (.long (9223372036854775807 : Int64)), .second, .val (.long (9223372036854775807 : Int64)), .second] [(.int ((4 : Int32) - (4 : Int32))), (.int (own_h (4 : Int32) (4 : Int32)))]))
      rw [show ((4 : Int32) - (4 : Int32)) = (0 : Int32) from by decide]
      refine OGo.via (fun _ k => XS.icmpNo X239.here hx rfl (hb hby at_345) rfl (teq (rfl : (own_h (4 : Int32) (4 : Int32)) = (0 : Int32))).2 k) ?_
      show OGo _ _ _ _ (T239.setTop (mkF m 348 #[.val (.long qa), .second, .val (.long qb), .second, .val (.long ea), .second, .val (.long eb), .second, .val (.long pz), .second, .val (.int mask), .val (.ref b1), .val (.ref b17), .val (.long (own_x (4 : Int32) (4 : Int32) pz)), .second, .val (.int (own_h (4 : Int32) (4 : Int32))), .val (.long (own_x dc (5 : Int32) pz)), .second, .val (.int (own_h dc (5 : Int32))), .val (.int (4 : Int32)), .val (.int dc), .val (.long (9223372036854775807 : Int64)), .second, .val (.long (9223372036854775807 : Int64)), .second] []))
      refine OGo.via (fun _ k => XS.lload X239.here hx rfl (hb hby at_348) rfl (XS.lload X239.here hx rfl (hb hby at_350) rfl (XS.lcmp X239.here hx rfl (hb hby at_352) rfl k))) ?_
      refine OGo.via (fun _ k => XS.ifNo X239.here hx rfl (hb hby at_353) rfl ((if0 _ _).trans (teq ((lw_eq _ _).mpr (own_xy hc314_241) : (lcmpW (own_x dc (5 : Int32) pz) (9223372036854775807 : Int64)) = (0 : Int32))).2) k) ?_
      show OGo _ _ _ _ (T239.setTop (mkF m 356 #[.val (.long qa), .second, .val (.long qb), .second, .val (.long ea), .second, .val (.long eb), .second, .val (.long pz), .second, .val (.int mask), .val (.ref b1), .val (.ref b17), .val (.long (own_x (4 : Int32) (4 : Int32) pz)), .second, .val (.int (own_h (4 : Int32) (4 : Int32))), .val (.long (own_x dc (5 : Int32) pz)), .second, .val (.int (own_h dc (5 : Int32))), .val (.int (4 : Int32)), .val (.int dc), .val (.long (9223372036854775807 : Int64)), .second, .val (.long (9223372036854775807 : Int64)), .second] []))
      refine OGo.via (fun _ k => XS.iload X239.here hx rfl (hb hby at_356) rfl (XS.iconst X239.here hx rfl (hb hby at_358) (XS.iload X239.here hx rfl (hb hby at_359) rfl (XS.isub X239.here hx rfl (hb hby at_361) rfl k)))) ?_
      refine OGo.via (fun _ k => XS.icmpNo X239.here hx rfl (hb hby at_362) rfl (teq (rfl : (own_h dc (5 : Int32)) = ((5 : Int32) - dc))).2 k) ?_
      show OGo _ _ _ _ (T239.setTop (mkF m 365 #[.val (.long qa), .second, .val (.long qb), .second, .val (.long ea), .second, .val (.long eb), .second, .val (.long pz), .second, .val (.int mask), .val (.ref b1), .val (.ref b17), .val (.long (own_x (4 : Int32) (4 : Int32) pz)), .second, .val (.int (own_h (4 : Int32) (4 : Int32))), .val (.long (own_x dc (5 : Int32) pz)), .second, .val (.int (own_h dc (5 : Int32))), .val (.int (4 : Int32)), .val (.int dc), .val (.long (9223372036854775807 : Int64)), .second, .val (.long (9223372036854775807 : Int64)), .second] []))
      refine OGo.via (fun _ k => XS.iconst X239.here hx rfl (hb hby at_365) (XS.goto X239.here hx rfl (pc0 := 366) (pc' := 370) rfl (hb hby at_366) (by decide) (by decide) k)) ?_
      show OGo _ _ _ _ (T239.setTop (mkF m 370 #[.val (.long qa), .second, .val (.long qb), .second, .val (.long ea), .second, .val (.long eb), .second, .val (.long pz), .second, .val (.int mask), .val (.ref b1), .val (.ref b17), .val (.long (own_x (4 : Int32) (4 : Int32) pz)), .second, .val (.int (own_h (4 : Int32) (4 : Int32))), .val (.long (own_x dc (5 : Int32) pz)), .second, .val (.int (own_h dc (5 : Int32))), .val (.int (4 : Int32)), .val (.int dc), .val (.long (9223372036854775807 : Int64)), .second, .val (.long (9223372036854775807 : Int64)), .second] [(.int (1 : Int32))]))
      refine own_retN (t := .boolean) (by simp) X239 hx Bd.notSynchronized Bd.returns (hb hby at_370) (by decide) (by decide) ?_
      show Q_rm0 Z _ _ _ _ _ _ _ _ h0 n0 _ T239.heap _
      rw [r239_0]
      exact ⟨rfl, N239⟩
    · refine OGo.via (fun _ k => XS.icmpYes X239.here hx rfl (pc0 := 314) (pc' := 323) rfl (hb hby at_314) rfl (feq hc314_241).2 (by decide) (by decide) k) ?_
      show OGo _ _ _ _ (T239.setTop (mkF m 323 #[.val (.long qa), .second, .val (.long qb), .second, .val (.long ea), .second, .val (.long eb), .second, .val (.long pz), .second, .val (.int mask), .val (.ref b1), .val (.ref b17), .val (.long (own_x (4 : Int32) (4 : Int32) pz)), .second, .val (.int (own_h (4 : Int32) (4 : Int32))), .val (.long (own_x dc (5 : Int32) pz)), .second, .val (.int (own_h dc (5 : Int32))), .val (.int (4 : Int32)), .val (.int dc), .val (.long (9223372036854775807 : Int64)), .second, .unset, .unset] []))
      refine OGo.via (fun _ k => XS.lload X239.here hx rfl (hb hby at_323) rfl (XS.iload X239.here hx rfl (hb hby at_325) rfl (XS.i2l X239.here hx rfl (hb hby at_327) rfl (XS.ladd X239.here hx rfl (hb hby at_328) rfl (XS.lstore X239.here hx rfl (hb hby at_329) rfl (l' := #[.val (.long qa), .second, .val (.long qb), .second, .val (.long ea), .second, .val (.long eb), .second, .val (.long pz), .second, .val (.int mask), .val (.ref b1), .val (.ref b17), .val (.long (own_x (4 : Int32) (4 : Int32) pz)), .second, .val (.int (own_h (4 : Int32) (4 : Int32))), .val (.long (own_x dc (5 : Int32) pz)), .second, .val (.int (own_h dc (5 : Int32))), .val (.int (4 : Int32)), .val (.int dc), .val (.long (9223372036854775807 : Int64)), .second, .val (.long (pz + (dc.toInt64))), .second]) rfl (XS.lload X239.here hx rfl (hb hby at_331) rfl (XS.lload X239.here hx rfl (hb hby at_333) rfl (XS.lcmp X239.here hx rfl (hb hby at_335) rfl k)))))))) ?_
      show OGo _ _ _ _ (T239.setTop (mkF m 336 #[.val (.long qa), .second, .val (.long qb), .second, .val (.long ea), .second, .val (.long eb), .second, .val (.long pz), .second, .val (.int mask), .val (.ref b1), .val (.ref b17), .val (.long (own_x (4 : Int32) (4 : Int32) pz)), .second, .val (.int (own_h (4 : Int32) (4 : Int32))), .val (.long (own_x dc (5 : Int32) pz)), .second, .val (.int (own_h dc (5 : Int32))), .val (.int (4 : Int32)), .val (.int dc), .val (.long (9223372036854775807 : Int64)), .second, .val (.long (pz + (dc.toInt64))), .second] [(.int (lcmpW (own_x (4 : Int32) (4 : Int32) pz) (9223372036854775807 : Int64)))]))
      refine OGo.via (fun _ k => XS.ifNo X239.here hx rfl (hb hby at_336) rfl ((if0 _ _).trans (teq ((lw_eq _ _).mpr (own_xy rfl) : (lcmpW (own_x (4 : Int32) (4 : Int32) pz) (9223372036854775807 : Int64)) = (0 : Int32))).2) k) ?_
      show OGo _ _ _ _ (T239.setTop (mkF m 339 #[.val (.long qa), .second, .val (.long qb), .second, .val (.long ea), .second, .val (.long eb), .second, .val (.long pz), .second, .val (.int mask), .val (.ref b1), .val (.ref b17), .val (.long (own_x (4 : Int32) (4 : Int32) pz)), .second, .val (.int (own_h (4 : Int32) (4 : Int32))), .val (.long (own_x dc (5 : Int32) pz)), .second, .val (.int (own_h dc (5 : Int32))), .val (.int (4 : Int32)), .val (.int dc), .val (.long (9223372036854775807 : Int64)), .second, .val (.long (pz + (dc.toInt64))), .second] []))
      refine OGo.via (fun _ k => XS.iload X239.here hx rfl (hb hby at_339) rfl (XS.iconst X239.here hx rfl (hb hby at_341) (XS.iload X239.here hx rfl (hb hby at_342) rfl (XS.isub X239.here hx rfl (hb hby at_344) rfl k)))) ?_
      show OGo _ _ _ _ (T239.setTop (mkF m 345 #[.val (.long qa), .second, .val (.long qb), .second, .val (.long ea), .second, .val (.long eb), .second, .val (.long pz), .second, .val (.int mask), .val (.ref b1), .val (.ref b17), .val (.long (own_x (4 : Int32) (4 : Int32) pz)), .second, .val (.int (own_h (4 : Int32) (4 : Int32))), .val (.long (own_x dc (5 : Int32) pz)), .second, .val (.int (own_h dc (5 : Int32))), .val (.int (4 : Int32)), .val (.int dc), .val (.long (9223372036854775807 : Int64)), .second, .val (.long (pz + (dc.toInt64))), .second] [(.int ((4 : Int32) - (4 : Int32))), (.int (own_h (4 : Int32) (4 : Int32)))]))
      rw [show ((4 : Int32) - (4 : Int32)) = (0 : Int32) from by decide]
      refine OGo.via (fun _ k => XS.icmpNo X239.here hx rfl (hb hby at_345) rfl (teq (rfl : (own_h (4 : Int32) (4 : Int32)) = (0 : Int32))).2 k) ?_
      show OGo _ _ _ _ (T239.setTop (mkF m 348 #[.val (.long qa), .second, .val (.long qb), .second, .val (.long ea), .second, .val (.long eb), .second, .val (.long pz), .second, .val (.int mask), .val (.ref b1), .val (.ref b17), .val (.long (own_x (4 : Int32) (4 : Int32) pz)), .second, .val (.int (own_h (4 : Int32) (4 : Int32))), .val (.long (own_x dc (5 : Int32) pz)), .second, .val (.int (own_h dc (5 : Int32))), .val (.int (4 : Int32)), .val (.int dc), .val (.long (9223372036854775807 : Int64)), .second, .val (.long (pz + (dc.toInt64))), .second] []))
      refine OGo.via (fun _ k => XS.lload X239.here hx rfl (hb hby at_348) rfl (XS.lload X239.here hx rfl (hb hby at_350) rfl (XS.lcmp X239.here hx rfl (hb hby at_352) rfl k))) ?_
      refine OGo.via (fun _ k => XS.ifNo X239.here hx rfl (hb hby at_353) rfl ((if0 _ _).trans (teq ((lw_eq _ _).mpr (own_xn hc314_241) : (lcmpW (own_x dc (5 : Int32) pz) (pz + (dc.toInt64))) = (0 : Int32))).2) k) ?_
      show OGo _ _ _ _ (T239.setTop (mkF m 356 #[.val (.long qa), .second, .val (.long qb), .second, .val (.long ea), .second, .val (.long eb), .second, .val (.long pz), .second, .val (.int mask), .val (.ref b1), .val (.ref b17), .val (.long (own_x (4 : Int32) (4 : Int32) pz)), .second, .val (.int (own_h (4 : Int32) (4 : Int32))), .val (.long (own_x dc (5 : Int32) pz)), .second, .val (.int (own_h dc (5 : Int32))), .val (.int (4 : Int32)), .val (.int dc), .val (.long (9223372036854775807 : Int64)), .second, .val (.long (pz + (dc.toInt64))), .second] []))
      refine OGo.via (fun _ k => XS.iload X239.here hx rfl (hb hby at_356) rfl (XS.iconst X239.here hx rfl (hb hby at_358) (XS.iload X239.here hx rfl (hb hby at_359) rfl (XS.isub X239.here hx rfl (hb hby at_361) rfl k)))) ?_
      refine OGo.via (fun _ k => XS.icmpNo X239.here hx rfl (hb hby at_362) rfl (teq (rfl : (own_h dc (5 : Int32)) = ((5 : Int32) - dc))).2 k) ?_
      show OGo _ _ _ _ (T239.setTop (mkF m 365 #[.val (.long qa), .second, .val (.long qb), .second, .val (.long ea), .second, .val (.long eb), .second, .val (.long pz), .second, .val (.int mask), .val (.ref b1), .val (.ref b17), .val (.long (own_x (4 : Int32) (4 : Int32) pz)), .second, .val (.int (own_h (4 : Int32) (4 : Int32))), .val (.long (own_x dc (5 : Int32) pz)), .second, .val (.int (own_h dc (5 : Int32))), .val (.int (4 : Int32)), .val (.int dc), .val (.long (9223372036854775807 : Int64)), .second, .val (.long (pz + (dc.toInt64))), .second] []))
      refine OGo.via (fun _ k => XS.iconst X239.here hx rfl (hb hby at_365) (XS.goto X239.here hx rfl (pc0 := 366) (pc' := 370) rfl (hb hby at_366) (by decide) (by decide) k)) ?_
      show OGo _ _ _ _ (T239.setTop (mkF m 370 #[.val (.long qa), .second, .val (.long qb), .second, .val (.long ea), .second, .val (.long eb), .second, .val (.long pz), .second, .val (.int mask), .val (.ref b1), .val (.ref b17), .val (.long (own_x (4 : Int32) (4 : Int32) pz)), .second, .val (.int (own_h (4 : Int32) (4 : Int32))), .val (.long (own_x dc (5 : Int32) pz)), .second, .val (.int (own_h dc (5 : Int32))), .val (.int (4 : Int32)), .val (.int dc), .val (.long (9223372036854775807 : Int64)), .second, .val (.long (pz + (dc.toInt64))), .second] [(.int (1 : Int32))]))
      refine own_retN (t := .boolean) (by simp) X239 hx Bd.notSynchronized Bd.returns (hb hby at_370) (by decide) (by decide) ?_
      show Q_rm0 Z _ _ _ _ _ _ _ _ h0 n0 _ T239.heap _
      rw [r239_0]
      exact ⟨rfl, N239⟩
theorem own_arrStart {args : Array Value} {Z : State} {t : Term} {a : Addr} {ty : FieldType} (ev : t.eval args Z none [] Z = some (.ref a)) (hx : (Jvm.Cond.arrayOf t ty).value args Z none Z [] = some true) : ∃ c, Arr Z Z.heap a c ty := Arr.start ev hx
theorem own_none {args : Array Value} {Z : State} {t : Term} {a : Addr} {c : Cell} (hf : Fit Z) (ev : t.eval args Z none [] Z = some (.ref a)) (A : Arr Z Z.heap a c .long) (h : (Jvm.Cond.eq (.length t) (.int 0)).value args Z none Z [] = some true) : Arv Z Z.heap a c.cls .long (0 : Int32) [] (.long (0 : Int64)) := by
  obtain ⟨x, y, hx, hy, -, -⟩ := cmp_v (Or.inl h)
  obtain rfl : Value.int 0 = y := Option.some.inj hy
  have q := A.fin (Vm.Alike.refl _)
  have hs : c.slots.size < 2 ^ 31 := by
    refine Classical.byContradiction fun hc => ?_
    simp [Term.eval, ev, q, hc] at hx
  have hx' := hx
  rw [len_f ev q hs] at hx'
  obtain rfl := Option.some.inj hx'
  have he : c.slots.size.toInt32 = 0 := by simpa [Jvm.Cond.value, hx, Term.int_eval] using h
  exact Arv.start hf A hs he (by decide) rfl trivial
set_option maxRecDepth 65536 in
set_option maxHeartbeats 40000000 in
theorem comes_1 {Post : Tables → Env → Array Value → State → Outcome → State → Prop} (hpost : ∀ tb e args s v u, (limb_1_1.after args s (.returned v) u = true ∧ limb_1_2.after args s (.returned v) u = true ∧ True) → FrameEnd s (.returned v) u (Jvm.fieldLocs frame_1_writes args s ++ Jvm.arrayLocs frame_1_arrays args s ++ Jvm.staticLocs frame_1_statics s) 24 192 → Post tb e args s (.returned v) u) :
    ArmFor flags0 classFile x code maxLocals ret World_1 tables_1 room_1 Calls_1 rest_1 Pre_1 Post := by
  intro l hfl _ _ p e ha hc hk s m args below hf hA hF happ hP
  obtain ⟨hcalls, hrest, hpre⟩ := hP
  obtain ⟨-, -, -, hnamed, -, -, -, hat⟩ := (Spec.applies_iff hf).mp happ
  obtain ⟨hg, hn⟩ := and_e (Cond.before_iff.mp (show (Jvm.Cond.and given_1 narrow_1).before args s = true from hpre))
  obtain ⟨gc, gv0⟩ := and_e hg
  obtain ⟨ga0, gv1⟩ := and_e gv0
  obtain ⟨ga1, gv2⟩ := and_e gv1
  obtain ⟨ga2, gv3⟩ := and_e gv2
  obtain ⟨ga3, gv4⟩ := and_e gv3
  obtain ⟨ga4, gv5⟩ := and_e gv4
  have ga5 := gv5
  obtain ⟨w0, w1, w2, w3, w4, w5, rfl⟩ : ∃ w0 w1 w2 w3 w4 w5 : Value, args = #[w0, w1, w2, w3, w4, w5] := by
    have hs : args.size = 6 := by simpa [Cond.value, given_1] using gc
    obtain ⟨L⟩ := args
    match L, hs with
    | [w0, w1, w2, w3, w4, w5], _ => exact ⟨w0, w1, w2, w3, w4, w5, rfl⟩
  have hw := fun d (hd : d ∈ tables_1) => atoms_spec (ws := Jvm.Cond.code x code maxLocals ret :: tables_1) hat d (List.mem_cons_of_mem _ hd)
  have hfit : Fit s := fun {y c} hc i hi => by
    obtain ⟨ha, rfl⟩ := Array.getElem?_eq_some_iff.mp hc
    have q := List.all_eq_true.mp ((Array.all_eq_true_iff_forall_mem.mp hF) _ (Array.getElem_mem ha)) i (List.mem_range.mpr hi)
    simpa [Array.getElem?_eq_getElem hi] using q
  obtain ⟨i0, ei0⟩ := isL_v ga0
  obtain rfl : w0 = (.long i0) := Option.some.inj ei0
  obtain ⟨i1, ei1⟩ := isL_v ga1
  obtain rfl : w1 = (.long i1) := Option.some.inj ei1
  obtain ⟨i2, ei2⟩ := isL_v ga2
  obtain rfl : w2 = (.long i2) := Option.some.inj ei2
  obtain ⟨i3, ei3⟩ := isL_v ga3
  obtain rfl : w3 = (.long i3) := Option.some.inj ei3
  obtain ⟨i4, ei4⟩ := isL_v ga4
  obtain rfl : w4 = (.long i4) := Option.some.inj ei4
  obtain ⟨i5, ei5⟩ := is_v ga5
  obtain rfl : w5 = (.int i5) := Option.some.inj ei5
  obtain ⟨na, nl⟩ := and_e hn
  obtain ⟨wN, ev⟩ := arr_v na
  obtain ⟨cN, AN⟩ := own_arrStart ev na
  have VN := own_none hfit ev AN nl
  obtain ⟨n, o, h1, h2, h3, _, L, rfl, ⟨rfl, N⟩, hq⟩ := rm0 l s _ hw tables_1 i0 i1 i2 i3 i4 i5 wN cN.cls s.heap s.heap.size (Nat.le_refl _) (Sta.start ev (Or.inr ⟨(own_w hw 3 rfl), (own_w hw 11 rfl)⟩)) VN p e ha hc hk s m _ below hf ((Spec.applies_iff_loose hf).mp happ).1 ⟨rfl, State.Warmed39.refl s, rfl⟩ trivial
  refine ⟨n, _, h1, h2, h3, hpost _ _ _ _ _ _ ⟨Cond.after_iff.mpr rfl, Cond.after_iff.mpr (eq_i res_at (Term.int_eval (1)) rfl), trivial⟩ ⟨hq.1, hq.2.1, (hq.2.2.sift fun y hy => Or.inr (N y hy)).mono (by decide) (by decide)⟩⟩
theorem main_1_1 : Claimed_1_1 := comes_1 fun _ _ _ _ _ _ h hF => ⟨h.1, hF⟩
theorem main_1_2 : Claimed_1_2 := comes_1 fun _ _ _ _ _ _ h hF => ⟨h.2.1, hF⟩
end Jvm.Pilot.@@N@@
namespace Jvm.Pilot.@@N@@
open Jvm Jvm.ClassFile Sem Op Lib Jvm.Free Jvm.Stand Jvm.Pilot.@@N@@.Jvm.D
/-! MADE BY PROGRAM (witnessworld.py) out of the Statement's table words and the real class files: 14 classes; the members and pool entries that the words name. The judged class is class 1, her method 2. -/
namespace start1
open Jvm.ClassFile
def u (s : String) : CpInfo := .utf8 (stringToUtf16 s)
/-- a pool by its gaps: so many unusable entries, then the entry; so many at the end -/
def gap : Nat → List CpInfo → List CpInfo
  | 0, r => r
  | n + 1, r => .unusable :: gap n r
def poolList (es : List (Nat × CpInfo)) (last : Nat) : List CpInfo := es.foldr (fun e r => gap e.1 (e.2 :: r)) (gap last [])
def pool (es : List (Nat × CpInfo)) (last : Nat) : Array CpInfo := ⟨poolList es last⟩
def fileOf (pool : Array CpInfo) (this : Nat) (attrs : Array Attribute := #[]) (ms : Array MethodInfo := #[]) (fl : Nat := 33) (sup : Nat := 0) (ifs : Array Nat := #[]) (fds : Array FieldInfo := #[]) : ClassFile where
  minorVersion := 0
  majorVersion := 65
  constantPool := pool
  accessFlags := fl
  thisClass := this
  superClass := sup
  interfaces := ifs
  fields := fds
  methods := ms
  attributes := attrs
def plain (name : String) (sup : Option ClassId) : Class where
  name := name
  kind := .ordinary
  loader := none
  accessFlags := 33
  super := sup
  interfaces := #[]
  cf := none
  fields := #[]
  methods := #[]
  instanceTypes := #[]
  staticTypes := #[]
  resolved := #[]
  callSites := []
  init := .initialized
  statics := none
  mirror := none

def pool0 : Array CpInfo := pool [(5, u "<init>"), (0, u "()V"), (1, .class_ 10), (1, u "java/lang/Object")] 113

def k0c0 : Code := { maxStack := 0, maxLocals := 1, code := object_method_1_code, exceptionTable := #[], attributes := #[] }
def k0m0 : Method := { name := "<init>", desc := "()V", sig := { parameters := [], returnType := none }, accessFlags := 1, code := some k0c0 }
/-- java/lang/Object -/
def k0 : Class := { plain "java/lang/Object" none with
  accessFlags := 33
  interfaces := #[]
  cf := some (fileOf pool0 8 #[] #[{ accessFlags := 1, nameIndex := 5, descriptorIndex := 6, attributes := #[] }] 33 0 #[] #[])
  fields := #[]
  methods := #[k0m0]
  instanceTypes := #[]
  staticTypes := #[]
  resolved := Array.replicate 124 none
  statics := none }

def pool1 : Array CpInfo := pool [(2, .class_ 4), (0, .nameAndType 5 6), (0, u "java/lang/Object"), (0, u "<init>"), (0, u "()V"), (0, .class_ 8), (0, u "com/example/eventloom/eventloom/engine/Forbidden"), (0, .methodref 7 3), (2, .long 9223372036854775808), (1, .methodref 7 15), (0, .nameAndType 16 17), (0, u "keepBefore"), (0, u "(JJJ)V"), (0, .long 2), (1, .long 3), (1, .methodref 7 23), (0, .nameAndType 24 25), (0, u "latestFirst"), (0, u "(J)J"), (0, .methodref 7 27), (0, .nameAndType 28 29), (0, u "held"), (0, u "()I"), (0, .long 4), (1, .methodref 33 34), (0, .class_ 35), (0, .nameAndType 36 37), (0, u "com/example/eventloom/eventloom/engine/ForbiddenLatestFirstPinLaw"), (0, u "adv"), (0, u "(II[JJ)I"), (0, .long 9223372036854775807), (4, u "law"), (0, u "(JJJJJI)Z")] 4

def k1m0 : Method := { name := "<init>", desc := "()V", sig := { parameters := [], returnType := none }, accessFlags := 1, code := none }
def k1c1 : Code := { maxStack := 4, maxLocals := 5, code := method_2_code, exceptionTable := #[], attributes := #[] }
def k1m1 : Method := { name := "adv", desc := "(II[JJ)I", sig := { parameters := [.int, .int, (.array .long), .long], returnType := some .int }, accessFlags := 10, code := some k1c1 }
def k1c2 : Code := { maxStack := 7, maxLocals := 25, code := code, exceptionTable := #[], attributes := #[] }
def k1m2 : Method := { name := "law", desc := "(JJJJJI)Z", sig := { parameters := [.long, .long, .long, .long, .long, .int], returnType := some .boolean }, accessFlags := 9, code := some k1c2 }
/-- com/example/eventloom/eventloom/engine/ForbiddenLatestFirstPinLaw -/
def k1 : Class := { plain "com/example/eventloom/eventloom/engine/ForbiddenLatestFirstPinLaw" (some 0) with
  accessFlags := 49
  interfaces := #[]
  cf := some (fileOf pool1 33 #[] #[{ accessFlags := 1, nameIndex := 5, descriptorIndex := 6, attributes := #[] }, { accessFlags := 10, nameIndex := 36, descriptorIndex := 37, attributes := #[] }, { accessFlags := 9, nameIndex := 43, descriptorIndex := 44, attributes := #[] }] 49 2 #[] #[])
  fields := #[]
  methods := #[k1m0, k1m1, k1m2]
  instanceTypes := #[]
  staticTypes := #[]
  resolved := Array.replicate 49 none
  statics := none }

def pool2 : Array CpInfo := pool [(1, .methodref 2 3), (0, .class_ 4), (0, .nameAndType 5 6), (0, u "java/lang/Object"), (0, u "<init>"), (0, u "()V"), (0, .fieldref 8 9), (0, .class_ 10), (0, .nameAndType 11 12), (0, u "com/example/eventloom/eventloom/engine/Forbidden"), (0, u "NONE"), (0, u "[J"), (0, .fieldref 8 14), (0, .nameAndType 15 12), (0, u "positions"), (0, .fieldref 8 17), (0, .nameAndType 18 12), (0, u "times"), (0, .methodref 8 20), (0, .nameAndType 21 22), (0, u "latestFirst"), (0, u "(J)J"), (0, .fieldref 8 24), (0, .nameAndType 25 26), (0, u "count"), (0, u "I"), (0, .methodref 8 28), (0, .nameAndType 29 30), (0, u "unrolled"), (0, u "([J)[J"), (0, .fieldref 8 32), (0, .nameAndType 33 26), (0, u "first"), (0, .fieldref 8 35), (0, .nameAndType 36 37), (0, u "befores"), (0, u "J"), (0, .methodref 39 40), (0, .class_ 41), (0, .nameAndType 42 43), (0, u "java/util/Arrays"), (0, u "copyOf"), (0, u "([JI)[J"), (0, .methodref 45 46), (0, .class_ 47), (0, .nameAndType 48 49), (0, u "java/lang/System"), (0, u "arraycopy"), (0, u "(Ljava/lang/Object;ILjava/lang/Object;II)V"), (2, .long 9223372036854775807), (3, u "afters"), (2, u "held"), (0, u "Lcom/example/eventloom/eventloom/engine/Awaiting$Held;"), (2, u "keepBefore"), (0, u "(JJJ)V"), (4, u "()I")] 10

def k2c0 : Code := { maxStack := 2, maxLocals := 1, code := prog_122_method_1_code, exceptionTable := #[], attributes := #[] }
def k2m0 : Method := { name := "<init>", desc := "()V", sig := { parameters := [], returnType := none }, accessFlags := 0, code := some k2c0 }
def k2c1 : Code := { maxStack := 5, maxLocals := 8, code := prog_122_method_2_code, exceptionTable := #[], attributes := #[] }
def k2m1 : Method := { name := "keepBefore", desc := "(JJJ)V", sig := { parameters := [.long, .long, .long], returnType := none }, accessFlags := 0, code := some k2c1 }
def k2c2 : Code := { maxStack := 5, maxLocals := 3, code := prog_122_method_3_code, exceptionTable := #[], attributes := #[] }
def k2m2 : Method := { name := "unrolled", desc := "([J)[J", sig := { parameters := [(.array .long)], returnType := some (.array .long) }, accessFlags := 2, code := some k2c2 }
def k2c3 : Code := { maxStack := 4, maxLocals := 3, code := prog_122_method_4_code, exceptionTable := #[], attributes := #[] }
def k2m3 : Method := { name := "latestFirst", desc := "(J)J", sig := { parameters := [.long], returnType := some .long }, accessFlags := 0, code := some k2c3 }
def k2c4 : Code := { maxStack := 1, maxLocals := 1, code := prog_122_method_7_code, exceptionTable := #[], attributes := #[] }
def k2m4 : Method := { name := "held", desc := "()I", sig := { parameters := [], returnType := some .int }, accessFlags := 0, code := some k2c4 }
/-- com/example/eventloom/eventloom/engine/Forbidden -/
def k2 : Class := { plain "com/example/eventloom/eventloom/engine/Forbidden" (some 0) with
  accessFlags := 48
  interfaces := #[]
  cf := some (fileOf pool2 8 #[] #[{ accessFlags := 0, nameIndex := 5, descriptorIndex := 6, attributes := #[] }, { accessFlags := 0, nameIndex := 63, descriptorIndex := 64, attributes := #[] }, { accessFlags := 2, nameIndex := 29, descriptorIndex := 30, attributes := #[] }, { accessFlags := 0, nameIndex := 21, descriptorIndex := 22, attributes := #[] }, { accessFlags := 0, nameIndex := 59, descriptorIndex := 69, attributes := #[] }] 48 2 #[] #[{ accessFlags := 26, nameIndex := 11, descriptorIndex := 12, attributes := #[] }, { accessFlags := 2, nameIndex := 15, descriptorIndex := 12, attributes := #[] }, { accessFlags := 2, nameIndex := 18, descriptorIndex := 12, attributes := #[] }, { accessFlags := 2, nameIndex := 33, descriptorIndex := 26, attributes := #[] }, { accessFlags := 2, nameIndex := 25, descriptorIndex := 26, attributes := #[] }, { accessFlags := 2, nameIndex := 36, descriptorIndex := 37, attributes := #[] }, { accessFlags := 2, nameIndex := 56, descriptorIndex := 37, attributes := #[] }, { accessFlags := 0, nameIndex := 59, descriptorIndex := 60, attributes := #[] }])
  fields := #[{ name := "NONE", type := (.array .long), accessFlags := 26, slot := 0, constantValue := 0 }, { name := "positions", type := (.array .long), accessFlags := 2, slot := 0, constantValue := 0 }, { name := "times", type := (.array .long), accessFlags := 2, slot := 1, constantValue := 0 }, { name := "first", type := .int, accessFlags := 2, slot := 2, constantValue := 0 }, { name := "count", type := .int, accessFlags := 2, slot := 3, constantValue := 0 }, { name := "befores", type := .long, accessFlags := 2, slot := 4, constantValue := 0 }, { name := "afters", type := .long, accessFlags := 2, slot := 5, constantValue := 0 }, { name := "held", type := (.object "com/example/eventloom/eventloom/engine/Awaiting$Held"), accessFlags := 0, slot := 6, constantValue := 0 }]
  methods := #[k2m0, k2m1, k2m2, k2m3, k2m4]
  instanceTypes := #[(.array .long), (.array .long), .int, .int, .long, .long, (.object "com/example/eventloom/eventloom/engine/Awaiting$Held")]
  staticTypes := #[(.array .long)]
  resolved := Array.replicate 80 none
  statics := some 0 }

def pool3 : Array CpInfo := pool [(2, .class_ 4), (1, u "java/lang/Object"), (0, u "<init>"), (0, u "()V"), (7, .class_ 16), (1, u "java/util/Arrays"), (57, .class_ 76), (1, u "java/util/Arrays$NaturalOrder"), (36, .class_ 115), (1, u "java/util/Arrays$LegacyMergeSort"), (1, u "Z"), (32, .methodref 151 152), (0, .class_ 153), (0, .nameAndType 154 155), (0, u "java/lang/System"), (0, u "arraycopy"), (0, u "(Ljava/lang/Object;ILjava/lang/Object;II)V"), (146, u "copyOf"), (1, .methodref 305 306), (0, .class_ 307), (0, .nameAndType 308 309), (0, u "java/lang/Math"), (0, u "min"), (0, u "(II)I"), (65, .class_ 376), (0, u "java/util/Arrays$ArrayList"), (68, u "$assertionsDisabled"), (269, u "MIN_ARRAY_SORT_GRAN"), (0, u "I"), (2, u "INSERTIONSORT_THRESHOLD"), (152, u "([JI)[J"), (102, .class_ 976), (0, u "java/util/Arrays$ArrayItr")] 52

def k3m0 : Method := { name := "<init>", desc := "()V", sig := { parameters := [], returnType := none }, accessFlags := 2, code := none }
def k3c1 : Code := { maxStack := 6, maxLocals := 3, code := jdk_65_method_124_code, exceptionTable := #[], attributes := #[] }
def k3m1 : Method := { name := "copyOf", desc := "([JI)[J", sig := { parameters := [(.array .long), .int], returnType := some (.array .long) }, accessFlags := 9, code := some k3c1 }
/-- java/util/Arrays -/
def k3 : Class := { plain "java/util/Arrays" (some 0) with
  accessFlags := 49
  interfaces := #[]
  cf := some (fileOf pool3 14 #[.nestMembers #[975, 375, 113, 74]] #[{ accessFlags := 2, nameIndex := 5, descriptorIndex := 6, attributes := #[] }, { accessFlags := 9, nameIndex := 302, descriptorIndex := 872, attributes := #[] }] 49 2 #[] #[{ accessFlags := 26, nameIndex := 715, descriptorIndex := 716, attributes := #[] }, { accessFlags := 26, nameIndex := 719, descriptorIndex := 716, attributes := #[] }, { accessFlags := 4120, nameIndex := 445, descriptorIndex := 117, attributes := #[] }])
  fields := #[{ name := "MIN_ARRAY_SORT_GRAN", type := .int, accessFlags := 26, slot := 0, constantValue := 0 }, { name := "INSERTIONSORT_THRESHOLD", type := .int, accessFlags := 26, slot := 1, constantValue := 0 }, { name := "$assertionsDisabled", type := .boolean, accessFlags := 4120, slot := 2, constantValue := 0 }]
  methods := #[k3m0, k3m1]
  instanceTypes := #[]
  staticTypes := #[.int, .int, .boolean]
  resolved := Array.replicate 1029 none
  statics := none }

def pool4 : Array CpInfo := pool [(1, .class_ 2), (0, u "java/lang/Math"), (1, .class_ 6), (1, u "java/lang/Object"), (0, u "<init>"), (0, u "()V"), (89, .class_ 100), (1, u "java/lang/Math$RandomNumberGeneratorHolder"), (71, u "negativeZeroFloatBits"), (0, u "J"), (2, u "negativeZeroDoubleBits"), (24, u "min"), (43, u "$assertionsDisabled"), (0, u "Z"), (88, u "(II)I"), (2, u "twoToTheDoubleScaleDown"), (0, u "D"), (4, u "twoToTheDoubleScaleUp"), (9, u "E"), (3, u "PI"), (2, u "TAU"), (2, u "DEGREES_TO_RADIANS"), (0, u "RADIANS_TO_DEGREES")] 94

def k4m0 : Method := { name := "<init>", desc := "()V", sig := { parameters := [], returnType := none }, accessFlags := 2, code := none }
def k4c1 : Code := { maxStack := 2, maxLocals := 2, code := jdk_29_method_69_code, exceptionTable := #[], attributes := #[] }
def k4m1 : Method := { name := "min", desc := "(II)I", sig := { parameters := [.int, .int], returnType := some .int }, accessFlags := 9, code := some k4c1 }
/-- java/lang/Math -/
def k4 : Class := { plain "java/lang/Math" (some 0) with
  accessFlags := 49
  interfaces := #[]
  cf := some (fileOf pool4 1 #[.nestMembers #[98]] #[{ accessFlags := 2, nameIndex := 7, descriptorIndex := 8, attributes := #[] }, { accessFlags := 9, nameIndex := 201, descriptorIndex := 335, attributes := #[] }] 49 4 #[] #[{ accessFlags := 25, nameIndex := 354, descriptorIndex := 339, attributes := #[] }, { accessFlags := 25, nameIndex := 358, descriptorIndex := 339, attributes := #[] }, { accessFlags := 25, nameIndex := 361, descriptorIndex := 339, attributes := #[] }, { accessFlags := 26, nameIndex := 364, descriptorIndex := 339, attributes := #[] }, { accessFlags := 26, nameIndex := 365, descriptorIndex := 339, attributes := #[] }, { accessFlags := 26, nameIndex := 172, descriptorIndex := 173, attributes := #[] }, { accessFlags := 26, nameIndex := 176, descriptorIndex := 173, attributes := #[] }, { accessFlags := 8, nameIndex := 344, descriptorIndex := 339, attributes := #[] }, { accessFlags := 8, nameIndex := 338, descriptorIndex := 339, attributes := #[] }, { accessFlags := 4120, nameIndex := 245, descriptorIndex := 246, attributes := #[] }])
  fields := #[{ name := "E", type := .double, accessFlags := 25, slot := 0, constantValue := 0 }, { name := "PI", type := .double, accessFlags := 25, slot := 1, constantValue := 0 }, { name := "TAU", type := .double, accessFlags := 25, slot := 2, constantValue := 0 }, { name := "DEGREES_TO_RADIANS", type := .double, accessFlags := 26, slot := 3, constantValue := 0 }, { name := "RADIANS_TO_DEGREES", type := .double, accessFlags := 26, slot := 4, constantValue := 0 }, { name := "negativeZeroFloatBits", type := .long, accessFlags := 26, slot := 5, constantValue := 0 }, { name := "negativeZeroDoubleBits", type := .long, accessFlags := 26, slot := 6, constantValue := 0 }, { name := "twoToTheDoubleScaleUp", type := .double, accessFlags := 8, slot := 7, constantValue := 0 }, { name := "twoToTheDoubleScaleDown", type := .double, accessFlags := 8, slot := 8, constantValue := 0 }, { name := "$assertionsDisabled", type := .boolean, accessFlags := 4120, slot := 9, constantValue := 0 }]
  methods := #[k4m0, k4m1]
  instanceTypes := #[]
  staticTypes := #[.double, .double, .double, .double, .double, .long, .long, .double, .double, .boolean]
  resolved := Array.replicate 460 none
  statics := none }

def pool5 : Array CpInfo := pool [(2, .class_ 4), (1, u "java/lang/Object"), (0, u "<init>"), (0, u "()V"), (1, .class_ 10), (1, u "java/lang/System"), (0, u "allowSecurityManager"), (0, u "I"), (16, u "cons"), (0, u "Ljava/io/Console;"), (77, .class_ 110), (1, u "java/lang/System$CallersHolder"), (43, u "initialErrStream"), (0, u "Ljava/io/PrintStream;"), (19, u "security"), (0, u "Ljava/lang/SecurityManager;"), (31, .class_ 209), (0, u "java/lang/System$1"), (7, u "props"), (0, u "Ljava/util/Properties;"), (2, u "lineSeparator"), (0, u "Ljava/lang/String;"), (96, .class_ 321), (1, u "java/lang/System$LoggerFinder"), (5, .class_ 328), (0, u "java/lang/System$Logger"), (67, u "err"), (2, u "out"), (91, u "notSupportedJnuEncoding"), (15, u "in"), (17, u "initialIn"), (0, u "Ljava/io/InputStream;"), (35, u "bootLayer"), (0, u "Ljava/lang/ModuleLayer;"), (99, .class_ 664), (0, u "java/lang/System$2"), (9, u "NEVER"), (2, u "MAYBE"), (49, u "arraycopy"), (0, u "(Ljava/lang/Object;ILjava/lang/Object;II)V"), (72, .class_ 802), (0, u "java/lang/System$Logger$Level")] 31

def k5m0 : Method := { name := "<init>", desc := "()V", sig := { parameters := [], returnType := none }, accessFlags := 2, code := none }
def k5m1 : Method := { name := "arraycopy", desc := "(Ljava/lang/Object;ILjava/lang/Object;II)V", sig := { parameters := [(.object "java/lang/Object"), .int, (.object "java/lang/Object"), .int, .int], returnType := none }, accessFlags := 265, code := none }
/-- java/lang/System -/
def k5 : Class := { plain "java/lang/System" (some 0) with
  accessFlags := 49
  interfaces := #[]
  cf := some (fileOf pool5 8 #[.nestMembers #[319, 327, 801, 108, 663, 208]] #[{ accessFlags := 2, nameIndex := 5, descriptorIndex := 6, attributes := #[] }, { accessFlags := 265, nameIndex := 727, descriptorIndex := 728, attributes := #[] }] 49 2 #[] #[{ accessFlags := 25, nameIndex := 507, descriptorIndex := 526, attributes := #[] }, { accessFlags := 25, nameIndex := 399, descriptorIndex := 155, attributes := #[] }, { accessFlags := 25, nameIndex := 396, descriptorIndex := 155, attributes := #[] }, { accessFlags := 10, nameIndex := 525, descriptorIndex := 526, attributes := #[] }, { accessFlags := 26, nameIndex := 674, descriptorIndex := 12, attributes := #[] }, { accessFlags := 26, nameIndex := 677, descriptorIndex := 12, attributes := #[] }, { accessFlags := 10, nameIndex := 11, descriptorIndex := 12, attributes := #[] }, { accessFlags := 74, nameIndex := 175, descriptorIndex := 176, attributes := #[] }, { accessFlags := 10, nameIndex := 491, descriptorIndex := 222, attributes := #[] }, { accessFlags := 74, nameIndex := 29, descriptorIndex := 30, attributes := #[] }, { accessFlags := 74, nameIndex := 154, descriptorIndex := 155, attributes := #[] }, { accessFlags := 10, nameIndex := 217, descriptorIndex := 218, attributes := #[] }, { accessFlags := 10, nameIndex := 221, descriptorIndex := 222, attributes := #[] }, { accessFlags := 8, nameIndex := 562, descriptorIndex := 563, attributes := #[] }])
  fields := #[{ name := "in", type := (.object "java/io/InputStream"), accessFlags := 25, slot := 0, constantValue := 0 }, { name := "out", type := (.object "java/io/PrintStream"), accessFlags := 25, slot := 1, constantValue := 0 }, { name := "err", type := (.object "java/io/PrintStream"), accessFlags := 25, slot := 2, constantValue := 0 }, { name := "initialIn", type := (.object "java/io/InputStream"), accessFlags := 10, slot := 3, constantValue := 0 }, { name := "NEVER", type := .int, accessFlags := 26, slot := 4, constantValue := 0 }, { name := "MAYBE", type := .int, accessFlags := 26, slot := 5, constantValue := 0 }, { name := "allowSecurityManager", type := .int, accessFlags := 10, slot := 6, constantValue := 0 }, { name := "security", type := (.object "java/lang/SecurityManager"), accessFlags := 74, slot := 7, constantValue := 0 }, { name := "notSupportedJnuEncoding", type := (.object "java/lang/String"), accessFlags := 10, slot := 8, constantValue := 0 }, { name := "cons", type := (.object "java/io/Console"), accessFlags := 74, slot := 9, constantValue := 0 }, { name := "initialErrStream", type := (.object "java/io/PrintStream"), accessFlags := 74, slot := 10, constantValue := 0 }, { name := "props", type := (.object "java/util/Properties"), accessFlags := 10, slot := 11, constantValue := 0 }, { name := "lineSeparator", type := (.object "java/lang/String"), accessFlags := 10, slot := 12, constantValue := 0 }, { name := "bootLayer", type := (.object "java/lang/ModuleLayer"), accessFlags := 8, slot := 13, constantValue := 0 }]
  methods := #[k5m0, k5m1]
  instanceTypes := #[]
  staticTypes := #[(.object "java/io/InputStream"), (.object "java/io/PrintStream"), (.object "java/io/PrintStream"), (.object "java/io/InputStream"), .int, .int, .int, (.object "java/lang/SecurityManager"), (.object "java/lang/String"), (.object "java/io/Console"), (.object "java/io/PrintStream"), (.object "java/util/Properties"), (.object "java/lang/String"), (.object "java/lang/ModuleLayer")]
  resolved := Array.replicate 834 none
  statics := none }

def pool6 : Array CpInfo := pool [(1, u "java/lang/Cloneable"), (0, .class_ 1), (0, u "java/lang/Object"), (0, .class_ 3)] 3

/-- java/lang/Cloneable -/
def k6 : Class := { plain "java/lang/Cloneable" (some 0) with
  accessFlags := 1537
  interfaces := #[]
  cf := some (fileOf pool6 2 #[] #[] 1537 4 #[] #[])
  fields := #[]
  methods := #[]
  instanceTypes := #[]
  staticTypes := #[]
  resolved := Array.replicate 8 none
  statics := none }

def pool7 : Array CpInfo := pool [(1, u "java/io/Serializable"), (0, .class_ 1), (0, u "java/lang/Object"), (0, .class_ 3)] 3

/-- java/io/Serializable -/
def k7 : Class := { plain "java/io/Serializable" (some 0) with
  accessFlags := 1537
  interfaces := #[]
  cf := some (fileOf pool7 2 #[] #[] 1537 4 #[] #[])
  fields := #[]
  methods := #[]
  instanceTypes := #[]
  staticTypes := #[]
  resolved := Array.replicate 8 none
  statics := none }

/-- the primitive byte -/
def k8 : Class := { plain "byte" none with kind := .primitive 'B', accessFlags := 0x411 }
/-- [B -/
def k9 : Class := { plain "[B" (some 0) with kind := .array 8 .byte, interfaces := #[6, 7], accessFlags := 1041 }

/-- the primitive int -/
def k10 : Class := { plain "int" none with kind := .primitive 'I', accessFlags := 0x411 }
/-- [I -/
def k11 : Class := { plain "[I" (some 0) with kind := .array 10 .int, interfaces := #[6, 7], accessFlags := 1041 }

/-- the primitive long -/
def k12 : Class := { plain "long" none with kind := .primitive 'J', accessFlags := 0x411 }
/-- [J -/
def k13 : Class := { plain "[J" (some 0) with kind := .array 12 .long, interfaces := #[6, 7], accessFlags := 1041 }

def heap : Heap := #[{ cls := 2, slots := #[.ref 1], vm := .statics 2 },
  { cls := 13, slots := #[], vm := .none }]
def classes : Array Class := #[k0, k1, k2, k3, k4, k5, k6, k7, k8, k9, k10, k11, k12, k13]
def interned : List (Array UInt16 × Addr) := []
def slotsUsed : Nat := 1
def theMethod : MethodId := ⟨1, 2⟩
def args0 : Array Value := #[.long 3, .long 5, .long 7, .long 2, .long 1, .int 3]
def aboutOver (below : List Frame) : State where
  vm := { classes := classes, interned := interned.toArray }
  heap := heap
  slotsUsed := slotsUsed
  threads := #[{ frames := .invoking theMethod args0 :: below }]
def below0 : List Frame := [.native { method := ⟨0, 0⟩, args := #[] }]
def about1 : State := aboutOver below0
def p0 : Program := .bare "" "" ""
def e0 : Env := launch0.env 0 0 0
theorem w_frames : about1.frames = Frame.invoking theMethod args0 :: below0 := rfl
set_option maxRecDepth 65536 in
theorem w_args : argsFit about1.vm theMethod args0 = true := by decide +kernel
set_option maxRecDepth 65536 in
theorem w_heap : heapFits about1 = true := by decide +kernel
set_option maxRecDepth 65536 in
theorem w_runnable : about1.curStatus? = some .runnable := by decide +kernel
set_option maxRecDepth 65536 in
theorem w_alone : about1.alone = true := by decide +kernel
set_option maxRecDepth 65536 in
theorem w_named : about1.methodNamed? x = some theMethod := by decide +kernel
set_option maxRecDepth 65536 in
theorem w_hears : about1.hears theMethod below0 = true := by decide +kernel
set_option maxRecDepth 65536 in
theorem w_ripe : about1.ripe theMethod args0 below0 = true := by decide +kernel
theorem w_running : about1.status = .running := rfl
set_option maxRecDepth 65536 in
theorem w_room : about1.hasRoom e0.platform room_1 = true :=
  launch0.hasRoom_least _ room_1 (by decide +kernel) (by decide +kernel) (by decide +kernel) (by decide +kernel) (by decide +kernel) (by decide +kernel)
theorem allAtoms_all (ts : List Jvm.Cond) (a : Array Jvm.Value) (st : Jvm.State) : (allAtoms ts).before a st = ts.all (fun c => c.before a st) := by
  induction ts with
  | nil => rfl
  | cons c t ih =>
    show (Jvm.Cond.and c (allAtoms t)).before a st = _
    rw [Jvm.Cond.before_and, ih, List.all_cons]
def words1 : List Jvm.Cond := Jvm.Cond.code x code maxLocals ret :: tables_1
/-- a 'code' word, met by the world's own term for the bytes: nothing is compared byte by byte -/
theorem code_word {y : MethodName} {bytes : ByteArray} {mx : Nat} {rt : Option FieldType} {a : Array Value} {s : State} {m : MethodId} {meth : Method} {c : Code} (h1 : s.methodNamed? y = some m) (h2 : s.vm.method? m = some meth) (h3 : meth.code = some c) (h4 : c.code = bytes)
    (h5 : (c.maxLocals == mx && c.exceptionTable.isEmpty && decide (c.maxStack ≤ mostOperands) && decide (meth.sig.returnType = rt) && !meth.locks && decide (parseMethodDescriptor y.desc = some meth.sig)) = true) : (Jvm.Cond.code y bytes mx rt).before a s = true := by
  simp only [Bool.and_eq_true, beq_iff_eq, Bool.not_eq_true', decide_eq_true_eq] at h5
  obtain ⟨⟨⟨⟨⟨g1, g2⟩, g3⟩, g4⟩, g5⟩, g6⟩ := h5
  simp [Cond.before, Cond.holds, Cond.value, h1, h2, h3, h4, g1, g2, g3, g4, g5, g6]
def isCode : Jvm.Cond → Bool
  | .code _ _ _ _ => true
  | _ => false
theorem all_split {L : List Jvm.Cond} {P : Jvm.Cond → Bool} (h1 : L.all (fun c => isCode c || P c) = true) (h2 : ∀ c ∈ L.filter isCode, P c = true) : L.all P = true := by
  refine List.all_eq_true.mpr fun c hc => ?_
  have h := List.all_eq_true.mp h1 c hc
  rcases Bool.eq_false_or_eq_true (isCode c) with hi | hi
  · exact h2 c (List.mem_filter.mpr ⟨hc, hi⟩)
  · simpa [hi] using h
set_option maxRecDepth 65536 in
theorem w_c0 : (Jvm.Cond.code x code maxLocals ret).before args0 about1 = true := code_word (m := ⟨1, 2⟩) (meth := k1m2) (c := k1c2) (by decide +kernel) rfl rfl rfl (by decide +kernel)
set_option maxRecDepth 65536 in
theorem w_c1 : (Jvm.Cond.code ({ cls := "com/example/eventloom/eventloom/engine/Forbidden", name := "<init>", desc := "()V" } : Jvm.MethodName) prog_122_method_1_code (1 : Nat) (Option.none : Option Jvm.ClassFile.FieldType)).before args0 about1 = true := code_word (m := ⟨2, 0⟩) (meth := k2m0) (c := k2c0) (by decide +kernel) rfl rfl rfl (by decide +kernel)
set_option maxRecDepth 65536 in
theorem w_c2 : (Jvm.Cond.code ({ cls := "java/lang/Object", name := "<init>", desc := "()V" } : Jvm.MethodName) object_method_1_code (1 : Nat) (Option.none : Option Jvm.ClassFile.FieldType)).before args0 about1 = true := code_word (m := ⟨0, 0⟩) (meth := k0m0) (c := k0c0) (by decide +kernel) rfl rfl rfl (by decide +kernel)
set_option maxRecDepth 65536 in
theorem w_c3 : (Jvm.Cond.code ({ cls := "com/example/eventloom/eventloom/engine/Forbidden", name := "keepBefore", desc := "(JJJ)V" } : Jvm.MethodName) prog_122_method_2_code (8 : Nat) (Option.none : Option Jvm.ClassFile.FieldType)).before args0 about1 = true := code_word (m := ⟨2, 1⟩) (meth := k2m1) (c := k2c1) (by decide +kernel) rfl rfl rfl (by decide +kernel)
set_option maxRecDepth 65536 in
theorem w_c4 : (Jvm.Cond.code ({ cls := "com/example/eventloom/eventloom/engine/Forbidden", name := "latestFirst", desc := "(J)J" } : Jvm.MethodName) prog_122_method_4_code (3 : Nat) (Option.some Jvm.ClassFile.FieldType.long)).before args0 about1 = true := code_word (m := ⟨2, 3⟩) (meth := k2m3) (c := k2c3) (by decide +kernel) rfl rfl rfl (by decide +kernel)
set_option maxRecDepth 65536 in
theorem w_c5 : (Jvm.Cond.code ({ cls := "com/example/eventloom/eventloom/engine/Forbidden", name := "held", desc := "()I" } : Jvm.MethodName) prog_122_method_7_code (1 : Nat) (Option.some Jvm.ClassFile.FieldType.int)).before args0 about1 = true := code_word (m := ⟨2, 4⟩) (meth := k2m4) (c := k2c4) (by decide +kernel) rfl rfl rfl (by decide +kernel)
set_option maxRecDepth 65536 in
theorem w_c6 : (Jvm.Cond.code ({ cls := "com/example/eventloom/eventloom/engine/Forbidden", name := "unrolled", desc := "([J)[J" } : Jvm.MethodName) prog_122_method_3_code (3 : Nat) (Option.some (Jvm.ClassFile.FieldType.array Jvm.ClassFile.FieldType.long))).before args0 about1 = true := code_word (m := ⟨2, 2⟩) (meth := k2m2) (c := k2c2) (by decide +kernel) rfl rfl rfl (by decide +kernel)
set_option maxRecDepth 65536 in
theorem w_c7 : (Jvm.Cond.code ({ cls := "java/util/Arrays", name := "copyOf", desc := "([JI)[J" } : Jvm.MethodName) jdk_65_method_124_code (3 : Nat) (Option.some (Jvm.ClassFile.FieldType.array Jvm.ClassFile.FieldType.long))).before args0 about1 = true := code_word (m := ⟨3, 1⟩) (meth := k3m1) (c := k3c1) (by decide +kernel) rfl rfl rfl (by decide +kernel)
set_option maxRecDepth 65536 in
theorem w_c8 : (Jvm.Cond.code ({ cls := "java/lang/Math", name := "min", desc := "(II)I" } : Jvm.MethodName) jdk_29_method_69_code (2 : Nat) (Option.some Jvm.ClassFile.FieldType.int)).before args0 about1 = true := code_word (m := ⟨4, 1⟩) (meth := k4m1) (c := k4c1) (by decide +kernel) rfl rfl rfl (by decide +kernel)
set_option maxRecDepth 65536 in
theorem w_c9 : (Jvm.Cond.code ({ cls := "com/example/eventloom/eventloom/engine/ForbiddenLatestFirstPinLaw", name := "adv", desc := "(II[JJ)I" } : Jvm.MethodName) method_2_code (5 : Nat) (Option.some Jvm.ClassFile.FieldType.int)).before args0 about1 = true := code_word (m := ⟨1, 1⟩) (meth := k1m1) (c := k1c1) (by decide +kernel) rfl rfl rfl (by decide +kernel)
def codes1 : List Jvm.Cond := [Jvm.Cond.code x code maxLocals ret, Jvm.Cond.code ({ cls := "com/example/eventloom/eventloom/engine/Forbidden", name := "<init>", desc := "()V" } : Jvm.MethodName) prog_122_method_1_code (1 : Nat) (Option.none : Option Jvm.ClassFile.FieldType), Jvm.Cond.code ({ cls := "java/lang/Object", name := "<init>", desc := "()V" } : Jvm.MethodName) object_method_1_code (1 : Nat) (Option.none : Option Jvm.ClassFile.FieldType), Jvm.Cond.code ({ cls := "com/example/eventloom/eventloom/engine/Forbidden", name := "keepBefore", desc := "(JJJ)V" } : Jvm.MethodName) prog_122_method_2_code (8 : Nat) (Option.none : Option Jvm.ClassFile.FieldType), Jvm.Cond.code ({ cls := "com/example/eventloom/eventloom/engine/Forbidden", name := "latestFirst", desc := "(J)J" } : Jvm.MethodName) prog_122_method_4_code (3 : Nat) (Option.some Jvm.ClassFile.FieldType.long), Jvm.Cond.code ({ cls := "com/example/eventloom/eventloom/engine/Forbidden", name := "held", desc := "()I" } : Jvm.MethodName) prog_122_method_7_code (1 : Nat) (Option.some Jvm.ClassFile.FieldType.int), Jvm.Cond.code ({ cls := "com/example/eventloom/eventloom/engine/Forbidden", name := "unrolled", desc := "([J)[J" } : Jvm.MethodName) prog_122_method_3_code (3 : Nat) (Option.some (Jvm.ClassFile.FieldType.array Jvm.ClassFile.FieldType.long)), Jvm.Cond.code ({ cls := "java/util/Arrays", name := "copyOf", desc := "([JI)[J" } : Jvm.MethodName) jdk_65_method_124_code (3 : Nat) (Option.some (Jvm.ClassFile.FieldType.array Jvm.ClassFile.FieldType.long)), Jvm.Cond.code ({ cls := "java/lang/Math", name := "min", desc := "(II)I" } : Jvm.MethodName) jdk_29_method_69_code (2 : Nat) (Option.some Jvm.ClassFile.FieldType.int), Jvm.Cond.code ({ cls := "com/example/eventloom/eventloom/engine/ForbiddenLatestFirstPinLaw", name := "adv", desc := "(II[JJ)I" } : Jvm.MethodName) method_2_code (5 : Nat) (Option.some Jvm.ClassFile.FieldType.int)]
set_option maxRecDepth 65536 in
theorem codes_eq : words1.filter isCode = codes1 := rfl
theorem w_codes : ∀ c ∈ words1.filter isCode, c.before args0 about1 = true := by
  rw [codes_eq]
  intro c hc
  simp only [codes1, List.mem_cons, List.not_mem_nil, or_false] at hc
  rcases hc with rfl | rfl | rfl | rfl | rfl | rfl | rfl | rfl | rfl | rfl
  · exact w_c0
  · exact w_c1
  · exact w_c2
  · exact w_c3
  · exact w_c4
  · exact w_c5
  · exact w_c6
  · exact w_c7
  · exact w_c8
  · exact w_c9
set_option maxRecDepth 65536 in
theorem w_t1 : (words1.take 24).all (fun c => isCode c || c.before args0 about1) = true := by decide +kernel
set_option maxRecDepth 65536 in
theorem w_t2 : ((words1.drop 24).take 24).all (fun c => isCode c || c.before args0 about1) = true := by decide +kernel
set_option maxRecDepth 65536 in
theorem w_t3 : ((words1.drop 24).drop 24).all (fun c => isCode c || c.before args0 about1) = true := by decide +kernel
theorem w_tables : (allAtoms (Jvm.Cond.code x code maxLocals ret :: tables_1)).before args0 about1 = true := by
  rw [allAtoms_all]
  show words1.all (fun c => c.before args0 about1) = true
  refine all_split ?_ w_codes
  rw [← List.take_append_drop 24 words1, List.all_append, w_t1, ← List.take_append_drop 24 (words1.drop 24), List.all_append, w_t2, w_t3]
  rfl
set_option maxRecDepth 65536 in
theorem w_case : (Jvm.Cond.and given_1 narrow_1).before args0 about1 = true := by decide +kernel
theorem w_applies : (headSpec (Jvm.Cond.code x code maxLocals ret :: tables_1) room_1).applies x e0.platform about1 = true :=
  (Spec.applies_iff w_frames).mpr ⟨w_running, w_runnable, w_alone, w_named, w_hears, w_ripe, w_room, w_tables⟩
theorem atStart : AtStart classFile x code maxLocals ret World_1 tables_1 room_1 Calls_1 rest_1 Pre_1 launch0 p0 e0 about1 theMethod args0 below0 :=
  ⟨lists_1, trivial, launch0.admits_env _ _ _, launch0.least_env, fairChoices_fair.cas, fairChoices_fair.clock, w_frames, w_args, w_heap, w_applies, trivial, trivial, w_case⟩
end start1
theorem witness_1 : WitnessClaimed_1 := ⟨start1.p0, start1.e0, start1.about1, start1.theMethod, start1.args0, start1.below0, start1.atStart⟩
end Jvm.Pilot.@@N@@
