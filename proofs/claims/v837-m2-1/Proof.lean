import JvmDerived
import JvmDerived.Pilot.@@N@@Statement
import JvmDerived.Pilot.@@N@@Code
set_option linter.unusedVariables false
set_option linter.unusedSimpArgs false
namespace Jvm.Pilot.@@N@@
open Jvm Jvm.ClassFile Sem Op Lib Jvm.Free Jvm.Stand Jvm.LawKit Jvm.RoadKit Bundle Jvm.Pilot.@@N@@.Jvm.D
def own_Kq (s : State) (Q : Option Value → Heap → List Loc → Prop) (cl sl : Nat) (o : Outcome) (U : State) : Prop := ∃ v L, o = .returned v ∧ Q v U.heap L ∧ FrameEnd s o U L cl sl
def OGo (tb : Tables) (e : Env) (below : List Frame) (K : Outcome → State → Prop) (U : State) : Prop := ∃ s₂ o, Steps tb e below U s₂ ∧ s₂.status = .running ∧ Ended s₂ below o ∧ K o s₂
section Own
variable {p : Program} {l : Launch} {e : Env} {R : Room} {s : State} {m : MethodId} {args : Array Value} {below : List Frame} {meth : Method} {c : Code} {T : State} {locs : List Loc} {cells slots : Nat} {tb : Tables} {K : Outcome → State → Prop} {Q : Option Value → Heap → List Loc → Prop} {cl sl : Nat}
theorem OGo.via {U U' : State} (st : ∀ t, Steps tb e below U' t → Steps tb e below U t) (k : OGo tb e below K U') : OGo tb e below K U := by
  obtain ⟨s₂, o, h, r⟩ := k; exact ⟨s₂, o, st _ h, r⟩
theorem OGo.cast {g g' : JFrame} (q : g = g') (k : OGo tb e below K (T.setTop g')) : OGo tb e below K (T.setTop g) := q ▸ k
theorem own_w {Z : State} {a0 : Array Value} (hw : ∀ d ∈ tables_1, d.before a0 Z = true) (i : Nat) {d : Jvm.Cond} (h : tables_1[i]? = some d) : d.before a0 Z = true := hw d (List.mem_of_getElem? h)
theorem own_irr (x : Int32) : ¬ x < x := Int32.lt_irrefl
theorem own_stepI (X : Stand p l e R s m args below meth c T locs cells slots) (hx : p.tables.exec = Jvm.exec) {pc : Nat} {Ls : Array Slot} {z : Int32} {rest : List Value} (hret : meth.sig.returnType = some .int) (hd : decode c.code pc = .ok (.ireturn, 1)) {fs : List Frame}
    (hl : ∀ (f : JFrame) (acts : List Action), f.method = m → f.locked = none → f.entered = [] → (doReturn e (T.setTop f) acts (some (.int z))).1 = T.setFrames fs) : Steps p.tables e below (T.setTop (mkF m pc Ls (.int z :: rest))) (T.setFrames fs) := by
  have hm' : T.vm.method? m = some meth := X.method'
  have hn : narrow .int (.int z) = .int z := rfl
  show Steps p.tables e below (T.setTop { method := m, pc := pc, locals := Ls, stack := _ :: rest, locked := none }) _
  jvm_step X.here [X.here.top, hx, hd, hm', hret, hn]
  first | (intro acts; rw [hl _ acts rfl rfl rfl]) | rw [hl _ _ rfl rfl rfl]
  exact Steps.refl _
theorem own_retI (X : Stand p l e R s m args below meth c T locs cells slots) (hx : p.tables.exec = Jvm.exec) (hk : meth.locks = false) (hret : meth.sig.returnType = some .int) {pc : Nat} {Ls : Array Slot} {z : Int32} {rest : List Value} (hd : decode c.code pc = .ok (.ireturn, 1)) (hc : cells ≤ cl) (hs : slots ≤ sl) (hQ : Q (some (.int z)) T.heap locs) :
    OGo p.tables e below (own_Kq s Q cl sl) (T.setTop (mkF m pc Ls (.int z :: rest))) := by
  obtain ⟨fs, hr, hrun, hended, hW, hsame⟩ := X.leave (v := some (.int z)) (fun h => by rw [hret] at h; cases h) hk
  exact ⟨_, _, own_stepI X hx hret hd hr, hrun, hended, _, _, rfl, hQ, ⟨_, rfl⟩, hW, hsame.mono hc hs⟩
theorem own_retN {t : FieldType} (ht : t = .boolean ∨ t = .byte ∨ t = .char ∨ t = .short) (X : Stand p l e R s m args below meth c T locs cells slots) (hx : p.tables.exec = Jvm.exec) (hk : meth.locks = false) (hret : meth.sig.returnType = some t) {pc : Nat} {Ls : Array Slot} {z : Int32} {rest : List Value} (hd : decode c.code pc = .ok (.ireturn, 1)) (hc : cells ≤ cl) (hs : slots ≤ sl) (hQ : Q (some (.int (nar t z))) T.heap locs) :
    OGo p.tables e below (own_Kq s Q cl sl) (T.setTop (mkF m pc Ls (.int z :: rest))) := by
  obtain ⟨fs, hr, hrun, hended, hW, hsame⟩ := X.leave (v := some (.int (nar t z))) (fun h => by rw [hret] at h; cases h) hk
  exact ⟨_, _, retN X hx hret ht hd hr, hrun, hended, _, _, rfl, hQ, ⟨_, rfl⟩, hW, hsame.mono hc hs⟩
theorem own_retL (X : Stand p l e R s m args below meth c T locs cells slots) (hx : p.tables.exec = Jvm.exec) (hk : meth.locks = false) (hret : meth.sig.returnType = some .long) {pc : Nat} {Ls : Array Slot} {z : Int64} (hd : decode c.code pc = .ok (.lreturn, 1)) (hc : cells ≤ cl) (hs : slots ≤ sl) (hQ : Q (some (.long z)) T.heap locs) :
    OGo p.tables e below (own_Kq s Q cl sl) (T.setTop (mkF m pc Ls [.long z])) := by
  obtain ⟨fs, hr, hrun, hended, hW, hsame⟩ := X.leave (v := some (.long z)) (fun h => by rw [hret] at h; cases h) hk
  exact ⟨_, _, X.lreturnOut hx hret hd hr, hrun, hended, _, _, rfl, hQ, ⟨_, rfl⟩, hW, hsame.mono hc hs⟩
theorem own_retA {t : FieldType} (X : Stand p l e R s m args below meth c T locs cells slots) (hx : p.tables.exec = Jvm.exec) (hk : meth.locks = false) (hret : meth.sig.returnType = some t) {pc : Nat} {Ls : Array Slot} {w : Value} (hw : w.isRef = true) (ht : t.isReference = true) (hd : decode c.code pc = .ok (.areturn, 1)) (hc : cells ≤ cl) (hs : slots ≤ sl) (hQ : Q (some w) T.heap locs) :
    OGo p.tables e below (own_Kq s Q cl sl) (T.setTop (mkF m pc Ls [w])) := by
  obtain ⟨fs, hr, hrun, hended, hW, hsame⟩ := X.leave (v := some w) (fun h => by rw [hret] at h; cases h) hk
  exact ⟨_, _, X.areturnOut hx hw hret ht hd hr, hrun, hended, _, _, rfl, hQ, ⟨_, rfl⟩, hW, hsame.mono hc hs⟩
theorem own_retV (X : Stand p l e R s m args below meth c T locs cells slots) (hx : p.tables.exec = Jvm.exec) (hk : meth.locks = false) (hret : meth.sig.returnType = none) {pc : Nat} {Ls : Array Slot} (hd : decode c.code pc = .ok (.return_, 1)) (hc : cells ≤ cl) (hs : slots ≤ sl) (hQ : Q none T.heap locs) :
    OGo p.tables e below (own_Kq s Q cl sl) (T.setTop (mkF m pc Ls [])) := by
  obtain ⟨fs, hr, hrun, hended, hW, hsame⟩ := X.leave (v := none) (fun _ => rfl) hk
  exact ⟨_, _, X.returnOut hx hret hd hr, hrun, hended, _, _, rfl, hQ, ⟨_, rfl⟩, hW, hsame.mono hc hs⟩
end Own
abbrev own_y0 : MethodName := ⟨"com/example/costlint/costlint/limits/AuthenticationCountsRepositoriesAndUsersPinLaw", "pick", "(I)Lcom/example/costlint/costlint/limits/Authentication;"⟩
abbrev own_y1 : MethodName := ⟨"com/example/costlint/costlint/limits/Authentication", "countsRepositoriesAndUsers", "()Z"⟩
theorem own_fldint {args : Array Value} {Z : State} {t : Term} {C n d : String} {a : Addr} {k : Int32} (ev : t.eval args Z none [] Z = some (.ref a)) (h : (Jvm.Cond.eq (.field t C n d) (.int k)).value args Z none Z [] = some true) : Fld Z Z.heap a C n d (.int k) := by
  apply Fld.start
  rw [← fld_at (args := args) (first := Z) (o := none) (idx := []) ev]
  obtain ⟨x, y, hx, hy, -, -⟩ := cmp_v (Or.inl h)
  obtain rfl : Value.int k = y := Option.some.inj hy
  rw [hx]
  cases x <;> simp [Jvm.Cond.value, hx, Term.int_eval] at h ⊢
  exact h
theorem d1_0 : decode method_3_code 0 = .ok (.iload_n 0, 1) := by decide +kernel
theorem d1_1 : decode method_3_code 1 = .ok (.ifCond .ne 7, 3) := by decide +kernel
theorem d1_4 : decode method_3_code 4 = .ok (.getstatic 19, 3) := by decide +kernel
theorem d1_7 : decode method_3_code 7 = .ok (.areturn, 1) := by decide +kernel
theorem d1_8 : decode method_3_code 8 = .ok (.iload_n 0, 1) := by decide +kernel
theorem d1_9 : decode method_3_code 9 = .ok (.iconst 1, 1) := by decide +kernel
theorem d1_10 : decode method_3_code 10 = .ok (.if_icmp .ne 7, 3) := by decide +kernel
theorem d1_13 : decode method_3_code 13 = .ok (.getstatic 23, 3) := by decide +kernel
theorem d1_16 : decode method_3_code 16 = .ok (.areturn, 1) := by decide +kernel
theorem d1_17 : decode method_3_code 17 = .ok (.iload_n 0, 1) := by decide +kernel
theorem d1_18 : decode method_3_code 18 = .ok (.iconst 2, 1) := by decide +kernel
theorem d1_19 : decode method_3_code 19 = .ok (.if_icmp .ne 7, 3) := by decide +kernel
theorem d1_22 : decode method_3_code 22 = .ok (.getstatic 26, 3) := by decide +kernel
theorem d1_25 : decode method_3_code 25 = .ok (.areturn, 1) := by decide +kernel
theorem d1_26 : decode method_3_code 26 = .ok (.iload_n 0, 1) := by decide +kernel
theorem d1_27 : decode method_3_code 27 = .ok (.iconst 3, 1) := by decide +kernel
theorem d1_28 : decode method_3_code 28 = .ok (.if_icmp .ne 7, 3) := by decide +kernel
theorem d1_31 : decode method_3_code 31 = .ok (.getstatic 29, 3) := by decide +kernel
theorem d1_34 : decode method_3_code 34 = .ok (.areturn, 1) := by decide +kernel
theorem d1_35 : decode method_3_code 35 = .ok (.iload_n 0, 1) := by decide +kernel
theorem d1_36 : decode method_3_code 36 = .ok (.iconst 4, 1) := by decide +kernel
theorem d1_37 : decode method_3_code 37 = .ok (.if_icmp .ne 7, 3) := by decide +kernel
theorem d1_40 : decode method_3_code 40 = .ok (.getstatic 32, 3) := by decide +kernel
theorem d1_43 : decode method_3_code 43 = .ok (.areturn, 1) := by decide +kernel
theorem d1_44 : decode method_3_code 44 = .ok (.iload_n 0, 1) := by decide +kernel
theorem d1_45 : decode method_3_code 45 = .ok (.iconst 5, 1) := by decide +kernel
theorem d1_46 : decode method_3_code 46 = .ok (.if_icmp .ne 7, 3) := by decide +kernel
theorem d1_49 : decode method_3_code 49 = .ok (.getstatic 35, 3) := by decide +kernel
theorem d1_52 : decode method_3_code 52 = .ok (.areturn, 1) := by decide +kernel
theorem d1_53 : decode method_3_code 53 = .ok (.iload_n 0, 1) := by decide +kernel
theorem d1_54 : decode method_3_code 54 = .ok (.bipush 6, 2) := by decide +kernel
theorem d1_56 : decode method_3_code 56 = .ok (.if_icmp .ne 7, 3) := by decide +kernel
theorem d1_59 : decode method_3_code 59 = .ok (.getstatic 38, 3) := by decide +kernel
theorem d1_62 : decode method_3_code 62 = .ok (.areturn, 1) := by decide +kernel
theorem d1_63 : decode method_3_code 63 = .ok (.getstatic 41, 3) := by decide +kernel
theorem d1_66 : decode method_3_code 66 = .ok (.areturn, 1) := by decide +kernel
theorem pn_AuthenticationCountsRepositoriesAndUsersPinLaw : plainName "com/example/costlint/costlint/limits/AuthenticationCountsRepositoriesAndUsersPinLaw" = true := by first | (simp [plainName, overriddenIn]; done) | decide +kernel
theorem ef_rm1 (m : MethodId) (p1 : Int32) : entryFrame m #[(.int p1)] 1 = mkF m 0 #[.val (.int p1)] [] := by first | (simp [entryFrame, mkF, argsToLocals, Value.category]; done) | rfl
def Q_rm1 (Z : State) (p1 : Int32) (w0 : Addr) (w1 : Addr) (w2 : Addr) (w3 : Addr) (w4 : Addr) (w5 : Addr) (w6 : Addr) (w7 : Addr) (h0 : Heap) (n0 : Nat) (v : Option Value) (h : Heap) (L : List Loc) : Prop := ∃ ob : Addr, v = some (.ref ob) ∧ Fr n0 L ∧ h = h0 ∧ Exa Z h0 ob "com/example/costlint/costlint/limits/Authentication" ∧ ((ob = w2 ∧ p1 = (2 : Int32)) ∨ (ob ≠ w2 ∧ ¬ (p1 = (2 : Int32))))
set_option maxRecDepth 65536 in
set_option maxHeartbeats 40000000 in
theorem rm1 (l : Launch) (Z : State) (a0 : Array Value) (hw : ∀ d ∈ tables_1, d.before a0 Z = true) (ws : List Jvm.Cond) (p1 : Int32) (w0 : Addr) (w1 : Addr) (w2 : Addr) (w3 : Addr) (w4 : Addr) (w5 : Addr) (w6 : Addr) (w7 : Addr) (h0 : Heap) (n0 : Nat) (Z0 : n0 ≤ h0.size) (S_USER : Sta Z h0 "com/example/costlint/costlint/limits/Authentication" "USER" "Lcom/example/costlint/costlint/limits/Authentication;" (.ref w0)) (E_w0 : Exa Z h0 w0 "com/example/costlint/costlint/limits/Authentication") (F_ordinal_w0 : Fld Z h0 w0 "java/lang/Enum" "ordinal" "I" (.int (0 : Int32))) (S_USER_ENTERPRISE : Sta Z h0 "com/example/costlint/costlint/limits/Authentication" "USER_ENTERPRISE" "Lcom/example/costlint/costlint/limits/Authentication;" (.ref w1)) (E_w1 : Exa Z h0 w1 "com/example/costlint/costlint/limits/Authentication") (F_ordinal_w1 : Fld Z h0 w1 "java/lang/Enum" "ordinal" "I" (.int (1 : Int32))) (S_INSTALLATION : Sta Z h0 "com/example/costlint/costlint/limits/Authentication" "INSTALLATION" "Lcom/example/costlint/costlint/limits/Authentication;" (.ref w2)) (E_w2 : Exa Z h0 w2 "com/example/costlint/costlint/limits/Authentication") (F_ordinal_w2 : Fld Z h0 w2 "java/lang/Enum" "ordinal" "I" (.int (2 : Int32))) (S_INSTALLATION_ENTERPRISE : Sta Z h0 "com/example/costlint/costlint/limits/Authentication" "INSTALLATION_ENTERPRISE" "Lcom/example/costlint/costlint/limits/Authentication;" (.ref w3)) (E_w3 : Exa Z h0 w3 "com/example/costlint/costlint/limits/Authentication") (F_ordinal_w3 : Fld Z h0 w3 "java/lang/Enum" "ordinal" "I" (.int (3 : Int32))) (S_OAUTH_APP : Sta Z h0 "com/example/costlint/costlint/limits/Authentication" "OAUTH_APP" "Lcom/example/costlint/costlint/limits/Authentication;" (.ref w4)) (E_w4 : Exa Z h0 w4 "com/example/costlint/costlint/limits/Authentication") (F_ordinal_w4 : Fld Z h0 w4 "java/lang/Enum" "ordinal" "I" (.int (4 : Int32))) (S_OAUTH_APP_ENTERPRISE : Sta Z h0 "com/example/costlint/costlint/limits/Authentication" "OAUTH_APP_ENTERPRISE" "Lcom/example/costlint/costlint/limits/Authentication;" (.ref w5)) (E_w5 : Exa Z h0 w5 "com/example/costlint/costlint/limits/Authentication") (F_ordinal_w5 : Fld Z h0 w5 "java/lang/Enum" "ordinal" "I" (.int (5 : Int32))) (S_ACTIONS : Sta Z h0 "com/example/costlint/costlint/limits/Authentication" "ACTIONS" "Lcom/example/costlint/costlint/limits/Authentication;" (.ref w6)) (E_w6 : Exa Z h0 w6 "com/example/costlint/costlint/limits/Authentication") (F_ordinal_w6 : Fld Z h0 w6 "java/lang/Enum" "ordinal" "I" (.int (6 : Int32))) (S_ACTIONS_ENTERPRISE : Sta Z h0 "com/example/costlint/costlint/limits/Authentication" "ACTIONS_ENTERPRISE" "Lcom/example/costlint/costlint/limits/Authentication;" (.ref w7)) (E_w7 : Exa Z h0 w7 "com/example/costlint/costlint/limits/Authentication") (F_ordinal_w7 : Fld Z h0 w7 "java/lang/Enum" "ordinal" "I" (.int (7 : Int32))) :
    MetFree l own_y0 (head1 (Jvm.Cond.code own_y0 method_3_code 1 (some (.object "com/example/costlint/costlint/limits/Authentication")) :: ws) ({ frames := 0, cells := 0, slots := 0, locals := 0 } : Room)) (fun a U => a = #[(.int p1)] ∧ Z.Warmed39 U.vm ∧ U.heap = h0) (fun _ _ _ _ _ => True) (fun _ U o U' => ∃ v L, o = .returned v ∧ Q_rm1 Z p1 w0 w1 w2 w3 w4 w5 w6 w7 h0 n0 v U'.heap L ∧ FrameEnd U o U' L ({ frames := 0, cells := 0, slots := 0, locals := 0 } : Room).cells ({ frames := 0, cells := 0, slots := 0, locals := 0 } : Room).slots) := by
  refine MetFree.of_bodySF (plainFor_of_name pn_AuthenticationCountsRepositoriesAndUsersPinLaw) hisR ?_
  intro p e s m args below meth c s₁ Bd hml0 hP hK
  obtain ⟨rfl, hZ, hh⟩ := hP
  have hx := Bd.exec
  have hby := Bd.bytes
  have hml : c.maxLocals = 1 := hml0
  have hown : s.vm.findClass "com/example/costlint/costlint/limits/AuthenticationCountsRepositoriesAndUsersPinLaw" = some m.cls := findClass_of_methodNamed Bd.named
  have hnm := (name_of_methodNamed Bd.named Bd.method).1
  have X0 : Stand p l e ({ frames := 0, cells := 0, slots := 0, locals := 0 } : Room) s m #[(.int p1)] below meth c s₁ [] 0 0 := Stand.of_body Bd
  have e0 : s₁.heap = h0 := by rw [← hh, Bd.state]; rfl
  have N0 := Fr.nil n0
  show OGo p.tables e below (own_Kq s (fun v h L => Q_rm1 Z p1 w0 w1 w2 w3 w4 w5 w6 w7 h0 n0 v h L) ({ frames := 0, cells := 0, slots := 0, locals := 0 } : Room).cells ({ frames := 0, cells := 0, slots := 0, locals := 0 } : Room).slots) (s₁.setTop (entryFrame m #[(.int p1)] 1))
  refine OGo.cast (ef_rm1 m p1) ?_
  show OGo _ _ _ _ (s₁.setTop (mkF m 0 #[.val (.int p1)] []))
  refine OGo.via (fun _ k => XS.iloadN X0.here hx rfl (hb hby d1_0) rfl k) ?_
  by_cases hc1_1 : p1 = (0 : Int32)
  · refine OGo.via (fun _ k => XS.ifNo X0.here hx rfl (hb hby d1_1) rfl ((if0 _ _).trans (teq hc1_1).2) k) ?_
    show OGo _ _ _ _ (s₁.setTop (mkF m 4 #[.val (.int p1)] []))
    obtain ⟨T2, X2, e2, st2⟩ := getS2 X0 hx hZ hown (host := "") (Or.inl (own_w hw 4 rfl)) Via.refl e0 S_USER (g := (mkF m 4 #[.val (.int p1)] [])) rfl (hb hby d1_4)
    refine OGo.via st2 ?_
    show OGo _ _ _ _ (T2.setTop (mkF m 7 #[.val (.int p1)] [(.ref w0)]))
    refine own_retA X2 hx Bd.notSynchronized Bd.returns rfl rfl (hb hby d1_7) (by decide) (by decide) ?_
    show Q_rm1 Z _ _ _ _ _ _ _ _ _ h0 n0 _ T2.heap _
    exact ⟨w0, rfl, N0, e2, E_w0, (Or.inr ⟨F_ordinal_w0.ne F_ordinal_w2 (by decide), (by rw [hc1_1]; decide)⟩)⟩
  · refine OGo.via (fun _ k => XS.ifYes X0.here hx rfl (pc0 := 1) (pc' := 8) rfl (hb hby d1_1) rfl ((if0 _ _).trans (feq hc1_1).2) (by decide) (by decide) k) ?_
    show OGo _ _ _ _ (s₁.setTop (mkF m 8 #[.val (.int p1)] []))
    refine OGo.via (fun _ k => XS.iloadN X0.here hx rfl (hb hby d1_8) rfl (XS.iconst X0.here hx rfl (hb hby d1_9) k)) ?_
    by_cases hc10_3 : p1 = (1 : Int32)
    · refine OGo.via (fun _ k => XS.icmpNo X0.here hx rfl (hb hby d1_10) rfl (teq hc10_3).2 k) ?_
      show OGo _ _ _ _ (s₁.setTop (mkF m 13 #[.val (.int p1)] []))
      obtain ⟨T4, X4, e4, st4⟩ := getS2 X0 hx hZ hown (host := "") (Or.inl (own_w hw 21 rfl)) Via.refl e0 S_USER_ENTERPRISE (g := (mkF m 13 #[.val (.int p1)] [])) rfl (hb hby d1_13)
      refine OGo.via st4 ?_
      show OGo _ _ _ _ (T4.setTop (mkF m 16 #[.val (.int p1)] [(.ref w1)]))
      refine own_retA X4 hx Bd.notSynchronized Bd.returns rfl rfl (hb hby d1_16) (by decide) (by decide) ?_
      show Q_rm1 Z _ _ _ _ _ _ _ _ _ h0 n0 _ T4.heap _
      exact ⟨w1, rfl, N0, e4, E_w1, (Or.inr ⟨F_ordinal_w1.ne F_ordinal_w2 (by decide), (by rw [hc10_3]; decide)⟩)⟩
    · refine OGo.via (fun _ k => XS.icmpYes X0.here hx rfl (pc0 := 10) (pc' := 17) rfl (hb hby d1_10) rfl (feq hc10_3).2 (by decide) (by decide) k) ?_
      show OGo _ _ _ _ (s₁.setTop (mkF m 17 #[.val (.int p1)] []))
      refine OGo.via (fun _ k => XS.iloadN X0.here hx rfl (hb hby d1_17) rfl (XS.iconst X0.here hx rfl (hb hby d1_18) k)) ?_
      by_cases hc19_5 : p1 = (2 : Int32)
      · refine OGo.via (fun _ k => XS.icmpNo X0.here hx rfl (hb hby d1_19) rfl (teq hc19_5).2 k) ?_
        show OGo _ _ _ _ (s₁.setTop (mkF m 22 #[.val (.int p1)] []))
        obtain ⟨T6, X6, e6, st6⟩ := getS2 X0 hx hZ hown (host := "") (Or.inl (own_w hw 20 rfl)) Via.refl e0 S_INSTALLATION (g := (mkF m 22 #[.val (.int p1)] [])) rfl (hb hby d1_22)
        refine OGo.via st6 ?_
        show OGo _ _ _ _ (T6.setTop (mkF m 25 #[.val (.int p1)] [(.ref w2)]))
        refine own_retA X6 hx Bd.notSynchronized Bd.returns rfl rfl (hb hby d1_25) (by decide) (by decide) ?_
        show Q_rm1 Z _ _ _ _ _ _ _ _ _ h0 n0 _ T6.heap _
        exact ⟨w2, rfl, N0, e6, E_w2, (Or.inl ⟨rfl, hc19_5⟩)⟩
      · refine OGo.via (fun _ k => XS.icmpYes X0.here hx rfl (pc0 := 19) (pc' := 26) rfl (hb hby d1_19) rfl (feq hc19_5).2 (by decide) (by decide) k) ?_
        show OGo _ _ _ _ (s₁.setTop (mkF m 26 #[.val (.int p1)] []))
        refine OGo.via (fun _ k => XS.iloadN X0.here hx rfl (hb hby d1_26) rfl (XS.iconst X0.here hx rfl (hb hby d1_27) k)) ?_
        by_cases hc28_7 : p1 = (3 : Int32)
        · refine OGo.via (fun _ k => XS.icmpNo X0.here hx rfl (hb hby d1_28) rfl (teq hc28_7).2 k) ?_
          show OGo _ _ _ _ (s₁.setTop (mkF m 31 #[.val (.int p1)] []))
          obtain ⟨T8, X8, e8, st8⟩ := getS2 X0 hx hZ hown (host := "") (Or.inl (own_w hw 14 rfl)) Via.refl e0 S_INSTALLATION_ENTERPRISE (g := (mkF m 31 #[.val (.int p1)] [])) rfl (hb hby d1_31)
          refine OGo.via st8 ?_
          show OGo _ _ _ _ (T8.setTop (mkF m 34 #[.val (.int p1)] [(.ref w3)]))
          refine own_retA X8 hx Bd.notSynchronized Bd.returns rfl rfl (hb hby d1_34) (by decide) (by decide) ?_
          show Q_rm1 Z _ _ _ _ _ _ _ _ _ h0 n0 _ T8.heap _
          exact ⟨w3, rfl, N0, e8, E_w3, (Or.inr ⟨F_ordinal_w3.ne F_ordinal_w2 (by decide), hc19_5⟩)⟩
        · refine OGo.via (fun _ k => XS.icmpYes X0.here hx rfl (pc0 := 28) (pc' := 35) rfl (hb hby d1_28) rfl (feq hc28_7).2 (by decide) (by decide) k) ?_
          show OGo _ _ _ _ (s₁.setTop (mkF m 35 #[.val (.int p1)] []))
          refine OGo.via (fun _ k => XS.iloadN X0.here hx rfl (hb hby d1_35) rfl (XS.iconst X0.here hx rfl (hb hby d1_36) k)) ?_
          by_cases hc37_9 : p1 = (4 : Int32)
          · refine OGo.via (fun _ k => XS.icmpNo X0.here hx rfl (hb hby d1_37) rfl (teq hc37_9).2 k) ?_
            show OGo _ _ _ _ (s₁.setTop (mkF m 40 #[.val (.int p1)] []))
            obtain ⟨T10, X10, e10, st10⟩ := getS2 X0 hx hZ hown (host := "") (Or.inl (own_w hw 23 rfl)) Via.refl e0 S_OAUTH_APP (g := (mkF m 40 #[.val (.int p1)] [])) rfl (hb hby d1_40)
            refine OGo.via st10 ?_
            show OGo _ _ _ _ (T10.setTop (mkF m 43 #[.val (.int p1)] [(.ref w4)]))
            refine own_retA X10 hx Bd.notSynchronized Bd.returns rfl rfl (hb hby d1_43) (by decide) (by decide) ?_
            show Q_rm1 Z _ _ _ _ _ _ _ _ _ h0 n0 _ T10.heap _
            exact ⟨w4, rfl, N0, e10, E_w4, (Or.inr ⟨F_ordinal_w4.ne F_ordinal_w2 (by decide), hc19_5⟩)⟩
          · refine OGo.via (fun _ k => XS.icmpYes X0.here hx rfl (pc0 := 37) (pc' := 44) rfl (hb hby d1_37) rfl (feq hc37_9).2 (by decide) (by decide) k) ?_
            show OGo _ _ _ _ (s₁.setTop (mkF m 44 #[.val (.int p1)] []))
            refine OGo.via (fun _ k => XS.iloadN X0.here hx rfl (hb hby d1_44) rfl (XS.iconst X0.here hx rfl (hb hby d1_45) k)) ?_
            by_cases hc46_11 : p1 = (5 : Int32)
            · refine OGo.via (fun _ k => XS.icmpNo X0.here hx rfl (hb hby d1_46) rfl (teq hc46_11).2 k) ?_
              show OGo _ _ _ _ (s₁.setTop (mkF m 49 #[.val (.int p1)] []))
              obtain ⟨T12, X12, e12, st12⟩ := getS2 X0 hx hZ hown (host := "") (Or.inl (own_w hw 25 rfl)) Via.refl e0 S_OAUTH_APP_ENTERPRISE (g := (mkF m 49 #[.val (.int p1)] [])) rfl (hb hby d1_49)
              refine OGo.via st12 ?_
              show OGo _ _ _ _ (T12.setTop (mkF m 52 #[.val (.int p1)] [(.ref w5)]))
              refine own_retA X12 hx Bd.notSynchronized Bd.returns rfl rfl (hb hby d1_52) (by decide) (by decide) ?_
              show Q_rm1 Z _ _ _ _ _ _ _ _ _ h0 n0 _ T12.heap _
              exact ⟨w5, rfl, N0, e12, E_w5, (Or.inr ⟨F_ordinal_w5.ne F_ordinal_w2 (by decide), hc19_5⟩)⟩
            · refine OGo.via (fun _ k => XS.icmpYes X0.here hx rfl (pc0 := 46) (pc' := 53) rfl (hb hby d1_46) rfl (feq hc46_11).2 (by decide) (by decide) k) ?_
              show OGo _ _ _ _ (s₁.setTop (mkF m 53 #[.val (.int p1)] []))
              refine OGo.via (fun _ k => XS.iloadN X0.here hx rfl (hb hby d1_53) rfl (XS.bipush X0.here hx rfl (hb hby d1_54) k)) ?_
              by_cases hc56_13 : p1 = (6 : Int32)
              · refine OGo.via (fun _ k => XS.icmpNo X0.here hx rfl (hb hby d1_56) rfl (teq hc56_13).2 k) ?_
                show OGo _ _ _ _ (s₁.setTop (mkF m 59 #[.val (.int p1)] []))
                obtain ⟨T14, X14, e14, st14⟩ := getS2 X0 hx hZ hown (host := "") (Or.inl (own_w hw 16 rfl)) Via.refl e0 S_ACTIONS (g := (mkF m 59 #[.val (.int p1)] [])) rfl (hb hby d1_59)
                refine OGo.via st14 ?_
                show OGo _ _ _ _ (T14.setTop (mkF m 62 #[.val (.int p1)] [(.ref w6)]))
                refine own_retA X14 hx Bd.notSynchronized Bd.returns rfl rfl (hb hby d1_62) (by decide) (by decide) ?_
                show Q_rm1 Z _ _ _ _ _ _ _ _ _ h0 n0 _ T14.heap _
                exact ⟨w6, rfl, N0, e14, E_w6, (Or.inr ⟨F_ordinal_w6.ne F_ordinal_w2 (by decide), hc19_5⟩)⟩
              · refine OGo.via (fun _ k => XS.icmpYes X0.here hx rfl (pc0 := 56) (pc' := 63) rfl (hb hby d1_56) rfl (feq hc56_13).2 (by decide) (by decide) k) ?_
                show OGo _ _ _ _ (s₁.setTop (mkF m 63 #[.val (.int p1)] []))
                obtain ⟨T15, X15, e15, st15⟩ := getS2 X0 hx hZ hown (host := "") (Or.inl (own_w hw 18 rfl)) Via.refl e0 S_ACTIONS_ENTERPRISE (g := (mkF m 63 #[.val (.int p1)] [])) rfl (hb hby d1_63)
                refine OGo.via st15 ?_
                show OGo _ _ _ _ (T15.setTop (mkF m 66 #[.val (.int p1)] [(.ref w7)]))
                refine own_retA X15 hx Bd.notSynchronized Bd.returns rfl rfl (hb hby d1_66) (by decide) (by decide) ?_
                show Q_rm1 Z _ _ _ _ _ _ _ _ _ h0 n0 _ T15.heap _
                exact ⟨w7, rfl, N0, e15, E_w7, (Or.inr ⟨F_ordinal_w7.ne F_ordinal_w2 (by decide), hc19_5⟩)⟩
theorem d2_0 : decode prog_4_method_5_code 0 = .ok (.aload_n 0, 1) := by decide +kernel
theorem d2_1 : decode prog_4_method_5_code 1 = .ok (.getstatic 10, 3) := by decide +kernel
theorem d2_4 : decode prog_4_method_5_code 4 = .ok (.if_acmp .ne 7, 3) := by decide +kernel
theorem d2_7 : decode prog_4_method_5_code 7 = .ok (.iconst 1, 1) := by decide +kernel
theorem d2_8 : decode prog_4_method_5_code 8 = .ok (.goto 4, 3) := by decide +kernel
theorem d2_12 : decode prog_4_method_5_code 12 = .ok (.ireturn, 1) := by decide +kernel
theorem d2_11 : decode prog_4_method_5_code 11 = .ok (.iconst 0, 1) := by decide +kernel
theorem pn_Authentication : plainName "com/example/costlint/costlint/limits/Authentication" = true := by first | (simp [plainName, overriddenIn]; done) | decide +kernel
theorem ef_rm2 (m : MethodId) (a1 : Addr) : entryFrame m #[(.ref a1)] 1 = mkF m 0 #[.val (.ref a1)] [] := by first | (simp [entryFrame, mkF, argsToLocals, Value.category]; done) | rfl
def Q_rm2 (Z : State) (a1 : Addr) (w2 : Addr) (h0 : Heap) (n0 : Nat) (v : Option Value) (h : Heap) (L : List Loc) : Prop := v = some (.int (if a1 = w2 then (1 : Int32) else (0 : Int32))) ∧ Fr n0 L ∧ h = h0
set_option maxRecDepth 65536 in
set_option maxHeartbeats 40000000 in
theorem rm2 (l : Launch) (Z : State) (a0 : Array Value) (hw : ∀ d ∈ tables_1, d.before a0 Z = true) (ws : List Jvm.Cond) (a1 : Addr) (w2 : Addr) (h0 : Heap) (n0 : Nat) (Z0 : n0 ≤ h0.size) (S_INSTALLATION : Sta Z h0 "com/example/costlint/costlint/limits/Authentication" "INSTALLATION" "Lcom/example/costlint/costlint/limits/Authentication;" (.ref w2)) :
    MetFree l own_y1 (head1 (Jvm.Cond.code own_y1 prog_4_method_5_code 1 (some .boolean) :: ws) ({ frames := 0, cells := 0, slots := 0, locals := 0 } : Room)) (fun a U => a = #[(.ref a1)] ∧ Z.Warmed39 U.vm ∧ U.heap = h0) (fun _ _ _ _ _ => True) (fun _ U o U' => ∃ v L, o = .returned v ∧ Q_rm2 Z a1 w2 h0 n0 v U'.heap L ∧ FrameEnd U o U' L ({ frames := 0, cells := 0, slots := 0, locals := 0 } : Room).cells ({ frames := 0, cells := 0, slots := 0, locals := 0 } : Room).slots) := by
  refine MetFree.of_bodySF (plainFor_of_name pn_Authentication) hisR ?_
  intro p e s m args below meth c s₁ Bd hml0 hP hK
  obtain ⟨rfl, hZ, hh⟩ := hP
  have hx := Bd.exec
  have hby := Bd.bytes
  have hml : c.maxLocals = 1 := hml0
  have hown : s.vm.findClass "com/example/costlint/costlint/limits/Authentication" = some m.cls := findClass_of_methodNamed Bd.named
  have hnm := (name_of_methodNamed Bd.named Bd.method).1
  have X0 : Stand p l e ({ frames := 0, cells := 0, slots := 0, locals := 0 } : Room) s m #[(.ref a1)] below meth c s₁ [] 0 0 := Stand.of_body Bd
  have e0 : s₁.heap = h0 := by rw [← hh, Bd.state]; rfl
  have N0 := Fr.nil n0
  show OGo p.tables e below (own_Kq s (fun v h L => Q_rm2 Z a1 w2 h0 n0 v h L) ({ frames := 0, cells := 0, slots := 0, locals := 0 } : Room).cells ({ frames := 0, cells := 0, slots := 0, locals := 0 } : Room).slots) (s₁.setTop (entryFrame m #[(.ref a1)] 1))
  refine OGo.cast (ef_rm2 m a1) ?_
  show OGo _ _ _ _ (s₁.setTop (mkF m 0 #[.val (.ref a1)] []))
  refine OGo.via (fun _ k => XS.aloadN X0.here hx rfl (hb hby d2_0) rfl rfl k) ?_
  obtain ⟨T1, X1, e1, st1⟩ := getS2 X0 hx hZ hown (host := "") (Or.inl (own_w hw 12 rfl)) Via.refl e0 S_INSTALLATION (g := (mkF m 1 #[.val (.ref a1)] [(.ref a1)])) rfl (hb hby d2_1)
  refine OGo.via st1 ?_
  show OGo _ _ _ _ (T1.setTop (mkF m 4 #[.val (.ref a1)] [(.ref w2), (.ref a1)]))
  by_cases ha4_2 : a1 = w2
  · refine OGo.via (fun _ k => Jvm.RoadKit.acmp (g := (mkF m 4 #[.val (.ref a1)] [(.ref w2), (.ref a1)])) X1 hx rfl rfl rfl (pc0 := 4) (pc' := 7) (same := true) rfl (hb hby d2_4) rfl (decide_eq_true (congrArg Value.ref ha4_2)) (by decide) (by decide) k) ?_
    show OGo _ _ _ _ (T1.setTop (mkF m 7 #[.val (.ref a1)] []))
    refine OGo.via (fun _ k => XS.iconst X1.here hx rfl (hb hby d2_7) (XS.goto X1.here hx rfl (pc0 := 8) (pc' := 12) rfl (hb hby d2_8) (by decide) (by decide) k)) ?_
    refine own_retN (t := .boolean) (by simp) X1 hx Bd.notSynchronized Bd.returns (hb hby d2_12) (by decide) (by decide) ?_
    show Q_rm2 Z _ _ h0 n0 _ T1.heap _
    exact ⟨(by rw [if_pos ha4_2]; rfl), N0, e1⟩
  · refine OGo.via (fun _ k => Jvm.RoadKit.acmp (g := (mkF m 4 #[.val (.ref a1)] [(.ref w2), (.ref a1)])) X1 hx rfl rfl rfl (pc0 := 4) (pc' := 11) (same := false) rfl (hb hby d2_4) rfl (decide_eq_false fun q => ha4_2 (Value.ref.inj q)) (by decide) (by decide) k) ?_
    show OGo _ _ _ _ (T1.setTop (mkF m 11 #[.val (.ref a1)] []))
    refine OGo.via (fun _ k => XS.iconst X1.here hx rfl (hb hby d2_11) k) ?_
    refine own_retN (t := .boolean) (by simp) X1 hx Bd.notSynchronized Bd.returns (hb hby d2_12) (by decide) (by decide) ?_
    show Q_rm2 Z _ _ h0 n0 _ T1.heap _
    exact ⟨(by rw [if_neg ha4_2]; rfl), N0, e1⟩
theorem pd_0 : parseMethodDescriptor "(I)Lcom/example/costlint/costlint/limits/Authentication;" = some ⟨[.int], some (.object "com/example/costlint/costlint/limits/Authentication")⟩ := by decide +kernel
theorem pd_1 : parseMethodDescriptor "()Z" = some ⟨[], some .boolean⟩ := by decide +kernel
theorem ef_rm0 (m : MethodId) (p1 : Int32) : entryFrame m #[(.int p1)] maxLocals = mkF m 0 #[.val (.int p1), .unset, .unset, .unset] [] := by first | (simp [entryFrame, mkF, argsToLocals, Value.category, maxLocals]; done) | rfl
def Q_rm0 (Z : State) (p1 : Int32) (w0 : Addr) (w1 : Addr) (w2 : Addr) (w3 : Addr) (w4 : Addr) (w5 : Addr) (w6 : Addr) (w7 : Addr) (h0 : Heap) (n0 : Nat) (v : Option Value) (h : Heap) (L : List Loc) : Prop := v = some (.int (1 : Int32)) ∧ Fr n0 L
set_option maxRecDepth 65536 in
set_option maxHeartbeats 40000000 in
theorem rm0 (l : Launch) (Z : State) (a0 : Array Value) (hw : ∀ d ∈ tables_1, d.before a0 Z = true) (ws : List Jvm.Cond) (p1 : Int32) (w0 : Addr) (w1 : Addr) (w2 : Addr) (w3 : Addr) (w4 : Addr) (w5 : Addr) (w6 : Addr) (w7 : Addr) (h0 : Heap) (n0 : Nat) (Z0 : n0 ≤ h0.size) (S_USER : Sta Z h0 "com/example/costlint/costlint/limits/Authentication" "USER" "Lcom/example/costlint/costlint/limits/Authentication;" (.ref w0)) (E_w0 : Exa Z h0 w0 "com/example/costlint/costlint/limits/Authentication") (F_ordinal_w0 : Fld Z h0 w0 "java/lang/Enum" "ordinal" "I" (.int (0 : Int32))) (S_USER_ENTERPRISE : Sta Z h0 "com/example/costlint/costlint/limits/Authentication" "USER_ENTERPRISE" "Lcom/example/costlint/costlint/limits/Authentication;" (.ref w1)) (E_w1 : Exa Z h0 w1 "com/example/costlint/costlint/limits/Authentication") (F_ordinal_w1 : Fld Z h0 w1 "java/lang/Enum" "ordinal" "I" (.int (1 : Int32))) (S_INSTALLATION : Sta Z h0 "com/example/costlint/costlint/limits/Authentication" "INSTALLATION" "Lcom/example/costlint/costlint/limits/Authentication;" (.ref w2)) (E_w2 : Exa Z h0 w2 "com/example/costlint/costlint/limits/Authentication") (F_ordinal_w2 : Fld Z h0 w2 "java/lang/Enum" "ordinal" "I" (.int (2 : Int32))) (S_INSTALLATION_ENTERPRISE : Sta Z h0 "com/example/costlint/costlint/limits/Authentication" "INSTALLATION_ENTERPRISE" "Lcom/example/costlint/costlint/limits/Authentication;" (.ref w3)) (E_w3 : Exa Z h0 w3 "com/example/costlint/costlint/limits/Authentication") (F_ordinal_w3 : Fld Z h0 w3 "java/lang/Enum" "ordinal" "I" (.int (3 : Int32))) (S_OAUTH_APP : Sta Z h0 "com/example/costlint/costlint/limits/Authentication" "OAUTH_APP" "Lcom/example/costlint/costlint/limits/Authentication;" (.ref w4)) (E_w4 : Exa Z h0 w4 "com/example/costlint/costlint/limits/Authentication") (F_ordinal_w4 : Fld Z h0 w4 "java/lang/Enum" "ordinal" "I" (.int (4 : Int32))) (S_OAUTH_APP_ENTERPRISE : Sta Z h0 "com/example/costlint/costlint/limits/Authentication" "OAUTH_APP_ENTERPRISE" "Lcom/example/costlint/costlint/limits/Authentication;" (.ref w5)) (E_w5 : Exa Z h0 w5 "com/example/costlint/costlint/limits/Authentication") (F_ordinal_w5 : Fld Z h0 w5 "java/lang/Enum" "ordinal" "I" (.int (5 : Int32))) (S_ACTIONS : Sta Z h0 "com/example/costlint/costlint/limits/Authentication" "ACTIONS" "Lcom/example/costlint/costlint/limits/Authentication;" (.ref w6)) (E_w6 : Exa Z h0 w6 "com/example/costlint/costlint/limits/Authentication") (F_ordinal_w6 : Fld Z h0 w6 "java/lang/Enum" "ordinal" "I" (.int (6 : Int32))) (S_ACTIONS_ENTERPRISE : Sta Z h0 "com/example/costlint/costlint/limits/Authentication" "ACTIONS_ENTERPRISE" "Lcom/example/costlint/costlint/limits/Authentication;" (.ref w7)) (E_w7 : Exa Z h0 w7 "com/example/costlint/costlint/limits/Authentication") (F_ordinal_w7 : Fld Z h0 w7 "java/lang/Enum" "ordinal" "I" (.int (7 : Int32))) :
    MetFree l x (head1 (Jvm.Cond.code x code maxLocals ret :: ws) room_1) (fun a U => a = #[(.int p1)] ∧ Z.Warmed39 U.vm ∧ U.heap = h0) (fun _ _ _ _ _ => True) (fun _ U o U' => ∃ v L, o = .returned v ∧ Q_rm0 Z p1 w0 w1 w2 w3 w4 w5 w6 w7 h0 n0 v U'.heap L ∧ FrameEnd U o U' L room_1.cells room_1.slots) := by
  refine MetFree.of_bodySF (plainFor_of_name pn_AuthenticationCountsRepositoriesAndUsersPinLaw) hisR ?_
  intro p e s m args below meth c s₁ Bd hml0 hP hK
  obtain ⟨rfl, hZ, hh⟩ := hP
  have hx := Bd.exec
  have hby := Bd.bytes
  have hml : c.maxLocals = 4 := hml0
  have hown : s.vm.findClass "com/example/costlint/costlint/limits/AuthenticationCountsRepositoriesAndUsersPinLaw" = some m.cls := findClass_of_methodNamed Bd.named
  have hnm := (name_of_methodNamed Bd.named Bd.method).1
  have X0 : Stand p l e room_1 s m #[(.int p1)] below meth c s₁ [] 0 0 := Stand.of_body Bd
  have e0 : s₁.heap = h0 := by rw [← hh, Bd.state]; rfl
  have N0 := Fr.nil n0
  show OGo p.tables e below (own_Kq s (fun v h L => Q_rm0 Z p1 w0 w1 w2 w3 w4 w5 w6 w7 h0 n0 v h L) room_1.cells room_1.slots) (s₁.setTop (entryFrame m #[(.int p1)] maxLocals))
  refine OGo.cast (ef_rm0 m p1) ?_
  show OGo _ _ _ _ (s₁.setTop (mkF m 0 #[.val (.int p1), .unset, .unset, .unset] []))
  refine OGo.via (fun _ k => XS.iloadN X0.here hx rfl (hb hby at_0) rfl (XS.bipush X0.here hx rfl (hb hby at_1) (XS.iand X0.here hx rfl (hb hby at_3) rfl (XS.istoreN X0.here hx rfl (hb hby at_4) rfl (l' := #[.val (.int p1), .val (.int (p1 &&& (7 : Int32))), .unset, .unset]) rfl (XS.iloadN X0.here hx rfl (hb hby at_5) rfl k))))) ?_
  obtain ⟨_, _, ⟨T1, L1, k1, n1⟩, -, X1, ⟨Lc1, hQ1, l1, y1, z1⟩, st1⟩ := Jvm.LawKit.callS X0 hx (y := own_y0) hown (mvT hZ (own_w hw 0 rfl)) (mvT hZ (own_w hw 1 rfl)) (mvT hZ (own_w hw 2 rfl)) (mvT hZ (own_w hw 3 rfl)) (by decide) (backOf (W := 0) (rm1 l Z a0 hw [] (p1 &&& (7 : Int32)) w0 w1 w2 w3 w4 w5 w6 w7 h0 n0 Z0 S_USER E_w0 F_ordinal_w0 S_USER_ENTERPRISE E_w1 F_ordinal_w1 S_INSTALLATION E_w2 F_ordinal_w2 S_INSTALLATION_ENTERPRISE E_w3 F_ordinal_w3 S_OAUTH_APP E_w4 F_ordinal_w4 S_OAUTH_APP_ENTERPRISE E_w5 F_ordinal_w5 S_ACTIONS E_w6 F_ordinal_w6 S_ACTIONS_ENTERPRISE E_w7 F_ordinal_w7) hZ (own_w hw 3 rfl) (own_w hw 2 rfl) (by decide) (by decide)) (g := (mkF m 6 #[.val (.int p1), .val (.int (p1 &&& (7 : Int32))), .unset, .unset] [(.int (p1 &&& (7 : Int32)))])) rfl (by rw [hml]; rfl) (argsL := [(.int (p1 &&& (7 : Int32)))]) (rest := []) (lenOf pd_0 rfl) rfl (by show 2 * 0 + _ ≤ _; exact Nat.le_of_eq rfl) (hb hby at_6) (fun _ _ => ⟨rfl, e0, (by decide : 0 + 0 ≤ _), (by decide : 0 + 0 ≤ _)⟩)
  dsimp only [Pt.U, Pt.locs, Pt.cells, Pt.slots] at X1 l1 y1 z1 st1 hQ1
  subst l1 y1 z1
  obtain ⟨ob, rfl, N1q, r1_0, r1_1, r1_2⟩ := hQ1
  have N1 := Fr.app N0 N1q
  refine OGo.via st1 ?_
  show OGo _ _ _ _ (T1.setTop (mkF m 9 #[.val (.int p1), .val (.int (p1 &&& (7 : Int32))), .unset, .unset] [(.ref ob)]))
  refine OGo.via (fun _ k => XS.astoreN X1.here hx rfl (hb hby at_9) rfl rfl (l' := #[.val (.int p1), .val (.int (p1 &&& (7 : Int32))), .val (.ref ob), .unset]) rfl (XS.iloadN X1.here hx rfl (hb hby at_10) rfl (XS.iconst X1.here hx rfl (hb hby at_11) k))) ?_
  by_cases hc12_2 : (p1 &&& (7 : Int32)) = (2 : Int32)
  · refine OGo.via (fun _ k => XS.icmpNo X1.here hx rfl (hb hby at_12) rfl (teq hc12_2).2 k) ?_
    show OGo _ _ _ _ (T1.setTop (mkF m 15 #[.val (.int p1), .val (.int (p1 &&& (7 : Int32))), .val (.ref ob), .unset] []))
    refine OGo.via (fun _ k => XS.iconst X1.here hx rfl (hb hby at_15) (XS.goto X1.here hx rfl (pc0 := 16) (pc' := 20) rfl (hb hby at_16) (by decide) (by decide) (XS.istoreN X1.here hx rfl (hb hby at_20) rfl (l' := #[.val (.int p1), .val (.int (p1 &&& (7 : Int32))), .val (.ref ob), .val (.int (1 : Int32))]) rfl (XS.aloadN X1.here hx rfl (hb hby at_21) rfl rfl k)))) ?_
    obtain ⟨cq3, kq3, q3a, q3b, q3c⟩ := isOf hZ r1_0 r1_1
    obtain ⟨_, _, ⟨T3, L3, k3, n3⟩, -, X3, ⟨Lc3, hQ3, l3, y3, z3⟩, st3⟩ := X1.virtualBack hx (y := own_y1) (z := own_y1) hown (mvT hZ (own_w hw 7 rfl)) (mvT hZ (own_w hw 8 rfl)) (notFace_of_selects (args := #[]) (mvT hZ (own_w hw 10 rfl))) (mvT hZ (own_w hw 10 rfl)) (mvT hZ (own_w hw 9 rfl)) (by decide) (backOf (W := 0) (rm2 l Z a0 hw [] ob w2 h0 n0 Z0 S_INSTALLATION) hZ (own_w hw 11 rfl) (own_w hw 5 rfl) (by decide) (by decide)) q3a q3c (g := (mkF m 22 #[.val (.int p1), .val (.int (p1 &&& (7 : Int32))), .val (.ref ob), .val (.int (1 : Int32))] [(.ref ob)])) rfl (by rw [hml]; rfl) (Steps.refl _) (argsL := []) (rest := []) (lenOf pd_1 rfl) rfl (by show 2 * 0 + _ ≤ _; exact Nat.le_of_eq rfl) (hb hby at_22) (fun _ _ => ⟨rfl, r1_0, (by decide : 0 + 0 ≤ _), (by decide : 0 + 0 ≤ _)⟩)
    dsimp only [Pt.U, Pt.locs, Pt.cells, Pt.slots] at X3 l3 y3 z3 st3 hQ3
    subst l3 y3 z3
    obtain ⟨rfl, N3q, r3_0⟩ := hQ3
    have N3 := Fr.app N1 N3q
    refine OGo.via (fun _ k => st3.trans k) ?_
    show OGo _ _ _ _ (T3.setTop (mkF m 25 #[.val (.int p1), .val (.int (p1 &&& (7 : Int32))), .val (.ref ob), .val (.int (1 : Int32))] [(.int (if ob = w2 then (1 : Int32) else (0 : Int32)))]))
    refine OGo.via (fun _ k => XS.iloadN X3.here hx rfl (hb hby at_25) rfl k) ?_
    refine OGo.via (fun _ k => XS.icmpNo X3.here hx rfl (hb hby at_26) rfl (teq ((if_pos (r1_2.elim (fun q => q.1) (fun q => absurd hc12_2 q.2))) : (if ob = w2 then (1 : Int32) else (0 : Int32)) = (1 : Int32))).2 k) ?_
    show OGo _ _ _ _ (T3.setTop (mkF m 29 #[.val (.int p1), .val (.int (p1 &&& (7 : Int32))), .val (.ref ob), .val (.int (1 : Int32))] []))
    refine OGo.via (fun _ k => XS.iconst X3.here hx rfl (hb hby at_29) (XS.goto X3.here hx rfl (pc0 := 30) (pc' := 34) rfl (hb hby at_30) (by decide) (by decide) k)) ?_
    refine own_retN (t := .boolean) (by simp) X3 hx Bd.notSynchronized Bd.returns (hb hby at_34) (by decide) (by decide) ?_
    show Q_rm0 Z _ _ _ _ _ _ _ _ _ h0 n0 _ T3.heap _
    rw [r3_0]
    exact ⟨rfl, N3⟩
  · refine OGo.via (fun _ k => XS.icmpYes X1.here hx rfl (pc0 := 12) (pc' := 19) rfl (hb hby at_12) rfl (feq hc12_2).2 (by decide) (by decide) k) ?_
    show OGo _ _ _ _ (T1.setTop (mkF m 19 #[.val (.int p1), .val (.int (p1 &&& (7 : Int32))), .val (.ref ob), .unset] []))
    refine OGo.via (fun _ k => XS.iconst X1.here hx rfl (hb hby at_19) (XS.istoreN X1.here hx rfl (hb hby at_20) rfl (l' := #[.val (.int p1), .val (.int (p1 &&& (7 : Int32))), .val (.ref ob), .val (.int (0 : Int32))]) rfl (XS.aloadN X1.here hx rfl (hb hby at_21) rfl rfl k))) ?_
    obtain ⟨cq4, kq4, q4a, q4b, q4c⟩ := isOf hZ r1_0 r1_1
    obtain ⟨_, _, ⟨T4, L4, k4, n4⟩, -, X4, ⟨Lc4, hQ4, l4, y4, z4⟩, st4⟩ := X1.virtualBack hx (y := own_y1) (z := own_y1) hown (mvT hZ (own_w hw 7 rfl)) (mvT hZ (own_w hw 8 rfl)) (notFace_of_selects (args := #[]) (mvT hZ (own_w hw 10 rfl))) (mvT hZ (own_w hw 10 rfl)) (mvT hZ (own_w hw 9 rfl)) (by decide) (backOf (W := 0) (rm2 l Z a0 hw [] ob w2 h0 n0 Z0 S_INSTALLATION) hZ (own_w hw 11 rfl) (own_w hw 5 rfl) (by decide) (by decide)) q4a q4c (g := (mkF m 22 #[.val (.int p1), .val (.int (p1 &&& (7 : Int32))), .val (.ref ob), .val (.int (0 : Int32))] [(.ref ob)])) rfl (by rw [hml]; rfl) (Steps.refl _) (argsL := []) (rest := []) (lenOf pd_1 rfl) rfl (by show 2 * 0 + _ ≤ _; exact Nat.le_of_eq rfl) (hb hby at_22) (fun _ _ => ⟨rfl, r1_0, (by decide : 0 + 0 ≤ _), (by decide : 0 + 0 ≤ _)⟩)
    dsimp only [Pt.U, Pt.locs, Pt.cells, Pt.slots] at X4 l4 y4 z4 st4 hQ4
    subst l4 y4 z4
    obtain ⟨rfl, N4q, r4_0⟩ := hQ4
    have N4 := Fr.app N1 N4q
    refine OGo.via (fun _ k => st4.trans k) ?_
    show OGo _ _ _ _ (T4.setTop (mkF m 25 #[.val (.int p1), .val (.int (p1 &&& (7 : Int32))), .val (.ref ob), .val (.int (0 : Int32))] [(.int (if ob = w2 then (1 : Int32) else (0 : Int32)))]))
    refine OGo.via (fun _ k => XS.iloadN X4.here hx rfl (hb hby at_25) rfl k) ?_
    refine OGo.via (fun _ k => XS.icmpNo X4.here hx rfl (hb hby at_26) rfl (teq ((if_neg (r1_2.elim (fun q => absurd q.2 hc12_2) (fun q => q.1))) : (if ob = w2 then (1 : Int32) else (0 : Int32)) = (0 : Int32))).2 k) ?_
    show OGo _ _ _ _ (T4.setTop (mkF m 29 #[.val (.int p1), .val (.int (p1 &&& (7 : Int32))), .val (.ref ob), .val (.int (0 : Int32))] []))
    refine OGo.via (fun _ k => XS.iconst X4.here hx rfl (hb hby at_29) (XS.goto X4.here hx rfl (pc0 := 30) (pc' := 34) rfl (hb hby at_30) (by decide) (by decide) k)) ?_
    refine own_retN (t := .boolean) (by simp) X4 hx Bd.notSynchronized Bd.returns (hb hby at_34) (by decide) (by decide) ?_
    show Q_rm0 Z _ _ _ _ _ _ _ _ _ h0 n0 _ T4.heap _
    rw [r4_0]
    exact ⟨rfl, N4⟩
set_option maxRecDepth 65536 in
set_option maxHeartbeats 40000000 in
theorem comes_1 {Post : Tables → Env → Array Value → State → Outcome → State → Prop} (hpost : ∀ tb e args s v u, (limb_1_1.after args s (.returned v) u = true ∧ limb_1_2.after args s (.returned v) u = true ∧ True) → FrameEnd s (.returned v) u (Jvm.fieldLocs frame_1_writes args s ++ Jvm.arrayLocs frame_1_arrays args s ++ Jvm.staticLocs frame_1_statics s) 0 0 → Post tb e args s (.returned v) u) :
    ArmFor flags0 classFile x code maxLocals ret World_1 tables_1 room_1 Calls_1 rest_1 Pre_1 Post := by
  intro l hfl _ _ p e ha hc hk s m args below hf hA hF happ hP
  obtain ⟨hcalls, hrest, hpre⟩ := hP
  obtain ⟨-, -, -, hnamed, -, -, -, hat⟩ := (Spec.applies_iff hf).mp happ
  obtain ⟨hg, hn⟩ := and_e (Cond.before_iff.mp (show (Jvm.Cond.and given_1 narrow_1).before args s = true from hpre))
  obtain ⟨gc, gv0⟩ := and_e hg
  have ga0 := gv0
  obtain ⟨w0, rfl⟩ : ∃ w0 : Value, args = #[w0] := by
    have hs : args.size = 1 := by simpa [Cond.value, given_1] using gc
    obtain ⟨L⟩ := args
    match L, hs with
    | [w0], _ => exact ⟨w0, rfl⟩
  have hw := fun d (hd : d ∈ tables_1) => atoms_spec (ws := Jvm.Cond.code x code maxLocals ret :: tables_1) hat d (List.mem_cons_of_mem _ hd)
  have hfit : Fit s := fun {y c} hc i hi => by
    obtain ⟨ha, rfl⟩ := Array.getElem?_eq_some_iff.mp hc
    have q := List.all_eq_true.mp ((Array.all_eq_true_iff_forall_mem.mp hF) _ (Array.getElem_mem ha)) i (List.mem_range.mpr hi)
    simpa [Array.getElem?_eq_getElem hi] using q
  obtain ⟨i0, ei0⟩ := is_v ga0
  obtain rfl : w0 = (.int i0) := Option.some.inj ei0
  obtain ⟨nc0, ncr0⟩ := and_e hn
  obtain ⟨nc1, ncr1⟩ := and_e ncr0
  obtain ⟨nc2, ncr2⟩ := and_e ncr1
  obtain ⟨nc3, ncr3⟩ := and_e ncr2
  obtain ⟨nc4, ncr4⟩ := and_e ncr3
  obtain ⟨nc5, ncr5⟩ := and_e ncr4
  obtain ⟨nc6, ncr6⟩ := and_e ncr5
  obtain ⟨nc7, ncr7⟩ := and_e ncr6
  obtain ⟨nc8, ncr8⟩ := and_e ncr7
  obtain ⟨nc9, ncr9⟩ := and_e ncr8
  obtain ⟨nc10, ncr10⟩ := and_e ncr9
  obtain ⟨nc11, ncr11⟩ := and_e ncr10
  obtain ⟨nc12, ncr12⟩ := and_e ncr11
  obtain ⟨nc13, ncr13⟩ := and_e ncr12
  obtain ⟨nc14, ncr14⟩ := and_e ncr13
  have nc15 := ncr14
  obtain ⟨u_USER, ev_USER⟩ := exa_v nc0
  obtain ⟨u_INSTALLATION, ev_INSTALLATION⟩ := exa_v nc1
  obtain ⟨u_INSTALLATION_ENTERPRISE, ev_INSTALLATION_ENTERPRISE⟩ := exa_v nc4
  obtain ⟨u_ACTIONS, ev_ACTIONS⟩ := exa_v nc6
  obtain ⟨u_ACTIONS_ENTERPRISE, ev_ACTIONS_ENTERPRISE⟩ := exa_v nc8
  obtain ⟨u_USER_ENTERPRISE, ev_USER_ENTERPRISE⟩ := exa_v nc10
  obtain ⟨u_OAUTH_APP, ev_OAUTH_APP⟩ := exa_v nc12
  obtain ⟨u_OAUTH_APP_ENTERPRISE, ev_OAUTH_APP_ENTERPRISE⟩ := exa_v nc14
  obtain ⟨n, o, h1, h2, h3, _, L, rfl, ⟨rfl, N⟩, hq⟩ := rm0 l s _ hw tables_1 i0 u_USER u_USER_ENTERPRISE u_INSTALLATION u_INSTALLATION_ENTERPRISE u_OAUTH_APP u_OAUTH_APP_ENTERPRISE u_ACTIONS u_ACTIONS_ENTERPRISE s.heap s.heap.size (Nat.le_refl _) (Sta.start ev_USER (Or.inr ⟨(own_w hw 5 rfl), (own_w hw 6 rfl)⟩)) (Exa.start ev_USER nc0) (own_fldint ev_USER nc2) (Sta.start ev_USER_ENTERPRISE (Or.inr ⟨(own_w hw 5 rfl), (own_w hw 22 rfl)⟩)) (Exa.start ev_USER_ENTERPRISE nc10) (own_fldint ev_USER_ENTERPRISE nc11) (Sta.start ev_INSTALLATION (Or.inr ⟨(own_w hw 5 rfl), (own_w hw 13 rfl)⟩)) (Exa.start ev_INSTALLATION nc1) (own_fldint ev_INSTALLATION nc3) (Sta.start ev_INSTALLATION_ENTERPRISE (Or.inr ⟨(own_w hw 5 rfl), (own_w hw 15 rfl)⟩)) (Exa.start ev_INSTALLATION_ENTERPRISE nc4) (own_fldint ev_INSTALLATION_ENTERPRISE nc5) (Sta.start ev_OAUTH_APP (Or.inr ⟨(own_w hw 5 rfl), (own_w hw 24 rfl)⟩)) (Exa.start ev_OAUTH_APP nc12) (own_fldint ev_OAUTH_APP nc13) (Sta.start ev_OAUTH_APP_ENTERPRISE (Or.inr ⟨(own_w hw 5 rfl), (own_w hw 26 rfl)⟩)) (Exa.start ev_OAUTH_APP_ENTERPRISE nc14) (own_fldint ev_OAUTH_APP_ENTERPRISE nc15) (Sta.start ev_ACTIONS (Or.inr ⟨(own_w hw 5 rfl), (own_w hw 17 rfl)⟩)) (Exa.start ev_ACTIONS nc6) (own_fldint ev_ACTIONS nc7) (Sta.start ev_ACTIONS_ENTERPRISE (Or.inr ⟨(own_w hw 5 rfl), (own_w hw 19 rfl)⟩)) (Exa.start ev_ACTIONS_ENTERPRISE nc8) (own_fldint ev_ACTIONS_ENTERPRISE nc9) p e ha hc hk s m _ below hf ((Spec.applies_iff_loose hf).mp happ).1 ⟨rfl, State.Warmed39.refl s, rfl⟩ trivial
  refine ⟨n, _, h1, h2, h3, hpost _ _ _ _ _ _ ⟨Cond.after_iff.mpr rfl, Cond.after_iff.mpr (eq_i res_at (Term.int_eval (1)) rfl), trivial⟩ ⟨hq.1, hq.2.1, (hq.2.2.sift fun y hy => Or.inr (N y hy)).mono (by decide) (by decide)⟩⟩
theorem main_1_1 : Claimed_1_1 := comes_1 fun _ _ _ _ _ _ h hF => ⟨h.1, hF⟩
theorem main_1_2 : Claimed_1_2 := comes_1 fun _ _ _ _ _ _ h hF => ⟨h.2.1, hF⟩
end Jvm.Pilot.@@N@@
namespace Jvm.Pilot.@@N@@
open Jvm Jvm.ClassFile Sem Op Lib Jvm.Free Jvm.Stand Jvm.Pilot.@@N@@.Jvm.D
/-! MADE BY PROGRAM (witnessworld.py) out of the Statement's table words and the real class files: 12 classes; the members and pool entries that the words name. The judged class is class 1, her method 1. -/
namespace start1
open Jvm.ClassFile
def u (s : String) : CpInfo := .utf8 (stringToUtf16 s)
/-- a pool by its gaps: so many unusable entries, then the entry; so many at the end -/
def gap : Nat → List CpInfo → List CpInfo
  | 0, r => r
  | n + 1, r => .unusable :: gap n r
def poolList (es : List (Nat × CpInfo)) (last : Nat) : List CpInfo := es.foldr (fun e r => gap e.1 (e.2 :: r)) (gap last [])
def pool (es : List (Nat × CpInfo)) (last : Nat) : Array CpInfo := ⟨poolList es last⟩
def fileOf (pool : Array CpInfo) (this : Nat) (attrs : Array Attribute := #[]) (ms : Array MethodInfo := #[]) (fl : Nat := 33) (sup : Nat := 0) (ifs : Array Nat := #[]) (fds : Array FieldInfo := #[]) : ClassFile where
  minorVersion := 0
  majorVersion := 65
  constantPool := pool
  accessFlags := fl
  thisClass := this
  superClass := sup
  interfaces := ifs
  fields := fds
  methods := ms
  attributes := attrs
def plain (name : String) (sup : Option ClassId) : Class where
  name := name
  kind := .ordinary
  loader := none
  accessFlags := 33
  super := sup
  interfaces := #[]
  cf := none
  fields := #[]
  methods := #[]
  instanceTypes := #[]
  staticTypes := #[]
  resolved := #[]
  callSites := []
  init := .initialized
  statics := none
  mirror := none

def pool0 : Array CpInfo := pool [(5, u "<init>"), (0, u "()V"), (1, .class_ 10), (1, u "java/lang/Object")] 113

def k0m0 : Method := { name := "<init>", desc := "()V", sig := { parameters := [], returnType := none }, accessFlags := 1, code := none }
/-- java/lang/Object -/
def k0 : Class := { plain "java/lang/Object" none with
  accessFlags := 33
  interfaces := #[]
  cf := some (fileOf pool0 8 #[] #[{ accessFlags := 1, nameIndex := 5, descriptorIndex := 6, attributes := #[] }] 33 0 #[] #[])
  fields := #[]
  methods := #[k0m0]
  instanceTypes := #[]
  staticTypes := #[]
  resolved := Array.replicate 124 none
  statics := none }

def pool1 : Array CpInfo := pool [(2, .class_ 4), (1, u "java/lang/Object"), (0, u "<init>"), (0, u "()V"), (0, .methodref 8 9), (0, .class_ 10), (0, .nameAndType 11 12), (0, u "com/example/costlint/costlint/limits/AuthenticationCountsRepositoriesAndUsersPinLaw"), (0, u "pick"), (0, u "(I)Lcom/example/costlint/costlint/limits/Authentication;"), (0, .methodref 14 15), (0, .class_ 16), (0, .nameAndType 17 18), (0, u "com/example/costlint/costlint/limits/Authentication"), (0, u "countsRepositoriesAndUsers"), (0, u "()Z"), (0, .fieldref 14 20), (0, .nameAndType 21 22), (0, u "USER"), (0, u "Lcom/example/costlint/costlint/limits/Authentication;"), (0, .fieldref 14 24), (0, .nameAndType 25 22), (0, u "USER_ENTERPRISE"), (0, .fieldref 14 27), (0, .nameAndType 28 22), (0, u "INSTALLATION"), (0, .fieldref 14 30), (0, .nameAndType 31 22), (0, u "INSTALLATION_ENTERPRISE"), (0, .fieldref 14 33), (0, .nameAndType 34 22), (0, u "OAUTH_APP"), (0, .fieldref 14 36), (0, .nameAndType 37 22), (0, u "OAUTH_APP_ENTERPRISE"), (0, .fieldref 14 39), (0, .nameAndType 40 22), (0, u "ACTIONS"), (0, .fieldref 14 42), (0, .nameAndType 43 22), (0, u "ACTIONS_ENTERPRISE"), (2, u "law"), (0, u "(I)Z")] 3

def k1m0 : Method := { name := "<init>", desc := "()V", sig := { parameters := [], returnType := none }, accessFlags := 1, code := none }
def k1c1 : Code := { maxStack := 2, maxLocals := 4, code := code, exceptionTable := #[], attributes := #[] }
def k1m1 : Method := { name := "law", desc := "(I)Z", sig := { parameters := [.int], returnType := some .boolean }, accessFlags := 9, code := some k1c1 }
def k1c2 : Code := { maxStack := 2, maxLocals := 1, code := method_3_code, exceptionTable := #[], attributes := #[] }
def k1m2 : Method := { name := "pick", desc := "(I)Lcom/example/costlint/costlint/limits/Authentication;", sig := { parameters := [.int], returnType := some (.object "com/example/costlint/costlint/limits/Authentication") }, accessFlags := 10, code := some k1c2 }
/-- com/example/costlint/costlint/limits/AuthenticationCountsRepositoriesAndUsersPinLaw -/
def k1 : Class := { plain "com/example/costlint/costlint/limits/AuthenticationCountsRepositoriesAndUsersPinLaw" (some 0) with
  accessFlags := 49
  interfaces := #[]
  cf := some (fileOf pool1 8 #[] #[{ accessFlags := 1, nameIndex := 5, descriptorIndex := 6, attributes := #[] }, { accessFlags := 9, nameIndex := 46, descriptorIndex := 47, attributes := #[] }, { accessFlags := 10, nameIndex := 11, descriptorIndex := 12, attributes := #[] }] 49 2 #[] #[])
  fields := #[]
  methods := #[k1m0, k1m1, k1m2]
  instanceTypes := #[]
  staticTypes := #[]
  resolved := Array.replicate 51 none
  statics := none }

def pool2 : Array CpInfo := pool [(1, .class_ 2), (0, u "java/lang/constant/Constable"), (0, .class_ 4), (0, u "java/lang/Object")] 6

/-- java/lang/constant/Constable -/
def k2 : Class := { plain "java/lang/constant/Constable" (some 0) with
  accessFlags := 1537
  interfaces := #[]
  cf := some (fileOf pool2 1 #[] #[] 1537 3 #[] #[])
  fields := #[]
  methods := #[]
  instanceTypes := #[]
  staticTypes := #[]
  resolved := Array.replicate 11 none
  statics := none }

def pool3 : Array CpInfo := pool [(1, .class_ 2), (0, u "java/lang/Comparable"), (0, .class_ 4), (0, u "java/lang/Object")] 7

/-- java/lang/Comparable -/
def k3 : Class := { plain "java/lang/Comparable" (some 0) with
  accessFlags := 1537
  interfaces := #[]
  cf := some (fileOf pool3 1 #[] #[] 1537 3 #[] #[])
  fields := #[]
  methods := #[]
  instanceTypes := #[]
  staticTypes := #[]
  resolved := Array.replicate 12 none
  statics := none }

def pool4 : Array CpInfo := pool [(1, .class_ 2), (0, u "java/io/Serializable"), (0, .class_ 4), (0, u "java/lang/Object")] 2

/-- java/io/Serializable -/
def k4 : Class := { plain "java/io/Serializable" (some 0) with
  accessFlags := 1537
  interfaces := #[]
  cf := some (fileOf pool4 1 #[] #[] 1537 3 #[] #[])
  fields := #[]
  methods := #[]
  instanceTypes := #[]
  staticTypes := #[]
  resolved := Array.replicate 7 none
  statics := none }

def pool5 : Array CpInfo := pool [(2, .class_ 4), (1, u "java/lang/Enum"), (0, u "name"), (0, u "Ljava/lang/String;"), (2, u "ordinal"), (0, u "I"), (1, .class_ 14), (1, u "java/lang/Object"), (4, u "hash"), (86, .class_ 108), (1, u "java/lang/Enum$EnumDesc"), (2, .class_ 112), (0, u "java/lang/constant/Constable"), (0, .class_ 114), (0, u "java/lang/Comparable"), (0, .class_ 116), (0, u "java/io/Serializable")] 87

/-- java/lang/Enum -/
def k5 : Class := { plain "java/lang/Enum" (some 0) with
  accessFlags := 1057
  interfaces := #[2, 3, 4]
  cf := some (fileOf pool5 2 #[.nestMembers #[106]] #[] 1057 12 #[111, 113, 115] #[{ accessFlags := 18, nameIndex := 5, descriptorIndex := 6, attributes := #[] }, { accessFlags := 18, nameIndex := 9, descriptorIndex := 10, attributes := #[] }, { accessFlags := 2, nameIndex := 19, descriptorIndex := 10, attributes := #[] }])
  fields := #[{ name := "name", type := (.object "java/lang/String"), accessFlags := 18, slot := 0, constantValue := 0 }, { name := "ordinal", type := .int, accessFlags := 18, slot := 1, constantValue := 0 }, { name := "hash", type := .int, accessFlags := 2, slot := 2, constantValue := 0 }]
  methods := #[]
  instanceTypes := #[(.object "java/lang/String"), .int, .int]
  staticTypes := #[]
  resolved := Array.replicate 204 none
  statics := none }

def pool6 : Array CpInfo := pool [(1, .class_ 2), (0, u "com/example/costlint/costlint/limits/Authentication"), (2, u "USER"), (0, u "Lcom/example/costlint/costlint/limits/Authentication;"), (2, u "USER_ENTERPRISE"), (0, .fieldref 1 11), (0, .nameAndType 12 6), (0, u "INSTALLATION"), (2, u "INSTALLATION_ENTERPRISE"), (2, u "OAUTH_APP"), (2, u "OAUTH_APP_ENTERPRISE"), (2, u "ACTIONS"), (2, u "ACTIONS_ENTERPRISE"), (2, u "$VALUES"), (0, u "[Lcom/example/costlint/costlint/limits/Authentication;"), (6, .class_ 40), (1, u "java/lang/Enum"), (8, u "id"), (0, u "Ljava/lang/String;"), (7, u "hourlyPoints"), (0, u "Ljava/math/BigInteger;"), (30, u "countsRepositoriesAndUsers"), (0, u "()Z"), (5, u "REPOSITORIES_THAT_ADD_NOTHING"), (6, u "POINTS_PER_REPOSITORY"), (9, u "USERS_THAT_ADD_NOTHING"), (2, u "POINTS_PER_USER"), (2, u "MOST_INSTALLATION_POINTS")] 81

def k6c0 : Code := { maxStack := 2, maxLocals := 1, code := prog_4_method_5_code, exceptionTable := #[], attributes := #[] }
def k6m0 : Method := { name := "countsRepositoriesAndUsers", desc := "()Z", sig := { parameters := [], returnType := some .boolean }, accessFlags := 1, code := some k6c0 }
/-- com/example/costlint/costlint/limits/Authentication -/
def k6 : Class := { plain "com/example/costlint/costlint/limits/Authentication" (some 5) with
  accessFlags := 16433
  interfaces := #[]
  cf := some (fileOf pool6 1 #[] #[{ accessFlags := 1, nameIndex := 90, descriptorIndex := 91, attributes := #[] }] 16433 38 #[] #[{ accessFlags := 16409, nameIndex := 5, descriptorIndex := 6, attributes := #[] }, { accessFlags := 16409, nameIndex := 9, descriptorIndex := 6, attributes := #[] }, { accessFlags := 16409, nameIndex := 12, descriptorIndex := 6, attributes := #[] }, { accessFlags := 16409, nameIndex := 15, descriptorIndex := 6, attributes := #[] }, { accessFlags := 16409, nameIndex := 18, descriptorIndex := 6, attributes := #[] }, { accessFlags := 16409, nameIndex := 21, descriptorIndex := 6, attributes := #[] }, { accessFlags := 16409, nameIndex := 24, descriptorIndex := 6, attributes := #[] }, { accessFlags := 16409, nameIndex := 27, descriptorIndex := 6, attributes := #[] }, { accessFlags := 26, nameIndex := 97, descriptorIndex := 59, attributes := #[] }, { accessFlags := 26, nameIndex := 104, descriptorIndex := 59, attributes := #[] }, { accessFlags := 26, nameIndex := 114, descriptorIndex := 59, attributes := #[] }, { accessFlags := 26, nameIndex := 117, descriptorIndex := 59, attributes := #[] }, { accessFlags := 26, nameIndex := 120, descriptorIndex := 59, attributes := #[] }, { accessFlags := 18, nameIndex := 49, descriptorIndex := 50, attributes := #[] }, { accessFlags := 18, nameIndex := 58, descriptorIndex := 59, attributes := #[] }, { accessFlags := 4122, nameIndex := 30, descriptorIndex := 31, attributes := #[] }])
  fields := #[{ name := "USER", type := (.object "com/example/costlint/costlint/limits/Authentication"), accessFlags := 16409, slot := 0, constantValue := 0 }, { name := "USER_ENTERPRISE", type := (.object "com/example/costlint/costlint/limits/Authentication"), accessFlags := 16409, slot := 1, constantValue := 0 }, { name := "INSTALLATION", type := (.object "com/example/costlint/costlint/limits/Authentication"), accessFlags := 16409, slot := 2, constantValue := 0 }, { name := "INSTALLATION_ENTERPRISE", type := (.object "com/example/costlint/costlint/limits/Authentication"), accessFlags := 16409, slot := 3, constantValue := 0 }, { name := "OAUTH_APP", type := (.object "com/example/costlint/costlint/limits/Authentication"), accessFlags := 16409, slot := 4, constantValue := 0 }, { name := "OAUTH_APP_ENTERPRISE", type := (.object "com/example/costlint/costlint/limits/Authentication"), accessFlags := 16409, slot := 5, constantValue := 0 }, { name := "ACTIONS", type := (.object "com/example/costlint/costlint/limits/Authentication"), accessFlags := 16409, slot := 6, constantValue := 0 }, { name := "ACTIONS_ENTERPRISE", type := (.object "com/example/costlint/costlint/limits/Authentication"), accessFlags := 16409, slot := 7, constantValue := 0 }, { name := "REPOSITORIES_THAT_ADD_NOTHING", type := (.object "java/math/BigInteger"), accessFlags := 26, slot := 8, constantValue := 0 }, { name := "POINTS_PER_REPOSITORY", type := (.object "java/math/BigInteger"), accessFlags := 26, slot := 9, constantValue := 0 }, { name := "USERS_THAT_ADD_NOTHING", type := (.object "java/math/BigInteger"), accessFlags := 26, slot := 10, constantValue := 0 }, { name := "POINTS_PER_USER", type := (.object "java/math/BigInteger"), accessFlags := 26, slot := 11, constantValue := 0 }, { name := "MOST_INSTALLATION_POINTS", type := (.object "java/math/BigInteger"), accessFlags := 26, slot := 12, constantValue := 0 }, { name := "id", type := (.object "java/lang/String"), accessFlags := 18, slot := 3, constantValue := 0 }, { name := "hourlyPoints", type := (.object "java/math/BigInteger"), accessFlags := 18, slot := 4, constantValue := 0 }, { name := "$VALUES", type := (.array (.object "com/example/costlint/costlint/limits/Authentication")), accessFlags := 4122, slot := 13, constantValue := 0 }]
  methods := #[k6m0]
  instanceTypes := #[(.object "java/lang/String"), .int, .int, (.object "java/lang/String"), (.object "java/math/BigInteger")]
  staticTypes := #[(.object "com/example/costlint/costlint/limits/Authentication"), (.object "com/example/costlint/costlint/limits/Authentication"), (.object "com/example/costlint/costlint/limits/Authentication"), (.object "com/example/costlint/costlint/limits/Authentication"), (.object "com/example/costlint/costlint/limits/Authentication"), (.object "com/example/costlint/costlint/limits/Authentication"), (.object "com/example/costlint/costlint/limits/Authentication"), (.object "com/example/costlint/costlint/limits/Authentication"), (.object "java/math/BigInteger"), (.object "java/math/BigInteger"), (.object "java/math/BigInteger"), (.object "java/math/BigInteger"), (.object "java/math/BigInteger"), (.array (.object "com/example/costlint/costlint/limits/Authentication"))]
  resolved := Array.replicate 202 none
  statics := some 0 }

def pool7 : Array CpInfo := pool [(1, u "java/lang/Cloneable"), (0, .class_ 1), (0, u "java/lang/Object"), (0, .class_ 3)] 3

/-- java/lang/Cloneable -/
def k7 : Class := { plain "java/lang/Cloneable" (some 0) with
  accessFlags := 1537
  interfaces := #[]
  cf := some (fileOf pool7 2 #[] #[] 1537 4 #[] #[])
  fields := #[]
  methods := #[]
  instanceTypes := #[]
  staticTypes := #[]
  resolved := Array.replicate 8 none
  statics := none }

/-- the primitive byte -/
def k8 : Class := { plain "byte" none with kind := .primitive 'B', accessFlags := 0x411 }
/-- [B -/
def k9 : Class := { plain "[B" (some 0) with kind := .array 8 .byte, interfaces := #[7, 4], accessFlags := 1041 }

/-- the primitive int -/
def k10 : Class := { plain "int" none with kind := .primitive 'I', accessFlags := 0x411 }
/-- [I -/
def k11 : Class := { plain "[I" (some 0) with kind := .array 10 .int, interfaces := #[7, 4], accessFlags := 1041 }

def heap : Heap := #[{ cls := 6, slots := #[.ref 1, .ref 2, .ref 3, .ref 4, .ref 5, .ref 6, .ref 7, .ref 8, .null, .null, .null, .null, .null, .null], vm := .statics 6 },
  { cls := 6, slots := #[.null, .int 0, .int 0, .null, .null], vm := .none },
  { cls := 6, slots := #[.null, .int 1, .int 0, .null, .null], vm := .none },
  { cls := 6, slots := #[.null, .int 2, .int 0, .null, .null], vm := .none },
  { cls := 6, slots := #[.null, .int 3, .int 0, .null, .null], vm := .none },
  { cls := 6, slots := #[.null, .int 4, .int 0, .null, .null], vm := .none },
  { cls := 6, slots := #[.null, .int 5, .int 0, .null, .null], vm := .none },
  { cls := 6, slots := #[.null, .int 6, .int 0, .null, .null], vm := .none },
  { cls := 6, slots := #[.null, .int 7, .int 0, .null, .null], vm := .none }]
def classes : Array Class := #[k0, k1, k2, k3, k4, k5, k6, k7, k8, k9, k10, k11]
def interned : List (Array UInt16 × Addr) := []
def slotsUsed : Nat := 54
def theMethod : MethodId := ⟨1, 1⟩
def args0 : Array Value := #[.int 5]
def aboutOver (below : List Frame) : State where
  vm := { classes := classes, interned := interned.toArray }
  heap := heap
  slotsUsed := slotsUsed
  threads := #[{ frames := .invoking theMethod args0 :: below }]
def below0 : List Frame := [.native { method := ⟨0, 0⟩, args := #[] }]
def about1 : State := aboutOver below0
def p0 : Program := .bare "" "" ""
def e0 : Env := launch0.env 0 0 0
theorem w_frames : about1.frames = Frame.invoking theMethod args0 :: below0 := rfl
set_option maxRecDepth 65536 in
theorem w_args : argsFit about1.vm theMethod args0 = true := by decide +kernel
set_option maxRecDepth 65536 in
theorem w_heap : heapFits about1 = true := by decide +kernel
set_option maxRecDepth 65536 in
theorem w_runnable : about1.curStatus? = some .runnable := by decide +kernel
set_option maxRecDepth 65536 in
theorem w_alone : about1.alone = true := by decide +kernel
set_option maxRecDepth 65536 in
theorem w_named : about1.methodNamed? x = some theMethod := by decide +kernel
set_option maxRecDepth 65536 in
theorem w_hears : about1.hears theMethod below0 = true := by decide +kernel
set_option maxRecDepth 65536 in
theorem w_ripe : about1.ripe theMethod args0 below0 = true := by decide +kernel
theorem w_running : about1.status = .running := rfl
set_option maxRecDepth 65536 in
theorem w_room : about1.hasRoom e0.platform room_1 = true :=
  launch0.hasRoom_least _ room_1 (by decide +kernel) (by decide +kernel) (by decide +kernel) (by decide +kernel) (by decide +kernel) (by decide +kernel)
theorem allAtoms_all (ts : List Jvm.Cond) (a : Array Jvm.Value) (st : Jvm.State) : (allAtoms ts).before a st = ts.all (fun c => c.before a st) := by
  induction ts with
  | nil => rfl
  | cons c t ih =>
    show (Jvm.Cond.and c (allAtoms t)).before a st = _
    rw [Jvm.Cond.before_and, ih, List.all_cons]
def words1 : List Jvm.Cond := Jvm.Cond.code x code maxLocals ret :: tables_1
/-- a 'code' word, met by the world's own term for the bytes: nothing is compared byte by byte -/
theorem code_word {y : MethodName} {bytes : ByteArray} {mx : Nat} {rt : Option FieldType} {a : Array Value} {s : State} {m : MethodId} {meth : Method} {c : Code} (h1 : s.methodNamed? y = some m) (h2 : s.vm.method? m = some meth) (h3 : meth.code = some c) (h4 : c.code = bytes)
    (h5 : (c.maxLocals == mx && c.exceptionTable.isEmpty && decide (c.maxStack ≤ mostOperands) && decide (meth.sig.returnType = rt) && !meth.locks && decide (parseMethodDescriptor y.desc = some meth.sig)) = true) : (Jvm.Cond.code y bytes mx rt).before a s = true := by
  simp only [Bool.and_eq_true, beq_iff_eq, Bool.not_eq_true', decide_eq_true_eq] at h5
  obtain ⟨⟨⟨⟨⟨g1, g2⟩, g3⟩, g4⟩, g5⟩, g6⟩ := h5
  simp [Cond.before, Cond.holds, Cond.value, h1, h2, h3, h4, g1, g2, g3, g4, g5, g6]
def isCode : Jvm.Cond → Bool
  | .code _ _ _ _ => true
  | _ => false
theorem all_split {L : List Jvm.Cond} {P : Jvm.Cond → Bool} (h1 : L.all (fun c => isCode c || P c) = true) (h2 : ∀ c ∈ L.filter isCode, P c = true) : L.all P = true := by
  refine List.all_eq_true.mpr fun c hc => ?_
  have h := List.all_eq_true.mp h1 c hc
  rcases Bool.eq_false_or_eq_true (isCode c) with hi | hi
  · exact h2 c (List.mem_filter.mpr ⟨hc, hi⟩)
  · simpa [hi] using h
set_option maxRecDepth 65536 in
theorem w_c0 : (Jvm.Cond.code x code maxLocals ret).before args0 about1 = true := code_word (m := ⟨1, 1⟩) (meth := k1m1) (c := k1c1) (by decide +kernel) rfl rfl rfl (by decide +kernel)
set_option maxRecDepth 65536 in
theorem w_c1 : (Jvm.Cond.code ({ cls := "com/example/costlint/costlint/limits/AuthenticationCountsRepositoriesAndUsersPinLaw", name := "pick", desc := "(I)Lcom/example/costlint/costlint/limits/Authentication;" } : Jvm.MethodName) method_3_code (1 : Nat) (Option.some (Jvm.ClassFile.FieldType.object "com/example/costlint/costlint/limits/Authentication"))).before args0 about1 = true := code_word (m := ⟨1, 2⟩) (meth := k1m2) (c := k1c2) (by decide +kernel) rfl rfl rfl (by decide +kernel)
set_option maxRecDepth 65536 in
theorem w_c2 : (Jvm.Cond.code ({ cls := "com/example/costlint/costlint/limits/Authentication", name := "countsRepositoriesAndUsers", desc := "()Z" } : Jvm.MethodName) prog_4_method_5_code (1 : Nat) (Option.some Jvm.ClassFile.FieldType.boolean)).before args0 about1 = true := code_word (m := ⟨6, 0⟩) (meth := k6m0) (c := k6c0) (by decide +kernel) rfl rfl rfl (by decide +kernel)
def codes1 : List Jvm.Cond := [Jvm.Cond.code x code maxLocals ret, Jvm.Cond.code ({ cls := "com/example/costlint/costlint/limits/AuthenticationCountsRepositoriesAndUsersPinLaw", name := "pick", desc := "(I)Lcom/example/costlint/costlint/limits/Authentication;" } : Jvm.MethodName) method_3_code (1 : Nat) (Option.some (Jvm.ClassFile.FieldType.object "com/example/costlint/costlint/limits/Authentication")), Jvm.Cond.code ({ cls := "com/example/costlint/costlint/limits/Authentication", name := "countsRepositoriesAndUsers", desc := "()Z" } : Jvm.MethodName) prog_4_method_5_code (1 : Nat) (Option.some Jvm.ClassFile.FieldType.boolean)]
set_option maxRecDepth 65536 in
theorem codes_eq : words1.filter isCode = codes1 := rfl
theorem w_codes : ∀ c ∈ words1.filter isCode, c.before args0 about1 = true := by
  rw [codes_eq]
  intro c hc
  simp only [codes1, List.mem_cons, List.not_mem_nil, or_false] at hc
  rcases hc with rfl | rfl | rfl
  · exact w_c0
  · exact w_c1
  · exact w_c2
set_option maxRecDepth 65536 in
theorem w_t1 : (words1.take 24).all (fun c => isCode c || c.before args0 about1) = true := by decide +kernel
set_option maxRecDepth 65536 in
theorem w_t2 : (words1.drop 24).all (fun c => isCode c || c.before args0 about1) = true := by decide +kernel
theorem w_tables : (allAtoms (Jvm.Cond.code x code maxLocals ret :: tables_1)).before args0 about1 = true := by
  rw [allAtoms_all]
  show words1.all (fun c => c.before args0 about1) = true
  refine all_split ?_ w_codes
  rw [← List.take_append_drop 24 words1, List.all_append, w_t1, w_t2]
  rfl
set_option maxRecDepth 65536 in
theorem w_case : (Jvm.Cond.and given_1 narrow_1).before args0 about1 = true := by decide +kernel
theorem w_applies : (headSpec (Jvm.Cond.code x code maxLocals ret :: tables_1) room_1).applies x e0.platform about1 = true :=
  (Spec.applies_iff w_frames).mpr ⟨w_running, w_runnable, w_alone, w_named, w_hears, w_ripe, w_room, w_tables⟩
theorem atStart : AtStart classFile x code maxLocals ret World_1 tables_1 room_1 Calls_1 rest_1 Pre_1 launch0 p0 e0 about1 theMethod args0 below0 :=
  ⟨lists_1, trivial, launch0.admits_env _ _ _, launch0.least_env, fairChoices_fair.cas, fairChoices_fair.clock, w_frames, w_args, w_heap, w_applies, trivial, trivial, w_case⟩
end start1
theorem witness_1 : WitnessClaimed_1 := ⟨start1.p0, start1.e0, start1.about1, start1.theMethod, start1.args0, start1.below0, start1.atStart⟩
end Jvm.Pilot.@@N@@
