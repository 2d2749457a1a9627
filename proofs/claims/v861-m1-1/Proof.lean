import JvmDerived
import JvmDerived.Pilot.@@N@@Statement
import JvmDerived.Pilot.@@N@@Code
set_option linter.unusedVariables false
set_option linter.unusedSimpArgs false
namespace Jvm.Pilot.@@N@@
open Jvm Jvm.ClassFile Sem Op Lib Jvm.Free Jvm.Stand Jvm.LawKit Jvm.RoadKit Bundle Jvm.Pilot.@@N@@.Jvm.D
def own_Kq (s : State) (Q : Option Value → Heap → List Loc → Prop) (cl sl : Nat) (o : Outcome) (U : State) : Prop := ∃ v L, o = .returned v ∧ Q v U.heap L ∧ FrameEnd s o U L cl sl
def OGo (tb : Tables) (e : Env) (below : List Frame) (K : Outcome → State → Prop) (U : State) : Prop := ∃ s₂ o, Steps tb e below U s₂ ∧ s₂.status = .running ∧ Ended s₂ below o ∧ K o s₂
section Own
variable {p : Program} {l : Launch} {e : Env} {R : Room} {s : State} {m : MethodId} {args : Array Value} {below : List Frame} {meth : Method} {c : Code} {T : State} {locs : List Loc} {cells slots : Nat} {tb : Tables} {K : Outcome → State → Prop} {Q : Option Value → Heap → List Loc → Prop} {cl sl : Nat}
theorem OGo.via {U U' : State} (st : ∀ t, Steps tb e below U' t → Steps tb e below U t) (k : OGo tb e below K U') : OGo tb e below K U := by
  obtain ⟨s₂, o, h, r⟩ := k; exact ⟨s₂, o, st _ h, r⟩
theorem OGo.cast {g g' : JFrame} (q : g = g') (k : OGo tb e below K (T.setTop g')) : OGo tb e below K (T.setTop g) := q ▸ k
theorem own_w {Z : State} {a0 : Array Value} (hw : ∀ d ∈ tables_1, d.before a0 Z = true) (i : Nat) {d : Jvm.Cond} (h : tables_1[i]? = some d) : d.before a0 Z = true := hw d (List.mem_of_getElem? h)
theorem own_irr (x : Int32) : ¬ x < x := Int32.lt_irrefl
theorem own_stepI (X : Stand p l e R s m args below meth c T locs cells slots) (hx : p.tables.exec = Jvm.exec) {pc : Nat} {Ls : Array Slot} {z : Int32} {rest : List Value} (hret : meth.sig.returnType = some .int) (hd : decode c.code pc = .ok (.ireturn, 1)) {fs : List Frame}
    (hl : ∀ (f : JFrame) (acts : List Action), f.method = m → f.locked = none → f.entered = [] → (doReturn e (T.setTop f) acts (some (.int z))).1 = T.setFrames fs) : Steps p.tables e below (T.setTop (mkF m pc Ls (.int z :: rest))) (T.setFrames fs) := by
  have hm' : T.vm.method? m = some meth := X.method'
  have hn : narrow .int (.int z) = .int z := rfl
  show Steps p.tables e below (T.setTop { method := m, pc := pc, locals := Ls, stack := _ :: rest, locked := none }) _
  jvm_step X.here [X.here.top, hx, hd, hm', hret, hn]
  first | (intro acts; rw [hl _ acts rfl rfl rfl]) | rw [hl _ _ rfl rfl rfl]
  exact Steps.refl _
theorem own_retI (X : Stand p l e R s m args below meth c T locs cells slots) (hx : p.tables.exec = Jvm.exec) (hk : meth.locks = false) (hret : meth.sig.returnType = some .int) {pc : Nat} {Ls : Array Slot} {z : Int32} {rest : List Value} (hd : decode c.code pc = .ok (.ireturn, 1)) (hc : cells ≤ cl) (hs : slots ≤ sl) (hQ : Q (some (.int z)) T.heap locs) :
    OGo p.tables e below (own_Kq s Q cl sl) (T.setTop (mkF m pc Ls (.int z :: rest))) := by
  obtain ⟨fs, hr, hrun, hended, hW, hsame⟩ := X.leave (v := some (.int z)) (fun h => by rw [hret] at h; cases h) hk
  exact ⟨_, _, own_stepI X hx hret hd hr, hrun, hended, _, _, rfl, hQ, ⟨_, rfl⟩, hW, hsame.mono hc hs⟩
theorem own_retN {t : FieldType} (ht : t = .boolean ∨ t = .byte ∨ t = .char ∨ t = .short) (X : Stand p l e R s m args below meth c T locs cells slots) (hx : p.tables.exec = Jvm.exec) (hk : meth.locks = false) (hret : meth.sig.returnType = some t) {pc : Nat} {Ls : Array Slot} {z : Int32} {rest : List Value} (hd : decode c.code pc = .ok (.ireturn, 1)) (hc : cells ≤ cl) (hs : slots ≤ sl) (hQ : Q (some (.int (nar t z))) T.heap locs) :
    OGo p.tables e below (own_Kq s Q cl sl) (T.setTop (mkF m pc Ls (.int z :: rest))) := by
  obtain ⟨fs, hr, hrun, hended, hW, hsame⟩ := X.leave (v := some (.int (nar t z))) (fun h => by rw [hret] at h; cases h) hk
  exact ⟨_, _, retN X hx hret ht hd hr, hrun, hended, _, _, rfl, hQ, ⟨_, rfl⟩, hW, hsame.mono hc hs⟩
theorem own_retL (X : Stand p l e R s m args below meth c T locs cells slots) (hx : p.tables.exec = Jvm.exec) (hk : meth.locks = false) (hret : meth.sig.returnType = some .long) {pc : Nat} {Ls : Array Slot} {z : Int64} (hd : decode c.code pc = .ok (.lreturn, 1)) (hc : cells ≤ cl) (hs : slots ≤ sl) (hQ : Q (some (.long z)) T.heap locs) :
    OGo p.tables e below (own_Kq s Q cl sl) (T.setTop (mkF m pc Ls [.long z])) := by
  obtain ⟨fs, hr, hrun, hended, hW, hsame⟩ := X.leave (v := some (.long z)) (fun h => by rw [hret] at h; cases h) hk
  exact ⟨_, _, X.lreturnOut hx hret hd hr, hrun, hended, _, _, rfl, hQ, ⟨_, rfl⟩, hW, hsame.mono hc hs⟩
theorem own_retA {t : FieldType} (X : Stand p l e R s m args below meth c T locs cells slots) (hx : p.tables.exec = Jvm.exec) (hk : meth.locks = false) (hret : meth.sig.returnType = some t) {pc : Nat} {Ls : Array Slot} {w : Value} (hw : w.isRef = true) (ht : t.isReference = true) (hd : decode c.code pc = .ok (.areturn, 1)) (hc : cells ≤ cl) (hs : slots ≤ sl) (hQ : Q (some w) T.heap locs) :
    OGo p.tables e below (own_Kq s Q cl sl) (T.setTop (mkF m pc Ls [w])) := by
  obtain ⟨fs, hr, hrun, hended, hW, hsame⟩ := X.leave (v := some w) (fun h => by rw [hret] at h; cases h) hk
  exact ⟨_, _, X.areturnOut hx hw hret ht hd hr, hrun, hended, _, _, rfl, hQ, ⟨_, rfl⟩, hW, hsame.mono hc hs⟩
theorem own_retV (X : Stand p l e R s m args below meth c T locs cells slots) (hx : p.tables.exec = Jvm.exec) (hk : meth.locks = false) (hret : meth.sig.returnType = none) {pc : Nat} {Ls : Array Slot} (hd : decode c.code pc = .ok (.return_, 1)) (hc : cells ≤ cl) (hs : slots ≤ sl) (hQ : Q none T.heap locs) :
    OGo p.tables e below (own_Kq s Q cl sl) (T.setTop (mkF m pc Ls [])) := by
  obtain ⟨fs, hr, hrun, hended, hW, hsame⟩ := X.leave (v := none) (fun _ => rfl) hk
  exact ⟨_, _, X.returnOut hx hret hd hr, hrun, hended, _, _, rfl, hQ, ⟨_, rfl⟩, hW, hsame.mono hc hs⟩
end Own
abbrev own_y0 : MethodName := ⟨"com/example/salamander/salamander/IsolationJdbcLevelPinLaw", "pick", "(I)Lcom/example/salamander/salamander/Isolation;"⟩
abbrev own_y1 : MethodName := ⟨"com/example/salamander/salamander/Isolation", "jdbcLevel", "()I"⟩
theorem own_and3 (x : Int32) : x &&& 3 = 0 ∨ x &&& 3 = 1 ∨ x &&& 3 = 2 ∨ x &&& 3 = 3 := by
  have h := c_mask x 3 2 (by decide) (by decide)
  have h' : (x &&& 3).toInt = 0 ∨ (x &&& 3).toInt = 1 ∨ (x &&& 3).toInt = 2 ∨ (x &&& 3).toInt = 3 := by omega
  rcases h' with q | q | q | q
  · exact Or.inl (Int32.toInt_inj.mp q)
  · exact Or.inr (Or.inl (Int32.toInt_inj.mp q))
  · exact Or.inr (Or.inr (Or.inl (Int32.toInt_inj.mp q)))
  · exact Or.inr (Or.inr (Or.inr (Int32.toInt_inj.mp q)))
theorem own_fldint {args : Array Value} {Z : State} {t : Term} {C n d : String} {a : Addr} {k : Int32} (ev : t.eval args Z none [] Z = some (.ref a)) (h : (Jvm.Cond.eq (.field t C n d) (.int k)).value args Z none Z [] = some true) : Fld Z Z.heap a C n d (.int k) := by
  apply Fld.start
  rw [← fld_at (args := args) (first := Z) (o := none) (idx := []) ev]
  obtain ⟨x, y, hx, hy, -, -⟩ := cmp_v (Or.inl h)
  obtain rfl : Value.int k = y := Option.some.inj hy
  rw [hx]
  cases x <;> simp [Jvm.Cond.value, hx, Term.int_eval] at h ⊢
  exact h
theorem d1_0 : decode method_2_code 0 = .ok (.iload_n 0, 1) := by decide +kernel
theorem d1_1 : decode method_2_code 1 = .ok (.ifCond .ne 7, 3) := by decide +kernel
theorem d1_4 : decode method_2_code 4 = .ok (.getstatic 7, 3) := by decide +kernel
theorem d1_7 : decode method_2_code 7 = .ok (.areturn, 1) := by decide +kernel
theorem d1_8 : decode method_2_code 8 = .ok (.iload_n 0, 1) := by decide +kernel
theorem d1_9 : decode method_2_code 9 = .ok (.iconst 1, 1) := by decide +kernel
theorem d1_10 : decode method_2_code 10 = .ok (.if_icmp .ne 7, 3) := by decide +kernel
theorem d1_13 : decode method_2_code 13 = .ok (.getstatic 13, 3) := by decide +kernel
theorem d1_16 : decode method_2_code 16 = .ok (.areturn, 1) := by decide +kernel
theorem d1_17 : decode method_2_code 17 = .ok (.iload_n 0, 1) := by decide +kernel
theorem d1_18 : decode method_2_code 18 = .ok (.iconst 2, 1) := by decide +kernel
theorem d1_19 : decode method_2_code 19 = .ok (.if_icmp .ne 7, 3) := by decide +kernel
theorem d1_22 : decode method_2_code 22 = .ok (.getstatic 16, 3) := by decide +kernel
theorem d1_25 : decode method_2_code 25 = .ok (.areturn, 1) := by decide +kernel
theorem d1_26 : decode method_2_code 26 = .ok (.getstatic 19, 3) := by decide +kernel
theorem d1_29 : decode method_2_code 29 = .ok (.areturn, 1) := by decide +kernel
theorem pn_IsolationJdbcLevelPinLaw : plainName "com/example/salamander/salamander/IsolationJdbcLevelPinLaw" = true := by first | (simp [plainName, overriddenIn]; done) | decide +kernel
theorem ef_rm1 (m : MethodId) (p1 : Int32) : entryFrame m #[(.int p1)] 1 = mkF m 0 #[.val (.int p1)] [] := by first | (simp [entryFrame, mkF, argsToLocals, Value.category]; done) | rfl
def Q_rm1 (Z : State) (p1 : Int32) (w0 : Addr) (w1 : Addr) (w2 : Addr) (w3 : Addr) (h0 : Heap) (n0 : Nat) (v : Option Value) (h : Heap) (L : List Loc) : Prop := ∃ ob : Addr, v = some (.ref ob) ∧ Fr n0 L ∧ h = h0 ∧ Exa Z h0 ob "com/example/salamander/salamander/Isolation" ∧ Fld Z h0 ob "com/example/salamander/salamander/Isolation" "jdbcLevel" "I" (.int ((1 : Int32) <<< (p1 &&& 31)))
set_option maxRecDepth 65536 in
set_option maxHeartbeats 40000000 in
theorem rm1 (l : Launch) (Z : State) (a0 : Array Value) (hw : ∀ d ∈ tables_1, d.before a0 Z = true) (ws : List Jvm.Cond) (p1 : Int32) (w0 : Addr) (w1 : Addr) (w2 : Addr) (w3 : Addr) (h0 : Heap) (n0 : Nat) (Z0 : n0 ≤ h0.size) (S_READ_UNCOMMITTED : Sta Z h0 "com/example/salamander/salamander/Isolation" "READ_UNCOMMITTED" "Lcom/example/salamander/salamander/Isolation;" (.ref w0)) (E_w0 : Exa Z h0 w0 "com/example/salamander/salamander/Isolation") (F_jdbcLevel_w0 : Fld Z h0 w0 "com/example/salamander/salamander/Isolation" "jdbcLevel" "I" (.int (1 : Int32))) (S_READ_COMMITTED : Sta Z h0 "com/example/salamander/salamander/Isolation" "READ_COMMITTED" "Lcom/example/salamander/salamander/Isolation;" (.ref w1)) (E_w1 : Exa Z h0 w1 "com/example/salamander/salamander/Isolation") (F_jdbcLevel_w1 : Fld Z h0 w1 "com/example/salamander/salamander/Isolation" "jdbcLevel" "I" (.int (2 : Int32))) (S_REPEATABLE_READ : Sta Z h0 "com/example/salamander/salamander/Isolation" "REPEATABLE_READ" "Lcom/example/salamander/salamander/Isolation;" (.ref w2)) (E_w2 : Exa Z h0 w2 "com/example/salamander/salamander/Isolation") (F_jdbcLevel_w2 : Fld Z h0 w2 "com/example/salamander/salamander/Isolation" "jdbcLevel" "I" (.int (4 : Int32))) (S_SERIALIZABLE : Sta Z h0 "com/example/salamander/salamander/Isolation" "SERIALIZABLE" "Lcom/example/salamander/salamander/Isolation;" (.ref w3)) (E_w3 : Exa Z h0 w3 "com/example/salamander/salamander/Isolation") (F_jdbcLevel_w3 : Fld Z h0 w3 "com/example/salamander/salamander/Isolation" "jdbcLevel" "I" (.int (8 : Int32))) (hk : p1 = (0 : Int32) ∨ p1 = (1 : Int32) ∨ p1 = (2 : Int32) ∨ p1 = (3 : Int32)) :
    MetFree l own_y0 (head1 (Jvm.Cond.code own_y0 method_2_code 1 (some (.object "com/example/salamander/salamander/Isolation")) :: ws) ({ frames := 0, cells := 0, slots := 0, locals := 0 } : Room)) (fun a U => a = #[(.int p1)] ∧ Z.Warmed39 U.vm ∧ U.heap = h0) (fun _ _ _ _ _ => True) (fun _ U o U' => ∃ v L, o = .returned v ∧ Q_rm1 Z p1 w0 w1 w2 w3 h0 n0 v U'.heap L ∧ FrameEnd U o U' L ({ frames := 0, cells := 0, slots := 0, locals := 0 } : Room).cells ({ frames := 0, cells := 0, slots := 0, locals := 0 } : Room).slots) := by
  refine MetFree.of_bodySF (plainFor_of_name pn_IsolationJdbcLevelPinLaw) hisR ?_
  intro p e s m args below meth c s₁ Bd hml0 hP hK
  obtain ⟨rfl, hZ, hh⟩ := hP
  have hx := Bd.exec
  have hby := Bd.bytes
  have hml : c.maxLocals = 1 := hml0
  have hown : s.vm.findClass "com/example/salamander/salamander/IsolationJdbcLevelPinLaw" = some m.cls := findClass_of_methodNamed Bd.named
  have hnm := (name_of_methodNamed Bd.named Bd.method).1
  have X0 : Stand p l e ({ frames := 0, cells := 0, slots := 0, locals := 0 } : Room) s m #[(.int p1)] below meth c s₁ [] 0 0 := Stand.of_body Bd
  have e0 : s₁.heap = h0 := by rw [← hh, Bd.state]; rfl
  have N0 := Fr.nil n0
  show OGo p.tables e below (own_Kq s (fun v h L => Q_rm1 Z p1 w0 w1 w2 w3 h0 n0 v h L) ({ frames := 0, cells := 0, slots := 0, locals := 0 } : Room).cells ({ frames := 0, cells := 0, slots := 0, locals := 0 } : Room).slots) (s₁.setTop (entryFrame m #[(.int p1)] 1))
  refine OGo.cast (ef_rm1 m p1) ?_
  show OGo _ _ _ _ (s₁.setTop (mkF m 0 #[.val (.int p1)] []))
  refine OGo.via (fun _ k => XS.iloadN X0.here hx rfl (hb hby d1_0) rfl k) ?_
  by_cases hc1_1 : p1 = (0 : Int32)
  · refine OGo.via (fun _ k => XS.ifNo X0.here hx rfl (hb hby d1_1) rfl ((if0 _ _).trans (teq hc1_1).2) k) ?_
    show OGo _ _ _ _ (s₁.setTop (mkF m 4 #[.val (.int p1)] []))
    obtain ⟨T2, X2, e2, st2⟩ := getS2 X0 hx hZ hown (host := "") (Or.inl (own_w hw 4 rfl)) Via.refl e0 S_READ_UNCOMMITTED (g := (mkF m 4 #[.val (.int p1)] [])) rfl (hb hby d1_4)
    refine OGo.via st2 ?_
    show OGo _ _ _ _ (T2.setTop (mkF m 7 #[.val (.int p1)] [(.ref w0)]))
    refine own_retA X2 hx Bd.notSynchronized Bd.returns rfl rfl (hb hby d1_7) (by decide) (by decide) ?_
    show Q_rm1 Z _ _ _ _ _ h0 n0 _ T2.heap _
    exact ⟨w0, rfl, N0, e2, E_w0, (by rw [hc1_1, show ((1 : Int32) <<< ((0 : Int32) &&& 31)) = (1 : Int32) from by decide]; exact F_jdbcLevel_w0)⟩
  · refine OGo.via (fun _ k => XS.ifYes X0.here hx rfl (pc0 := 1) (pc' := 8) rfl (hb hby d1_1) rfl ((if0 _ _).trans (feq hc1_1).2) (by decide) (by decide) k) ?_
    show OGo _ _ _ _ (s₁.setTop (mkF m 8 #[.val (.int p1)] []))
    refine OGo.via (fun _ k => XS.iloadN X0.here hx rfl (hb hby d1_8) rfl (XS.iconst X0.here hx rfl (hb hby d1_9) k)) ?_
    by_cases hc10_3 : p1 = (1 : Int32)
    · refine OGo.via (fun _ k => XS.icmpNo X0.here hx rfl (hb hby d1_10) rfl (teq hc10_3).2 k) ?_
      show OGo _ _ _ _ (s₁.setTop (mkF m 13 #[.val (.int p1)] []))
      obtain ⟨T4, X4, e4, st4⟩ := getS2 X0 hx hZ hown (host := "") (Or.inl (own_w hw 18 rfl)) Via.refl e0 S_READ_COMMITTED (g := (mkF m 13 #[.val (.int p1)] [])) rfl (hb hby d1_13)
      refine OGo.via st4 ?_
      show OGo _ _ _ _ (T4.setTop (mkF m 16 #[.val (.int p1)] [(.ref w1)]))
      refine own_retA X4 hx Bd.notSynchronized Bd.returns rfl rfl (hb hby d1_16) (by decide) (by decide) ?_
      show Q_rm1 Z _ _ _ _ _ h0 n0 _ T4.heap _
      exact ⟨w1, rfl, N0, e4, E_w1, (by rw [hc10_3, show ((1 : Int32) <<< ((1 : Int32) &&& 31)) = (2 : Int32) from by decide]; exact F_jdbcLevel_w1)⟩
    · refine OGo.via (fun _ k => XS.icmpYes X0.here hx rfl (pc0 := 10) (pc' := 17) rfl (hb hby d1_10) rfl (feq hc10_3).2 (by decide) (by decide) k) ?_
      show OGo _ _ _ _ (s₁.setTop (mkF m 17 #[.val (.int p1)] []))
      refine OGo.via (fun _ k => XS.iloadN X0.here hx rfl (hb hby d1_17) rfl (XS.iconst X0.here hx rfl (hb hby d1_18) k)) ?_
      by_cases hc19_5 : p1 = (2 : Int32)
      · refine OGo.via (fun _ k => XS.icmpNo X0.here hx rfl (hb hby d1_19) rfl (teq hc19_5).2 k) ?_
        show OGo _ _ _ _ (s₁.setTop (mkF m 22 #[.val (.int p1)] []))
        obtain ⟨T6, X6, e6, st6⟩ := getS2 X0 hx hZ hown (host := "") (Or.inl (own_w hw 16 rfl)) Via.refl e0 S_REPEATABLE_READ (g := (mkF m 22 #[.val (.int p1)] [])) rfl (hb hby d1_22)
        refine OGo.via st6 ?_
        show OGo _ _ _ _ (T6.setTop (mkF m 25 #[.val (.int p1)] [(.ref w2)]))
        refine own_retA X6 hx Bd.notSynchronized Bd.returns rfl rfl (hb hby d1_25) (by decide) (by decide) ?_
        show Q_rm1 Z _ _ _ _ _ h0 n0 _ T6.heap _
        exact ⟨w2, rfl, N0, e6, E_w2, (by rw [hc19_5, show ((1 : Int32) <<< ((2 : Int32) &&& 31)) = (4 : Int32) from by decide]; exact F_jdbcLevel_w2)⟩
      · refine OGo.via (fun _ k => XS.icmpYes X0.here hx rfl (pc0 := 19) (pc' := 26) rfl (hb hby d1_19) rfl (feq hc19_5).2 (by decide) (by decide) k) ?_
        show OGo _ _ _ _ (s₁.setTop (mkF m 26 #[.val (.int p1)] []))
        obtain ⟨T7, X7, e7, st7⟩ := getS2 X0 hx hZ hown (host := "") (Or.inl (own_w hw 14 rfl)) Via.refl e0 S_SERIALIZABLE (g := (mkF m 26 #[.val (.int p1)] [])) rfl (hb hby d1_26)
        refine OGo.via st7 ?_
        show OGo _ _ _ _ (T7.setTop (mkF m 29 #[.val (.int p1)] [(.ref w3)]))
        have hp3 : p1 = (3 : Int32) := ((hk.resolve_left hc1_1).resolve_left hc10_3).resolve_left hc19_5
        refine own_retA X7 hx Bd.notSynchronized Bd.returns rfl rfl (hb hby d1_29) (by decide) (by decide) ?_
        show Q_rm1 Z _ _ _ _ _ h0 n0 _ T7.heap _
        exact ⟨w3, rfl, N0, e7, E_w3, (by rw [hp3, show ((1 : Int32) <<< ((3 : Int32) &&& 31)) = (8 : Int32) from by decide]; exact F_jdbcLevel_w3)⟩
theorem d2_0 : decode prog_6_method_4_code 0 = .ok (.aload_n 0, 1) := by decide +kernel
theorem d2_1 : decode prog_6_method_4_code 1 = .ok (.getfield 38, 3) := by decide +kernel
theorem d2_4 : decode prog_6_method_4_code 4 = .ok (.iconst (-1), 1) := by decide +kernel
theorem d2_5 : decode prog_6_method_4_code 5 = .ok (.if_icmp .ne 13, 3) := by decide +kernel
theorem d2_18 : decode prog_6_method_4_code 18 = .ok (.aload_n 0, 1) := by decide +kernel
theorem d2_19 : decode prog_6_method_4_code 19 = .ok (.getfield 38, 3) := by decide +kernel
theorem d2_22 : decode prog_6_method_4_code 22 = .ok (.ireturn, 1) := by decide +kernel
theorem pn_Isolation : plainName "com/example/salamander/salamander/Isolation" = true := by first | (simp [plainName, overriddenIn]; done) | decide +kernel
theorem ef_rm2 (m : MethodId) (a1 : Addr) : entryFrame m #[(.ref a1)] 1 = mkF m 0 #[.val (.ref a1)] [] := by first | (simp [entryFrame, mkF, argsToLocals, Value.category]; done) | rfl
def Q_rm2 (Z : State) (a1 : Addr) (w2 : Int32) (h0 : Heap) (n0 : Nat) (v : Option Value) (h : Heap) (L : List Loc) : Prop := v = some (.int w2) ∧ Fr n0 L ∧ h = h0
set_option maxRecDepth 65536 in
set_option maxHeartbeats 40000000 in
theorem rm2 (l : Launch) (Z : State) (a0 : Array Value) (hw : ∀ d ∈ tables_1, d.before a0 Z = true) (ws : List Jvm.Cond) (a1 : Addr) (w2 : Int32) (h0 : Heap) (n0 : Nat) (Z0 : n0 ≤ h0.size) (F_jdbcLevel_a1 : Fld Z h0 a1 "com/example/salamander/salamander/Isolation" "jdbcLevel" "I" (.int w2)) (hne : ¬ (w2 = (-1 : Int32))) :
    MetFree l own_y1 (head1 (Jvm.Cond.code own_y1 prog_6_method_4_code 1 (some .int) :: ws) ({ frames := 0, cells := 0, slots := 0, locals := 0 } : Room)) (fun a U => a = #[(.ref a1)] ∧ Z.Warmed39 U.vm ∧ U.heap = h0) (fun _ _ _ _ _ => True) (fun _ U o U' => ∃ v L, o = .returned v ∧ Q_rm2 Z a1 w2 h0 n0 v U'.heap L ∧ FrameEnd U o U' L ({ frames := 0, cells := 0, slots := 0, locals := 0 } : Room).cells ({ frames := 0, cells := 0, slots := 0, locals := 0 } : Room).slots) := by
  refine MetFree.of_bodySF (plainFor_of_name pn_Isolation) hisR ?_
  intro p e s m args below meth c s₁ Bd hml0 hP hK
  obtain ⟨rfl, hZ, hh⟩ := hP
  have hx := Bd.exec
  have hby := Bd.bytes
  have hml : c.maxLocals = 1 := hml0
  have hown : s.vm.findClass "com/example/salamander/salamander/Isolation" = some m.cls := findClass_of_methodNamed Bd.named
  have hnm := (name_of_methodNamed Bd.named Bd.method).1
  have X0 : Stand p l e ({ frames := 0, cells := 0, slots := 0, locals := 0 } : Room) s m #[(.ref a1)] below meth c s₁ [] 0 0 := Stand.of_body Bd
  have e0 : s₁.heap = h0 := by rw [← hh, Bd.state]; rfl
  have N0 := Fr.nil n0
  show OGo p.tables e below (own_Kq s (fun v h L => Q_rm2 Z a1 w2 h0 n0 v h L) ({ frames := 0, cells := 0, slots := 0, locals := 0 } : Room).cells ({ frames := 0, cells := 0, slots := 0, locals := 0 } : Room).slots) (s₁.setTop (entryFrame m #[(.ref a1)] 1))
  refine OGo.cast (ef_rm2 m a1) ?_
  show OGo _ _ _ _ (s₁.setTop (mkF m 0 #[.val (.ref a1)] []))
  refine OGo.via (fun _ k => XS.aloadN X0.here hx rfl (hb hby d2_0) rfl rfl k) ?_
  obtain ⟨T1, X1, e1, st1⟩ := getF X0 hx hZ hown (host := "") (Or.inl (own_w hw 12 rfl)) Via.refl e0 F_jdbcLevel_a1 (g := (mkF m 1 #[.val (.ref a1)] [(.ref a1)])) rfl rfl (hb hby d2_1)
  refine OGo.via st1 ?_
  show OGo _ _ _ _ (T1.setTop (mkF m 4 #[.val (.ref a1)] [(.int w2)]))
  refine OGo.via (fun _ k => XS.iconst X1.here hx rfl (hb hby d2_4) k) ?_
  refine OGo.via (fun _ k => XS.icmpYes X1.here hx rfl (pc0 := 5) (pc' := 18) rfl (hb hby d2_5) rfl (feq hne).2 (by decide) (by decide) k) ?_
  show OGo _ _ _ _ (T1.setTop (mkF m 18 #[.val (.ref a1)] []))
  refine OGo.via (fun _ k => XS.aloadN X1.here hx rfl (hb hby d2_18) rfl rfl k) ?_
  obtain ⟨T2, X2, e2, st2⟩ := getF X1 hx hZ hown (host := "") (Or.inl (own_w hw 12 rfl)) Via.refl e1 F_jdbcLevel_a1 (g := (mkF m 19 #[.val (.ref a1)] [(.ref a1)])) rfl rfl (hb hby d2_19)
  refine OGo.via st2 ?_
  show OGo _ _ _ _ (T2.setTop (mkF m 22 #[.val (.ref a1)] [(.int w2)]))
  refine own_retI X2 hx Bd.notSynchronized Bd.returns (hb hby d2_22) (by decide) (by decide) ?_
  show Q_rm2 Z _ _ h0 n0 _ T2.heap _
  exact ⟨rfl, N0, e2⟩
theorem own_shne (x : Int32) : ¬ ((1 : Int32) <<< ((x &&& 3) &&& 31) = (-1 : Int32)) := by
  rcases own_and3 x with h | h | h | h <;> rw [h] <;> decide
theorem pd_0 : parseMethodDescriptor "(I)Lcom/example/salamander/salamander/Isolation;" = some ⟨[.int], some (.object "com/example/salamander/salamander/Isolation")⟩ := by decide +kernel
theorem pd_1 : parseMethodDescriptor "()I" = some ⟨[], some .int⟩ := by decide +kernel
theorem ef_rm0 (m : MethodId) (p1 : Int32) : entryFrame m #[(.int p1)] maxLocals = mkF m 0 #[.val (.int p1), .unset, .unset, .unset] [] := by first | (simp [entryFrame, mkF, argsToLocals, Value.category, maxLocals]; done) | rfl
def Q_rm0 (Z : State) (p1 : Int32) (w0 : Addr) (w1 : Addr) (w2 : Addr) (w3 : Addr) (h0 : Heap) (n0 : Nat) (v : Option Value) (h : Heap) (L : List Loc) : Prop := v = some (.int (1 : Int32)) ∧ Fr n0 L
set_option maxRecDepth 65536 in
set_option maxHeartbeats 40000000 in
theorem rm0 (l : Launch) (Z : State) (a0 : Array Value) (hw : ∀ d ∈ tables_1, d.before a0 Z = true) (ws : List Jvm.Cond) (p1 : Int32) (w0 : Addr) (w1 : Addr) (w2 : Addr) (w3 : Addr) (h0 : Heap) (n0 : Nat) (Z0 : n0 ≤ h0.size) (S_READ_UNCOMMITTED : Sta Z h0 "com/example/salamander/salamander/Isolation" "READ_UNCOMMITTED" "Lcom/example/salamander/salamander/Isolation;" (.ref w0)) (E_w0 : Exa Z h0 w0 "com/example/salamander/salamander/Isolation") (F_jdbcLevel_w0 : Fld Z h0 w0 "com/example/salamander/salamander/Isolation" "jdbcLevel" "I" (.int (1 : Int32))) (S_READ_COMMITTED : Sta Z h0 "com/example/salamander/salamander/Isolation" "READ_COMMITTED" "Lcom/example/salamander/salamander/Isolation;" (.ref w1)) (E_w1 : Exa Z h0 w1 "com/example/salamander/salamander/Isolation") (F_jdbcLevel_w1 : Fld Z h0 w1 "com/example/salamander/salamander/Isolation" "jdbcLevel" "I" (.int (2 : Int32))) (S_REPEATABLE_READ : Sta Z h0 "com/example/salamander/salamander/Isolation" "REPEATABLE_READ" "Lcom/example/salamander/salamander/Isolation;" (.ref w2)) (E_w2 : Exa Z h0 w2 "com/example/salamander/salamander/Isolation") (F_jdbcLevel_w2 : Fld Z h0 w2 "com/example/salamander/salamander/Isolation" "jdbcLevel" "I" (.int (4 : Int32))) (S_SERIALIZABLE : Sta Z h0 "com/example/salamander/salamander/Isolation" "SERIALIZABLE" "Lcom/example/salamander/salamander/Isolation;" (.ref w3)) (E_w3 : Exa Z h0 w3 "com/example/salamander/salamander/Isolation") (F_jdbcLevel_w3 : Fld Z h0 w3 "com/example/salamander/salamander/Isolation" "jdbcLevel" "I" (.int (8 : Int32))) :
    MetFree l x (head1 (Jvm.Cond.code x code maxLocals ret :: ws) room_1) (fun a U => a = #[(.int p1)] ∧ Z.Warmed39 U.vm ∧ U.heap = h0) (fun _ _ _ _ _ => True) (fun _ U o U' => ∃ v L, o = .returned v ∧ Q_rm0 Z p1 w0 w1 w2 w3 h0 n0 v U'.heap L ∧ FrameEnd U o U' L room_1.cells room_1.slots) := by
  refine MetFree.of_bodySF (plainFor_of_name pn_IsolationJdbcLevelPinLaw) hisR ?_
  intro p e s m args below meth c s₁ Bd hml0 hP hK
  obtain ⟨rfl, hZ, hh⟩ := hP
  have hx := Bd.exec
  have hby := Bd.bytes
  have hml : c.maxLocals = 4 := hml0
  have hown : s.vm.findClass "com/example/salamander/salamander/IsolationJdbcLevelPinLaw" = some m.cls := findClass_of_methodNamed Bd.named
  have hnm := (name_of_methodNamed Bd.named Bd.method).1
  have X0 : Stand p l e room_1 s m #[(.int p1)] below meth c s₁ [] 0 0 := Stand.of_body Bd
  have e0 : s₁.heap = h0 := by rw [← hh, Bd.state]; rfl
  have N0 := Fr.nil n0
  show OGo p.tables e below (own_Kq s (fun v h L => Q_rm0 Z p1 w0 w1 w2 w3 h0 n0 v h L) room_1.cells room_1.slots) (s₁.setTop (entryFrame m #[(.int p1)] maxLocals))
  refine OGo.cast (ef_rm0 m p1) ?_
  show OGo _ _ _ _ (s₁.setTop (mkF m 0 #[.val (.int p1), .unset, .unset, .unset] []))
  refine OGo.via (fun _ k => XS.iloadN X0.here hx rfl (hb hby at_0) rfl (XS.iconst X0.here hx rfl (hb hby at_1) (XS.iand X0.here hx rfl (hb hby at_2) rfl (XS.istoreN X0.here hx rfl (hb hby at_3) rfl (l' := #[.val (.int p1), .val (.int (p1 &&& (3 : Int32))), .unset, .unset]) rfl (XS.iloadN X0.here hx rfl (hb hby at_4) rfl k))))) ?_
  obtain ⟨_, _, ⟨T1, L1, k1, n1⟩, -, X1, ⟨Lc1, hQ1, l1, y1, z1⟩, st1⟩ := Jvm.LawKit.callS X0 hx (y := own_y0) hown (mvT hZ (own_w hw 0 rfl)) (mvT hZ (own_w hw 1 rfl)) (mvT hZ (own_w hw 2 rfl)) (mvT hZ (own_w hw 3 rfl)) (by decide) (backOf (W := 0) (rm1 l Z a0 hw [] (p1 &&& (3 : Int32)) w0 w1 w2 w3 h0 n0 Z0 S_READ_UNCOMMITTED E_w0 F_jdbcLevel_w0 S_READ_COMMITTED E_w1 F_jdbcLevel_w1 S_REPEATABLE_READ E_w2 F_jdbcLevel_w2 S_SERIALIZABLE E_w3 F_jdbcLevel_w3 (own_and3 p1)) hZ (own_w hw 3 rfl) (own_w hw 2 rfl) (by decide) (by decide)) (g := (mkF m 5 #[.val (.int p1), .val (.int (p1 &&& (3 : Int32))), .unset, .unset] [(.int (p1 &&& (3 : Int32)))])) rfl (by rw [hml]; rfl) (argsL := [(.int (p1 &&& (3 : Int32)))]) (rest := []) (lenOf pd_0 rfl) rfl (by show 2 * 0 + _ ≤ _; exact Nat.le_of_eq rfl) (hb hby at_5) (fun _ _ => ⟨rfl, e0, (by decide : 0 + 0 ≤ _), (by decide : 0 + 0 ≤ _)⟩)
  dsimp only [Pt.U, Pt.locs, Pt.cells, Pt.slots] at X1 l1 y1 z1 st1 hQ1
  subst l1 y1 z1
  obtain ⟨ob, rfl, N1q, r1_0, r1_1, r1_2⟩ := hQ1
  have N1 := Fr.app N0 N1q
  refine OGo.via st1 ?_
  show OGo _ _ _ _ (T1.setTop (mkF m 8 #[.val (.int p1), .val (.int (p1 &&& (3 : Int32))), .unset, .unset] [(.ref ob)]))
  refine OGo.via (fun _ k => XS.astoreN X1.here hx rfl (hb hby at_8) rfl rfl (l' := #[.val (.int p1), .val (.int (p1 &&& (3 : Int32))), .val (.ref ob), .unset]) rfl (XS.iconst X1.here hx rfl (hb hby at_9) (XS.iloadN X1.here hx rfl (hb hby at_10) rfl (XS.ishl X1.here hx rfl (hb hby at_11) rfl (XS.istoreN X1.here hx rfl (hb hby at_12) rfl (l' := #[.val (.int p1), .val (.int (p1 &&& (3 : Int32))), .val (.ref ob), .val (.int ((1 : Int32) <<< ((p1 &&& (3 : Int32)) &&& 31)))]) rfl (XS.aloadN X1.here hx rfl (hb hby at_13) rfl rfl k)))))) ?_
  obtain ⟨cq2, kq2, q2a, q2b, q2c⟩ := isOf hZ r1_0 r1_1
  obtain ⟨_, _, ⟨T2, L2, k2, n2⟩, -, X2, ⟨Lc2, hQ2, l2, y2, z2⟩, st2⟩ := X1.virtualBack hx (y := own_y1) (z := own_y1) hown (mvT hZ (own_w hw 7 rfl)) (mvT hZ (own_w hw 8 rfl)) (notFace_of_selects (args := #[]) (mvT hZ (own_w hw 10 rfl))) (mvT hZ (own_w hw 10 rfl)) (mvT hZ (own_w hw 9 rfl)) (by decide) (backOf (W := 0) (rm2 l Z a0 hw [] ob ((1 : Int32) <<< ((p1 &&& (3 : Int32)) &&& 31)) h0 n0 Z0 r1_2 (own_shne p1)) hZ (own_w hw 11 rfl) (own_w hw 5 rfl) (by decide) (by decide)) q2a q2c (g := (mkF m 14 #[.val (.int p1), .val (.int (p1 &&& (3 : Int32))), .val (.ref ob), .val (.int ((1 : Int32) <<< ((p1 &&& (3 : Int32)) &&& 31)))] [(.ref ob)])) rfl (by rw [hml]; rfl) (Steps.refl _) (argsL := []) (rest := []) (lenOf pd_1 rfl) rfl (by show 2 * 0 + _ ≤ _; exact Nat.le_of_eq rfl) (hb hby at_14) (fun _ _ => ⟨rfl, r1_0, (by decide : 0 + 0 ≤ _), (by decide : 0 + 0 ≤ _)⟩)
  dsimp only [Pt.U, Pt.locs, Pt.cells, Pt.slots] at X2 l2 y2 z2 st2 hQ2
  subst l2 y2 z2
  obtain ⟨rfl, N2q, r2_0⟩ := hQ2
  have N2 := Fr.app N1 N2q
  refine OGo.via (fun _ k => st2.trans k) ?_
  show OGo _ _ _ _ (T2.setTop (mkF m 17 #[.val (.int p1), .val (.int (p1 &&& (3 : Int32))), .val (.ref ob), .val (.int ((1 : Int32) <<< ((p1 &&& (3 : Int32)) &&& 31)))] [(.int ((1 : Int32) <<< ((p1 &&& (3 : Int32)) &&& 31)))]))
  refine OGo.via (fun _ k => XS.iloadN X2.here hx rfl (hb hby at_17) rfl k) ?_
  refine OGo.via (fun _ k => XS.icmpNo X2.here hx rfl (hb hby at_18) rfl (teq (rfl : ((1 : Int32) <<< ((p1 &&& (3 : Int32)) &&& 31)) = ((1 : Int32) <<< ((p1 &&& (3 : Int32)) &&& 31)))).2 k) ?_
  show OGo _ _ _ _ (T2.setTop (mkF m 21 #[.val (.int p1), .val (.int (p1 &&& (3 : Int32))), .val (.ref ob), .val (.int ((1 : Int32) <<< ((p1 &&& (3 : Int32)) &&& 31)))] []))
  refine OGo.via (fun _ k => XS.iconst X2.here hx rfl (hb hby at_21) (XS.goto X2.here hx rfl (pc0 := 22) (pc' := 26) rfl (hb hby at_22) (by decide) (by decide) k)) ?_
  refine own_retN (t := .boolean) (by simp) X2 hx Bd.notSynchronized Bd.returns (hb hby at_26) (by decide) (by decide) ?_
  show Q_rm0 Z _ _ _ _ _ h0 n0 _ T2.heap _
  rw [r2_0]
  exact ⟨rfl, N2⟩
set_option maxRecDepth 65536 in
set_option maxHeartbeats 40000000 in
theorem comes_1 {Post : Tables → Env → Array Value → State → Outcome → State → Prop} (hpost : ∀ tb e args s v u, (limb_1_1.after args s (.returned v) u = true ∧ limb_1_2.after args s (.returned v) u = true ∧ True) → FrameEnd s (.returned v) u (Jvm.fieldLocs frame_1_writes args s ++ Jvm.arrayLocs frame_1_arrays args s ++ Jvm.staticLocs frame_1_statics s) 0 0 → Post tb e args s (.returned v) u) :
    ArmFor flags0 classFile x code maxLocals ret World_1 tables_1 room_1 Calls_1 rest_1 Pre_1 Post := by
  intro l hfl _ _ p e ha hc hk s m args below hf hA hF happ hP
  obtain ⟨hcalls, hrest, hpre⟩ := hP
  obtain ⟨-, -, -, hnamed, -, -, -, hat⟩ := (Spec.applies_iff hf).mp happ
  obtain ⟨hg, hn⟩ := and_e (Cond.before_iff.mp (show (Jvm.Cond.and given_1 narrow_1).before args s = true from hpre))
  obtain ⟨gc, gv0⟩ := and_e hg
  have ga0 := gv0
  obtain ⟨w0, rfl⟩ : ∃ w0 : Value, args = #[w0] := by
    have hs : args.size = 1 := by simpa [Cond.value, given_1] using gc
    obtain ⟨L⟩ := args
    match L, hs with
    | [w0], _ => exact ⟨w0, rfl⟩
  have hw := fun d (hd : d ∈ tables_1) => atoms_spec (ws := Jvm.Cond.code x code maxLocals ret :: tables_1) hat d (List.mem_cons_of_mem _ hd)
  have hfit : Fit s := fun {y c} hc i hi => by
    obtain ⟨ha, rfl⟩ := Array.getElem?_eq_some_iff.mp hc
    have q := List.all_eq_true.mp ((Array.all_eq_true_iff_forall_mem.mp hF) _ (Array.getElem_mem ha)) i (List.mem_range.mpr hi)
    simpa [Array.getElem?_eq_getElem hi] using q
  obtain ⟨i0, ei0⟩ := is_v ga0
  obtain rfl : w0 = (.int i0) := Option.some.inj ei0
  obtain ⟨nx0, nr0⟩ := and_e hn
  obtain ⟨nf0, nn0⟩ := and_e nr0
  obtain ⟨u0, ev0⟩ := exa_v nx0
  obtain ⟨nx1, nr1⟩ := and_e nn0
  obtain ⟨nf1, nn1⟩ := and_e nr1
  obtain ⟨u1, ev1⟩ := exa_v nx1
  obtain ⟨nx2, nr2⟩ := and_e nn1
  obtain ⟨nf2, nn2⟩ := and_e nr2
  obtain ⟨u2, ev2⟩ := exa_v nx2
  obtain ⟨nx3, nr3⟩ := and_e nn2
  have nf3 := nr3
  obtain ⟨u3, ev3⟩ := exa_v nx3
  obtain ⟨n, o, h1, h2, h3, _, L, rfl, ⟨rfl, N⟩, hq⟩ := rm0 l s _ hw tables_1 i0 u0 u3 u2 u1 s.heap s.heap.size (Nat.le_refl _) (Sta.start ev0 (Or.inr ⟨(own_w hw 5 rfl), (own_w hw 6 rfl)⟩)) (Exa.start ev0 nx0) (own_fldint ev0 nf0) (Sta.start ev3 (Or.inr ⟨(own_w hw 5 rfl), (own_w hw 19 rfl)⟩)) (Exa.start ev3 nx3) (own_fldint ev3 nf3) (Sta.start ev2 (Or.inr ⟨(own_w hw 5 rfl), (own_w hw 17 rfl)⟩)) (Exa.start ev2 nx2) (own_fldint ev2 nf2) (Sta.start ev1 (Or.inr ⟨(own_w hw 5 rfl), (own_w hw 15 rfl)⟩)) (Exa.start ev1 nx1) (own_fldint ev1 nf1) p e ha hc hk s m _ below hf ((Spec.applies_iff_loose hf).mp happ).1 ⟨rfl, State.Warmed39.refl s, rfl⟩ trivial
  refine ⟨n, _, h1, h2, h3, hpost _ _ _ _ _ _ ⟨Cond.after_iff.mpr rfl, Cond.after_iff.mpr (eq_i res_at (Term.int_eval (1)) rfl), trivial⟩ ⟨hq.1, hq.2.1, (hq.2.2.sift fun y hy => Or.inr (N y hy)).mono (by decide) (by decide)⟩⟩
theorem main_1_1 : Claimed_1_1 := comes_1 fun _ _ _ _ _ _ h hF => ⟨h.1, hF⟩
theorem main_1_2 : Claimed_1_2 := comes_1 fun _ _ _ _ _ _ h hF => ⟨h.2.1, hF⟩
end Jvm.Pilot.@@N@@
namespace Jvm.Pilot.@@N@@
open Jvm Jvm.ClassFile Sem Op Lib Jvm.Free Jvm.Stand Jvm.Pilot.@@N@@.Jvm.D
/-! MADE BY PROGRAM (witnessworld.py) out of the Statement's table words and the real class files: 12 classes; the members and pool entries that the words name. The judged class is class 1, her method 2. -/
namespace start1
open Jvm.ClassFile
def u (s : String) : CpInfo := .utf8 (stringToUtf16 s)
/-- a pool by its gaps: so many unusable entries, then the entry; so many at the end -/
def gap : Nat → List CpInfo → List CpInfo
  | 0, r => r
  | n + 1, r => .unusable :: gap n r
def poolList (es : List (Nat × CpInfo)) (last : Nat) : List CpInfo := es.foldr (fun e r => gap e.1 (e.2 :: r)) (gap last [])
def pool (es : List (Nat × CpInfo)) (last : Nat) : Array CpInfo := ⟨poolList es last⟩
def fileOf (pool : Array CpInfo) (this : Nat) (attrs : Array Attribute := #[]) (ms : Array MethodInfo := #[]) (fl : Nat := 33) (sup : Nat := 0) (ifs : Array Nat := #[]) (fds : Array FieldInfo := #[]) : ClassFile where
  minorVersion := 0
  majorVersion := 65
  constantPool := pool
  accessFlags := fl
  thisClass := this
  superClass := sup
  interfaces := ifs
  fields := fds
  methods := ms
  attributes := attrs
def plain (name : String) (sup : Option ClassId) : Class where
  name := name
  kind := .ordinary
  loader := none
  accessFlags := 33
  super := sup
  interfaces := #[]
  cf := none
  fields := #[]
  methods := #[]
  instanceTypes := #[]
  staticTypes := #[]
  resolved := #[]
  callSites := []
  init := .initialized
  statics := none
  mirror := none

def pool0 : Array CpInfo := pool [(5, u "<init>"), (0, u "()V"), (1, .class_ 10), (1, u "java/lang/Object")] 113

def k0m0 : Method := { name := "<init>", desc := "()V", sig := { parameters := [], returnType := none }, accessFlags := 1, code := none }
/-- java/lang/Object -/
def k0 : Class := { plain "java/lang/Object" none with
  accessFlags := 33
  interfaces := #[]
  cf := some (fileOf pool0 8 #[] #[{ accessFlags := 1, nameIndex := 5, descriptorIndex := 6, attributes := #[] }] 33 0 #[] #[])
  fields := #[]
  methods := #[k0m0]
  instanceTypes := #[]
  staticTypes := #[]
  resolved := Array.replicate 124 none
  statics := none }

def pool1 : Array CpInfo := pool [(2, .class_ 4), (1, u "java/lang/Object"), (0, u "<init>"), (0, u "()V"), (0, .fieldref 8 9), (0, .class_ 10), (0, .nameAndType 11 12), (0, u "com/example/salamander/salamander/Isolation"), (0, u "READ_UNCOMMITTED"), (0, u "Lcom/example/salamander/salamander/Isolation;"), (0, .fieldref 8 14), (0, .nameAndType 15 12), (0, u "READ_COMMITTED"), (0, .fieldref 8 17), (0, .nameAndType 18 12), (0, u "REPEATABLE_READ"), (0, .fieldref 8 20), (0, .nameAndType 21 12), (0, u "SERIALIZABLE"), (0, .methodref 23 24), (0, .class_ 25), (0, .nameAndType 26 27), (0, u "com/example/salamander/salamander/IsolationJdbcLevelPinLaw"), (0, u "pick"), (0, u "(I)Lcom/example/salamander/salamander/Isolation;"), (0, .methodref 8 29), (0, .nameAndType 30 31), (0, u "jdbcLevel"), (0, u "()I"), (3, u "law"), (0, u "(I)Z")] 2

def k1m0 : Method := { name := "<init>", desc := "()V", sig := { parameters := [], returnType := none }, accessFlags := 2, code := none }
def k1c1 : Code := { maxStack := 2, maxLocals := 1, code := method_2_code, exceptionTable := #[], attributes := #[] }
def k1m1 : Method := { name := "pick", desc := "(I)Lcom/example/salamander/salamander/Isolation;", sig := { parameters := [.int], returnType := some (.object "com/example/salamander/salamander/Isolation") }, accessFlags := 10, code := some k1c1 }
def k1c2 : Code := { maxStack := 2, maxLocals := 4, code := code, exceptionTable := #[], attributes := #[] }
def k1m2 : Method := { name := "law", desc := "(I)Z", sig := { parameters := [.int], returnType := some .boolean }, accessFlags := 9, code := some k1c2 }
/-- com/example/salamander/salamander/IsolationJdbcLevelPinLaw -/
def k1 : Class := { plain "com/example/salamander/salamander/IsolationJdbcLevelPinLaw" (some 0) with
  accessFlags := 49
  interfaces := #[]
  cf := some (fileOf pool1 23 #[] #[{ accessFlags := 2, nameIndex := 5, descriptorIndex := 6, attributes := #[] }, { accessFlags := 10, nameIndex := 26, descriptorIndex := 27, attributes := #[] }, { accessFlags := 9, nameIndex := 35, descriptorIndex := 36, attributes := #[] }] 49 2 #[] #[])
  fields := #[]
  methods := #[k1m0, k1m1, k1m2]
  instanceTypes := #[]
  staticTypes := #[]
  resolved := Array.replicate 39 none
  statics := none }

def pool2 : Array CpInfo := pool [(1, .class_ 2), (0, u "java/lang/constant/Constable"), (0, .class_ 4), (0, u "java/lang/Object")] 6

/-- java/lang/constant/Constable -/
def k2 : Class := { plain "java/lang/constant/Constable" (some 0) with
  accessFlags := 1537
  interfaces := #[]
  cf := some (fileOf pool2 1 #[] #[] 1537 3 #[] #[])
  fields := #[]
  methods := #[]
  instanceTypes := #[]
  staticTypes := #[]
  resolved := Array.replicate 11 none
  statics := none }

def pool3 : Array CpInfo := pool [(1, .class_ 2), (0, u "java/lang/Comparable"), (0, .class_ 4), (0, u "java/lang/Object")] 7

/-- java/lang/Comparable -/
def k3 : Class := { plain "java/lang/Comparable" (some 0) with
  accessFlags := 1537
  interfaces := #[]
  cf := some (fileOf pool3 1 #[] #[] 1537 3 #[] #[])
  fields := #[]
  methods := #[]
  instanceTypes := #[]
  staticTypes := #[]
  resolved := Array.replicate 12 none
  statics := none }

def pool4 : Array CpInfo := pool [(1, .class_ 2), (0, u "java/io/Serializable"), (0, .class_ 4), (0, u "java/lang/Object")] 2

/-- java/io/Serializable -/
def k4 : Class := { plain "java/io/Serializable" (some 0) with
  accessFlags := 1537
  interfaces := #[]
  cf := some (fileOf pool4 1 #[] #[] 1537 3 #[] #[])
  fields := #[]
  methods := #[]
  instanceTypes := #[]
  staticTypes := #[]
  resolved := Array.replicate 7 none
  statics := none }

def pool5 : Array CpInfo := pool [(2, .class_ 4), (1, u "java/lang/Enum"), (0, u "name"), (0, u "Ljava/lang/String;"), (2, u "ordinal"), (0, u "I"), (1, .class_ 14), (1, u "java/lang/Object"), (4, u "hash"), (86, .class_ 108), (1, u "java/lang/Enum$EnumDesc"), (2, .class_ 112), (0, u "java/lang/constant/Constable"), (0, .class_ 114), (0, u "java/lang/Comparable"), (0, .class_ 116), (0, u "java/io/Serializable")] 87

/-- java/lang/Enum -/
def k5 : Class := { plain "java/lang/Enum" (some 0) with
  accessFlags := 1057
  interfaces := #[2, 3, 4]
  cf := some (fileOf pool5 2 #[.nestMembers #[106]] #[] 1057 12 #[111, 113, 115] #[{ accessFlags := 18, nameIndex := 5, descriptorIndex := 6, attributes := #[] }, { accessFlags := 18, nameIndex := 9, descriptorIndex := 10, attributes := #[] }, { accessFlags := 2, nameIndex := 19, descriptorIndex := 10, attributes := #[] }])
  fields := #[{ name := "name", type := (.object "java/lang/String"), accessFlags := 18, slot := 0, constantValue := 0 }, { name := "ordinal", type := .int, accessFlags := 18, slot := 1, constantValue := 0 }, { name := "hash", type := .int, accessFlags := 2, slot := 2, constantValue := 0 }]
  methods := #[]
  instanceTypes := #[(.object "java/lang/String"), .int, .int]
  staticTypes := #[]
  resolved := Array.replicate 204 none
  statics := none }

def pool6 : Array CpInfo := pool [(1, .class_ 2), (0, u "com/example/salamander/salamander/Isolation"), (2, u "DEFAULT"), (0, u "Lcom/example/salamander/salamander/Isolation;"), (2, u "READ_UNCOMMITTED"), (2, u "READ_COMMITTED"), (2, u "REPEATABLE_READ"), (2, u "SERIALIZABLE"), (2, u "$VALUES"), (0, u "[Lcom/example/salamander/salamander/Isolation;"), (6, .class_ 31), (1, u "java/lang/Enum"), (6, .fieldref 1 39), (0, .nameAndType 40 41), (0, u "jdbcLevel"), (0, u "I"), (19, u "NO_JDBC_LEVEL"), (9, u "()I")] 6

def k6c0 : Code := { maxStack := 3, maxLocals := 1, code := prog_6_method_4_code, exceptionTable := #[], attributes := #[] }
def k6m0 : Method := { name := "jdbcLevel", desc := "()I", sig := { parameters := [], returnType := some .int }, accessFlags := 1, code := some k6c0 }
/-- com/example/salamander/salamander/Isolation -/
def k6 : Class := { plain "com/example/salamander/salamander/Isolation" (some 5) with
  accessFlags := 16433
  interfaces := #[]
  cf := some (fileOf pool6 1 #[] #[{ accessFlags := 1, nameIndex := 40, descriptorIndex := 71, attributes := #[] }] 16433 29 #[] #[{ accessFlags := 16409, nameIndex := 5, descriptorIndex := 6, attributes := #[] }, { accessFlags := 16409, nameIndex := 9, descriptorIndex := 6, attributes := #[] }, { accessFlags := 16409, nameIndex := 12, descriptorIndex := 6, attributes := #[] }, { accessFlags := 16409, nameIndex := 15, descriptorIndex := 6, attributes := #[] }, { accessFlags := 16409, nameIndex := 18, descriptorIndex := 6, attributes := #[] }, { accessFlags := 26, nameIndex := 61, descriptorIndex := 41, attributes := #[] }, { accessFlags := 18, nameIndex := 40, descriptorIndex := 41, attributes := #[] }, { accessFlags := 4122, nameIndex := 21, descriptorIndex := 22, attributes := #[] }])
  fields := #[{ name := "DEFAULT", type := (.object "com/example/salamander/salamander/Isolation"), accessFlags := 16409, slot := 0, constantValue := 0 }, { name := "READ_UNCOMMITTED", type := (.object "com/example/salamander/salamander/Isolation"), accessFlags := 16409, slot := 1, constantValue := 0 }, { name := "READ_COMMITTED", type := (.object "com/example/salamander/salamander/Isolation"), accessFlags := 16409, slot := 2, constantValue := 0 }, { name := "REPEATABLE_READ", type := (.object "com/example/salamander/salamander/Isolation"), accessFlags := 16409, slot := 3, constantValue := 0 }, { name := "SERIALIZABLE", type := (.object "com/example/salamander/salamander/Isolation"), accessFlags := 16409, slot := 4, constantValue := 0 }, { name := "NO_JDBC_LEVEL", type := .int, accessFlags := 26, slot := 5, constantValue := 0 }, { name := "jdbcLevel", type := .int, accessFlags := 18, slot := 3, constantValue := 0 }, { name := "$VALUES", type := (.array (.object "com/example/salamander/salamander/Isolation")), accessFlags := 4122, slot := 6, constantValue := 0 }]
  methods := #[k6m0]
  instanceTypes := #[(.object "java/lang/String"), .int, .int, .int]
  staticTypes := #[(.object "com/example/salamander/salamander/Isolation"), (.object "com/example/salamander/salamander/Isolation"), (.object "com/example/salamander/salamander/Isolation"), (.object "com/example/salamander/salamander/Isolation"), (.object "com/example/salamander/salamander/Isolation"), .int, (.array (.object "com/example/salamander/salamander/Isolation"))]
  resolved := Array.replicate 78 none
  statics := some 0 }

def pool7 : Array CpInfo := pool [(1, u "java/lang/Cloneable"), (0, .class_ 1), (0, u "java/lang/Object"), (0, .class_ 3)] 3

/-- java/lang/Cloneable -/
def k7 : Class := { plain "java/lang/Cloneable" (some 0) with
  accessFlags := 1537
  interfaces := #[]
  cf := some (fileOf pool7 2 #[] #[] 1537 4 #[] #[])
  fields := #[]
  methods := #[]
  instanceTypes := #[]
  staticTypes := #[]
  resolved := Array.replicate 8 none
  statics := none }

/-- the primitive byte -/
def k8 : Class := { plain "byte" none with kind := .primitive 'B', accessFlags := 0x411 }
/-- [B -/
def k9 : Class := { plain "[B" (some 0) with kind := .array 8 .byte, interfaces := #[7, 4], accessFlags := 1041 }

/-- the primitive int -/
def k10 : Class := { plain "int" none with kind := .primitive 'I', accessFlags := 0x411 }
/-- [I -/
def k11 : Class := { plain "[I" (some 0) with kind := .array 10 .int, interfaces := #[7, 4], accessFlags := 1041 }

def heap : Heap := #[{ cls := 6, slots := #[.null, .ref 1, .ref 2, .ref 3, .ref 4, .int 0, .null], vm := .statics 6 },
  { cls := 6, slots := #[.null, .int 1, .int 0, .int 1], vm := .none },
  { cls := 6, slots := #[.null, .int 2, .int 0, .int 2], vm := .none },
  { cls := 6, slots := #[.null, .int 3, .int 0, .int 4], vm := .none },
  { cls := 6, slots := #[.null, .int 4, .int 0, .int 8], vm := .none }]
def classes : Array Class := #[k0, k1, k2, k3, k4, k5, k6, k7, k8, k9, k10, k11]
def interned : List (Array UInt16 × Addr) := []
def slotsUsed : Nat := 23
def theMethod : MethodId := ⟨1, 2⟩
def args0 : Array Value := #[.int 5]
def aboutOver (below : List Frame) : State where
  vm := { classes := classes, interned := interned.toArray }
  heap := heap
  slotsUsed := slotsUsed
  threads := #[{ frames := .invoking theMethod args0 :: below }]
def below0 : List Frame := [.native { method := ⟨0, 0⟩, args := #[] }]
def about1 : State := aboutOver below0
def p0 : Program := .bare "" "" ""
def e0 : Env := launch0.env 0 0 0
theorem w_frames : about1.frames = Frame.invoking theMethod args0 :: below0 := rfl
set_option maxRecDepth 65536 in
theorem w_args : argsFit about1.vm theMethod args0 = true := by decide +kernel
set_option maxRecDepth 65536 in
theorem w_heap : heapFits about1 = true := by decide +kernel
set_option maxRecDepth 65536 in
theorem w_runnable : about1.curStatus? = some .runnable := by decide +kernel
set_option maxRecDepth 65536 in
theorem w_alone : about1.alone = true := by decide +kernel
set_option maxRecDepth 65536 in
theorem w_named : about1.methodNamed? x = some theMethod := by decide +kernel
set_option maxRecDepth 65536 in
theorem w_hears : about1.hears theMethod below0 = true := by decide +kernel
set_option maxRecDepth 65536 in
theorem w_ripe : about1.ripe theMethod args0 below0 = true := by decide +kernel
theorem w_running : about1.status = .running := rfl
set_option maxRecDepth 65536 in
theorem w_room : about1.hasRoom e0.platform room_1 = true :=
  launch0.hasRoom_least _ room_1 (by decide +kernel) (by decide +kernel) (by decide +kernel) (by decide +kernel) (by decide +kernel) (by decide +kernel)
theorem allAtoms_all (ts : List Jvm.Cond) (a : Array Jvm.Value) (st : Jvm.State) : (allAtoms ts).before a st = ts.all (fun c => c.before a st) := by
  induction ts with
  | nil => rfl
  | cons c t ih =>
    show (Jvm.Cond.and c (allAtoms t)).before a st = _
    rw [Jvm.Cond.before_and, ih, List.all_cons]
def words1 : List Jvm.Cond := Jvm.Cond.code x code maxLocals ret :: tables_1
/-- a 'code' word, met by the world's own term for the bytes: nothing is compared byte by byte -/
theorem code_word {y : MethodName} {bytes : ByteArray} {mx : Nat} {rt : Option FieldType} {a : Array Value} {s : State} {m : MethodId} {meth : Method} {c : Code} (h1 : s.methodNamed? y = some m) (h2 : s.vm.method? m = some meth) (h3 : meth.code = some c) (h4 : c.code = bytes)
    (h5 : (c.maxLocals == mx && c.exceptionTable.isEmpty && decide (c.maxStack ≤ mostOperands) && decide (meth.sig.returnType = rt) && !meth.locks && decide (parseMethodDescriptor y.desc = some meth.sig)) = true) : (Jvm.Cond.code y bytes mx rt).before a s = true := by
  simp only [Bool.and_eq_true, beq_iff_eq, Bool.not_eq_true', decide_eq_true_eq] at h5
  obtain ⟨⟨⟨⟨⟨g1, g2⟩, g3⟩, g4⟩, g5⟩, g6⟩ := h5
  simp [Cond.before, Cond.holds, Cond.value, h1, h2, h3, h4, g1, g2, g3, g4, g5, g6]
def isCode : Jvm.Cond → Bool
  | .code _ _ _ _ => true
  | _ => false
theorem all_split {L : List Jvm.Cond} {P : Jvm.Cond → Bool} (h1 : L.all (fun c => isCode c || P c) = true) (h2 : ∀ c ∈ L.filter isCode, P c = true) : L.all P = true := by
  refine List.all_eq_true.mpr fun c hc => ?_
  have h := List.all_eq_true.mp h1 c hc
  rcases Bool.eq_false_or_eq_true (isCode c) with hi | hi
  · exact h2 c (List.mem_filter.mpr ⟨hc, hi⟩)
  · simpa [hi] using h
set_option maxRecDepth 65536 in
theorem w_c0 : (Jvm.Cond.code x code maxLocals ret).before args0 about1 = true := code_word (m := ⟨1, 2⟩) (meth := k1m2) (c := k1c2) (by decide +kernel) rfl rfl rfl (by decide +kernel)
set_option maxRecDepth 65536 in
theorem w_c1 : (Jvm.Cond.code ({ cls := "com/example/salamander/salamander/IsolationJdbcLevelPinLaw", name := "pick", desc := "(I)Lcom/example/salamander/salamander/Isolation;" } : Jvm.MethodName) method_2_code (1 : Nat) (Option.some (Jvm.ClassFile.FieldType.object "com/example/salamander/salamander/Isolation"))).before args0 about1 = true := code_word (m := ⟨1, 1⟩) (meth := k1m1) (c := k1c1) (by decide +kernel) rfl rfl rfl (by decide +kernel)
set_option maxRecDepth 65536 in
theorem w_c2 : (Jvm.Cond.code ({ cls := "com/example/salamander/salamander/Isolation", name := "jdbcLevel", desc := "()I" } : Jvm.MethodName) prog_6_method_4_code (1 : Nat) (Option.some Jvm.ClassFile.FieldType.int)).before args0 about1 = true := code_word (m := ⟨6, 0⟩) (meth := k6m0) (c := k6c0) (by decide +kernel) rfl rfl rfl (by decide +kernel)
def codes1 : List Jvm.Cond := [Jvm.Cond.code x code maxLocals ret, Jvm.Cond.code ({ cls := "com/example/salamander/salamander/IsolationJdbcLevelPinLaw", name := "pick", desc := "(I)Lcom/example/salamander/salamander/Isolation;" } : Jvm.MethodName) method_2_code (1 : Nat) (Option.some (Jvm.ClassFile.FieldType.object "com/example/salamander/salamander/Isolation")), Jvm.Cond.code ({ cls := "com/example/salamander/salamander/Isolation", name := "jdbcLevel", desc := "()I" } : Jvm.MethodName) prog_6_method_4_code (1 : Nat) (Option.some Jvm.ClassFile.FieldType.int)]
set_option maxRecDepth 65536 in
theorem codes_eq : words1.filter isCode = codes1 := rfl
theorem w_codes : ∀ c ∈ words1.filter isCode, c.before args0 about1 = true := by
  rw [codes_eq]
  intro c hc
  simp only [codes1, List.mem_cons, List.not_mem_nil, or_false] at hc
  rcases hc with rfl | rfl | rfl
  · exact w_c0
  · exact w_c1
  · exact w_c2
set_option maxRecDepth 65536 in
theorem w_t1 : words1.all (fun c => isCode c || c.before args0 about1) = true := by decide +kernel
theorem w_tables : (allAtoms (Jvm.Cond.code x code maxLocals ret :: tables_1)).before args0 about1 = true := by
  rw [allAtoms_all]
  show words1.all (fun c => c.before args0 about1) = true
  refine all_split ?_ w_codes
  rw [w_t1]
set_option maxRecDepth 65536 in
theorem w_case : (Jvm.Cond.and given_1 narrow_1).before args0 about1 = true := by decide +kernel
theorem w_applies : (headSpec (Jvm.Cond.code x code maxLocals ret :: tables_1) room_1).applies x e0.platform about1 = true :=
  (Spec.applies_iff w_frames).mpr ⟨w_running, w_runnable, w_alone, w_named, w_hears, w_ripe, w_room, w_tables⟩
theorem atStart : AtStart classFile x code maxLocals ret World_1 tables_1 room_1 Calls_1 rest_1 Pre_1 launch0 p0 e0 about1 theMethod args0 below0 :=
  ⟨lists_1, trivial, launch0.admits_env _ _ _, launch0.least_env, fairChoices_fair.cas, fairChoices_fair.clock, w_frames, w_args, w_heap, w_applies, trivial, trivial, w_case⟩
end start1
theorem witness_1 : WitnessClaimed_1 := ⟨start1.p0, start1.e0, start1.about1, start1.theMethod, start1.args0, start1.below0, start1.atStart⟩
end Jvm.Pilot.@@N@@
