import JvmDerived
import JvmDerived.Pilot.@@N@@Statement
import JvmDerived.Pilot.@@N@@Code
set_option linter.unusedVariables false
set_option linter.unusedSimpArgs false
namespace Jvm.Pilot.@@N@@
open Jvm Jvm.ClassFile Sem Op Lib Jvm.Free Jvm.Stand Jvm.LawKit Jvm.RoadKit Bundle Jvm.Pilot.@@N@@.Jvm.D
def own_Kq (s : State) (Q : Option Value → Heap → List Loc → Prop) (cl sl : Nat) (o : Outcome) (U : State) : Prop := ∃ v L, o = .returned v ∧ Q v U.heap L ∧ FrameEnd s o U L cl sl
def OGo (tb : Tables) (e : Env) (below : List Frame) (K : Outcome → State → Prop) (U : State) : Prop := ∃ s₂ o, Steps tb e below U s₂ ∧ s₂.status = .running ∧ Ended s₂ below o ∧ K o s₂
section Own
variable {p : Program} {l : Launch} {e : Env} {R : Room} {s : State} {m : MethodId} {args : Array Value} {below : List Frame} {meth : Method} {c : Code} {T : State} {locs : List Loc} {cells slots : Nat} {tb : Tables} {K : Outcome → State → Prop} {Q : Option Value → Heap → List Loc → Prop} {cl sl : Nat}
theorem OGo.via {U U' : State} (st : ∀ t, Steps tb e below U' t → Steps tb e below U t) (k : OGo tb e below K U') : OGo tb e below K U := by
  obtain ⟨s₂, o, h, r⟩ := k; exact ⟨s₂, o, st _ h, r⟩
theorem OGo.cast {g g' : JFrame} (q : g = g') (k : OGo tb e below K (T.setTop g')) : OGo tb e below K (T.setTop g) := q ▸ k
theorem own_w {Z : State} {a0 : Array Value} (hw : ∀ d ∈ tables_1, d.before a0 Z = true) (i : Nat) {d : Jvm.Cond} (h : tables_1[i]? = some d) : d.before a0 Z = true := hw d (List.mem_of_getElem? h)
theorem own_staKeep0 {Z : State} {h h' : Heap} {C n d : String} {v : Value} (F : Sta Z h C n d v) (K : Keep h h' []) : Sta Z h' C n d v := by
  obtain ⟨cf, i, k, f, st, cell, h1, h2, h3, h4, h5, r⟩ := F; exact ⟨cf, i, k, f, st, cell, h1, h2, h3, h4, K.2.1 _ _ h5 nin0, r⟩
theorem own_irr (x : Int32) : ¬ x < x := Int32.lt_irrefl
theorem own_stepI (X : Stand p l e R s m args below meth c T locs cells slots) (hx : p.tables.exec = Jvm.exec) {pc : Nat} {Ls : Array Slot} {z : Int32} {rest : List Value} (hret : meth.sig.returnType = some .int) (hd : decode c.code pc = .ok (.ireturn, 1)) {fs : List Frame}
    (hl : ∀ (f : JFrame) (acts : List Action), f.method = m → f.locked = none → f.entered = [] → (doReturn e (T.setTop f) acts (some (.int z))).1 = T.setFrames fs) : Steps p.tables e below (T.setTop (mkF m pc Ls (.int z :: rest))) (T.setFrames fs) := by
  have hm' : T.vm.method? m = some meth := X.method'
  have hn : narrow .int (.int z) = .int z := rfl
  show Steps p.tables e below (T.setTop { method := m, pc := pc, locals := Ls, stack := _ :: rest, locked := none }) _
  jvm_step X.here [X.here.top, hx, hd, hm', hret, hn]
  first | (intro acts; rw [hl _ acts rfl rfl rfl]) | rw [hl _ _ rfl rfl rfl]
  exact Steps.refl _
theorem own_retI (X : Stand p l e R s m args below meth c T locs cells slots) (hx : p.tables.exec = Jvm.exec) (hk : meth.locks = false) (hret : meth.sig.returnType = some .int) {pc : Nat} {Ls : Array Slot} {z : Int32} {rest : List Value} (hd : decode c.code pc = .ok (.ireturn, 1)) (hc : cells ≤ cl) (hs : slots ≤ sl) (hQ : Q (some (.int z)) T.heap locs) :
    OGo p.tables e below (own_Kq s Q cl sl) (T.setTop (mkF m pc Ls (.int z :: rest))) := by
  obtain ⟨fs, hr, hrun, hended, hW, hsame⟩ := X.leave (v := some (.int z)) (fun h => by rw [hret] at h; cases h) hk
  exact ⟨_, _, own_stepI X hx hret hd hr, hrun, hended, _, _, rfl, hQ, ⟨_, rfl⟩, hW, hsame.mono hc hs⟩
theorem own_retN {t : FieldType} (ht : t = .boolean ∨ t = .byte ∨ t = .char ∨ t = .short) (X : Stand p l e R s m args below meth c T locs cells slots) (hx : p.tables.exec = Jvm.exec) (hk : meth.locks = false) (hret : meth.sig.returnType = some t) {pc : Nat} {Ls : Array Slot} {z : Int32} {rest : List Value} (hd : decode c.code pc = .ok (.ireturn, 1)) (hc : cells ≤ cl) (hs : slots ≤ sl) (hQ : Q (some (.int (nar t z))) T.heap locs) :
    OGo p.tables e below (own_Kq s Q cl sl) (T.setTop (mkF m pc Ls (.int z :: rest))) := by
  obtain ⟨fs, hr, hrun, hended, hW, hsame⟩ := X.leave (v := some (.int (nar t z))) (fun h => by rw [hret] at h; cases h) hk
  exact ⟨_, _, retN X hx hret ht hd hr, hrun, hended, _, _, rfl, hQ, ⟨_, rfl⟩, hW, hsame.mono hc hs⟩
theorem own_retL (X : Stand p l e R s m args below meth c T locs cells slots) (hx : p.tables.exec = Jvm.exec) (hk : meth.locks = false) (hret : meth.sig.returnType = some .long) {pc : Nat} {Ls : Array Slot} {z : Int64} (hd : decode c.code pc = .ok (.lreturn, 1)) (hc : cells ≤ cl) (hs : slots ≤ sl) (hQ : Q (some (.long z)) T.heap locs) :
    OGo p.tables e below (own_Kq s Q cl sl) (T.setTop (mkF m pc Ls [.long z])) := by
  obtain ⟨fs, hr, hrun, hended, hW, hsame⟩ := X.leave (v := some (.long z)) (fun h => by rw [hret] at h; cases h) hk
  exact ⟨_, _, X.lreturnOut hx hret hd hr, hrun, hended, _, _, rfl, hQ, ⟨_, rfl⟩, hW, hsame.mono hc hs⟩
theorem own_retA {t : FieldType} (X : Stand p l e R s m args below meth c T locs cells slots) (hx : p.tables.exec = Jvm.exec) (hk : meth.locks = false) (hret : meth.sig.returnType = some t) {pc : Nat} {Ls : Array Slot} {w : Value} (hw : w.isRef = true) (ht : t.isReference = true) (hd : decode c.code pc = .ok (.areturn, 1)) (hc : cells ≤ cl) (hs : slots ≤ sl) (hQ : Q (some w) T.heap locs) :
    OGo p.tables e below (own_Kq s Q cl sl) (T.setTop (mkF m pc Ls [w])) := by
  obtain ⟨fs, hr, hrun, hended, hW, hsame⟩ := X.leave (v := some w) (fun h => by rw [hret] at h; cases h) hk
  exact ⟨_, _, X.areturnOut hx hw hret ht hd hr, hrun, hended, _, _, rfl, hQ, ⟨_, rfl⟩, hW, hsame.mono hc hs⟩
theorem own_retV (X : Stand p l e R s m args below meth c T locs cells slots) (hx : p.tables.exec = Jvm.exec) (hk : meth.locks = false) (hret : meth.sig.returnType = none) {pc : Nat} {Ls : Array Slot} (hd : decode c.code pc = .ok (.return_, 1)) (hc : cells ≤ cl) (hs : slots ≤ sl) (hQ : Q none T.heap locs) :
    OGo p.tables e below (own_Kq s Q cl sl) (T.setTop (mkF m pc Ls [])) := by
  obtain ⟨fs, hr, hrun, hended, hW, hsame⟩ := X.leave (v := none) (fun _ => rfl) hk
  exact ⟨_, _, X.returnOut hx hret hd hr, hrun, hended, _, _, rfl, hQ, ⟨_, rfl⟩, hW, hsame.mono hc hs⟩
end Own
theorem own_open {p : Program} {l : Launch} {e : Env} {R : Room} {s : State} {m : MethodId} {args : Array Value} {below : List Frame} {meth : Method} {c : Code} {T : State} {locs : List Loc} {cells slots rc rs : Nat} (X : Stand p l e R s m args below meth c T locs cells slots) {Qp : Option Value → Pt → List Loc → Prop} {S : Option Value → Pt → Prop}
    (h : ∃ (v : Option Value) (vm₁ : Vm) (B : Pt), s.WarmedH vm₁ ∧ Stand p l e R s m args below meth c B.U B.locs B.cells B.slots ∧ (∃ L, Qp v B L ∧ B.locs = locs ++ L ∧ B.cells = cells + rc ∧ B.slots = slots + rs) ∧ S v B) :
    ∃ (v : Option Value) (T' : State) (L : List Loc), Stand p l e R s m args below meth c T' (locs ++ L) (cells + rc) (slots + rs) ∧ Qp v (T', locs ++ L, cells + rc, slots + rs) L ∧ S v (T', locs ++ L, cells + rc, slots + rs) := by
  obtain ⟨v, vm₁, ⟨T', L', k', n'⟩, -, X, ⟨L, hQ, hl, hk, hn⟩, hs⟩ := h
  dsimp only [Pt.U, Pt.locs, Pt.cells, Pt.slots] at X hl hk hn
  subst hl hk hn
  exact ⟨v, T', L, X, hQ, hs⟩
def own_St {p : Program} {l : Launch} {e : Env} {R : Room} {s : State} {m : MethodId} {args : Array Value} {below : List Frame} {meth : Method} {c : Code} {T : State} {locs : List Loc} {cells slots : Nat} (_ : Stand p l e R s m args below meth c T locs cells slots) (n0 : Nat) (T' : State) : Prop := ∃ locs', Stand p l e R s m args below meth c T' locs' cells slots ∧ Fr n0 locs'
def OJn {α : Type} (tb : Tables) (e : Env) (below : List Frame) (P : State → α → Prop) (tgt : α → JFrame) (U : State) : Prop := ∃ T' v, P T' v ∧ ∀ t, Steps tb e below (T'.setTop (tgt v)) t → Steps tb e below U t
theorem OJn.via {α : Type} {tb : Tables} {e : Env} {below : List Frame} {P : State → α → Prop} {tgt : α → JFrame} {U U' : State} (st : ∀ t, Steps tb e below U' t → Steps tb e below U t) (k : OJn tb e below P tgt U') : OJn tb e below P tgt U := by
  obtain ⟨T', v, h, r⟩ := k; exact ⟨T', v, h, fun t q => st _ (r _ q)⟩
theorem own_ib {Z s : State} (h : Z.WarmedH s.vm) : IB Z s.vm [] := ⟨#[], by rw [h.interned_eq]; simp, fun q hq => by simp at hq⟩
def own_KqW (s : State) (Q : Option Value → Heap → List Loc → Prop) (cl sl : Nat) (o : Outcome) (U : State) : Prop := ∃ v L, o = .returned v ∧ Q v U.heap L ∧ ReturnedEndW s o U L cl sl
section OwnW
variable {p : Program} {l : Launch} {e : Env} {R : Room} {s : State} {m : MethodId} {args : Array Value} {below : List Frame} {meth : Method} {c : Code} {T : State} {locs : List Loc} {cells slots : Nat} {tb : Tables} {Q : Option Value → Heap → List Loc → Prop} {cl sl : Nat} {vm₁ : Vm} {n : Nat} {Z : State} {a0 : Array Value} {h : Heap}
theorem own_wide {U : State} (k : OGo tb e below (own_Kq s Q cl sl) U) : OGo tb e below (own_KqW s Q cl sl) U := by
  obtain ⟨s₂, o, h1, h2, h3, v, L, h4, h5, h6⟩ := k
  exact ⟨s₂, o, h1, h2, h3, v, L, h4, h5, ReturnedEndW.of_narrow h6.1 h6.2.1 h6.2.2⟩
theorem own_monoW {o : Outcome} {U : State} {L : List Loc} (h : ReturnedEndW s o U L cells slots) (hc : cells ≤ cl) (hs : slots ≤ sl) : ReturnedEndW s o U L cl sl := ⟨h.1, h.2.1, h.2.2.1, h.2.2.2.mono hc hs⟩
theorem own_retAW {t : FieldType} (X : Stand p l e R (s.setVm vm₁) m args below meth c T locs cells slots) (hS : s.Since vm₁ n) (hn : n ≤ T.heap.size) (hx : p.tables.exec = Jvm.exec) (hk : meth.locks = false) (hret : meth.sig.returnType = some t) {pc : Nat} {Ls : Array Slot} {w : Value} (hw : w.isRef = true) (ht : t.isReference = true) (hd : decode c.code pc = .ok (.areturn, 1)) (hc : cells ≤ cl) (hs : slots ≤ sl) (hQ : Q (some w) T.heap locs) :
    OGo p.tables e below (own_KqW s Q cl sl) (T.setTop (mkF m pc Ls [w])) := by
  obtain ⟨fs, hr, hrun, hended, hE⟩ := X.leaveW hS hn (v := some w) (fun h => by rw [hret] at h; cases h) hk
  exact ⟨_, _, X.areturnOut hx hw hret ht hd hr, hrun, hended, _, _, rfl, hQ, own_monoW hE hc hs⟩
theorem own_retVW (X : Stand p l e R (s.setVm vm₁) m args below meth c T locs cells slots) (hS : s.Since vm₁ n) (hn : n ≤ T.heap.size) (hx : p.tables.exec = Jvm.exec) (hk : meth.locks = false) (hret : meth.sig.returnType = none) {pc : Nat} {Ls : Array Slot} (hd : decode c.code pc = .ok (.return_, 1)) (hc : cells ≤ cl) (hs : slots ≤ sl) (hQ : Q none T.heap locs) :
    OGo p.tables e below (own_KqW s Q cl sl) (T.setTop (mkF m pc Ls [])) := by
  obtain ⟨fs, hr, hrun, hended, hE⟩ := X.leaveW hS hn (v := none) (fun _ => rfl) hk
  exact ⟨_, _, X.returnOut hx hret hd hr, hrun, hended, _, _, rfl, hQ, own_monoW hE hc hs⟩
theorem own_retNW {t : FieldType} (ht : t = .boolean ∨ t = .byte ∨ t = .char ∨ t = .short) (X : Stand p l e R (s.setVm vm₁) m args below meth c T locs cells slots) (hS : s.Since vm₁ n) (hn : n ≤ T.heap.size) (hx : p.tables.exec = Jvm.exec) (hk : meth.locks = false) (hret : meth.sig.returnType = some t) {pc : Nat} {Ls : Array Slot} {z : Int32} {rest : List Value} (hd : decode c.code pc = .ok (.ireturn, 1)) (hc : cells ≤ cl) (hs : slots ≤ sl) (hQ : Q (some (.int (nar t z))) T.heap locs) :
    OGo p.tables e below (own_KqW s Q cl sl) (T.setTop (mkF m pc Ls (.int z :: rest))) := by
  obtain ⟨fs, hr, hrun, hended, hE⟩ := X.leaveW hS hn (v := some (.int (nar t z))) (fun h => by rw [hret] at h; cases h) hk
  exact ⟨_, _, retN X hx hret ht hd hr, hrun, hended, _, _, rfl, hQ, own_monoW hE hc hs⟩
theorem own_backOfSH {y : MethodName} {bytes : ByteArray} {maxL : Nat} {ret : Option FieldType} {rm : Room} {len W : Nat} {as' : Array Value} {Qb : Option Value → Heap → List Loc → Prop}
    (hM : MetFree l y (head1 [Jvm.Cond.code y bytes maxL ret] rm) (fun a U => a = as' ∧ Z.WarmedH U.vm ∧ U.heap = h) (fun _ _ _ _ _ => True) (fun _ U o U' => ∃ v L, o = .returned v ∧ Qb v U'.heap L ∧ ReturnedEndW U o U' L rm.cells rm.slots))
    (hZH : Z.WarmedH s.vm) (wc : (Jvm.Cond.code y bytes maxL ret).before a0 Z = true) (wz : (Jvm.Cond.initialized y.cls).before a0 Z = true) (hf : rm.frames + 1 ≤ R.frames) (hl : W + (maxL + 11) + rm.locals ≤ R.locals) :
    BackS l R p e below s args y len W (fun A a => a = as' ∧ A.U.heap = h ∧ A.cells + rm.cells ≤ R.cells ∧ A.slots + rm.slots ≤ R.slots)
      (fun A _ v B => ∃ L, Qb v B.U.heap L ∧ B.locs = A.locs ++ L ∧ B.cells = A.cells + rm.cells ∧ B.slots = A.slots + rm.slots) := by
  have up : ∀ {A : State}, s.WarmedH A.vm → Z.WarmedH A.vm := fun q => State.WarmedH.trans hZH q
  refine BackS.of_freeW (bytes := bytes) (maxL := maxL) (ret := ret) (E := fun _ _ o t L k n => k = rm.cells ∧ n = rm.slots ∧ ∃ v, o = .returned v ∧ Qb v t.heap L) hM hf hl ?_ ?_ ?_ ?_ ?_
  · intro m meth c A a Y hp
    have hU := (up Y.warmed).wide
    exact ⟨by show (Jvm.Cond.and _ .tt).before a A.U = true; rw [Cond.before_and, mv hU wc]; rfl, mv hU wc, mv hU wz, hp.2.2.1, hp.2.2.2⟩
  · intro m meth c A a g mk Y hp
    exact ⟨hp.1, up Y.warmed, hp.2.1⟩
  · intros; trivial
  · rintro _ _ _ _ ⟨v, L, h1, h2, h3⟩
    exact ⟨L, _, _, h3, rfl, rfl, v, h1, h2⟩
  · rintro m meth c A a g mk v t L k n Y hp _ _ ⟨e1, e2, v', e3, e4⟩
    cases e3; subst e1 e2
    exact ⟨L, e4, rfl, rfl, rfl⟩
theorem own_openS {rc rs : Nat} (X : Stand p l e R s m args below meth c T locs cells slots) {Qp : Option Value → Pt → List Loc → Prop} {S : Option Value → Pt → Prop}
    (h : ∃ (v : Option Value) (vm₁ : Vm) (B : Pt), s.WarmedH vm₁ ∧ Stand p l e R (s.setVm B.U.vm) m args below meth c B.U B.locs B.cells B.slots ∧ s.Since B.U.vm B.U.heap.size ∧ T.heap.size ≤ B.U.heap.size ∧ (∃ L, Qp v B L ∧ B.locs = locs ++ L ∧ B.cells = cells + rc ∧ B.slots = slots + rs) ∧ S v B) :
    ∃ (v : Option Value) (T' : State) (L : List Loc), Stand p l e R (s.setVm T'.vm) m args below meth c T' (locs ++ L) (cells + rc) (slots + rs) ∧ s.Since T'.vm T'.heap.size ∧ Qp v (T', locs ++ L, cells + rc, slots + rs) L ∧ S v (T', locs ++ L, cells + rc, slots + rs) := by
  obtain ⟨v, vm₁, ⟨T', L', k', n'⟩, -, X, hS, -, ⟨L, hQ, hl, hk, hn⟩, hs⟩ := h
  dsimp only [Pt.U, Pt.locs, Pt.cells, Pt.slots] at X hS hl hk hn
  subst hl hk hn
  exact ⟨v, T', L, X, hS, hQ, hs⟩
end OwnW
abbrev own_y0 : MethodName := ⟨"java/lang/StringUTF16", "compress", "([CI[BII)I"⟩
abbrev own_y1 : MethodName := ⟨"java/lang/Math", "min", "(II)I"⟩
abbrev own_y2 : MethodName := ⟨"java/lang/String", "coder", "()B"⟩
abbrev own_y3 : MethodName := ⟨"java/lang/String", "isLatin1", "()Z"⟩
abbrev own_y4 : MethodName := ⟨"java/lang/StringUTF16", "coderFromArrayLen", "([BI)B"⟩
abbrev own_y5 : MethodName := ⟨"jdk/internal/util/Preconditions", "checkFromToIndex", "(IIILjava/util/function/BiFunction;)I"⟩
abbrev own_y6 : MethodName := ⟨"java/lang/String", "checkBoundsBeginEnd", "(III)V"⟩
abbrev own_y7 : MethodName := ⟨"jdk/internal/util/Preconditions", "checkIndex", "(IILjava/util/function/BiFunction;)I"⟩
abbrev own_y8 : MethodName := ⟨"java/lang/String", "checkIndex", "(II)V"⟩
abbrev own_y9 : MethodName := ⟨"java/lang/StringUTF16", "length", "([B)I"⟩
abbrev own_y10 : MethodName := ⟨"java/lang/StringUTF16", "checkIndex", "(I[B)V"⟩
abbrev own_y11 : MethodName := ⟨"java/lang/StringUTF16", "getChar", "([BI)C"⟩
abbrev own_y12 : MethodName := ⟨"java/lang/StringUTF16", "putChar", "([BII)V"⟩
abbrev own_y13 : MethodName := ⟨"java/lang/StringUTF16", "charAt", "([BI)C"⟩
abbrev own_y14 : MethodName := ⟨"java/lang/StringLatin1", "charAt", "([BI)C"⟩
abbrev own_y15 : MethodName := ⟨"jdk/internal/util/Preconditions", "checkFromIndexSize", "(IIILjava/util/function/BiFunction;)I"⟩
abbrev own_y16 : MethodName := ⟨"java/lang/String", "checkBoundsOffCount", "(III)I"⟩
abbrev own_y17 : MethodName := ⟨"java/lang/StringUTF16", "checkBoundsOffCount", "(II[B)V"⟩
abbrev own_y18 : MethodName := ⟨"java/lang/StringUTF16", "newBytesLength", "(I)I"⟩
abbrev own_y19 : MethodName := ⟨"java/lang/StringUTF16", "newBytesFor", "(I)[B"⟩
abbrev own_y20 : MethodName := ⟨"java/lang/StringUTF16", "toBytes", "([CII)[B"⟩
abbrev own_y21 : MethodName := ⟨"java/lang/String", "length", "()I"⟩
abbrev own_y22 : MethodName := ⟨"java/lang/String", "charAt", "(I)C"⟩
abbrev own_y23 : MethodName := ⟨"java/lang/StringUTF16", "compress", "([CII)[B"⟩
abbrev own_y24 : MethodName := ⟨"java/lang/StringUTF16", "compress", "([BI[BII)I"⟩
abbrev own_y25 : MethodName := ⟨"java/util/Arrays", "checkLength", "(II)V"⟩
abbrev own_y26 : MethodName := ⟨"java/util/Arrays", "copyOfRangeByte", "([BII)[B"⟩
abbrev own_y27 : MethodName := ⟨"java/util/Arrays", "copyOfRange", "([BII)[B"⟩
abbrev own_y28 : MethodName := ⟨"java/lang/String", "<init>", "([BB)V"⟩
abbrev own_y29 : MethodName := ⟨"java/lang/StringLatin1", "newString", "([BII)Ljava/lang/String;"⟩
abbrev own_y30 : MethodName := ⟨"java/lang/StringUTF16", "compress", "([BII)[B"⟩
abbrev own_y31 : MethodName := ⟨"java/lang/StringUTF16", "newString", "([BII)Ljava/lang/String;"⟩
abbrev own_y32 : MethodName := ⟨"java/lang/String", "substring", "(II)Ljava/lang/String;"⟩
abbrev own_y33 : MethodName := ⟨"com/example/ianus/ianus/path/UserPath", "trimmed", "(Ljava/lang/String;)Ljava/lang/String;"⟩
abbrev own_y34 : MethodName := ⟨"java/lang/String", "<init>", "([CIILjava/lang/Void;)V"⟩
abbrev own_y35 : MethodName := ⟨"java/lang/String", "<init>", "([C)V"⟩
abbrev own_y36 : MethodName := ⟨"com/example/ianus/ianus/path/UserPathTrimmedPinLaw", "cell", "(III[C)C"⟩
abbrev own_y37 : MethodName := ⟨"com/example/ianus/ianus/path/UserPathTrimmedPinLaw", "make", "([CI)Ljava/lang/String;"⟩
theorem own_ti {j : Nat} (h : j < 2147483648) : (Int32.ofNat j).toInt = (j : Int) := Int32.toInt_ofNat_of_lt h
theorem own_succ (j : Nat) : Int32.ofNat j + 1 = Int32.ofNat (j + 1) := by rw [Int32.ofNat_add]; rfl
theorem own_ilt {j n : Nat} (h : j < n) (hn : n ≤ 1000) : Int32.ofNat j < Int32.ofNat n := by
  rw [Int32.lt_iff_toInt_lt, own_ti (by omega), own_ti (by omega)]; omega
theorem own_nlt {j n : Nat} (h : n ≤ j) (hn : j ≤ 1000) : ¬ Int32.ofNat j < Int32.ofNat n := by
  rw [Int32.lt_iff_toInt_lt, own_ti (by omega), own_ti (by omega)]; omega
theorem own_nn {j : Nat} (hn : j ≤ 1000) : ¬ Int32.ofNat j < 0 := by
  rw [Int32.lt_iff_toInt_lt, own_ti (by omega)]; show ¬ ((j : Int) < 0); omega
theorem own_nc {j : Nat} (hn : j ≤ 1000) : (Int32.ofNat j).toNatClampNeg = j := by
  rw [Int32.toNatClampNeg, own_ti (by omega)]; omega
theorem own_getm (xs : List Int32) (k : Nat) : (List.map Value.int xs).getD k (.int (0 : Int32)) = .int (xs.getD k 0) := by
  induction xs generalizing k with
  | nil => rfl
  | cons x t ih => cases k with
    | zero => rfl
    | succ k => exact ih k
theorem own_pushH {c : Cell} {vs : List Value} {dv : Value} (H : Has c vs dv) : Has c (vs ++ [dv]) dv := fun i hi => by rw [show (vs ++ [dv]).getD i dv = vs.getD i dv from pad_rep vs dv 1 i]; exact H i hi
theorem own_push {Z : State} {h h' : Heap} {a : Addr} {ty : FieldType} {k : ClassId} {z j : Int32} {vs : List Value} {dv v : Value} {c : Cell} (A : Arr Z h a c ty) (q1 : c.cls = k) (S : c.slots.size = z.toNatClampNeg) (q3 : ¬ z < 0) (H : Has c vs dv) (G : ∀ i, i < c.slots.size → fits ty (vs.getD i dv) = true) (hv : fits ty v = true) (W : Wr h h' a j.toNatClampNeg v) (hj : j.toNatClampNeg = vs.length) : Arv Z h' a k ty z (vs ++ [v]) dv := by
  have q := Arv.set (vs := vs ++ [dv]) A q1 S q3 (own_pushH H) (fun i hi => by rw [show (vs ++ [dv]).getD i dv = vs.getD i dv from pad_rep vs dv 1 i]; exact G i hi) hv W vs.length hj (by simp)
  simpa using q
theorem own_half : ∀ n : Fin 11, (Int32.ofNat (2 * n.val)) >>> ((1 : Int32) &&& 31) = Int32.ofNat n.val := by decide +kernel
theorem own_dbl : ∀ n : Fin 11, (Int32.ofNat n.val) <<< ((1 : Int32) &&& 31) = Int32.ofNat (2 * n.val) := by decide +kernel
def own_lo (c : Int32) : Int32 := ((c >>> ((0 : Int32) &&& 31)).toInt8.toInt32).toInt8.toInt32
def own_hi (c : Int32) : Int32 := ((c >>> ((8 : Int32) &&& 31)).toInt8.toInt32).toInt8.toInt32
def own_gc (b0 b1 : Int32) : Int32 := nar .char ((((b0 &&& 255) <<< ((0 : Int32) &&& 31)) ||| ((b1 &&& 255) <<< ((8 : Int32) &&& 31))).toUInt32.toUInt16.toUInt32.toInt32)
theorem own_i8 (x : Int8) : x.toInt32.toInt8 = x := by simp
theorem own_gclh (c : Int32) (h : nar .char c = c) : own_gc (own_lo c) (own_hi c) = c := by
  have hi16 : ∀ i, 16 ≤ i → i < 32 → c.toBitVec.getLsbD i = false := fun i h1 h2 => by
    have q : c.toUInt32.toUInt16.toUInt32.toInt32.toBitVec = c.toBitVec := congrArg Int32.toBitVec h
    rw [← q]
    simp only [UInt32.toBitVec_toInt32, UInt16.toBitVec_toUInt32, UInt32.toBitVec_toUInt16, BitVec.getLsbD_setWidth]
    simp; omega
  have e1 : ((0 : Int32) &&& 31) = 0 := by decide
  have e2 : ((8 : Int32) &&& 31) = 8 := by decide
  have e3 : ((0 : Int32).toBitVec.smod 32) = 0#32 := by decide
  have e4 : ((8 : Int32).toBitVec.smod 32) = 8#32 := by decide
  rw [← Int32.toBitVec_inj]
  apply BitVec.eq_of_getLsbD_eq
  intro i hi
  simp only [own_gc, own_lo, own_hi, own_i8, nar, e1, e2]
  simp only [UInt32.toBitVec_toInt32, UInt16.toBitVec_toUInt32, UInt32.toBitVec_toUInt16, Int32.toBitVec_toUInt32, BitVec.getLsbD_setWidth, Int32.toBitVec_or, Int32.toBitVec_and, Int32.toBitVec_shiftLeft, Int32.toBitVec_shiftRight, e3, e4, Int8.toBitVec_toInt32, Int32.toBitVec_toInt8]
  have e5 : (Int32.toBitVec 255) = 255#32 := by decide
  rw [e5, show c.toBitVec.sshiftRight' (0#32) = c.toBitVec from by simp [BitVec.sshiftRight'], show c.toBitVec.sshiftRight' (8#32) = c.toBitVec.sshiftRight 8 from rfl]
  simp only [BitVec.getLsbD_or, BitVec.shiftLeft_eq', BitVec.getLsbD_shiftLeft, BitVec.getLsbD_and, BitVec.getLsbD_signExtend, BitVec.getLsbD_sshiftRight, BitVec.toNat_ofNat]
  have hc : i = 0 ∨ i = 1 ∨ i = 2 ∨ i = 3 ∨ i = 4 ∨ i = 5 ∨ i = 6 ∨ i = 7 ∨ i = 8 ∨ i = 9 ∨ i = 10 ∨ i = 11 ∨ i = 12 ∨ i = 13 ∨ i = 14 ∨ i = 15 ∨ i = 16 ∨ i = 17 ∨ i = 18 ∨ i = 19 ∨ i = 20 ∨ i = 21 ∨ i = 22 ∨ i = 23 ∨ i = 24 ∨ i = 25 ∨ i = 26 ∨ i = 27 ∨ i = 28 ∨ i = 29 ∨ i = 30 ∨ i = 31 := by omega
  rcases hc with rfl | rfl | rfl | rfl | rfl | rfl | rfl | rfl | rfl | rfl | rfl | rfl | rfl | rfl | rfl | rfl | rfl | rfl | rfl | rfl | rfl | rfl | rfl | rfl | rfl | rfl | rfl | rfl | rfl | rfl | rfl | rfl
  all_goals first | (simp [BitVec.getLsbD_ofNat, hi16]; done) | (rw [hi16 _ (by decide) (by decide)]; simp)

def own_by (c : Int32) : Int32 := (c.toInt8.toInt32).toInt8.toInt32
theorem own_takeS {cs : List Int32} {j : Nat} (h : j < cs.length) : List.map Value.int (List.map own_by (cs.take j)) ++ [Value.int ((((cs.getD j 0).toInt8.toInt32)).toInt8.toInt32)] = List.map Value.int (List.map own_by (cs.take (j + 1))) := by
  rw [List.take_succ_eq_append_getElem h, List.map_append, List.map_append]
  simp [List.getD, h, own_by]
theorem own_takeL {cs : List Int32} {j : Nat} (h : j < cs.length) : (List.map Value.int (List.map own_by (cs.take j))).length = j := by simp; omega
theorem own_allS {cs : List Int32} {j : Nat} (h : j < cs.length) (q : ∀ c ∈ cs.take j, ¬ (255 : Int32) < c) (r : ¬ (255 : Int32) < cs.getD j 0) : ∀ c ∈ cs.take (j + 1), ¬ (255 : Int32) < c := by
  intro c hc
  rw [List.take_succ_eq_append_getElem h, List.mem_append] at hc
  rcases hc with hc | hc
  · exact q c hc
  · have e : cs.getD j 0 = cs[j] := by simp [List.getD, h]
    rw [e] at r; simp at hc; subst hc; exact r
theorem d13_0 : decode jdk_52_method_21_code 0 = .ok (.iconst 0, 1) := by decide +kernel
theorem d13_1 : decode jdk_52_method_21_code 1 = .ok (.istore 5, 2) := by decide +kernel
theorem d13_3 : decode jdk_52_method_21_code 3 = .ok (.iload 5, 2) := by decide +kernel
theorem d13_5 : decode jdk_52_method_21_code 5 = .ok (.iload 4, 2) := by decide +kernel
theorem d13_7 : decode jdk_52_method_21_code 7 = .ok (.if_icmp .ge 37, 3) := by decide +kernel
theorem d13_44 : decode jdk_52_method_21_code 44 = .ok (.iload 4, 2) := by decide +kernel
theorem d13_46 : decode jdk_52_method_21_code 46 = .ok (.ireturn, 1) := by decide +kernel
theorem d13_10 : decode jdk_52_method_21_code 10 = .ok (.aload_n 0, 1) := by decide +kernel
theorem d13_11 : decode jdk_52_method_21_code 11 = .ok (.iload_n 1, 1) := by decide +kernel
theorem d13_12 : decode jdk_52_method_21_code 12 = .ok (.caload, 1) := by decide +kernel
theorem d13_13 : decode jdk_52_method_21_code 13 = .ok (.istore 6, 2) := by decide +kernel
theorem d13_15 : decode jdk_52_method_21_code 15 = .ok (.iload 6, 2) := by decide +kernel
theorem d13_17 : decode jdk_52_method_21_code 17 = .ok (.sipush 255, 3) := by decide +kernel
theorem d13_20 : decode jdk_52_method_21_code 20 = .ok (.if_icmp .le 6, 3) := by decide +kernel
theorem d13_23 : decode jdk_52_method_21_code 23 = .ok (.iload 5, 2) := by decide +kernel
theorem d13_25 : decode jdk_52_method_21_code 25 = .ok (.ireturn, 1) := by decide +kernel
theorem d13_26 : decode jdk_52_method_21_code 26 = .ok (.aload_n 2, 1) := by decide +kernel
theorem d13_27 : decode jdk_52_method_21_code 27 = .ok (.iload_n 3, 1) := by decide +kernel
theorem d13_28 : decode jdk_52_method_21_code 28 = .ok (.iload 6, 2) := by decide +kernel
theorem d13_30 : decode jdk_52_method_21_code 30 = .ok (.i2b, 1) := by decide +kernel
theorem d13_31 : decode jdk_52_method_21_code 31 = .ok (.bastore, 1) := by decide +kernel
theorem d13_32 : decode jdk_52_method_21_code 32 = .ok (.iinc 1 1, 3) := by decide +kernel
theorem d13_35 : decode jdk_52_method_21_code 35 = .ok (.iinc 3 1, 3) := by decide +kernel
theorem d13_38 : decode jdk_52_method_21_code 38 = .ok (.iinc 5 1, 3) := by decide +kernel
theorem d13_41 : decode jdk_52_method_21_code 41 = .ok (.goto (-38), 3) := by decide +kernel
theorem pn_StringUTF16 : plainName "java/lang/StringUTF16" = true := by first | (simp [plainName, overriddenIn]; done) | decide +kernel
theorem ef_rm13 (m : MethodId) (a1 : Addr) (a3 : Addr) (p5 : Int32) : entryFrame m #[(.ref a1), (.int (0 : Int32)), (.ref a3), (.int (0 : Int32)), (.int p5)] 7 = mkF m 0 #[.val (.ref a1), .val (.int (0 : Int32)), .val (.ref a3), .val (.int (0 : Int32)), .val (.int p5), .unset, .unset] [] := by
  first | (simp [entryFrame, mkF, argsToLocals, Value.category]; done) | rfl
def Q_rm13 (Z : State) (a1 : Addr) (a3 : Addr) (p5 : Int32) (k1 : ClassId) (k3 : ClassId) (cs : List Int32) (w : Int32) (fm : Value) (h0 : Heap) (n0 : Nat) (v : Option Value) (h : Heap) (L : List Loc) : Prop := ∃ kk : Nat, ∃ bs : List Value, v = some (.int (Int32.ofNat kk)) ∧ Fr n0 L ∧ Keep h0 h [a3] ∧ Arv Z h a3 k3 .byte p5 bs (.int (0 : Int32)) ∧ Sta Z h "java/lang/String" "COMPACT_STRINGS" "Z" (.int w) ∧ Sta Z h "jdk/internal/util/Preconditions" "SIOOBE_FORMATTER" "Ljava/util/function/BiFunction;" fm ∧ Sta Z h "java/lang/StringUTF16" "$assertionsDisabled" "Z" (.int (1 : Int32)) ∧ Sta Z h "java/lang/StringUTF16" "HI_BYTE_SHIFT" "I" (.int (0 : Int32)) ∧ Sta Z h "java/lang/StringUTF16" "LO_BYTE_SHIFT" "I" (.int (8 : Int32)) ∧ ((kk = cs.length ∧ (∀ c ∈ cs, ¬ (255 : Int32) < c) ∧ bs = List.map Value.int (List.map own_by cs)) ∨ (kk < cs.length ∧ (255 : Int32) < cs.getD kk 0))
abbrev R_rm13 : Room := ⟨0, 0, 0, 0⟩
set_option maxRecDepth 65536 in
set_option maxHeartbeats 40000000 in
theorem rm13 (l : Launch) (Z : State) (a0 : Array Value) (hw : ∀ d ∈ tables_1, d.before a0 Z = true) (ws : List Jvm.Cond) (a1 : Addr) (a3 : Addr) (p5 : Int32) (k1 : ClassId) (k3 : ClassId) (cs : List Int32) (w : Int32) (fm : Value) (h0 : Heap) (n0 : Nat) (Z0 : n0 ≤ h0.size) (S_COMPACT_STRINGS : Sta Z h0 "java/lang/String" "COMPACT_STRINGS" "Z" (.int w)) (S_SIOOBE_FORMATTER : Sta Z h0 "jdk/internal/util/Preconditions" "SIOOBE_FORMATTER" "Ljava/util/function/BiFunction;" fm) (S__assertionsDisabled : Sta Z h0 "java/lang/StringUTF16" "$assertionsDisabled" "Z" (.int (1 : Int32))) (S_HI_BYTE_SHIFT : Sta Z h0 "java/lang/StringUTF16" "HI_BYTE_SHIFT" "I" (.int (0 : Int32))) (S_LO_BYTE_SHIFT : Sta Z h0 "java/lang/StringUTF16" "LO_BYTE_SHIFT" "I" (.int (8 : Int32))) (V_a1 : Arv Z h0 a1 k1 .char p5 (List.map Value.int cs) (.int (0 : Int32))) (V_a3 : Arv Z h0 a3 k3 .byte p5 [] (.int (0 : Int32))) (ne_a1_a3 : a1 ≠ a3) (g_a3 : n0 ≤ a3) (hz5 : p5 = Int32.ofNat cs.length) (hn10 : cs.length ≤ 10) :
    MetFree l own_y0 (head1 (Jvm.Cond.code own_y0 jdk_52_method_21_code 7 (some .int) :: ws) R_rm13) (fun a U => a = #[(.ref a1), (.int (0 : Int32)), (.ref a3), (.int (0 : Int32)), (.int p5)] ∧ Z.Warmed39 U.vm ∧ U.heap = h0) (fun _ _ _ _ _ => True) (fun _ U o U' => ∃ v L, o = .returned v ∧ Q_rm13 Z a1 a3 p5 k1 k3 cs w fm h0 n0 v U'.heap L ∧ FrameEnd U o U' L R_rm13.cells R_rm13.slots) := by
  refine MetFree.of_bodySF (plainFor_of_name pn_StringUTF16) hisR ?_
  intro p e s m args below meth c s₁ Bd hml0 hP hK
  obtain ⟨rfl, hZ, hh⟩ := hP
  have hx := Bd.exec
  have hby := Bd.bytes
  have hml : c.maxLocals = 7 := hml0
  have hown : s.vm.findClass "java/lang/StringUTF16" = some m.cls := findClass_of_methodNamed Bd.named
  have hnm := (name_of_methodNamed Bd.named Bd.method).1
  have X0 : Stand p l e R_rm13 s m #[(.ref a1), (.int (0 : Int32)), (.ref a3), (.int (0 : Int32)), (.int p5)] below meth c s₁ [] 0 0 := Stand.of_body Bd
  have e0 : s₁.heap = h0 := by rw [← hh, Bd.state]; rfl
  have N0 := Fr.nil n0
  show OGo p.tables e below (own_Kq s (fun v h L => Q_rm13 Z a1 a3 p5 k1 k3 cs w fm h0 n0 v h L) R_rm13.cells R_rm13.slots) (s₁.setTop (entryFrame m #[(.ref a1), (.int (0 : Int32)), (.ref a3), (.int (0 : Int32)), (.int p5)] 7))
  refine OGo.cast (ef_rm13 m a1 a3 p5) ?_
  show OGo _ _ _ _ (s₁.setTop (mkF m 0 #[.val (.ref a1), .val (.int (0 : Int32)), .val (.ref a3), .val (.int (0 : Int32)), .val (.int p5), .unset, .unset] []))
  refine OGo.via (fun _ k => XS.iconst X0.here hx rfl (hb hby d13_0) (XS.istore X0.here hx rfl (hb hby d13_1) rfl (l' := #[.val (.ref a1), .val (.int (0 : Int32)), .val (.ref a3), .val (.int (0 : Int32)), .val (.int p5), .val (.int (0 : Int32)), .unset]) rfl k)) ?_
  have lpa : ∀ (da jj : Nat), jj + da = cs.length → ∀ (sl6 : Slot) (Tla : State) (hla : Heap) (locsla : List Loc), Stand p l e R_rm13 s m #[(.ref a1), (.int (0 : Int32)), (.ref a3), (.int (0 : Int32)), (.int p5)] below meth c Tla locsla 0 0 → Tla.heap = hla → Fr n0 locsla → Keep h0 hla [a3] → Arv Z hla a1 k1 .char p5 (List.map Value.int cs) (.int (0 : Int32)) → Arv Z hla a3 k3 .byte p5 (List.map Value.int (List.map own_by (cs.take jj))) (.int (0 : Int32)) → Sta Z hla "java/lang/String" "COMPACT_STRINGS" "Z" (.int w) → Sta Z hla "jdk/internal/util/Preconditions" "SIOOBE_FORMATTER" "Ljava/util/function/BiFunction;" fm → Sta Z hla "java/lang/StringUTF16" "$assertionsDisabled" "Z" (.int (1 : Int32)) → Sta Z hla "java/lang/StringUTF16" "HI_BYTE_SHIFT" "I" (.int (0 : Int32)) → Sta Z hla "java/lang/StringUTF16" "LO_BYTE_SHIFT" "I" (.int (8 : Int32)) → (∀ c ∈ cs.take jj, ¬ (255 : Int32) < c) → (sl6 = .unset ∨ ∃ x, sl6 = .val (.int x)) → OGo p.tables e below (own_Kq s (fun v h L => Q_rm13 Z a1 a3 p5 k1 k3 cs w fm h0 n0 v h L) R_rm13.cells R_rm13.slots) (Tla.setTop (mkF m 3 #[.val (.ref a1), .val (.int (Int32.ofNat jj)), .val (.ref a3), .val (.int (Int32.ofNat jj)), .val (.int p5), .val (.int (Int32.ofNat jj)), sl6] [])) := by
    intro da
    induction da with
    | zero =>
      intro jj hja sl6 Tla hla locsla Xla ela Nla Kla V_a1_a V_a3_a S_COMPACT_STRINGS_a S_SIOOBE_FORMATTER_a S__assertionsDisabled_a S_HI_BYTE_SHIFT_a S_LO_BYTE_SHIFT_a hal hsl6
      obtain rfl : jj = cs.length := by omega
      refine OGo.via (fun _ k => XS.iload Xla.here hx rfl (hb hby d13_3) rfl (XS.iload Xla.here hx rfl (hb hby d13_5) rfl (XS.icmpYes Xla.here hx rfl (pc0 := 7) (pc' := 44) rfl (hb hby d13_7) rfl (flt (by rw [hz5]; exact Int32.lt_irrefl)).2.1 (by decide) (by decide) (XS.iload Xla.here hx rfl (hb hby d13_44) rfl k)))) ?_
      show OGo _ _ _ _ (Tla.setTop (mkF m 46 #[.val (.ref a1), .val (.int (Int32.ofNat cs.length)), .val (.ref a3), .val (.int (Int32.ofNat cs.length)), .val (.int p5), .val (.int (Int32.ofNat cs.length)), sl6] [(.int p5)]))
      refine own_retI Xla hx Bd.notSynchronized Bd.returns (hb hby d13_46) (by decide) (by decide) ?_
      show Q_rm13 Z _ _ _ _ _ _ _ _ h0 n0 _ Tla.heap _
      rw [ela]
      exact ⟨cs.length, (List.map Value.int (List.map own_by (cs.take cs.length))), (by rw [hz5]), Nla, Kla, V_a3_a, S_COMPACT_STRINGS_a, S_SIOOBE_FORMATTER_a, S__assertionsDisabled_a, S_HI_BYTE_SHIFT_a, S_LO_BYTE_SHIFT_a, (Or.inl ⟨rfl, by simpa using hal, by rw [List.take_length]⟩)⟩
    | succ da iha =>
      intro jj hja sl6 Tla hla locsla Xla ela Nla Kla V_a1_a V_a3_a S_COMPACT_STRINGS_a S_SIOOBE_FORMATTER_a S__assertionsDisabled_a S_HI_BYTE_SHIFT_a S_LO_BYTE_SHIFT_a hal hsl6
      have hjl : jj < cs.length := by omega
      have hltj : Int32.ofNat jj < p5 := by rw [hz5]; exact own_ilt hjl (by omega)
      have hncj : (Int32.ofNat jj).toNatClampNeg = jj := own_nc (by omega)
      have hnnj : ¬ Int32.ofNat jj < 0 := own_nn (by omega)
      refine OGo.via (fun _ k => XS.iload Xla.here hx rfl (hb hby d13_3) rfl (XS.iload Xla.here hx rfl (hb hby d13_5) rfl (XS.icmpNo Xla.here hx rfl (hb hby d13_7) rfl (tlt hltj).2.1 (XS.aloadN Xla.here hx rfl (hb hby d13_10) rfl rfl (XS.iloadN Xla.here hx rfl (hb hby d13_11) rfl k))))) ?_
      obtain ⟨cl1, Ar1, q1, Sz1, Ng1, Hs1, Gf1⟩ := id V_a1_a
      have hin1 : ¬ ((Int32.ofNat jj) < 0 ∨ cl1.slots.size ≤ ((Int32.ofNat jj)).toNatClampNeg) := inb_of Sz1 ⟨hnnj, hltj⟩
      have hat1 : cl1.slots[((Int32.ofNat jj)).toNatClampNeg]? = some (.int (cs.getD jj 0)) := Hs1.at hin1 (by rw [hncj]; exact own_getm cs jj)
      refine OGo.via (Xla.caload hx (j := (Int32.ofNat jj)) (v := (.int (cs.getD jj 0))) (by rw [ela]; exact Ar1.1) (State.isArrayOf_alike hZ.alike Ar1.2.1) Ar1.2.2 hin1 hat1 (g := (mkF m 12 #[.val (.ref a1), .val (.int (Int32.ofNat jj)), .val (.ref a3), .val (.int (Int32.ofNat jj)), .val (.int p5), .val (.int (Int32.ofNat jj)), sl6] [(.int (Int32.ofNat jj)), (.ref a1)])) rfl rfl (hb hby d13_12)) ?_
      show OGo _ _ _ _ (Tla.setTop (mkF m 13 #[.val (.ref a1), .val (.int (Int32.ofNat jj)), .val (.ref a3), .val (.int (Int32.ofNat jj)), .val (.int p5), .val (.int (Int32.ofNat jj)), sl6] [(.int (cs.getD jj 0))]))
      refine OGo.via (fun _ k => XS.istore Xla.here hx rfl (hb hby d13_13) rfl (l' := #[.val (.ref a1), .val (.int (Int32.ofNat jj)), .val (.ref a3), .val (.int (Int32.ofNat jj)), .val (.int p5), .val (.int (Int32.ofNat jj)), .val (.int (cs.getD jj 0))]) (by rcases hsl6 with rfl | ⟨x, rfl⟩ <;> rfl) (XS.iload Xla.here hx rfl (hb hby d13_15) rfl (XS.sipush Xla.here hx rfl (hb hby d13_17) k))) ?_
      by_cases hc20_2 : (255 : Int32) < (cs.getD jj 0)
      · refine OGo.via (fun _ k => XS.icmpNo Xla.here hx rfl (hb hby d13_20) rfl (tlt hc20_2).2.2.2 (XS.iload Xla.here hx rfl (hb hby d13_23) rfl k)) ?_
        show OGo _ _ _ _ (Tla.setTop (mkF m 25 #[.val (.ref a1), .val (.int (Int32.ofNat jj)), .val (.ref a3), .val (.int (Int32.ofNat jj)), .val (.int p5), .val (.int (Int32.ofNat jj)), .val (.int (cs.getD jj 0))] [(.int (Int32.ofNat jj))]))
        refine own_retI Xla hx Bd.notSynchronized Bd.returns (hb hby d13_25) (by decide) (by decide) ?_
        show Q_rm13 Z _ _ _ _ _ _ _ _ h0 n0 _ Tla.heap _
        rw [ela]
        exact ⟨jj, (List.map Value.int (List.map own_by (cs.take jj))), rfl, Nla, Kla, V_a3_a, S_COMPACT_STRINGS_a, S_SIOOBE_FORMATTER_a, S__assertionsDisabled_a, S_HI_BYTE_SHIFT_a, S_LO_BYTE_SHIFT_a, (Or.inr ⟨hjl, hc20_2⟩)⟩
      · refine OGo.via (fun _ k => XS.icmpYes Xla.here hx rfl (pc0 := 20) (pc' := 26) rfl (hb hby d13_20) rfl (flt hc20_2).2.2.2 (by decide) (by decide) (XS.aloadN Xla.here hx rfl (hb hby d13_26) rfl rfl (XS.iloadN Xla.here hx rfl (hb hby d13_27) rfl (XS.iload Xla.here hx rfl (hb hby d13_28) rfl (XS.i2b Xla.here hx rfl (hb hby d13_30) rfl k))))) ?_
        obtain ⟨cl3, Ar3, q3, Sz3, Ng3, Hs3, Gf3⟩ := id V_a3_a
        have hin3 : ¬ ((Int32.ofNat jj) < 0 ∨ cl3.slots.size ≤ ((Int32.ofNat jj)).toNatClampNeg) := inb_of Sz3 ⟨hnnj, hltj⟩
        obtain ⟨T3, h3, X3, e3, W3, st3⟩ := stB Xla hx hZ ela Ar3 (j := (Int32.ofNat jj)) hin3 (g := (mkF m 31 #[.val (.ref a1), .val (.int (Int32.ofNat jj)), .val (.ref a3), .val (.int (Int32.ofNat jj)), .val (.int p5), .val (.int (Int32.ofNat jj)), .val (.int (cs.getD jj 0))] [(.int ((cs.getD jj 0).toInt8.toInt32)), (.int (Int32.ofNat jj)), (.ref a3)])) rfl rfl (hb hby d13_31)
        refine OGo.via st3 ?_
        have V3 : Arv Z h3 a3 k3 .byte p5 (List.map Value.int (List.map own_by (cs.take (jj + 1)))) (.int (0 : Int32)) := (by rw [← own_takeS hjl]; exact own_push Ar3 q3 Sz3 Ng3 Hs3 Gf3 (fits_nar_byte _) W3 (by rw [hncj, own_takeL hjl]))
        have K3 : Keep h0 h3 [a3] := Kla.wr W3 (Or.inl (List.mem_of_getElem? (i := 0) rfl))
        have N3 := Fr.snoc X3 Nla g_a3
        show OGo _ _ _ _ (T3.setTop (mkF m 32 #[.val (.ref a1), .val (.int (Int32.ofNat jj)), .val (.ref a3), .val (.int (Int32.ofNat jj)), .val (.int p5), .val (.int (Int32.ofNat jj)), .val (.int (cs.getD jj 0))] []))
        refine OGo.via (fun _ k => XS.iinc X3.here hx rfl (hb hby d13_32) rfl (l' := #[.val (.ref a1), .val (.int ((Int32.ofNat jj) + (1 : Int32))), .val (.ref a3), .val (.int (Int32.ofNat jj)), .val (.int p5), .val (.int (Int32.ofNat jj)), .val (.int (cs.getD jj 0))]) rfl (XS.iinc X3.here hx rfl (hb hby d13_35) rfl (l' := #[.val (.ref a1), .val (.int ((Int32.ofNat jj) + (1 : Int32))), .val (.ref a3), .val (.int ((Int32.ofNat jj) + (1 : Int32))), .val (.int p5), .val (.int (Int32.ofNat jj)), .val (.int (cs.getD jj 0))]) rfl (XS.iinc X3.here hx rfl (hb hby d13_38) rfl (l' := #[.val (.ref a1), .val (.int ((Int32.ofNat jj) + (1 : Int32))), .val (.ref a3), .val (.int ((Int32.ofNat jj) + (1 : Int32))), .val (.int p5), .val (.int ((Int32.ofNat jj) + (1 : Int32))), .val (.int (cs.getD jj 0))]) rfl (XS.goto X3.here hx rfl (pc0 := 41) (pc' := 3) rfl (hb hby d13_41) (by decide) (by decide) k)))) ?_
        show OGo _ _ _ _ (T3.setTop (mkF m 3 #[.val (.ref a1), .val (.int ((Int32.ofNat jj) + (1 : Int32))), .val (.ref a3), .val (.int ((Int32.ofNat jj) + (1 : Int32))), .val (.int p5), .val (.int ((Int32.ofNat jj) + (1 : Int32))), .val (.int (cs.getD jj 0))] []))
        rw [own_succ]
        have f4 := V_a1_a.other W3 ne_a1_a3
        have f5 := S_COMPACT_STRINGS_a.wr W3
        have f6 := S_SIOOBE_FORMATTER_a.wr W3
        have f7 := S__assertionsDisabled_a.wr W3
        have f8 := S_HI_BYTE_SHIFT_a.wr W3
        have f9 := S_LO_BYTE_SHIFT_a.wr W3
        exact iha  (jj + 1) (by omega) _ _ _ _ X3 e3 N3 K3 f4 V3 f5 f6 f7 f8 f9 (own_allS hjl hal hc20_2) (Or.inr ⟨_, rfl⟩)
  exact lpa cs.length 0 (by omega) _ _ _ _ X0 e0 N0 (Keep.refl h0 [a3]) V_a1 V_a3 S_COMPACT_STRINGS S_SIOOBE_FORMATTER S__assertionsDisabled S_HI_BYTE_SHIFT S_LO_BYTE_SHIFT (by simp) (Or.inl rfl)
theorem own_shr0 (z : Int32) : z >>> ((0 : Int32) &&& 31) = z := Int32.toInt_inj.mp (by rw [c_ishr z 0 0 (by decide)]; simp)
theorem own_half' {n : Nat} (h : n ≤ 10) : (Int32.ofNat (2 * n)) >>> ((1 : Int32) &&& 31) = Int32.ofNat n := own_half ⟨n, by omega⟩
theorem own_dbl' {n : Nat} (h : n ≤ 10) : (Int32.ofNat n) <<< ((1 : Int32) &&& 31) = Int32.ofNat (2 * n) := own_dbl ⟨n, by omega⟩
def own_ch (y : Int32) : Int32 := nar .char ((y &&& (255 : Int32)).toUInt32.toUInt16.toUInt32.toInt32)
theorem own_ch_n (y : Int32) : nar .char (own_ch y) = own_ch y := by simp only [own_ch, nar, i2c_mask]
def own_cl (x y : Int32) : Int32 := nar .byte ((((x - y).toUInt32 >>> ((31 : Int32) &&& 31).toUInt32).toInt32).toInt8.toInt32)
theorem d24_0 : decode jdk_29_method_69_code 0 = .ok (.iload_n 0, 1) := by decide +kernel
theorem d24_1 : decode jdk_29_method_69_code 1 = .ok (.iload_n 1, 1) := by decide +kernel
theorem d24_2 : decode jdk_29_method_69_code 2 = .ok (.if_icmp .gt 7, 3) := by decide +kernel
theorem d24_9 : decode jdk_29_method_69_code 9 = .ok (.iload_n 1, 1) := by decide +kernel
theorem d24_10 : decode jdk_29_method_69_code 10 = .ok (.ireturn, 1) := by decide +kernel
theorem d24_5 : decode jdk_29_method_69_code 5 = .ok (.iload_n 0, 1) := by decide +kernel
theorem d24_6 : decode jdk_29_method_69_code 6 = .ok (.goto 4, 3) := by decide +kernel
theorem ef_rm24 (m : MethodId) (p1 : Int32) (p2 : Int32) : entryFrame m #[(.int p1), (.int p2)] 2 = mkF m 0 #[.val (.int p1), .val (.int p2)] [] := by
  first | (simp [entryFrame, mkF, argsToLocals, Value.category]; done) | rfl
def Q_rm24 (Z : State) (p1 : Int32) (p2 : Int32) (h0 : Heap) (n0 : Nat) (v : Option Value) (h : Heap) (L : List Loc) : Prop := v = some (.int (if p2 < p1 then p2 else p1)) ∧ Fr n0 L ∧ h = h0
abbrev R_rm24 : Room := ⟨0, 0, 0, 0⟩
set_option maxRecDepth 65536 in
set_option maxHeartbeats 40000000 in
theorem rm24 (l : Launch) (Z : State) (a0 : Array Value) (hw : ∀ d ∈ tables_1, d.before a0 Z = true) (ws : List Jvm.Cond) (p1 : Int32) (p2 : Int32) (h0 : Heap) (n0 : Nat) (Z0 : n0 ≤ h0.size) :
    MetFree l own_y1 (head1 (Jvm.Cond.code own_y1 jdk_29_method_69_code 2 (some .int) :: ws) R_rm24) (fun a U => a = #[(.int p1), (.int p2)] ∧ Z.Warmed39 U.vm ∧ U.heap = h0) (fun _ _ _ _ _ => True) (fun _ U o U' => ∃ v L, o = .returned v ∧ Q_rm24 Z p1 p2 h0 n0 v U'.heap L ∧ FrameEnd U o U' L R_rm24.cells R_rm24.slots) := by
  refine MetFree.of_bodySF (Jvm.Free.JP.mathPlain rfl (by decide +kernel)) hisR ?_
  intro p e s m args below meth c s₁ Bd hml0 hP hK
  obtain ⟨rfl, hZ, hh⟩ := hP
  have hx := Bd.exec
  have hby := Bd.bytes
  have hml : c.maxLocals = 2 := hml0
  have hown : s.vm.findClass "java/lang/Math" = some m.cls := findClass_of_methodNamed Bd.named
  have hnm := (name_of_methodNamed Bd.named Bd.method).1
  have X0 : Stand p l e R_rm24 s m #[(.int p1), (.int p2)] below meth c s₁ [] 0 0 := Stand.of_body Bd
  have e0 : s₁.heap = h0 := by rw [← hh, Bd.state]; rfl
  have N0 := Fr.nil n0
  show OGo p.tables e below (own_Kq s (fun v h L => Q_rm24 Z p1 p2 h0 n0 v h L) R_rm24.cells R_rm24.slots) (s₁.setTop (entryFrame m #[(.int p1), (.int p2)] 2))
  refine OGo.cast (ef_rm24 m p1 p2) ?_
  show OGo _ _ _ _ (s₁.setTop (mkF m 0 #[.val (.int p1), .val (.int p2)] []))
  refine OGo.via (fun _ k => XS.iloadN X0.here hx rfl (hb hby d24_0) rfl (XS.iloadN X0.here hx rfl (hb hby d24_1) rfl k)) ?_
  by_cases hc2_1 : p2 < p1
  · refine OGo.via (fun _ k => XS.icmpYes X0.here hx rfl (pc0 := 2) (pc' := 9) rfl (hb hby d24_2) rfl (tlt hc2_1).2.2.1 (by decide) (by decide) (XS.iloadN X0.here hx rfl (hb hby d24_9) rfl k)) ?_
    show OGo _ _ _ _ (s₁.setTop (mkF m 10 #[.val (.int p1), .val (.int p2)] [(.int p2)]))
    refine own_retI X0 hx Bd.notSynchronized Bd.returns (hb hby d24_10) (by decide) (by decide) ?_
    show Q_rm24 Z _ _ h0 n0 _ s₁.heap _
    exact ⟨(by rw [if_pos hc2_1]), N0, e0⟩
  · refine OGo.via (fun _ k => XS.icmpNo X0.here hx rfl (hb hby d24_2) rfl (flt hc2_1).2.2.1 (XS.iloadN X0.here hx rfl (hb hby d24_5) rfl (XS.goto X0.here hx rfl (pc0 := 6) (pc' := 10) rfl (hb hby d24_6) (by decide) (by decide) k))) ?_
    show OGo _ _ _ _ (s₁.setTop (mkF m 10 #[.val (.int p1), .val (.int p2)] [(.int p1)]))
    refine own_retI X0 hx Bd.notSynchronized Bd.returns (hb hby d24_10) (by decide) (by decide) ?_
    show Q_rm24 Z _ _ h0 n0 _ s₁.heap _
    exact ⟨(by rw [if_neg hc2_1]), N0, e0⟩
theorem d8_0 : decode jdk_42_method_152_code 0 = .ok (.getstatic 38, 3) := by decide +kernel
theorem d8_3 : decode jdk_42_method_152_code 3 = .ok (.ifCond .eq 10, 3) := by decide +kernel
theorem d8_6 : decode jdk_42_method_152_code 6 = .ok (.aload_n 0, 1) := by decide +kernel
theorem d8_7 : decode jdk_42_method_152_code 7 = .ok (.getfield 15, 3) := by decide +kernel
theorem d8_10 : decode jdk_42_method_152_code 10 = .ok (.goto 4, 3) := by decide +kernel
theorem d8_14 : decode jdk_42_method_152_code 14 = .ok (.ireturn, 1) := by decide +kernel
theorem pn_String : plainName "java/lang/String" = true := by first | (simp [plainName, overriddenIn]; done) | decide +kernel
theorem ef_rm8L (m : MethodId) (a1 : Addr) : entryFrame m #[(.ref a1)] 1 = mkF m 0 #[.val (.ref a1)] [] := by
  first | (simp [entryFrame, mkF, argsToLocals, Value.category]; done) | rfl
def Q_rm8L (Z : State) (a1 : Addr) (w : Int32) (vb : Addr) (h0 : Heap) (n0 : Nat) (v : Option Value) (h : Heap) (L : List Loc) : Prop := v = some (.int (0 : Int32)) ∧ Fr n0 L ∧ h = h0
abbrev R_rm8L : Room := ⟨0, 0, 0, 0⟩
set_option maxRecDepth 65536 in
set_option maxHeartbeats 40000000 in
theorem rm8L (l : Launch) (Z : State) (a0 : Array Value) (hw : ∀ d ∈ tables_1, d.before a0 Z = true) (ws : List Jvm.Cond) (a1 : Addr) (w : Int32) (vb : Addr) (h0 : Heap) (n0 : Nat) (Z0 : n0 ≤ h0.size) (E_a1 : Exa Z h0 a1 "java/lang/String") (F_value_a1 : Fld Z h0 a1 "java/lang/String" "value" "[B" (.ref vb)) (F_coder_a1 : Fld Z h0 a1 "java/lang/String" "coder" "B" (.int (0 : Int32))) (S_COMPACT_STRINGS : Sta Z h0 "java/lang/String" "COMPACT_STRINGS" "Z" (.int w)) (hw0 : ¬ w = (0 : Int32)) :
    MetFree l own_y2 (head1 (Jvm.Cond.code own_y2 jdk_42_method_152_code 1 (some .byte) :: ws) R_rm8L) (fun a U => a = #[(.ref a1)] ∧ Z.Warmed39 U.vm ∧ U.heap = h0) (fun _ _ _ _ _ => True) (fun _ U o U' => ∃ v L, o = .returned v ∧ Q_rm8L Z a1 w vb h0 n0 v U'.heap L ∧ FrameEnd U o U' L R_rm8L.cells R_rm8L.slots) := by
  refine MetFree.of_bodySF (plainFor_of_name pn_String) hisR ?_
  intro p e s m args below meth c s₁ Bd hml0 hP hK
  obtain ⟨rfl, hZ, hh⟩ := hP
  have hx := Bd.exec
  have hby := Bd.bytes
  have hml : c.maxLocals = 1 := hml0
  have hown : s.vm.findClass "java/lang/String" = some m.cls := findClass_of_methodNamed Bd.named
  have hnm := (name_of_methodNamed Bd.named Bd.method).1
  have X0 : Stand p l e R_rm8L s m #[(.ref a1)] below meth c s₁ [] 0 0 := Stand.of_body Bd
  have e0 : s₁.heap = h0 := by rw [← hh, Bd.state]; rfl
  have N0 := Fr.nil n0
  show OGo p.tables e below (own_Kq s (fun v h L => Q_rm8L Z a1 w vb h0 n0 v h L) R_rm8L.cells R_rm8L.slots) (s₁.setTop (entryFrame m #[(.ref a1)] 1))
  refine OGo.cast (ef_rm8L m a1) ?_
  show OGo _ _ _ _ (s₁.setTop (mkF m 0 #[.val (.ref a1)] []))
  obtain ⟨T1, X1, e1, st1⟩ := getS2 X0 hx hZ hown (host := "") (Or.inl (own_w hw 44 rfl)) Via.refl e0 S_COMPACT_STRINGS (g := (mkF m 0 #[.val (.ref a1)] [])) rfl (hb hby d8_0)
  refine OGo.via st1 ?_
  show OGo _ _ _ _ (T1.setTop (mkF m 3 #[.val (.ref a1)] [(.int w)]))
  refine OGo.via (fun _ k => XS.ifNo X1.here hx rfl (hb hby d8_3) rfl ((if0 _ _).trans (feq hw0).1) (XS.aloadN X1.here hx rfl (hb hby d8_6) rfl rfl k)) ?_
  obtain ⟨T2, X2, e2, st2⟩ := getF X1 hx hZ hown (host := "") (Or.inl (own_w hw 29 rfl)) Via.refl e1 F_coder_a1 (g := (mkF m 7 #[.val (.ref a1)] [(.ref a1)])) rfl rfl (hb hby d8_7)
  refine OGo.via st2 ?_
  show OGo _ _ _ _ (T2.setTop (mkF m 10 #[.val (.ref a1)] [(.int (0 : Int32))]))
  refine OGo.via (fun _ k => XS.goto X2.here hx rfl (pc0 := 10) (pc' := 14) rfl (hb hby d8_10) (by decide) (by decide) k) ?_
  show OGo _ _ _ _ (T2.setTop (mkF m 14 #[.val (.ref a1)] [(.int (0 : Int32))]))
  refine own_retN (t := .byte) (by simp) X2 hx Bd.notSynchronized Bd.returns (hb hby d8_14) (by decide) (by decide) ?_
  show Q_rm8L Z _ _ _ h0 n0 _ T2.heap _
  exact ⟨rfl, N0, e2⟩
theorem d16_0 : decode jdk_42_method_154_code 0 = .ok (.getstatic 38, 3) := by decide +kernel
theorem d16_3 : decode jdk_42_method_154_code 3 = .ok (.ifCond .eq 14, 3) := by decide +kernel
theorem d16_6 : decode jdk_42_method_154_code 6 = .ok (.aload_n 0, 1) := by decide +kernel
theorem d16_7 : decode jdk_42_method_154_code 7 = .ok (.getfield 15, 3) := by decide +kernel
theorem d16_10 : decode jdk_42_method_154_code 10 = .ok (.ifCond .ne 7, 3) := by decide +kernel
theorem d16_13 : decode jdk_42_method_154_code 13 = .ok (.iconst 1, 1) := by decide +kernel
theorem d16_14 : decode jdk_42_method_154_code 14 = .ok (.goto 4, 3) := by decide +kernel
theorem d16_18 : decode jdk_42_method_154_code 18 = .ok (.ireturn, 1) := by decide +kernel
theorem ef_rm16L (m : MethodId) (a1 : Addr) : entryFrame m #[(.ref a1)] 1 = mkF m 0 #[.val (.ref a1)] [] := by
  first | (simp [entryFrame, mkF, argsToLocals, Value.category]; done) | rfl
def Q_rm16L (Z : State) (a1 : Addr) (w : Int32) (vb : Addr) (h0 : Heap) (n0 : Nat) (v : Option Value) (h : Heap) (L : List Loc) : Prop := v = some (.int (1 : Int32)) ∧ Fr n0 L ∧ h = h0
abbrev R_rm16L : Room := ⟨0, 0, 0, 0⟩
set_option maxRecDepth 65536 in
set_option maxHeartbeats 40000000 in
theorem rm16L (l : Launch) (Z : State) (a0 : Array Value) (hw : ∀ d ∈ tables_1, d.before a0 Z = true) (ws : List Jvm.Cond) (a1 : Addr) (w : Int32) (vb : Addr) (h0 : Heap) (n0 : Nat) (Z0 : n0 ≤ h0.size) (E_a1 : Exa Z h0 a1 "java/lang/String") (F_value_a1 : Fld Z h0 a1 "java/lang/String" "value" "[B" (.ref vb)) (F_coder_a1 : Fld Z h0 a1 "java/lang/String" "coder" "B" (.int (0 : Int32))) (S_COMPACT_STRINGS : Sta Z h0 "java/lang/String" "COMPACT_STRINGS" "Z" (.int w)) (hw0 : ¬ w = (0 : Int32)) :
    MetFree l own_y3 (head1 (Jvm.Cond.code own_y3 jdk_42_method_154_code 1 (some .boolean) :: ws) R_rm16L) (fun a U => a = #[(.ref a1)] ∧ Z.Warmed39 U.vm ∧ U.heap = h0) (fun _ _ _ _ _ => True) (fun _ U o U' => ∃ v L, o = .returned v ∧ Q_rm16L Z a1 w vb h0 n0 v U'.heap L ∧ FrameEnd U o U' L R_rm16L.cells R_rm16L.slots) := by
  refine MetFree.of_bodySF (plainFor_of_name pn_String) hisR ?_
  intro p e s m args below meth c s₁ Bd hml0 hP hK
  obtain ⟨rfl, hZ, hh⟩ := hP
  have hx := Bd.exec
  have hby := Bd.bytes
  have hml : c.maxLocals = 1 := hml0
  have hown : s.vm.findClass "java/lang/String" = some m.cls := findClass_of_methodNamed Bd.named
  have hnm := (name_of_methodNamed Bd.named Bd.method).1
  have X0 : Stand p l e R_rm16L s m #[(.ref a1)] below meth c s₁ [] 0 0 := Stand.of_body Bd
  have e0 : s₁.heap = h0 := by rw [← hh, Bd.state]; rfl
  have N0 := Fr.nil n0
  show OGo p.tables e below (own_Kq s (fun v h L => Q_rm16L Z a1 w vb h0 n0 v h L) R_rm16L.cells R_rm16L.slots) (s₁.setTop (entryFrame m #[(.ref a1)] 1))
  refine OGo.cast (ef_rm16L m a1) ?_
  show OGo _ _ _ _ (s₁.setTop (mkF m 0 #[.val (.ref a1)] []))
  obtain ⟨T1, X1, e1, st1⟩ := getS2 X0 hx hZ hown (host := "") (Or.inl (own_w hw 44 rfl)) Via.refl e0 S_COMPACT_STRINGS (g := (mkF m 0 #[.val (.ref a1)] [])) rfl (hb hby d16_0)
  refine OGo.via st1 ?_
  show OGo _ _ _ _ (T1.setTop (mkF m 3 #[.val (.ref a1)] [(.int w)]))
  refine OGo.via (fun _ k => XS.ifNo X1.here hx rfl (hb hby d16_3) rfl ((if0 _ _).trans (feq hw0).1) (XS.aloadN X1.here hx rfl (hb hby d16_6) rfl rfl k)) ?_
  obtain ⟨T2, X2, e2, st2⟩ := getF X1 hx hZ hown (host := "") (Or.inl (own_w hw 29 rfl)) Via.refl e1 F_coder_a1 (g := (mkF m 7 #[.val (.ref a1)] [(.ref a1)])) rfl rfl (hb hby d16_7)
  refine OGo.via st2 ?_
  show OGo _ _ _ _ (T2.setTop (mkF m 10 #[.val (.ref a1)] [(.int (0 : Int32))]))
  refine OGo.via (fun _ k => XS.ifNo X2.here hx rfl (hb hby d16_10) rfl ((if0 _ _).trans (teq (by decide : (0 : Int32) = (0 : Int32))).2) (XS.iconst X2.here hx rfl (hb hby d16_13) (XS.goto X2.here hx rfl (pc0 := 14) (pc' := 18) rfl (hb hby d16_14) (by decide) (by decide) k))) ?_
  show OGo _ _ _ _ (T2.setTop (mkF m 18 #[.val (.ref a1)] [(.int (1 : Int32))]))
  refine own_retN (t := .boolean) (by simp) X2 hx Bd.notSynchronized Bd.returns (hb hby d16_18) (by decide) (by decide) ?_
  show Q_rm16L Z _ _ _ h0 n0 _ T2.heap _
  exact ⟨rfl, N0, e2⟩
theorem ef_rm8U (m : MethodId) (a1 : Addr) : entryFrame m #[(.ref a1)] 1 = mkF m 0 #[.val (.ref a1)] [] := by
  first | (simp [entryFrame, mkF, argsToLocals, Value.category]; done) | rfl
def Q_rm8U (Z : State) (a1 : Addr) (w : Int32) (vb : Addr) (h0 : Heap) (n0 : Nat) (v : Option Value) (h : Heap) (L : List Loc) : Prop := v = some (.int (1 : Int32)) ∧ Fr n0 L ∧ h = h0
abbrev R_rm8U : Room := ⟨0, 0, 0, 0⟩
set_option maxRecDepth 65536 in
set_option maxHeartbeats 40000000 in
theorem rm8U (l : Launch) (Z : State) (a0 : Array Value) (hw : ∀ d ∈ tables_1, d.before a0 Z = true) (ws : List Jvm.Cond) (a1 : Addr) (w : Int32) (vb : Addr) (h0 : Heap) (n0 : Nat) (Z0 : n0 ≤ h0.size) (E_a1 : Exa Z h0 a1 "java/lang/String") (F_value_a1 : Fld Z h0 a1 "java/lang/String" "value" "[B" (.ref vb)) (F_coder_a1 : Fld Z h0 a1 "java/lang/String" "coder" "B" (.int (1 : Int32))) (S_COMPACT_STRINGS : Sta Z h0 "java/lang/String" "COMPACT_STRINGS" "Z" (.int w)) (hw0 : ¬ w = (0 : Int32)) :
    MetFree l own_y2 (head1 (Jvm.Cond.code own_y2 jdk_42_method_152_code 1 (some .byte) :: ws) R_rm8U) (fun a U => a = #[(.ref a1)] ∧ Z.Warmed39 U.vm ∧ U.heap = h0) (fun _ _ _ _ _ => True) (fun _ U o U' => ∃ v L, o = .returned v ∧ Q_rm8U Z a1 w vb h0 n0 v U'.heap L ∧ FrameEnd U o U' L R_rm8U.cells R_rm8U.slots) := by
  refine MetFree.of_bodySF (plainFor_of_name pn_String) hisR ?_
  intro p e s m args below meth c s₁ Bd hml0 hP hK
  obtain ⟨rfl, hZ, hh⟩ := hP
  have hx := Bd.exec
  have hby := Bd.bytes
  have hml : c.maxLocals = 1 := hml0
  have hown : s.vm.findClass "java/lang/String" = some m.cls := findClass_of_methodNamed Bd.named
  have hnm := (name_of_methodNamed Bd.named Bd.method).1
  have X0 : Stand p l e R_rm8U s m #[(.ref a1)] below meth c s₁ [] 0 0 := Stand.of_body Bd
  have e0 : s₁.heap = h0 := by rw [← hh, Bd.state]; rfl
  have N0 := Fr.nil n0
  show OGo p.tables e below (own_Kq s (fun v h L => Q_rm8U Z a1 w vb h0 n0 v h L) R_rm8U.cells R_rm8U.slots) (s₁.setTop (entryFrame m #[(.ref a1)] 1))
  refine OGo.cast (ef_rm8U m a1) ?_
  show OGo _ _ _ _ (s₁.setTop (mkF m 0 #[.val (.ref a1)] []))
  obtain ⟨T1, X1, e1, st1⟩ := getS2 X0 hx hZ hown (host := "") (Or.inl (own_w hw 44 rfl)) Via.refl e0 S_COMPACT_STRINGS (g := (mkF m 0 #[.val (.ref a1)] [])) rfl (hb hby d8_0)
  refine OGo.via st1 ?_
  show OGo _ _ _ _ (T1.setTop (mkF m 3 #[.val (.ref a1)] [(.int w)]))
  refine OGo.via (fun _ k => XS.ifNo X1.here hx rfl (hb hby d8_3) rfl ((if0 _ _).trans (feq hw0).1) (XS.aloadN X1.here hx rfl (hb hby d8_6) rfl rfl k)) ?_
  obtain ⟨T2, X2, e2, st2⟩ := getF X1 hx hZ hown (host := "") (Or.inl (own_w hw 29 rfl)) Via.refl e1 F_coder_a1 (g := (mkF m 7 #[.val (.ref a1)] [(.ref a1)])) rfl rfl (hb hby d8_7)
  refine OGo.via st2 ?_
  show OGo _ _ _ _ (T2.setTop (mkF m 10 #[.val (.ref a1)] [(.int (1 : Int32))]))
  refine OGo.via (fun _ k => XS.goto X2.here hx rfl (pc0 := 10) (pc' := 14) rfl (hb hby d8_10) (by decide) (by decide) k) ?_
  show OGo _ _ _ _ (T2.setTop (mkF m 14 #[.val (.ref a1)] [(.int (1 : Int32))]))
  refine own_retN (t := .byte) (by simp) X2 hx Bd.notSynchronized Bd.returns (hb hby d8_14) (by decide) (by decide) ?_
  show Q_rm8U Z _ _ _ h0 n0 _ T2.heap _
  exact ⟨rfl, N0, e2⟩
theorem d16_17 : decode jdk_42_method_154_code 17 = .ok (.iconst 0, 1) := by decide +kernel
theorem ef_rm16U (m : MethodId) (a1 : Addr) : entryFrame m #[(.ref a1)] 1 = mkF m 0 #[.val (.ref a1)] [] := by
  first | (simp [entryFrame, mkF, argsToLocals, Value.category]; done) | rfl
def Q_rm16U (Z : State) (a1 : Addr) (w : Int32) (vb : Addr) (h0 : Heap) (n0 : Nat) (v : Option Value) (h : Heap) (L : List Loc) : Prop := v = some (.int (0 : Int32)) ∧ Fr n0 L ∧ h = h0
abbrev R_rm16U : Room := ⟨0, 0, 0, 0⟩
set_option maxRecDepth 65536 in
set_option maxHeartbeats 40000000 in
theorem rm16U (l : Launch) (Z : State) (a0 : Array Value) (hw : ∀ d ∈ tables_1, d.before a0 Z = true) (ws : List Jvm.Cond) (a1 : Addr) (w : Int32) (vb : Addr) (h0 : Heap) (n0 : Nat) (Z0 : n0 ≤ h0.size) (E_a1 : Exa Z h0 a1 "java/lang/String") (F_value_a1 : Fld Z h0 a1 "java/lang/String" "value" "[B" (.ref vb)) (F_coder_a1 : Fld Z h0 a1 "java/lang/String" "coder" "B" (.int (1 : Int32))) (S_COMPACT_STRINGS : Sta Z h0 "java/lang/String" "COMPACT_STRINGS" "Z" (.int w)) (hw0 : ¬ w = (0 : Int32)) :
    MetFree l own_y3 (head1 (Jvm.Cond.code own_y3 jdk_42_method_154_code 1 (some .boolean) :: ws) R_rm16U) (fun a U => a = #[(.ref a1)] ∧ Z.Warmed39 U.vm ∧ U.heap = h0) (fun _ _ _ _ _ => True) (fun _ U o U' => ∃ v L, o = .returned v ∧ Q_rm16U Z a1 w vb h0 n0 v U'.heap L ∧ FrameEnd U o U' L R_rm16U.cells R_rm16U.slots) := by
  refine MetFree.of_bodySF (plainFor_of_name pn_String) hisR ?_
  intro p e s m args below meth c s₁ Bd hml0 hP hK
  obtain ⟨rfl, hZ, hh⟩ := hP
  have hx := Bd.exec
  have hby := Bd.bytes
  have hml : c.maxLocals = 1 := hml0
  have hown : s.vm.findClass "java/lang/String" = some m.cls := findClass_of_methodNamed Bd.named
  have hnm := (name_of_methodNamed Bd.named Bd.method).1
  have X0 : Stand p l e R_rm16U s m #[(.ref a1)] below meth c s₁ [] 0 0 := Stand.of_body Bd
  have e0 : s₁.heap = h0 := by rw [← hh, Bd.state]; rfl
  have N0 := Fr.nil n0
  show OGo p.tables e below (own_Kq s (fun v h L => Q_rm16U Z a1 w vb h0 n0 v h L) R_rm16U.cells R_rm16U.slots) (s₁.setTop (entryFrame m #[(.ref a1)] 1))
  refine OGo.cast (ef_rm16U m a1) ?_
  show OGo _ _ _ _ (s₁.setTop (mkF m 0 #[.val (.ref a1)] []))
  obtain ⟨T1, X1, e1, st1⟩ := getS2 X0 hx hZ hown (host := "") (Or.inl (own_w hw 44 rfl)) Via.refl e0 S_COMPACT_STRINGS (g := (mkF m 0 #[.val (.ref a1)] [])) rfl (hb hby d16_0)
  refine OGo.via st1 ?_
  show OGo _ _ _ _ (T1.setTop (mkF m 3 #[.val (.ref a1)] [(.int w)]))
  refine OGo.via (fun _ k => XS.ifNo X1.here hx rfl (hb hby d16_3) rfl ((if0 _ _).trans (feq hw0).1) (XS.aloadN X1.here hx rfl (hb hby d16_6) rfl rfl k)) ?_
  obtain ⟨T2, X2, e2, st2⟩ := getF X1 hx hZ hown (host := "") (Or.inl (own_w hw 29 rfl)) Via.refl e1 F_coder_a1 (g := (mkF m 7 #[.val (.ref a1)] [(.ref a1)])) rfl rfl (hb hby d16_7)
  refine OGo.via st2 ?_
  show OGo _ _ _ _ (T2.setTop (mkF m 10 #[.val (.ref a1)] [(.int (1 : Int32))]))
  refine OGo.via (fun _ k => XS.ifYes X2.here hx rfl (pc0 := 10) (pc' := 17) rfl (hb hby d16_10) rfl ((if0 _ _).trans (feq (by decide : ¬ ((1 : Int32) = (0 : Int32)))).2) (by decide) (by decide) (XS.iconst X2.here hx rfl (hb hby d16_17) k)) ?_
  show OGo _ _ _ _ (T2.setTop (mkF m 18 #[.val (.ref a1)] [(.int (0 : Int32))]))
  refine own_retN (t := .boolean) (by simp) X2 hx Bd.notSynchronized Bd.returns (hb hby d16_18) (by decide) (by decide) ?_
  show Q_rm16U Z _ _ _ h0 n0 _ T2.heap _
  exact ⟨rfl, N0, e2⟩
theorem d14_0 : decode jdk_52_method_15_code 0 = .ok (.iload_n 1, 1) := by decide +kernel
theorem d14_1 : decode jdk_52_method_15_code 1 = .ok (.aload_n 0, 1) := by decide +kernel
theorem d14_2 : decode jdk_52_method_15_code 2 = .ok (.arraylength, 1) := by decide +kernel
theorem d14_3 : decode jdk_52_method_15_code 3 = .ok (.isub, 1) := by decide +kernel
theorem d14_4 : decode jdk_52_method_15_code 4 = .ok (.bipush 31, 2) := by decide +kernel
theorem d14_6 : decode jdk_52_method_15_code 6 = .ok (.iushr, 1) := by decide +kernel
theorem d14_7 : decode jdk_52_method_15_code 7 = .ok (.i2b, 1) := by decide +kernel
theorem d14_8 : decode jdk_52_method_15_code 8 = .ok (.ireturn, 1) := by decide +kernel
theorem ef_rm14 (m : MethodId) (a1 : Addr) (p2 : Int32) : entryFrame m #[(.ref a1), (.int p2)] 2 = mkF m 0 #[.val (.ref a1), .val (.int p2)] [] := by
  first | (simp [entryFrame, mkF, argsToLocals, Value.category]; done) | rfl
def Q_rm14 (Z : State) (a1 : Addr) (p2 : Int32) (k1 : ClassId) (vs : List Value) (z : Int32) (cd : Int32) (h0 : Heap) (n0 : Nat) (v : Option Value) (h : Heap) (L : List Loc) : Prop := v = some (.int cd) ∧ Fr n0 L ∧ h = h0
abbrev R_rm14 : Room := ⟨0, 0, 0, 0⟩
set_option maxRecDepth 65536 in
set_option maxHeartbeats 40000000 in
theorem rm14 (l : Launch) (Z : State) (a0 : Array Value) (hw : ∀ d ∈ tables_1, d.before a0 Z = true) (ws : List Jvm.Cond) (a1 : Addr) (p2 : Int32) (k1 : ClassId) (vs : List Value) (z : Int32) (cd : Int32) (h0 : Heap) (n0 : Nat) (Z0 : n0 ≤ h0.size) (V_a1 : Arv Z h0 a1 k1 .byte z vs (.int (0 : Int32))) (hcl : own_cl p2 z = cd) :
    MetFree l own_y4 (head1 (Jvm.Cond.code own_y4 jdk_52_method_15_code 2 (some .byte) :: ws) R_rm14) (fun a U => a = #[(.ref a1), (.int p2)] ∧ Z.Warmed39 U.vm ∧ U.heap = h0) (fun _ _ _ _ _ => True) (fun _ U o U' => ∃ v L, o = .returned v ∧ Q_rm14 Z a1 p2 k1 vs z cd h0 n0 v U'.heap L ∧ FrameEnd U o U' L R_rm14.cells R_rm14.slots) := by
  refine MetFree.of_bodySF (plainFor_of_name pn_StringUTF16) hisR ?_
  intro p e s m args below meth c s₁ Bd hml0 hP hK
  obtain ⟨rfl, hZ, hh⟩ := hP
  have hx := Bd.exec
  have hby := Bd.bytes
  have hml : c.maxLocals = 2 := hml0
  have hown : s.vm.findClass "java/lang/StringUTF16" = some m.cls := findClass_of_methodNamed Bd.named
  have hnm := (name_of_methodNamed Bd.named Bd.method).1
  have X0 : Stand p l e R_rm14 s m #[(.ref a1), (.int p2)] below meth c s₁ [] 0 0 := Stand.of_body Bd
  have e0 : s₁.heap = h0 := by rw [← hh, Bd.state]; rfl
  have N0 := Fr.nil n0
  show OGo p.tables e below (own_Kq s (fun v h L => Q_rm14 Z a1 p2 k1 vs z cd h0 n0 v h L) R_rm14.cells R_rm14.slots) (s₁.setTop (entryFrame m #[(.ref a1), (.int p2)] 2))
  refine OGo.cast (ef_rm14 m a1 p2) ?_
  show OGo _ _ _ _ (s₁.setTop (mkF m 0 #[.val (.ref a1), .val (.int p2)] []))
  refine OGo.via (fun _ k => XS.iloadN X0.here hx rfl (hb hby d14_0) rfl (XS.aloadN X0.here hx rfl (hb hby d14_1) rfl rfl k)) ?_
  obtain ⟨cl1, Ar1, q1, Sz1, Ng1, Hs1, Gf1⟩ := id V_a1
  refine OGo.via (X0.arraylength hx (by rw [e0]; exact Ar1.1) (State.isArrayOf_alike hZ.alike Ar1.2.1) (g := (mkF m 2 #[.val (.ref a1), .val (.int p2)] [(.ref a1), (.int p2)])) rfl rfl (hb hby d14_2)) ?_
  rw [len_of Sz1 Ng1]
  show OGo _ _ _ _ (s₁.setTop (mkF m 3 #[.val (.ref a1), .val (.int p2)] [(.int z), (.int p2)]))
  refine OGo.via (fun _ k => XS.isub X0.here hx rfl (hb hby d14_3) rfl (XS.bipush X0.here hx rfl (hb hby d14_4) (XS.iushr X0.here hx rfl (hb hby d14_6) rfl (XS.i2b X0.here hx rfl (hb hby d14_7) rfl k)))) ?_
  show OGo _ _ _ _ (s₁.setTop (mkF m 8 #[.val (.ref a1), .val (.int p2)] [(.int ((((p2 - z).toUInt32 >>> ((31 : Int32) &&& 31).toUInt32).toInt32).toInt8.toInt32))]))
  refine own_retN (t := .byte) (by simp) X0 hx Bd.notSynchronized Bd.returns (hb hby d14_8) (by decide) (by decide) ?_
  show Q_rm14 Z _ _ _ _ _ _ h0 n0 _ s₁.heap _
  exact ⟨(by rw [← hcl]; rfl), N0, e0⟩
theorem d11_0 : decode jdk_41_method_12_code 0 = .ok (.iload_n 0, 1) := by decide +kernel
theorem d11_1 : decode jdk_41_method_12_code 1 = .ok (.ifCond .lt 13, 3) := by decide +kernel
theorem d11_4 : decode jdk_41_method_12_code 4 = .ok (.iload_n 0, 1) := by decide +kernel
theorem d11_5 : decode jdk_41_method_12_code 5 = .ok (.iload_n 1, 1) := by decide +kernel
theorem d11_6 : decode jdk_41_method_12_code 6 = .ok (.if_icmp .gt 8, 3) := by decide +kernel
theorem d11_9 : decode jdk_41_method_12_code 9 = .ok (.iload_n 1, 1) := by decide +kernel
theorem d11_10 : decode jdk_41_method_12_code 10 = .ok (.iload_n 2, 1) := by decide +kernel
theorem d11_11 : decode jdk_41_method_12_code 11 = .ok (.if_icmp .le 11, 3) := by decide +kernel
theorem d11_22 : decode jdk_41_method_12_code 22 = .ok (.iload_n 0, 1) := by decide +kernel
theorem d11_23 : decode jdk_41_method_12_code 23 = .ok (.ireturn, 1) := by decide +kernel
theorem pn_Preconditions : plainName "jdk/internal/util/Preconditions" = true := by first | (simp [plainName, overriddenIn]; done) | decide +kernel
theorem ef_rm11 (m : MethodId) (p1 : Int32) (p2 : Int32) (p3 : Int32) (fm : Value) (hr_fm : fm.isRef = true) : entryFrame m #[(.int p1), (.int p2), (.int p3), fm] 4 = mkF m 0 #[.val (.int p1), .val (.int p2), .val (.int p3), .val fm] [] := by
  cases fm <;> first | exact Bool.noConfusion hr_fm | skip
  all_goals first | (simp [entryFrame, mkF, argsToLocals, Value.category]; done) | rfl
def Q_rm11 (Z : State) (p1 : Int32) (p2 : Int32) (p3 : Int32) (fm : Value) (h0 : Heap) (n0 : Nat) (v : Option Value) (h : Heap) (L : List Loc) : Prop := v = some (.int p1) ∧ Fr n0 L ∧ h = h0
abbrev R_rm11 : Room := ⟨0, 0, 0, 0⟩
set_option maxRecDepth 65536 in
set_option maxHeartbeats 40000000 in
theorem rm11 (l : Launch) (Z : State) (a0 : Array Value) (hw : ∀ d ∈ tables_1, d.before a0 Z = true) (ws : List Jvm.Cond) (p1 : Int32) (p2 : Int32) (p3 : Int32) (fm : Value) (h0 : Heap) (n0 : Nat) (Z0 : n0 ≤ h0.size) (hb1 : ¬ p1 < (0 : Int32)) (hb2 : ¬ p2 < p1) (hb3 : ¬ p3 < p2) (hr_fm : fm.isRef = true) :
    MetFree l own_y5 (head1 (Jvm.Cond.code own_y5 jdk_41_method_12_code 4 (some .int) :: ws) R_rm11) (fun a U => a = #[(.int p1), (.int p2), (.int p3), fm] ∧ Z.Warmed39 U.vm ∧ U.heap = h0) (fun _ _ _ _ _ => True) (fun _ U o U' => ∃ v L, o = .returned v ∧ Q_rm11 Z p1 p2 p3 fm h0 n0 v U'.heap L ∧ FrameEnd U o U' L R_rm11.cells R_rm11.slots) := by
  refine MetFree.of_bodySF (plainFor_of_name pn_Preconditions) hisR ?_
  intro p e s m args below meth c s₁ Bd hml0 hP hK
  obtain ⟨rfl, hZ, hh⟩ := hP
  have hx := Bd.exec
  have hby := Bd.bytes
  have hml : c.maxLocals = 4 := hml0
  have hown : s.vm.findClass "jdk/internal/util/Preconditions" = some m.cls := findClass_of_methodNamed Bd.named
  have hnm := (name_of_methodNamed Bd.named Bd.method).1
  have X0 : Stand p l e R_rm11 s m #[(.int p1), (.int p2), (.int p3), fm] below meth c s₁ [] 0 0 := Stand.of_body Bd
  have e0 : s₁.heap = h0 := by rw [← hh, Bd.state]; rfl
  have N0 := Fr.nil n0
  show OGo p.tables e below (own_Kq s (fun v h L => Q_rm11 Z p1 p2 p3 fm h0 n0 v h L) R_rm11.cells R_rm11.slots) (s₁.setTop (entryFrame m #[(.int p1), (.int p2), (.int p3), fm] 4))
  refine OGo.cast (ef_rm11 m p1 p2 p3 fm hr_fm) ?_
  show OGo _ _ _ _ (s₁.setTop (mkF m 0 #[.val (.int p1), .val (.int p2), .val (.int p3), .val fm] []))
  refine OGo.via (fun _ k => XS.iloadN X0.here hx rfl (hb hby d11_0) rfl (XS.ifNo X0.here hx rfl (hb hby d11_1) rfl ((if0 _ _).trans (flt hb1).1) (XS.iloadN X0.here hx rfl (hb hby d11_4) rfl (XS.iloadN X0.here hx rfl (hb hby d11_5) rfl (XS.icmpNo X0.here hx rfl (hb hby d11_6) rfl (flt hb2).2.2.1 (XS.iloadN X0.here hx rfl (hb hby d11_9) rfl (XS.iloadN X0.here hx rfl (hb hby d11_10) rfl (XS.icmpYes X0.here hx rfl (pc0 := 11) (pc' := 22) rfl (hb hby d11_11) rfl (flt hb3).2.2.2 (by decide) (by decide) k)))))))) ?_
  show OGo _ _ _ _ (s₁.setTop (mkF m 22 #[.val (.int p1), .val (.int p2), .val (.int p3), .val fm] []))
  refine OGo.via (fun _ k => XS.iloadN X0.here hx rfl (hb hby d11_22) rfl k) ?_
  show OGo _ _ _ _ (s₁.setTop (mkF m 23 #[.val (.int p1), .val (.int p2), .val (.int p3), .val fm] [(.int p1)]))
  refine own_retI X0 hx Bd.notSynchronized Bd.returns (hb hby d11_23) (by decide) (by decide) ?_
  show Q_rm11 Z _ _ _ _ h0 n0 _ s₁.heap _
  exact ⟨rfl, N0, e0⟩
theorem d10_0 : decode jdk_42_method_158_code 0 = .ok (.iload_n 0, 1) := by decide +kernel
theorem d10_1 : decode jdk_42_method_158_code 1 = .ok (.iload_n 1, 1) := by decide +kernel
theorem d10_2 : decode jdk_42_method_158_code 2 = .ok (.iload_n 2, 1) := by decide +kernel
theorem d10_3 : decode jdk_42_method_158_code 3 = .ok (.getstatic 1053, 3) := by decide +kernel
theorem d10_6 : decode jdk_42_method_158_code 6 = .ok (.invokestatic 1062, 3) := by decide +kernel
theorem pd_0 : parseMethodDescriptor "(IIILjava/util/function/BiFunction;)I" = some ⟨[.int, .int, .int, (.object "java/util/function/BiFunction")], some .int⟩ := by decide +kernel
theorem d10_9 : decode jdk_42_method_158_code 9 = .ok (.pop, 1) := by decide +kernel
theorem d10_10 : decode jdk_42_method_158_code 10 = .ok (.return_, 1) := by decide +kernel
theorem ef_rm10 (m : MethodId) (p1 : Int32) (p2 : Int32) (p3 : Int32) : entryFrame m #[(.int p1), (.int p2), (.int p3)] 3 = mkF m 0 #[.val (.int p1), .val (.int p2), .val (.int p3)] [] := by
  first | (simp [entryFrame, mkF, argsToLocals, Value.category]; done) | rfl
def Q_rm10 (Z : State) (p1 : Int32) (p2 : Int32) (p3 : Int32) (fm : Value) (h0 : Heap) (n0 : Nat) (v : Option Value) (h : Heap) (L : List Loc) : Prop := v = none ∧ Fr n0 L ∧ h = h0
abbrev R_rm10 : Room := ⟨1, 0, 0, 15⟩
set_option maxRecDepth 65536 in
set_option maxHeartbeats 40000000 in
theorem rm10 (l : Launch) (Z : State) (a0 : Array Value) (hw : ∀ d ∈ tables_1, d.before a0 Z = true) (ws : List Jvm.Cond) (p1 : Int32) (p2 : Int32) (p3 : Int32) (fm : Value) (h0 : Heap) (n0 : Nat) (Z0 : n0 ≤ h0.size) (S_SIOOBE_FORMATTER : Sta Z h0 "jdk/internal/util/Preconditions" "SIOOBE_FORMATTER" "Ljava/util/function/BiFunction;" fm) (hb1 : ¬ p1 < (0 : Int32)) (hb2 : ¬ p2 < p1) (hb3 : ¬ p3 < p2) (hr_fm : fm.isRef = true) :
    MetFree l own_y6 (head1 (Jvm.Cond.code own_y6 jdk_42_method_158_code 3 none :: ws) R_rm10) (fun a U => a = #[(.int p1), (.int p2), (.int p3)] ∧ Z.Warmed39 U.vm ∧ U.heap = h0) (fun _ _ _ _ _ => True) (fun _ U o U' => ∃ v L, o = .returned v ∧ Q_rm10 Z p1 p2 p3 fm h0 n0 v U'.heap L ∧ FrameEnd U o U' L R_rm10.cells R_rm10.slots) := by
  refine MetFree.of_bodySF (plainFor_of_name pn_String) hisR ?_
  intro p e s m args below meth c s₁ Bd hml0 hP hK
  obtain ⟨rfl, hZ, hh⟩ := hP
  have hx := Bd.exec
  have hby := Bd.bytes
  have hml : c.maxLocals = 3 := hml0
  have hown : s.vm.findClass "java/lang/String" = some m.cls := findClass_of_methodNamed Bd.named
  have hnm := (name_of_methodNamed Bd.named Bd.method).1
  have X0 : Stand p l e R_rm10 s m #[(.int p1), (.int p2), (.int p3)] below meth c s₁ [] 0 0 := Stand.of_body Bd
  have e0 : s₁.heap = h0 := by rw [← hh, Bd.state]; rfl
  have N0 := Fr.nil n0
  show OGo p.tables e below (own_Kq s (fun v h L => Q_rm10 Z p1 p2 p3 fm h0 n0 v h L) R_rm10.cells R_rm10.slots) (s₁.setTop (entryFrame m #[(.int p1), (.int p2), (.int p3)] 3))
  refine OGo.cast (ef_rm10 m p1 p2 p3) ?_
  show OGo _ _ _ _ (s₁.setTop (mkF m 0 #[.val (.int p1), .val (.int p2), .val (.int p3)] []))
  refine OGo.via (fun _ k => XS.iloadN X0.here hx rfl (hb hby d10_0) rfl (XS.iloadN X0.here hx rfl (hb hby d10_1) rfl (XS.iloadN X0.here hx rfl (hb hby d10_2) rfl k))) ?_
  obtain ⟨T1, X1, e1, st1⟩ := getS2 X0 hx hZ hown (host := "") (Or.inl (own_w hw 54 rfl)) Via.refl e0 S_SIOOBE_FORMATTER (g := (mkF m 3 #[.val (.int p1), .val (.int p2), .val (.int p3)] [(.int p3), (.int p2), (.int p1)])) rfl (hb hby d10_3)
  refine OGo.via st1 ?_
  show OGo _ _ _ _ (T1.setTop (mkF m 6 #[.val (.int p1), .val (.int p2), .val (.int p3)] [fm, (.int p3), (.int p2), (.int p1)]))
  obtain ⟨_, T2, Lc2, X2, hQ2, st2⟩ := own_open X1 (Jvm.LawKit.callS X1 hx (y := own_y5) hown (mvT hZ (own_w hw 56 rfl)) (mvT hZ (own_w hw 57 rfl)) (mvT hZ (own_w hw 55 rfl)) (mvT hZ (own_w hw 58 rfl)) (by decide) (backOf (W := 0) (rm11 l Z a0 hw [] p1 p2 p3 fm h0 n0 Z0 hb1 hb2 hb3 hr_fm) hZ (own_w hw 58 rfl) (own_w hw 55 rfl) (by decide) (by decide)) (g := (mkF m 6 #[.val (.int p1), .val (.int p2), .val (.int p3)] [fm, (.int p3), (.int p2), (.int p1)])) rfl (by rw [hml]; rfl) (argsL := [(.int p1), (.int p2), (.int p3), fm]) (rest := []) (lenOf pd_0 rfl) rfl (by show 2 * 0 + _ ≤ _; exact Nat.le_of_eq rfl) (hb hby d10_6) (fun _ _ => ⟨rfl, e1, (by decide : 0 + 0 ≤ _), (by decide : 0 + 0 ≤ _)⟩))
  obtain ⟨rfl, N2q, r2_0⟩ := hQ2
  have N2 := Fr.app N0 N2q
  refine OGo.via st2 ?_
  show OGo _ _ _ _ (T2.setTop (mkF m 9 #[.val (.int p1), .val (.int p2), .val (.int p3)] [(.int p1)]))
  refine OGo.via (fun _ k => XS.pop X2.here hx rfl (hb hby d10_9) rfl rfl k) ?_
  show OGo _ _ _ _ (T2.setTop (mkF m 10 #[.val (.int p1), .val (.int p2), .val (.int p3)] []))
  refine own_retV X2 hx Bd.notSynchronized Bd.returns (hb hby d10_10) (by decide) (by decide) ?_
  show Q_rm10 Z _ _ _ _ h0 n0 _ T2.heap _
  exact ⟨rfl, N2, r2_0⟩
theorem d19_0 : decode jdk_41_method_11_code 0 = .ok (.iload_n 0, 1) := by decide +kernel
theorem d19_1 : decode jdk_41_method_11_code 1 = .ok (.ifCond .lt 8, 3) := by decide +kernel
theorem d19_4 : decode jdk_41_method_11_code 4 = .ok (.iload_n 0, 1) := by decide +kernel
theorem d19_5 : decode jdk_41_method_11_code 5 = .ok (.iload_n 1, 1) := by decide +kernel
theorem d19_6 : decode jdk_41_method_11_code 6 = .ok (.if_icmp .lt 10, 3) := by decide +kernel
theorem d19_16 : decode jdk_41_method_11_code 16 = .ok (.iload_n 0, 1) := by decide +kernel
theorem d19_17 : decode jdk_41_method_11_code 17 = .ok (.ireturn, 1) := by decide +kernel
theorem ef_rm19 (m : MethodId) (p1 : Int32) (p2 : Int32) (fm : Value) (hr_fm : fm.isRef = true) : entryFrame m #[(.int p1), (.int p2), fm] 3 = mkF m 0 #[.val (.int p1), .val (.int p2), .val fm] [] := by
  cases fm <;> first | exact Bool.noConfusion hr_fm | skip
  all_goals first | (simp [entryFrame, mkF, argsToLocals, Value.category]; done) | rfl
def Q_rm19 (Z : State) (p1 : Int32) (p2 : Int32) (fm : Value) (h0 : Heap) (n0 : Nat) (v : Option Value) (h : Heap) (L : List Loc) : Prop := v = some (.int p1) ∧ Fr n0 L ∧ h = h0
abbrev R_rm19 : Room := ⟨0, 0, 0, 0⟩
set_option maxRecDepth 65536 in
set_option maxHeartbeats 40000000 in
theorem rm19 (l : Launch) (Z : State) (a0 : Array Value) (hw : ∀ d ∈ tables_1, d.before a0 Z = true) (ws : List Jvm.Cond) (p1 : Int32) (p2 : Int32) (fm : Value) (h0 : Heap) (n0 : Nat) (Z0 : n0 ≤ h0.size) (hb1 : ¬ p1 < (0 : Int32)) (hb2 : p1 < p2) (hr_fm : fm.isRef = true) :
    MetFree l own_y7 (head1 (Jvm.Cond.code own_y7 jdk_41_method_11_code 3 (some .int) :: ws) R_rm19) (fun a U => a = #[(.int p1), (.int p2), fm] ∧ Z.Warmed39 U.vm ∧ U.heap = h0) (fun _ _ _ _ _ => True) (fun _ U o U' => ∃ v L, o = .returned v ∧ Q_rm19 Z p1 p2 fm h0 n0 v U'.heap L ∧ FrameEnd U o U' L R_rm19.cells R_rm19.slots) := by
  refine MetFree.of_bodySF (plainFor_of_name pn_Preconditions) hisR ?_
  intro p e s m args below meth c s₁ Bd hml0 hP hK
  obtain ⟨rfl, hZ, hh⟩ := hP
  have hx := Bd.exec
  have hby := Bd.bytes
  have hml : c.maxLocals = 3 := hml0
  have hown : s.vm.findClass "jdk/internal/util/Preconditions" = some m.cls := findClass_of_methodNamed Bd.named
  have hnm := (name_of_methodNamed Bd.named Bd.method).1
  have X0 : Stand p l e R_rm19 s m #[(.int p1), (.int p2), fm] below meth c s₁ [] 0 0 := Stand.of_body Bd
  have e0 : s₁.heap = h0 := by rw [← hh, Bd.state]; rfl
  have N0 := Fr.nil n0
  show OGo p.tables e below (own_Kq s (fun v h L => Q_rm19 Z p1 p2 fm h0 n0 v h L) R_rm19.cells R_rm19.slots) (s₁.setTop (entryFrame m #[(.int p1), (.int p2), fm] 3))
  refine OGo.cast (ef_rm19 m p1 p2 fm hr_fm) ?_
  show OGo _ _ _ _ (s₁.setTop (mkF m 0 #[.val (.int p1), .val (.int p2), .val fm] []))
  refine OGo.via (fun _ k => XS.iloadN X0.here hx rfl (hb hby d19_0) rfl (XS.ifNo X0.here hx rfl (hb hby d19_1) rfl ((if0 _ _).trans (flt hb1).1) (XS.iloadN X0.here hx rfl (hb hby d19_4) rfl (XS.iloadN X0.here hx rfl (hb hby d19_5) rfl (XS.icmpYes X0.here hx rfl (pc0 := 6) (pc' := 16) rfl (hb hby d19_6) rfl (tlt hb2).1 (by decide) (by decide) (XS.iloadN X0.here hx rfl (hb hby d19_16) rfl k)))))) ?_
  show OGo _ _ _ _ (s₁.setTop (mkF m 17 #[.val (.int p1), .val (.int p2), .val fm] [(.int p1)]))
  refine own_retI X0 hx Bd.notSynchronized Bd.returns (hb hby d19_17) (by decide) (by decide) ?_
  show Q_rm19 Z _ _ _ h0 n0 _ s₁.heap _
  exact ⟨rfl, N0, e0⟩
theorem d18_0 : decode jdk_42_method_155_code 0 = .ok (.iload_n 0, 1) := by decide +kernel
theorem d18_1 : decode jdk_42_method_155_code 1 = .ok (.iload_n 1, 1) := by decide +kernel
theorem d18_2 : decode jdk_42_method_155_code 2 = .ok (.getstatic 1053, 3) := by decide +kernel
theorem d18_5 : decode jdk_42_method_155_code 5 = .ok (.invokestatic 1059, 3) := by decide +kernel
theorem pd_1 : parseMethodDescriptor "(IILjava/util/function/BiFunction;)I" = some ⟨[.int, .int, (.object "java/util/function/BiFunction")], some .int⟩ := by decide +kernel
theorem d18_8 : decode jdk_42_method_155_code 8 = .ok (.pop, 1) := by decide +kernel
theorem d18_9 : decode jdk_42_method_155_code 9 = .ok (.return_, 1) := by decide +kernel
theorem ef_rm18 (m : MethodId) (p1 : Int32) (p2 : Int32) : entryFrame m #[(.int p1), (.int p2)] 2 = mkF m 0 #[.val (.int p1), .val (.int p2)] [] := by
  first | (simp [entryFrame, mkF, argsToLocals, Value.category]; done) | rfl
def Q_rm18 (Z : State) (p1 : Int32) (p2 : Int32) (fm : Value) (h0 : Heap) (n0 : Nat) (v : Option Value) (h : Heap) (L : List Loc) : Prop := v = none ∧ Fr n0 L ∧ h = h0
abbrev R_rm18 : Room := ⟨1, 0, 0, 14⟩
set_option maxRecDepth 65536 in
set_option maxHeartbeats 40000000 in
theorem rm18 (l : Launch) (Z : State) (a0 : Array Value) (hw : ∀ d ∈ tables_1, d.before a0 Z = true) (ws : List Jvm.Cond) (p1 : Int32) (p2 : Int32) (fm : Value) (h0 : Heap) (n0 : Nat) (Z0 : n0 ≤ h0.size) (S_SIOOBE_FORMATTER : Sta Z h0 "jdk/internal/util/Preconditions" "SIOOBE_FORMATTER" "Ljava/util/function/BiFunction;" fm) (hb1 : ¬ p1 < (0 : Int32)) (hb2 : p1 < p2) (hr_fm : fm.isRef = true) :
    MetFree l own_y8 (head1 (Jvm.Cond.code own_y8 jdk_42_method_155_code 2 none :: ws) R_rm18) (fun a U => a = #[(.int p1), (.int p2)] ∧ Z.Warmed39 U.vm ∧ U.heap = h0) (fun _ _ _ _ _ => True) (fun _ U o U' => ∃ v L, o = .returned v ∧ Q_rm18 Z p1 p2 fm h0 n0 v U'.heap L ∧ FrameEnd U o U' L R_rm18.cells R_rm18.slots) := by
  refine MetFree.of_bodySF (plainFor_of_name pn_String) hisR ?_
  intro p e s m args below meth c s₁ Bd hml0 hP hK
  obtain ⟨rfl, hZ, hh⟩ := hP
  have hx := Bd.exec
  have hby := Bd.bytes
  have hml : c.maxLocals = 2 := hml0
  have hown : s.vm.findClass "java/lang/String" = some m.cls := findClass_of_methodNamed Bd.named
  have hnm := (name_of_methodNamed Bd.named Bd.method).1
  have X0 : Stand p l e R_rm18 s m #[(.int p1), (.int p2)] below meth c s₁ [] 0 0 := Stand.of_body Bd
  have e0 : s₁.heap = h0 := by rw [← hh, Bd.state]; rfl
  have N0 := Fr.nil n0
  show OGo p.tables e below (own_Kq s (fun v h L => Q_rm18 Z p1 p2 fm h0 n0 v h L) R_rm18.cells R_rm18.slots) (s₁.setTop (entryFrame m #[(.int p1), (.int p2)] 2))
  refine OGo.cast (ef_rm18 m p1 p2) ?_
  show OGo _ _ _ _ (s₁.setTop (mkF m 0 #[.val (.int p1), .val (.int p2)] []))
  refine OGo.via (fun _ k => XS.iloadN X0.here hx rfl (hb hby d18_0) rfl (XS.iloadN X0.here hx rfl (hb hby d18_1) rfl k)) ?_
  obtain ⟨T1, X1, e1, st1⟩ := getS2 X0 hx hZ hown (host := "") (Or.inl (own_w hw 54 rfl)) Via.refl e0 S_SIOOBE_FORMATTER (g := (mkF m 2 #[.val (.int p1), .val (.int p2)] [(.int p2), (.int p1)])) rfl (hb hby d18_2)
  refine OGo.via st1 ?_
  show OGo _ _ _ _ (T1.setTop (mkF m 5 #[.val (.int p1), .val (.int p2)] [fm, (.int p2), (.int p1)]))
  obtain ⟨_, T2, Lc2, X2, hQ2, st2⟩ := own_open X1 (Jvm.LawKit.callS X1 hx (y := own_y7) hown (mvT hZ (own_w hw 87 rfl)) (mvT hZ (own_w hw 88 rfl)) (mvT hZ (own_w hw 55 rfl)) (mvT hZ (own_w hw 89 rfl)) (by decide) (backOf (W := 0) (rm19 l Z a0 hw [] p1 p2 fm h0 n0 Z0 hb1 hb2 hr_fm) hZ (own_w hw 89 rfl) (own_w hw 55 rfl) (by decide) (by decide)) (g := (mkF m 5 #[.val (.int p1), .val (.int p2)] [fm, (.int p2), (.int p1)])) rfl (by rw [hml]; rfl) (argsL := [(.int p1), (.int p2), fm]) (rest := []) (lenOf pd_1 rfl) rfl (by show 2 * 0 + _ ≤ _; exact Nat.le_of_eq rfl) (hb hby d18_5) (fun _ _ => ⟨rfl, e1, (by decide : 0 + 0 ≤ _), (by decide : 0 + 0 ≤ _)⟩))
  obtain ⟨rfl, N2q, r2_0⟩ := hQ2
  have N2 := Fr.app N0 N2q
  refine OGo.via st2 ?_
  show OGo _ _ _ _ (T2.setTop (mkF m 8 #[.val (.int p1), .val (.int p2)] [(.int p1)]))
  refine OGo.via (fun _ k => XS.pop X2.here hx rfl (hb hby d18_8) rfl rfl k) ?_
  show OGo _ _ _ _ (T2.setTop (mkF m 9 #[.val (.int p1), .val (.int p2)] []))
  refine own_retV X2 hx Bd.notSynchronized Bd.returns (hb hby d18_9) (by decide) (by decide) ?_
  show Q_rm18 Z _ _ _ h0 n0 _ T2.heap _
  exact ⟨rfl, N2, r2_0⟩
theorem d33_0 : decode jdk_52_method_6_code 0 = .ok (.aload_n 0, 1) := by decide +kernel
theorem d33_1 : decode jdk_52_method_6_code 1 = .ok (.arraylength, 1) := by decide +kernel
theorem d33_2 : decode jdk_52_method_6_code 2 = .ok (.iconst 1, 1) := by decide +kernel
theorem d33_3 : decode jdk_52_method_6_code 3 = .ok (.ishr, 1) := by decide +kernel
theorem d33_4 : decode jdk_52_method_6_code 4 = .ok (.ireturn, 1) := by decide +kernel
theorem ef_rm33 (m : MethodId) (a1 : Addr) : entryFrame m #[(.ref a1)] 1 = mkF m 0 #[.val (.ref a1)] [] := by
  first | (simp [entryFrame, mkF, argsToLocals, Value.category]; done) | rfl
def Q_rm33 (Z : State) (a1 : Addr) (k1 : ClassId) (vs : List Value) (nn : Nat) (h0 : Heap) (n0 : Nat) (v : Option Value) (h : Heap) (L : List Loc) : Prop := v = some (.int (Int32.ofNat nn)) ∧ Fr n0 L ∧ h = h0
abbrev R_rm33 : Room := ⟨0, 0, 0, 0⟩
set_option maxRecDepth 65536 in
set_option maxHeartbeats 40000000 in
theorem rm33 (l : Launch) (Z : State) (a0 : Array Value) (hw : ∀ d ∈ tables_1, d.before a0 Z = true) (ws : List Jvm.Cond) (a1 : Addr) (k1 : ClassId) (vs : List Value) (nn : Nat) (h0 : Heap) (n0 : Nat) (Z0 : n0 ≤ h0.size) (V_a1 : Arv Z h0 a1 k1 .byte (Int32.ofNat (2 * nn)) vs (.int (0 : Int32))) (hnn : nn ≤ 10) :
    MetFree l own_y9 (head1 (Jvm.Cond.code own_y9 jdk_52_method_6_code 1 (some .int) :: ws) R_rm33) (fun a U => a = #[(.ref a1)] ∧ Z.Warmed39 U.vm ∧ U.heap = h0) (fun _ _ _ _ _ => True) (fun _ U o U' => ∃ v L, o = .returned v ∧ Q_rm33 Z a1 k1 vs nn h0 n0 v U'.heap L ∧ FrameEnd U o U' L R_rm33.cells R_rm33.slots) := by
  refine MetFree.of_bodySF (plainFor_of_name pn_StringUTF16) hisR ?_
  intro p e s m args below meth c s₁ Bd hml0 hP hK
  obtain ⟨rfl, hZ, hh⟩ := hP
  have hx := Bd.exec
  have hby := Bd.bytes
  have hml : c.maxLocals = 1 := hml0
  have hown : s.vm.findClass "java/lang/StringUTF16" = some m.cls := findClass_of_methodNamed Bd.named
  have hnm := (name_of_methodNamed Bd.named Bd.method).1
  have X0 : Stand p l e R_rm33 s m #[(.ref a1)] below meth c s₁ [] 0 0 := Stand.of_body Bd
  have e0 : s₁.heap = h0 := by rw [← hh, Bd.state]; rfl
  have N0 := Fr.nil n0
  show OGo p.tables e below (own_Kq s (fun v h L => Q_rm33 Z a1 k1 vs nn h0 n0 v h L) R_rm33.cells R_rm33.slots) (s₁.setTop (entryFrame m #[(.ref a1)] 1))
  refine OGo.cast (ef_rm33 m a1) ?_
  show OGo _ _ _ _ (s₁.setTop (mkF m 0 #[.val (.ref a1)] []))
  refine OGo.via (fun _ k => XS.aloadN X0.here hx rfl (hb hby d33_0) rfl rfl k) ?_
  obtain ⟨cl1, Ar1, q1, Sz1, Ng1, Hs1, Gf1⟩ := id V_a1
  refine OGo.via (X0.arraylength hx (by rw [e0]; exact Ar1.1) (State.isArrayOf_alike hZ.alike Ar1.2.1) (g := (mkF m 1 #[.val (.ref a1)] [(.ref a1)])) rfl rfl (hb hby d33_1)) ?_
  rw [len_of Sz1 Ng1]
  show OGo _ _ _ _ (s₁.setTop (mkF m 2 #[.val (.ref a1)] [(.int (Int32.ofNat (2 * nn)))]))
  refine OGo.via (fun _ k => XS.iconst X0.here hx rfl (hb hby d33_2) (XS.ishr X0.here hx rfl (hb hby d33_3) rfl k)) ?_
  show OGo _ _ _ _ (s₁.setTop (mkF m 4 #[.val (.ref a1)] [(.int ((Int32.ofNat (2 * nn)) >>> ((1 : Int32) &&& 31)))]))
  refine own_retI X0 hx Bd.notSynchronized Bd.returns (hb hby d33_4) (by decide) (by decide) ?_
  show Q_rm33 Z _ _ _ _ h0 n0 _ s₁.heap _
  exact ⟨(by rw [own_half' hnn]), N0, e0⟩
theorem d32_0 : decode jdk_52_method_91_code 0 = .ok (.iload_n 0, 1) := by decide +kernel
theorem d32_1 : decode jdk_52_method_91_code 1 = .ok (.aload_n 1, 1) := by decide +kernel
theorem d32_2 : decode jdk_52_method_91_code 2 = .ok (.invokestatic 48, 3) := by decide +kernel
theorem pd_2 : parseMethodDescriptor "([B)I" = some ⟨[(.array .byte)], some .int⟩ := by decide +kernel
theorem d32_5 : decode jdk_52_method_91_code 5 = .ok (.invokestatic 414, 3) := by decide +kernel
theorem pd_3 : parseMethodDescriptor "(II)V" = some ⟨[.int, .int], none⟩ := by decide +kernel
theorem d32_8 : decode jdk_52_method_91_code 8 = .ok (.return_, 1) := by decide +kernel
theorem ef_rm32 (m : MethodId) (p1 : Int32) (a2 : Addr) : entryFrame m #[(.int p1), (.ref a2)] 2 = mkF m 0 #[.val (.int p1), .val (.ref a2)] [] := by
  first | (simp [entryFrame, mkF, argsToLocals, Value.category]; done) | rfl
def Q_rm32 (Z : State) (p1 : Int32) (a2 : Addr) (k1 : ClassId) (vs : List Value) (nn : Nat) (fm : Value) (h0 : Heap) (n0 : Nat) (v : Option Value) (h : Heap) (L : List Loc) : Prop := v = none ∧ Fr n0 L ∧ h = h0
abbrev R_rm32 : Room := ⟨2, 0, 0, 27⟩
set_option maxRecDepth 65536 in
set_option maxHeartbeats 40000000 in
theorem rm32 (l : Launch) (Z : State) (a0 : Array Value) (hw : ∀ d ∈ tables_1, d.before a0 Z = true) (ws : List Jvm.Cond) (p1 : Int32) (a2 : Addr) (k1 : ClassId) (vs : List Value) (nn : Nat) (fm : Value) (h0 : Heap) (n0 : Nat) (Z0 : n0 ≤ h0.size) (V_a2 : Arv Z h0 a2 k1 .byte (Int32.ofNat (2 * nn)) vs (.int (0 : Int32))) (S_SIOOBE_FORMATTER : Sta Z h0 "jdk/internal/util/Preconditions" "SIOOBE_FORMATTER" "Ljava/util/function/BiFunction;" fm) (hr_fm : fm.isRef = true) (hnn : nn ≤ 10) (hb1 : ¬ p1 < (0 : Int32)) (hb2 : p1 < Int32.ofNat nn) :
    MetFree l own_y10 (head1 (Jvm.Cond.code own_y10 jdk_52_method_91_code 2 none :: ws) R_rm32) (fun a U => a = #[(.int p1), (.ref a2)] ∧ Z.Warmed39 U.vm ∧ U.heap = h0) (fun _ _ _ _ _ => True) (fun _ U o U' => ∃ v L, o = .returned v ∧ Q_rm32 Z p1 a2 k1 vs nn fm h0 n0 v U'.heap L ∧ FrameEnd U o U' L R_rm32.cells R_rm32.slots) := by
  refine MetFree.of_bodySF (plainFor_of_name pn_StringUTF16) hisR ?_
  intro p e s m args below meth c s₁ Bd hml0 hP hK
  obtain ⟨rfl, hZ, hh⟩ := hP
  have hx := Bd.exec
  have hby := Bd.bytes
  have hml : c.maxLocals = 2 := hml0
  have hown : s.vm.findClass "java/lang/StringUTF16" = some m.cls := findClass_of_methodNamed Bd.named
  have hnm := (name_of_methodNamed Bd.named Bd.method).1
  have X0 : Stand p l e R_rm32 s m #[(.int p1), (.ref a2)] below meth c s₁ [] 0 0 := Stand.of_body Bd
  have e0 : s₁.heap = h0 := by rw [← hh, Bd.state]; rfl
  have N0 := Fr.nil n0
  show OGo p.tables e below (own_Kq s (fun v h L => Q_rm32 Z p1 a2 k1 vs nn fm h0 n0 v h L) R_rm32.cells R_rm32.slots) (s₁.setTop (entryFrame m #[(.int p1), (.ref a2)] 2))
  refine OGo.cast (ef_rm32 m p1 a2) ?_
  show OGo _ _ _ _ (s₁.setTop (mkF m 0 #[.val (.int p1), .val (.ref a2)] []))
  refine OGo.via (fun _ k => XS.iloadN X0.here hx rfl (hb hby d32_0) rfl (XS.aloadN X0.here hx rfl (hb hby d32_1) rfl rfl k)) ?_
  obtain ⟨_, T1, Lc1, X1, hQ1, st1⟩ := own_open X0 (Jvm.LawKit.callS X0 hx (y := own_y9) hown (mvT hZ (own_w hw 142 rfl)) (mvT hZ (own_w hw 143 rfl)) (mvT hZ (own_w hw 62 rfl)) (mvT hZ (own_w hw 144 rfl)) (by decide) (backOf (W := 1) (rm33 l Z a0 hw [] a2 k1 vs nn h0 n0 Z0 V_a2 hnn) hZ (own_w hw 144 rfl) (own_w hw 62 rfl) (by decide) (by decide)) (g := (mkF m 2 #[.val (.int p1), .val (.ref a2)] [(.ref a2), (.int p1)])) rfl (by rw [hml]; rfl) (argsL := [(.ref a2)]) (rest := [(.int p1)]) (lenOf pd_2 rfl) rfl (by show 2 * 0 + _ ≤ _; exact Nat.le_of_eq rfl) (hb hby d32_2) (fun _ _ => ⟨rfl, e0, (by decide : 0 + 0 ≤ _), (by decide : 0 + 0 ≤ _)⟩))
  obtain ⟨rfl, N1q, r1_0⟩ := hQ1
  have N1 := Fr.app N0 N1q
  refine OGo.via st1 ?_
  show OGo _ _ _ _ (T1.setTop (mkF m 5 #[.val (.int p1), .val (.ref a2)] [(.int (Int32.ofNat nn)), (.int p1)]))
  obtain ⟨_, T2, Lc2, X2, hQ2, st2⟩ := own_open X1 (Jvm.LawKit.callS X1 hx (y := own_y8) hown (mvT hZ (own_w hw 145 rfl)) (mvT hZ (own_w hw 85 rfl)) (mvT hZ (own_w hw 11 rfl)) (mvT hZ (own_w hw 86 rfl)) (by decide) (backOf (W := 0) (rm18 l Z a0 hw [] p1 (Int32.ofNat nn) fm h0 n0 Z0 S_SIOOBE_FORMATTER hb1 hb2 hr_fm) hZ (own_w hw 86 rfl) (own_w hw 11 rfl) (by decide) (by decide)) (g := (mkF m 5 #[.val (.int p1), .val (.ref a2)] [(.int (Int32.ofNat nn)), (.int p1)])) rfl (by rw [hml]; rfl) (argsL := [(.int p1), (.int (Int32.ofNat nn))]) (rest := []) (lenOf pd_3 rfl) rfl (by show 2 * 0 + _ ≤ _; exact Nat.le_of_eq rfl) (hb hby d32_5) (fun _ _ => ⟨rfl, r1_0, (by decide : 0 + 0 ≤ _), (by decide : 0 + 0 ≤ _)⟩))
  obtain ⟨rfl, N2q, r2_0⟩ := hQ2
  have N2 := Fr.app N1 N2q
  refine OGo.via st2 ?_
  show OGo _ _ _ _ (T2.setTop (mkF m 8 #[.val (.int p1), .val (.ref a2)] []))
  show OGo _ _ _ _ (T2.setTop (mkF m 8 #[.val (.int p1), .val (.ref a2)] []))
  refine own_retV X2 hx Bd.notSynchronized Bd.returns (hb hby d32_8) (by decide) (by decide) ?_
  show Q_rm32 Z _ _ _ _ _ _ h0 n0 _ T2.heap _
  exact ⟨rfl, N2, r2_0⟩
theorem d30_0 : decode jdk_52_method_5_code 0 = .ok (.getstatic 44, 3) := by decide +kernel
theorem d30_3 : decode jdk_52_method_5_code 3 = .ok (.ifCond .ne 25, 3) := by decide +kernel
theorem d30_28 : decode jdk_52_method_5_code 28 = .ok (.iload_n 1, 1) := by decide +kernel
theorem d30_29 : decode jdk_52_method_5_code 29 = .ok (.iconst 1, 1) := by decide +kernel
theorem d30_30 : decode jdk_52_method_5_code 30 = .ok (.ishl, 1) := by decide +kernel
theorem d30_31 : decode jdk_52_method_5_code 31 = .ok (.istore_n 1, 1) := by decide +kernel
theorem d30_32 : decode jdk_52_method_5_code 32 = .ok (.aload_n 0, 1) := by decide +kernel
theorem d30_33 : decode jdk_52_method_5_code 33 = .ok (.iload_n 1, 1) := by decide +kernel
theorem d30_34 : decode jdk_52_method_5_code 34 = .ok (.iinc 1 1, 3) := by decide +kernel
theorem d30_37 : decode jdk_52_method_5_code 37 = .ok (.baload, 1) := by decide +kernel
theorem d30_38 : decode jdk_52_method_5_code 38 = .ok (.sipush 255, 3) := by decide +kernel
theorem d30_41 : decode jdk_52_method_5_code 41 = .ok (.iand, 1) := by decide +kernel
theorem d30_42 : decode jdk_52_method_5_code 42 = .ok (.getstatic 59, 3) := by decide +kernel
theorem d30_45 : decode jdk_52_method_5_code 45 = .ok (.ishl, 1) := by decide +kernel
theorem d30_46 : decode jdk_52_method_5_code 46 = .ok (.aload_n 0, 1) := by decide +kernel
theorem d30_47 : decode jdk_52_method_5_code 47 = .ok (.iload_n 1, 1) := by decide +kernel
theorem d30_48 : decode jdk_52_method_5_code 48 = .ok (.baload, 1) := by decide +kernel
theorem d30_49 : decode jdk_52_method_5_code 49 = .ok (.sipush 255, 3) := by decide +kernel
theorem d30_52 : decode jdk_52_method_5_code 52 = .ok (.iand, 1) := by decide +kernel
theorem d30_53 : decode jdk_52_method_5_code 53 = .ok (.getstatic 63, 3) := by decide +kernel
theorem d30_56 : decode jdk_52_method_5_code 56 = .ok (.ishl, 1) := by decide +kernel
theorem d30_57 : decode jdk_52_method_5_code 57 = .ok (.ior, 1) := by decide +kernel
theorem d30_58 : decode jdk_52_method_5_code 58 = .ok (.i2c, 1) := by decide +kernel
theorem d30_59 : decode jdk_52_method_5_code 59 = .ok (.ireturn, 1) := by decide +kernel
theorem ef_rm30 (m : MethodId) (a1 : Addr) (p2 : Int32) : entryFrame m #[(.ref a1), (.int p2)] 2 = mkF m 0 #[.val (.ref a1), .val (.int p2)] [] := by
  first | (simp [entryFrame, mkF, argsToLocals, Value.category]; done) | rfl
def Q_rm30 (Z : State) (a1 : Addr) (p2 : Int32) (k1 : ClassId) (vs : List Value) (nn : Nat) (jj : Nat) (b0 : Int32) (b1 : Int32) (h0 : Heap) (n0 : Nat) (v : Option Value) (h : Heap) (L : List Loc) : Prop := v = some (.int (own_gc b0 b1)) ∧ Fr n0 L ∧ h = h0
abbrev R_rm30 : Room := ⟨0, 0, 0, 0⟩
set_option maxRecDepth 65536 in
set_option maxHeartbeats 40000000 in
theorem rm30 (l : Launch) (Z : State) (a0 : Array Value) (hw : ∀ d ∈ tables_1, d.before a0 Z = true) (ws : List Jvm.Cond) (a1 : Addr) (p2 : Int32) (k1 : ClassId) (vs : List Value) (nn : Nat) (jj : Nat) (b0 : Int32) (b1 : Int32) (h0 : Heap) (n0 : Nat) (Z0 : n0 ≤ h0.size) (V_a1 : Arv Z h0 a1 k1 .byte (Int32.ofNat (2 * nn)) vs (.int (0 : Int32))) (S__assertionsDisabled : Sta Z h0 "java/lang/StringUTF16" "$assertionsDisabled" "Z" (.int (1 : Int32))) (S_HI_BYTE_SHIFT : Sta Z h0 "java/lang/StringUTF16" "HI_BYTE_SHIFT" "I" (.int (0 : Int32))) (S_LO_BYTE_SHIFT : Sta Z h0 "java/lang/StringUTF16" "LO_BYTE_SHIFT" "I" (.int (8 : Int32))) (hi2 : p2 = Int32.ofNat jj) (hjn : jj < nn) (hnn : nn ≤ 10) (hbt0 : vs.getD (2 * jj) (.int (0 : Int32)) = .int b0) (hbt1 : vs.getD (2 * jj + 1) (.int (0 : Int32)) = .int b1) :
    MetFree l own_y11 (head1 (Jvm.Cond.code own_y11 jdk_52_method_5_code 2 (some .char) :: ws) R_rm30) (fun a U => a = #[(.ref a1), (.int p2)] ∧ Z.Warmed39 U.vm ∧ U.heap = h0) (fun _ _ _ _ _ => True) (fun _ U o U' => ∃ v L, o = .returned v ∧ Q_rm30 Z a1 p2 k1 vs nn jj b0 b1 h0 n0 v U'.heap L ∧ FrameEnd U o U' L R_rm30.cells R_rm30.slots) := by
  refine MetFree.of_bodySF (plainFor_of_name pn_StringUTF16) hisR ?_
  intro p e s m args below meth c s₁ Bd hml0 hP hK
  obtain ⟨rfl, hZ, hh⟩ := hP
  have hx := Bd.exec
  have hby := Bd.bytes
  have hml : c.maxLocals = 2 := hml0
  have hown : s.vm.findClass "java/lang/StringUTF16" = some m.cls := findClass_of_methodNamed Bd.named
  have hnm := (name_of_methodNamed Bd.named Bd.method).1
  have X0 : Stand p l e R_rm30 s m #[(.ref a1), (.int p2)] below meth c s₁ [] 0 0 := Stand.of_body Bd
  have e0 : s₁.heap = h0 := by rw [← hh, Bd.state]; rfl
  have N0 := Fr.nil n0
  show OGo p.tables e below (own_Kq s (fun v h L => Q_rm30 Z a1 p2 k1 vs nn jj b0 b1 h0 n0 v h L) R_rm30.cells R_rm30.slots) (s₁.setTop (entryFrame m #[(.ref a1), (.int p2)] 2))
  refine OGo.cast (ef_rm30 m a1 p2) ?_
  show OGo _ _ _ _ (s₁.setTop (mkF m 0 #[.val (.ref a1), .val (.int p2)] []))
  obtain ⟨T1, X1, e1, st1⟩ := getS2 X0 hx hZ hown (host := "") (Or.inl (own_w hw 130 rfl)) Via.refl e0 S__assertionsDisabled (g := (mkF m 0 #[.val (.ref a1), .val (.int p2)] [])) rfl (hb hby d30_0)
  refine OGo.via st1 ?_
  show OGo _ _ _ _ (T1.setTop (mkF m 3 #[.val (.ref a1), .val (.int p2)] [(.int (1 : Int32))]))
  refine OGo.via (fun _ k => XS.ifYes X1.here hx rfl (pc0 := 3) (pc' := 28) rfl (hb hby d30_3) rfl ((if0 _ _).trans (feq (by decide : ¬ ((1 : Int32) = (0 : Int32)))).2) (by decide) (by decide) (XS.iloadN X1.here hx rfl (hb hby d30_28) rfl (XS.iconst X1.here hx rfl (hb hby d30_29) (XS.ishl X1.here hx rfl (hb hby d30_30) rfl (XS.istoreN X1.here hx rfl (hb hby d30_31) rfl (l' := #[.val (.ref a1), .val (.int (p2 <<< ((1 : Int32) &&& 31)))]) rfl k))))) ?_
  show OGo _ _ _ _ (T1.setTop (mkF m 32 #[.val (.ref a1), .val (.int (p2 <<< ((1 : Int32) &&& 31)))] []))
  rw [hi2]
  rw [own_dbl' (show jj ≤ 10 by omega)]
  show OGo _ _ _ _ (T1.setTop (mkF m 32 #[.val (.ref a1), .val (.int (Int32.ofNat (2 * jj)))] []))
  refine OGo.via (fun _ k => XS.aloadN X1.here hx rfl (hb hby d30_32) rfl rfl (XS.iloadN X1.here hx rfl (hb hby d30_33) rfl (XS.iinc X1.here hx rfl (hb hby d30_34) rfl (l' := #[.val (.ref a1), .val (.int ((Int32.ofNat (2 * jj)) + (1 : Int32)))]) rfl k))) ?_
  show OGo _ _ _ _ (T1.setTop (mkF m 37 #[.val (.ref a1), .val (.int ((Int32.ofNat (2 * jj)) + (1 : Int32)))] [(.int (Int32.ofNat (2 * jj))), (.ref a1)]))
  rw [own_succ (2 * jj)]
  show OGo _ _ _ _ (T1.setTop (mkF m 37 #[.val (.ref a1), .val (.int (Int32.ofNat (2 * jj + 1)))] [(.int (Int32.ofNat (2 * jj))), (.ref a1)]))
  obtain ⟨cl2, Ar2, q2, Sz2, Ng2, Hs2, Gf2⟩ := id V_a1
  have hin2 : ¬ ((Int32.ofNat (2 * jj)) < 0 ∨ cl2.slots.size ≤ ((Int32.ofNat (2 * jj))).toNatClampNeg) := inb_of Sz2 ⟨own_nn (by omega), own_ilt (by omega) (by omega)⟩
  have hat2 : cl2.slots[((Int32.ofNat (2 * jj))).toNatClampNeg]? = some (.int b0) := Hs2.at hin2 (by rw [own_nc (by omega)]; exact hbt0)
  refine OGo.via (X1.baloadBytes hx (j := (Int32.ofNat (2 * jj))) (v := (.int b0)) (by rw [e1]; exact Ar2.1) (State.isArrayOf_alike hZ.alike Ar2.2.1) Ar2.2.2 hin2 hat2 (g := (mkF m 37 #[.val (.ref a1), .val (.int (Int32.ofNat (2 * jj + 1)))] [(.int (Int32.ofNat (2 * jj))), (.ref a1)])) rfl rfl (hb hby d30_37)) ?_
  show OGo _ _ _ _ (T1.setTop (mkF m 38 #[.val (.ref a1), .val (.int (Int32.ofNat (2 * jj + 1)))] [(.int b0)]))
  refine OGo.via (fun _ k => XS.sipush X1.here hx rfl (hb hby d30_38) (XS.iand X1.here hx rfl (hb hby d30_41) rfl k)) ?_
  obtain ⟨T3, X3, e3, st3⟩ := getS2 X1 hx hZ hown (host := "") (Or.inl (own_w hw 131 rfl)) Via.refl e1 S_HI_BYTE_SHIFT (g := (mkF m 42 #[.val (.ref a1), .val (.int (Int32.ofNat (2 * jj + 1)))] [(.int (b0 &&& (255 : Int32)))])) rfl (hb hby d30_42)
  refine OGo.via st3 ?_
  show OGo _ _ _ _ (T3.setTop (mkF m 45 #[.val (.ref a1), .val (.int (Int32.ofNat (2 * jj + 1)))] [(.int (0 : Int32)), (.int (b0 &&& (255 : Int32)))]))
  refine OGo.via (fun _ k => XS.ishl X3.here hx rfl (hb hby d30_45) rfl (XS.aloadN X3.here hx rfl (hb hby d30_46) rfl rfl (XS.iloadN X3.here hx rfl (hb hby d30_47) rfl k))) ?_
  obtain ⟨cl4, Ar4, q4, Sz4, Ng4, Hs4, Gf4⟩ := id V_a1
  have hin4 : ¬ ((Int32.ofNat (2 * jj + 1)) < 0 ∨ cl4.slots.size ≤ ((Int32.ofNat (2 * jj + 1))).toNatClampNeg) := inb_of Sz4 ⟨own_nn (by omega), own_ilt (by omega) (by omega)⟩
  have hat4 : cl4.slots[((Int32.ofNat (2 * jj + 1))).toNatClampNeg]? = some (.int b1) := Hs4.at hin4 (by rw [own_nc (by omega)]; exact hbt1)
  refine OGo.via (X3.baloadBytes hx (j := (Int32.ofNat (2 * jj + 1))) (v := (.int b1)) (by rw [e3]; exact Ar4.1) (State.isArrayOf_alike hZ.alike Ar4.2.1) Ar4.2.2 hin4 hat4 (g := (mkF m 48 #[.val (.ref a1), .val (.int (Int32.ofNat (2 * jj + 1)))] [(.int (Int32.ofNat (2 * jj + 1))), (.ref a1), (.int ((b0 &&& (255 : Int32)) <<< ((0 : Int32) &&& 31)))])) rfl rfl (hb hby d30_48)) ?_
  show OGo _ _ _ _ (T3.setTop (mkF m 49 #[.val (.ref a1), .val (.int (Int32.ofNat (2 * jj + 1)))] [(.int b1), (.int ((b0 &&& (255 : Int32)) <<< ((0 : Int32) &&& 31)))]))
  refine OGo.via (fun _ k => XS.sipush X3.here hx rfl (hb hby d30_49) (XS.iand X3.here hx rfl (hb hby d30_52) rfl k)) ?_
  obtain ⟨T5, X5, e5, st5⟩ := getS2 X3 hx hZ hown (host := "") (Or.inl (own_w hw 132 rfl)) Via.refl e3 S_LO_BYTE_SHIFT (g := (mkF m 53 #[.val (.ref a1), .val (.int (Int32.ofNat (2 * jj + 1)))] [(.int (b1 &&& (255 : Int32))), (.int ((b0 &&& (255 : Int32)) <<< ((0 : Int32) &&& 31)))])) rfl (hb hby d30_53)
  refine OGo.via st5 ?_
  show OGo _ _ _ _ (T5.setTop (mkF m 56 #[.val (.ref a1), .val (.int (Int32.ofNat (2 * jj + 1)))] [(.int (8 : Int32)), (.int (b1 &&& (255 : Int32))), (.int ((b0 &&& (255 : Int32)) <<< ((0 : Int32) &&& 31)))]))
  refine OGo.via (fun _ k => XS.ishl X5.here hx rfl (hb hby d30_56) rfl (XS.ior X5.here hx rfl (hb hby d30_57) rfl (XS.i2c X5.here hx rfl (hb hby d30_58) rfl k))) ?_
  show OGo _ _ _ _ (T5.setTop (mkF m 59 #[.val (.ref a1), .val (.int (Int32.ofNat (2 * jj + 1)))] [(.int ((((b0 &&& (255 : Int32)) <<< ((0 : Int32) &&& 31)) ||| ((b1 &&& (255 : Int32)) <<< ((8 : Int32) &&& 31))).toUInt32.toUInt16.toUInt32.toInt32))]))
  refine own_retN (t := .char) (by simp) X5 hx Bd.notSynchronized Bd.returns (hb hby d30_59) (by decide) (by decide) ?_
  show Q_rm30 Z _ _ _ _ _ _ _ _ h0 n0 _ T5.heap _
  exact ⟨rfl, N0, e5⟩
theorem d29_0 : decode jdk_52_method_4_code 0 = .ok (.getstatic 44, 3) := by decide +kernel
theorem d29_3 : decode jdk_52_method_4_code 3 = .ok (.ifCond .ne 25, 3) := by decide +kernel
theorem d29_28 : decode jdk_52_method_4_code 28 = .ok (.iload_n 1, 1) := by decide +kernel
theorem d29_29 : decode jdk_52_method_4_code 29 = .ok (.iconst 1, 1) := by decide +kernel
theorem d29_30 : decode jdk_52_method_4_code 30 = .ok (.ishl, 1) := by decide +kernel
theorem d29_31 : decode jdk_52_method_4_code 31 = .ok (.istore_n 1, 1) := by decide +kernel
theorem d29_32 : decode jdk_52_method_4_code 32 = .ok (.aload_n 0, 1) := by decide +kernel
theorem d29_33 : decode jdk_52_method_4_code 33 = .ok (.iload_n 1, 1) := by decide +kernel
theorem d29_34 : decode jdk_52_method_4_code 34 = .ok (.iinc 1 1, 3) := by decide +kernel
theorem d29_37 : decode jdk_52_method_4_code 37 = .ok (.iload_n 2, 1) := by decide +kernel
theorem d29_38 : decode jdk_52_method_4_code 38 = .ok (.getstatic 59, 3) := by decide +kernel
theorem d29_41 : decode jdk_52_method_4_code 41 = .ok (.ishr, 1) := by decide +kernel
theorem d29_42 : decode jdk_52_method_4_code 42 = .ok (.i2b, 1) := by decide +kernel
theorem d29_43 : decode jdk_52_method_4_code 43 = .ok (.bastore, 1) := by decide +kernel
theorem d29_44 : decode jdk_52_method_4_code 44 = .ok (.aload_n 0, 1) := by decide +kernel
theorem d29_45 : decode jdk_52_method_4_code 45 = .ok (.iload_n 1, 1) := by decide +kernel
theorem d29_46 : decode jdk_52_method_4_code 46 = .ok (.iload_n 2, 1) := by decide +kernel
theorem d29_47 : decode jdk_52_method_4_code 47 = .ok (.getstatic 63, 3) := by decide +kernel
theorem d29_50 : decode jdk_52_method_4_code 50 = .ok (.ishr, 1) := by decide +kernel
theorem d29_51 : decode jdk_52_method_4_code 51 = .ok (.i2b, 1) := by decide +kernel
theorem d29_52 : decode jdk_52_method_4_code 52 = .ok (.bastore, 1) := by decide +kernel
theorem d29_53 : decode jdk_52_method_4_code 53 = .ok (.return_, 1) := by decide +kernel
theorem ef_rm29 (m : MethodId) (a1 : Addr) (p2 : Int32) (p3 : Int32) : entryFrame m #[(.ref a1), (.int p2), (.int p3)] 3 = mkF m 0 #[.val (.ref a1), .val (.int p2), .val (.int p3)] [] := by
  first | (simp [entryFrame, mkF, argsToLocals, Value.category]; done) | rfl
def Q_rm29 (Z : State) (a1 : Addr) (p2 : Int32) (p3 : Int32) (k1 : ClassId) (vs : List Value) (nn : Nat) (jj : Nat) (w : Int32) (fm : Value) (h0 : Heap) (n0 : Nat) (v : Option Value) (h : Heap) (L : List Loc) : Prop := v = none ∧ Fr n0 L ∧ Keep h0 h [a1] ∧ Arv Z h a1 k1 .byte (Int32.ofNat (2 * nn)) (vs ++ [(.int (own_lo p3))] ++ [(.int (own_hi p3))]) (.int (0 : Int32)) ∧ Sta Z h "java/lang/String" "COMPACT_STRINGS" "Z" (.int w) ∧ Sta Z h "jdk/internal/util/Preconditions" "SIOOBE_FORMATTER" "Ljava/util/function/BiFunction;" fm ∧ Sta Z h "java/lang/StringUTF16" "$assertionsDisabled" "Z" (.int (1 : Int32)) ∧ Sta Z h "java/lang/StringUTF16" "HI_BYTE_SHIFT" "I" (.int (0 : Int32)) ∧ Sta Z h "java/lang/StringUTF16" "LO_BYTE_SHIFT" "I" (.int (8 : Int32))
abbrev R_rm29 : Room := ⟨0, 0, 0, 0⟩
set_option maxRecDepth 65536 in
set_option maxHeartbeats 40000000 in
theorem rm29 (l : Launch) (Z : State) (a0 : Array Value) (hw : ∀ d ∈ tables_1, d.before a0 Z = true) (ws : List Jvm.Cond) (a1 : Addr) (p2 : Int32) (p3 : Int32) (k1 : ClassId) (vs : List Value) (nn : Nat) (jj : Nat) (w : Int32) (fm : Value) (h0 : Heap) (n0 : Nat) (Z0 : n0 ≤ h0.size) (V_a1 : Arv Z h0 a1 k1 .byte (Int32.ofNat (2 * nn)) vs (.int (0 : Int32))) (g_a1 : n0 ≤ a1) (S_COMPACT_STRINGS : Sta Z h0 "java/lang/String" "COMPACT_STRINGS" "Z" (.int w)) (S_SIOOBE_FORMATTER : Sta Z h0 "jdk/internal/util/Preconditions" "SIOOBE_FORMATTER" "Ljava/util/function/BiFunction;" fm) (S__assertionsDisabled : Sta Z h0 "java/lang/StringUTF16" "$assertionsDisabled" "Z" (.int (1 : Int32))) (S_HI_BYTE_SHIFT : Sta Z h0 "java/lang/StringUTF16" "HI_BYTE_SHIFT" "I" (.int (0 : Int32))) (S_LO_BYTE_SHIFT : Sta Z h0 "java/lang/StringUTF16" "LO_BYTE_SHIFT" "I" (.int (8 : Int32))) (hi2 : p2 = Int32.ofNat jj) (hjn : jj < nn) (hnn : nn ≤ 10) (hvl : vs.length = 2 * jj) :
    MetFree l own_y12 (head1 (Jvm.Cond.code own_y12 jdk_52_method_4_code 3 none :: ws) R_rm29) (fun a U => a = #[(.ref a1), (.int p2), (.int p3)] ∧ Z.Warmed39 U.vm ∧ U.heap = h0) (fun _ _ _ _ _ => True) (fun _ U o U' => ∃ v L, o = .returned v ∧ Q_rm29 Z a1 p2 p3 k1 vs nn jj w fm h0 n0 v U'.heap L ∧ FrameEnd U o U' L R_rm29.cells R_rm29.slots) := by
  refine MetFree.of_bodySF (plainFor_of_name pn_StringUTF16) hisR ?_
  intro p e s m args below meth c s₁ Bd hml0 hP hK
  obtain ⟨rfl, hZ, hh⟩ := hP
  have hx := Bd.exec
  have hby := Bd.bytes
  have hml : c.maxLocals = 3 := hml0
  have hown : s.vm.findClass "java/lang/StringUTF16" = some m.cls := findClass_of_methodNamed Bd.named
  have hnm := (name_of_methodNamed Bd.named Bd.method).1
  have X0 : Stand p l e R_rm29 s m #[(.ref a1), (.int p2), (.int p3)] below meth c s₁ [] 0 0 := Stand.of_body Bd
  have e0 : s₁.heap = h0 := by rw [← hh, Bd.state]; rfl
  have N0 := Fr.nil n0
  show OGo p.tables e below (own_Kq s (fun v h L => Q_rm29 Z a1 p2 p3 k1 vs nn jj w fm h0 n0 v h L) R_rm29.cells R_rm29.slots) (s₁.setTop (entryFrame m #[(.ref a1), (.int p2), (.int p3)] 3))
  refine OGo.cast (ef_rm29 m a1 p2 p3) ?_
  show OGo _ _ _ _ (s₁.setTop (mkF m 0 #[.val (.ref a1), .val (.int p2), .val (.int p3)] []))
  obtain ⟨T1, X1, e1, st1⟩ := getS2 X0 hx hZ hown (host := "") (Or.inl (own_w hw 130 rfl)) Via.refl e0 S__assertionsDisabled (g := (mkF m 0 #[.val (.ref a1), .val (.int p2), .val (.int p3)] [])) rfl (hb hby d29_0)
  refine OGo.via st1 ?_
  show OGo _ _ _ _ (T1.setTop (mkF m 3 #[.val (.ref a1), .val (.int p2), .val (.int p3)] [(.int (1 : Int32))]))
  refine OGo.via (fun _ k => XS.ifYes X1.here hx rfl (pc0 := 3) (pc' := 28) rfl (hb hby d29_3) rfl ((if0 _ _).trans (feq (by decide : ¬ ((1 : Int32) = (0 : Int32)))).2) (by decide) (by decide) (XS.iloadN X1.here hx rfl (hb hby d29_28) rfl (XS.iconst X1.here hx rfl (hb hby d29_29) (XS.ishl X1.here hx rfl (hb hby d29_30) rfl (XS.istoreN X1.here hx rfl (hb hby d29_31) rfl (l' := #[.val (.ref a1), .val (.int (p2 <<< ((1 : Int32) &&& 31))), .val (.int p3)]) rfl k))))) ?_
  show OGo _ _ _ _ (T1.setTop (mkF m 32 #[.val (.ref a1), .val (.int (p2 <<< ((1 : Int32) &&& 31))), .val (.int p3)] []))
  rw [hi2]
  rw [own_dbl' (show jj ≤ 10 by omega)]
  show OGo _ _ _ _ (T1.setTop (mkF m 32 #[.val (.ref a1), .val (.int (Int32.ofNat (2 * jj))), .val (.int p3)] []))
  refine OGo.via (fun _ k => XS.aloadN X1.here hx rfl (hb hby d29_32) rfl rfl (XS.iloadN X1.here hx rfl (hb hby d29_33) rfl (XS.iinc X1.here hx rfl (hb hby d29_34) rfl (l' := #[.val (.ref a1), .val (.int ((Int32.ofNat (2 * jj)) + (1 : Int32))), .val (.int p3)]) rfl k))) ?_
  show OGo _ _ _ _ (T1.setTop (mkF m 37 #[.val (.ref a1), .val (.int ((Int32.ofNat (2 * jj)) + (1 : Int32))), .val (.int p3)] [(.int (Int32.ofNat (2 * jj))), (.ref a1)]))
  rw [own_succ (2 * jj)]
  show OGo _ _ _ _ (T1.setTop (mkF m 37 #[.val (.ref a1), .val (.int (Int32.ofNat (2 * jj + 1))), .val (.int p3)] [(.int (Int32.ofNat (2 * jj))), (.ref a1)]))
  refine OGo.via (fun _ k => XS.iloadN X1.here hx rfl (hb hby d29_37) rfl k) ?_
  obtain ⟨T2, X2, e2, st2⟩ := getS2 X1 hx hZ hown (host := "") (Or.inl (own_w hw 131 rfl)) Via.refl e1 S_HI_BYTE_SHIFT (g := (mkF m 38 #[.val (.ref a1), .val (.int (Int32.ofNat (2 * jj + 1))), .val (.int p3)] [(.int p3), (.int (Int32.ofNat (2 * jj))), (.ref a1)])) rfl (hb hby d29_38)
  refine OGo.via st2 ?_
  show OGo _ _ _ _ (T2.setTop (mkF m 41 #[.val (.ref a1), .val (.int (Int32.ofNat (2 * jj + 1))), .val (.int p3)] [(.int (0 : Int32)), (.int p3), (.int (Int32.ofNat (2 * jj))), (.ref a1)]))
  refine OGo.via (fun _ k => XS.ishr X2.here hx rfl (hb hby d29_41) rfl (XS.i2b X2.here hx rfl (hb hby d29_42) rfl k)) ?_
  obtain ⟨cl3, Ar3, q3, Sz3, Ng3, Hs3, Gf3⟩ := id V_a1
  have hin3 : ¬ ((Int32.ofNat (2 * jj)) < 0 ∨ cl3.slots.size ≤ ((Int32.ofNat (2 * jj))).toNatClampNeg) := inb_of Sz3 ⟨own_nn (by omega), own_ilt (by omega) (by omega)⟩
  obtain ⟨T3, h3, X3, e3, W3, st3⟩ := stB X2 hx hZ e2 Ar3 (j := (Int32.ofNat (2 * jj))) hin3 (g := (mkF m 43 #[.val (.ref a1), .val (.int (Int32.ofNat (2 * jj + 1))), .val (.int p3)] [(.int ((p3 >>> ((0 : Int32) &&& 31)).toInt8.toInt32)), (.int (Int32.ofNat (2 * jj))), (.ref a1)])) rfl rfl (hb hby d29_43)
  refine OGo.via st3 ?_
  have V3 : Arv Z h3 a1 k1 .byte (Int32.ofNat (2 * nn)) (vs ++ [(.int (((p3 >>> ((0 : Int32) &&& 31)).toInt8.toInt32).toInt8.toInt32))]) (.int (0 : Int32)) := own_push Ar3 q3 Sz3 Ng3 Hs3 Gf3 (fits_nar_byte _) W3 (by rw [own_nc (by omega)]; exact hvl.symm)
  have K3 : Keep h0 h3 [a1] := (Keep.refl h0 [a1]).wr W3 (Or.inl (List.mem_of_getElem? (i := 0) rfl))
  have N3 := Fr.snoc X3 N0 g_a1
  show OGo _ _ _ _ (T3.setTop (mkF m 44 #[.val (.ref a1), .val (.int (Int32.ofNat (2 * jj + 1))), .val (.int p3)] []))
  refine OGo.via (fun _ k => XS.aloadN X3.here hx rfl (hb hby d29_44) rfl rfl (XS.iloadN X3.here hx rfl (hb hby d29_45) rfl (XS.iloadN X3.here hx rfl (hb hby d29_46) rfl k))) ?_
  have f5 := S_LO_BYTE_SHIFT.wr W3
  obtain ⟨T4, X4, e4, st4⟩ := getS2 X3 hx hZ hown (host := "") (Or.inl (own_w hw 132 rfl)) Via.refl e3 f5 (g := (mkF m 47 #[.val (.ref a1), .val (.int (Int32.ofNat (2 * jj + 1))), .val (.int p3)] [(.int p3), (.int (Int32.ofNat (2 * jj + 1))), (.ref a1)])) rfl (hb hby d29_47)
  refine OGo.via st4 ?_
  show OGo _ _ _ _ (T4.setTop (mkF m 50 #[.val (.ref a1), .val (.int (Int32.ofNat (2 * jj + 1))), .val (.int p3)] [(.int (8 : Int32)), (.int p3), (.int (Int32.ofNat (2 * jj + 1))), (.ref a1)]))
  refine OGo.via (fun _ k => XS.ishr X4.here hx rfl (hb hby d29_50) rfl (XS.i2b X4.here hx rfl (hb hby d29_51) rfl k)) ?_
  obtain ⟨cl6, Ar6, q6, Sz6, Ng6, Hs6, Gf6⟩ := id V3
  have hin6 : ¬ ((Int32.ofNat (2 * jj + 1)) < 0 ∨ cl6.slots.size ≤ ((Int32.ofNat (2 * jj + 1))).toNatClampNeg) := inb_of Sz6 ⟨own_nn (by omega), own_ilt (by omega) (by omega)⟩
  obtain ⟨T6, h6, X6, e6, W6, st6⟩ := stB X4 hx hZ e4 Ar6 (j := (Int32.ofNat (2 * jj + 1))) hin6 (g := (mkF m 52 #[.val (.ref a1), .val (.int (Int32.ofNat (2 * jj + 1))), .val (.int p3)] [(.int ((p3 >>> ((8 : Int32) &&& 31)).toInt8.toInt32)), (.int (Int32.ofNat (2 * jj + 1))), (.ref a1)])) rfl rfl (hb hby d29_52)
  refine OGo.via st6 ?_
  have V6 : Arv Z h6 a1 k1 .byte (Int32.ofNat (2 * nn)) (vs ++ [(.int (((p3 >>> ((0 : Int32) &&& 31)).toInt8.toInt32).toInt8.toInt32))] ++ [(.int (((p3 >>> ((8 : Int32) &&& 31)).toInt8.toInt32).toInt8.toInt32))]) (.int (0 : Int32)) := own_push Ar6 q6 Sz6 Ng6 Hs6 Gf6 (fits_nar_byte _) W6 (by rw [own_nc (by omega)]; exact (by simp [hvl]))
  have K6 : Keep h0 h6 [a1] := K3.wr W6 (Or.inl (List.mem_of_getElem? (i := 0) rfl))
  have N6 := Fr.snoc X6 N3 g_a1
  show OGo _ _ _ _ (T6.setTop (mkF m 53 #[.val (.ref a1), .val (.int (Int32.ofNat (2 * jj + 1))), .val (.int p3)] []))
  show OGo _ _ _ _ (T6.setTop (mkF m 53 #[.val (.ref a1), .val (.int (Int32.ofNat (2 * jj + 1))), .val (.int p3)] []))
  have f7 := S_COMPACT_STRINGS.wr W3
  have f8 := f7.wr W6
  have f9 := S_SIOOBE_FORMATTER.wr W3
  have f10 := f9.wr W6
  have f11 := S__assertionsDisabled.wr W3
  have f12 := f11.wr W6
  have f13 := S_HI_BYTE_SHIFT.wr W3
  have f14 := f13.wr W6
  have f15 := f5.wr W6
  refine own_retV X6 hx Bd.notSynchronized Bd.returns (hb hby d29_53) (by decide) (by decide) ?_
  show Q_rm29 Z _ _ _ _ _ _ _ _ _ h0 n0 _ T6.heap _
  rw [e6]
  exact ⟨rfl, N6, K6, V6, f8, f10, f12, f14, f15⟩
theorem own_iltB {n : Nat} (h : n ≤ 10) : Int32.ofNat n < (1073741823 : Int32) := by
  rw [Int32.lt_iff_toInt_lt, own_ti (by omega)]; show (n : Int) < 1073741823; omega
def own_u (cs : List Int32) : List Int32 := cs.flatMap (fun c => [own_lo c, own_hi c])
theorem own_uL (cs : List Int32) : (own_u cs).length = 2 * cs.length := by
  induction cs with
  | nil => rfl
  | cons c t ih => show (own_lo c :: own_hi c :: own_u t).length = _; simp [ih]; omega
theorem own_uG : ∀ (cs : List Int32) (j : Nat), j < cs.length → (own_u cs).getD (2 * j) 0 = own_lo (cs.getD j 0) ∧ (own_u cs).getD (2 * j + 1) 0 = own_hi (cs.getD j 0)
  | [], j, h => absurd h (by simp)
  | c :: t, 0, _ => ⟨rfl, rfl⟩
  | c :: t, j + 1, h => by
    have q := own_uG t j (by simpa using h)
    show (own_lo c :: own_hi c :: own_u t).getD (2 * (j + 1)) 0 = _ ∧ (own_lo c :: own_hi c :: own_u t).getD (2 * (j + 1) + 1) 0 = _
    rw [show 2 * (j + 1) = 2 * j + 1 + 1 from by omega]
    simpa using q
theorem own_uS {cs : List Int32} {j : Nat} (h : j < cs.length) : List.map Value.int (own_u (cs.take j)) ++ [Value.int (own_lo (cs.getD j 0))] ++ [Value.int (own_hi (cs.getD j 0))] = List.map Value.int (own_u (cs.take (j + 1))) := by
  have e : cs.getD j 0 = cs[j] := by simp [List.getD, h]
  rw [e, List.take_succ_eq_append_getElem h]
  unfold own_u
  rw [List.flatMap_append, List.map_append, List.append_assoc]; rfl
theorem own_uT {cs : List Int32} {j : Nat} (h : j ≤ cs.length) : (List.map Value.int (own_u (cs.take j))).length = 2 * j := by simp [own_uL]; omega
theorem own_gc_n (a b : Int32) : nar .char (own_gc a b) = own_gc a b := by
  have q : ∀ y : Int32, nar .char (nar .char y) = nar .char y := fun y => by
    show (y.toUInt32.toUInt16.toUInt32.toInt32).toUInt32.toUInt16.toUInt32.toInt32 = y.toUInt32.toUInt16.toUInt32.toInt32
    simp only [UInt32.toUInt32_toInt32, UInt16.toUInt16_toUInt32]
  exact q _
theorem d31_0 : decode jdk_52_method_83_code 0 = .ok (.iload_n 1, 1) := by decide +kernel
theorem d31_1 : decode jdk_52_method_83_code 1 = .ok (.aload_n 0, 1) := by decide +kernel
theorem d31_2 : decode jdk_52_method_83_code 2 = .ok (.invokestatic 67, 3) := by decide +kernel
theorem pd_4 : parseMethodDescriptor "(I[B)V" = some ⟨[.int, (.array .byte)], none⟩ := by decide +kernel
theorem d31_5 : decode jdk_52_method_83_code 5 = .ok (.aload_n 0, 1) := by decide +kernel
theorem d31_6 : decode jdk_52_method_83_code 6 = .ok (.iload_n 1, 1) := by decide +kernel
theorem d31_7 : decode jdk_52_method_83_code 7 = .ok (.invokestatic 71, 3) := by decide +kernel
theorem pd_5 : parseMethodDescriptor "([BI)C" = some ⟨[(.array .byte), .int], some .char⟩ := by decide +kernel
theorem d31_10 : decode jdk_52_method_83_code 10 = .ok (.ireturn, 1) := by decide +kernel
theorem ef_rm31 (m : MethodId) (a1 : Addr) (p2 : Int32) : entryFrame m #[(.ref a1), (.int p2)] 2 = mkF m 0 #[.val (.ref a1), .val (.int p2)] [] := by
  first | (simp [entryFrame, mkF, argsToLocals, Value.category]; done) | rfl
def Q_rm31 (Z : State) (a1 : Addr) (p2 : Int32) (k1 : ClassId) (vs : List Value) (nn : Nat) (jj : Nat) (b0 : Int32) (b1 : Int32) (fm : Value) (h0 : Heap) (n0 : Nat) (v : Option Value) (h : Heap) (L : List Loc) : Prop := v = some (.int (own_gc b0 b1)) ∧ Fr n0 L ∧ h = h0
abbrev R_rm31 : Room := ⟨3, 0, 0, 40⟩
set_option maxRecDepth 65536 in
set_option maxHeartbeats 40000000 in
theorem rm31 (l : Launch) (Z : State) (a0 : Array Value) (hw : ∀ d ∈ tables_1, d.before a0 Z = true) (ws : List Jvm.Cond) (a1 : Addr) (p2 : Int32) (k1 : ClassId) (vs : List Value) (nn : Nat) (jj : Nat) (b0 : Int32) (b1 : Int32) (fm : Value) (h0 : Heap) (n0 : Nat) (Z0 : n0 ≤ h0.size) (V_a1 : Arv Z h0 a1 k1 .byte (Int32.ofNat (2 * nn)) vs (.int (0 : Int32))) (S__assertionsDisabled : Sta Z h0 "java/lang/StringUTF16" "$assertionsDisabled" "Z" (.int (1 : Int32))) (S_HI_BYTE_SHIFT : Sta Z h0 "java/lang/StringUTF16" "HI_BYTE_SHIFT" "I" (.int (0 : Int32))) (S_LO_BYTE_SHIFT : Sta Z h0 "java/lang/StringUTF16" "LO_BYTE_SHIFT" "I" (.int (8 : Int32))) (hi2 : p2 = Int32.ofNat jj) (hjn : jj < nn) (hnn : nn ≤ 10) (hbt0 : vs.getD (2 * jj) (.int (0 : Int32)) = .int b0) (hbt1 : vs.getD (2 * jj + 1) (.int (0 : Int32)) = .int b1) (S_SIOOBE_FORMATTER : Sta Z h0 "jdk/internal/util/Preconditions" "SIOOBE_FORMATTER" "Ljava/util/function/BiFunction;" fm) (hr_fm : fm.isRef = true) :
    MetFree l own_y13 (head1 (Jvm.Cond.code own_y13 jdk_52_method_83_code 2 (some .char) :: ws) R_rm31) (fun a U => a = #[(.ref a1), (.int p2)] ∧ Z.Warmed39 U.vm ∧ U.heap = h0) (fun _ _ _ _ _ => True) (fun _ U o U' => ∃ v L, o = .returned v ∧ Q_rm31 Z a1 p2 k1 vs nn jj b0 b1 fm h0 n0 v U'.heap L ∧ FrameEnd U o U' L R_rm31.cells R_rm31.slots) := by
  refine MetFree.of_bodySF (plainFor_of_name pn_StringUTF16) hisR ?_
  intro p e s m args below meth c s₁ Bd hml0 hP hK
  obtain ⟨rfl, hZ, hh⟩ := hP
  have hx := Bd.exec
  have hby := Bd.bytes
  have hml : c.maxLocals = 2 := hml0
  have hown : s.vm.findClass "java/lang/StringUTF16" = some m.cls := findClass_of_methodNamed Bd.named
  have hnm := (name_of_methodNamed Bd.named Bd.method).1
  have X0 : Stand p l e R_rm31 s m #[(.ref a1), (.int p2)] below meth c s₁ [] 0 0 := Stand.of_body Bd
  have e0 : s₁.heap = h0 := by rw [← hh, Bd.state]; rfl
  have N0 := Fr.nil n0
  show OGo p.tables e below (own_Kq s (fun v h L => Q_rm31 Z a1 p2 k1 vs nn jj b0 b1 fm h0 n0 v h L) R_rm31.cells R_rm31.slots) (s₁.setTop (entryFrame m #[(.ref a1), (.int p2)] 2))
  refine OGo.cast (ef_rm31 m a1 p2) ?_
  show OGo _ _ _ _ (s₁.setTop (mkF m 0 #[.val (.ref a1), .val (.int p2)] []))
  refine OGo.via (fun _ k => XS.iloadN X0.here hx rfl (hb hby d31_0) rfl (XS.aloadN X0.here hx rfl (hb hby d31_1) rfl rfl k)) ?_
  obtain ⟨_, T1, Lc1, X1, hQ1, st1⟩ := own_open X0 (Jvm.LawKit.callS X0 hx (y := own_y10) hown (mvT hZ (own_w hw 139 rfl)) (mvT hZ (own_w hw 140 rfl)) (mvT hZ (own_w hw 62 rfl)) (mvT hZ (own_w hw 141 rfl)) (by decide) (backOf (W := 0) (rm32 l Z a0 hw [] p2 a1 k1 vs nn fm h0 n0 Z0 V_a1 S_SIOOBE_FORMATTER hr_fm hnn (by rw [hi2]; exact own_nn (by omega)) (by rw [hi2]; exact own_ilt hjn (by omega))) hZ (own_w hw 141 rfl) (own_w hw 62 rfl) (by decide) (by decide)) (g := (mkF m 2 #[.val (.ref a1), .val (.int p2)] [(.ref a1), (.int p2)])) rfl (by rw [hml]; rfl) (argsL := [(.int p2), (.ref a1)]) (rest := []) (lenOf pd_4 rfl) rfl (by show 2 * 0 + _ ≤ _; exact Nat.le_of_eq rfl) (hb hby d31_2) (fun _ _ => ⟨rfl, e0, (by decide : 0 + 0 ≤ _), (by decide : 0 + 0 ≤ _)⟩))
  obtain ⟨rfl, N1q, r1_0⟩ := hQ1
  have N1 := Fr.app N0 N1q
  refine OGo.via st1 ?_
  show OGo _ _ _ _ (T1.setTop (mkF m 5 #[.val (.ref a1), .val (.int p2)] []))
  refine OGo.via (fun _ k => XS.aloadN X1.here hx rfl (hb hby d31_5) rfl rfl (XS.iloadN X1.here hx rfl (hb hby d31_6) rfl k)) ?_
  obtain ⟨_, T2, Lc2, X2, hQ2, st2⟩ := own_open X1 (Jvm.LawKit.callS X1 hx (y := own_y11) hown (mvT hZ (own_w hw 133 rfl)) (mvT hZ (own_w hw 134 rfl)) (mvT hZ (own_w hw 62 rfl)) (mvT hZ (own_w hw 135 rfl)) (by decide) (backOf (W := 0) (rm30 l Z a0 hw [] a1 p2 k1 vs nn jj b0 b1 h0 n0 Z0 V_a1 S__assertionsDisabled S_HI_BYTE_SHIFT S_LO_BYTE_SHIFT hi2 hjn hnn hbt0 hbt1) hZ (own_w hw 135 rfl) (own_w hw 62 rfl) (by decide) (by decide)) (g := (mkF m 7 #[.val (.ref a1), .val (.int p2)] [(.int p2), (.ref a1)])) rfl (by rw [hml]; rfl) (argsL := [(.ref a1), (.int p2)]) (rest := []) (lenOf pd_5 rfl) rfl (by show 2 * 0 + _ ≤ _; exact Nat.le_of_eq rfl) (hb hby d31_7) (fun _ _ => ⟨rfl, r1_0, (by decide : 0 + 0 ≤ _), (by decide : 0 + 0 ≤ _)⟩))
  obtain ⟨rfl, N2q, r2_0⟩ := hQ2
  have N2 := Fr.app N1 N2q
  refine OGo.via st2 ?_
  show OGo _ _ _ _ (T2.setTop (mkF m 10 #[.val (.ref a1), .val (.int p2)] [(.int (own_gc b0 b1))]))
  show OGo _ _ _ _ (T2.setTop (mkF m 10 #[.val (.ref a1), .val (.int p2)] [(.int (own_gc b0 b1))]))
  refine own_retN (t := .char) (by simp) X2 hx Bd.notSynchronized Bd.returns (hb hby d31_10) (by decide) (by decide) ?_
  show Q_rm31 Z _ _ _ _ _ _ _ _ _ h0 n0 _ T2.heap _
  exact ⟨(by rw [own_gc_n]), N2, r2_0⟩
theorem d17_0 : decode jdk_43_method_2_code 0 = .ok (.iload_n 1, 1) := by decide +kernel
theorem d17_1 : decode jdk_43_method_2_code 1 = .ok (.aload_n 0, 1) := by decide +kernel
theorem d17_2 : decode jdk_43_method_2_code 2 = .ok (.arraylength, 1) := by decide +kernel
theorem d17_3 : decode jdk_43_method_2_code 3 = .ok (.invokestatic 9, 3) := by decide +kernel
theorem d17_6 : decode jdk_43_method_2_code 6 = .ok (.aload_n 0, 1) := by decide +kernel
theorem d17_7 : decode jdk_43_method_2_code 7 = .ok (.iload_n 1, 1) := by decide +kernel
theorem d17_8 : decode jdk_43_method_2_code 8 = .ok (.baload, 1) := by decide +kernel
theorem d17_9 : decode jdk_43_method_2_code 9 = .ok (.sipush 255, 3) := by decide +kernel
theorem d17_12 : decode jdk_43_method_2_code 12 = .ok (.iand, 1) := by decide +kernel
theorem d17_13 : decode jdk_43_method_2_code 13 = .ok (.i2c, 1) := by decide +kernel
theorem d17_14 : decode jdk_43_method_2_code 14 = .ok (.ireturn, 1) := by decide +kernel
theorem pn_StringLatin1 : plainName "java/lang/StringLatin1" = true := by first | (simp [plainName, overriddenIn]; done) | decide +kernel
theorem ef_rm17 (m : MethodId) (a1 : Addr) (p2 : Int32) : entryFrame m #[(.ref a1), (.int p2)] 2 = mkF m 0 #[.val (.ref a1), .val (.int p2)] [] := by
  first | (simp [entryFrame, mkF, argsToLocals, Value.category]; done) | rfl
def Q_rm17 (Z : State) (a1 : Addr) (p2 : Int32) (k1 : ClassId) (fm : Value) (z : Int32) (vs : List Value) (b0 : Int32) (h0 : Heap) (n0 : Nat) (v : Option Value) (h : Heap) (L : List Loc) : Prop := v = some (.int (own_ch b0)) ∧ Fr n0 L ∧ h = h0
abbrev R_rm17 : Room := ⟨2, 0, 0, 27⟩
set_option maxRecDepth 65536 in
set_option maxHeartbeats 40000000 in
theorem rm17 (l : Launch) (Z : State) (a0 : Array Value) (hw : ∀ d ∈ tables_1, d.before a0 Z = true) (ws : List Jvm.Cond) (a1 : Addr) (p2 : Int32) (k1 : ClassId) (fm : Value) (z : Int32) (vs : List Value) (b0 : Int32) (h0 : Heap) (n0 : Nat) (Z0 : n0 ≤ h0.size) (V_a1 : Arv Z h0 a1 k1 .byte z vs (.int (0 : Int32))) (S_SIOOBE_FORMATTER : Sta Z h0 "jdk/internal/util/Preconditions" "SIOOBE_FORMATTER" "Ljava/util/function/BiFunction;" fm) (hr_fm : fm.isRef = true) (hb1 : ¬ p2 < (0 : Int32)) (hb2 : p2 < z) (hel : vs.getD p2.toNatClampNeg (.int (0 : Int32)) = .int b0) :
    MetFree l own_y14 (head1 (Jvm.Cond.code own_y14 jdk_43_method_2_code 2 (some .char) :: ws) R_rm17) (fun a U => a = #[(.ref a1), (.int p2)] ∧ Z.Warmed39 U.vm ∧ U.heap = h0) (fun _ _ _ _ _ => True) (fun _ U o U' => ∃ v L, o = .returned v ∧ Q_rm17 Z a1 p2 k1 fm z vs b0 h0 n0 v U'.heap L ∧ FrameEnd U o U' L R_rm17.cells R_rm17.slots) := by
  refine MetFree.of_bodySF (plainFor_of_name pn_StringLatin1) hisR ?_
  intro p e s m args below meth c s₁ Bd hml0 hP hK
  obtain ⟨rfl, hZ, hh⟩ := hP
  have hx := Bd.exec
  have hby := Bd.bytes
  have hml : c.maxLocals = 2 := hml0
  have hown : s.vm.findClass "java/lang/StringLatin1" = some m.cls := findClass_of_methodNamed Bd.named
  have hnm := (name_of_methodNamed Bd.named Bd.method).1
  have X0 : Stand p l e R_rm17 s m #[(.ref a1), (.int p2)] below meth c s₁ [] 0 0 := Stand.of_body Bd
  have e0 : s₁.heap = h0 := by rw [← hh, Bd.state]; rfl
  have N0 := Fr.nil n0
  show OGo p.tables e below (own_Kq s (fun v h L => Q_rm17 Z a1 p2 k1 fm z vs b0 h0 n0 v h L) R_rm17.cells R_rm17.slots) (s₁.setTop (entryFrame m #[(.ref a1), (.int p2)] 2))
  refine OGo.cast (ef_rm17 m a1 p2) ?_
  show OGo _ _ _ _ (s₁.setTop (mkF m 0 #[.val (.ref a1), .val (.int p2)] []))
  refine OGo.via (fun _ k => XS.iloadN X0.here hx rfl (hb hby d17_0) rfl (XS.aloadN X0.here hx rfl (hb hby d17_1) rfl rfl k)) ?_
  obtain ⟨cl1, Ar1, q1, Sz1, Ng1, Hs1, Gf1⟩ := id V_a1
  refine OGo.via (X0.arraylength hx (by rw [e0]; exact Ar1.1) (State.isArrayOf_alike hZ.alike Ar1.2.1) (g := (mkF m 2 #[.val (.ref a1), .val (.int p2)] [(.ref a1), (.int p2)])) rfl rfl (hb hby d17_2)) ?_
  rw [len_of Sz1 Ng1]
  show OGo _ _ _ _ (s₁.setTop (mkF m 3 #[.val (.ref a1), .val (.int p2)] [(.int z), (.int p2)]))
  obtain ⟨_, T2, Lc2, X2, hQ2, st2⟩ := own_open X0 (Jvm.LawKit.callS X0 hx (y := own_y8) hown (mvT hZ (own_w hw 84 rfl)) (mvT hZ (own_w hw 85 rfl)) (mvT hZ (own_w hw 11 rfl)) (mvT hZ (own_w hw 86 rfl)) (by decide) (backOf (W := 0) (rm18 l Z a0 hw [] p2 z fm h0 n0 Z0 S_SIOOBE_FORMATTER hb1 hb2 hr_fm) hZ (own_w hw 86 rfl) (own_w hw 11 rfl) (by decide) (by decide)) (g := (mkF m 3 #[.val (.ref a1), .val (.int p2)] [(.int z), (.int p2)])) rfl (by rw [hml]; rfl) (argsL := [(.int p2), (.int z)]) (rest := []) (lenOf pd_3 rfl) rfl (by show 2 * 0 + _ ≤ _; exact Nat.le_of_eq rfl) (hb hby d17_3) (fun _ _ => ⟨rfl, e0, (by decide : 0 + 0 ≤ _), (by decide : 0 + 0 ≤ _)⟩))
  obtain ⟨rfl, N2q, r2_0⟩ := hQ2
  have N2 := Fr.app N0 N2q
  refine OGo.via st2 ?_
  show OGo _ _ _ _ (T2.setTop (mkF m 6 #[.val (.ref a1), .val (.int p2)] []))
  refine OGo.via (fun _ k => XS.aloadN X2.here hx rfl (hb hby d17_6) rfl rfl (XS.iloadN X2.here hx rfl (hb hby d17_7) rfl k)) ?_
  obtain ⟨cl3, Ar3, q3, Sz3, Ng3, Hs3, Gf3⟩ := id V_a1
  have hin3 : ¬ (p2 < 0 ∨ cl3.slots.size ≤ (p2).toNatClampNeg) := inb_of Sz3 ⟨hb1, hb2⟩
  have hat3 : cl3.slots[(p2).toNatClampNeg]? = some (.int b0) := Hs3.at hin3 hel
  refine OGo.via (X2.baloadBytes hx (j := p2) (v := (.int b0)) (by rw [r2_0]; exact Ar3.1) (State.isArrayOf_alike hZ.alike Ar3.2.1) Ar3.2.2 hin3 hat3 (g := (mkF m 8 #[.val (.ref a1), .val (.int p2)] [(.int p2), (.ref a1)])) rfl rfl (hb hby d17_8)) ?_
  show OGo _ _ _ _ (T2.setTop (mkF m 9 #[.val (.ref a1), .val (.int p2)] [(.int b0)]))
  refine OGo.via (fun _ k => XS.sipush X2.here hx rfl (hb hby d17_9) (XS.iand X2.here hx rfl (hb hby d17_12) rfl (XS.i2c X2.here hx rfl (hb hby d17_13) rfl k))) ?_
  show OGo _ _ _ _ (T2.setTop (mkF m 14 #[.val (.ref a1), .val (.int p2)] [(.int ((b0 &&& (255 : Int32)).toUInt32.toUInt16.toUInt32.toInt32))]))
  refine own_retN (t := .char) (by simp) X2 hx Bd.notSynchronized Bd.returns (hb hby d17_14) (by decide) (by decide) ?_
  show Q_rm17 Z _ _ _ _ _ _ _ h0 n0 _ T2.heap _
  exact ⟨rfl, N2, r2_0⟩
theorem d39_0 : decode jdk_41_method_13_code 0 = .ok (.iload_n 2, 1) := by decide +kernel
theorem d39_1 : decode jdk_41_method_13_code 1 = .ok (.iload_n 0, 1) := by decide +kernel
theorem d39_2 : decode jdk_41_method_13_code 2 = .ok (.ior, 1) := by decide +kernel
theorem d39_3 : decode jdk_41_method_13_code 3 = .ok (.iload_n 1, 1) := by decide +kernel
theorem d39_4 : decode jdk_41_method_13_code 4 = .ok (.ior, 1) := by decide +kernel
theorem d39_5 : decode jdk_41_method_13_code 5 = .ok (.ifCond .lt 10, 3) := by decide +kernel
theorem d39_8 : decode jdk_41_method_13_code 8 = .ok (.iload_n 1, 1) := by decide +kernel
theorem d39_9 : decode jdk_41_method_13_code 9 = .ok (.iload_n 2, 1) := by decide +kernel
theorem d39_10 : decode jdk_41_method_13_code 10 = .ok (.iload_n 0, 1) := by decide +kernel
theorem d39_11 : decode jdk_41_method_13_code 11 = .ok (.isub, 1) := by decide +kernel
theorem d39_12 : decode jdk_41_method_13_code 12 = .ok (.if_icmp .le 11, 3) := by decide +kernel
theorem d39_23 : decode jdk_41_method_13_code 23 = .ok (.iload_n 0, 1) := by decide +kernel
theorem d39_24 : decode jdk_41_method_13_code 24 = .ok (.ireturn, 1) := by decide +kernel
theorem ef_rm39 (m : MethodId) (p1 : Int32) (p2 : Int32) (p3 : Int32) (fm : Value) (hr_fm : fm.isRef = true) : entryFrame m #[(.int p1), (.int p2), (.int p3), fm] 4 = mkF m 0 #[.val (.int p1), .val (.int p2), .val (.int p3), .val fm] [] := by
  cases fm <;> first | exact Bool.noConfusion hr_fm | skip
  all_goals first | (simp [entryFrame, mkF, argsToLocals, Value.category]; done) | rfl
def Q_rm39 (Z : State) (p1 : Int32) (p2 : Int32) (p3 : Int32) (fm : Value) (h0 : Heap) (n0 : Nat) (v : Option Value) (h : Heap) (L : List Loc) : Prop := v = some (.int p1) ∧ Fr n0 L ∧ h = h0
abbrev R_rm39 : Room := ⟨0, 0, 0, 0⟩
set_option maxRecDepth 65536 in
set_option maxHeartbeats 40000000 in
theorem rm39 (l : Launch) (Z : State) (a0 : Array Value) (hw : ∀ d ∈ tables_1, d.before a0 Z = true) (ws : List Jvm.Cond) (p1 : Int32) (p2 : Int32) (p3 : Int32) (fm : Value) (h0 : Heap) (n0 : Nat) (Z0 : n0 ≤ h0.size) (hb1 : ¬ ((p3 ||| p1) ||| p2) < (0 : Int32)) (hb2 : ¬ (p3 - p1) < p2) (hr_fm : fm.isRef = true) :
    MetFree l own_y15 (head1 (Jvm.Cond.code own_y15 jdk_41_method_13_code 4 (some .int) :: ws) R_rm39) (fun a U => a = #[(.int p1), (.int p2), (.int p3), fm] ∧ Z.Warmed39 U.vm ∧ U.heap = h0) (fun _ _ _ _ _ => True) (fun _ U o U' => ∃ v L, o = .returned v ∧ Q_rm39 Z p1 p2 p3 fm h0 n0 v U'.heap L ∧ FrameEnd U o U' L R_rm39.cells R_rm39.slots) := by
  refine MetFree.of_bodySF (plainFor_of_name pn_Preconditions) hisR ?_
  intro p e s m args below meth c s₁ Bd hml0 hP hK
  obtain ⟨rfl, hZ, hh⟩ := hP
  have hx := Bd.exec
  have hby := Bd.bytes
  have hml : c.maxLocals = 4 := hml0
  have hown : s.vm.findClass "jdk/internal/util/Preconditions" = some m.cls := findClass_of_methodNamed Bd.named
  have hnm := (name_of_methodNamed Bd.named Bd.method).1
  have X0 : Stand p l e R_rm39 s m #[(.int p1), (.int p2), (.int p3), fm] below meth c s₁ [] 0 0 := Stand.of_body Bd
  have e0 : s₁.heap = h0 := by rw [← hh, Bd.state]; rfl
  have N0 := Fr.nil n0
  show OGo p.tables e below (own_Kq s (fun v h L => Q_rm39 Z p1 p2 p3 fm h0 n0 v h L) R_rm39.cells R_rm39.slots) (s₁.setTop (entryFrame m #[(.int p1), (.int p2), (.int p3), fm] 4))
  refine OGo.cast (ef_rm39 m p1 p2 p3 fm hr_fm) ?_
  show OGo _ _ _ _ (s₁.setTop (mkF m 0 #[.val (.int p1), .val (.int p2), .val (.int p3), .val fm] []))
  refine OGo.via (fun _ k => XS.iloadN X0.here hx rfl (hb hby d39_0) rfl (XS.iloadN X0.here hx rfl (hb hby d39_1) rfl (XS.ior X0.here hx rfl (hb hby d39_2) rfl (XS.iloadN X0.here hx rfl (hb hby d39_3) rfl (XS.ior X0.here hx rfl (hb hby d39_4) rfl (XS.ifNo X0.here hx rfl (hb hby d39_5) rfl ((if0 _ _).trans (flt hb1).1) (XS.iloadN X0.here hx rfl (hb hby d39_8) rfl (XS.iloadN X0.here hx rfl (hb hby d39_9) rfl k)))))))) ?_
  show OGo _ _ _ _ (s₁.setTop (mkF m 10 #[.val (.int p1), .val (.int p2), .val (.int p3), .val fm] [(.int p3), (.int p2)]))
  refine OGo.via (fun _ k => XS.iloadN X0.here hx rfl (hb hby d39_10) rfl (XS.isub X0.here hx rfl (hb hby d39_11) rfl (XS.icmpYes X0.here hx rfl (pc0 := 12) (pc' := 23) rfl (hb hby d39_12) rfl (flt hb2).2.2.2 (by decide) (by decide) (XS.iloadN X0.here hx rfl (hb hby d39_23) rfl k)))) ?_
  show OGo _ _ _ _ (s₁.setTop (mkF m 24 #[.val (.int p1), .val (.int p2), .val (.int p3), .val fm] [(.int p1)]))
  refine own_retI X0 hx Bd.notSynchronized Bd.returns (hb hby d39_24) (by decide) (by decide) ?_
  show Q_rm39 Z _ _ _ _ h0 n0 _ s₁.heap _
  exact ⟨rfl, N0, e0⟩
theorem d38_0 : decode jdk_42_method_157_code 0 = .ok (.iload_n 0, 1) := by decide +kernel
theorem d38_1 : decode jdk_42_method_157_code 1 = .ok (.iload_n 1, 1) := by decide +kernel
theorem d38_2 : decode jdk_42_method_157_code 2 = .ok (.iload_n 2, 1) := by decide +kernel
theorem d38_3 : decode jdk_42_method_157_code 3 = .ok (.getstatic 1053, 3) := by decide +kernel
theorem d38_6 : decode jdk_42_method_157_code 6 = .ok (.invokestatic 1065, 3) := by decide +kernel
theorem d38_9 : decode jdk_42_method_157_code 9 = .ok (.ireturn, 1) := by decide +kernel
theorem ef_rm38 (m : MethodId) (p1 : Int32) (p2 : Int32) (p3 : Int32) : entryFrame m #[(.int p1), (.int p2), (.int p3)] 3 = mkF m 0 #[.val (.int p1), .val (.int p2), .val (.int p3)] [] := by
  first | (simp [entryFrame, mkF, argsToLocals, Value.category]; done) | rfl
def Q_rm38 (Z : State) (p1 : Int32) (p2 : Int32) (p3 : Int32) (fm : Value) (h0 : Heap) (n0 : Nat) (v : Option Value) (h : Heap) (L : List Loc) : Prop := v = some (.int p1) ∧ Fr n0 L ∧ h = h0
abbrev R_rm38 : Room := ⟨1, 0, 0, 15⟩
set_option maxRecDepth 65536 in
set_option maxHeartbeats 40000000 in
theorem rm38 (l : Launch) (Z : State) (a0 : Array Value) (hw : ∀ d ∈ tables_1, d.before a0 Z = true) (ws : List Jvm.Cond) (p1 : Int32) (p2 : Int32) (p3 : Int32) (fm : Value) (h0 : Heap) (n0 : Nat) (Z0 : n0 ≤ h0.size) (S_SIOOBE_FORMATTER : Sta Z h0 "jdk/internal/util/Preconditions" "SIOOBE_FORMATTER" "Ljava/util/function/BiFunction;" fm) (hb1 : ¬ ((p3 ||| p1) ||| p2) < (0 : Int32)) (hb2 : ¬ (p3 - p1) < p2) (hr_fm : fm.isRef = true) :
    MetFree l own_y16 (head1 (Jvm.Cond.code own_y16 jdk_42_method_157_code 3 (some .int) :: ws) R_rm38) (fun a U => a = #[(.int p1), (.int p2), (.int p3)] ∧ Z.Warmed39 U.vm ∧ U.heap = h0) (fun _ _ _ _ _ => True) (fun _ U o U' => ∃ v L, o = .returned v ∧ Q_rm38 Z p1 p2 p3 fm h0 n0 v U'.heap L ∧ FrameEnd U o U' L R_rm38.cells R_rm38.slots) := by
  refine MetFree.of_bodySF (plainFor_of_name pn_String) hisR ?_
  intro p e s m args below meth c s₁ Bd hml0 hP hK
  obtain ⟨rfl, hZ, hh⟩ := hP
  have hx := Bd.exec
  have hby := Bd.bytes
  have hml : c.maxLocals = 3 := hml0
  have hown : s.vm.findClass "java/lang/String" = some m.cls := findClass_of_methodNamed Bd.named
  have hnm := (name_of_methodNamed Bd.named Bd.method).1
  have X0 : Stand p l e R_rm38 s m #[(.int p1), (.int p2), (.int p3)] below meth c s₁ [] 0 0 := Stand.of_body Bd
  have e0 : s₁.heap = h0 := by rw [← hh, Bd.state]; rfl
  have N0 := Fr.nil n0
  show OGo p.tables e below (own_Kq s (fun v h L => Q_rm38 Z p1 p2 p3 fm h0 n0 v h L) R_rm38.cells R_rm38.slots) (s₁.setTop (entryFrame m #[(.int p1), (.int p2), (.int p3)] 3))
  refine OGo.cast (ef_rm38 m p1 p2 p3) ?_
  show OGo _ _ _ _ (s₁.setTop (mkF m 0 #[.val (.int p1), .val (.int p2), .val (.int p3)] []))
  refine OGo.via (fun _ k => XS.iloadN X0.here hx rfl (hb hby d38_0) rfl (XS.iloadN X0.here hx rfl (hb hby d38_1) rfl (XS.iloadN X0.here hx rfl (hb hby d38_2) rfl k))) ?_
  obtain ⟨T1, X1, e1, st1⟩ := getS2 X0 hx hZ hown (host := "") (Or.inl (own_w hw 54 rfl)) Via.refl e0 S_SIOOBE_FORMATTER (g := (mkF m 3 #[.val (.int p1), .val (.int p2), .val (.int p3)] [(.int p3), (.int p2), (.int p1)])) rfl (hb hby d38_3)
  refine OGo.via st1 ?_
  show OGo _ _ _ _ (T1.setTop (mkF m 6 #[.val (.int p1), .val (.int p2), .val (.int p3)] [fm, (.int p3), (.int p2), (.int p1)]))
  obtain ⟨_, T2, Lc2, X2, hQ2, st2⟩ := own_open X1 (Jvm.LawKit.callS X1 hx (y := own_y15) hown (mvT hZ (own_w hw 162 rfl)) (mvT hZ (own_w hw 163 rfl)) (mvT hZ (own_w hw 55 rfl)) (mvT hZ (own_w hw 164 rfl)) (by decide) (backOf (W := 0) (rm39 l Z a0 hw [] p1 p2 p3 fm h0 n0 Z0 hb1 hb2 hr_fm) hZ (own_w hw 164 rfl) (own_w hw 55 rfl) (by decide) (by decide)) (g := (mkF m 6 #[.val (.int p1), .val (.int p2), .val (.int p3)] [fm, (.int p3), (.int p2), (.int p1)])) rfl (by rw [hml]; rfl) (argsL := [(.int p1), (.int p2), (.int p3), fm]) (rest := []) (lenOf pd_0 rfl) rfl (by show 2 * 0 + _ ≤ _; exact Nat.le_of_eq rfl) (hb hby d38_6) (fun _ _ => ⟨rfl, e1, (by decide : 0 + 0 ≤ _), (by decide : 0 + 0 ≤ _)⟩))
  obtain ⟨rfl, N2q, r2_0⟩ := hQ2
  have N2 := Fr.app N0 N2q
  refine OGo.via st2 ?_
  show OGo _ _ _ _ (T2.setTop (mkF m 9 #[.val (.int p1), .val (.int p2), .val (.int p3)] [(.int p1)]))
  show OGo _ _ _ _ (T2.setTop (mkF m 9 #[.val (.int p1), .val (.int p2), .val (.int p3)] [(.int p1)]))
  refine own_retI X2 hx Bd.notSynchronized Bd.returns (hb hby d38_9) (by decide) (by decide) ?_
  show Q_rm38 Z _ _ _ _ h0 n0 _ T2.heap _
  exact ⟨rfl, N2, r2_0⟩
theorem d37_0 : decode jdk_52_method_94_code 0 = .ok (.iload_n 0, 1) := by decide +kernel
theorem d37_1 : decode jdk_52_method_94_code 1 = .ok (.iload_n 1, 1) := by decide +kernel
theorem d37_2 : decode jdk_52_method_94_code 2 = .ok (.aload_n 2, 1) := by decide +kernel
theorem d37_3 : decode jdk_52_method_94_code 3 = .ok (.invokestatic 48, 3) := by decide +kernel
theorem d37_6 : decode jdk_52_method_94_code 6 = .ok (.invokestatic 419, 3) := by decide +kernel
theorem pd_6 : parseMethodDescriptor "(III)I" = some ⟨[.int, .int, .int], some .int⟩ := by decide +kernel
theorem d37_9 : decode jdk_52_method_94_code 9 = .ok (.pop, 1) := by decide +kernel
theorem d37_10 : decode jdk_52_method_94_code 10 = .ok (.return_, 1) := by decide +kernel
theorem ef_rm37 (m : MethodId) (p1 : Int32) (p2 : Int32) (a3 : Addr) : entryFrame m #[(.int p1), (.int p2), (.ref a3)] 3 = mkF m 0 #[.val (.int p1), .val (.int p2), .val (.ref a3)] [] := by
  first | (simp [entryFrame, mkF, argsToLocals, Value.category]; done) | rfl
def Q_rm37 (Z : State) (p1 : Int32) (p2 : Int32) (a3 : Addr) (k1 : ClassId) (vs : List Value) (nn : Nat) (fm : Value) (h0 : Heap) (n0 : Nat) (v : Option Value) (h : Heap) (L : List Loc) : Prop := v = none ∧ Fr n0 L ∧ h = h0
abbrev R_rm37 : Room := ⟨2, 0, 0, 29⟩
set_option maxRecDepth 65536 in
set_option maxHeartbeats 40000000 in
theorem rm37 (l : Launch) (Z : State) (a0 : Array Value) (hw : ∀ d ∈ tables_1, d.before a0 Z = true) (ws : List Jvm.Cond) (p1 : Int32) (p2 : Int32) (a3 : Addr) (k1 : ClassId) (vs : List Value) (nn : Nat) (fm : Value) (h0 : Heap) (n0 : Nat) (Z0 : n0 ≤ h0.size) (V_a3 : Arv Z h0 a3 k1 .byte (Int32.ofNat (2 * nn)) vs (.int (0 : Int32))) (S_SIOOBE_FORMATTER : Sta Z h0 "jdk/internal/util/Preconditions" "SIOOBE_FORMATTER" "Ljava/util/function/BiFunction;" fm) (hr_fm : fm.isRef = true) (hnn : nn ≤ 10) (hb1 : ¬ ((Int32.ofNat nn ||| p1) ||| p2) < (0 : Int32)) (hb2 : ¬ (Int32.ofNat nn - p1) < p2) :
    MetFree l own_y17 (head1 (Jvm.Cond.code own_y17 jdk_52_method_94_code 3 none :: ws) R_rm37) (fun a U => a = #[(.int p1), (.int p2), (.ref a3)] ∧ Z.Warmed39 U.vm ∧ U.heap = h0) (fun _ _ _ _ _ => True) (fun _ U o U' => ∃ v L, o = .returned v ∧ Q_rm37 Z p1 p2 a3 k1 vs nn fm h0 n0 v U'.heap L ∧ FrameEnd U o U' L R_rm37.cells R_rm37.slots) := by
  refine MetFree.of_bodySF (plainFor_of_name pn_StringUTF16) hisR ?_
  intro p e s m args below meth c s₁ Bd hml0 hP hK
  obtain ⟨rfl, hZ, hh⟩ := hP
  have hx := Bd.exec
  have hby := Bd.bytes
  have hml : c.maxLocals = 3 := hml0
  have hown : s.vm.findClass "java/lang/StringUTF16" = some m.cls := findClass_of_methodNamed Bd.named
  have hnm := (name_of_methodNamed Bd.named Bd.method).1
  have X0 : Stand p l e R_rm37 s m #[(.int p1), (.int p2), (.ref a3)] below meth c s₁ [] 0 0 := Stand.of_body Bd
  have e0 : s₁.heap = h0 := by rw [← hh, Bd.state]; rfl
  have N0 := Fr.nil n0
  show OGo p.tables e below (own_Kq s (fun v h L => Q_rm37 Z p1 p2 a3 k1 vs nn fm h0 n0 v h L) R_rm37.cells R_rm37.slots) (s₁.setTop (entryFrame m #[(.int p1), (.int p2), (.ref a3)] 3))
  refine OGo.cast (ef_rm37 m p1 p2 a3) ?_
  show OGo _ _ _ _ (s₁.setTop (mkF m 0 #[.val (.int p1), .val (.int p2), .val (.ref a3)] []))
  refine OGo.via (fun _ k => XS.iloadN X0.here hx rfl (hb hby d37_0) rfl (XS.iloadN X0.here hx rfl (hb hby d37_1) rfl (XS.aloadN X0.here hx rfl (hb hby d37_2) rfl rfl k))) ?_
  obtain ⟨_, T1, Lc1, X1, hQ1, st1⟩ := own_open X0 (Jvm.LawKit.callS X0 hx (y := own_y9) hown (mvT hZ (own_w hw 142 rfl)) (mvT hZ (own_w hw 143 rfl)) (mvT hZ (own_w hw 62 rfl)) (mvT hZ (own_w hw 144 rfl)) (by decide) (backOf (W := 2) (rm33 l Z a0 hw [] a3 k1 vs nn h0 n0 Z0 V_a3 hnn) hZ (own_w hw 144 rfl) (own_w hw 62 rfl) (by decide) (by decide)) (g := (mkF m 3 #[.val (.int p1), .val (.int p2), .val (.ref a3)] [(.ref a3), (.int p2), (.int p1)])) rfl (by rw [hml]; rfl) (argsL := [(.ref a3)]) (rest := [(.int p2), (.int p1)]) (lenOf pd_2 rfl) rfl (by show 2 * 0 + _ ≤ _; exact Nat.le_of_eq rfl) (hb hby d37_3) (fun _ _ => ⟨rfl, e0, (by decide : 0 + 0 ≤ _), (by decide : 0 + 0 ≤ _)⟩))
  obtain ⟨rfl, N1q, r1_0⟩ := hQ1
  have N1 := Fr.app N0 N1q
  refine OGo.via st1 ?_
  show OGo _ _ _ _ (T1.setTop (mkF m 6 #[.val (.int p1), .val (.int p2), .val (.ref a3)] [(.int (Int32.ofNat nn)), (.int p2), (.int p1)]))
  obtain ⟨_, T2, Lc2, X2, hQ2, st2⟩ := own_open X1 (Jvm.LawKit.callS X1 hx (y := own_y16) hown (mvT hZ (own_w hw 159 rfl)) (mvT hZ (own_w hw 160 rfl)) (mvT hZ (own_w hw 11 rfl)) (mvT hZ (own_w hw 161 rfl)) (by decide) (backOf (W := 0) (rm38 l Z a0 hw [] p1 p2 (Int32.ofNat nn) fm h0 n0 Z0 S_SIOOBE_FORMATTER hb1 hb2 hr_fm) hZ (own_w hw 161 rfl) (own_w hw 11 rfl) (by decide) (by decide)) (g := (mkF m 6 #[.val (.int p1), .val (.int p2), .val (.ref a3)] [(.int (Int32.ofNat nn)), (.int p2), (.int p1)])) rfl (by rw [hml]; rfl) (argsL := [(.int p1), (.int p2), (.int (Int32.ofNat nn))]) (rest := []) (lenOf pd_6 rfl) rfl (by show 2 * 0 + _ ≤ _; exact Nat.le_of_eq rfl) (hb hby d37_6) (fun _ _ => ⟨rfl, r1_0, (by decide : 0 + 0 ≤ _), (by decide : 0 + 0 ≤ _)⟩))
  obtain ⟨rfl, N2q, r2_0⟩ := hQ2
  have N2 := Fr.app N1 N2q
  refine OGo.via st2 ?_
  show OGo _ _ _ _ (T2.setTop (mkF m 9 #[.val (.int p1), .val (.int p2), .val (.ref a3)] [(.int p1)]))
  refine OGo.via (fun _ k => XS.pop X2.here hx rfl (hb hby d37_9) rfl rfl k) ?_
  show OGo _ _ _ _ (T2.setTop (mkF m 10 #[.val (.int p1), .val (.int p2), .val (.ref a3)] []))
  refine own_retV X2 hx Bd.notSynchronized Bd.returns (hb hby d37_10) (by decide) (by decide) ?_
  show Q_rm37 Z _ _ _ _ _ _ _ h0 n0 _ T2.heap _
  exact ⟨rfl, N2, r2_0⟩
theorem d28_0 : decode jdk_52_method_3_code 0 = .ok (.iload_n 0, 1) := by decide +kernel
theorem d28_1 : decode jdk_52_method_3_code 1 = .ok (.ifCond .ge 11, 3) := by decide +kernel
theorem d28_12 : decode jdk_52_method_3_code 12 = .ok (.iload_n 0, 1) := by decide +kernel
theorem d28_13 : decode jdk_52_method_3_code 13 = .ok (.ldc 20, 2) := by decide +kernel
theorem d28_15 : decode jdk_52_method_3_code 15 = .ok (.if_icmp .lt 40, 3) := by decide +kernel
theorem d28_55 : decode jdk_52_method_3_code 55 = .ok (.iload_n 0, 1) := by decide +kernel
theorem d28_56 : decode jdk_52_method_3_code 56 = .ok (.iconst 1, 1) := by decide +kernel
theorem d28_57 : decode jdk_52_method_3_code 57 = .ok (.ishl, 1) := by decide +kernel
theorem d28_58 : decode jdk_52_method_3_code 58 = .ok (.ireturn, 1) := by decide +kernel
theorem ef_rm28 (m : MethodId) (p1 : Int32) : entryFrame m #[(.int p1)] 1 = mkF m 0 #[.val (.int p1)] [] := by
  first | (simp [entryFrame, mkF, argsToLocals, Value.category]; done) | rfl
def Q_rm28 (Z : State) (p1 : Int32) (nn : Nat) (h0 : Heap) (n0 : Nat) (v : Option Value) (h : Heap) (L : List Loc) : Prop := v = some (.int (Int32.ofNat (2 * nn))) ∧ Fr n0 L ∧ h = h0
abbrev R_rm28 : Room := ⟨0, 0, 0, 0⟩
set_option maxRecDepth 65536 in
set_option maxHeartbeats 40000000 in
theorem rm28 (l : Launch) (Z : State) (a0 : Array Value) (hw : ∀ d ∈ tables_1, d.before a0 Z = true) (ws : List Jvm.Cond) (p1 : Int32) (nn : Nat) (h0 : Heap) (n0 : Nat) (Z0 : n0 ≤ h0.size) (hi2 : p1 = Int32.ofNat nn) (hnn : nn ≤ 10) :
    MetFree l own_y18 (head1 (Jvm.Cond.code own_y18 jdk_52_method_3_code 1 (some .int) :: ws) R_rm28) (fun a U => a = #[(.int p1)] ∧ Z.Warmed39 U.vm ∧ U.heap = h0) (fun _ _ _ _ _ => True) (fun _ U o U' => ∃ v L, o = .returned v ∧ Q_rm28 Z p1 nn h0 n0 v U'.heap L ∧ FrameEnd U o U' L R_rm28.cells R_rm28.slots) := by
  refine MetFree.of_bodySF (plainFor_of_name pn_StringUTF16) hisR ?_
  intro p e s m args below meth c s₁ Bd hml0 hP hK
  obtain ⟨rfl, hZ, hh⟩ := hP
  have hx := Bd.exec
  have hby := Bd.bytes
  have hml : c.maxLocals = 1 := hml0
  have hown : s.vm.findClass "java/lang/StringUTF16" = some m.cls := findClass_of_methodNamed Bd.named
  have hnm := (name_of_methodNamed Bd.named Bd.method).1
  have X0 : Stand p l e R_rm28 s m #[(.int p1)] below meth c s₁ [] 0 0 := Stand.of_body Bd
  have e0 : s₁.heap = h0 := by rw [← hh, Bd.state]; rfl
  have N0 := Fr.nil n0
  show OGo p.tables e below (own_Kq s (fun v h L => Q_rm28 Z p1 nn h0 n0 v h L) R_rm28.cells R_rm28.slots) (s₁.setTop (entryFrame m #[(.int p1)] 1))
  refine OGo.cast (ef_rm28 m p1) ?_
  show OGo _ _ _ _ (s₁.setTop (mkF m 0 #[.val (.int p1)] []))
  refine OGo.via (fun _ k => XS.iloadN X0.here hx rfl (hb hby d28_0) rfl (XS.ifYes X0.here hx rfl (pc0 := 1) (pc' := 12) rfl (hb hby d28_1) rfl ((if0 _ _).trans (flt (by rw [hi2]; exact own_nn (by omega))).2.1) (by decide) (by decide) (XS.iloadN X0.here hx rfl (hb hby d28_12) rfl k))) ?_
  refine OGo.via (X0.ldcInt hx hown (mvT hZ (own_w hw 126 rfl)) (g := (mkF m 13 #[.val (.int p1)] [(.int p1)])) rfl (hb hby d28_13)) ?_
  show OGo _ _ _ _ (s₁.setTop (mkF m 15 #[.val (.int p1)] [(.int (1073741823 : Int32)), (.int p1)]))
  refine OGo.via (fun _ k => XS.icmpYes X0.here hx rfl (pc0 := 15) (pc' := 55) rfl (hb hby d28_15) rfl (tlt (by rw [hi2]; exact own_iltB hnn)).1 (by decide) (by decide) (XS.iloadN X0.here hx rfl (hb hby d28_55) rfl (XS.iconst X0.here hx rfl (hb hby d28_56) (XS.ishl X0.here hx rfl (hb hby d28_57) rfl k)))) ?_
  show OGo _ _ _ _ (s₁.setTop (mkF m 58 #[.val (.int p1)] [(.int (p1 <<< ((1 : Int32) &&& 31)))]))
  refine own_retI X0 hx Bd.notSynchronized Bd.returns (hb hby d28_58) (by decide) (by decide) ?_
  show Q_rm28 Z _ _ h0 n0 _ s₁.heap _
  exact ⟨(by rw [hi2, own_dbl' hnn]), N0, e0⟩
theorem d27_0 : decode jdk_52_method_2_code 0 = .ok (.iload_n 0, 1) := by decide +kernel
theorem d27_1 : decode jdk_52_method_2_code 1 = .ok (.invokestatic 11, 3) := by decide +kernel
theorem pd_7 : parseMethodDescriptor "(I)I" = some ⟨[.int], some .int⟩ := by decide +kernel
theorem d27_4 : decode jdk_52_method_2_code 4 = .ok (.newarray .byte, 2) := by decide +kernel
theorem d27_6 : decode jdk_52_method_2_code 6 = .ok (.areturn, 1) := by decide +kernel
theorem ef_rm27 (m : MethodId) (p1 : Int32) : entryFrame m #[(.int p1)] 1 = mkF m 0 #[.val (.int p1)] [] := by
  first | (simp [entryFrame, mkF, argsToLocals, Value.category]; done) | rfl
def Q_rm27 (Z : State) (p1 : Int32) (nn : Nat) (h0 : Heap) (n0 : Nat) (v : Option Value) (h : Heap) (L : List Loc) : Prop := ∃ vb : Addr, ∃ kb : ClassId, v = some (.ref vb) ∧ Fr n0 L ∧ Keep h0 h [] ∧ h0.size ≤ vb ∧ Arv Z h vb kb .byte (Int32.ofNat (2 * nn)) [] (.int (0 : Int32))
abbrev R_rm27 : Room := ⟨1, 1, 20, 12⟩
set_option maxRecDepth 65536 in
set_option maxHeartbeats 40000000 in
theorem rm27 (l : Launch) (Z : State) (a0 : Array Value) (hw : ∀ d ∈ tables_1, d.before a0 Z = true) (ws : List Jvm.Cond) (p1 : Int32) (nn : Nat) (h0 : Heap) (n0 : Nat) (Z0 : n0 ≤ h0.size) (hi2 : p1 = Int32.ofNat nn) (hnn : nn ≤ 10) :
    MetFree l own_y19 (head1 (Jvm.Cond.code own_y19 jdk_52_method_2_code 1 (some (.array .byte)) :: ws) R_rm27) (fun a U => a = #[(.int p1)] ∧ Z.Warmed39 U.vm ∧ U.heap = h0) (fun _ _ _ _ _ => True) (fun _ U o U' => ∃ v L, o = .returned v ∧ Q_rm27 Z p1 nn h0 n0 v U'.heap L ∧ FrameEnd U o U' L R_rm27.cells R_rm27.slots) := by
  refine MetFree.of_bodySF (plainFor_of_name pn_StringUTF16) hisR ?_
  intro p e s m args below meth c s₁ Bd hml0 hP hK
  obtain ⟨rfl, hZ, hh⟩ := hP
  have hx := Bd.exec
  have hby := Bd.bytes
  have hml : c.maxLocals = 1 := hml0
  have hown : s.vm.findClass "java/lang/StringUTF16" = some m.cls := findClass_of_methodNamed Bd.named
  have hnm := (name_of_methodNamed Bd.named Bd.method).1
  have X0 : Stand p l e R_rm27 s m #[(.int p1)] below meth c s₁ [] 0 0 := Stand.of_body Bd
  have e0 : s₁.heap = h0 := by rw [← hh, Bd.state]; rfl
  have N0 := Fr.nil n0
  show OGo p.tables e below (own_Kq s (fun v h L => Q_rm27 Z p1 nn h0 n0 v h L) R_rm27.cells R_rm27.slots) (s₁.setTop (entryFrame m #[(.int p1)] 1))
  refine OGo.cast (ef_rm27 m p1) ?_
  show OGo _ _ _ _ (s₁.setTop (mkF m 0 #[.val (.int p1)] []))
  refine OGo.via (fun _ k => XS.iloadN X0.here hx rfl (hb hby d27_0) rfl k) ?_
  obtain ⟨_, T1, Lc1, X1, hQ1, st1⟩ := own_open X0 (Jvm.LawKit.callS X0 hx (y := own_y18) hown (mvT hZ (own_w hw 123 rfl)) (mvT hZ (own_w hw 124 rfl)) (mvT hZ (own_w hw 62 rfl)) (mvT hZ (own_w hw 125 rfl)) (by decide) (backOf (W := 0) (rm28 l Z a0 hw [] p1 nn h0 n0 Z0 hi2 hnn) hZ (own_w hw 125 rfl) (own_w hw 62 rfl) (by decide) (by decide)) (g := (mkF m 1 #[.val (.int p1)] [(.int p1)])) rfl (by rw [hml]; rfl) (argsL := [(.int p1)]) (rest := []) (lenOf pd_7 rfl) rfl (by show 2 * 0 + _ ≤ _; exact Nat.le_of_eq rfl) (hb hby d27_1) (fun _ _ => ⟨rfl, e0, (by decide : 0 + 0 ≤ _), (by decide : 0 + 0 ≤ _)⟩))
  obtain ⟨rfl, N1q, r1_0⟩ := hQ1
  have N1 := Fr.app N0 N1q
  refine OGo.via st1 ?_
  show OGo _ _ _ _ (T1.setTop (mkF m 4 #[.val (.int p1)] [(.int (Int32.ofNat (2 * nn)))]))
  obtain ⟨T2, h2, ka2, X2, e2, E2, A2, Y2, st2⟩ := newPE (ad := "[B") X1 hx hZ (own_w hw 23 rfl) r1_0 (g := (mkF m 4 #[.val (.int p1)] [(.int (Int32.ofNat (2 * nn)))])) rfl (hb hby d27_4) rfl (own_nn (by omega)) (cap := 20) (by rw [own_nc (by omega)]; omega) (by decide) (by decide) (by decide) (by decide)
  obtain ⟨b2, g2⟩ : ∃ z, z = h0.size := ⟨_, rfl⟩
  rw [← g2] at A2 Y2 st2
  refine OGo.via st2 ?_
  have K2 : Keep h0 h2 [] := (Keep.refl h0 []).ext E2
  have sz_b2 : h0.size ≤ b2 := Nat.le_trans (Keep.refl h0 []).1 (Nat.le_of_eq g2.symm)
  have g_b2 : n0 ≤ b2 := Nat.le_trans Z0 sz_b2
  have V2 : Arv Z h2 b2 ka2 .byte (Int32.ofNat (2 * nn)) [] (.int (0 : Int32)) := Arv.new A2 (own_nn (by omega))
  show OGo _ _ _ _ (T2.setTop (mkF m 6 #[.val (.int p1)] [(.ref b2)]))
  show OGo _ _ _ _ (T2.setTop (mkF m 6 #[.val (.int p1)] [(.ref b2)]))
  refine own_retA X2 hx Bd.notSynchronized Bd.returns rfl rfl (hb hby d27_6) (by decide) (by decide) ?_
  show Q_rm27 Z _ _ h0 n0 _ T2.heap _
  rw [e2]
  exact ⟨b2, ka2, rfl, N1, K2, sz_b2, V2⟩
theorem d26_0 : decode jdk_52_method_14_code 0 = .ok (.iload_n 2, 1) := by decide +kernel
theorem d26_1 : decode jdk_52_method_14_code 1 = .ok (.invokestatic 107, 3) := by decide +kernel
theorem pd_8 : parseMethodDescriptor "(I)[B" = some ⟨[.int], some (.array .byte)⟩ := by decide +kernel
theorem d26_4 : decode jdk_52_method_14_code 4 = .ok (.astore_n 3, 1) := by decide +kernel
theorem d26_5 : decode jdk_52_method_14_code 5 = .ok (.iconst 0, 1) := by decide +kernel
theorem d26_6 : decode jdk_52_method_14_code 6 = .ok (.istore 4, 2) := by decide +kernel
theorem d26_8 : decode jdk_52_method_14_code 8 = .ok (.iload 4, 2) := by decide +kernel
theorem d26_10 : decode jdk_52_method_14_code 10 = .ok (.iload_n 2, 1) := by decide +kernel
theorem d26_11 : decode jdk_52_method_14_code 11 = .ok (.if_icmp .ge 21, 3) := by decide +kernel
theorem d26_32 : decode jdk_52_method_14_code 32 = .ok (.aload_n 3, 1) := by decide +kernel
theorem d26_33 : decode jdk_52_method_14_code 33 = .ok (.areturn, 1) := by decide +kernel
theorem d26_14 : decode jdk_52_method_14_code 14 = .ok (.aload_n 3, 1) := by decide +kernel
theorem d26_15 : decode jdk_52_method_14_code 15 = .ok (.iload 4, 2) := by decide +kernel
theorem d26_17 : decode jdk_52_method_14_code 17 = .ok (.aload_n 0, 1) := by decide +kernel
theorem d26_18 : decode jdk_52_method_14_code 18 = .ok (.iload_n 1, 1) := by decide +kernel
theorem d26_19 : decode jdk_52_method_14_code 19 = .ok (.caload, 1) := by decide +kernel
theorem d26_20 : decode jdk_52_method_14_code 20 = .ok (.invokestatic 111, 3) := by decide +kernel
theorem pd_9 : parseMethodDescriptor "([BII)V" = some ⟨[(.array .byte), .int, .int], none⟩ := by decide +kernel
theorem d26_23 : decode jdk_52_method_14_code 23 = .ok (.iinc 1 1, 3) := by decide +kernel
theorem d26_26 : decode jdk_52_method_14_code 26 = .ok (.iinc 4 1, 3) := by decide +kernel
theorem d26_29 : decode jdk_52_method_14_code 29 = .ok (.goto (-21), 3) := by decide +kernel
theorem ef_rm26 (m : MethodId) (a1 : Addr) (p3 : Int32) : entryFrame m #[(.ref a1), (.int (0 : Int32)), (.int p3)] 5 = mkF m 0 #[.val (.ref a1), .val (.int (0 : Int32)), .val (.int p3), .unset, .unset] [] := by
  first | (simp [entryFrame, mkF, argsToLocals, Value.category]; done) | rfl
def Q_rm26 (Z : State) (a1 : Addr) (p3 : Int32) (k1 : ClassId) (cs : List Int32) (w : Int32) (fm : Value) (h0 : Heap) (n0 : Nat) (v : Option Value) (h : Heap) (L : List Loc) : Prop := ∃ vb : Addr, ∃ kb : ClassId, v = some (.ref vb) ∧ Fr n0 L ∧ Keep h0 h [] ∧ h0.size ≤ vb ∧ Arv Z h vb kb .byte (Int32.ofNat (2 * cs.length)) (List.map Value.int (own_u cs)) (.int (0 : Int32))
abbrev R_rm26 : Room := ⟨2, 1, 20, 24⟩
set_option maxRecDepth 65536 in
set_option maxHeartbeats 40000000 in
theorem rm26 (l : Launch) (Z : State) (a0 : Array Value) (hw : ∀ d ∈ tables_1, d.before a0 Z = true) (ws : List Jvm.Cond) (a1 : Addr) (p3 : Int32) (k1 : ClassId) (cs : List Int32) (w : Int32) (fm : Value) (h0 : Heap) (n0 : Nat) (Z0 : n0 ≤ h0.size) (S_COMPACT_STRINGS : Sta Z h0 "java/lang/String" "COMPACT_STRINGS" "Z" (.int w)) (S_SIOOBE_FORMATTER : Sta Z h0 "jdk/internal/util/Preconditions" "SIOOBE_FORMATTER" "Ljava/util/function/BiFunction;" fm) (S__assertionsDisabled : Sta Z h0 "java/lang/StringUTF16" "$assertionsDisabled" "Z" (.int (1 : Int32))) (S_HI_BYTE_SHIFT : Sta Z h0 "java/lang/StringUTF16" "HI_BYTE_SHIFT" "I" (.int (0 : Int32))) (S_LO_BYTE_SHIFT : Sta Z h0 "java/lang/StringUTF16" "LO_BYTE_SHIFT" "I" (.int (8 : Int32))) (V_a1 : Arv Z h0 a1 k1 .char p3 (List.map Value.int cs) (.int (0 : Int32))) (hz3 : p3 = Int32.ofNat cs.length) (hn10 : cs.length ≤ 10) :
    MetFree l own_y20 (head1 (Jvm.Cond.code own_y20 jdk_52_method_14_code 5 (some (.array .byte)) :: ws) R_rm26) (fun a U => a = #[(.ref a1), (.int (0 : Int32)), (.int p3)] ∧ Z.Warmed39 U.vm ∧ U.heap = h0) (fun _ _ _ _ _ => True) (fun _ U o U' => ∃ v L, o = .returned v ∧ Q_rm26 Z a1 p3 k1 cs w fm h0 n0 v U'.heap L ∧ FrameEnd U o U' L R_rm26.cells R_rm26.slots) := by
  refine MetFree.of_bodySF (plainFor_of_name pn_StringUTF16) hisR ?_
  intro p e s m args below meth c s₁ Bd hml0 hP hK
  obtain ⟨rfl, hZ, hh⟩ := hP
  have hx := Bd.exec
  have hby := Bd.bytes
  have hml : c.maxLocals = 5 := hml0
  have hown : s.vm.findClass "java/lang/StringUTF16" = some m.cls := findClass_of_methodNamed Bd.named
  have hnm := (name_of_methodNamed Bd.named Bd.method).1
  have X0 : Stand p l e R_rm26 s m #[(.ref a1), (.int (0 : Int32)), (.int p3)] below meth c s₁ [] 0 0 := Stand.of_body Bd
  have e0 : s₁.heap = h0 := by rw [← hh, Bd.state]; rfl
  have N0 := Fr.nil n0
  show OGo p.tables e below (own_Kq s (fun v h L => Q_rm26 Z a1 p3 k1 cs w fm h0 n0 v h L) R_rm26.cells R_rm26.slots) (s₁.setTop (entryFrame m #[(.ref a1), (.int (0 : Int32)), (.int p3)] 5))
  refine OGo.cast (ef_rm26 m a1 p3) ?_
  show OGo _ _ _ _ (s₁.setTop (mkF m 0 #[.val (.ref a1), .val (.int (0 : Int32)), .val (.int p3), .unset, .unset] []))
  refine OGo.via (fun _ k => XS.iloadN X0.here hx rfl (hb hby d26_0) rfl k) ?_
  obtain ⟨_, T1, Lc1, X1, hQ1, st1⟩ := own_open X0 (Jvm.LawKit.callS X0 hx (y := own_y19) hown (mvT hZ (own_w hw 120 rfl)) (mvT hZ (own_w hw 121 rfl)) (mvT hZ (own_w hw 62 rfl)) (mvT hZ (own_w hw 122 rfl)) (by decide) (backOf (W := 0) (rm27 l Z a0 hw [] p3 cs.length h0 n0 Z0 hz3 hn10) hZ (own_w hw 122 rfl) (own_w hw 62 rfl) (by decide) (by decide)) (g := (mkF m 1 #[.val (.ref a1), .val (.int (0 : Int32)), .val (.int p3), .unset, .unset] [(.int p3)])) rfl (by rw [hml]; rfl) (argsL := [(.int p3)]) (rest := []) (lenOf pd_8 rfl) rfl (by show 2 * 0 + _ ≤ _; exact Nat.le_of_eq rfl) (hb hby d26_1) (fun _ _ => ⟨rfl, e0, (by decide : 0 + 1 ≤ _), (by decide : 0 + 20 ≤ _)⟩))
  obtain ⟨vb, kb, rfl, N1q, r1_0, r1_1, r1_2⟩ := hQ1
  have N1 := Fr.app N0 N1q
  have K1 : Keep h0 T1.heap [] := (Keep.refl h0 []).trans r1_0 all0
  have lt_a1_vb : a1 < vb := Nat.lt_of_lt_of_le V_a1.lt r1_1
  have sz_vb : h0.size ≤ vb := Nat.le_trans (Keep.refl h0 []).1 r1_1
  have g_vb : n0 ≤ vb := Nat.le_trans Z0 sz_vb
  refine OGo.via st1 ?_
  show OGo _ _ _ _ (T1.setTop (mkF m 4 #[.val (.ref a1), .val (.int (0 : Int32)), .val (.int p3), .unset, .unset] [(.ref vb)]))
  refine OGo.via (fun _ k => XS.astoreN X1.here hx rfl (hb hby d26_4) rfl rfl (l' := #[.val (.ref a1), .val (.int (0 : Int32)), .val (.int p3), .val (.ref vb), .unset]) rfl (XS.iconst X1.here hx rfl (hb hby d26_5) (XS.istore X1.here hx rfl (hb hby d26_6) rfl (l' := #[.val (.ref a1), .val (.int (0 : Int32)), .val (.int p3), .val (.ref vb), .val (.int (0 : Int32))]) rfl k))) ?_
  have lpa : ∀ (da jj : Nat), jj + da = cs.length → ∀ (Tla : State) (hla : Heap) (locsla : List Loc), Stand p l e R_rm26 s m #[(.ref a1), (.int (0 : Int32)), (.int p3)] below meth c Tla locsla 1 20 → Tla.heap = hla → Fr n0 locsla → Keep h0 hla [] → Arv Z hla a1 k1 .char p3 (List.map Value.int cs) (.int (0 : Int32)) → Arv Z hla vb kb .byte (Int32.ofNat (2 * cs.length)) (List.map Value.int (own_u (cs.take jj))) (.int (0 : Int32)) → OGo p.tables e below (own_Kq s (fun v h L => Q_rm26 Z a1 p3 k1 cs w fm h0 n0 v h L) R_rm26.cells R_rm26.slots) (Tla.setTop (mkF m 8 #[.val (.ref a1), .val (.int (Int32.ofNat jj)), .val (.int p3), .val (.ref vb), .val (.int (Int32.ofNat jj))] [])) := by
    intro da
    induction da with
    | zero =>
      intro jj hja Tla hla locsla Xla ela Nla Kla V_a1_a V_vb_a
      obtain rfl : jj = cs.length := by omega
      rw [List.take_length] at V_vb_a
      refine OGo.via (fun _ k => XS.iload Xla.here hx rfl (hb hby d26_8) rfl (XS.iloadN Xla.here hx rfl (hb hby d26_10) rfl (XS.icmpYes Xla.here hx rfl (pc0 := 11) (pc' := 32) rfl (hb hby d26_11) rfl (flt (by rw [hz3]; exact Int32.lt_irrefl)).2.1 (by decide) (by decide) (XS.aloadN Xla.here hx rfl (hb hby d26_32) rfl rfl k)))) ?_
      show OGo _ _ _ _ (Tla.setTop (mkF m 33 #[.val (.ref a1), .val (.int (Int32.ofNat cs.length)), .val (.int p3), .val (.ref vb), .val (.int (Int32.ofNat cs.length))] [(.ref vb)]))
      refine own_retA Xla hx Bd.notSynchronized Bd.returns rfl rfl (hb hby d26_33) (by decide) (by decide) ?_
      show Q_rm26 Z _ _ _ _ _ _ h0 n0 _ Tla.heap _
      rw [ela]
      exact ⟨vb, kb, rfl, Nla, Kla, sz_vb, V_vb_a⟩
    | succ da iha =>
      intro jj hja Tla hla locsla Xla ela Nla Kla V_a1_a V_vb_a
      have hjl : jj < cs.length := by omega
      have hltj : Int32.ofNat jj < p3 := by rw [hz3]; exact own_ilt hjl (by omega)
      have hncj : (Int32.ofNat jj).toNatClampNeg = jj := own_nc (by omega)
      have hnnj : ¬ Int32.ofNat jj < 0 := own_nn (by omega)
      refine OGo.via (fun _ k => XS.iload Xla.here hx rfl (hb hby d26_8) rfl (XS.iloadN Xla.here hx rfl (hb hby d26_10) rfl (XS.icmpNo Xla.here hx rfl (hb hby d26_11) rfl (tlt hltj).2.1 (XS.aloadN Xla.here hx rfl (hb hby d26_14) rfl rfl (XS.iload Xla.here hx rfl (hb hby d26_15) rfl (XS.aloadN Xla.here hx rfl (hb hby d26_17) rfl rfl (XS.iloadN Xla.here hx rfl (hb hby d26_18) rfl k))))))) ?_
      obtain ⟨cl2, Ar2, q2, Sz2, Ng2, Hs2, Gf2⟩ := id V_a1_a
      have hin2 : ¬ ((Int32.ofNat jj) < 0 ∨ cl2.slots.size ≤ ((Int32.ofNat jj)).toNatClampNeg) := inb_of Sz2 ⟨hnnj, hltj⟩
      have hat2 : cl2.slots[((Int32.ofNat jj)).toNatClampNeg]? = some (.int (cs.getD jj 0)) := Hs2.at hin2 (by rw [hncj]; exact own_getm cs jj)
      refine OGo.via (Xla.caload hx (j := (Int32.ofNat jj)) (v := (.int (cs.getD jj 0))) (by rw [ela]; exact Ar2.1) (State.isArrayOf_alike hZ.alike Ar2.2.1) Ar2.2.2 hin2 hat2 (g := (mkF m 19 #[.val (.ref a1), .val (.int (Int32.ofNat jj)), .val (.int p3), .val (.ref vb), .val (.int (Int32.ofNat jj))] [(.int (Int32.ofNat jj)), (.ref a1), (.int (Int32.ofNat jj)), (.ref vb)])) rfl rfl (hb hby d26_19)) ?_
      show OGo _ _ _ _ (Tla.setTop (mkF m 20 #[.val (.ref a1), .val (.int (Int32.ofNat jj)), .val (.int p3), .val (.ref vb), .val (.int (Int32.ofNat jj))] [(.int (cs.getD jj 0)), (.int (Int32.ofNat jj)), (.ref vb)]))
      have f4 := own_staKeep0 S_COMPACT_STRINGS Kla
      have f5 := own_staKeep0 S_SIOOBE_FORMATTER Kla
      have f6 := own_staKeep0 S__assertionsDisabled Kla
      have f7 := own_staKeep0 S_HI_BYTE_SHIFT Kla
      have f8 := own_staKeep0 S_LO_BYTE_SHIFT Kla
      obtain ⟨_, T3, Lc3, X3, hQ3, st3⟩ := own_open Xla (Jvm.LawKit.callS Xla hx (y := own_y12) hown (mvT hZ (own_w hw 127 rfl)) (mvT hZ (own_w hw 128 rfl)) (mvT hZ (own_w hw 62 rfl)) (mvT hZ (own_w hw 129 rfl)) (by decide) (backOf (W := 0) (rm29 l Z a0 hw [] vb (Int32.ofNat jj) (cs.getD jj 0) kb (List.map Value.int (own_u (cs.take jj))) cs.length jj w fm hla n0 (Nat.le_trans Z0 Kla.1) V_vb_a g_vb f4 f5 f6 f7 f8 rfl hjl hn10 (own_uT (by omega))) hZ (own_w hw 129 rfl) (own_w hw 62 rfl) (by decide) (by decide)) (g := (mkF m 20 #[.val (.ref a1), .val (.int (Int32.ofNat jj)), .val (.int p3), .val (.ref vb), .val (.int (Int32.ofNat jj))] [(.int (cs.getD jj 0)), (.int (Int32.ofNat jj)), (.ref vb)])) rfl (by rw [hml]; rfl) (argsL := [(.ref vb), (.int (Int32.ofNat jj)), (.int (cs.getD jj 0))]) (rest := []) (lenOf pd_9 rfl) rfl (by show 2 * 0 + _ ≤ _; exact Nat.le_of_eq rfl) (hb hby d26_20) (fun _ _ => ⟨rfl, ela, (by decide : 1 + 0 ≤ _), (by decide : 20 + 0 ≤ _)⟩))
      obtain ⟨rfl, N3q, r3_0, r3_1, r3_2, r3_3, r3_4, r3_5, r3_6⟩ := hQ3
      have N3 := Fr.app Nla N3q
      have K3 : Keep h0 T3.heap [] := Kla.trans r3_0 (allS (Or.inr sz_vb) all0)
      refine OGo.via st3 ?_
      show OGo _ _ _ _ (T3.setTop (mkF m 23 #[.val (.ref a1), .val (.int (Int32.ofNat jj)), .val (.int p3), .val (.ref vb), .val (.int (Int32.ofNat jj))] []))
      refine OGo.via (fun _ k => XS.iinc X3.here hx rfl (hb hby d26_23) rfl (l' := #[.val (.ref a1), .val (.int ((Int32.ofNat jj) + (1 : Int32))), .val (.int p3), .val (.ref vb), .val (.int (Int32.ofNat jj))]) rfl (XS.iinc X3.here hx rfl (hb hby d26_26) rfl (l' := #[.val (.ref a1), .val (.int ((Int32.ofNat jj) + (1 : Int32))), .val (.int p3), .val (.ref vb), .val (.int ((Int32.ofNat jj) + (1 : Int32)))]) rfl (XS.goto X3.here hx rfl (pc0 := 29) (pc' := 8) rfl (hb hby d26_29) (by decide) (by decide) k))) ?_
      have f9 : Arv Z T3.heap vb kb .byte (Int32.ofNat (2 * cs.length)) (List.map Value.int (own_u (cs.take (jj + 1)))) (.int (0 : Int32)) := (by rw [← own_uS hjl]; exact r3_1)
      show OGo _ _ _ _ (T3.setTop (mkF m 8 #[.val (.ref a1), .val (.int ((Int32.ofNat jj) + (1 : Int32))), .val (.int p3), .val (.ref vb), .val (.int ((Int32.ofNat jj) + (1 : Int32)))] []))
      rw [own_succ]
      have f10 := V_a1_a.keep r3_0 (ninS (Nat.ne_of_lt lt_a1_vb) nin0)
      exact iha  (jj + 1) (by omega) _ _ _ X3 rfl N3 K3 f10 f9
  have f11 := V_a1.keep r1_0 nin0
  exact lpa cs.length 0 (by omega) _ _ _ X1 rfl N1 K1 f11 r1_2
theorem own_all : ∀ k : Fin 256, own_ch (own_by (Int32.ofNat k.val)) = Int32.ofNat k.val := by decide +kernel
theorem own_fin {c : Int32} (h : ¬ (255 : Int32) < c) (h0 : nar .char c = c) : ∃ k : Fin 256, c = Int32.ofNat k.val := by
  have q := (c_i2c c).2.1
  rw [show c.toUInt32.toUInt16.toUInt32.toInt32 = c from h0] at q
  rw [Int32.lt_iff_toInt_lt] at h
  have d : (255 : Int32).toInt = 255 := rfl
  refine ⟨⟨c.toInt.toNat, by omega⟩, Int32.toInt_inj.mp ?_⟩
  rw [own_ti (by show c.toInt.toNat < 2147483648; omega)]
  show c.toInt = (c.toInt.toNat : Int)
  omega
theorem own_chby {c : Int32} (h : ¬ (255 : Int32) < c) (h0 : nar .char c = c) : own_ch (own_by c) = c := by
  obtain ⟨k, rfl⟩ := own_fin h h0; exact own_all k
theorem own_addN (a b : Nat) : Int32.ofNat a + Int32.ofNat b = Int32.ofNat (a + b) := (Int32.ofNat_add a b).symm
theorem own_subN {a b : Nat} (h : b ≤ a) : Int32.ofNat a - Int32.ofNat b = Int32.ofNat (a - b) := by
  have q : Int32.ofNat a = Int32.ofNat (a - b) + Int32.ofNat b := by rw [own_addN, Nat.sub_add_cancel h]
  rw [q, Int32.add_sub_cancel]
theorem own_pred {n : Nat} (h : 0 < n) : Int32.ofNat n - (1 : Int32) = Int32.ofNat (n - 1) := own_subN (b := 1) h
theorem own_predA {n : Nat} (h : 0 < n) : Int32.ofNat n + (-1 : Int32) = Int32.ofNat (n - 1) := by
  rw [← own_pred h, Int32.sub_eq_add_neg]
theorem own_inj {a b : Nat} (ha : a ≤ 1000) (hb : b ≤ 1000) (h : Int32.ofNat a = Int32.ofNat b) : a = b := by
  have q := congrArg Int32.toInt h
  rw [own_ti (by omega), own_ti (by omega)] at q; omega
theorem own_inj0 {a : Nat} (ha : a ≤ 1000) (h : Int32.ofNat a = (0 : Int32)) : a = 0 := own_inj ha (by omega) h
theorem own_ne0 {a : Nat} (ha : a ≤ 1000) (h : 0 < a) : ¬ Int32.ofNat a = (0 : Int32) := fun q => by have := own_inj0 ha q; omega
theorem own_pos {a : Nat} (ha : a ≤ 1000) (h : 0 < a) : (0 : Int32) < Int32.ofNat a := own_ilt (j := 0) h ha
def own_sub (cs : List Int32) (lo dd : Nat) : List Int32 := (cs.drop lo).take dd
theorem own_subL {cs : List Int32} {lo dd : Nat} (h : lo + dd ≤ cs.length) : (own_sub cs lo dd).length = dd := by
  simp [own_sub]; omega
theorem own_subG {cs : List Int32} {lo dd : Nat} (h : lo + dd ≤ cs.length) : ∀ j, j < dd → (own_sub cs lo dd).getD j 0 = cs.getD (lo + j) 0 := by
  intro j hj
  simp [own_sub, List.getD, List.getElem?_take, List.getElem?_drop, hj]
theorem own_subM {cs : List Int32} {lo dd : Nat} {q : Int32 → Prop} (h : ∀ c ∈ cs, q c) : ∀ c ∈ own_sub cs lo dd, q c := fun c hc => h c (List.mem_of_mem_drop (List.mem_of_mem_take hc))
theorem own_sub0 (cs : List Int32) : own_sub cs 0 cs.length = cs := by simp [own_sub]
theorem own_subMap (f : Int32 → Int32) (cs : List Int32) (lo dd : Nat) : own_sub (cs.map f) lo dd = (own_sub cs lo dd).map f := by simp [own_sub, List.map_drop, List.map_take]
theorem own_uDr : ∀ (lo : Nat) (cs : List Int32), (own_u cs).drop (2 * lo) = own_u (cs.drop lo)
  | 0, cs => by simp
  | lo + 1, [] => by simp [own_u]
  | lo + 1, c :: t => by
    show (own_lo c :: own_hi c :: own_u t).drop (2 * (lo + 1)) = own_u ((c :: t).drop (lo + 1))
    rw [show 2 * (lo + 1) = 2 * lo + 1 + 1 from by omega]
    simpa using own_uDr lo t
theorem own_uTk : ∀ (dd : Nat) (cs : List Int32), (own_u cs).take (2 * dd) = own_u (cs.take dd)
  | 0, cs => by simp [own_u]
  | dd + 1, [] => by simp [own_u]
  | dd + 1, c :: t => by
    show (own_lo c :: own_hi c :: own_u t).take (2 * (dd + 1)) = own_u ((c :: t).take (dd + 1))
    rw [show 2 * (dd + 1) = 2 * dd + 1 + 1 from by omega]
    have q := own_uTk dd t
    show _ = own_lo c :: own_hi c :: own_u (t.take dd)
    rw [← q]; rfl
theorem own_uSub (cs : List Int32) (lo dd : Nat) : own_sub (own_u cs) (2 * lo) (2 * dd) = own_u (own_sub cs lo dd) := by
  simp only [own_sub]; rw [own_uDr, own_uTk]
theorem own_cp {xs : List Int32} {lo k : Nat} (h : lo + k ≤ xs.length) : List.map Value.int (own_sub xs lo k) = (List.range k).map fun i => (List.map Value.int xs).getD (lo + i) (.int (0 : Int32)) := by
  apply List.ext_getElem
  · simp [own_subL h]
  · intro i h1 h2
    simp [own_subL h] at h1
    have q := own_subG h i h1
    simp only [List.getElem_map, List.getElem_range]
    rw [own_getm, ← q]
    have : i < (own_sub xs lo k).length := by rw [own_subL h]; exact h1
    simp [List.getD, this]
theorem own_cpr {k : Nat} {us : List Value} {d : Value} : (List.replicate k d).take 0 ++ us ++ (List.replicate k d).drop (0 + k) = us := by simp
theorem own_min {a b : Nat} (h : b ≤ a) (ha : a ≤ 1000) : (if Int32.ofNat b < Int32.ofNat a then Int32.ofNat b else Int32.ofNat a) = Int32.ofNat b := by
  by_cases q : b = a
  · subst q; simp
  · rw [if_pos (own_ilt (by omega) ha)]
theorem own_clA : ∀ n : Fin 11, own_cl (Int32.ofNat n.val) (Int32.ofNat n.val) = 0 ∧ (0 < n.val → own_cl (Int32.ofNat n.val) (Int32.ofNat (2 * n.val)) = 1) := by decide +kernel
theorem own_cl0 {n : Nat} (h : n ≤ 10) : own_cl (Int32.ofNat n) (Int32.ofNat n) = 0 := (own_clA ⟨n, by omega⟩).1
theorem own_cl1 {n : Nat} (h : n ≤ 10) (h0 : 0 < n) : own_cl (Int32.ofNat n) (Int32.ofNat (2 * n)) = 1 := (own_clA ⟨n, by omega⟩).2 h0
theorem own_mem {cs : List Int32} {k : Nat} (h : k < cs.length) : cs.getD k 0 ∈ cs := by
  have : cs.getD k 0 = cs[k] := by simp [List.getD, h]
  rw [this]; exact List.getElem_mem h
def own_Rep (cs : List Int32) (cd zb : Int32) (bs : List Value) : Prop := (cd = 0 ∧ zb = Int32.ofNat cs.length ∧ bs = List.map Value.int (List.map own_by cs) ∧ ∀ c ∈ cs, ¬ (255 : Int32) < c) ∨ (cd = 1 ∧ zb = Int32.ofNat (2 * cs.length) ∧ bs = List.map Value.int (own_u cs) ∧ ∃ c ∈ cs, (255 : Int32) < c)
def own_cell (k p n : Nat) (ms : List Int32) : Int32 := if k < p then 47 else if k < p + n then ms.getD (k - p) 0 else 47
theorem own_cellC {k p n : Nat} {ms : List Int32} (h : ∀ i, nar .char (ms.getD i 0) = ms.getD i 0) : nar .char (own_cell k p n ms) = own_cell k p n ms := by
  unfold own_cell; split
  · decide
  · split
    · exact h _
    · decide
def own_buf (p n : Nat) (ms : List Int32) : List Int32 := [own_cell 0 p n ms, own_cell 1 p n ms, own_cell 2 p n ms, own_cell 3 p n ms, own_cell 4 p n ms, own_cell 5 p n ms, own_cell 6 p n ms, own_cell 7 p n ms, own_cell 8 p n ms, own_cell 9 p n ms]
theorem own_bufG {p n z : Nat} {ms : List Int32} (hz : z ≤ 10) : ∀ i, i < z → ((own_buf p n ms).take z).getD i 0 = own_cell i p n ms := by
  intro i hi
  have e : ((own_buf p n ms).take z).getD i 0 = (own_buf p n ms).getD i 0 := by simp [List.getD, List.getElem?_take, hi]
  rw [e]
  have : i = 0 ∨ i = 1 ∨ i = 2 ∨ i = 3 ∨ i = 4 ∨ i = 5 ∨ i = 6 ∨ i = 7 ∨ i = 8 ∨ i = 9 := by omega
  rcases this with rfl | rfl | rfl | rfl | rfl | rfl | rfl | rfl | rfl | rfl <;> rfl
theorem own_bufL {p n z : Nat} {ms : List Int32} (hz : z ≤ 10) : ((own_buf p n ms).take z).length = z := by simp [own_buf]; omega
theorem own_bufC {p n z : Nat} {ms : List Int32} (h : ∀ i, nar .char (ms.getD i 0) = ms.getD i 0) : ∀ c ∈ (own_buf p n ms).take z, nar .char c = c := by
  intro c hc
  have q := List.mem_of_mem_take hc
  simp only [own_buf, List.mem_cons, List.not_mem_nil, or_false] at q
  rcases q with rfl | rfl | rfl | rfl | rfl | rfl | rfl | rfl | rfl | rfl <;> exact own_cellC h
theorem own_bufS {p n q : Nat} {ms : List Int32} (hp : p ≤ 3) (hn : n ≤ 4) (hq : q ≤ 3) (hm : ms.length = 4) : own_sub ((own_buf p n ms).take (p + n + q)) p n = ms.take n := by
  have hl : ((own_buf p n ms).take (p + n + q)).length = p + n + q := own_bufL (by omega)
  have hs : p + n ≤ ((own_buf p n ms).take (p + n + q)).length := by omega
  apply List.ext_getElem
  · rw [own_subL hs]; simp [hm]; omega
  · intro i h1 h2
    rw [own_subL hs] at h1
    have a := own_subG hs i h1
    have b := own_bufG (p := p) (n := n) (ms := ms) (show p + n + q ≤ 10 by omega) (p + i) (by omega)
    have c : own_cell (p + i) p n ms = ms.getD i 0 := by
      unfold own_cell; rw [if_neg (by omega), if_pos (by omega), Nat.add_sub_cancel_left]
    have d : (own_sub ((own_buf p n ms).take (p + n + q)) p n).getD i 0 = ms.getD i 0 := by rw [a, b, c]
    have l1 : i < (own_sub ((own_buf p n ms).take (p + n + q)) p n).length := by rw [own_subL hs]; exact h1
    have l2 : i < ms.length := by omega
    rw [List.getElem_take]
    have e1 : (own_sub ((own_buf p n ms).take (p + n + q)) p n).getD i 0 = (own_sub ((own_buf p n ms).take (p + n + q)) p n)[i] := by simp [List.getD, l1]
    have e2 : ms.getD i 0 = ms[i] := by simp [List.getD, l2]
    rw [← e1, ← e2, d]
theorem own_cellA {k p n : Nat} {ms : List Int32} (h : k < p ∨ p + n ≤ k) : own_cell k p n ms = 47 := by
  unfold own_cell
  rcases h with h | h
  · rw [if_pos h]
  · by_cases q : k < p
    · rw [if_pos q]
    · rw [if_neg q, if_neg (by omega)]
theorem own_cellB {k p n : Nat} {ms : List Int32} (h : p ≤ k) (h2 : k < p + n) : own_cell k p n ms = ms.getD (k - p) 0 := by
  unfold own_cell; rw [if_neg (by omega), if_pos h2]
theorem own_takeG {ms : List Int32} {n i : Nat} (h : i < n) : (ms.take n).getD i 0 = ms.getD i 0 := by simp [List.getD, List.getElem?_take, h]
theorem own_p3 (x : Int32) : ∃ k : Nat, k ≤ 3 ∧ (x &&& (3 : Int32)) = Int32.ofNat k := by
  have h := c_and x 3 (by decide)
  have d : (3 : Int32).toInt = 3 := rfl
  refine ⟨(x &&& 3).toInt.toNat, by omega, Int32.toInt_inj.mp ?_⟩
  rw [own_ti (by omega)]; omega
theorem own_n5 (x : Int32) : ∃ k : Nat, k ≤ 4 ∧ (((x.toUInt32 >>> ((4 : Int32) &&& 31).toUInt32).toInt32) - ((((x.toUInt32 >>> ((4 : Int32) &&& 31).toUInt32).toInt32) / (5 : Int32)) * (5 : Int32))) = Int32.ofNat k := by
  rw [irem_eq_mod]
  have h := c_iushr x 4 4 (by decide) (by decide)
  have g : 0 ≤ x.toInt % 4294967296 := Int.emod_nonneg _ (by decide)
  have h0 : 0 ≤ ((x.toUInt32 >>> ((4 : Int32) &&& 31).toUInt32).toInt32).toInt := by rw [h]; exact Int.ediv_nonneg g (by decide)
  have q := (c_irem ((x.toUInt32 >>> ((4 : Int32) &&& 31).toUInt32).toInt32) 5 5 rfl).1 h0
  generalize ((x.toUInt32 >>> ((4 : Int32) &&& 31).toUInt32).toInt32) = y at *
  have a := Int.emod_nonneg y.toInt (show (5 : Int) ≠ 0 by decide)
  have b := Int.emod_lt_of_pos y.toInt (show (0 : Int) < 5 by decide)
  refine ⟨(y % 5).toInt.toNat, by omega, Int32.toInt_inj.mp ?_⟩
  rw [own_ti (by omega)]; omega
theorem own_nn2 (x : Int32) : nar .char (nar .char x) = nar .char x := by
  show (x.toUInt32.toUInt16.toUInt32.toInt32).toUInt32.toUInt16.toUInt32.toInt32 = x.toUInt32.toUInt16.toUInt32.toInt32
  simp only [UInt32.toUInt32_toInt32, UInt16.toUInt16_toUInt32]
theorem own_ms {x0 x1 x2 x3 : Int32} (h0 : nar .char x0 = x0) (h1 : nar .char x1 = x1) (h2 : nar .char x2 = x2) (h3 : nar .char x3 = x3) : ∀ i, nar .char ([x0, x1, x2, x3].getD i 0) = [x0, x1, x2, x3].getD i 0 := by
  intro i
  match i with
  | 0 => exact h0
  | 1 => exact h1
  | 2 => exact h2
  | 3 => exact h3
  | i + 4 => exact (show nar .char (0 : Int32) = 0 from by decide)
theorem own_getb {cs : List Int32} {j : Nat} (h : j < cs.length) : (List.map Value.int (List.map own_by cs)).getD j (.int (0 : Int32)) = .int (own_by (cs.getD j 0)) := by
  rw [own_getm]; simp [List.getD, h]
theorem own_uB0 {cs : List Int32} {j : Nat} (h : j < cs.length) : (List.map Value.int (own_u cs)).getD (2 * j) (.int (0 : Int32)) = .int (own_lo (cs.getD j 0)) := by rw [own_getm, (own_uG cs j h).1]
theorem own_uB1 {cs : List Int32} {j : Nat} (h : j < cs.length) : (List.map Value.int (own_u cs)).getD (2 * j + 1) (.int (0 : Int32)) = .int (own_hi (cs.getD j 0)) := by rw [own_getm, (own_uG cs j h).2]
theorem own_or3A : ∀ a b c : Fin 11, ¬ ((Int32.ofNat a.val ||| Int32.ofNat b.val) ||| Int32.ofNat c.val) < (0 : Int32) := by decide +kernel
theorem own_or3 {a b c : Nat} (ha : a ≤ 10) (hb : b ≤ 10) (hc : c ≤ 10) : ¬ ((Int32.ofNat a ||| Int32.ofNat b) ||| Int32.ofNat c) < (0 : Int32) := own_or3A ⟨a, by omega⟩ ⟨b, by omega⟩ ⟨c, by omega⟩
theorem own_lat47 {cs : List Int32} (h : ∀ i, i < cs.length → cs.getD i 0 = 47) : ∀ c ∈ cs, ¬ (255 : Int32) < c := by
  intro c hc
  obtain ⟨i, hi, rfl⟩ := List.mem_iff_getElem.mp hc
  have e : cs.getD i 0 = cs[i] := by simp [List.getD, hi]
  rw [← e, h i hi]; decide

theorem d7_0 : decode jdk_42_method_54_code 0 = .ok (.aload_n 0, 1) := by decide +kernel
theorem d7_1 : decode jdk_42_method_54_code 1 = .ok (.getfield 9, 3) := by decide +kernel
theorem d7_4 : decode jdk_42_method_54_code 4 = .ok (.arraylength, 1) := by decide +kernel
theorem d7_5 : decode jdk_42_method_54_code 5 = .ok (.aload_n 0, 1) := by decide +kernel
theorem d7_6 : decode jdk_42_method_54_code 6 = .ok (.invokevirtual 335, 3) := by decide +kernel
theorem pd_10 : parseMethodDescriptor "()B" = some ⟨[], some .byte⟩ := by decide +kernel
theorem d7_9 : decode jdk_42_method_54_code 9 = .ok (.ishr, 1) := by decide +kernel
theorem d7_10 : decode jdk_42_method_54_code 10 = .ok (.ireturn, 1) := by decide +kernel
theorem ef_rm7 (m : MethodId) (a1 : Addr) : entryFrame m #[(.ref a1)] 1 = mkF m 0 #[.val (.ref a1)] [] := by
  first | (simp [entryFrame, mkF, argsToLocals, Value.category]; done) | rfl
def Q_rm7 (Z : State) (a1 : Addr) (w : Int32) (cs : List Int32) (cd : Int32) (zb : Int32) (bs : List Value) (vb : Addr) (kb : ClassId) (h0 : Heap) (n0 : Nat) (v : Option Value) (h : Heap) (L : List Loc) : Prop := v = some (.int (Int32.ofNat cs.length)) ∧ Fr n0 L ∧ h = h0
abbrev R_rm7 : Room := ⟨1, 0, 0, 13⟩
set_option maxRecDepth 65536 in
set_option maxHeartbeats 40000000 in
theorem rm7 (l : Launch) (Z : State) (a0 : Array Value) (hw : ∀ d ∈ tables_1, d.before a0 Z = true) (ws : List Jvm.Cond) (a1 : Addr) (w : Int32) (cs : List Int32) (cd : Int32) (zb : Int32) (bs : List Value) (vb : Addr) (kb : ClassId) (h0 : Heap) (n0 : Nat) (Z0 : n0 ≤ h0.size) (E_a1 : Exa Z h0 a1 "java/lang/String") (F_value_a1 : Fld Z h0 a1 "java/lang/String" "value" "[B" (.ref vb)) (F_coder_a1 : Fld Z h0 a1 "java/lang/String" "coder" "B" (.int cd)) (V_vb : Arv Z h0 vb kb .byte zb bs (.int (0 : Int32))) (S_COMPACT_STRINGS : Sta Z h0 "java/lang/String" "COMPACT_STRINGS" "Z" (.int w)) (hw0 : ¬ w = (0 : Int32)) (hrep : own_Rep cs cd zb bs) (hn10 : cs.length ≤ 10) :
    MetFree l own_y21 (head1 (Jvm.Cond.code own_y21 jdk_42_method_54_code 1 (some .int) :: ws) R_rm7) (fun a U => a = #[(.ref a1)] ∧ Z.Warmed39 U.vm ∧ U.heap = h0) (fun _ _ _ _ _ => True) (fun _ U o U' => ∃ v L, o = .returned v ∧ Q_rm7 Z a1 w cs cd zb bs vb kb h0 n0 v U'.heap L ∧ FrameEnd U o U' L R_rm7.cells R_rm7.slots) := by
  refine MetFree.of_bodySF (plainFor_of_name pn_String) hisR ?_
  intro p e s m args below meth c s₁ Bd hml0 hP hK
  obtain ⟨rfl, hZ, hh⟩ := hP
  have hx := Bd.exec
  have hby := Bd.bytes
  have hml : c.maxLocals = 1 := hml0
  have hown : s.vm.findClass "java/lang/String" = some m.cls := findClass_of_methodNamed Bd.named
  have hnm := (name_of_methodNamed Bd.named Bd.method).1
  have X0 : Stand p l e R_rm7 s m #[(.ref a1)] below meth c s₁ [] 0 0 := Stand.of_body Bd
  have e0 : s₁.heap = h0 := by rw [← hh, Bd.state]; rfl
  have N0 := Fr.nil n0
  show OGo p.tables e below (own_Kq s (fun v h L => Q_rm7 Z a1 w cs cd zb bs vb kb h0 n0 v h L) R_rm7.cells R_rm7.slots) (s₁.setTop (entryFrame m #[(.ref a1)] 1))
  refine OGo.cast (ef_rm7 m a1) ?_
  show OGo _ _ _ _ (s₁.setTop (mkF m 0 #[.val (.ref a1)] []))
  rcases hrep with ⟨rfl, rfl, rfl, hall⟩ | ⟨rfl, rfl, rfl, hexi⟩
  · refine OGo.via (fun _ k => XS.aloadN X0.here hx rfl (hb hby d7_0) rfl rfl k) ?_
    obtain ⟨T1, X1, e1, st1⟩ := getF X0 hx hZ hown (host := "") (Or.inl (own_w hw 28 rfl)) Via.refl e0 F_value_a1 (g := (mkF m 1 #[.val (.ref a1)] [(.ref a1)])) rfl rfl (hb hby d7_1)
    refine OGo.via st1 ?_
    show OGo _ _ _ _ (T1.setTop (mkF m 4 #[.val (.ref a1)] [(.ref vb)]))
    obtain ⟨cl2, Ar2, q2, Sz2, Ng2, Hs2, Gf2⟩ := id V_vb
    refine OGo.via (X1.arraylength hx (by rw [e1]; exact Ar2.1) (State.isArrayOf_alike hZ.alike Ar2.2.1) (g := (mkF m 4 #[.val (.ref a1)] [(.ref vb)])) rfl rfl (hb hby d7_4)) ?_
    rw [len_of Sz2 Ng2]
    show OGo _ _ _ _ (T1.setTop (mkF m 5 #[.val (.ref a1)] [(.int (Int32.ofNat cs.length))]))
    refine OGo.via (fun _ k => XS.aloadN X1.here hx rfl (hb hby d7_5) rfl rfl k) ?_
    obtain ⟨cq3, kq3, q3a, q3b, q3c⟩ := isOf hZ e1 E_a1
    obtain ⟨_, T3, Lc3, X3, hQ3, st3⟩ := own_open X1 (X1.virtualBack hx (y := own_y2) (z := own_y2) hown (mvT hZ (own_w hw 39 rfl)) (mvT hZ (own_w hw 40 rfl)) (notFace_of_selects (args := #[]) (mvT hZ (own_w hw 42 rfl))) (mvT hZ (own_w hw 42 rfl)) (mvT hZ (own_w hw 41 rfl)) (by decide) (backOf (W := 1) (rm8L l Z a0 hw [] a1 w vb h0 n0 Z0 E_a1 F_value_a1 F_coder_a1 S_COMPACT_STRINGS hw0) hZ (own_w hw 43 rfl) (own_w hw 11 rfl) (by decide) (by decide)) q3a q3c (g := (mkF m 6 #[.val (.ref a1)] [(.ref a1), (.int (Int32.ofNat cs.length))])) rfl (by rw [hml]; rfl) (Steps.refl _) (argsL := []) (rest := [(.int (Int32.ofNat cs.length))]) (lenOf pd_10 rfl) rfl (by show 2 * 0 + _ ≤ _; exact Nat.le_of_eq rfl) (hb hby d7_6) (fun _ _ => ⟨rfl, e1, (by decide : 0 + 0 ≤ _), (by decide : 0 + 0 ≤ _)⟩))
    obtain ⟨rfl, N3q, r3_0⟩ := hQ3
    have N3 := Fr.app N0 N3q
    refine OGo.via (fun _ k => st3.trans k) ?_
    show OGo _ _ _ _ (T3.setTop (mkF m 9 #[.val (.ref a1)] [(.int (0 : Int32)), (.int (Int32.ofNat cs.length))]))
    refine OGo.via (fun _ k => XS.ishr X3.here hx rfl (hb hby d7_9) rfl k) ?_
    show OGo _ _ _ _ (T3.setTop (mkF m 10 #[.val (.ref a1)] [(.int ((Int32.ofNat cs.length) >>> ((0 : Int32) &&& 31)))]))
    refine own_retI X3 hx Bd.notSynchronized Bd.returns (hb hby d7_10) (by decide) (by decide) ?_
    show Q_rm7 Z _ _ _ _ _ _ _ _ h0 n0 _ T3.heap _
    exact ⟨(by rw [own_shr0]), N3, r3_0⟩
  · refine OGo.via (fun _ k => XS.aloadN X0.here hx rfl (hb hby d7_0) rfl rfl k) ?_
    obtain ⟨T4, X4, e4, st4⟩ := getF X0 hx hZ hown (host := "") (Or.inl (own_w hw 28 rfl)) Via.refl e0 F_value_a1 (g := (mkF m 1 #[.val (.ref a1)] [(.ref a1)])) rfl rfl (hb hby d7_1)
    refine OGo.via st4 ?_
    show OGo _ _ _ _ (T4.setTop (mkF m 4 #[.val (.ref a1)] [(.ref vb)]))
    obtain ⟨cl5, Ar5, q5, Sz5, Ng5, Hs5, Gf5⟩ := id V_vb
    refine OGo.via (X4.arraylength hx (by rw [e4]; exact Ar5.1) (State.isArrayOf_alike hZ.alike Ar5.2.1) (g := (mkF m 4 #[.val (.ref a1)] [(.ref vb)])) rfl rfl (hb hby d7_4)) ?_
    rw [len_of Sz5 Ng5]
    show OGo _ _ _ _ (T4.setTop (mkF m 5 #[.val (.ref a1)] [(.int (Int32.ofNat (2 * cs.length)))]))
    refine OGo.via (fun _ k => XS.aloadN X4.here hx rfl (hb hby d7_5) rfl rfl k) ?_
    obtain ⟨cq6, kq6, q6a, q6b, q6c⟩ := isOf hZ e4 E_a1
    obtain ⟨_, T6, Lc6, X6, hQ6, st6⟩ := own_open X4 (X4.virtualBack hx (y := own_y2) (z := own_y2) hown (mvT hZ (own_w hw 39 rfl)) (mvT hZ (own_w hw 40 rfl)) (notFace_of_selects (args := #[]) (mvT hZ (own_w hw 42 rfl))) (mvT hZ (own_w hw 42 rfl)) (mvT hZ (own_w hw 41 rfl)) (by decide) (backOf (W := 1) (rm8U l Z a0 hw [] a1 w vb h0 n0 Z0 E_a1 F_value_a1 F_coder_a1 S_COMPACT_STRINGS hw0) hZ (own_w hw 43 rfl) (own_w hw 11 rfl) (by decide) (by decide)) q6a q6c (g := (mkF m 6 #[.val (.ref a1)] [(.ref a1), (.int (Int32.ofNat (2 * cs.length)))])) rfl (by rw [hml]; rfl) (Steps.refl _) (argsL := []) (rest := [(.int (Int32.ofNat (2 * cs.length)))]) (lenOf pd_10 rfl) rfl (by show 2 * 0 + _ ≤ _; exact Nat.le_of_eq rfl) (hb hby d7_6) (fun _ _ => ⟨rfl, e4, (by decide : 0 + 0 ≤ _), (by decide : 0 + 0 ≤ _)⟩))
    obtain ⟨rfl, N6q, r6_0⟩ := hQ6
    have N6 := Fr.app N0 N6q
    refine OGo.via (fun _ k => st6.trans k) ?_
    show OGo _ _ _ _ (T6.setTop (mkF m 9 #[.val (.ref a1)] [(.int (1 : Int32)), (.int (Int32.ofNat (2 * cs.length)))]))
    refine OGo.via (fun _ k => XS.ishr X6.here hx rfl (hb hby d7_9) rfl k) ?_
    show OGo _ _ _ _ (T6.setTop (mkF m 10 #[.val (.ref a1)] [(.int ((Int32.ofNat (2 * cs.length)) >>> ((1 : Int32) &&& 31)))]))
    refine own_retI X6 hx Bd.notSynchronized Bd.returns (hb hby d7_10) (by decide) (by decide) ?_
    show Q_rm7 Z _ _ _ _ _ _ _ _ h0 n0 _ T6.heap _
    exact ⟨(by rw [own_half' hn10]), N6, r6_0⟩
theorem d15_0 : decode jdk_42_method_56_code 0 = .ok (.aload_n 0, 1) := by decide +kernel
theorem d15_1 : decode jdk_42_method_56_code 1 = .ok (.invokevirtual 492, 3) := by decide +kernel
theorem pd_11 : parseMethodDescriptor "()Z" = some ⟨[], some .boolean⟩ := by decide +kernel
theorem d15_4 : decode jdk_42_method_56_code 4 = .ok (.ifCond .eq 12, 3) := by decide +kernel
theorem d15_7 : decode jdk_42_method_56_code 7 = .ok (.aload_n 0, 1) := by decide +kernel
theorem d15_8 : decode jdk_42_method_56_code 8 = .ok (.getfield 9, 3) := by decide +kernel
theorem d15_11 : decode jdk_42_method_56_code 11 = .ok (.iload_n 1, 1) := by decide +kernel
theorem d15_12 : decode jdk_42_method_56_code 12 = .ok (.invokestatic 495, 3) := by decide +kernel
theorem d15_15 : decode jdk_42_method_56_code 15 = .ok (.ireturn, 1) := by decide +kernel
theorem d15_16 : decode jdk_42_method_56_code 16 = .ok (.aload_n 0, 1) := by decide +kernel
theorem d15_17 : decode jdk_42_method_56_code 17 = .ok (.getfield 9, 3) := by decide +kernel
theorem d15_20 : decode jdk_42_method_56_code 20 = .ok (.iload_n 1, 1) := by decide +kernel
theorem d15_21 : decode jdk_42_method_56_code 21 = .ok (.invokestatic 498, 3) := by decide +kernel
theorem d15_24 : decode jdk_42_method_56_code 24 = .ok (.ireturn, 1) := by decide +kernel
theorem ef_rm15 (m : MethodId) (a1 : Addr) (p2 : Int32) : entryFrame m #[(.ref a1), (.int p2)] 2 = mkF m 0 #[.val (.ref a1), .val (.int p2)] [] := by
  first | (simp [entryFrame, mkF, argsToLocals, Value.category]; done) | rfl
def Q_rm15 (Z : State) (a1 : Addr) (p2 : Int32) (w : Int32) (fm : Value) (cs : List Int32) (cd : Int32) (zb : Int32) (bs : List Value) (vb : Addr) (kb : ClassId) (jj : Nat) (h0 : Heap) (n0 : Nat) (v : Option Value) (h : Heap) (L : List Loc) : Prop := v = some (.int (cs.getD jj 0)) ∧ Fr n0 L ∧ h = h0
abbrev R_rm15 : Room := ⟨4, 0, 0, 53⟩
set_option maxRecDepth 65536 in
set_option maxHeartbeats 40000000 in
theorem rm15 (l : Launch) (Z : State) (a0 : Array Value) (hw : ∀ d ∈ tables_1, d.before a0 Z = true) (ws : List Jvm.Cond) (a1 : Addr) (p2 : Int32) (w : Int32) (fm : Value) (cs : List Int32) (cd : Int32) (zb : Int32) (bs : List Value) (vb : Addr) (kb : ClassId) (jj : Nat) (h0 : Heap) (n0 : Nat) (Z0 : n0 ≤ h0.size) (E_a1 : Exa Z h0 a1 "java/lang/String") (F_value_a1 : Fld Z h0 a1 "java/lang/String" "value" "[B" (.ref vb)) (F_coder_a1 : Fld Z h0 a1 "java/lang/String" "coder" "B" (.int cd)) (V_vb : Arv Z h0 vb kb .byte zb bs (.int (0 : Int32))) (S_COMPACT_STRINGS : Sta Z h0 "java/lang/String" "COMPACT_STRINGS" "Z" (.int w)) (S_SIOOBE_FORMATTER : Sta Z h0 "jdk/internal/util/Preconditions" "SIOOBE_FORMATTER" "Ljava/util/function/BiFunction;" fm) (S__assertionsDisabled : Sta Z h0 "java/lang/StringUTF16" "$assertionsDisabled" "Z" (.int (1 : Int32))) (S_HI_BYTE_SHIFT : Sta Z h0 "java/lang/StringUTF16" "HI_BYTE_SHIFT" "I" (.int (0 : Int32))) (S_LO_BYTE_SHIFT : Sta Z h0 "java/lang/StringUTF16" "LO_BYTE_SHIFT" "I" (.int (8 : Int32))) (hw0 : ¬ w = (0 : Int32)) (hr_fm : fm.isRef = true) (hrep : own_Rep cs cd zb bs) (hcs : ∀ c ∈ cs, nar .char c = c) (hn10 : cs.length ≤ 10) (hi2 : p2 = Int32.ofNat jj) (hjn : jj < cs.length) :
    MetFree l own_y22 (head1 (Jvm.Cond.code own_y22 jdk_42_method_56_code 2 (some .char) :: ws) R_rm15) (fun a U => a = #[(.ref a1), (.int p2)] ∧ Z.Warmed39 U.vm ∧ U.heap = h0) (fun _ _ _ _ _ => True) (fun _ U o U' => ∃ v L, o = .returned v ∧ Q_rm15 Z a1 p2 w fm cs cd zb bs vb kb jj h0 n0 v U'.heap L ∧ FrameEnd U o U' L R_rm15.cells R_rm15.slots) := by
  refine MetFree.of_bodySF (plainFor_of_name pn_String) hisR ?_
  intro p e s m args below meth c s₁ Bd hml0 hP hK
  obtain ⟨rfl, hZ, hh⟩ := hP
  have hx := Bd.exec
  have hby := Bd.bytes
  have hml : c.maxLocals = 2 := hml0
  have hown : s.vm.findClass "java/lang/String" = some m.cls := findClass_of_methodNamed Bd.named
  have hnm := (name_of_methodNamed Bd.named Bd.method).1
  have X0 : Stand p l e R_rm15 s m #[(.ref a1), (.int p2)] below meth c s₁ [] 0 0 := Stand.of_body Bd
  have e0 : s₁.heap = h0 := by rw [← hh, Bd.state]; rfl
  have N0 := Fr.nil n0
  show OGo p.tables e below (own_Kq s (fun v h L => Q_rm15 Z a1 p2 w fm cs cd zb bs vb kb jj h0 n0 v h L) R_rm15.cells R_rm15.slots) (s₁.setTop (entryFrame m #[(.ref a1), (.int p2)] 2))
  refine OGo.cast (ef_rm15 m a1 p2) ?_
  show OGo _ _ _ _ (s₁.setTop (mkF m 0 #[.val (.ref a1), .val (.int p2)] []))
  rcases hrep with ⟨rfl, rfl, rfl, hall⟩ | ⟨rfl, rfl, rfl, hexi⟩
  · refine OGo.via (fun _ k => XS.aloadN X0.here hx rfl (hb hby d15_0) rfl rfl k) ?_
    obtain ⟨cq1, kq1, q1a, q1b, q1c⟩ := isOf hZ e0 E_a1
    obtain ⟨_, T1, Lc1, X1, hQ1, st1⟩ := own_open X0 (X0.virtualBack hx (y := own_y3) (z := own_y3) hown (mvT hZ (own_w hw 75 rfl)) (mvT hZ (own_w hw 76 rfl)) (notFace_of_selects (args := #[]) (mvT hZ (own_w hw 78 rfl))) (mvT hZ (own_w hw 78 rfl)) (mvT hZ (own_w hw 77 rfl)) (by decide) (backOf (W := 0) (rm16L l Z a0 hw [] a1 w vb h0 n0 Z0 E_a1 F_value_a1 F_coder_a1 S_COMPACT_STRINGS hw0) hZ (own_w hw 79 rfl) (own_w hw 11 rfl) (by decide) (by decide)) q1a q1c (g := (mkF m 1 #[.val (.ref a1), .val (.int p2)] [(.ref a1)])) rfl (by rw [hml]; rfl) (Steps.refl _) (argsL := []) (rest := []) (lenOf pd_11 rfl) rfl (by show 2 * 0 + _ ≤ _; exact Nat.le_of_eq rfl) (hb hby d15_1) (fun _ _ => ⟨rfl, e0, (by decide : 0 + 0 ≤ _), (by decide : 0 + 0 ≤ _)⟩))
    obtain ⟨rfl, N1q, r1_0⟩ := hQ1
    have N1 := Fr.app N0 N1q
    refine OGo.via (fun _ k => st1.trans k) ?_
    show OGo _ _ _ _ (T1.setTop (mkF m 4 #[.val (.ref a1), .val (.int p2)] [(.int (1 : Int32))]))
    refine OGo.via (fun _ k => XS.ifNo X1.here hx rfl (hb hby d15_4) rfl ((if0 _ _).trans (feq (by decide : ¬ ((1 : Int32) = (0 : Int32)))).1) (XS.aloadN X1.here hx rfl (hb hby d15_7) rfl rfl k)) ?_
    obtain ⟨T2, X2, e2, st2⟩ := getF X1 hx hZ hown (host := "") (Or.inl (own_w hw 28 rfl)) Via.refl r1_0 F_value_a1 (g := (mkF m 8 #[.val (.ref a1), .val (.int p2)] [(.ref a1)])) rfl rfl (hb hby d15_8)
    refine OGo.via st2 ?_
    show OGo _ _ _ _ (T2.setTop (mkF m 11 #[.val (.ref a1), .val (.int p2)] [(.ref vb)]))
    refine OGo.via (fun _ k => XS.iloadN X2.here hx rfl (hb hby d15_11) rfl k) ?_
    obtain ⟨_, T3, Lc3, X3, hQ3, st3⟩ := own_open X2 (Jvm.LawKit.callS X2 hx (y := own_y14) hown (mvT hZ (own_w hw 80 rfl)) (mvT hZ (own_w hw 81 rfl)) (mvT hZ (own_w hw 82 rfl)) (mvT hZ (own_w hw 83 rfl)) (by decide) (backOf (W := 0) (rm17 l Z a0 hw [] vb p2 kb fm (Int32.ofNat cs.length) (List.map Value.int (List.map own_by cs)) (own_by (cs.getD jj 0)) h0 n0 Z0 V_vb S_SIOOBE_FORMATTER hr_fm (by rw [hi2]; exact own_nn (by omega)) (by rw [hi2]; exact own_ilt hjn (by omega)) (by rw [hi2, own_nc (by omega)]; exact own_getb hjn)) hZ (own_w hw 83 rfl) (own_w hw 82 rfl) (by decide) (by decide)) (g := (mkF m 12 #[.val (.ref a1), .val (.int p2)] [(.int p2), (.ref vb)])) rfl (by rw [hml]; rfl) (argsL := [(.ref vb), (.int p2)]) (rest := []) (lenOf pd_5 rfl) rfl (by show 2 * 0 + _ ≤ _; exact Nat.le_of_eq rfl) (hb hby d15_12) (fun _ _ => ⟨rfl, e2, (by decide : 0 + 0 ≤ _), (by decide : 0 + 0 ≤ _)⟩))
    obtain ⟨rfl, N3q, r3_0⟩ := hQ3
    have N3 := Fr.app N1 N3q
    refine OGo.via st3 ?_
    show OGo _ _ _ _ (T3.setTop (mkF m 15 #[.val (.ref a1), .val (.int p2)] [(.int (own_ch (own_by (cs.getD jj 0))))]))
    show OGo _ _ _ _ (T3.setTop (mkF m 15 #[.val (.ref a1), .val (.int p2)] [(.int (own_ch (own_by (cs.getD jj 0))))]))
    refine own_retN (t := .char) (by simp) X3 hx Bd.notSynchronized Bd.returns (hb hby d15_15) (by decide) (by decide) ?_
    show Q_rm15 Z _ _ _ _ _ _ _ _ _ _ _ h0 n0 _ T3.heap _
    exact ⟨(by rw [own_ch_n, own_chby (hall _ (own_mem hjn)) (hcs _ (own_mem hjn))]), N3, r3_0⟩
  · refine OGo.via (fun _ k => XS.aloadN X0.here hx rfl (hb hby d15_0) rfl rfl k) ?_
    obtain ⟨cq4, kq4, q4a, q4b, q4c⟩ := isOf hZ e0 E_a1
    obtain ⟨_, T4, Lc4, X4, hQ4, st4⟩ := own_open X0 (X0.virtualBack hx (y := own_y3) (z := own_y3) hown (mvT hZ (own_w hw 75 rfl)) (mvT hZ (own_w hw 76 rfl)) (notFace_of_selects (args := #[]) (mvT hZ (own_w hw 78 rfl))) (mvT hZ (own_w hw 78 rfl)) (mvT hZ (own_w hw 77 rfl)) (by decide) (backOf (W := 0) (rm16U l Z a0 hw [] a1 w vb h0 n0 Z0 E_a1 F_value_a1 F_coder_a1 S_COMPACT_STRINGS hw0) hZ (own_w hw 79 rfl) (own_w hw 11 rfl) (by decide) (by decide)) q4a q4c (g := (mkF m 1 #[.val (.ref a1), .val (.int p2)] [(.ref a1)])) rfl (by rw [hml]; rfl) (Steps.refl _) (argsL := []) (rest := []) (lenOf pd_11 rfl) rfl (by show 2 * 0 + _ ≤ _; exact Nat.le_of_eq rfl) (hb hby d15_1) (fun _ _ => ⟨rfl, e0, (by decide : 0 + 0 ≤ _), (by decide : 0 + 0 ≤ _)⟩))
    obtain ⟨rfl, N4q, r4_0⟩ := hQ4
    have N4 := Fr.app N0 N4q
    refine OGo.via (fun _ k => st4.trans k) ?_
    show OGo _ _ _ _ (T4.setTop (mkF m 4 #[.val (.ref a1), .val (.int p2)] [(.int (0 : Int32))]))
    refine OGo.via (fun _ k => XS.ifYes X4.here hx rfl (pc0 := 4) (pc' := 16) rfl (hb hby d15_4) rfl ((if0 _ _).trans (teq (by decide : (0 : Int32) = (0 : Int32))).1) (by decide) (by decide) (XS.aloadN X4.here hx rfl (hb hby d15_16) rfl rfl k)) ?_
    obtain ⟨T5, X5, e5, st5⟩ := getF X4 hx hZ hown (host := "") (Or.inl (own_w hw 28 rfl)) Via.refl r4_0 F_value_a1 (g := (mkF m 17 #[.val (.ref a1), .val (.int p2)] [(.ref a1)])) rfl rfl (hb hby d15_17)
    refine OGo.via st5 ?_
    show OGo _ _ _ _ (T5.setTop (mkF m 20 #[.val (.ref a1), .val (.int p2)] [(.ref vb)]))
    refine OGo.via (fun _ k => XS.iloadN X5.here hx rfl (hb hby d15_20) rfl k) ?_
    obtain ⟨_, T6, Lc6, X6, hQ6, st6⟩ := own_open X5 (Jvm.LawKit.callS X5 hx (y := own_y13) hown (mvT hZ (own_w hw 136 rfl)) (mvT hZ (own_w hw 137 rfl)) (mvT hZ (own_w hw 62 rfl)) (mvT hZ (own_w hw 138 rfl)) (by decide) (backOf (W := 0) (rm31 l Z a0 hw [] vb p2 kb (List.map Value.int (own_u cs)) cs.length jj (own_lo (cs.getD jj 0)) (own_hi (cs.getD jj 0)) fm h0 n0 Z0 V_vb S__assertionsDisabled S_HI_BYTE_SHIFT S_LO_BYTE_SHIFT hi2 hjn hn10 (own_uB0 hjn) (own_uB1 hjn) S_SIOOBE_FORMATTER hr_fm) hZ (own_w hw 138 rfl) (own_w hw 62 rfl) (by decide) (by decide)) (g := (mkF m 21 #[.val (.ref a1), .val (.int p2)] [(.int p2), (.ref vb)])) rfl (by rw [hml]; rfl) (argsL := [(.ref vb), (.int p2)]) (rest := []) (lenOf pd_5 rfl) rfl (by show 2 * 0 + _ ≤ _; exact Nat.le_of_eq rfl) (hb hby d15_21) (fun _ _ => ⟨rfl, e5, (by decide : 0 + 0 ≤ _), (by decide : 0 + 0 ≤ _)⟩))
    obtain ⟨rfl, N6q, r6_0⟩ := hQ6
    have N6 := Fr.app N4 N6q
    refine OGo.via st6 ?_
    show OGo _ _ _ _ (T6.setTop (mkF m 24 #[.val (.ref a1), .val (.int p2)] [(.int (own_gc (own_lo (cs.getD jj 0)) (own_hi (cs.getD jj 0))))]))
    show OGo _ _ _ _ (T6.setTop (mkF m 24 #[.val (.ref a1), .val (.int p2)] [(.int (own_gc (own_lo (cs.getD jj 0)) (own_hi (cs.getD jj 0))))]))
    refine own_retN (t := .char) (by simp) X6 hx Bd.notSynchronized Bd.returns (hb hby d15_24) (by decide) (by decide) ?_
    show Q_rm15 Z _ _ _ _ _ _ _ _ _ _ _ h0 n0 _ T6.heap _
    exact ⟨(by rw [own_gc_n, own_gclh _ (hcs _ (own_mem hjn))]), N6, r6_0⟩
theorem d12_0 : decode jdk_52_method_16_code 0 = .ok (.iload_n 2, 1) := by decide +kernel
theorem d12_1 : decode jdk_52_method_16_code 1 = .ok (.newarray .byte, 2) := by decide +kernel
theorem d12_3 : decode jdk_52_method_16_code 3 = .ok (.astore_n 3, 1) := by decide +kernel
theorem d12_4 : decode jdk_52_method_16_code 4 = .ok (.aload_n 0, 1) := by decide +kernel
theorem d12_5 : decode jdk_52_method_16_code 5 = .ok (.iload_n 1, 1) := by decide +kernel
theorem d12_6 : decode jdk_52_method_16_code 6 = .ok (.aload_n 3, 1) := by decide +kernel
theorem d12_7 : decode jdk_52_method_16_code 7 = .ok (.iconst 0, 1) := by decide +kernel
theorem d12_8 : decode jdk_52_method_16_code 8 = .ok (.iload_n 2, 1) := by decide +kernel
theorem d12_9 : decode jdk_52_method_16_code 9 = .ok (.invokestatic 115, 3) := by decide +kernel
theorem pd_12 : parseMethodDescriptor "([CI[BII)I" = some ⟨[(.array .char), .int, (.array .byte), .int, .int], some .int⟩ := by decide +kernel
theorem d12_12 : decode jdk_52_method_16_code 12 = .ok (.istore 4, 2) := by decide +kernel
theorem d12_14 : decode jdk_52_method_16_code 14 = .ok (.iload 4, 2) := by decide +kernel
theorem d12_16 : decode jdk_52_method_16_code 16 = .ok (.iload_n 2, 1) := by decide +kernel
theorem d12_17 : decode jdk_52_method_16_code 17 = .ok (.if_icmp .eq 40, 3) := by decide +kernel
theorem d12_57 : decode jdk_52_method_16_code 57 = .ok (.aload_n 3, 1) := by decide +kernel
theorem d12_58 : decode jdk_52_method_16_code 58 = .ok (.areturn, 1) := by decide +kernel
theorem d12_20 : decode jdk_52_method_16_code 20 = .ok (.aload_n 0, 1) := by decide +kernel
theorem d12_21 : decode jdk_52_method_16_code 21 = .ok (.iload_n 1, 1) := by decide +kernel
theorem d12_22 : decode jdk_52_method_16_code 22 = .ok (.iload_n 2, 1) := by decide +kernel
theorem d12_23 : decode jdk_52_method_16_code 23 = .ok (.invokestatic 119, 3) := by decide +kernel
theorem pd_13 : parseMethodDescriptor "([CII)[B" = some ⟨[(.array .char), .int, .int], some (.array .byte)⟩ := by decide +kernel
theorem d12_26 : decode jdk_52_method_16_code 26 = .ok (.astore 5, 2) := by decide +kernel
theorem d12_28 : decode jdk_52_method_16_code 28 = .ok (.aload 5, 2) := by decide +kernel
theorem d12_30 : decode jdk_52_method_16_code 30 = .ok (.iload 4, 2) := by decide +kernel
theorem d12_32 : decode jdk_52_method_16_code 32 = .ok (.invokestatic 71, 3) := by decide +kernel
theorem d12_35 : decode jdk_52_method_16_code 35 = .ok (.sipush 255, 3) := by decide +kernel
theorem d12_38 : decode jdk_52_method_16_code 38 = .ok (.if_icmp .gt 16, 3) := by decide +kernel
theorem d12_54 : decode jdk_52_method_16_code 54 = .ok (.aload 5, 2) := by decide +kernel
theorem d12_56 : decode jdk_52_method_16_code 56 = .ok (.areturn, 1) := by decide +kernel
theorem ef_rm12 (m : MethodId) (a1 : Addr) (p3 : Int32) : entryFrame m #[(.ref a1), (.int (0 : Int32)), (.int p3)] 6 = mkF m 0 #[.val (.ref a1), .val (.int (0 : Int32)), .val (.int p3), .unset, .unset, .unset] [] := by
  first | (simp [entryFrame, mkF, argsToLocals, Value.category]; done) | rfl
def Q_rm12 (Z : State) (a1 : Addr) (p3 : Int32) (k1 : ClassId) (cs : List Int32) (w : Int32) (fm : Value) (h0 : Heap) (n0 : Nat) (v : Option Value) (h : Heap) (L : List Loc) : Prop := ∃ vb : Addr, ∃ kb : ClassId, ∃ cd : Int32, ∃ zb : Int32, ∃ bs : List Value, v = some (.ref vb) ∧ Fr n0 L ∧ Keep h0 h [] ∧ h0.size ≤ vb ∧ Arv Z h vb kb .byte zb bs (.int (0 : Int32)) ∧ (own_Rep cs cd zb bs)
abbrev R_rm12 : Room := ⟨3, 2, 30, 40⟩
set_option maxRecDepth 65536 in
set_option maxHeartbeats 40000000 in
theorem rm12 (l : Launch) (Z : State) (a0 : Array Value) (hw : ∀ d ∈ tables_1, d.before a0 Z = true) (ws : List Jvm.Cond) (a1 : Addr) (p3 : Int32) (k1 : ClassId) (cs : List Int32) (w : Int32) (fm : Value) (h0 : Heap) (n0 : Nat) (Z0 : n0 ≤ h0.size) (S_COMPACT_STRINGS : Sta Z h0 "java/lang/String" "COMPACT_STRINGS" "Z" (.int w)) (S_SIOOBE_FORMATTER : Sta Z h0 "jdk/internal/util/Preconditions" "SIOOBE_FORMATTER" "Ljava/util/function/BiFunction;" fm) (S__assertionsDisabled : Sta Z h0 "java/lang/StringUTF16" "$assertionsDisabled" "Z" (.int (1 : Int32))) (S_HI_BYTE_SHIFT : Sta Z h0 "java/lang/StringUTF16" "HI_BYTE_SHIFT" "I" (.int (0 : Int32))) (S_LO_BYTE_SHIFT : Sta Z h0 "java/lang/StringUTF16" "LO_BYTE_SHIFT" "I" (.int (8 : Int32))) (V_a1 : Arv Z h0 a1 k1 .char p3 (List.map Value.int cs) (.int (0 : Int32))) (hz3 : p3 = Int32.ofNat cs.length) (hn10 : cs.length ≤ 10) (hcs : ∀ c ∈ cs, nar .char c = c) :
    MetFree l own_y23 (head1 (Jvm.Cond.code own_y23 jdk_52_method_16_code 6 (some (.array .byte)) :: ws) R_rm12) (fun a U => a = #[(.ref a1), (.int (0 : Int32)), (.int p3)] ∧ Z.Warmed39 U.vm ∧ U.heap = h0) (fun _ _ _ _ _ => True) (fun _ U o U' => ∃ v L, o = .returned v ∧ Q_rm12 Z a1 p3 k1 cs w fm h0 n0 v U'.heap L ∧ FrameEnd U o U' L R_rm12.cells R_rm12.slots) := by
  refine MetFree.of_bodySF (plainFor_of_name pn_StringUTF16) hisR ?_
  intro p e s m args below meth c s₁ Bd hml0 hP hK
  obtain ⟨rfl, hZ, hh⟩ := hP
  have hx := Bd.exec
  have hby := Bd.bytes
  have hml : c.maxLocals = 6 := hml0
  have hown : s.vm.findClass "java/lang/StringUTF16" = some m.cls := findClass_of_methodNamed Bd.named
  have hnm := (name_of_methodNamed Bd.named Bd.method).1
  have X0 : Stand p l e R_rm12 s m #[(.ref a1), (.int (0 : Int32)), (.int p3)] below meth c s₁ [] 0 0 := Stand.of_body Bd
  have e0 : s₁.heap = h0 := by rw [← hh, Bd.state]; rfl
  have N0 := Fr.nil n0
  show OGo p.tables e below (own_Kq s (fun v h L => Q_rm12 Z a1 p3 k1 cs w fm h0 n0 v h L) R_rm12.cells R_rm12.slots) (s₁.setTop (entryFrame m #[(.ref a1), (.int (0 : Int32)), (.int p3)] 6))
  refine OGo.cast (ef_rm12 m a1 p3) ?_
  show OGo _ _ _ _ (s₁.setTop (mkF m 0 #[.val (.ref a1), .val (.int (0 : Int32)), .val (.int p3), .unset, .unset, .unset] []))
  refine OGo.via (fun _ k => XS.iloadN X0.here hx rfl (hb hby d12_0) rfl k) ?_
  obtain ⟨T1, h1, ka1, X1, e1, E1, A1, Y1, st1⟩ := newPE (ad := "[B") X0 hx hZ (own_w hw 23 rfl) e0 (g := (mkF m 1 #[.val (.ref a1), .val (.int (0 : Int32)), .val (.int p3), .unset, .unset, .unset] [(.int p3)])) rfl (hb hby d12_1) rfl (by rw [hz3]; exact own_nn (by omega)) (cap := 10) (by rw [hz3, own_nc (by omega)]; exact hn10) (by decide) (by decide) (by decide) (by decide)
  obtain ⟨b1, g1⟩ : ∃ z, z = h0.size := ⟨_, rfl⟩
  rw [← g1] at A1 Y1 st1
  refine OGo.via st1 ?_
  have K1 : Keep h0 h1 [] := (Keep.refl h0 []).ext E1
  have lt_a1_b1 : a1 < b1 := Nat.lt_of_lt_of_le V_a1.lt (Nat.le_of_eq g1.symm)
  have sz_b1 : h0.size ≤ b1 := Nat.le_trans (Keep.refl h0 []).1 (Nat.le_of_eq g1.symm)
  have g_b1 : n0 ≤ b1 := Nat.le_trans Z0 sz_b1
  have V1 : Arv Z h1 b1 ka1 .byte p3 [] (.int (0 : Int32)) := Arv.new A1 (by rw [hz3]; exact own_nn (by omega))
  show OGo _ _ _ _ (T1.setTop (mkF m 3 #[.val (.ref a1), .val (.int (0 : Int32)), .val (.int p3), .unset, .unset, .unset] [(.ref b1)]))
  refine OGo.via (fun _ k => XS.astoreN X1.here hx rfl (hb hby d12_3) rfl rfl (l' := #[.val (.ref a1), .val (.int (0 : Int32)), .val (.int p3), .val (.ref b1), .unset, .unset]) rfl (XS.aloadN X1.here hx rfl (hb hby d12_4) rfl rfl (XS.iloadN X1.here hx rfl (hb hby d12_5) rfl (XS.aloadN X1.here hx rfl (hb hby d12_6) rfl rfl (XS.iconst X1.here hx rfl (hb hby d12_7) (XS.iloadN X1.here hx rfl (hb hby d12_8) rfl k)))))) ?_
  have f3 := S_COMPACT_STRINGS.ext E1
  have f4 := S_SIOOBE_FORMATTER.ext E1
  have f5 := S__assertionsDisabled.ext E1
  have f6 := S_HI_BYTE_SHIFT.ext E1
  have f7 := S_LO_BYTE_SHIFT.ext E1
  have f8 := V_a1.ext E1
  obtain ⟨_, T2, Lc2, X2, hQ2, st2⟩ := own_open X1 (Jvm.LawKit.callS X1 hx (y := own_y0) hown (mvT hZ (own_w hw 64 rfl)) (mvT hZ (own_w hw 65 rfl)) (mvT hZ (own_w hw 62 rfl)) (mvT hZ (own_w hw 66 rfl)) (by decide) (backOf (W := 0) (rm13 l Z a0 hw [] a1 b1 p3 k1 ka1 cs w fm h1 n0 (Nat.le_trans Z0 K1.1) f3 f4 f5 f6 f7 f8 V1 (Nat.ne_of_lt lt_a1_b1) g_b1 hz3 hn10) hZ (own_w hw 66 rfl) (own_w hw 62 rfl) (by decide) (by decide)) (g := (mkF m 9 #[.val (.ref a1), .val (.int (0 : Int32)), .val (.int p3), .val (.ref b1), .unset, .unset] [(.int p3), (.int (0 : Int32)), (.ref b1), (.int (0 : Int32)), (.ref a1)])) rfl (by rw [hml]; rfl) (argsL := [(.ref a1), (.int (0 : Int32)), (.ref b1), (.int (0 : Int32)), (.int p3)]) (rest := []) (lenOf pd_12 rfl) rfl (by show 2 * 0 + _ ≤ _; exact Nat.le_of_eq rfl) (hb hby d12_9) (fun _ _ => ⟨rfl, e1, (by decide : 1 + 0 ≤ _), (by decide : 10 + 0 ≤ _)⟩))
  obtain ⟨kk, bs0, rfl, N2q, r2_0, r2_1, r2_2, r2_3, r2_4, r2_5, r2_6, r2_7⟩ := hQ2
  have N2 := Fr.app N0 N2q
  have K2 : Keep h0 T2.heap [] := K1.trans r2_0 (allS (Or.inr sz_b1) all0)
  refine OGo.via st2 ?_
  show OGo _ _ _ _ (T2.setTop (mkF m 12 #[.val (.ref a1), .val (.int (0 : Int32)), .val (.int p3), .val (.ref b1), .unset, .unset] [(.int (Int32.ofNat kk))]))
  rcases r2_7 with ⟨rfl, hal, rfl⟩ | ⟨hkl, hkg⟩
  · show OGo _ _ _ _ (T2.setTop (mkF m 12 #[.val (.ref a1), .val (.int (0 : Int32)), .val (.int p3), .val (.ref b1), .unset, .unset] [(.int (Int32.ofNat cs.length))]))
    refine OGo.via (fun _ k => XS.istore X2.here hx rfl (hb hby d12_12) rfl (l' := #[.val (.ref a1), .val (.int (0 : Int32)), .val (.int p3), .val (.ref b1), .val (.int (Int32.ofNat cs.length)), .unset]) rfl (XS.iload X2.here hx rfl (hb hby d12_14) rfl (XS.iloadN X2.here hx rfl (hb hby d12_16) rfl (XS.icmpYes X2.here hx rfl (pc0 := 17) (pc' := 57) rfl (hb hby d12_17) rfl (teq hz3.symm).1 (by decide) (by decide) (XS.aloadN X2.here hx rfl (hb hby d12_57) rfl rfl k))))) ?_
    show OGo _ _ _ _ (T2.setTop (mkF m 58 #[.val (.ref a1), .val (.int (0 : Int32)), .val (.int p3), .val (.ref b1), .val (.int (Int32.ofNat cs.length)), .unset] [(.ref b1)]))
    refine own_retA X2 hx Bd.notSynchronized Bd.returns rfl rfl (hb hby d12_58) (by decide) (by decide) ?_
    show Q_rm12 Z _ _ _ _ _ _ h0 n0 _ T2.heap _
    exact ⟨b1, ka1, (0 : Int32), p3, (List.map Value.int (List.map own_by cs)), rfl, N2, K2, sz_b1, r2_1, (Or.inl ⟨rfl, hz3, rfl, hal⟩)⟩
  · show OGo _ _ _ _ (T2.setTop (mkF m 12 #[.val (.ref a1), .val (.int (0 : Int32)), .val (.int p3), .val (.ref b1), .unset, .unset] [(.int (Int32.ofNat kk))]))
    refine OGo.via (fun _ k => XS.istore X2.here hx rfl (hb hby d12_12) rfl (l' := #[.val (.ref a1), .val (.int (0 : Int32)), .val (.int p3), .val (.ref b1), .val (.int (Int32.ofNat kk)), .unset]) rfl (XS.iload X2.here hx rfl (hb hby d12_14) rfl (XS.iloadN X2.here hx rfl (hb hby d12_16) rfl (XS.icmpNo X2.here hx rfl (hb hby d12_17) rfl (feq (by rw [hz3]; exact fun q => absurd (own_inj (by omega) (by omega) q) (by omega))).1 (XS.aloadN X2.here hx rfl (hb hby d12_20) rfl rfl (XS.iloadN X2.here hx rfl (hb hby d12_21) rfl (XS.iloadN X2.here hx rfl (hb hby d12_22) rfl k))))))) ?_
    have f10 := f8.keep r2_0 (ninS (Nat.ne_of_lt lt_a1_b1) nin0)
    have f11 := Y1.keep r2_0
    obtain ⟨_, T9, Lc9, X9, hQ9, st9⟩ := own_open X2 (Jvm.LawKit.callS X2 hx (y := own_y20) hown (mvT hZ (own_w hw 117 rfl)) (mvT hZ (own_w hw 118 rfl)) (mvT hZ (own_w hw 62 rfl)) (mvT hZ (own_w hw 119 rfl)) (by decide) (backOf (W := 0) (rm26 l Z a0 hw [] a1 p3 k1 cs w fm T2.heap n0 (Nat.le_trans Z0 K2.1) r2_2 r2_3 r2_4 r2_5 r2_6 f10 hz3 hn10) hZ (own_w hw 119 rfl) (own_w hw 62 rfl) (by decide) (by decide)) (g := (mkF m 23 #[.val (.ref a1), .val (.int (0 : Int32)), .val (.int p3), .val (.ref b1), .val (.int (Int32.ofNat kk)), .unset] [(.int p3), (.int (0 : Int32)), (.ref a1)])) rfl (by rw [hml]; rfl) (argsL := [(.ref a1), (.int (0 : Int32)), (.int p3)]) (rest := []) (lenOf pd_13 rfl) rfl (by show 2 * 0 + _ ≤ _; exact Nat.le_of_eq rfl) (hb hby d12_23) (fun _ _ => ⟨rfl, rfl, (by decide : 1 + 1 ≤ _), (by decide : 10 + 20 ≤ _)⟩))
    obtain ⟨vu, ku, rfl, N9q, r9_0, r9_1, r9_2⟩ := hQ9
    have N9 := Fr.app N2 N9q
    have K9 : Keep h0 T9.heap [] := K2.trans r9_0 all0
    have lt_a1_vu : a1 < vu := Nat.lt_of_lt_of_le f10.lt r9_1
    have lt_b1_vu : b1 < vu := Nat.lt_of_lt_of_le f11.lt r9_1
    have sz_vu : h0.size ≤ vu := Nat.le_trans K2.1 r9_1
    have g_vu : n0 ≤ vu := Nat.le_trans Z0 sz_vu
    refine OGo.via st9 ?_
    show OGo _ _ _ _ (T9.setTop (mkF m 26 #[.val (.ref a1), .val (.int (0 : Int32)), .val (.int p3), .val (.ref b1), .val (.int (Int32.ofNat kk)), .unset] [(.ref vu)]))
    refine OGo.via (fun _ k => XS.astore X9.here hx rfl (hb hby d12_26) rfl rfl (l' := #[.val (.ref a1), .val (.int (0 : Int32)), .val (.int p3), .val (.ref b1), .val (.int (Int32.ofNat kk)), .val (.ref vu)]) rfl (XS.aload X9.here hx rfl (hb hby d12_28) rfl rfl (XS.iload X9.here hx rfl (hb hby d12_30) rfl k))) ?_
    have f13 := own_staKeep0 r2_4 r9_0
    have f14 := own_staKeep0 r2_5 r9_0
    have f15 := own_staKeep0 r2_6 r9_0
    obtain ⟨_, T12, Lc12, X12, hQ12, st12⟩ := own_open X9 (Jvm.LawKit.callS X9 hx (y := own_y11) hown (mvT hZ (own_w hw 133 rfl)) (mvT hZ (own_w hw 134 rfl)) (mvT hZ (own_w hw 62 rfl)) (mvT hZ (own_w hw 135 rfl)) (by decide) (backOf (W := 0) (rm30 l Z a0 hw [] vu (Int32.ofNat kk) ku (List.map Value.int (own_u cs)) cs.length kk (own_lo (cs.getD kk 0)) (own_hi (cs.getD kk 0)) T9.heap n0 (Nat.le_trans Z0 K9.1) r9_2 f13 f14 f15 rfl hkl hn10 (own_uB0 hkl) (own_uB1 hkl)) hZ (own_w hw 135 rfl) (own_w hw 62 rfl) (by decide) (by decide)) (g := (mkF m 32 #[.val (.ref a1), .val (.int (0 : Int32)), .val (.int p3), .val (.ref b1), .val (.int (Int32.ofNat kk)), .val (.ref vu)] [(.int (Int32.ofNat kk)), (.ref vu)])) rfl (by rw [hml]; rfl) (argsL := [(.ref vu), (.int (Int32.ofNat kk))]) (rest := []) (lenOf pd_5 rfl) rfl (by show 2 * 0 + _ ≤ _; exact Nat.le_of_eq rfl) (hb hby d12_32) (fun _ _ => ⟨rfl, rfl, (by decide : 2 + 0 ≤ _), (by decide : 30 + 0 ≤ _)⟩))
    obtain ⟨rfl, N12q, r12_0⟩ := hQ12
    have N12 := Fr.app N9 N12q
    refine OGo.via st12 ?_
    show OGo _ _ _ _ (T12.setTop (mkF m 35 #[.val (.ref a1), .val (.int (0 : Int32)), .val (.int p3), .val (.ref b1), .val (.int (Int32.ofNat kk)), .val (.ref vu)] [(.int (own_gc (own_lo (cs.getD kk 0)) (own_hi (cs.getD kk 0))))]))
    refine OGo.via (fun _ k => XS.sipush X12.here hx rfl (hb hby d12_35) (XS.icmpYes X12.here hx rfl (pc0 := 38) (pc' := 54) rfl (hb hby d12_38) rfl (tlt (by rw [own_gclh _ (hcs _ (own_mem hkl))]; exact hkg)).2.2.1 (by decide) (by decide) (XS.aload X12.here hx rfl (hb hby d12_54) rfl rfl k))) ?_
    show OGo _ _ _ _ (T12.setTop (mkF m 56 #[.val (.ref a1), .val (.int (0 : Int32)), .val (.int p3), .val (.ref b1), .val (.int (Int32.ofNat kk)), .val (.ref vu)] [(.ref vu)]))
    refine own_retA X12 hx Bd.notSynchronized Bd.returns rfl rfl (hb hby d12_56) (by decide) (by decide) ?_
    show Q_rm12 Z _ _ _ _ _ _ h0 n0 _ T12.heap _
    rw [r12_0]
    exact ⟨vu, ku, (1 : Int32), (Int32.ofNat (2 * cs.length)), (List.map Value.int (own_u cs)), rfl, N12, K9, sz_vu, r9_2, (Or.inr ⟨rfl, rfl, rfl, _, own_mem hkl, hkg⟩)⟩
theorem d36_0 : decode jdk_52_method_22_code 0 = .ok (.iload_n 1, 1) := by decide +kernel
theorem d36_1 : decode jdk_52_method_22_code 1 = .ok (.iload 4, 2) := by decide +kernel
theorem d36_3 : decode jdk_52_method_22_code 3 = .ok (.aload_n 0, 1) := by decide +kernel
theorem d36_4 : decode jdk_52_method_22_code 4 = .ok (.invokestatic 173, 3) := by decide +kernel
theorem pd_14 : parseMethodDescriptor "(II[B)V" = some ⟨[.int, .int, (.array .byte)], none⟩ := by decide +kernel
theorem d36_7 : decode jdk_52_method_22_code 7 = .ok (.iconst 0, 1) := by decide +kernel
theorem d36_8 : decode jdk_52_method_22_code 8 = .ok (.istore 5, 2) := by decide +kernel
theorem d36_10 : decode jdk_52_method_22_code 10 = .ok (.iload 5, 2) := by decide +kernel
theorem d36_12 : decode jdk_52_method_22_code 12 = .ok (.iload 4, 2) := by decide +kernel
theorem d36_14 : decode jdk_52_method_22_code 14 = .ok (.if_icmp .ge 39, 3) := by decide +kernel
theorem d36_53 : decode jdk_52_method_22_code 53 = .ok (.iload 4, 2) := by decide +kernel
theorem d36_55 : decode jdk_52_method_22_code 55 = .ok (.ireturn, 1) := by decide +kernel
theorem d36_17 : decode jdk_52_method_22_code 17 = .ok (.aload_n 0, 1) := by decide +kernel
theorem d36_18 : decode jdk_52_method_22_code 18 = .ok (.iload_n 1, 1) := by decide +kernel
theorem d36_19 : decode jdk_52_method_22_code 19 = .ok (.invokestatic 71, 3) := by decide +kernel
theorem d36_22 : decode jdk_52_method_22_code 22 = .ok (.istore 6, 2) := by decide +kernel
theorem d36_24 : decode jdk_52_method_22_code 24 = .ok (.iload 6, 2) := by decide +kernel
theorem d36_26 : decode jdk_52_method_22_code 26 = .ok (.sipush 255, 3) := by decide +kernel
theorem d36_29 : decode jdk_52_method_22_code 29 = .ok (.if_icmp .le 6, 3) := by decide +kernel
theorem d36_32 : decode jdk_52_method_22_code 32 = .ok (.iload 5, 2) := by decide +kernel
theorem d36_34 : decode jdk_52_method_22_code 34 = .ok (.ireturn, 1) := by decide +kernel
theorem d36_35 : decode jdk_52_method_22_code 35 = .ok (.aload_n 2, 1) := by decide +kernel
theorem d36_36 : decode jdk_52_method_22_code 36 = .ok (.iload_n 3, 1) := by decide +kernel
theorem d36_37 : decode jdk_52_method_22_code 37 = .ok (.iload 6, 2) := by decide +kernel
theorem d36_39 : decode jdk_52_method_22_code 39 = .ok (.i2b, 1) := by decide +kernel
theorem d36_40 : decode jdk_52_method_22_code 40 = .ok (.bastore, 1) := by decide +kernel
theorem d36_41 : decode jdk_52_method_22_code 41 = .ok (.iinc 1 1, 3) := by decide +kernel
theorem d36_44 : decode jdk_52_method_22_code 44 = .ok (.iinc 3 1, 3) := by decide +kernel
theorem d36_47 : decode jdk_52_method_22_code 47 = .ok (.iinc 5 1, 3) := by decide +kernel
theorem d36_50 : decode jdk_52_method_22_code 50 = .ok (.goto (-40), 3) := by decide +kernel
theorem ef_rm36 (m : MethodId) (a1 : Addr) (lo : Nat) (a3 : Addr) (p5 : Int32) : entryFrame m #[(.ref a1), (.int (Int32.ofNat lo)), (.ref a3), (.int (0 : Int32)), (.int p5)] 7 = mkF m 0 #[.val (.ref a1), .val (.int (Int32.ofNat lo)), .val (.ref a3), .val (.int (0 : Int32)), .val (.int p5), .unset, .unset] [] := by
  first | (simp [entryFrame, mkF, argsToLocals, Value.category]; done) | rfl
def Q_rm36 (Z : State) (a1 : Addr) (a3 : Addr) (p5 : Int32) (k1 : ClassId) (k3 : ClassId) (cs : List Int32) (ds : List Int32) (lo : Nat) (w : Int32) (fm : Value) (h0 : Heap) (n0 : Nat) (v : Option Value) (h : Heap) (L : List Loc) : Prop := ∃ kk : Nat, ∃ bs : List Value, v = some (.int (Int32.ofNat kk)) ∧ Fr n0 L ∧ Keep h0 h [a3] ∧ Arv Z h a3 k3 .byte p5 bs (.int (0 : Int32)) ∧ Sta Z h "java/lang/String" "COMPACT_STRINGS" "Z" (.int w) ∧ Sta Z h "jdk/internal/util/Preconditions" "SIOOBE_FORMATTER" "Ljava/util/function/BiFunction;" fm ∧ Sta Z h "java/lang/StringUTF16" "$assertionsDisabled" "Z" (.int (1 : Int32)) ∧ Sta Z h "java/lang/StringUTF16" "HI_BYTE_SHIFT" "I" (.int (0 : Int32)) ∧ Sta Z h "java/lang/StringUTF16" "LO_BYTE_SHIFT" "I" (.int (8 : Int32)) ∧ ((kk = ds.length ∧ (∀ c ∈ ds, ¬ (255 : Int32) < c) ∧ bs = List.map Value.int (List.map own_by ds)) ∨ (kk < ds.length ∧ (255 : Int32) < ds.getD kk 0))
abbrev R_rm36 : Room := ⟨3, 0, 0, 43⟩
set_option maxRecDepth 65536 in
set_option maxHeartbeats 40000000 in
theorem rm36 (l : Launch) (Z : State) (a0 : Array Value) (hw : ∀ d ∈ tables_1, d.before a0 Z = true) (ws : List Jvm.Cond) (a1 : Addr) (a3 : Addr) (p5 : Int32) (k1 : ClassId) (k3 : ClassId) (cs : List Int32) (ds : List Int32) (lo : Nat) (w : Int32) (fm : Value) (h0 : Heap) (n0 : Nat) (Z0 : n0 ≤ h0.size) (S_COMPACT_STRINGS : Sta Z h0 "java/lang/String" "COMPACT_STRINGS" "Z" (.int w)) (S_SIOOBE_FORMATTER : Sta Z h0 "jdk/internal/util/Preconditions" "SIOOBE_FORMATTER" "Ljava/util/function/BiFunction;" fm) (S__assertionsDisabled : Sta Z h0 "java/lang/StringUTF16" "$assertionsDisabled" "Z" (.int (1 : Int32))) (S_HI_BYTE_SHIFT : Sta Z h0 "java/lang/StringUTF16" "HI_BYTE_SHIFT" "I" (.int (0 : Int32))) (S_LO_BYTE_SHIFT : Sta Z h0 "java/lang/StringUTF16" "LO_BYTE_SHIFT" "I" (.int (8 : Int32))) (hr_fm : fm.isRef = true) (V_a1 : Arv Z h0 a1 k1 .byte (Int32.ofNat (2 * cs.length)) (List.map Value.int (own_u cs)) (.int (0 : Int32))) (V_a3 : Arv Z h0 a3 k3 .byte p5 [] (.int (0 : Int32))) (ne_a1_a3 : a1 ≠ a3) (g_a3 : n0 ≤ a3) (hz5 : p5 = Int32.ofNat ds.length) (hld : lo + ds.length ≤ cs.length) (hds : ∀ j, j < ds.length → ds.getD j 0 = cs.getD (lo + j) 0) (hn10 : cs.length ≤ 10) (hcs : ∀ c ∈ cs, nar .char c = c) :
    MetFree l own_y24 (head1 (Jvm.Cond.code own_y24 jdk_52_method_22_code 7 (some .int) :: ws) R_rm36) (fun a U => a = #[(.ref a1), (.int (Int32.ofNat lo)), (.ref a3), (.int (0 : Int32)), (.int p5)] ∧ Z.Warmed39 U.vm ∧ U.heap = h0) (fun _ _ _ _ _ => True) (fun _ U o U' => ∃ v L, o = .returned v ∧ Q_rm36 Z a1 a3 p5 k1 k3 cs ds lo w fm h0 n0 v U'.heap L ∧ FrameEnd U o U' L R_rm36.cells R_rm36.slots) := by
  refine MetFree.of_bodySF (plainFor_of_name pn_StringUTF16) hisR ?_
  intro p e s m args below meth c s₁ Bd hml0 hP hK
  obtain ⟨rfl, hZ, hh⟩ := hP
  have hx := Bd.exec
  have hby := Bd.bytes
  have hml : c.maxLocals = 7 := hml0
  have hown : s.vm.findClass "java/lang/StringUTF16" = some m.cls := findClass_of_methodNamed Bd.named
  have hnm := (name_of_methodNamed Bd.named Bd.method).1
  have X0 : Stand p l e R_rm36 s m #[(.ref a1), (.int (Int32.ofNat lo)), (.ref a3), (.int (0 : Int32)), (.int p5)] below meth c s₁ [] 0 0 := Stand.of_body Bd
  have e0 : s₁.heap = h0 := by rw [← hh, Bd.state]; rfl
  have N0 := Fr.nil n0
  show OGo p.tables e below (own_Kq s (fun v h L => Q_rm36 Z a1 a3 p5 k1 k3 cs ds lo w fm h0 n0 v h L) R_rm36.cells R_rm36.slots) (s₁.setTop (entryFrame m #[(.ref a1), (.int (Int32.ofNat lo)), (.ref a3), (.int (0 : Int32)), (.int p5)] 7))
  refine OGo.cast (ef_rm36 m a1 lo a3 p5) ?_
  show OGo _ _ _ _ (s₁.setTop (mkF m 0 #[.val (.ref a1), .val (.int (Int32.ofNat lo)), .val (.ref a3), .val (.int (0 : Int32)), .val (.int p5), .unset, .unset] []))
  refine OGo.via (fun _ k => XS.iloadN X0.here hx rfl (hb hby d36_0) rfl (XS.iload X0.here hx rfl (hb hby d36_1) rfl (XS.aloadN X0.here hx rfl (hb hby d36_3) rfl rfl k))) ?_
  obtain ⟨_, T1, Lc1, X1, hQ1, st1⟩ := own_open X0 (Jvm.LawKit.callS X0 hx (y := own_y17) hown (mvT hZ (own_w hw 156 rfl)) (mvT hZ (own_w hw 157 rfl)) (mvT hZ (own_w hw 62 rfl)) (mvT hZ (own_w hw 158 rfl)) (by decide) (backOf (W := 0) (rm37 l Z a0 hw [] (Int32.ofNat lo) p5 a1 k1 (List.map Value.int (own_u cs)) cs.length fm h0 n0 Z0 V_a1 S_SIOOBE_FORMATTER hr_fm hn10 (by rw [hz5]; exact own_or3 (by omega) (by omega) (by omega)) (by rw [hz5, own_subN (by omega)]; exact own_nlt (by omega) (by omega))) hZ (own_w hw 158 rfl) (own_w hw 62 rfl) (by decide) (by decide)) (g := (mkF m 4 #[.val (.ref a1), .val (.int (Int32.ofNat lo)), .val (.ref a3), .val (.int (0 : Int32)), .val (.int p5), .unset, .unset] [(.ref a1), (.int p5), (.int (Int32.ofNat lo))])) rfl (by rw [hml]; rfl) (argsL := [(.int (Int32.ofNat lo)), (.int p5), (.ref a1)]) (rest := []) (lenOf pd_14 rfl) rfl (by show 2 * 0 + _ ≤ _; exact Nat.le_of_eq rfl) (hb hby d36_4) (fun _ _ => ⟨rfl, e0, (by decide : 0 + 0 ≤ _), (by decide : 0 + 0 ≤ _)⟩))
  obtain ⟨rfl, N1q, r1_0⟩ := hQ1
  have N1 := Fr.app N0 N1q
  refine OGo.via st1 ?_
  show OGo _ _ _ _ (T1.setTop (mkF m 7 #[.val (.ref a1), .val (.int (Int32.ofNat lo)), .val (.ref a3), .val (.int (0 : Int32)), .val (.int p5), .unset, .unset] []))
  refine OGo.via (fun _ k => XS.iconst X1.here hx rfl (hb hby d36_7) (XS.istore X1.here hx rfl (hb hby d36_8) rfl (l' := #[.val (.ref a1), .val (.int (Int32.ofNat lo)), .val (.ref a3), .val (.int (0 : Int32)), .val (.int p5), .val (.int (0 : Int32)), .unset]) rfl k)) ?_
  have lpa : ∀ (da jj : Nat), jj + da = ds.length → ∀ (sl6 : Slot) (Tla : State) (hla : Heap) (locsla : List Loc), Stand p l e R_rm36 s m #[(.ref a1), (.int (Int32.ofNat lo)), (.ref a3), (.int (0 : Int32)), (.int p5)] below meth c Tla locsla 0 0 → Tla.heap = hla → Fr n0 locsla → Keep h0 hla [a3] → Arv Z hla a1 k1 .byte (Int32.ofNat (2 * cs.length)) (List.map Value.int (own_u cs)) (.int (0 : Int32)) → Arv Z hla a3 k3 .byte p5 (List.map Value.int (List.map own_by (ds.take jj))) (.int (0 : Int32)) → Sta Z hla "java/lang/String" "COMPACT_STRINGS" "Z" (.int w) → Sta Z hla "jdk/internal/util/Preconditions" "SIOOBE_FORMATTER" "Ljava/util/function/BiFunction;" fm → Sta Z hla "java/lang/StringUTF16" "$assertionsDisabled" "Z" (.int (1 : Int32)) → Sta Z hla "java/lang/StringUTF16" "HI_BYTE_SHIFT" "I" (.int (0 : Int32)) → Sta Z hla "java/lang/StringUTF16" "LO_BYTE_SHIFT" "I" (.int (8 : Int32)) → (∀ c ∈ ds.take jj, ¬ (255 : Int32) < c) → (sl6 = .unset ∨ ∃ x, sl6 = .val (.int x)) → OGo p.tables e below (own_Kq s (fun v h L => Q_rm36 Z a1 a3 p5 k1 k3 cs ds lo w fm h0 n0 v h L) R_rm36.cells R_rm36.slots) (Tla.setTop (mkF m 10 #[.val (.ref a1), .val (.int (Int32.ofNat (lo + jj))), .val (.ref a3), .val (.int (Int32.ofNat jj)), .val (.int p5), .val (.int (Int32.ofNat jj)), sl6] [])) := by
    intro da
    induction da with
    | zero =>
      intro jj hja sl6 Tla hla locsla Xla ela Nla Kla V_a1_a V_a3_a S_COMPACT_STRINGS_a S_SIOOBE_FORMATTER_a S__assertionsDisabled_a S_HI_BYTE_SHIFT_a S_LO_BYTE_SHIFT_a hal hsl6
      obtain rfl : jj = ds.length := by omega
      refine OGo.via (fun _ k => XS.iload Xla.here hx rfl (hb hby d36_10) rfl (XS.iload Xla.here hx rfl (hb hby d36_12) rfl (XS.icmpYes Xla.here hx rfl (pc0 := 14) (pc' := 53) rfl (hb hby d36_14) rfl (flt (by rw [hz5]; exact Int32.lt_irrefl)).2.1 (by decide) (by decide) (XS.iload Xla.here hx rfl (hb hby d36_53) rfl k)))) ?_
      show OGo _ _ _ _ (Tla.setTop (mkF m 55 #[.val (.ref a1), .val (.int (Int32.ofNat (lo + ds.length))), .val (.ref a3), .val (.int (Int32.ofNat ds.length)), .val (.int p5), .val (.int (Int32.ofNat ds.length)), sl6] [(.int p5)]))
      refine own_retI Xla hx Bd.notSynchronized Bd.returns (hb hby d36_55) (by decide) (by decide) ?_
      show Q_rm36 Z _ _ _ _ _ _ _ _ _ _ h0 n0 _ Tla.heap _
      rw [ela]
      exact ⟨ds.length, (List.map Value.int (List.map own_by (ds.take ds.length))), (by rw [hz5]), Nla, Kla, V_a3_a, S_COMPACT_STRINGS_a, S_SIOOBE_FORMATTER_a, S__assertionsDisabled_a, S_HI_BYTE_SHIFT_a, S_LO_BYTE_SHIFT_a, (Or.inl ⟨rfl, by simpa using hal, by rw [List.take_length]⟩)⟩
    | succ da iha =>
      intro jj hja sl6 Tla hla locsla Xla ela Nla Kla V_a1_a V_a3_a S_COMPACT_STRINGS_a S_SIOOBE_FORMATTER_a S__assertionsDisabled_a S_HI_BYTE_SHIFT_a S_LO_BYTE_SHIFT_a hal hsl6
      have hjl : jj < ds.length := by omega
      have hltj : Int32.ofNat jj < p5 := by rw [hz5]; exact own_ilt hjl (by omega)
      have hncj : (Int32.ofNat jj).toNatClampNeg = jj := own_nc (by omega)
      have hnnj : ¬ Int32.ofNat jj < 0 := own_nn (by omega)
      refine OGo.via (fun _ k => XS.iload Xla.here hx rfl (hb hby d36_10) rfl (XS.iload Xla.here hx rfl (hb hby d36_12) rfl (XS.icmpNo Xla.here hx rfl (hb hby d36_14) rfl (tlt hltj).2.1 (XS.aloadN Xla.here hx rfl (hb hby d36_17) rfl rfl (XS.iloadN Xla.here hx rfl (hb hby d36_18) rfl k))))) ?_
      obtain ⟨_, T2, Lc2, X2, hQ2, st2⟩ := own_open Xla (Jvm.LawKit.callS Xla hx (y := own_y11) hown (mvT hZ (own_w hw 133 rfl)) (mvT hZ (own_w hw 134 rfl)) (mvT hZ (own_w hw 62 rfl)) (mvT hZ (own_w hw 135 rfl)) (by decide) (backOf (W := 0) (rm30 l Z a0 hw [] a1 (Int32.ofNat (lo + jj)) k1 (List.map Value.int (own_u cs)) cs.length (lo + jj) (own_lo (ds.getD jj 0)) (own_hi (ds.getD jj 0)) hla n0 (Nat.le_trans Z0 Kla.1) V_a1_a S__assertionsDisabled_a S_HI_BYTE_SHIFT_a S_LO_BYTE_SHIFT_a rfl (by omega) hn10 (by rw [hds jj hjl]; exact own_uB0 (by omega)) (by rw [hds jj hjl]; exact own_uB1 (by omega))) hZ (own_w hw 135 rfl) (own_w hw 62 rfl) (by decide) (by decide)) (g := (mkF m 19 #[.val (.ref a1), .val (.int (Int32.ofNat (lo + jj))), .val (.ref a3), .val (.int (Int32.ofNat jj)), .val (.int p5), .val (.int (Int32.ofNat jj)), sl6] [(.int (Int32.ofNat (lo + jj))), (.ref a1)])) rfl (by rw [hml]; rfl) (argsL := [(.ref a1), (.int (Int32.ofNat (lo + jj)))]) (rest := []) (lenOf pd_5 rfl) rfl (by show 2 * 0 + _ ≤ _; exact Nat.le_of_eq rfl) (hb hby d36_19) (fun _ _ => ⟨rfl, ela, (by decide : 0 + 0 ≤ _), (by decide : 0 + 0 ≤ _)⟩))
      obtain ⟨rfl, N2q, r2_0⟩ := hQ2
      have N2 := Fr.app Nla N2q
      refine OGo.via st2 ?_
      show OGo _ _ _ _ (T2.setTop (mkF m 22 #[.val (.ref a1), .val (.int (Int32.ofNat (lo + jj))), .val (.ref a3), .val (.int (Int32.ofNat jj)), .val (.int p5), .val (.int (Int32.ofNat jj)), sl6] [(.int (own_gc (own_lo (ds.getD jj 0)) (own_hi (ds.getD jj 0))))]))
      rw [own_gclh (ds.getD jj 0) (by rw [hds jj hjl]; exact hcs _ (own_mem (by omega)))]
      show OGo _ _ _ _ (T2.setTop (mkF m 22 #[.val (.ref a1), .val (.int (Int32.ofNat (lo + jj))), .val (.ref a3), .val (.int (Int32.ofNat jj)), .val (.int p5), .val (.int (Int32.ofNat jj)), sl6] [(.int (ds.getD jj 0))]))
      refine OGo.via (fun _ k => XS.istore X2.here hx rfl (hb hby d36_22) rfl (l' := #[.val (.ref a1), .val (.int (Int32.ofNat (lo + jj))), .val (.ref a3), .val (.int (Int32.ofNat jj)), .val (.int p5), .val (.int (Int32.ofNat jj)), .val (.int (ds.getD jj 0))]) (by rcases hsl6 with rfl | ⟨x, rfl⟩ <;> rfl) (XS.iload X2.here hx rfl (hb hby d36_24) rfl (XS.sipush X2.here hx rfl (hb hby d36_26) k))) ?_
      by_cases hc29_3 : (255 : Int32) < (ds.getD jj 0)
      · refine OGo.via (fun _ k => XS.icmpNo X2.here hx rfl (hb hby d36_29) rfl (tlt hc29_3).2.2.2 (XS.iload X2.here hx rfl (hb hby d36_32) rfl k)) ?_
        show OGo _ _ _ _ (T2.setTop (mkF m 34 #[.val (.ref a1), .val (.int (Int32.ofNat (lo + jj))), .val (.ref a3), .val (.int (Int32.ofNat jj)), .val (.int p5), .val (.int (Int32.ofNat jj)), .val (.int (ds.getD jj 0))] [(.int (Int32.ofNat jj))]))
        refine own_retI X2 hx Bd.notSynchronized Bd.returns (hb hby d36_34) (by decide) (by decide) ?_
        show Q_rm36 Z _ _ _ _ _ _ _ _ _ _ h0 n0 _ T2.heap _
        rw [r2_0]
        exact ⟨jj, (List.map Value.int (List.map own_by (ds.take jj))), rfl, N2, Kla, V_a3_a, S_COMPACT_STRINGS_a, S_SIOOBE_FORMATTER_a, S__assertionsDisabled_a, S_HI_BYTE_SHIFT_a, S_LO_BYTE_SHIFT_a, (Or.inr ⟨hjl, hc29_3⟩)⟩
      · refine OGo.via (fun _ k => XS.icmpYes X2.here hx rfl (pc0 := 29) (pc' := 35) rfl (hb hby d36_29) rfl (flt hc29_3).2.2.2 (by decide) (by decide) (XS.aloadN X2.here hx rfl (hb hby d36_35) rfl rfl (XS.iloadN X2.here hx rfl (hb hby d36_36) rfl (XS.iload X2.here hx rfl (hb hby d36_37) rfl (XS.i2b X2.here hx rfl (hb hby d36_39) rfl k))))) ?_
        obtain ⟨cl4, Ar4, q4, Sz4, Ng4, Hs4, Gf4⟩ := id V_a3_a
        have hin4 : ¬ ((Int32.ofNat jj) < 0 ∨ cl4.slots.size ≤ ((Int32.ofNat jj)).toNatClampNeg) := inb_of Sz4 ⟨hnnj, hltj⟩
        obtain ⟨T4, h4, X4, e4, W4, st4⟩ := stB X2 hx hZ r2_0 Ar4 (j := (Int32.ofNat jj)) hin4 (g := (mkF m 40 #[.val (.ref a1), .val (.int (Int32.ofNat (lo + jj))), .val (.ref a3), .val (.int (Int32.ofNat jj)), .val (.int p5), .val (.int (Int32.ofNat jj)), .val (.int (ds.getD jj 0))] [(.int ((ds.getD jj 0).toInt8.toInt32)), (.int (Int32.ofNat jj)), (.ref a3)])) rfl rfl (hb hby d36_40)
        refine OGo.via st4 ?_
        have V4 : Arv Z h4 a3 k3 .byte p5 (List.map Value.int (List.map own_by (ds.take (jj + 1)))) (.int (0 : Int32)) := (by rw [← own_takeS hjl]; exact own_push Ar4 q4 Sz4 Ng4 Hs4 Gf4 (fits_nar_byte _) W4 (by rw [hncj, own_takeL hjl]))
        have K4 : Keep h0 h4 [a3] := Kla.wr W4 (Or.inl (List.mem_of_getElem? (i := 0) rfl))
        have N4 := Fr.snoc X4 N2 g_a3
        show OGo _ _ _ _ (T4.setTop (mkF m 41 #[.val (.ref a1), .val (.int (Int32.ofNat (lo + jj))), .val (.ref a3), .val (.int (Int32.ofNat jj)), .val (.int p5), .val (.int (Int32.ofNat jj)), .val (.int (ds.getD jj 0))] []))
        refine OGo.via (fun _ k => XS.iinc X4.here hx rfl (hb hby d36_41) rfl (l' := #[.val (.ref a1), .val (.int ((Int32.ofNat (lo + jj)) + (1 : Int32))), .val (.ref a3), .val (.int (Int32.ofNat jj)), .val (.int p5), .val (.int (Int32.ofNat jj)), .val (.int (ds.getD jj 0))]) rfl (XS.iinc X4.here hx rfl (hb hby d36_44) rfl (l' := #[.val (.ref a1), .val (.int ((Int32.ofNat (lo + jj)) + (1 : Int32))), .val (.ref a3), .val (.int ((Int32.ofNat jj) + (1 : Int32))), .val (.int p5), .val (.int (Int32.ofNat jj)), .val (.int (ds.getD jj 0))]) rfl (XS.iinc X4.here hx rfl (hb hby d36_47) rfl (l' := #[.val (.ref a1), .val (.int ((Int32.ofNat (lo + jj)) + (1 : Int32))), .val (.ref a3), .val (.int ((Int32.ofNat jj) + (1 : Int32))), .val (.int p5), .val (.int ((Int32.ofNat jj) + (1 : Int32))), .val (.int (ds.getD jj 0))]) rfl (XS.goto X4.here hx rfl (pc0 := 50) (pc' := 10) rfl (hb hby d36_50) (by decide) (by decide) k)))) ?_
        show OGo _ _ _ _ (T4.setTop (mkF m 10 #[.val (.ref a1), .val (.int ((Int32.ofNat (lo + jj)) + (1 : Int32))), .val (.ref a3), .val (.int ((Int32.ofNat jj) + (1 : Int32))), .val (.int p5), .val (.int ((Int32.ofNat jj) + (1 : Int32))), .val (.int (ds.getD jj 0))] []))
        rw [own_succ, own_succ]
        have f5 := V_a1_a.other W4 ne_a1_a3
        have f6 := S_COMPACT_STRINGS_a.wr W4
        have f7 := S_SIOOBE_FORMATTER_a.wr W4
        have f8 := S__assertionsDisabled_a.wr W4
        have f9 := S_HI_BYTE_SHIFT_a.wr W4
        have f10 := S_LO_BYTE_SHIFT_a.wr W4
        exact iha  (jj + 1) (by omega) _ _ _ _ X4 e4 N4 K4 f5 V4 f6 f7 f8 f9 f10 (own_allS hjl hal hc29_3) (Or.inr ⟨_, rfl⟩)
  exact lpa ds.length 0 (by omega) _ _ _ _ X1 r1_0 N1 (Keep.refl h0 [a3]) V_a1 V_a3 S_COMPACT_STRINGS S_SIOOBE_FORMATTER S__assertionsDisabled S_HI_BYTE_SHIFT S_LO_BYTE_SHIFT (by simp) (Or.inl rfl)
theorem d23_0 : decode jdk_65_method_131_code 0 = .ok (.iload_n 1, 1) := by decide +kernel
theorem d23_1 : decode jdk_65_method_131_code 1 = .ok (.iload_n 0, 1) := by decide +kernel
theorem d23_2 : decode jdk_65_method_131_code 2 = .ok (.if_icmp .ge 35, 3) := by decide +kernel
theorem d23_37 : decode jdk_65_method_131_code 37 = .ok (.return_, 1) := by decide +kernel
theorem pn_Arrays : plainName "java/util/Arrays" = true := by first | (simp [plainName, overriddenIn]; done) | decide +kernel
theorem ef_rm23 (m : MethodId) (p1 : Int32) (p2 : Int32) : entryFrame m #[(.int p1), (.int p2)] 2 = mkF m 0 #[.val (.int p1), .val (.int p2)] [] := by
  first | (simp [entryFrame, mkF, argsToLocals, Value.category]; done) | rfl
def Q_rm23 (Z : State) (p1 : Int32) (p2 : Int32) (h0 : Heap) (n0 : Nat) (v : Option Value) (h : Heap) (L : List Loc) : Prop := v = none ∧ Fr n0 L ∧ h = h0
abbrev R_rm23 : Room := ⟨0, 0, 0, 0⟩
set_option maxRecDepth 65536 in
set_option maxHeartbeats 40000000 in
theorem rm23 (l : Launch) (Z : State) (a0 : Array Value) (hw : ∀ d ∈ tables_1, d.before a0 Z = true) (ws : List Jvm.Cond) (p1 : Int32) (p2 : Int32) (h0 : Heap) (n0 : Nat) (Z0 : n0 ≤ h0.size) (hb1 : ¬ p2 < p1) :
    MetFree l own_y25 (head1 (Jvm.Cond.code own_y25 jdk_65_method_131_code 2 none :: ws) R_rm23) (fun a U => a = #[(.int p1), (.int p2)] ∧ Z.Warmed39 U.vm ∧ U.heap = h0) (fun _ _ _ _ _ => True) (fun _ U o U' => ∃ v L, o = .returned v ∧ Q_rm23 Z p1 p2 h0 n0 v U'.heap L ∧ FrameEnd U o U' L R_rm23.cells R_rm23.slots) := by
  refine MetFree.of_bodySF (plainFor_of_name pn_Arrays) hisR ?_
  intro p e s m args below meth c s₁ Bd hml0 hP hK
  obtain ⟨rfl, hZ, hh⟩ := hP
  have hx := Bd.exec
  have hby := Bd.bytes
  have hml : c.maxLocals = 2 := hml0
  have hown : s.vm.findClass "java/util/Arrays" = some m.cls := findClass_of_methodNamed Bd.named
  have hnm := (name_of_methodNamed Bd.named Bd.method).1
  have X0 : Stand p l e R_rm23 s m #[(.int p1), (.int p2)] below meth c s₁ [] 0 0 := Stand.of_body Bd
  have e0 : s₁.heap = h0 := by rw [← hh, Bd.state]; rfl
  have N0 := Fr.nil n0
  show OGo p.tables e below (own_Kq s (fun v h L => Q_rm23 Z p1 p2 h0 n0 v h L) R_rm23.cells R_rm23.slots) (s₁.setTop (entryFrame m #[(.int p1), (.int p2)] 2))
  refine OGo.cast (ef_rm23 m p1 p2) ?_
  show OGo _ _ _ _ (s₁.setTop (mkF m 0 #[.val (.int p1), .val (.int p2)] []))
  refine OGo.via (fun _ k => XS.iloadN X0.here hx rfl (hb hby d23_0) rfl (XS.iloadN X0.here hx rfl (hb hby d23_1) rfl (XS.icmpYes X0.here hx rfl (pc0 := 2) (pc' := 37) rfl (hb hby d23_2) rfl (flt hb1).2.1 (by decide) (by decide) k))) ?_
  show OGo _ _ _ _ (s₁.setTop (mkF m 37 #[.val (.int p1), .val (.int p2)] []))
  refine own_retV X0 hx Bd.notSynchronized Bd.returns (hb hby d23_37) (by decide) (by decide) ?_
  show Q_rm23 Z _ _ h0 n0 _ s₁.heap _
  exact ⟨rfl, N0, e0⟩
theorem d22_0 : decode jdk_65_method_133_code 0 = .ok (.iload_n 1, 1) := by decide +kernel
theorem d22_1 : decode jdk_65_method_133_code 1 = .ok (.iload_n 2, 1) := by decide +kernel
theorem d22_2 : decode jdk_65_method_133_code 2 = .ok (.invokestatic 343, 3) := by decide +kernel
theorem d22_5 : decode jdk_65_method_133_code 5 = .ok (.iload_n 2, 1) := by decide +kernel
theorem d22_6 : decode jdk_65_method_133_code 6 = .ok (.iload_n 1, 1) := by decide +kernel
theorem d22_7 : decode jdk_65_method_133_code 7 = .ok (.isub, 1) := by decide +kernel
theorem d22_8 : decode jdk_65_method_133_code 8 = .ok (.istore_n 3, 1) := by decide +kernel
theorem d22_9 : decode jdk_65_method_133_code 9 = .ok (.iload_n 3, 1) := by decide +kernel
theorem d22_10 : decode jdk_65_method_133_code 10 = .ok (.newarray .byte, 2) := by decide +kernel
theorem d22_12 : decode jdk_65_method_133_code 12 = .ok (.astore 4, 2) := by decide +kernel
theorem d22_14 : decode jdk_65_method_133_code 14 = .ok (.aload_n 0, 1) := by decide +kernel
theorem d22_15 : decode jdk_65_method_133_code 15 = .ok (.iload_n 1, 1) := by decide +kernel
theorem d22_16 : decode jdk_65_method_133_code 16 = .ok (.aload 4, 2) := by decide +kernel
theorem d22_18 : decode jdk_65_method_133_code 18 = .ok (.iconst 0, 1) := by decide +kernel
theorem d22_19 : decode jdk_65_method_133_code 19 = .ok (.aload_n 0, 1) := by decide +kernel
theorem d22_20 : decode jdk_65_method_133_code 20 = .ok (.arraylength, 1) := by decide +kernel
theorem d22_21 : decode jdk_65_method_133_code 21 = .ok (.iload_n 1, 1) := by decide +kernel
theorem d22_22 : decode jdk_65_method_133_code 22 = .ok (.isub, 1) := by decide +kernel
theorem d22_23 : decode jdk_65_method_133_code 23 = .ok (.iload_n 3, 1) := by decide +kernel
theorem d22_24 : decode jdk_65_method_133_code 24 = .ok (.invokestatic 304, 3) := by decide +kernel
theorem pd_15 : parseMethodDescriptor "(II)I" = some ⟨[.int, .int], some .int⟩ := by decide +kernel
theorem d22_27 : decode jdk_65_method_133_code 27 = .ok (.invokestatic 150, 3) := by decide +kernel
theorem d22_30 : decode jdk_65_method_133_code 30 = .ok (.aload 4, 2) := by decide +kernel
theorem d22_32 : decode jdk_65_method_133_code 32 = .ok (.areturn, 1) := by decide +kernel
theorem ef_rm22 (m : MethodId) (a1 : Addr) (lo : Nat) (hi : Nat) : entryFrame m #[(.ref a1), (.int (Int32.ofNat lo)), (.int (Int32.ofNat hi))] 5 = mkF m 0 #[.val (.ref a1), .val (.int (Int32.ofNat lo)), .val (.int (Int32.ofNat hi)), .unset, .unset] [] := by
  first | (simp [entryFrame, mkF, argsToLocals, Value.category]; done) | rfl
def Q_rm22 (Z : State) (a1 : Addr) (k1 : ClassId) (xs : List Int32) (nn : Nat) (lo : Nat) (hi : Nat) (h0 : Heap) (n0 : Nat) (v : Option Value) (h : Heap) (L : List Loc) : Prop := ∃ vb : Addr, ∃ kb : ClassId, v = some (.ref vb) ∧ Fr n0 L ∧ Keep h0 h [] ∧ h0.size ≤ vb ∧ Arv Z h vb kb .byte (Int32.ofNat (hi - lo)) (List.map Value.int (own_sub xs lo (hi - lo))) (.int (0 : Int32))
abbrev R_rm22 : Room := ⟨1, 1, 20, 18⟩
set_option maxRecDepth 65536 in
set_option maxHeartbeats 40000000 in
theorem rm22 (l : Launch) (Z : State) (a0 : Array Value) (hw : ∀ d ∈ tables_1, d.before a0 Z = true) (ws : List Jvm.Cond) (a1 : Addr) (k1 : ClassId) (xs : List Int32) (nn : Nat) (lo : Nat) (hi : Nat) (h0 : Heap) (n0 : Nat) (Z0 : n0 ≤ h0.size) (V_a1 : Arv Z h0 a1 k1 .byte (Int32.ofNat nn) (List.map Value.int xs) (.int (0 : Int32))) (hxl : xs.length = nn) (hnn : nn ≤ 20) (hlh : lo < hi) (hhn : hi ≤ nn) :
    MetFree l own_y26 (head1 (Jvm.Cond.code own_y26 jdk_65_method_133_code 5 (some (.array .byte)) :: ws) R_rm22) (fun a U => a = #[(.ref a1), (.int (Int32.ofNat lo)), (.int (Int32.ofNat hi))] ∧ Z.Warmed39 U.vm ∧ U.heap = h0) (fun _ _ _ _ _ => True) (fun _ U o U' => ∃ v L, o = .returned v ∧ Q_rm22 Z a1 k1 xs nn lo hi h0 n0 v U'.heap L ∧ FrameEnd U o U' L R_rm22.cells R_rm22.slots) := by
  refine MetFree.of_bodySF (plainFor_of_name pn_Arrays) hisR ?_
  intro p e s m args below meth c s₁ Bd hml0 hP hK
  obtain ⟨rfl, hZ, hh⟩ := hP
  have hx := Bd.exec
  have hby := Bd.bytes
  have hml : c.maxLocals = 5 := hml0
  have hown : s.vm.findClass "java/util/Arrays" = some m.cls := findClass_of_methodNamed Bd.named
  have hnm := (name_of_methodNamed Bd.named Bd.method).1
  have X0 : Stand p l e R_rm22 s m #[(.ref a1), (.int (Int32.ofNat lo)), (.int (Int32.ofNat hi))] below meth c s₁ [] 0 0 := Stand.of_body Bd
  have e0 : s₁.heap = h0 := by rw [← hh, Bd.state]; rfl
  have N0 := Fr.nil n0
  show OGo p.tables e below (own_Kq s (fun v h L => Q_rm22 Z a1 k1 xs nn lo hi h0 n0 v h L) R_rm22.cells R_rm22.slots) (s₁.setTop (entryFrame m #[(.ref a1), (.int (Int32.ofNat lo)), (.int (Int32.ofNat hi))] 5))
  refine OGo.cast (ef_rm22 m a1 lo hi) ?_
  show OGo _ _ _ _ (s₁.setTop (mkF m 0 #[.val (.ref a1), .val (.int (Int32.ofNat lo)), .val (.int (Int32.ofNat hi)), .unset, .unset] []))
  refine OGo.via (fun _ k => XS.iloadN X0.here hx rfl (hb hby d22_0) rfl (XS.iloadN X0.here hx rfl (hb hby d22_1) rfl k)) ?_
  obtain ⟨_, T1, Lc1, X1, hQ1, st1⟩ := own_open X0 (Jvm.LawKit.callS X0 hx (y := own_y25) hown (mvT hZ (own_w hw 102 rfl)) (mvT hZ (own_w hw 103 rfl)) (mvT hZ (own_w hw 97 rfl)) (mvT hZ (own_w hw 104 rfl)) (by decide) (backOf (W := 0) (rm23 l Z a0 hw [] (Int32.ofNat lo) (Int32.ofNat hi) h0 n0 Z0 (own_nlt (by omega) (by omega))) hZ (own_w hw 104 rfl) (own_w hw 97 rfl) (by decide) (by decide)) (g := (mkF m 2 #[.val (.ref a1), .val (.int (Int32.ofNat lo)), .val (.int (Int32.ofNat hi)), .unset, .unset] [(.int (Int32.ofNat hi)), (.int (Int32.ofNat lo))])) rfl (by rw [hml]; rfl) (argsL := [(.int (Int32.ofNat lo)), (.int (Int32.ofNat hi))]) (rest := []) (lenOf pd_3 rfl) rfl (by show 2 * 0 + _ ≤ _; exact Nat.le_of_eq rfl) (hb hby d22_2) (fun _ _ => ⟨rfl, e0, (by decide : 0 + 0 ≤ _), (by decide : 0 + 0 ≤ _)⟩))
  obtain ⟨rfl, N1q, r1_0⟩ := hQ1
  have N1 := Fr.app N0 N1q
  refine OGo.via st1 ?_
  show OGo _ _ _ _ (T1.setTop (mkF m 5 #[.val (.ref a1), .val (.int (Int32.ofNat lo)), .val (.int (Int32.ofNat hi)), .unset, .unset] []))
  refine OGo.via (fun _ k => XS.iloadN X1.here hx rfl (hb hby d22_5) rfl (XS.iloadN X1.here hx rfl (hb hby d22_6) rfl (XS.isub X1.here hx rfl (hb hby d22_7) rfl k))) ?_
  show OGo _ _ _ _ (T1.setTop (mkF m 8 #[.val (.ref a1), .val (.int (Int32.ofNat lo)), .val (.int (Int32.ofNat hi)), .unset, .unset] [(.int ((Int32.ofNat hi) - (Int32.ofNat lo)))]))
  rw [own_subN (show lo ≤ hi by omega)]
  show OGo _ _ _ _ (T1.setTop (mkF m 8 #[.val (.ref a1), .val (.int (Int32.ofNat lo)), .val (.int (Int32.ofNat hi)), .unset, .unset] [(.int (Int32.ofNat (hi - lo)))]))
  refine OGo.via (fun _ k => XS.istoreN X1.here hx rfl (hb hby d22_8) rfl (l' := #[.val (.ref a1), .val (.int (Int32.ofNat lo)), .val (.int (Int32.ofNat hi)), .val (.int (Int32.ofNat (hi - lo))), .unset]) rfl (XS.iloadN X1.here hx rfl (hb hby d22_9) rfl k)) ?_
  obtain ⟨T2, h2, ka2, X2, e2, E2, A2, Y2, st2⟩ := newPE (ad := "[B") X1 hx hZ (own_w hw 23 rfl) r1_0 (g := (mkF m 10 #[.val (.ref a1), .val (.int (Int32.ofNat lo)), .val (.int (Int32.ofNat hi)), .val (.int (Int32.ofNat (hi - lo))), .unset] [(.int (Int32.ofNat (hi - lo)))])) rfl (hb hby d22_10) rfl (own_nn (by omega)) (cap := 20) (by rw [own_nc (by omega)]; omega) (by decide) (by decide) (by decide) (by decide)
  obtain ⟨b2, g2⟩ : ∃ z, z = h0.size := ⟨_, rfl⟩
  rw [← g2] at A2 Y2 st2
  refine OGo.via st2 ?_
  have K2 : Keep h0 h2 [] := (Keep.refl h0 []).ext E2
  have lt_a1_b2 : a1 < b2 := Nat.lt_of_lt_of_le V_a1.lt (Nat.le_of_eq g2.symm)
  have sz_b2 : h0.size ≤ b2 := Nat.le_trans (Keep.refl h0 []).1 (Nat.le_of_eq g2.symm)
  have g_b2 : n0 ≤ b2 := Nat.le_trans Z0 sz_b2
  have V2 : Arv Z h2 b2 ka2 .byte (Int32.ofNat (hi - lo)) [] (.int (0 : Int32)) := Arv.new A2 (own_nn (by omega))
  show OGo _ _ _ _ (T2.setTop (mkF m 12 #[.val (.ref a1), .val (.int (Int32.ofNat lo)), .val (.int (Int32.ofNat hi)), .val (.int (Int32.ofNat (hi - lo))), .unset] [(.ref b2)]))
  have f3 : Arv Z h2 b2 ka2 .byte (Int32.ofNat (hi - lo)) (List.replicate (hi - lo) (.int (0 : Int32))) (.int (0 : Int32)) := Arv.pad V2 (pad_rep [] (.int (0 : Int32)) (hi - lo))
  refine OGo.via (fun _ k => XS.astore X2.here hx rfl (hb hby d22_12) rfl rfl (l' := #[.val (.ref a1), .val (.int (Int32.ofNat lo)), .val (.int (Int32.ofNat hi)), .val (.int (Int32.ofNat (hi - lo))), .val (.ref b2)]) rfl (XS.aloadN X2.here hx rfl (hb hby d22_14) rfl rfl (XS.iloadN X2.here hx rfl (hb hby d22_15) rfl (XS.aload X2.here hx rfl (hb hby d22_16) rfl rfl (XS.iconst X2.here hx rfl (hb hby d22_18) (XS.aloadN X2.here hx rfl (hb hby d22_19) rfl rfl k)))))) ?_
  have f5 := V_a1.ext E2
  obtain ⟨cl4, Ar4, q4, Sz4, Ng4, Hs4, Gf4⟩ := id f5
  refine OGo.via (X2.arraylength hx (by rw [e2]; exact Ar4.1) (State.isArrayOf_alike hZ.alike Ar4.2.1) (g := (mkF m 20 #[.val (.ref a1), .val (.int (Int32.ofNat lo)), .val (.int (Int32.ofNat hi)), .val (.int (Int32.ofNat (hi - lo))), .val (.ref b2)] [(.ref a1), (.int (0 : Int32)), (.ref b2), (.int (Int32.ofNat lo)), (.ref a1)])) rfl rfl (hb hby d22_20)) ?_
  rw [len_of Sz4 Ng4]
  show OGo _ _ _ _ (T2.setTop (mkF m 21 #[.val (.ref a1), .val (.int (Int32.ofNat lo)), .val (.int (Int32.ofNat hi)), .val (.int (Int32.ofNat (hi - lo))), .val (.ref b2)] [(.int (Int32.ofNat nn)), (.int (0 : Int32)), (.ref b2), (.int (Int32.ofNat lo)), (.ref a1)]))
  refine OGo.via (fun _ k => XS.iloadN X2.here hx rfl (hb hby d22_21) rfl (XS.isub X2.here hx rfl (hb hby d22_22) rfl k)) ?_
  show OGo _ _ _ _ (T2.setTop (mkF m 23 #[.val (.ref a1), .val (.int (Int32.ofNat lo)), .val (.int (Int32.ofNat hi)), .val (.int (Int32.ofNat (hi - lo))), .val (.ref b2)] [(.int ((Int32.ofNat nn) - (Int32.ofNat lo))), (.int (0 : Int32)), (.ref b2), (.int (Int32.ofNat lo)), (.ref a1)]))
  rw [own_subN (show lo ≤ nn by omega)]
  show OGo _ _ _ _ (T2.setTop (mkF m 23 #[.val (.ref a1), .val (.int (Int32.ofNat lo)), .val (.int (Int32.ofNat hi)), .val (.int (Int32.ofNat (hi - lo))), .val (.ref b2)] [(.int (Int32.ofNat (nn - lo))), (.int (0 : Int32)), (.ref b2), (.int (Int32.ofNat lo)), (.ref a1)]))
  refine OGo.via (fun _ k => XS.iloadN X2.here hx rfl (hb hby d22_23) rfl k) ?_
  obtain ⟨_, T6, Lc6, X6, hQ6, st6⟩ := own_open X2 (Jvm.LawKit.callS X2 hx (y := own_y1) hown (mvT hZ (own_w hw 105 rfl)) (mvT hZ (own_w hw 106 rfl)) (mvT hZ (own_w hw 107 rfl)) (mvT hZ (own_w hw 108 rfl)) (by decide) (backOf (W := 4) (rm24 l Z a0 hw [] (Int32.ofNat (nn - lo)) (Int32.ofNat (hi - lo)) h2 n0 (Nat.le_trans Z0 K2.1)) hZ (own_w hw 108 rfl) (own_w hw 107 rfl) (by decide) (by decide)) (g := (mkF m 24 #[.val (.ref a1), .val (.int (Int32.ofNat lo)), .val (.int (Int32.ofNat hi)), .val (.int (Int32.ofNat (hi - lo))), .val (.ref b2)] [(.int (Int32.ofNat (hi - lo))), (.int (Int32.ofNat (nn - lo))), (.int (0 : Int32)), (.ref b2), (.int (Int32.ofNat lo)), (.ref a1)])) rfl (by rw [hml]; rfl) (argsL := [(.int (Int32.ofNat (nn - lo))), (.int (Int32.ofNat (hi - lo)))]) (rest := [(.int (0 : Int32)), (.ref b2), (.int (Int32.ofNat lo)), (.ref a1)]) (lenOf pd_15 rfl) rfl (by show 2 * 0 + _ ≤ _; exact Nat.le_of_eq rfl) (hb hby d22_24) (fun _ _ => ⟨rfl, e2, (by decide : 1 + 0 ≤ _), (by decide : 20 + 0 ≤ _)⟩))
  obtain ⟨rfl, N6q, r6_0⟩ := hQ6
  have N6 := Fr.app N1 N6q
  refine OGo.via st6 ?_
  show OGo _ _ _ _ (T6.setTop (mkF m 27 #[.val (.ref a1), .val (.int (Int32.ofNat lo)), .val (.int (Int32.ofNat hi)), .val (.int (Int32.ofNat (hi - lo))), .val (.ref b2)] [(.int (if (Int32.ofNat (hi - lo)) < (Int32.ofNat (nn - lo)) then (Int32.ofNat (hi - lo)) else (Int32.ofNat (nn - lo)))), (.int (0 : Int32)), (.ref b2), (.int (Int32.ofNat lo)), (.ref a1)]))
  rw [own_min (show hi - lo ≤ nn - lo by omega) (by omega)]
  show OGo _ _ _ _ (T6.setTop (mkF m 27 #[.val (.ref a1), .val (.int (Int32.ofNat lo)), .val (.int (Int32.ofNat hi)), .val (.int (Int32.ofNat (hi - lo))), .val (.ref b2)] [(.int (Int32.ofNat (hi - lo))), (.int (0 : Int32)), (.ref b2), (.int (Int32.ofNat lo)), (.ref a1)]))
  obtain ⟨T7, h7, Lc7, X7, e7, N7, Kp7, V7, st7⟩ := cpA X6 hx hZ hown (own_w hw 109 rfl) (own_w hw 112 rfl) (own_w hw 110 rfl) (own_w hw 111 rfl) r6_0 (us := (List.map Value.int (own_sub xs lo (hi - lo)))) f5 f3 (Or.inl ⟨rfl, rfl⟩) (own_nn (by omega)) (by decide) (own_nn (by omega)) (by rw [own_nc (j := lo) (by omega), own_nc (j := hi - lo) (by omega), own_nc (j := nn) (by omega)]; omega) (by rw [own_nc (j := hi - lo) (by omega), show (0 : Int32).toNatClampNeg = 0 from by decide]; omega) (by rw [own_nc (j := hi - lo) (by omega), own_nc (j := lo) (by omega)]; exact own_cp (by omega)) (by rw [own_nc (j := hi - lo) (by omega), show (0 : Int32).toNatClampNeg = 0 from by decide, List.length_replicate]; omega) N6 g_b2 (g := (mkF m 27 #[.val (.ref a1), .val (.int (Int32.ofNat lo)), .val (.int (Int32.ofNat hi)), .val (.int (Int32.ofNat (hi - lo))), .val (.ref b2)] [(.int (Int32.ofNat (hi - lo))), (.int (0 : Int32)), (.ref b2), (.int (Int32.ofNat lo)), (.ref a1)])) rfl (by rw [hml]; rfl) rfl (hb hby d22_27) (by decide) (W := 0) (by show 2 * 0 + _ ≤ _; exact Nat.le_of_eq rfl) (by decide)
  refine OGo.via st7 ?_
  have Vc7 : Arv Z h7 b2 ka2 .byte (Int32.ofNat (hi - lo)) (List.take (0 : Int32).toNatClampNeg (List.replicate (hi - lo) (.int (0 : Int32))) ++ (List.map Value.int (own_sub xs lo (hi - lo))) ++ List.drop ((0 : Int32).toNatClampNeg + (Int32.ofNat (hi - lo)).toNatClampNeg) (List.replicate (hi - lo) (.int (0 : Int32)))) (.int (0 : Int32)) := V7
  have K7 : Keep h0 h7 [] := K2.trans Kp7 (allS (Or.inr sz_b2) all0)
  show OGo _ _ _ _ (T7.setTop (mkF m 30 #[.val (.ref a1), .val (.int (Int32.ofNat lo)), .val (.int (Int32.ofNat hi)), .val (.int (Int32.ofNat (hi - lo))), .val (.ref b2)] []))
  have f8 : Arv Z h7 b2 ka2 .byte (Int32.ofNat (hi - lo)) (List.map Value.int (own_sub xs lo (hi - lo))) (.int (0 : Int32)) := (by have q := Vc7; rw [own_nc (j := hi - lo) (by omega), show (0 : Int32).toNatClampNeg = 0 from by decide, own_cpr] at q; exact q)
  refine OGo.via (fun _ k => XS.aload X7.here hx rfl (hb hby d22_30) rfl rfl k) ?_
  show OGo _ _ _ _ (T7.setTop (mkF m 32 #[.val (.ref a1), .val (.int (Int32.ofNat lo)), .val (.int (Int32.ofNat hi)), .val (.int (Int32.ofNat (hi - lo))), .val (.ref b2)] [(.ref b2)]))
  refine own_retA X7 hx Bd.notSynchronized Bd.returns rfl rfl (hb hby d22_32) (by decide) (by decide) ?_
  show Q_rm22 Z _ _ _ _ _ _ h0 n0 _ T7.heap _
  rw [e7]
  exact ⟨b2, ka2, rfl, N7, K7, sz_b2, f8⟩
theorem d21_0 : decode jdk_65_method_132_code 0 = .ok (.iload_n 1, 1) := by decide +kernel
theorem d21_1 : decode jdk_65_method_132_code 1 = .ok (.ifCond .ne 9, 3) := by decide +kernel
theorem d21_4 : decode jdk_65_method_132_code 4 = .ok (.iload_n 2, 1) := by decide +kernel
theorem d21_5 : decode jdk_65_method_132_code 5 = .ok (.aload_n 0, 1) := by decide +kernel
theorem d21_6 : decode jdk_65_method_132_code 6 = .ok (.arraylength, 1) := by decide +kernel
theorem d21_7 : decode jdk_65_method_132_code 7 = .ok (.if_icmp .eq 10, 3) := by decide +kernel
theorem d21_10 : decode jdk_65_method_132_code 10 = .ok (.aload_n 0, 1) := by decide +kernel
theorem d21_11 : decode jdk_65_method_132_code 11 = .ok (.iload_n 1, 1) := by decide +kernel
theorem d21_12 : decode jdk_65_method_132_code 12 = .ok (.iload_n 2, 1) := by decide +kernel
theorem d21_13 : decode jdk_65_method_132_code 13 = .ok (.invokestatic 339, 3) := by decide +kernel
theorem pd_16 : parseMethodDescriptor "([BII)[B" = some ⟨[(.array .byte), .int, .int], some (.array .byte)⟩ := by decide +kernel
theorem d21_16 : decode jdk_65_method_132_code 16 = .ok (.areturn, 1) := by decide +kernel
theorem ef_rm21 (m : MethodId) (a1 : Addr) (lo : Nat) (hi : Nat) : entryFrame m #[(.ref a1), (.int (Int32.ofNat lo)), (.int (Int32.ofNat hi))] 3 = mkF m 0 #[.val (.ref a1), .val (.int (Int32.ofNat lo)), .val (.int (Int32.ofNat hi))] [] := by
  first | (simp [entryFrame, mkF, argsToLocals, Value.category]; done) | rfl
def Q_rm21 (Z : State) (a1 : Addr) (k1 : ClassId) (xs : List Int32) (nn : Nat) (lo : Nat) (hi : Nat) (h0 : Heap) (n0 : Nat) (v : Option Value) (h : Heap) (L : List Loc) : Prop := ∃ vb : Addr, ∃ kb : ClassId, v = some (.ref vb) ∧ Fr n0 L ∧ Keep h0 h [] ∧ h0.size ≤ vb ∧ Arv Z h vb kb .byte (Int32.ofNat (hi - lo)) (List.map Value.int (own_sub xs lo (hi - lo))) (.int (0 : Int32))
abbrev R_rm21 : Room := ⟨2, 1, 20, 34⟩
set_option maxRecDepth 65536 in
set_option maxHeartbeats 40000000 in
theorem rm21 (l : Launch) (Z : State) (a0 : Array Value) (hw : ∀ d ∈ tables_1, d.before a0 Z = true) (ws : List Jvm.Cond) (a1 : Addr) (k1 : ClassId) (xs : List Int32) (nn : Nat) (lo : Nat) (hi : Nat) (h0 : Heap) (n0 : Nat) (Z0 : n0 ≤ h0.size) (V_a1 : Arv Z h0 a1 k1 .byte (Int32.ofNat nn) (List.map Value.int xs) (.int (0 : Int32))) (hxl : xs.length = nn) (hnn : nn ≤ 20) (hlh : lo < hi) (hhn : hi ≤ nn) (hnot : ¬ (lo = 0 ∧ hi = nn)) :
    MetFree l own_y27 (head1 (Jvm.Cond.code own_y27 jdk_65_method_132_code 3 (some (.array .byte)) :: ws) R_rm21) (fun a U => a = #[(.ref a1), (.int (Int32.ofNat lo)), (.int (Int32.ofNat hi))] ∧ Z.Warmed39 U.vm ∧ U.heap = h0) (fun _ _ _ _ _ => True) (fun _ U o U' => ∃ v L, o = .returned v ∧ Q_rm21 Z a1 k1 xs nn lo hi h0 n0 v U'.heap L ∧ FrameEnd U o U' L R_rm21.cells R_rm21.slots) := by
  refine MetFree.of_bodySF (plainFor_of_name pn_Arrays) hisR ?_
  intro p e s m args below meth c s₁ Bd hml0 hP hK
  obtain ⟨rfl, hZ, hh⟩ := hP
  have hx := Bd.exec
  have hby := Bd.bytes
  have hml : c.maxLocals = 3 := hml0
  have hown : s.vm.findClass "java/util/Arrays" = some m.cls := findClass_of_methodNamed Bd.named
  have hnm := (name_of_methodNamed Bd.named Bd.method).1
  have X0 : Stand p l e R_rm21 s m #[(.ref a1), (.int (Int32.ofNat lo)), (.int (Int32.ofNat hi))] below meth c s₁ [] 0 0 := Stand.of_body Bd
  have e0 : s₁.heap = h0 := by rw [← hh, Bd.state]; rfl
  have N0 := Fr.nil n0
  show OGo p.tables e below (own_Kq s (fun v h L => Q_rm21 Z a1 k1 xs nn lo hi h0 n0 v h L) R_rm21.cells R_rm21.slots) (s₁.setTop (entryFrame m #[(.ref a1), (.int (Int32.ofNat lo)), (.int (Int32.ofNat hi))] 3))
  refine OGo.cast (ef_rm21 m a1 lo hi) ?_
  show OGo _ _ _ _ (s₁.setTop (mkF m 0 #[.val (.ref a1), .val (.int (Int32.ofNat lo)), .val (.int (Int32.ofNat hi))] []))
  refine OGo.via (fun _ k => XS.iloadN X0.here hx rfl (hb hby d21_0) rfl k) ?_
  by_cases hc1_1 : (Int32.ofNat lo) = (0 : Int32)
  · refine OGo.via (fun _ k => XS.ifNo X0.here hx rfl (hb hby d21_1) rfl ((if0 _ _).trans (teq hc1_1).2) (XS.iloadN X0.here hx rfl (hb hby d21_4) rfl (XS.aloadN X0.here hx rfl (hb hby d21_5) rfl rfl k))) ?_
    obtain ⟨cl2, Ar2, q2, Sz2, Ng2, Hs2, Gf2⟩ := id V_a1
    refine OGo.via (X0.arraylength hx (by rw [e0]; exact Ar2.1) (State.isArrayOf_alike hZ.alike Ar2.2.1) (g := (mkF m 6 #[.val (.ref a1), .val (.int (Int32.ofNat lo)), .val (.int (Int32.ofNat hi))] [(.ref a1), (.int (Int32.ofNat hi))])) rfl rfl (hb hby d21_6)) ?_
    rw [len_of Sz2 Ng2]
    show OGo _ _ _ _ (s₁.setTop (mkF m 7 #[.val (.ref a1), .val (.int (Int32.ofNat lo)), .val (.int (Int32.ofNat hi))] [(.int (Int32.ofNat nn)), (.int (Int32.ofNat hi))]))
    refine OGo.via (fun _ k => XS.icmpNo X0.here hx rfl (hb hby d21_7) rfl (feq (fun q => hnot ⟨own_inj0 (by omega) hc1_1, own_inj (by omega) (by omega) q⟩)).1 (XS.aloadN X0.here hx rfl (hb hby d21_10) rfl rfl (XS.iloadN X0.here hx rfl (hb hby d21_11) rfl (XS.iloadN X0.here hx rfl (hb hby d21_12) rfl k)))) ?_
    obtain ⟨_, T3, Lc3, X3, hQ3, st3⟩ := own_open X0 (Jvm.LawKit.callS X0 hx (y := own_y26) hown (mvT hZ (own_w hw 99 rfl)) (mvT hZ (own_w hw 100 rfl)) (mvT hZ (own_w hw 97 rfl)) (mvT hZ (own_w hw 101 rfl)) (by decide) (backOf (W := 0) (rm22 l Z a0 hw [] a1 k1 xs nn lo hi h0 n0 Z0 V_a1 hxl hnn hlh hhn) hZ (own_w hw 101 rfl) (own_w hw 97 rfl) (by decide) (by decide)) (g := (mkF m 13 #[.val (.ref a1), .val (.int (Int32.ofNat lo)), .val (.int (Int32.ofNat hi))] [(.int (Int32.ofNat hi)), (.int (Int32.ofNat lo)), (.ref a1)])) rfl (by rw [hml]; rfl) (argsL := [(.ref a1), (.int (Int32.ofNat lo)), (.int (Int32.ofNat hi))]) (rest := []) (lenOf pd_16 rfl) rfl (by show 2 * 0 + _ ≤ _; exact Nat.le_of_eq rfl) (hb hby d21_13) (fun _ _ => ⟨rfl, e0, (by decide : 0 + 1 ≤ _), (by decide : 0 + 20 ≤ _)⟩))
    obtain ⟨vb, kb, rfl, N3q, r3_0, r3_1, r3_2⟩ := hQ3
    have N3 := Fr.app N0 N3q
    have K3 : Keep h0 T3.heap [] := (Keep.refl h0 []).trans r3_0 all0
    have lt_a1_vb : a1 < vb := Nat.lt_of_lt_of_le V_a1.lt r3_1
    have sz_vb : h0.size ≤ vb := Nat.le_trans (Keep.refl h0 []).1 r3_1
    have g_vb : n0 ≤ vb := Nat.le_trans Z0 sz_vb
    refine OGo.via st3 ?_
    show OGo _ _ _ _ (T3.setTop (mkF m 16 #[.val (.ref a1), .val (.int (Int32.ofNat lo)), .val (.int (Int32.ofNat hi))] [(.ref vb)]))
    show OGo _ _ _ _ (T3.setTop (mkF m 16 #[.val (.ref a1), .val (.int (Int32.ofNat lo)), .val (.int (Int32.ofNat hi))] [(.ref vb)]))
    refine own_retA X3 hx Bd.notSynchronized Bd.returns rfl rfl (hb hby d21_16) (by decide) (by decide) ?_
    show Q_rm21 Z _ _ _ _ _ _ h0 n0 _ T3.heap _
    exact ⟨vb, kb, rfl, N3, K3, sz_vb, r3_2⟩
  · refine OGo.via (fun _ k => XS.ifYes X0.here hx rfl (pc0 := 1) (pc' := 10) rfl (hb hby d21_1) rfl ((if0 _ _).trans (feq hc1_1).2) (by decide) (by decide) (XS.aloadN X0.here hx rfl (hb hby d21_10) rfl rfl (XS.iloadN X0.here hx rfl (hb hby d21_11) rfl (XS.iloadN X0.here hx rfl (hb hby d21_12) rfl k)))) ?_
    obtain ⟨_, T4, Lc4, X4, hQ4, st4⟩ := own_open X0 (Jvm.LawKit.callS X0 hx (y := own_y26) hown (mvT hZ (own_w hw 99 rfl)) (mvT hZ (own_w hw 100 rfl)) (mvT hZ (own_w hw 97 rfl)) (mvT hZ (own_w hw 101 rfl)) (by decide) (backOf (W := 0) (rm22 l Z a0 hw [] a1 k1 xs nn lo hi h0 n0 Z0 V_a1 hxl hnn hlh hhn) hZ (own_w hw 101 rfl) (own_w hw 97 rfl) (by decide) (by decide)) (g := (mkF m 13 #[.val (.ref a1), .val (.int (Int32.ofNat lo)), .val (.int (Int32.ofNat hi))] [(.int (Int32.ofNat hi)), (.int (Int32.ofNat lo)), (.ref a1)])) rfl (by rw [hml]; rfl) (argsL := [(.ref a1), (.int (Int32.ofNat lo)), (.int (Int32.ofNat hi))]) (rest := []) (lenOf pd_16 rfl) rfl (by show 2 * 0 + _ ≤ _; exact Nat.le_of_eq rfl) (hb hby d21_13) (fun _ _ => ⟨rfl, e0, (by decide : 0 + 1 ≤ _), (by decide : 0 + 20 ≤ _)⟩))
    obtain ⟨vb, kb, rfl, N4q, r4_0, r4_1, r4_2⟩ := hQ4
    have N4 := Fr.app N0 N4q
    have K4 : Keep h0 T4.heap [] := (Keep.refl h0 []).trans r4_0 all0
    have lt_a1_vb : a1 < vb := Nat.lt_of_lt_of_le V_a1.lt r4_1
    have sz_vb : h0.size ≤ vb := Nat.le_trans (Keep.refl h0 []).1 r4_1
    have g_vb : n0 ≤ vb := Nat.le_trans Z0 sz_vb
    refine OGo.via st4 ?_
    show OGo _ _ _ _ (T4.setTop (mkF m 16 #[.val (.ref a1), .val (.int (Int32.ofNat lo)), .val (.int (Int32.ofNat hi))] [(.ref vb)]))
    show OGo _ _ _ _ (T4.setTop (mkF m 16 #[.val (.ref a1), .val (.int (Int32.ofNat lo)), .val (.int (Int32.ofNat hi))] [(.ref vb)]))
    refine own_retA X4 hx Bd.notSynchronized Bd.returns rfl rfl (hb hby d21_16) (by decide) (by decide) ?_
    show Q_rm21 Z _ _ _ _ _ _ h0 n0 _ T4.heap _
    exact ⟨vb, kb, rfl, N4, K4, sz_vb, r4_2⟩
theorem d25_0 : decode jdk_42_method_151_code 0 = .ok (.aload_n 0, 1) := by decide +kernel
theorem d25_1 : decode jdk_42_method_151_code 1 = .ok (.invokespecial 1, 3) := by decide +kernel
theorem d25_4 : decode jdk_42_method_151_code 4 = .ok (.aload_n 0, 1) := by decide +kernel
theorem d25_5 : decode jdk_42_method_151_code 5 = .ok (.aload_n 1, 1) := by decide +kernel
theorem d25_6 : decode jdk_42_method_151_code 6 = .ok (.putfield 9, 3) := by decide +kernel
theorem d25_9 : decode jdk_42_method_151_code 9 = .ok (.aload_n 0, 1) := by decide +kernel
theorem d25_10 : decode jdk_42_method_151_code 10 = .ok (.iload_n 2, 1) := by decide +kernel
theorem d25_11 : decode jdk_42_method_151_code 11 = .ok (.putfield 15, 3) := by decide +kernel
theorem d25_14 : decode jdk_42_method_151_code 14 = .ok (.return_, 1) := by decide +kernel
theorem ef_rm25L (m : MethodId) (a1 : Addr) (a2 : Addr) : entryFrame m #[(.ref a1), (.ref a2), (.int (0 : Int32))] 3 = mkF m 0 #[.val (.ref a1), .val (.ref a2), .val (.int (0 : Int32))] [] := by
  first | (simp [entryFrame, mkF, argsToLocals, Value.category]; done) | rfl
def Q_rm25L (Z : State) (a1 : Addr) (a2 : Addr) (h0 : Heap) (n0 : Nat) (v : Option Value) (h : Heap) (L : List Loc) : Prop := v = none ∧ Fr n0 L ∧ Keep h0 h [a1] ∧ Exa Z h a1 "java/lang/String" ∧ Fld Z h a1 "java/lang/String" "value" "[B" (.ref a2) ∧ Fld Z h a1 "java/lang/String" "coder" "B" (.int (0 : Int32))
abbrev R_rm25L : Room := ⟨1, 0, 0, 12⟩
set_option maxRecDepth 65536 in
set_option maxHeartbeats 40000000 in
theorem rm25L (l : Launch) (Z : State) (a0 : Array Value) (hw : ∀ d ∈ tables_1, d.before a0 Z = true) (ws : List Jvm.Cond) (a1 : Addr) (a2 : Addr) (h0 : Heap) (n0 : Nat) (Z0 : n0 ≤ h0.size) (E_a1 : Exa Z h0 a1 "java/lang/String") (F_value_a1 : Fld Z h0 a1 "java/lang/String" "value" "[B" .null) (F_coder_a1 : Fld Z h0 a1 "java/lang/String" "coder" "B" (.int (0 : Int32))) (g_a1 : n0 ≤ a1) :
    MetFree l own_y28 (head1 (Jvm.Cond.code own_y28 jdk_42_method_151_code 3 none :: ws) R_rm25L) (fun a U => a = #[(.ref a1), (.ref a2), (.int (0 : Int32))] ∧ Z.Warmed39 U.vm ∧ U.heap = h0) (fun _ _ _ _ _ => True) (fun _ U o U' => ∃ v L, o = .returned v ∧ Q_rm25L Z a1 a2 h0 n0 v U'.heap L ∧ FrameEnd U o U' L R_rm25L.cells R_rm25L.slots) := by
  refine MetFree.of_bodySF (plainFor_of_name pn_String) hisR ?_
  intro p e s m args below meth c s₁ Bd hml0 hP hK
  obtain ⟨rfl, hZ, hh⟩ := hP
  have hx := Bd.exec
  have hby := Bd.bytes
  have hml : c.maxLocals = 3 := hml0
  have hown : s.vm.findClass "java/lang/String" = some m.cls := findClass_of_methodNamed Bd.named
  have hnm := (name_of_methodNamed Bd.named Bd.method).1
  have X0 : Stand p l e R_rm25L s m #[(.ref a1), (.ref a2), (.int (0 : Int32))] below meth c s₁ [] 0 0 := Stand.of_body Bd
  have e0 : s₁.heap = h0 := by rw [← hh, Bd.state]; rfl
  have N0 := Fr.nil n0
  show OGo p.tables e below (own_Kq s (fun v h L => Q_rm25L Z a1 a2 h0 n0 v h L) R_rm25L.cells R_rm25L.slots) (s₁.setTop (entryFrame m #[(.ref a1), (.ref a2), (.int (0 : Int32))] 3))
  refine OGo.cast (ef_rm25L m a1 a2) ?_
  show OGo _ _ _ _ (s₁.setTop (mkF m 0 #[.val (.ref a1), .val (.ref a2), .val (.int (0 : Int32))] []))
  refine OGo.via (fun _ k => XS.aloadN X0.here hx rfl (hb hby d25_0) rfl rfl k) ?_
  obtain ⟨T1, X1, e1, st1⟩ := initO X0 hx hZ hown (own_w hw 19 rfl) (own_w hw 20 rfl) (own_w hw 21 rfl) e0 (g := (mkF m 1 #[.val (.ref a1), .val (.ref a2), .val (.int (0 : Int32))] [(.ref a1)])) rfl (by rw [hml]; rfl) rfl (hb hby d25_1) (by decide) (W := 0) (by show 2 * 0 + _ ≤ _; exact Nat.le_of_eq rfl) (by decide)
  refine OGo.via st1 ?_
  show OGo _ _ _ _ (T1.setTop (mkF m 4 #[.val (.ref a1), .val (.ref a2), .val (.int (0 : Int32))] []))
  refine OGo.via (fun _ k => XS.aloadN X1.here hx rfl (hb hby d25_4) rfl rfl (XS.aloadN X1.here hx rfl (hb hby d25_5) rfl rfl k)) ?_
  obtain ⟨T2, h2, X2, e2, W2, st2⟩ := putF X1 hx hZ hown (host := "") (Or.inl (own_w hw 28 rfl)) Via.refl e1 F_value_a1 E_a1 (Or.inr ⟨(own_w hw 24 rfl), rfl, hnm⟩) (own_w hw 10 rfl) (ty := (.array .byte)) (by decide) rfl rfl (g := (mkF m 6 #[.val (.ref a1), .val (.ref a2), .val (.int (0 : Int32))] [(.ref a2), (.ref a1)])) rfl rfl (hb hby d25_6)
  refine OGo.via st2 ?_
  have Fw2 := F_value_a1.same W2
  have K2 : Keep h0 h2 [a1] := (Keep.refl h0 [a1]).wr W2 (Or.inl (List.mem_of_getElem? (i := 0) rfl))
  have N2 := Fr.snoc X2 N0 g_a1
  show OGo _ _ _ _ (T2.setTop (mkF m 9 #[.val (.ref a1), .val (.ref a2), .val (.int (0 : Int32))] []))
  refine OGo.via (fun _ k => XS.aloadN X2.here hx rfl (hb hby d25_9) rfl rfl (XS.iloadN X2.here hx rfl (hb hby d25_10) rfl k)) ?_
  have f4 := F_coder_a1.other W2 (Or.inr (slot_ne (Or.inr (own_w hw 25 rfl)) (Or.inr (own_w hw 24 rfl)) (by decide) (t := .byte) (t' := (.array .byte)) (by decide) (by decide)))
  have f5 := E_a1.wr W2
  obtain ⟨T3, h3, X3, e3, W3, st3⟩ := putFN X2 hx hZ hown (own_w hw 29 rfl) Via.refl e2 f4 f5 (Or.inr ⟨(own_w hw 25 rfl), rfl, hnm⟩) (own_w hw 10 rfl) (ty := .byte) (v' := (.int (0 : Int32))) (by decide) rfl (by decide) (g := (mkF m 11 #[.val (.ref a1), .val (.ref a2), .val (.int (0 : Int32))] [(.int (0 : Int32)), (.ref a1)])) rfl rfl (hb hby d25_11)
  refine OGo.via st3 ?_
  have Fw3 := f4.same W3
  have K3 : Keep h0 h3 [a1] := K2.wr W3 (Or.inl (List.mem_of_getElem? (i := 0) rfl))
  have N3 := Fr.snoc X3 N2 g_a1
  show OGo _ _ _ _ (T3.setTop (mkF m 14 #[.val (.ref a1), .val (.ref a2), .val (.int (0 : Int32))] []))
  show OGo _ _ _ _ (T3.setTop (mkF m 14 #[.val (.ref a1), .val (.ref a2), .val (.int (0 : Int32))] []))
  have f6 := f5.wr W3
  have f7 := Fw2.other W3 (Or.inr (slot_ne (Or.inr (own_w hw 24 rfl)) (Or.inr (own_w hw 25 rfl)) (by decide) (t := (.array .byte)) (t' := .byte) (by decide) (by decide)))
  refine own_retV X3 hx Bd.notSynchronized Bd.returns (hb hby d25_14) (by decide) (by decide) ?_
  show Q_rm25L Z _ _ h0 n0 _ T3.heap _
  rw [e3]
  exact ⟨rfl, N3, K3, f6, f7, Fw3⟩
theorem ef_rm25U (m : MethodId) (a1 : Addr) (a2 : Addr) : entryFrame m #[(.ref a1), (.ref a2), (.int (1 : Int32))] 3 = mkF m 0 #[.val (.ref a1), .val (.ref a2), .val (.int (1 : Int32))] [] := by
  first | (simp [entryFrame, mkF, argsToLocals, Value.category]; done) | rfl
def Q_rm25U (Z : State) (a1 : Addr) (a2 : Addr) (h0 : Heap) (n0 : Nat) (v : Option Value) (h : Heap) (L : List Loc) : Prop := v = none ∧ Fr n0 L ∧ Keep h0 h [a1] ∧ Exa Z h a1 "java/lang/String" ∧ Fld Z h a1 "java/lang/String" "value" "[B" (.ref a2) ∧ Fld Z h a1 "java/lang/String" "coder" "B" (.int (1 : Int32))
abbrev R_rm25U : Room := ⟨1, 0, 0, 12⟩
set_option maxRecDepth 65536 in
set_option maxHeartbeats 40000000 in
theorem rm25U (l : Launch) (Z : State) (a0 : Array Value) (hw : ∀ d ∈ tables_1, d.before a0 Z = true) (ws : List Jvm.Cond) (a1 : Addr) (a2 : Addr) (h0 : Heap) (n0 : Nat) (Z0 : n0 ≤ h0.size) (E_a1 : Exa Z h0 a1 "java/lang/String") (F_value_a1 : Fld Z h0 a1 "java/lang/String" "value" "[B" .null) (F_coder_a1 : Fld Z h0 a1 "java/lang/String" "coder" "B" (.int (0 : Int32))) (g_a1 : n0 ≤ a1) :
    MetFree l own_y28 (head1 (Jvm.Cond.code own_y28 jdk_42_method_151_code 3 none :: ws) R_rm25U) (fun a U => a = #[(.ref a1), (.ref a2), (.int (1 : Int32))] ∧ Z.Warmed39 U.vm ∧ U.heap = h0) (fun _ _ _ _ _ => True) (fun _ U o U' => ∃ v L, o = .returned v ∧ Q_rm25U Z a1 a2 h0 n0 v U'.heap L ∧ FrameEnd U o U' L R_rm25U.cells R_rm25U.slots) := by
  refine MetFree.of_bodySF (plainFor_of_name pn_String) hisR ?_
  intro p e s m args below meth c s₁ Bd hml0 hP hK
  obtain ⟨rfl, hZ, hh⟩ := hP
  have hx := Bd.exec
  have hby := Bd.bytes
  have hml : c.maxLocals = 3 := hml0
  have hown : s.vm.findClass "java/lang/String" = some m.cls := findClass_of_methodNamed Bd.named
  have hnm := (name_of_methodNamed Bd.named Bd.method).1
  have X0 : Stand p l e R_rm25U s m #[(.ref a1), (.ref a2), (.int (1 : Int32))] below meth c s₁ [] 0 0 := Stand.of_body Bd
  have e0 : s₁.heap = h0 := by rw [← hh, Bd.state]; rfl
  have N0 := Fr.nil n0
  show OGo p.tables e below (own_Kq s (fun v h L => Q_rm25U Z a1 a2 h0 n0 v h L) R_rm25U.cells R_rm25U.slots) (s₁.setTop (entryFrame m #[(.ref a1), (.ref a2), (.int (1 : Int32))] 3))
  refine OGo.cast (ef_rm25U m a1 a2) ?_
  show OGo _ _ _ _ (s₁.setTop (mkF m 0 #[.val (.ref a1), .val (.ref a2), .val (.int (1 : Int32))] []))
  refine OGo.via (fun _ k => XS.aloadN X0.here hx rfl (hb hby d25_0) rfl rfl k) ?_
  obtain ⟨T1, X1, e1, st1⟩ := initO X0 hx hZ hown (own_w hw 19 rfl) (own_w hw 20 rfl) (own_w hw 21 rfl) e0 (g := (mkF m 1 #[.val (.ref a1), .val (.ref a2), .val (.int (1 : Int32))] [(.ref a1)])) rfl (by rw [hml]; rfl) rfl (hb hby d25_1) (by decide) (W := 0) (by show 2 * 0 + _ ≤ _; exact Nat.le_of_eq rfl) (by decide)
  refine OGo.via st1 ?_
  show OGo _ _ _ _ (T1.setTop (mkF m 4 #[.val (.ref a1), .val (.ref a2), .val (.int (1 : Int32))] []))
  refine OGo.via (fun _ k => XS.aloadN X1.here hx rfl (hb hby d25_4) rfl rfl (XS.aloadN X1.here hx rfl (hb hby d25_5) rfl rfl k)) ?_
  obtain ⟨T2, h2, X2, e2, W2, st2⟩ := putF X1 hx hZ hown (host := "") (Or.inl (own_w hw 28 rfl)) Via.refl e1 F_value_a1 E_a1 (Or.inr ⟨(own_w hw 24 rfl), rfl, hnm⟩) (own_w hw 10 rfl) (ty := (.array .byte)) (by decide) rfl rfl (g := (mkF m 6 #[.val (.ref a1), .val (.ref a2), .val (.int (1 : Int32))] [(.ref a2), (.ref a1)])) rfl rfl (hb hby d25_6)
  refine OGo.via st2 ?_
  have Fw2 := F_value_a1.same W2
  have K2 : Keep h0 h2 [a1] := (Keep.refl h0 [a1]).wr W2 (Or.inl (List.mem_of_getElem? (i := 0) rfl))
  have N2 := Fr.snoc X2 N0 g_a1
  show OGo _ _ _ _ (T2.setTop (mkF m 9 #[.val (.ref a1), .val (.ref a2), .val (.int (1 : Int32))] []))
  refine OGo.via (fun _ k => XS.aloadN X2.here hx rfl (hb hby d25_9) rfl rfl (XS.iloadN X2.here hx rfl (hb hby d25_10) rfl k)) ?_
  have f4 := F_coder_a1.other W2 (Or.inr (slot_ne (Or.inr (own_w hw 25 rfl)) (Or.inr (own_w hw 24 rfl)) (by decide) (t := .byte) (t' := (.array .byte)) (by decide) (by decide)))
  have f5 := E_a1.wr W2
  obtain ⟨T3, h3, X3, e3, W3, st3⟩ := putFN X2 hx hZ hown (own_w hw 29 rfl) Via.refl e2 f4 f5 (Or.inr ⟨(own_w hw 25 rfl), rfl, hnm⟩) (own_w hw 10 rfl) (ty := .byte) (v' := (.int (1 : Int32))) (by decide) rfl (by decide) (g := (mkF m 11 #[.val (.ref a1), .val (.ref a2), .val (.int (1 : Int32))] [(.int (1 : Int32)), (.ref a1)])) rfl rfl (hb hby d25_11)
  refine OGo.via st3 ?_
  have Fw3 := f4.same W3
  have K3 : Keep h0 h3 [a1] := K2.wr W3 (Or.inl (List.mem_of_getElem? (i := 0) rfl))
  have N3 := Fr.snoc X3 N2 g_a1
  show OGo _ _ _ _ (T3.setTop (mkF m 14 #[.val (.ref a1), .val (.ref a2), .val (.int (1 : Int32))] []))
  show OGo _ _ _ _ (T3.setTop (mkF m 14 #[.val (.ref a1), .val (.ref a2), .val (.int (1 : Int32))] []))
  have f6 := f5.wr W3
  have f7 := Fw2.other W3 (Or.inr (slot_ne (Or.inr (own_w hw 24 rfl)) (Or.inr (own_w hw 25 rfl)) (by decide) (t := (.array .byte)) (t' := .byte) (by decide) (by decide)))
  refine own_retV X3 hx Bd.notSynchronized Bd.returns (hb hby d25_14) (by decide) (by decide) ?_
  show Q_rm25U Z _ _ h0 n0 _ T3.heap _
  rw [e3]
  exact ⟨rfl, N3, K3, f6, f7, Fw3⟩
theorem d20_0 : decode jdk_43_method_47_code 0 = .ok (.iload_n 2, 1) := by decide +kernel
theorem d20_1 : decode jdk_43_method_47_code 1 = .ok (.ifCond .ne 6, 3) := by decide +kernel
theorem d20_7 : decode jdk_43_method_47_code 7 = .ok (.new 1, 3) := by decide +kernel
theorem d20_10 : decode jdk_43_method_47_code 10 = .ok (.dup, 1) := by decide +kernel
theorem d20_11 : decode jdk_43_method_47_code 11 = .ok (.aload_n 0, 1) := by decide +kernel
theorem d20_12 : decode jdk_43_method_47_code 12 = .ok (.iload_n 1, 1) := by decide +kernel
theorem d20_13 : decode jdk_43_method_47_code 13 = .ok (.iload_n 1, 1) := by decide +kernel
theorem d20_14 : decode jdk_43_method_47_code 14 = .ok (.iload_n 2, 1) := by decide +kernel
theorem d20_15 : decode jdk_43_method_47_code 15 = .ok (.iadd, 1) := by decide +kernel
theorem d20_16 : decode jdk_43_method_47_code 16 = .ok (.invokestatic 232, 3) := by decide +kernel
theorem d20_19 : decode jdk_43_method_47_code 19 = .ok (.iconst 0, 1) := by decide +kernel
theorem d20_20 : decode jdk_43_method_47_code 20 = .ok (.invokespecial 112, 3) := by decide +kernel
theorem pd_17 : parseMethodDescriptor "([BB)V" = some ⟨[(.array .byte), .byte], none⟩ := by decide +kernel
theorem d20_23 : decode jdk_43_method_47_code 23 = .ok (.areturn, 1) := by decide +kernel
theorem ef_rm20 (m : MethodId) (a1 : Addr) (lo : Nat) (dd : Nat) : entryFrame m #[(.ref a1), (.int (Int32.ofNat lo)), (.int (Int32.ofNat dd))] 3 = mkF m 0 #[.val (.ref a1), .val (.int (Int32.ofNat lo)), .val (.int (Int32.ofNat dd))] [] := by
  first | (simp [entryFrame, mkF, argsToLocals, Value.category]; done) | rfl
def Q_rm20 (Z : State) (a1 : Addr) (k1 : ClassId) (xs : List Int32) (nn : Nat) (lo : Nat) (dd : Nat) (h0 : Heap) (n0 : Nat) (v : Option Value) (h : Heap) (L : List Loc) : Prop := ∃ rr : Addr, ∃ vr : Addr, ∃ kr : ClassId, v = some (.ref rr) ∧ Fr n0 L ∧ Keep h0 h [] ∧ Exa Z h rr "java/lang/String" ∧ Fld Z h rr "java/lang/String" "value" "[B" (.ref vr) ∧ Fld Z h rr "java/lang/String" "coder" "B" (.int (0 : Int32)) ∧ Arv Z h vr kr .byte (Int32.ofNat dd) (List.map Value.int (own_sub xs lo dd)) (.int (0 : Int32))
abbrev R_rm20 : Room := ⟨3, 2, 24, 50⟩
set_option maxRecDepth 65536 in
set_option maxHeartbeats 40000000 in
theorem rm20 (l : Launch) (Z : State) (a0 : Array Value) (hw : ∀ d ∈ tables_1, d.before a0 Z = true) (ws : List Jvm.Cond) (a1 : Addr) (k1 : ClassId) (xs : List Int32) (nn : Nat) (lo : Nat) (dd : Nat) (h0 : Heap) (n0 : Nat) (Z0 : n0 ≤ h0.size) (V_a1 : Arv Z h0 a1 k1 .byte (Int32.ofNat nn) (List.map Value.int xs) (.int (0 : Int32))) (hxl : xs.length = nn) (hnn : nn ≤ 20) (hd0 : 0 < dd) (hld : lo + dd ≤ nn) (hnot : ¬ (lo = 0 ∧ dd = nn)) :
    MetFree l own_y29 (head1 (Jvm.Cond.code own_y29 jdk_43_method_47_code 3 (some (.object "java/lang/String")) :: ws) R_rm20) (fun a U => a = #[(.ref a1), (.int (Int32.ofNat lo)), (.int (Int32.ofNat dd))] ∧ Z.Warmed39 U.vm ∧ U.heap = h0) (fun _ _ _ _ _ => True) (fun _ U o U' => ∃ v L, o = .returned v ∧ Q_rm20 Z a1 k1 xs nn lo dd h0 n0 v U'.heap L ∧ FrameEnd U o U' L R_rm20.cells R_rm20.slots) := by
  refine MetFree.of_bodySF (plainFor_of_name pn_StringLatin1) hisR ?_
  intro p e s m args below meth c s₁ Bd hml0 hP hK
  obtain ⟨rfl, hZ, hh⟩ := hP
  have hx := Bd.exec
  have hby := Bd.bytes
  have hml : c.maxLocals = 3 := hml0
  have hown : s.vm.findClass "java/lang/StringLatin1" = some m.cls := findClass_of_methodNamed Bd.named
  have hnm := (name_of_methodNamed Bd.named Bd.method).1
  have X0 : Stand p l e R_rm20 s m #[(.ref a1), (.int (Int32.ofNat lo)), (.int (Int32.ofNat dd))] below meth c s₁ [] 0 0 := Stand.of_body Bd
  have e0 : s₁.heap = h0 := by rw [← hh, Bd.state]; rfl
  have N0 := Fr.nil n0
  show OGo p.tables e below (own_Kq s (fun v h L => Q_rm20 Z a1 k1 xs nn lo dd h0 n0 v h L) R_rm20.cells R_rm20.slots) (s₁.setTop (entryFrame m #[(.ref a1), (.int (Int32.ofNat lo)), (.int (Int32.ofNat dd))] 3))
  refine OGo.cast (ef_rm20 m a1 lo dd) ?_
  show OGo _ _ _ _ (s₁.setTop (mkF m 0 #[.val (.ref a1), .val (.int (Int32.ofNat lo)), .val (.int (Int32.ofNat dd))] []))
  refine OGo.via (fun _ k => XS.iloadN X0.here hx rfl (hb hby d20_0) rfl (XS.ifYes X0.here hx rfl (pc0 := 1) (pc' := 7) rfl (hb hby d20_1) rfl ((if0 _ _).trans (feq (own_ne0 (by omega) hd0)).2) (by decide) (by decide) k)) ?_
  obtain ⟨T1, h1, X1, e1, E1, A1, D1, -, st1⟩ := newO X0 hx hZ hown (own_w hw 94 rfl) (own_w hw 10 rfl) (own_w hw 11 rfl) e0 (g := (mkF m 7 #[.val (.ref a1), .val (.int (Int32.ofNat lo)), .val (.int (Int32.ofNat dd))] [])) rfl (hb hby d20_7) (by decide) (by decide)
  obtain ⟨b1, g1⟩ : ∃ z, z = h0.size := ⟨_, rfl⟩
  rw [← g1] at A1 D1 st1
  refine OGo.via st1 ?_
  have K1 : Keep h0 h1 [] := (Keep.refl h0 []).ext E1
  have lt_a1_b1 : a1 < b1 := Nat.lt_of_lt_of_le V_a1.lt (Nat.le_of_eq g1.symm)
  have sz_b1 : h0.size ≤ b1 := Nat.le_trans (Keep.refl h0 []).1 (Nat.le_of_eq g1.symm)
  have g_b1 : n0 ≤ b1 := Nat.le_trans Z0 sz_b1
  have F1_value : Fld Z h1 b1 "java/lang/String" "value" "[B" .null := D1 (Or.inr (own_w hw 24 rfl)) (ty := (.array .byte)) (by decide)
  have F1_coder : Fld Z h1 b1 "java/lang/String" "coder" "B" (.int (0 : Int32)) := D1 (Or.inr (own_w hw 25 rfl)) (ty := .byte) (by decide)
  show OGo _ _ _ _ (T1.setTop (mkF m 10 #[.val (.ref a1), .val (.int (Int32.ofNat lo)), .val (.int (Int32.ofNat dd))] [(.ref b1)]))
  refine OGo.via (fun _ k => XS.dup X1.here hx rfl (hb hby d20_10) rfl rfl (XS.aloadN X1.here hx rfl (hb hby d20_11) rfl rfl (XS.iloadN X1.here hx rfl (hb hby d20_12) rfl (XS.iloadN X1.here hx rfl (hb hby d20_13) rfl (XS.iloadN X1.here hx rfl (hb hby d20_14) rfl (XS.iadd X1.here hx rfl (hb hby d20_15) rfl k)))))) ?_
  show OGo _ _ _ _ (T1.setTop (mkF m 16 #[.val (.ref a1), .val (.int (Int32.ofNat lo)), .val (.int (Int32.ofNat dd))] [(.int ((Int32.ofNat lo) + (Int32.ofNat dd))), (.int (Int32.ofNat lo)), (.ref a1), (.ref b1), (.ref b1)]))
  rw [own_addN lo dd]
  show OGo _ _ _ _ (T1.setTop (mkF m 16 #[.val (.ref a1), .val (.int (Int32.ofNat lo)), .val (.int (Int32.ofNat dd))] [(.int (Int32.ofNat (lo + dd))), (.int (Int32.ofNat lo)), (.ref a1), (.ref b1), (.ref b1)]))
  have f3 := V_a1.ext E1
  obtain ⟨_, T2, Lc2, X2, hQ2, st2⟩ := own_open X1 (Jvm.LawKit.callS X1 hx (y := own_y27) hown (mvT hZ (own_w hw 95 rfl)) (mvT hZ (own_w hw 96 rfl)) (mvT hZ (own_w hw 97 rfl)) (mvT hZ (own_w hw 98 rfl)) (by decide) (backOf (W := 2) (rm21 l Z a0 hw [] a1 k1 xs nn lo (lo + dd) h1 n0 (Nat.le_trans Z0 K1.1) f3 hxl hnn (by omega) hld (fun q => hnot ⟨q.1, by have := q.1; have := q.2; omega⟩)) hZ (own_w hw 98 rfl) (own_w hw 97 rfl) (by decide) (by decide)) (g := (mkF m 16 #[.val (.ref a1), .val (.int (Int32.ofNat lo)), .val (.int (Int32.ofNat dd))] [(.int (Int32.ofNat (lo + dd))), (.int (Int32.ofNat lo)), (.ref a1), (.ref b1), (.ref b1)])) rfl (by rw [hml]; rfl) (argsL := [(.ref a1), (.int (Int32.ofNat lo)), (.int (Int32.ofNat (lo + dd)))]) (rest := [(.ref b1), (.ref b1)]) (lenOf pd_16 rfl) rfl (by show 2 * 0 + _ ≤ _; exact Nat.le_of_eq rfl) (hb hby d20_16) (fun _ _ => ⟨rfl, e1, (by decide : 1 + 1 ≤ _), (by decide : 4 + 20 ≤ _)⟩))
  obtain ⟨vr, kr, rfl, N2q, r2_0, r2_1, r2_2⟩ := hQ2
  have N2 := Fr.app N0 N2q
  have K2 : Keep h0 T2.heap [] := K1.trans r2_0 all0
  have lt_a1_vr : a1 < vr := Nat.lt_of_lt_of_le f3.lt r2_1
  have lt_b1_vr : b1 < vr := Nat.lt_of_lt_of_le A1.lt r2_1
  have sz_vr : h0.size ≤ vr := Nat.le_trans K1.1 r2_1
  have g_vr : n0 ≤ vr := Nat.le_trans Z0 sz_vr
  refine OGo.via st2 ?_
  show OGo _ _ _ _ (T2.setTop (mkF m 19 #[.val (.ref a1), .val (.int (Int32.ofNat lo)), .val (.int (Int32.ofNat dd))] [(.ref vr), (.ref b1), (.ref b1)]))
  have f4 : Arv Z T2.heap vr kr .byte (Int32.ofNat dd) (List.map Value.int (own_sub xs lo dd)) (.int (0 : Int32)) := (by have q := r2_2; rw [Nat.add_sub_cancel_left] at q; exact q)
  refine OGo.via (fun _ k => XS.iconst X2.here hx rfl (hb hby d20_19) k) ?_
  have f6 := A1.keep r2_0
  have f7 := F1_value.keep r2_0 nin0
  have f8 := F1_coder.keep r2_0 nin0
  obtain ⟨_, T5, Lc5, X5, hQ5, st5⟩ := own_open X2 (X2.specialBack hx (y := own_y28) rfl hown (mvT hZ (own_w hw 113 rfl)) (mvT hZ (own_w hw 114 rfl)) (mvT hZ (own_w hw 115 rfl)) (by decide) (backOf (W := 1) (rm25L l Z a0 hw [] b1 vr T2.heap n0 (Nat.le_trans Z0 K2.1) f6 f7 f8 g_b1) hZ (own_w hw 115 rfl) (own_w hw 11 rfl) (by decide) (by decide)) (g := (mkF m 20 #[.val (.ref a1), .val (.int (Int32.ofNat lo)), .val (.int (Int32.ofNat dd))] [(.int (0 : Int32)), (.ref vr), (.ref b1), (.ref b1)])) rfl (by rw [hml]; rfl) (Steps.refl _) (a := b1) (argsL := [(.ref vr), (.int (0 : Int32))]) (rest := [(.ref b1)]) (lenOf pd_17 rfl) rfl (by show 2 * 0 + _ ≤ _; exact Nat.le_of_eq rfl) (hb hby d20_20) (fun _ _ => ⟨rfl, rfl, (by decide : 2 + 0 ≤ _), (by decide : 24 + 0 ≤ _)⟩))
  obtain ⟨rfl, N5q, r5_0, r5_1, r5_2, r5_3⟩ := hQ5
  have N5 := Fr.app N2 N5q
  have K5 : Keep h0 T5.heap [] := K2.trans r5_0 (allS (Or.inr sz_b1) all0)
  refine OGo.via (fun _ k => st5.trans k) ?_
  show OGo _ _ _ _ (T5.setTop (mkF m 23 #[.val (.ref a1), .val (.int (Int32.ofNat lo)), .val (.int (Int32.ofNat dd))] [(.ref b1)]))
  show OGo _ _ _ _ (T5.setTop (mkF m 23 #[.val (.ref a1), .val (.int (Int32.ofNat lo)), .val (.int (Int32.ofNat dd))] [(.ref b1)]))
  have f9 := f4.keep r5_0 (ninS (Nat.ne_of_gt lt_b1_vr) nin0)
  refine own_retA X5 hx Bd.notSynchronized Bd.returns rfl rfl (hb hby d20_23) (by decide) (by decide) ?_
  show Q_rm20 Z _ _ _ _ _ _ h0 n0 _ T5.heap _
  exact ⟨b1, vr, kr, rfl, N5, K5, r5_1, r5_2, r5_3, f9⟩
theorem d20_4 : decode jdk_43_method_47_code 4 = .ok (.ldc 151, 2) := by decide +kernel
theorem d20_6 : decode jdk_43_method_47_code 6 = .ok (.areturn, 1) := by decide +kernel
theorem ef_rm20w (m : MethodId) (a1 : Addr) (p2 : Int32) : entryFrame m #[(.ref a1), (.int p2), (.int (0 : Int32))] 3 = mkF m 0 #[.val (.ref a1), .val (.int p2), .val (.int (0 : Int32))] [] := by
  first | (simp [entryFrame, mkF, argsToLocals, Value.category]; done) | rfl
def Q_rm20w (Z : State) (a1 : Addr) (p2 : Int32) (h0 : Heap) (n0 : Nat) (v : Option Value) (h : Heap) (L : List Loc) : Prop := ∃ rr : Addr, ∃ vr : Addr, ∃ kr : ClassId, v = some (.ref rr) ∧ Fr n0 L ∧ Keep h0 h [] ∧ Exa Z h rr "java/lang/String" ∧ Fld Z h rr "java/lang/String" "value" "[B" (.ref vr) ∧ Fld Z h rr "java/lang/String" "coder" "B" (.int (0 : Int32)) ∧ Arv Z h vr kr .byte (0 : Int32) [] (.int (0 : Int32))
abbrev R_rm20w : Room := ⟨0, 2, 4, 0⟩
set_option maxRecDepth 65536 in
set_option maxHeartbeats 40000000 in
theorem rm20w (l : Launch) (Z : State) (a0 : Array Value) (hw : ∀ d ∈ tables_1, d.before a0 Z = true) (ws : List Jvm.Cond) (a1 : Addr) (p2 : Int32) (h0 : Heap) (n0 : Nat) (Z0 : n0 ≤ h0.size) (hold : ∀ (b : Addr) (cl : Cell), Z.heap[b]? = some cl → h0[b]? = some cl) (hhc : Jvm.Lit.constHeld Z "java/lang/StringLatin1" 151) (hcw : Jvm.Lit.compactW.before a0 Z = true) :
    MetFree l own_y29 (head1 (Jvm.Cond.code own_y29 jdk_43_method_47_code 3 (some (.object "java/lang/String")) :: ws) R_rm20w) (fun a U => a = #[(.ref a1), (.int p2), (.int (0 : Int32))] ∧ Z.WarmedH U.vm ∧ U.heap = h0) (fun _ _ _ _ _ => True) (fun _ U o U' => ∃ v L, o = .returned v ∧ Q_rm20w Z a1 p2 h0 n0 v U'.heap L ∧ ReturnedEndW U o U' L R_rm20w.cells R_rm20w.slots) := by
  refine MetFree.of_bodySF (plainFor_of_name pn_StringLatin1) hisR ?_
  intro p e s m args below meth c s₁ Bd hml0 hP hK
  obtain ⟨rfl, hZH, hh⟩ := hP
  have hZ := hZH.wide
  have hx := Bd.exec
  have hby := Bd.bytes
  have hml : c.maxLocals = 3 := hml0
  have hown : s.vm.findClass "java/lang/StringLatin1" = some m.cls := findClass_of_methodNamed Bd.named
  have hnm := (name_of_methodNamed Bd.named Bd.method).1
  have X0 : Stand p l e R_rm20w s m #[(.ref a1), (.int p2), (.int (0 : Int32))] below meth c s₁ [] 0 0 := Stand.of_body Bd
  have e0 : s₁.heap = h0 := by rw [← hh, Bd.state]; rfl
  have N0 := Fr.nil n0
  show OGo p.tables e below (own_KqW s (fun v h L => Q_rm20w Z a1 p2 h0 n0 v h L) R_rm20w.cells R_rm20w.slots) (s₁.setTop (entryFrame m #[(.ref a1), (.int p2), (.int (0 : Int32))] 3))
  refine OGo.cast (ef_rm20w m a1 p2) ?_
  show OGo _ _ _ _ (s₁.setTop (mkF m 0 #[.val (.ref a1), .val (.int p2), .val (.int (0 : Int32))] []))
  refine OGo.via (fun _ k => XS.iloadN X0.here hx rfl (hb hby d20_0) rfl (XS.ifNo X0.here hx rfl (hb hby d20_1) rfl ((if0 _ _).trans (teq (by decide : (0 : Int32) = (0 : Int32))).2) k)) ?_
  have wS : ∀ d ∈ Bundle.stringAtoms, d.before a0 Z = true := by
    intro d hd
    simp only [Bundle.stringAtoms, List.mem_cons, List.not_mem_nil, or_false] at hd
    rcases hd with rfl | rfl | rfl | rfl | rfl | rfl | rfl
    · exact (own_w hw 11 rfl)
    · exact (own_w hw 10 rfl)
    · exact (own_w hw 23 rfl)
    · exact (own_w hw 24 rfl)
    · exact (own_w hw 25 rfl)
    · exact (own_w hw 26 rfl)
    · exact (own_w hw 27 rfl)
  obtain ⟨r1, T1, h1, k1, vb1, kb1, X1, e1, E1, hSi1, hk1, hZ1, hown1, Ex1, Fc1, Fv1, V1, -, -, -, Li1, st1⟩ := ldcSVL (s := s) (vm0 := s.vm) X0 hx hZ hown (own_w hw 93 rfl) wS e0 (k0 := 0) ((State.WarmedH.refl s).since 0) (Nat.zero_le _) (Fr.nil _) (fun b cl q => by rw [hh]; exact hold b cl q) (own_ib hZH) (by simp) hhc hcw (vs := []) (z := 0) ⟨by simp, rfl⟩ (by decide) rfl (g := (mkF m 4 #[.val (.ref a1), .val (.int p2), .val (.int (0 : Int32))] [])) rfl (hb hby d20_4) (n := 0) (by decide) (by decide) (by decide) (by decide)
  refine OGo.via st1 ?_
  have K1 : Keep h0 h1 [] := (Keep.refl h0 []).ext E1
  show OGo _ _ _ _ (T1.setTop (mkF m 6 #[.val (.ref a1), .val (.int p2), .val (.int (0 : Int32))] [(.ref r1)]))
  show OGo _ _ _ _ (T1.setTop (mkF m 6 #[.val (.ref a1), .val (.int p2), .val (.int (0 : Int32))] [(.ref r1)]))
  refine own_retAW X1 hSi1 (Nat.le_trans hk1 (Nat.le_of_eq (congrArg Array.size (Eq.symm e1)))) hx Bd.notSynchronized Bd.returns rfl rfl (hb hby d20_6) (by decide) (by decide) ?_
  show Q_rm20w Z _ _ h0 n0 _ T1.heap _
  rw [e1]
  exact ⟨r1, vb1, kb1, rfl, N0, K1, Ex1, Fv1, Fc1, V1⟩
theorem d35_0 : decode jdk_52_method_17_code 0 = .ok (.iload_n 2, 1) := by decide +kernel
theorem d35_1 : decode jdk_52_method_17_code 1 = .ok (.newarray .byte, 2) := by decide +kernel
theorem d35_3 : decode jdk_52_method_17_code 3 = .ok (.astore_n 3, 1) := by decide +kernel
theorem d35_4 : decode jdk_52_method_17_code 4 = .ok (.aload_n 0, 1) := by decide +kernel
theorem d35_5 : decode jdk_52_method_17_code 5 = .ok (.iload_n 1, 1) := by decide +kernel
theorem d35_6 : decode jdk_52_method_17_code 6 = .ok (.aload_n 3, 1) := by decide +kernel
theorem d35_7 : decode jdk_52_method_17_code 7 = .ok (.iconst 0, 1) := by decide +kernel
theorem d35_8 : decode jdk_52_method_17_code 8 = .ok (.iload_n 2, 1) := by decide +kernel
theorem d35_9 : decode jdk_52_method_17_code 9 = .ok (.invokestatic 123, 3) := by decide +kernel
theorem pd_18 : parseMethodDescriptor "([BI[BII)I" = some ⟨[(.array .byte), .int, (.array .byte), .int, .int], some .int⟩ := by decide +kernel
theorem d35_12 : decode jdk_52_method_17_code 12 = .ok (.istore 4, 2) := by decide +kernel
theorem d35_14 : decode jdk_52_method_17_code 14 = .ok (.iload 4, 2) := by decide +kernel
theorem d35_16 : decode jdk_52_method_17_code 16 = .ok (.iload_n 2, 1) := by decide +kernel
theorem d35_17 : decode jdk_52_method_17_code 17 = .ok (.if_icmp .eq 47, 3) := by decide +kernel
theorem d35_64 : decode jdk_52_method_17_code 64 = .ok (.aload_n 3, 1) := by decide +kernel
theorem d35_65 : decode jdk_52_method_17_code 65 = .ok (.areturn, 1) := by decide +kernel
theorem d35_20 : decode jdk_52_method_17_code 20 = .ok (.aload_n 0, 1) := by decide +kernel
theorem d35_21 : decode jdk_52_method_17_code 21 = .ok (.iload_n 1, 1) := by decide +kernel
theorem d35_22 : decode jdk_52_method_17_code 22 = .ok (.iconst 1, 1) := by decide +kernel
theorem d35_23 : decode jdk_52_method_17_code 23 = .ok (.ishl, 1) := by decide +kernel
theorem d35_24 : decode jdk_52_method_17_code 24 = .ok (.iload_n 1, 1) := by decide +kernel
theorem d35_25 : decode jdk_52_method_17_code 25 = .ok (.iload_n 2, 1) := by decide +kernel
theorem d35_26 : decode jdk_52_method_17_code 26 = .ok (.iadd, 1) := by decide +kernel
theorem d35_27 : decode jdk_52_method_17_code 27 = .ok (.invokestatic 11, 3) := by decide +kernel
theorem d35_30 : decode jdk_52_method_17_code 30 = .ok (.invokestatic 126, 3) := by decide +kernel
theorem d35_33 : decode jdk_52_method_17_code 33 = .ok (.astore 5, 2) := by decide +kernel
theorem d35_35 : decode jdk_52_method_17_code 35 = .ok (.aload 5, 2) := by decide +kernel
theorem d35_37 : decode jdk_52_method_17_code 37 = .ok (.iload 4, 2) := by decide +kernel
theorem d35_39 : decode jdk_52_method_17_code 39 = .ok (.invokestatic 71, 3) := by decide +kernel
theorem d35_42 : decode jdk_52_method_17_code 42 = .ok (.sipush 255, 3) := by decide +kernel
theorem d35_45 : decode jdk_52_method_17_code 45 = .ok (.if_icmp .gt 16, 3) := by decide +kernel
theorem d35_61 : decode jdk_52_method_17_code 61 = .ok (.aload 5, 2) := by decide +kernel
theorem d35_63 : decode jdk_52_method_17_code 63 = .ok (.areturn, 1) := by decide +kernel
theorem ef_rm35 (m : MethodId) (a1 : Addr) (lo : Nat) (dd : Nat) : entryFrame m #[(.ref a1), (.int (Int32.ofNat lo)), (.int (Int32.ofNat dd))] 6 = mkF m 0 #[.val (.ref a1), .val (.int (Int32.ofNat lo)), .val (.int (Int32.ofNat dd)), .unset, .unset, .unset] [] := by
  first | (simp [entryFrame, mkF, argsToLocals, Value.category]; done) | rfl
def Q_rm35 (Z : State) (a1 : Addr) (k1 : ClassId) (cs : List Int32) (lo : Nat) (dd : Nat) (w : Int32) (fm : Value) (h0 : Heap) (n0 : Nat) (v : Option Value) (h : Heap) (L : List Loc) : Prop := ∃ vb : Addr, ∃ kb : ClassId, ∃ cd : Int32, ∃ zb : Int32, ∃ bs : List Value, v = some (.ref vb) ∧ Fr n0 L ∧ Keep h0 h [] ∧ h0.size ≤ vb ∧ Arv Z h vb kb .byte zb bs (.int (0 : Int32)) ∧ (own_Rep (own_sub cs lo dd) cd zb bs)
abbrev R_rm35 : Room := ⟨4, 2, 30, 61⟩
set_option maxRecDepth 65536 in
set_option maxHeartbeats 40000000 in
theorem rm35 (l : Launch) (Z : State) (a0 : Array Value) (hw : ∀ d ∈ tables_1, d.before a0 Z = true) (ws : List Jvm.Cond) (a1 : Addr) (k1 : ClassId) (cs : List Int32) (lo : Nat) (dd : Nat) (w : Int32) (fm : Value) (h0 : Heap) (n0 : Nat) (Z0 : n0 ≤ h0.size) (S_COMPACT_STRINGS : Sta Z h0 "java/lang/String" "COMPACT_STRINGS" "Z" (.int w)) (S_SIOOBE_FORMATTER : Sta Z h0 "jdk/internal/util/Preconditions" "SIOOBE_FORMATTER" "Ljava/util/function/BiFunction;" fm) (S__assertionsDisabled : Sta Z h0 "java/lang/StringUTF16" "$assertionsDisabled" "Z" (.int (1 : Int32))) (S_HI_BYTE_SHIFT : Sta Z h0 "java/lang/StringUTF16" "HI_BYTE_SHIFT" "I" (.int (0 : Int32))) (S_LO_BYTE_SHIFT : Sta Z h0 "java/lang/StringUTF16" "LO_BYTE_SHIFT" "I" (.int (8 : Int32))) (hw0 : ¬ w = (0 : Int32)) (hr_fm : fm.isRef = true) (V_a1 : Arv Z h0 a1 k1 .byte (Int32.ofNat (2 * cs.length)) (List.map Value.int (own_u cs)) (.int (0 : Int32))) (hcs : ∀ c ∈ cs, nar .char c = c) (hn10 : cs.length ≤ 10) (hd0 : 0 < dd) (hld : lo + dd ≤ cs.length) (hnot : ¬ (lo = 0 ∧ dd = cs.length)) :
    MetFree l own_y30 (head1 (Jvm.Cond.code own_y30 jdk_52_method_17_code 6 (some (.array .byte)) :: ws) R_rm35) (fun a U => a = #[(.ref a1), (.int (Int32.ofNat lo)), (.int (Int32.ofNat dd))] ∧ Z.Warmed39 U.vm ∧ U.heap = h0) (fun _ _ _ _ _ => True) (fun _ U o U' => ∃ v L, o = .returned v ∧ Q_rm35 Z a1 k1 cs lo dd w fm h0 n0 v U'.heap L ∧ FrameEnd U o U' L R_rm35.cells R_rm35.slots) := by
  refine MetFree.of_bodySF (plainFor_of_name pn_StringUTF16) hisR ?_
  intro p e s m args below meth c s₁ Bd hml0 hP hK
  obtain ⟨rfl, hZ, hh⟩ := hP
  have hx := Bd.exec
  have hby := Bd.bytes
  have hml : c.maxLocals = 6 := hml0
  have hown : s.vm.findClass "java/lang/StringUTF16" = some m.cls := findClass_of_methodNamed Bd.named
  have hnm := (name_of_methodNamed Bd.named Bd.method).1
  have X0 : Stand p l e R_rm35 s m #[(.ref a1), (.int (Int32.ofNat lo)), (.int (Int32.ofNat dd))] below meth c s₁ [] 0 0 := Stand.of_body Bd
  have e0 : s₁.heap = h0 := by rw [← hh, Bd.state]; rfl
  have N0 := Fr.nil n0
  show OGo p.tables e below (own_Kq s (fun v h L => Q_rm35 Z a1 k1 cs lo dd w fm h0 n0 v h L) R_rm35.cells R_rm35.slots) (s₁.setTop (entryFrame m #[(.ref a1), (.int (Int32.ofNat lo)), (.int (Int32.ofNat dd))] 6))
  refine OGo.cast (ef_rm35 m a1 lo dd) ?_
  show OGo _ _ _ _ (s₁.setTop (mkF m 0 #[.val (.ref a1), .val (.int (Int32.ofNat lo)), .val (.int (Int32.ofNat dd)), .unset, .unset, .unset] []))
  refine OGo.via (fun _ k => XS.iloadN X0.here hx rfl (hb hby d35_0) rfl k) ?_
  obtain ⟨T1, h1, ka1, X1, e1, E1, A1, Y1, st1⟩ := newPE (ad := "[B") X0 hx hZ (own_w hw 23 rfl) e0 (g := (mkF m 1 #[.val (.ref a1), .val (.int (Int32.ofNat lo)), .val (.int (Int32.ofNat dd)), .unset, .unset, .unset] [(.int (Int32.ofNat dd))])) rfl (hb hby d35_1) rfl (own_nn (by omega)) (cap := 10) (by rw [own_nc (by omega)]; omega) (by decide) (by decide) (by decide) (by decide)
  obtain ⟨b1, g1⟩ : ∃ z, z = h0.size := ⟨_, rfl⟩
  rw [← g1] at A1 Y1 st1
  refine OGo.via st1 ?_
  have K1 : Keep h0 h1 [] := (Keep.refl h0 []).ext E1
  have lt_a1_b1 : a1 < b1 := Nat.lt_of_lt_of_le V_a1.lt (Nat.le_of_eq g1.symm)
  have sz_b1 : h0.size ≤ b1 := Nat.le_trans (Keep.refl h0 []).1 (Nat.le_of_eq g1.symm)
  have g_b1 : n0 ≤ b1 := Nat.le_trans Z0 sz_b1
  have V1 : Arv Z h1 b1 ka1 .byte (Int32.ofNat dd) [] (.int (0 : Int32)) := Arv.new A1 (own_nn (by omega))
  show OGo _ _ _ _ (T1.setTop (mkF m 3 #[.val (.ref a1), .val (.int (Int32.ofNat lo)), .val (.int (Int32.ofNat dd)), .unset, .unset, .unset] [(.ref b1)]))
  refine OGo.via (fun _ k => XS.astoreN X1.here hx rfl (hb hby d35_3) rfl rfl (l' := #[.val (.ref a1), .val (.int (Int32.ofNat lo)), .val (.int (Int32.ofNat dd)), .val (.ref b1), .unset, .unset]) rfl (XS.aloadN X1.here hx rfl (hb hby d35_4) rfl rfl (XS.iloadN X1.here hx rfl (hb hby d35_5) rfl (XS.aloadN X1.here hx rfl (hb hby d35_6) rfl rfl (XS.iconst X1.here hx rfl (hb hby d35_7) (XS.iloadN X1.here hx rfl (hb hby d35_8) rfl k)))))) ?_
  have f3 := S_COMPACT_STRINGS.ext E1
  have f4 := S_SIOOBE_FORMATTER.ext E1
  have f5 := S__assertionsDisabled.ext E1
  have f6 := S_HI_BYTE_SHIFT.ext E1
  have f7 := S_LO_BYTE_SHIFT.ext E1
  have f8 := V_a1.ext E1
  obtain ⟨_, T2, Lc2, X2, hQ2, st2⟩ := own_open X1 (Jvm.LawKit.callS X1 hx (y := own_y24) hown (mvT hZ (own_w hw 153 rfl)) (mvT hZ (own_w hw 154 rfl)) (mvT hZ (own_w hw 62 rfl)) (mvT hZ (own_w hw 155 rfl)) (by decide) (backOf (W := 0) (rm36 l Z a0 hw [] a1 b1 (Int32.ofNat dd) k1 ka1 cs (own_sub cs lo dd) lo w fm h1 n0 (Nat.le_trans Z0 K1.1) f3 f4 f5 f6 f7 hr_fm f8 V1 (Nat.ne_of_lt lt_a1_b1) g_b1 (by rw [own_subL hld]) (by rw [own_subL hld]; exact hld) (by rw [own_subL hld]; exact own_subG hld) hn10 hcs) hZ (own_w hw 155 rfl) (own_w hw 62 rfl) (by decide) (by decide)) (g := (mkF m 9 #[.val (.ref a1), .val (.int (Int32.ofNat lo)), .val (.int (Int32.ofNat dd)), .val (.ref b1), .unset, .unset] [(.int (Int32.ofNat dd)), (.int (0 : Int32)), (.ref b1), (.int (Int32.ofNat lo)), (.ref a1)])) rfl (by rw [hml]; rfl) (argsL := [(.ref a1), (.int (Int32.ofNat lo)), (.ref b1), (.int (0 : Int32)), (.int (Int32.ofNat dd))]) (rest := []) (lenOf pd_18 rfl) rfl (by show 2 * 0 + _ ≤ _; exact Nat.le_of_eq rfl) (hb hby d35_9) (fun _ _ => ⟨rfl, e1, (by decide : 1 + 0 ≤ _), (by decide : 10 + 0 ≤ _)⟩))
  obtain ⟨kk, bs0, rfl, N2q, r2_0, r2_1, r2_2, r2_3, r2_4, r2_5, r2_6, r2_7⟩ := hQ2
  have N2 := Fr.app N0 N2q
  have K2 : Keep h0 T2.heap [] := K1.trans r2_0 (allS (Or.inr sz_b1) all0)
  refine OGo.via st2 ?_
  show OGo _ _ _ _ (T2.setTop (mkF m 12 #[.val (.ref a1), .val (.int (Int32.ofNat lo)), .val (.int (Int32.ofNat dd)), .val (.ref b1), .unset, .unset] [(.int (Int32.ofNat kk))]))
  rcases r2_7 with ⟨rfl, hal, rfl⟩ | ⟨hkl, hkg⟩
  · show OGo _ _ _ _ (T2.setTop (mkF m 12 #[.val (.ref a1), .val (.int (Int32.ofNat lo)), .val (.int (Int32.ofNat dd)), .val (.ref b1), .unset, .unset] [(.int (Int32.ofNat (own_sub cs lo dd).length))]))
    refine OGo.via (fun _ k => XS.istore X2.here hx rfl (hb hby d35_12) rfl (l' := #[.val (.ref a1), .val (.int (Int32.ofNat lo)), .val (.int (Int32.ofNat dd)), .val (.ref b1), .val (.int (Int32.ofNat (own_sub cs lo dd).length)), .unset]) rfl (XS.iload X2.here hx rfl (hb hby d35_14) rfl (XS.iloadN X2.here hx rfl (hb hby d35_16) rfl (XS.icmpYes X2.here hx rfl (pc0 := 17) (pc' := 64) rfl (hb hby d35_17) rfl (teq (by rw [own_subL hld])).1 (by decide) (by decide) (XS.aloadN X2.here hx rfl (hb hby d35_64) rfl rfl k))))) ?_
    show OGo _ _ _ _ (T2.setTop (mkF m 65 #[.val (.ref a1), .val (.int (Int32.ofNat lo)), .val (.int (Int32.ofNat dd)), .val (.ref b1), .val (.int (Int32.ofNat (own_sub cs lo dd).length)), .unset] [(.ref b1)]))
    refine own_retA X2 hx Bd.notSynchronized Bd.returns rfl rfl (hb hby d35_65) (by decide) (by decide) ?_
    show Q_rm35 Z _ _ _ _ _ _ _ h0 n0 _ T2.heap _
    exact ⟨b1, ka1, (0 : Int32), (Int32.ofNat dd), (List.map Value.int (List.map own_by (own_sub cs lo dd))), rfl, N2, K2, sz_b1, r2_1, (Or.inl ⟨rfl, by rw [own_subL hld], rfl, hal⟩)⟩
  · rw [own_subL hld] at hkl
    show OGo _ _ _ _ (T2.setTop (mkF m 12 #[.val (.ref a1), .val (.int (Int32.ofNat lo)), .val (.int (Int32.ofNat dd)), .val (.ref b1), .unset, .unset] [(.int (Int32.ofNat kk))]))
    refine OGo.via (fun _ k => XS.istore X2.here hx rfl (hb hby d35_12) rfl (l' := #[.val (.ref a1), .val (.int (Int32.ofNat lo)), .val (.int (Int32.ofNat dd)), .val (.ref b1), .val (.int (Int32.ofNat kk)), .unset]) rfl (XS.iload X2.here hx rfl (hb hby d35_14) rfl (XS.iloadN X2.here hx rfl (hb hby d35_16) rfl (XS.icmpNo X2.here hx rfl (hb hby d35_17) rfl (feq (fun q => absurd (own_inj (by omega) (by omega) q) (by omega))).1 (XS.aloadN X2.here hx rfl (hb hby d35_20) rfl rfl (XS.iloadN X2.here hx rfl (hb hby d35_21) rfl (XS.iconst X2.here hx rfl (hb hby d35_22) (XS.ishl X2.here hx rfl (hb hby d35_23) rfl k)))))))) ?_
    show OGo _ _ _ _ (T2.setTop (mkF m 24 #[.val (.ref a1), .val (.int (Int32.ofNat lo)), .val (.int (Int32.ofNat dd)), .val (.ref b1), .val (.int (Int32.ofNat kk)), .unset] [(.int ((Int32.ofNat lo) <<< ((1 : Int32) &&& 31))), (.ref a1)]))
    show OGo _ _ _ _ (T2.setTop (mkF m 24 #[.val (.ref a1), .val (.int (Int32.ofNat lo)), .val (.int (Int32.ofNat dd)), .val (.ref b1), .val (.int (Int32.ofNat kk)), .unset] [(.int ((Int32.ofNat lo) <<< ((1 : Int32) &&& 31))), (.ref a1)]))
    rw [own_dbl' (show lo ≤ 10 by omega)]
    show OGo _ _ _ _ (T2.setTop (mkF m 24 #[.val (.ref a1), .val (.int (Int32.ofNat lo)), .val (.int (Int32.ofNat dd)), .val (.ref b1), .val (.int (Int32.ofNat kk)), .unset] [(.int (Int32.ofNat (2 * lo))), (.ref a1)]))
    refine OGo.via (fun _ k => XS.iloadN X2.here hx rfl (hb hby d35_24) rfl (XS.iloadN X2.here hx rfl (hb hby d35_25) rfl (XS.iadd X2.here hx rfl (hb hby d35_26) rfl k))) ?_
    show OGo _ _ _ _ (T2.setTop (mkF m 27 #[.val (.ref a1), .val (.int (Int32.ofNat lo)), .val (.int (Int32.ofNat dd)), .val (.ref b1), .val (.int (Int32.ofNat kk)), .unset] [(.int ((Int32.ofNat lo) + (Int32.ofNat dd))), (.int (Int32.ofNat (2 * lo))), (.ref a1)]))
    rw [own_addN lo dd]
    show OGo _ _ _ _ (T2.setTop (mkF m 27 #[.val (.ref a1), .val (.int (Int32.ofNat lo)), .val (.int (Int32.ofNat dd)), .val (.ref b1), .val (.int (Int32.ofNat kk)), .unset] [(.int (Int32.ofNat (lo + dd))), (.int (Int32.ofNat (2 * lo))), (.ref a1)]))
    obtain ⟨_, T9, Lc9, X9, hQ9, st9⟩ := own_open X2 (Jvm.LawKit.callS X2 hx (y := own_y18) hown (mvT hZ (own_w hw 123 rfl)) (mvT hZ (own_w hw 124 rfl)) (mvT hZ (own_w hw 62 rfl)) (mvT hZ (own_w hw 125 rfl)) (by decide) (backOf (W := 2) (rm28 l Z a0 hw [] (Int32.ofNat (lo + dd)) (lo + dd) T2.heap n0 (Nat.le_trans Z0 K2.1) rfl (by omega)) hZ (own_w hw 125 rfl) (own_w hw 62 rfl) (by decide) (by decide)) (g := (mkF m 27 #[.val (.ref a1), .val (.int (Int32.ofNat lo)), .val (.int (Int32.ofNat dd)), .val (.ref b1), .val (.int (Int32.ofNat kk)), .unset] [(.int (Int32.ofNat (lo + dd))), (.int (Int32.ofNat (2 * lo))), (.ref a1)])) rfl (by rw [hml]; rfl) (argsL := [(.int (Int32.ofNat (lo + dd)))]) (rest := [(.int (Int32.ofNat (2 * lo))), (.ref a1)]) (lenOf pd_7 rfl) rfl (by show 2 * 0 + _ ≤ _; exact Nat.le_of_eq rfl) (hb hby d35_27) (fun _ _ => ⟨rfl, rfl, (by decide : 1 + 0 ≤ _), (by decide : 10 + 0 ≤ _)⟩))
    obtain ⟨rfl, N9q, r9_0⟩ := hQ9
    have N9 := Fr.app N2 N9q
    refine OGo.via st9 ?_
    show OGo _ _ _ _ (T9.setTop (mkF m 30 #[.val (.ref a1), .val (.int (Int32.ofNat lo)), .val (.int (Int32.ofNat dd)), .val (.ref b1), .val (.int (Int32.ofNat kk)), .unset] [(.int (Int32.ofNat (2 * (lo + dd)))), (.int (Int32.ofNat (2 * lo))), (.ref a1)]))
    have f11 := f8.keep r2_0 (ninS (Nat.ne_of_lt lt_a1_b1) nin0)
    have f12 := Y1.keep r2_0
    obtain ⟨_, T10, Lc10, X10, hQ10, st10⟩ := own_open X9 (Jvm.LawKit.callS X9 hx (y := own_y27) hown (mvT hZ (own_w hw 165 rfl)) (mvT hZ (own_w hw 96 rfl)) (mvT hZ (own_w hw 97 rfl)) (mvT hZ (own_w hw 98 rfl)) (by decide) (backOf (W := 0) (rm21 l Z a0 hw [] a1 k1 (own_u cs) (2 * cs.length) (2 * lo) (2 * (lo + dd)) T2.heap n0 (Nat.le_trans Z0 K2.1) f11 (own_uL cs) (by omega) (by omega) (by omega) (fun q => hnot ⟨by have := q.1; omega, by have := q.1; have := q.2; omega⟩)) hZ (own_w hw 98 rfl) (own_w hw 97 rfl) (by decide) (by decide)) (g := (mkF m 30 #[.val (.ref a1), .val (.int (Int32.ofNat lo)), .val (.int (Int32.ofNat dd)), .val (.ref b1), .val (.int (Int32.ofNat kk)), .unset] [(.int (Int32.ofNat (2 * (lo + dd)))), (.int (Int32.ofNat (2 * lo))), (.ref a1)])) rfl (by rw [hml]; rfl) (argsL := [(.ref a1), (.int (Int32.ofNat (2 * lo))), (.int (Int32.ofNat (2 * (lo + dd))))]) (rest := []) (lenOf pd_16 rfl) rfl (by show 2 * 0 + _ ≤ _; exact Nat.le_of_eq rfl) (hb hby d35_30) (fun _ _ => ⟨rfl, r9_0, (by decide : 1 + 1 ≤ _), (by decide : 10 + 20 ≤ _)⟩))
    obtain ⟨vu, ku, rfl, N10q, r10_0, r10_1, r10_2⟩ := hQ10
    have N10 := Fr.app N9 N10q
    have K10 : Keep h0 T10.heap [] := K2.trans r10_0 all0
    have lt_a1_vu : a1 < vu := Nat.lt_of_lt_of_le f11.lt r10_1
    have lt_b1_vu : b1 < vu := Nat.lt_of_lt_of_le f12.lt r10_1
    have sz_vu : h0.size ≤ vu := Nat.le_trans K2.1 r10_1
    have g_vu : n0 ≤ vu := Nat.le_trans Z0 sz_vu
    refine OGo.via st10 ?_
    show OGo _ _ _ _ (T10.setTop (mkF m 33 #[.val (.ref a1), .val (.int (Int32.ofNat lo)), .val (.int (Int32.ofNat dd)), .val (.ref b1), .val (.int (Int32.ofNat kk)), .unset] [(.ref vu)]))
    have f13 : Arv Z T10.heap vu ku .byte (Int32.ofNat (2 * dd)) (List.map Value.int (own_u (own_sub cs lo dd))) (.int (0 : Int32)) := (by have q := r10_2; rw [show 2 * (lo + dd) - 2 * lo = 2 * dd from by omega, own_uSub] at q; exact q)
    refine OGo.via (fun _ k => XS.astore X10.here hx rfl (hb hby d35_33) rfl rfl (l' := #[.val (.ref a1), .val (.int (Int32.ofNat lo)), .val (.int (Int32.ofNat dd)), .val (.ref b1), .val (.int (Int32.ofNat kk)), .val (.ref vu)]) rfl (XS.aload X10.here hx rfl (hb hby d35_35) rfl rfl (XS.iload X10.here hx rfl (hb hby d35_37) rfl k))) ?_
    have f15 := own_staKeep0 r2_4 r10_0
    have f16 := own_staKeep0 r2_5 r10_0
    have f17 := own_staKeep0 r2_6 r10_0
    obtain ⟨_, T14, Lc14, X14, hQ14, st14⟩ := own_open X10 (Jvm.LawKit.callS X10 hx (y := own_y11) hown (mvT hZ (own_w hw 133 rfl)) (mvT hZ (own_w hw 134 rfl)) (mvT hZ (own_w hw 62 rfl)) (mvT hZ (own_w hw 135 rfl)) (by decide) (backOf (W := 0) (rm30 l Z a0 hw [] vu (Int32.ofNat kk) ku (List.map Value.int (own_u (own_sub cs lo dd))) dd kk (own_lo ((own_sub cs lo dd).getD kk 0)) (own_hi ((own_sub cs lo dd).getD kk 0)) T10.heap n0 (Nat.le_trans Z0 K10.1) f13 f15 f16 f17 rfl hkl (by omega) (own_uB0 (by rw [own_subL hld]; exact hkl)) (own_uB1 (by rw [own_subL hld]; exact hkl))) hZ (own_w hw 135 rfl) (own_w hw 62 rfl) (by decide) (by decide)) (g := (mkF m 39 #[.val (.ref a1), .val (.int (Int32.ofNat lo)), .val (.int (Int32.ofNat dd)), .val (.ref b1), .val (.int (Int32.ofNat kk)), .val (.ref vu)] [(.int (Int32.ofNat kk)), (.ref vu)])) rfl (by rw [hml]; rfl) (argsL := [(.ref vu), (.int (Int32.ofNat kk))]) (rest := []) (lenOf pd_5 rfl) rfl (by show 2 * 0 + _ ≤ _; exact Nat.le_of_eq rfl) (hb hby d35_39) (fun _ _ => ⟨rfl, rfl, (by decide : 2 + 0 ≤ _), (by decide : 30 + 0 ≤ _)⟩))
    obtain ⟨rfl, N14q, r14_0⟩ := hQ14
    have N14 := Fr.app N10 N14q
    refine OGo.via st14 ?_
    show OGo _ _ _ _ (T14.setTop (mkF m 42 #[.val (.ref a1), .val (.int (Int32.ofNat lo)), .val (.int (Int32.ofNat dd)), .val (.ref b1), .val (.int (Int32.ofNat kk)), .val (.ref vu)] [(.int (own_gc (own_lo ((own_sub cs lo dd).getD kk 0)) (own_hi ((own_sub cs lo dd).getD kk 0))))]))
    rw [own_gclh ((own_sub cs lo dd).getD kk 0) (own_subM (q := fun c => nar .char c = c) hcs _ (own_mem (by rw [own_subL hld]; exact hkl)))]
    show OGo _ _ _ _ (T14.setTop (mkF m 42 #[.val (.ref a1), .val (.int (Int32.ofNat lo)), .val (.int (Int32.ofNat dd)), .val (.ref b1), .val (.int (Int32.ofNat kk)), .val (.ref vu)] [(.int ((own_sub cs lo dd).getD kk 0))]))
    refine OGo.via (fun _ k => XS.sipush X14.here hx rfl (hb hby d35_42) (XS.icmpYes X14.here hx rfl (pc0 := 45) (pc' := 61) rfl (hb hby d35_45) rfl (tlt hkg).2.2.1 (by decide) (by decide) (XS.aload X14.here hx rfl (hb hby d35_61) rfl rfl k))) ?_
    show OGo _ _ _ _ (T14.setTop (mkF m 63 #[.val (.ref a1), .val (.int (Int32.ofNat lo)), .val (.int (Int32.ofNat dd)), .val (.ref b1), .val (.int (Int32.ofNat kk)), .val (.ref vu)] [(.ref vu)]))
    refine own_retA X14 hx Bd.notSynchronized Bd.returns rfl rfl (hb hby d35_63) (by decide) (by decide) ?_
    show Q_rm35 Z _ _ _ _ _ _ _ h0 n0 _ T14.heap _
    rw [r14_0]
    exact ⟨vu, ku, (1 : Int32), (Int32.ofNat (2 * dd)), (List.map Value.int (own_u (own_sub cs lo dd))), rfl, N14, K10, sz_vu, f13, (Or.inr ⟨rfl, by rw [own_subL hld], rfl, _, own_mem (by rw [own_subL hld]; exact hkl), hkg⟩)⟩
theorem d34_0 : decode jdk_52_method_69_code 0 = .ok (.iload_n 2, 1) := by decide +kernel
theorem d34_1 : decode jdk_52_method_69_code 1 = .ok (.ifCond .ne 7, 3) := by decide +kernel
theorem d34_8 : decode jdk_52_method_69_code 8 = .ok (.getstatic 251, 3) := by decide +kernel
theorem d34_11 : decode jdk_52_method_69_code 11 = .ok (.ifCond .eq 28, 3) := by decide +kernel
theorem d34_14 : decode jdk_52_method_69_code 14 = .ok (.aload_n 0, 1) := by decide +kernel
theorem d34_15 : decode jdk_52_method_69_code 15 = .ok (.iload_n 1, 1) := by decide +kernel
theorem d34_16 : decode jdk_52_method_69_code 16 = .ok (.iload_n 2, 1) := by decide +kernel
theorem d34_17 : decode jdk_52_method_69_code 17 = .ok (.invokestatic 257, 3) := by decide +kernel
theorem d34_20 : decode jdk_52_method_69_code 20 = .ok (.astore_n 3, 1) := by decide +kernel
theorem d34_21 : decode jdk_52_method_69_code 21 = .ok (.aload_n 3, 1) := by decide +kernel
theorem d34_22 : decode jdk_52_method_69_code 22 = .ok (.iload_n 2, 1) := by decide +kernel
theorem d34_23 : decode jdk_52_method_69_code 23 = .ok (.invokestatic 259, 3) := by decide +kernel
theorem pd_19 : parseMethodDescriptor "([BI)B" = some ⟨[(.array .byte), .int], some .byte⟩ := by decide +kernel
theorem d34_26 : decode jdk_52_method_69_code 26 = .ok (.istore 4, 2) := by decide +kernel
theorem d34_28 : decode jdk_52_method_69_code 28 = .ok (.new 3, 3) := by decide +kernel
theorem d34_31 : decode jdk_52_method_69_code 31 = .ok (.dup, 1) := by decide +kernel
theorem d34_32 : decode jdk_52_method_69_code 32 = .ok (.aload_n 3, 1) := by decide +kernel
theorem d34_33 : decode jdk_52_method_69_code 33 = .ok (.iload 4, 2) := by decide +kernel
theorem d34_35 : decode jdk_52_method_69_code 35 = .ok (.invokespecial 263, 3) := by decide +kernel
theorem d34_38 : decode jdk_52_method_69_code 38 = .ok (.areturn, 1) := by decide +kernel
theorem ef_rm34 (m : MethodId) (a1 : Addr) (lo : Nat) (dd : Nat) : entryFrame m #[(.ref a1), (.int (Int32.ofNat lo)), (.int (Int32.ofNat dd))] 5 = mkF m 0 #[.val (.ref a1), .val (.int (Int32.ofNat lo)), .val (.int (Int32.ofNat dd)), .unset, .unset] [] := by
  first | (simp [entryFrame, mkF, argsToLocals, Value.category]; done) | rfl
def Q_rm34 (Z : State) (a1 : Addr) (k1 : ClassId) (cs : List Int32) (lo : Nat) (dd : Nat) (w : Int32) (fm : Value) (h0 : Heap) (n0 : Nat) (v : Option Value) (h : Heap) (L : List Loc) : Prop := ∃ rr : Addr, ∃ vr : Addr, ∃ kr : ClassId, ∃ cr : Int32, ∃ zr : Int32, ∃ br : List Value, v = some (.ref rr) ∧ Fr n0 L ∧ Keep h0 h [] ∧ Exa Z h rr "java/lang/String" ∧ Fld Z h rr "java/lang/String" "value" "[B" (.ref vr) ∧ Fld Z h rr "java/lang/String" "coder" "B" (.int cr) ∧ Arv Z h vr kr .byte zr br (.int (0 : Int32)) ∧ (own_Rep (own_sub cs lo dd) cr zr br)
abbrev R_rm34 : Room := ⟨5, 3, 34, 78⟩
set_option maxRecDepth 65536 in
set_option maxHeartbeats 40000000 in
theorem rm34 (l : Launch) (Z : State) (a0 : Array Value) (hw : ∀ d ∈ tables_1, d.before a0 Z = true) (ws : List Jvm.Cond) (a1 : Addr) (k1 : ClassId) (cs : List Int32) (lo : Nat) (dd : Nat) (w : Int32) (fm : Value) (h0 : Heap) (n0 : Nat) (Z0 : n0 ≤ h0.size) (S_COMPACT_STRINGS : Sta Z h0 "java/lang/String" "COMPACT_STRINGS" "Z" (.int w)) (S_SIOOBE_FORMATTER : Sta Z h0 "jdk/internal/util/Preconditions" "SIOOBE_FORMATTER" "Ljava/util/function/BiFunction;" fm) (S__assertionsDisabled : Sta Z h0 "java/lang/StringUTF16" "$assertionsDisabled" "Z" (.int (1 : Int32))) (S_HI_BYTE_SHIFT : Sta Z h0 "java/lang/StringUTF16" "HI_BYTE_SHIFT" "I" (.int (0 : Int32))) (S_LO_BYTE_SHIFT : Sta Z h0 "java/lang/StringUTF16" "LO_BYTE_SHIFT" "I" (.int (8 : Int32))) (hw0 : ¬ w = (0 : Int32)) (hr_fm : fm.isRef = true) (V_a1 : Arv Z h0 a1 k1 .byte (Int32.ofNat (2 * cs.length)) (List.map Value.int (own_u cs)) (.int (0 : Int32))) (hcs : ∀ c ∈ cs, nar .char c = c) (hn10 : cs.length ≤ 10) (hd0 : 0 < dd) (hld : lo + dd ≤ cs.length) (hnot : ¬ (lo = 0 ∧ dd = cs.length)) :
    MetFree l own_y31 (head1 (Jvm.Cond.code own_y31 jdk_52_method_69_code 5 (some (.object "java/lang/String")) :: ws) R_rm34) (fun a U => a = #[(.ref a1), (.int (Int32.ofNat lo)), (.int (Int32.ofNat dd))] ∧ Z.Warmed39 U.vm ∧ U.heap = h0) (fun _ _ _ _ _ => True) (fun _ U o U' => ∃ v L, o = .returned v ∧ Q_rm34 Z a1 k1 cs lo dd w fm h0 n0 v U'.heap L ∧ FrameEnd U o U' L R_rm34.cells R_rm34.slots) := by
  refine MetFree.of_bodySF (plainFor_of_name pn_StringUTF16) hisR ?_
  intro p e s m args below meth c s₁ Bd hml0 hP hK
  obtain ⟨rfl, hZ, hh⟩ := hP
  have hx := Bd.exec
  have hby := Bd.bytes
  have hml : c.maxLocals = 5 := hml0
  have hown : s.vm.findClass "java/lang/StringUTF16" = some m.cls := findClass_of_methodNamed Bd.named
  have hnm := (name_of_methodNamed Bd.named Bd.method).1
  have X0 : Stand p l e R_rm34 s m #[(.ref a1), (.int (Int32.ofNat lo)), (.int (Int32.ofNat dd))] below meth c s₁ [] 0 0 := Stand.of_body Bd
  have e0 : s₁.heap = h0 := by rw [← hh, Bd.state]; rfl
  have N0 := Fr.nil n0
  show OGo p.tables e below (own_Kq s (fun v h L => Q_rm34 Z a1 k1 cs lo dd w fm h0 n0 v h L) R_rm34.cells R_rm34.slots) (s₁.setTop (entryFrame m #[(.ref a1), (.int (Int32.ofNat lo)), (.int (Int32.ofNat dd))] 5))
  refine OGo.cast (ef_rm34 m a1 lo dd) ?_
  show OGo _ _ _ _ (s₁.setTop (mkF m 0 #[.val (.ref a1), .val (.int (Int32.ofNat lo)), .val (.int (Int32.ofNat dd)), .unset, .unset] []))
  refine OGo.via (fun _ k => XS.iloadN X0.here hx rfl (hb hby d34_0) rfl (XS.ifYes X0.here hx rfl (pc0 := 1) (pc' := 8) rfl (hb hby d34_1) rfl ((if0 _ _).trans (feq (own_ne0 (by omega) hd0)).2) (by decide) (by decide) k)) ?_
  obtain ⟨T1, X1, e1, st1⟩ := getS2 X0 hx hZ hown (host := "") (Or.inl (own_w hw 149 rfl)) Via.refl e0 S_COMPACT_STRINGS (g := (mkF m 8 #[.val (.ref a1), .val (.int (Int32.ofNat lo)), .val (.int (Int32.ofNat dd)), .unset, .unset] [])) rfl (hb hby d34_8)
  refine OGo.via st1 ?_
  show OGo _ _ _ _ (T1.setTop (mkF m 11 #[.val (.ref a1), .val (.int (Int32.ofNat lo)), .val (.int (Int32.ofNat dd)), .unset, .unset] [(.int w)]))
  refine OGo.via (fun _ k => XS.ifNo X1.here hx rfl (hb hby d34_11) rfl ((if0 _ _).trans (feq hw0).1) (XS.aloadN X1.here hx rfl (hb hby d34_14) rfl rfl (XS.iloadN X1.here hx rfl (hb hby d34_15) rfl (XS.iloadN X1.here hx rfl (hb hby d34_16) rfl k)))) ?_
  obtain ⟨_, T2, Lc2, X2, hQ2, st2⟩ := own_open X1 (Jvm.LawKit.callS X1 hx (y := own_y30) hown (mvT hZ (own_w hw 150 rfl)) (mvT hZ (own_w hw 151 rfl)) (mvT hZ (own_w hw 62 rfl)) (mvT hZ (own_w hw 152 rfl)) (by decide) (backOf (W := 0) (rm35 l Z a0 hw [] a1 k1 cs lo dd w fm h0 n0 Z0 S_COMPACT_STRINGS S_SIOOBE_FORMATTER S__assertionsDisabled S_HI_BYTE_SHIFT S_LO_BYTE_SHIFT hw0 hr_fm V_a1 hcs hn10 hd0 hld hnot) hZ (own_w hw 152 rfl) (own_w hw 62 rfl) (by decide) (by decide)) (g := (mkF m 17 #[.val (.ref a1), .val (.int (Int32.ofNat lo)), .val (.int (Int32.ofNat dd)), .unset, .unset] [(.int (Int32.ofNat dd)), (.int (Int32.ofNat lo)), (.ref a1)])) rfl (by rw [hml]; rfl) (argsL := [(.ref a1), (.int (Int32.ofNat lo)), (.int (Int32.ofNat dd))]) (rest := []) (lenOf pd_16 rfl) rfl (by show 2 * 0 + _ ≤ _; exact Nat.le_of_eq rfl) (hb hby d34_17) (fun _ _ => ⟨rfl, e1, (by decide : 0 + 2 ≤ _), (by decide : 0 + 30 ≤ _)⟩))
  obtain ⟨vr, kr, cr, zr, br, rfl, N2q, r2_0, r2_1, r2_2, r2_3⟩ := hQ2
  have N2 := Fr.app N0 N2q
  have K2 : Keep h0 T2.heap [] := (Keep.refl h0 []).trans r2_0 all0
  have lt_a1_vr : a1 < vr := Nat.lt_of_lt_of_le V_a1.lt r2_1
  have sz_vr : h0.size ≤ vr := Nat.le_trans (Keep.refl h0 []).1 r2_1
  have g_vr : n0 ≤ vr := Nat.le_trans Z0 sz_vr
  refine OGo.via st2 ?_
  show OGo _ _ _ _ (T2.setTop (mkF m 20 #[.val (.ref a1), .val (.int (Int32.ofNat lo)), .val (.int (Int32.ofNat dd)), .unset, .unset] [(.ref vr)]))
  rcases r2_3 with ⟨rfl, rfl, rfl, hall⟩ | ⟨rfl, rfl, rfl, hexi⟩
  · refine OGo.via (fun _ k => XS.astoreN X2.here hx rfl (hb hby d34_20) rfl rfl (l' := #[.val (.ref a1), .val (.int (Int32.ofNat lo)), .val (.int (Int32.ofNat dd)), .val (.ref vr), .unset]) rfl (XS.aloadN X2.here hx rfl (hb hby d34_21) rfl rfl (XS.iloadN X2.here hx rfl (hb hby d34_22) rfl k))) ?_
    obtain ⟨_, T3, Lc3, X3, hQ3, st3⟩ := own_open X2 (Jvm.LawKit.callS X2 hx (y := own_y4) hown (mvT hZ (own_w hw 166 rfl)) (mvT hZ (own_w hw 68 rfl)) (mvT hZ (own_w hw 62 rfl)) (mvT hZ (own_w hw 69 rfl)) (by decide) (backOf (W := 0) (rm14 l Z a0 hw [] vr (Int32.ofNat dd) kr (List.map Value.int (List.map own_by (own_sub cs lo dd))) (Int32.ofNat (own_sub cs lo dd).length) (0 : Int32) T2.heap n0 (Nat.le_trans Z0 K2.1) r2_2 (by rw [own_subL hld]; exact own_cl0 (by omega))) hZ (own_w hw 69 rfl) (own_w hw 62 rfl) (by decide) (by decide)) (g := (mkF m 23 #[.val (.ref a1), .val (.int (Int32.ofNat lo)), .val (.int (Int32.ofNat dd)), .val (.ref vr), .unset] [(.int (Int32.ofNat dd)), (.ref vr)])) rfl (by rw [hml]; rfl) (argsL := [(.ref vr), (.int (Int32.ofNat dd))]) (rest := []) (lenOf pd_19 rfl) rfl (by show 2 * 0 + _ ≤ _; exact Nat.le_of_eq rfl) (hb hby d34_23) (fun _ _ => ⟨rfl, rfl, (by decide : 2 + 0 ≤ _), (by decide : 30 + 0 ≤ _)⟩))
    obtain ⟨rfl, N3q, r3_0⟩ := hQ3
    have N3 := Fr.app N2 N3q
    refine OGo.via st3 ?_
    show OGo _ _ _ _ (T3.setTop (mkF m 26 #[.val (.ref a1), .val (.int (Int32.ofNat lo)), .val (.int (Int32.ofNat dd)), .val (.ref vr), .unset] [(.int (0 : Int32))]))
    refine OGo.via (fun _ k => XS.istore X3.here hx rfl (hb hby d34_26) rfl (l' := #[.val (.ref a1), .val (.int (Int32.ofNat lo)), .val (.int (Int32.ofNat dd)), .val (.ref vr), .val (.int (0 : Int32))]) rfl k) ?_
    have f5 := V_a1.keep r2_0 nin0
    obtain ⟨T4, h4, X4, e4, E4, A4, D4, -, st4⟩ := newO X3 hx hZ hown (own_w hw 167 rfl) (own_w hw 10 rfl) (own_w hw 11 rfl) r3_0 (g := (mkF m 28 #[.val (.ref a1), .val (.int (Int32.ofNat lo)), .val (.int (Int32.ofNat dd)), .val (.ref vr), .val (.int (0 : Int32))] [])) rfl (hb hby d34_28) (by decide) (by decide)
    obtain ⟨b4, g4⟩ : ∃ z, z = T2.heap.size := ⟨_, rfl⟩
    rw [← g4] at A4 D4 st4
    refine OGo.via st4 ?_
    have K4 : Keep h0 h4 [] := K2.ext E4
    have lt_a1_b4 : a1 < b4 := Nat.lt_of_lt_of_le f5.lt (Nat.le_of_eq g4.symm)
    have lt_vr_b4 : vr < b4 := Nat.lt_of_lt_of_le r2_2.lt (Nat.le_of_eq g4.symm)
    have sz_b4 : h0.size ≤ b4 := Nat.le_trans K2.1 (Nat.le_of_eq g4.symm)
    have g_b4 : n0 ≤ b4 := Nat.le_trans Z0 sz_b4
    have F4_value : Fld Z h4 b4 "java/lang/String" "value" "[B" .null := D4 (Or.inr (own_w hw 24 rfl)) (ty := (.array .byte)) (by decide)
    have F4_coder : Fld Z h4 b4 "java/lang/String" "coder" "B" (.int (0 : Int32)) := D4 (Or.inr (own_w hw 25 rfl)) (ty := .byte) (by decide)
    show OGo _ _ _ _ (T4.setTop (mkF m 31 #[.val (.ref a1), .val (.int (Int32.ofNat lo)), .val (.int (Int32.ofNat dd)), .val (.ref vr), .val (.int (0 : Int32))] [(.ref b4)]))
    refine OGo.via (fun _ k => XS.dup X4.here hx rfl (hb hby d34_31) rfl rfl (XS.aloadN X4.here hx rfl (hb hby d34_32) rfl rfl (XS.iload X4.here hx rfl (hb hby d34_33) rfl k))) ?_
    obtain ⟨_, T6, Lc6, X6, hQ6, st6⟩ := own_open X4 (X4.specialBack hx (y := own_y28) rfl hown (mvT hZ (own_w hw 168 rfl)) (mvT hZ (own_w hw 114 rfl)) (mvT hZ (own_w hw 115 rfl)) (by decide) (backOf (W := 1) (rm25L l Z a0 hw [] b4 vr h4 n0 (Nat.le_trans Z0 K4.1) A4 F4_value F4_coder g_b4) hZ (own_w hw 115 rfl) (own_w hw 11 rfl) (by decide) (by decide)) (g := (mkF m 35 #[.val (.ref a1), .val (.int (Int32.ofNat lo)), .val (.int (Int32.ofNat dd)), .val (.ref vr), .val (.int (0 : Int32))] [(.int (0 : Int32)), (.ref vr), (.ref b4), (.ref b4)])) rfl (by rw [hml]; rfl) (Steps.refl _) (a := b4) (argsL := [(.ref vr), (.int (0 : Int32))]) (rest := [(.ref b4)]) (lenOf pd_17 rfl) rfl (by show 2 * 0 + _ ≤ _; exact Nat.le_of_eq rfl) (hb hby d34_35) (fun _ _ => ⟨rfl, e4, (by decide : 3 + 0 ≤ _), (by decide : 34 + 0 ≤ _)⟩))
    obtain ⟨rfl, N6q, r6_0, r6_1, r6_2, r6_3⟩ := hQ6
    have N6 := Fr.app N3 N6q
    have K6 : Keep h0 T6.heap [] := K4.trans r6_0 (allS (Or.inr sz_b4) all0)
    refine OGo.via (fun _ k => st6.trans k) ?_
    show OGo _ _ _ _ (T6.setTop (mkF m 38 #[.val (.ref a1), .val (.int (Int32.ofNat lo)), .val (.int (Int32.ofNat dd)), .val (.ref vr), .val (.int (0 : Int32))] [(.ref b4)]))
    show OGo _ _ _ _ (T6.setTop (mkF m 38 #[.val (.ref a1), .val (.int (Int32.ofNat lo)), .val (.int (Int32.ofNat dd)), .val (.ref vr), .val (.int (0 : Int32))] [(.ref b4)]))
    have f7 := r2_2.ext E4
    have f8 := f7.keep r6_0 (ninS (Nat.ne_of_lt lt_vr_b4) nin0)
    refine own_retA X6 hx Bd.notSynchronized Bd.returns rfl rfl (hb hby d34_38) (by decide) (by decide) ?_
    show Q_rm34 Z _ _ _ _ _ _ _ h0 n0 _ T6.heap _
    exact ⟨b4, vr, kr, (0 : Int32), (Int32.ofNat (own_sub cs lo dd).length), (List.map Value.int (List.map own_by (own_sub cs lo dd))), rfl, N6, K6, r6_1, r6_2, r6_3, f8, (Or.inl ⟨rfl, rfl, rfl, hall⟩)⟩
  · refine OGo.via (fun _ k => XS.astoreN X2.here hx rfl (hb hby d34_20) rfl rfl (l' := #[.val (.ref a1), .val (.int (Int32.ofNat lo)), .val (.int (Int32.ofNat dd)), .val (.ref vr), .unset]) rfl (XS.aloadN X2.here hx rfl (hb hby d34_21) rfl rfl (XS.iloadN X2.here hx rfl (hb hby d34_22) rfl k))) ?_
    obtain ⟨_, T9, Lc9, X9, hQ9, st9⟩ := own_open X2 (Jvm.LawKit.callS X2 hx (y := own_y4) hown (mvT hZ (own_w hw 166 rfl)) (mvT hZ (own_w hw 68 rfl)) (mvT hZ (own_w hw 62 rfl)) (mvT hZ (own_w hw 69 rfl)) (by decide) (backOf (W := 0) (rm14 l Z a0 hw [] vr (Int32.ofNat dd) kr (List.map Value.int (own_u (own_sub cs lo dd))) (Int32.ofNat (2 * (own_sub cs lo dd).length)) (1 : Int32) T2.heap n0 (Nat.le_trans Z0 K2.1) r2_2 (by rw [own_subL hld]; exact own_cl1 (by omega) hd0)) hZ (own_w hw 69 rfl) (own_w hw 62 rfl) (by decide) (by decide)) (g := (mkF m 23 #[.val (.ref a1), .val (.int (Int32.ofNat lo)), .val (.int (Int32.ofNat dd)), .val (.ref vr), .unset] [(.int (Int32.ofNat dd)), (.ref vr)])) rfl (by rw [hml]; rfl) (argsL := [(.ref vr), (.int (Int32.ofNat dd))]) (rest := []) (lenOf pd_19 rfl) rfl (by show 2 * 0 + _ ≤ _; exact Nat.le_of_eq rfl) (hb hby d34_23) (fun _ _ => ⟨rfl, rfl, (by decide : 2 + 0 ≤ _), (by decide : 30 + 0 ≤ _)⟩))
    obtain ⟨rfl, N9q, r9_0⟩ := hQ9
    have N9 := Fr.app N2 N9q
    refine OGo.via st9 ?_
    show OGo _ _ _ _ (T9.setTop (mkF m 26 #[.val (.ref a1), .val (.int (Int32.ofNat lo)), .val (.int (Int32.ofNat dd)), .val (.ref vr), .unset] [(.int (1 : Int32))]))
    refine OGo.via (fun _ k => XS.istore X9.here hx rfl (hb hby d34_26) rfl (l' := #[.val (.ref a1), .val (.int (Int32.ofNat lo)), .val (.int (Int32.ofNat dd)), .val (.ref vr), .val (.int (1 : Int32))]) rfl k) ?_
    have f11 := V_a1.keep r2_0 nin0
    obtain ⟨T10, h10, X10, e10, E10, A10, D10, -, st10⟩ := newO X9 hx hZ hown (own_w hw 167 rfl) (own_w hw 10 rfl) (own_w hw 11 rfl) r9_0 (g := (mkF m 28 #[.val (.ref a1), .val (.int (Int32.ofNat lo)), .val (.int (Int32.ofNat dd)), .val (.ref vr), .val (.int (1 : Int32))] [])) rfl (hb hby d34_28) (by decide) (by decide)
    obtain ⟨b10, g10⟩ : ∃ z, z = T2.heap.size := ⟨_, rfl⟩
    rw [← g10] at A10 D10 st10
    refine OGo.via st10 ?_
    have K10 : Keep h0 h10 [] := K2.ext E10
    have lt_a1_b10 : a1 < b10 := Nat.lt_of_lt_of_le f11.lt (Nat.le_of_eq g10.symm)
    have lt_vr_b10 : vr < b10 := Nat.lt_of_lt_of_le r2_2.lt (Nat.le_of_eq g10.symm)
    have sz_b10 : h0.size ≤ b10 := Nat.le_trans K2.1 (Nat.le_of_eq g10.symm)
    have g_b10 : n0 ≤ b10 := Nat.le_trans Z0 sz_b10
    have F10_value : Fld Z h10 b10 "java/lang/String" "value" "[B" .null := D10 (Or.inr (own_w hw 24 rfl)) (ty := (.array .byte)) (by decide)
    have F10_coder : Fld Z h10 b10 "java/lang/String" "coder" "B" (.int (0 : Int32)) := D10 (Or.inr (own_w hw 25 rfl)) (ty := .byte) (by decide)
    show OGo _ _ _ _ (T10.setTop (mkF m 31 #[.val (.ref a1), .val (.int (Int32.ofNat lo)), .val (.int (Int32.ofNat dd)), .val (.ref vr), .val (.int (1 : Int32))] [(.ref b10)]))
    refine OGo.via (fun _ k => XS.dup X10.here hx rfl (hb hby d34_31) rfl rfl (XS.aloadN X10.here hx rfl (hb hby d34_32) rfl rfl (XS.iload X10.here hx rfl (hb hby d34_33) rfl k))) ?_
    obtain ⟨_, T12, Lc12, X12, hQ12, st12⟩ := own_open X10 (X10.specialBack hx (y := own_y28) rfl hown (mvT hZ (own_w hw 168 rfl)) (mvT hZ (own_w hw 114 rfl)) (mvT hZ (own_w hw 115 rfl)) (by decide) (backOf (W := 1) (rm25U l Z a0 hw [] b10 vr h10 n0 (Nat.le_trans Z0 K10.1) A10 F10_value F10_coder g_b10) hZ (own_w hw 115 rfl) (own_w hw 11 rfl) (by decide) (by decide)) (g := (mkF m 35 #[.val (.ref a1), .val (.int (Int32.ofNat lo)), .val (.int (Int32.ofNat dd)), .val (.ref vr), .val (.int (1 : Int32))] [(.int (1 : Int32)), (.ref vr), (.ref b10), (.ref b10)])) rfl (by rw [hml]; rfl) (Steps.refl _) (a := b10) (argsL := [(.ref vr), (.int (1 : Int32))]) (rest := [(.ref b10)]) (lenOf pd_17 rfl) rfl (by show 2 * 0 + _ ≤ _; exact Nat.le_of_eq rfl) (hb hby d34_35) (fun _ _ => ⟨rfl, e10, (by decide : 3 + 0 ≤ _), (by decide : 34 + 0 ≤ _)⟩))
    obtain ⟨rfl, N12q, r12_0, r12_1, r12_2, r12_3⟩ := hQ12
    have N12 := Fr.app N9 N12q
    have K12 : Keep h0 T12.heap [] := K10.trans r12_0 (allS (Or.inr sz_b10) all0)
    refine OGo.via (fun _ k => st12.trans k) ?_
    show OGo _ _ _ _ (T12.setTop (mkF m 38 #[.val (.ref a1), .val (.int (Int32.ofNat lo)), .val (.int (Int32.ofNat dd)), .val (.ref vr), .val (.int (1 : Int32))] [(.ref b10)]))
    show OGo _ _ _ _ (T12.setTop (mkF m 38 #[.val (.ref a1), .val (.int (Int32.ofNat lo)), .val (.int (Int32.ofNat dd)), .val (.ref vr), .val (.int (1 : Int32))] [(.ref b10)]))
    have f13 := r2_2.ext E10
    have f14 := f13.keep r12_0 (ninS (Nat.ne_of_lt lt_vr_b10) nin0)
    refine own_retA X12 hx Bd.notSynchronized Bd.returns rfl rfl (hb hby d34_38) (by decide) (by decide) ?_
    show Q_rm34 Z _ _ _ _ _ _ _ h0 n0 _ T12.heap _
    exact ⟨b10, vr, kr, (1 : Int32), (Int32.ofNat (2 * (own_sub cs lo dd).length)), (List.map Value.int (own_u (own_sub cs lo dd))), rfl, N12, K12, r12_1, r12_2, r12_3, f14, (Or.inr ⟨rfl, rfl, rfl, hexi⟩)⟩
theorem d9_0 : decode jdk_42_method_92_code 0 = .ok (.aload_n 0, 1) := by decide +kernel
theorem d9_1 : decode jdk_42_method_92_code 1 = .ok (.invokevirtual 505, 3) := by decide +kernel
theorem pd_20 : parseMethodDescriptor "()I" = some ⟨[], some .int⟩ := by decide +kernel
theorem d9_4 : decode jdk_42_method_92_code 4 = .ok (.istore_n 3, 1) := by decide +kernel
theorem d9_5 : decode jdk_42_method_92_code 5 = .ok (.iload_n 1, 1) := by decide +kernel
theorem d9_6 : decode jdk_42_method_92_code 6 = .ok (.iload_n 2, 1) := by decide +kernel
theorem d9_7 : decode jdk_42_method_92_code 7 = .ok (.iload_n 3, 1) := by decide +kernel
theorem d9_8 : decode jdk_42_method_92_code 8 = .ok (.invokestatic 521, 3) := by decide +kernel
theorem pd_21 : parseMethodDescriptor "(III)V" = some ⟨[.int, .int, .int], none⟩ := by decide +kernel
theorem d9_11 : decode jdk_42_method_92_code 11 = .ok (.iload_n 1, 1) := by decide +kernel
theorem d9_12 : decode jdk_42_method_92_code 12 = .ok (.ifCond .ne 10, 3) := by decide +kernel
theorem d9_15 : decode jdk_42_method_92_code 15 = .ok (.iload_n 2, 1) := by decide +kernel
theorem d9_16 : decode jdk_42_method_92_code 16 = .ok (.iload_n 3, 1) := by decide +kernel
theorem d9_17 : decode jdk_42_method_92_code 17 = .ok (.if_icmp .ne 5, 3) := by decide +kernel
theorem d9_20 : decode jdk_42_method_92_code 20 = .ok (.aload_n 0, 1) := by decide +kernel
theorem d9_21 : decode jdk_42_method_92_code 21 = .ok (.areturn, 1) := by decide +kernel
theorem d9_22 : decode jdk_42_method_92_code 22 = .ok (.iload_n 2, 1) := by decide +kernel
theorem d9_23 : decode jdk_42_method_92_code 23 = .ok (.iload_n 1, 1) := by decide +kernel
theorem d9_24 : decode jdk_42_method_92_code 24 = .ok (.isub, 1) := by decide +kernel
theorem d9_25 : decode jdk_42_method_92_code 25 = .ok (.istore 4, 2) := by decide +kernel
theorem d9_27 : decode jdk_42_method_92_code 27 = .ok (.aload_n 0, 1) := by decide +kernel
theorem d9_28 : decode jdk_42_method_92_code 28 = .ok (.invokevirtual 492, 3) := by decide +kernel
theorem d9_31 : decode jdk_42_method_92_code 31 = .ok (.ifCond .eq 16, 3) := by decide +kernel
theorem d9_34 : decode jdk_42_method_92_code 34 = .ok (.aload_n 0, 1) := by decide +kernel
theorem d9_35 : decode jdk_42_method_92_code 35 = .ok (.getfield 9, 3) := by decide +kernel
theorem d9_38 : decode jdk_42_method_92_code 38 = .ok (.iload_n 1, 1) := by decide +kernel
theorem d9_39 : decode jdk_42_method_92_code 39 = .ok (.iload 4, 2) := by decide +kernel
theorem d9_41 : decode jdk_42_method_92_code 41 = .ok (.invokestatic 685, 3) := by decide +kernel
theorem pd_22 : parseMethodDescriptor "([BII)Ljava/lang/String;" = some ⟨[(.array .byte), .int, .int], some (.object "java/lang/String")⟩ := by decide +kernel
theorem d9_44 : decode jdk_42_method_92_code 44 = .ok (.goto 13, 3) := by decide +kernel
theorem d9_57 : decode jdk_42_method_92_code 57 = .ok (.areturn, 1) := by decide +kernel
theorem d9_47 : decode jdk_42_method_92_code 47 = .ok (.aload_n 0, 1) := by decide +kernel
theorem d9_48 : decode jdk_42_method_92_code 48 = .ok (.getfield 9, 3) := by decide +kernel
theorem d9_51 : decode jdk_42_method_92_code 51 = .ok (.iload_n 1, 1) := by decide +kernel
theorem d9_52 : decode jdk_42_method_92_code 52 = .ok (.iload 4, 2) := by decide +kernel
theorem d9_54 : decode jdk_42_method_92_code 54 = .ok (.invokestatic 689, 3) := by decide +kernel
theorem ef_rm9 (m : MethodId) (a1 : Addr) (lo : Nat) (hi : Nat) : entryFrame m #[(.ref a1), (.int (Int32.ofNat lo)), (.int (Int32.ofNat hi))] 5 = mkF m 0 #[.val (.ref a1), .val (.int (Int32.ofNat lo)), .val (.int (Int32.ofNat hi)), .unset, .unset] [] := by
  first | (simp [entryFrame, mkF, argsToLocals, Value.category]; done) | rfl
def Q_rm9 (Z : State) (a1 : Addr) (w : Int32) (fm : Value) (cs : List Int32) (cd : Int32) (zb : Int32) (bs : List Value) (vb : Addr) (kb : ClassId) (lo : Nat) (hi : Nat) (h0 : Heap) (n0 : Nat) (v : Option Value) (h : Heap) (L : List Loc) : Prop := ∃ rr : Addr, ∃ vr : Addr, ∃ kr : ClassId, ∃ cr : Int32, ∃ zr : Int32, ∃ br : List Value, v = some (.ref rr) ∧ Fr n0 L ∧ Keep h0 h [] ∧ Exa Z h rr "java/lang/String" ∧ Fld Z h rr "java/lang/String" "value" "[B" (.ref vr) ∧ Fld Z h rr "java/lang/String" "coder" "B" (.int cr) ∧ Arv Z h vr kr .byte zr br (.int (0 : Int32)) ∧ (own_Rep (own_sub cs lo (hi - lo)) cr zr br)
abbrev R_rm9 : Room := ⟨6, 3, 34, 94⟩
set_option maxRecDepth 65536 in
set_option maxHeartbeats 40000000 in
theorem rm9 (l : Launch) (Z : State) (a0 : Array Value) (hw : ∀ d ∈ tables_1, d.before a0 Z = true) (ws : List Jvm.Cond) (a1 : Addr) (w : Int32) (fm : Value) (cs : List Int32) (cd : Int32) (zb : Int32) (bs : List Value) (vb : Addr) (kb : ClassId) (lo : Nat) (hi : Nat) (h0 : Heap) (n0 : Nat) (Z0 : n0 ≤ h0.size) (E_a1 : Exa Z h0 a1 "java/lang/String") (F_value_a1 : Fld Z h0 a1 "java/lang/String" "value" "[B" (.ref vb)) (F_coder_a1 : Fld Z h0 a1 "java/lang/String" "coder" "B" (.int cd)) (V_vb : Arv Z h0 vb kb .byte zb bs (.int (0 : Int32))) (S_COMPACT_STRINGS : Sta Z h0 "java/lang/String" "COMPACT_STRINGS" "Z" (.int w)) (S_SIOOBE_FORMATTER : Sta Z h0 "jdk/internal/util/Preconditions" "SIOOBE_FORMATTER" "Ljava/util/function/BiFunction;" fm) (S__assertionsDisabled : Sta Z h0 "java/lang/StringUTF16" "$assertionsDisabled" "Z" (.int (1 : Int32))) (S_HI_BYTE_SHIFT : Sta Z h0 "java/lang/StringUTF16" "HI_BYTE_SHIFT" "I" (.int (0 : Int32))) (S_LO_BYTE_SHIFT : Sta Z h0 "java/lang/StringUTF16" "LO_BYTE_SHIFT" "I" (.int (8 : Int32))) (hw0 : ¬ w = (0 : Int32)) (hr_fm : fm.isRef = true) (hrep : own_Rep cs cd zb bs) (hcs : ∀ c ∈ cs, nar .char c = c) (hn10 : cs.length ≤ 10) (hlh : lo < hi) (hhn : hi ≤ cs.length) :
    MetFree l own_y32 (head1 (Jvm.Cond.code own_y32 jdk_42_method_92_code 5 (some (.object "java/lang/String")) :: ws) R_rm9) (fun a U => a = #[(.ref a1), (.int (Int32.ofNat lo)), (.int (Int32.ofNat hi))] ∧ Z.Warmed39 U.vm ∧ U.heap = h0) (fun _ _ _ _ _ => True) (fun _ U o U' => ∃ v L, o = .returned v ∧ Q_rm9 Z a1 w fm cs cd zb bs vb kb lo hi h0 n0 v U'.heap L ∧ FrameEnd U o U' L R_rm9.cells R_rm9.slots) := by
  refine MetFree.of_bodySF (plainFor_of_name pn_String) hisR ?_
  intro p e s m args below meth c s₁ Bd hml0 hP hK
  obtain ⟨rfl, hZ, hh⟩ := hP
  have hx := Bd.exec
  have hby := Bd.bytes
  have hml : c.maxLocals = 5 := hml0
  have hown : s.vm.findClass "java/lang/String" = some m.cls := findClass_of_methodNamed Bd.named
  have hnm := (name_of_methodNamed Bd.named Bd.method).1
  have X0 : Stand p l e R_rm9 s m #[(.ref a1), (.int (Int32.ofNat lo)), (.int (Int32.ofNat hi))] below meth c s₁ [] 0 0 := Stand.of_body Bd
  have e0 : s₁.heap = h0 := by rw [← hh, Bd.state]; rfl
  have N0 := Fr.nil n0
  show OGo p.tables e below (own_Kq s (fun v h L => Q_rm9 Z a1 w fm cs cd zb bs vb kb lo hi h0 n0 v h L) R_rm9.cells R_rm9.slots) (s₁.setTop (entryFrame m #[(.ref a1), (.int (Int32.ofNat lo)), (.int (Int32.ofNat hi))] 5))
  refine OGo.cast (ef_rm9 m a1 lo hi) ?_
  show OGo _ _ _ _ (s₁.setTop (mkF m 0 #[.val (.ref a1), .val (.int (Int32.ofNat lo)), .val (.int (Int32.ofNat hi)), .unset, .unset] []))
  refine OGo.via (fun _ k => XS.aloadN X0.here hx rfl (hb hby d9_0) rfl rfl k) ?_
  obtain ⟨cq1, kq1, q1a, q1b, q1c⟩ := isOf hZ e0 E_a1
  obtain ⟨_, T1, Lc1, X1, hQ1, st1⟩ := own_open X0 (X0.virtualBack hx (y := own_y21) (z := own_y21) hown (mvT hZ (own_w hw 50 rfl)) (mvT hZ (own_w hw 35 rfl)) (notFace_of_selects (args := #[]) (mvT hZ (own_w hw 37 rfl))) (mvT hZ (own_w hw 37 rfl)) (mvT hZ (own_w hw 36 rfl)) (by decide) (backOf (W := 0) (rm7 l Z a0 hw [] a1 w cs cd zb bs vb kb h0 n0 Z0 E_a1 F_value_a1 F_coder_a1 V_vb S_COMPACT_STRINGS hw0 hrep hn10) hZ (own_w hw 38 rfl) (own_w hw 11 rfl) (by decide) (by decide)) q1a q1c (g := (mkF m 1 #[.val (.ref a1), .val (.int (Int32.ofNat lo)), .val (.int (Int32.ofNat hi)), .unset, .unset] [(.ref a1)])) rfl (by rw [hml]; rfl) (Steps.refl _) (argsL := []) (rest := []) (lenOf pd_20 rfl) rfl (by show 2 * 0 + _ ≤ _; exact Nat.le_of_eq rfl) (hb hby d9_1) (fun _ _ => ⟨rfl, e0, (by decide : 0 + 0 ≤ _), (by decide : 0 + 0 ≤ _)⟩))
  obtain ⟨rfl, N1q, r1_0⟩ := hQ1
  have N1 := Fr.app N0 N1q
  refine OGo.via (fun _ k => st1.trans k) ?_
  show OGo _ _ _ _ (T1.setTop (mkF m 4 #[.val (.ref a1), .val (.int (Int32.ofNat lo)), .val (.int (Int32.ofNat hi)), .unset, .unset] [(.int (Int32.ofNat cs.length))]))
  refine OGo.via (fun _ k => XS.istoreN X1.here hx rfl (hb hby d9_4) rfl (l' := #[.val (.ref a1), .val (.int (Int32.ofNat lo)), .val (.int (Int32.ofNat hi)), .val (.int (Int32.ofNat cs.length)), .unset]) rfl (XS.iloadN X1.here hx rfl (hb hby d9_5) rfl (XS.iloadN X1.here hx rfl (hb hby d9_6) rfl (XS.iloadN X1.here hx rfl (hb hby d9_7) rfl k)))) ?_
  obtain ⟨_, T2, Lc2, X2, hQ2, st2⟩ := own_open X1 (Jvm.LawKit.callS X1 hx (y := own_y6) hown (mvT hZ (own_w hw 51 rfl)) (mvT hZ (own_w hw 52 rfl)) (mvT hZ (own_w hw 11 rfl)) (mvT hZ (own_w hw 53 rfl)) (by decide) (backOf (W := 0) (rm10 l Z a0 hw [] (Int32.ofNat lo) (Int32.ofNat hi) (Int32.ofNat cs.length) fm h0 n0 Z0 S_SIOOBE_FORMATTER (own_nn (by omega)) (own_nlt (by omega) (by omega)) (own_nlt (by omega) (by omega)) hr_fm) hZ (own_w hw 53 rfl) (own_w hw 11 rfl) (by decide) (by decide)) (g := (mkF m 8 #[.val (.ref a1), .val (.int (Int32.ofNat lo)), .val (.int (Int32.ofNat hi)), .val (.int (Int32.ofNat cs.length)), .unset] [(.int (Int32.ofNat cs.length)), (.int (Int32.ofNat hi)), (.int (Int32.ofNat lo))])) rfl (by rw [hml]; rfl) (argsL := [(.int (Int32.ofNat lo)), (.int (Int32.ofNat hi)), (.int (Int32.ofNat cs.length))]) (rest := []) (lenOf pd_21 rfl) rfl (by show 2 * 0 + _ ≤ _; exact Nat.le_of_eq rfl) (hb hby d9_8) (fun _ _ => ⟨rfl, r1_0, (by decide : 0 + 0 ≤ _), (by decide : 0 + 0 ≤ _)⟩))
  obtain ⟨rfl, N2q, r2_0⟩ := hQ2
  have N2 := Fr.app N1 N2q
  refine OGo.via st2 ?_
  show OGo _ _ _ _ (T2.setTop (mkF m 11 #[.val (.ref a1), .val (.int (Int32.ofNat lo)), .val (.int (Int32.ofNat hi)), .val (.int (Int32.ofNat cs.length)), .unset] []))
  by_cases hth : lo = 0 ∧ hi = cs.length
  · obtain ⟨rfl, rfl⟩ := hth
    show OGo _ _ _ _ (T2.setTop (mkF m 11 #[.val (.ref a1), .val (.int (Int32.ofNat 0)), .val (.int (Int32.ofNat cs.length)), .val (.int (Int32.ofNat cs.length)), .unset] []))
    refine OGo.via (fun _ k => XS.iloadN X2.here hx rfl (hb hby d9_11) rfl (XS.ifNo X2.here hx rfl (hb hby d9_12) rfl ((if0 _ _).trans (teq (show (Int32.ofNat 0) = (0 : Int32) from rfl)).2) (XS.iloadN X2.here hx rfl (hb hby d9_15) rfl (XS.iloadN X2.here hx rfl (hb hby d9_16) rfl (XS.icmpNo X2.here hx rfl (hb hby d9_17) rfl (teq (rfl : (Int32.ofNat cs.length) = (Int32.ofNat cs.length))).2 (XS.aloadN X2.here hx rfl (hb hby d9_20) rfl rfl k)))))) ?_
    show OGo _ _ _ _ (T2.setTop (mkF m 21 #[.val (.ref a1), .val (.int (Int32.ofNat 0)), .val (.int (Int32.ofNat cs.length)), .val (.int (Int32.ofNat cs.length)), .unset] [(.ref a1)]))
    refine own_retA X2 hx Bd.notSynchronized Bd.returns rfl rfl (hb hby d9_21) (by decide) (by decide) ?_
    show Q_rm9 Z _ _ _ _ _ _ _ _ _ _ _ h0 n0 _ T2.heap _
    rw [r2_0]
    exact ⟨a1, vb, kb, cd, zb, bs, rfl, N2, (Keep.refl h0 []), E_a1, F_value_a1, F_coder_a1, V_vb, (by rw [Nat.sub_zero, own_sub0]; exact hrep)⟩
  · show OGo _ _ _ _ (T2.setTop (mkF m 11 #[.val (.ref a1), .val (.int (Int32.ofNat lo)), .val (.int (Int32.ofNat hi)), .val (.int (Int32.ofNat cs.length)), .unset] []))
    refine OGo.via (fun _ k => XS.iloadN X2.here hx rfl (hb hby d9_11) rfl k) ?_
    by_cases hc12_3 : (Int32.ofNat lo) = (0 : Int32)
    · refine OGo.via (fun _ k => XS.ifNo X2.here hx rfl (hb hby d9_12) rfl ((if0 _ _).trans (teq hc12_3).2) (XS.iloadN X2.here hx rfl (hb hby d9_15) rfl (XS.iloadN X2.here hx rfl (hb hby d9_16) rfl (XS.icmpYes X2.here hx rfl (pc0 := 17) (pc' := 22) rfl (hb hby d9_17) rfl (feq (fun q => hth ⟨own_inj0 (by omega) hc12_3, own_inj (by omega) (by omega) q⟩)).2 (by decide) (by decide) (XS.iloadN X2.here hx rfl (hb hby d9_22) rfl (XS.iloadN X2.here hx rfl (hb hby d9_23) rfl (XS.isub X2.here hx rfl (hb hby d9_24) rfl k))))))) ?_
      show OGo _ _ _ _ (T2.setTop (mkF m 25 #[.val (.ref a1), .val (.int (Int32.ofNat lo)), .val (.int (Int32.ofNat hi)), .val (.int (Int32.ofNat cs.length)), .unset] [(.int ((Int32.ofNat hi) - (Int32.ofNat lo)))]))
      rw [own_subN (show lo ≤ hi by omega)]
      show OGo _ _ _ _ (T2.setTop (mkF m 25 #[.val (.ref a1), .val (.int (Int32.ofNat lo)), .val (.int (Int32.ofNat hi)), .val (.int (Int32.ofNat cs.length)), .unset] [(.int (Int32.ofNat (hi - lo)))]))
      refine OGo.via (fun _ k => XS.istore X2.here hx rfl (hb hby d9_25) rfl (l' := #[.val (.ref a1), .val (.int (Int32.ofNat lo)), .val (.int (Int32.ofNat hi)), .val (.int (Int32.ofNat cs.length)), .val (.int (Int32.ofNat (hi - lo)))]) rfl k) ?_
      rcases hrep with ⟨rfl, rfl, rfl, hall⟩ | ⟨rfl, rfl, rfl, hexi⟩
      · refine OGo.via (fun _ k => XS.aloadN X2.here hx rfl (hb hby d9_27) rfl rfl k) ?_
        obtain ⟨cq4, kq4, q4a, q4b, q4c⟩ := isOf hZ r2_0 E_a1
        obtain ⟨_, T4, Lc4, X4, hQ4, st4⟩ := own_open X2 (X2.virtualBack hx (y := own_y3) (z := own_y3) hown (mvT hZ (own_w hw 75 rfl)) (mvT hZ (own_w hw 76 rfl)) (notFace_of_selects (args := #[]) (mvT hZ (own_w hw 78 rfl))) (mvT hZ (own_w hw 78 rfl)) (mvT hZ (own_w hw 77 rfl)) (by decide) (backOf (W := 0) (rm16L l Z a0 hw [] a1 w vb h0 n0 Z0 E_a1 F_value_a1 F_coder_a1 S_COMPACT_STRINGS hw0) hZ (own_w hw 79 rfl) (own_w hw 11 rfl) (by decide) (by decide)) q4a q4c (g := (mkF m 28 #[.val (.ref a1), .val (.int (Int32.ofNat lo)), .val (.int (Int32.ofNat hi)), .val (.int (Int32.ofNat cs.length)), .val (.int (Int32.ofNat (hi - lo)))] [(.ref a1)])) rfl (by rw [hml]; rfl) (Steps.refl _) (argsL := []) (rest := []) (lenOf pd_11 rfl) rfl (by show 2 * 0 + _ ≤ _; exact Nat.le_of_eq rfl) (hb hby d9_28) (fun _ _ => ⟨rfl, r2_0, (by decide : 0 + 0 ≤ _), (by decide : 0 + 0 ≤ _)⟩))
        obtain ⟨rfl, N4q, r4_0⟩ := hQ4
        have N4 := Fr.app N2 N4q
        refine OGo.via (fun _ k => st4.trans k) ?_
        show OGo _ _ _ _ (T4.setTop (mkF m 31 #[.val (.ref a1), .val (.int (Int32.ofNat lo)), .val (.int (Int32.ofNat hi)), .val (.int (Int32.ofNat cs.length)), .val (.int (Int32.ofNat (hi - lo)))] [(.int (1 : Int32))]))
        refine OGo.via (fun _ k => XS.ifNo X4.here hx rfl (hb hby d9_31) rfl ((if0 _ _).trans (feq (by decide : ¬ ((1 : Int32) = (0 : Int32)))).1) (XS.aloadN X4.here hx rfl (hb hby d9_34) rfl rfl k)) ?_
        obtain ⟨T5, X5, e5, st5⟩ := getF X4 hx hZ hown (host := "") (Or.inl (own_w hw 28 rfl)) Via.refl r4_0 F_value_a1 (g := (mkF m 35 #[.val (.ref a1), .val (.int (Int32.ofNat lo)), .val (.int (Int32.ofNat hi)), .val (.int (Int32.ofNat cs.length)), .val (.int (Int32.ofNat (hi - lo)))] [(.ref a1)])) rfl rfl (hb hby d9_35)
        refine OGo.via st5 ?_
        show OGo _ _ _ _ (T5.setTop (mkF m 38 #[.val (.ref a1), .val (.int (Int32.ofNat lo)), .val (.int (Int32.ofNat hi)), .val (.int (Int32.ofNat cs.length)), .val (.int (Int32.ofNat (hi - lo)))] [(.ref vb)]))
        refine OGo.via (fun _ k => XS.iloadN X5.here hx rfl (hb hby d9_38) rfl (XS.iload X5.here hx rfl (hb hby d9_39) rfl k)) ?_
        obtain ⟨_, T6, Lc6, X6, hQ6, st6⟩ := own_open X5 (Jvm.LawKit.callS X5 hx (y := own_y29) hown (mvT hZ (own_w hw 90 rfl)) (mvT hZ (own_w hw 91 rfl)) (mvT hZ (own_w hw 82 rfl)) (mvT hZ (own_w hw 92 rfl)) (by decide) (backOf (W := 0) (rm20 l Z a0 hw [] vb kb (List.map own_by cs) cs.length lo (hi - lo) h0 n0 Z0 V_vb (by simp) (by omega) (by omega) (by omega) (fun q => hth ⟨q.1, by have := q.1; have := q.2; omega⟩)) hZ (own_w hw 92 rfl) (own_w hw 82 rfl) (by decide) (by decide)) (g := (mkF m 41 #[.val (.ref a1), .val (.int (Int32.ofNat lo)), .val (.int (Int32.ofNat hi)), .val (.int (Int32.ofNat cs.length)), .val (.int (Int32.ofNat (hi - lo)))] [(.int (Int32.ofNat (hi - lo))), (.int (Int32.ofNat lo)), (.ref vb)])) rfl (by rw [hml]; rfl) (argsL := [(.ref vb), (.int (Int32.ofNat lo)), (.int (Int32.ofNat (hi - lo)))]) (rest := []) (lenOf pd_22 rfl) rfl (by show 2 * 0 + _ ≤ _; exact Nat.le_of_eq rfl) (hb hby d9_41) (fun _ _ => ⟨rfl, e5, (by decide : 0 + 2 ≤ _), (by decide : 0 + 24 ≤ _)⟩))
        obtain ⟨rr, vr, kr, rfl, N6q, r6_0, r6_1, r6_2, r6_3, r6_4⟩ := hQ6
        have N6 := Fr.app N4 N6q
        have K6 : Keep h0 T6.heap [] := (Keep.refl h0 []).trans r6_0 all0
        refine OGo.via st6 ?_
        show OGo _ _ _ _ (T6.setTop (mkF m 44 #[.val (.ref a1), .val (.int (Int32.ofNat lo)), .val (.int (Int32.ofNat hi)), .val (.int (Int32.ofNat cs.length)), .val (.int (Int32.ofNat (hi - lo)))] [(.ref rr)]))
        refine OGo.via (fun _ k => XS.goto X6.here hx rfl (pc0 := 44) (pc' := 57) rfl (hb hby d9_44) (by decide) (by decide) k) ?_
        show OGo _ _ _ _ (T6.setTop (mkF m 57 #[.val (.ref a1), .val (.int (Int32.ofNat lo)), .val (.int (Int32.ofNat hi)), .val (.int (Int32.ofNat cs.length)), .val (.int (Int32.ofNat (hi - lo)))] [(.ref rr)]))
        refine own_retA X6 hx Bd.notSynchronized Bd.returns rfl rfl (hb hby d9_57) (by decide) (by decide) ?_
        show Q_rm9 Z _ _ _ _ _ _ _ _ _ _ _ h0 n0 _ T6.heap _
        exact ⟨rr, vr, kr, (0 : Int32), (Int32.ofNat (hi - lo)), (List.map Value.int (own_sub (List.map own_by cs) lo (hi - lo))), rfl, N6, K6, r6_1, r6_2, r6_3, r6_4, (Or.inl ⟨rfl, by rw [own_subL (by omega)], by rw [own_subMap], own_subM (q := fun c => ¬ (255 : Int32) < c) hall⟩)⟩
      · refine OGo.via (fun _ k => XS.aloadN X2.here hx rfl (hb hby d9_27) rfl rfl k) ?_
        obtain ⟨cq7, kq7, q7a, q7b, q7c⟩ := isOf hZ r2_0 E_a1
        obtain ⟨_, T7, Lc7, X7, hQ7, st7⟩ := own_open X2 (X2.virtualBack hx (y := own_y3) (z := own_y3) hown (mvT hZ (own_w hw 75 rfl)) (mvT hZ (own_w hw 76 rfl)) (notFace_of_selects (args := #[]) (mvT hZ (own_w hw 78 rfl))) (mvT hZ (own_w hw 78 rfl)) (mvT hZ (own_w hw 77 rfl)) (by decide) (backOf (W := 0) (rm16U l Z a0 hw [] a1 w vb h0 n0 Z0 E_a1 F_value_a1 F_coder_a1 S_COMPACT_STRINGS hw0) hZ (own_w hw 79 rfl) (own_w hw 11 rfl) (by decide) (by decide)) q7a q7c (g := (mkF m 28 #[.val (.ref a1), .val (.int (Int32.ofNat lo)), .val (.int (Int32.ofNat hi)), .val (.int (Int32.ofNat cs.length)), .val (.int (Int32.ofNat (hi - lo)))] [(.ref a1)])) rfl (by rw [hml]; rfl) (Steps.refl _) (argsL := []) (rest := []) (lenOf pd_11 rfl) rfl (by show 2 * 0 + _ ≤ _; exact Nat.le_of_eq rfl) (hb hby d9_28) (fun _ _ => ⟨rfl, r2_0, (by decide : 0 + 0 ≤ _), (by decide : 0 + 0 ≤ _)⟩))
        obtain ⟨rfl, N7q, r7_0⟩ := hQ7
        have N7 := Fr.app N2 N7q
        refine OGo.via (fun _ k => st7.trans k) ?_
        show OGo _ _ _ _ (T7.setTop (mkF m 31 #[.val (.ref a1), .val (.int (Int32.ofNat lo)), .val (.int (Int32.ofNat hi)), .val (.int (Int32.ofNat cs.length)), .val (.int (Int32.ofNat (hi - lo)))] [(.int (0 : Int32))]))
        refine OGo.via (fun _ k => XS.ifYes X7.here hx rfl (pc0 := 31) (pc' := 47) rfl (hb hby d9_31) rfl ((if0 _ _).trans (teq (by decide : (0 : Int32) = (0 : Int32))).1) (by decide) (by decide) (XS.aloadN X7.here hx rfl (hb hby d9_47) rfl rfl k)) ?_
        obtain ⟨T8, X8, e8, st8⟩ := getF X7 hx hZ hown (host := "") (Or.inl (own_w hw 28 rfl)) Via.refl r7_0 F_value_a1 (g := (mkF m 48 #[.val (.ref a1), .val (.int (Int32.ofNat lo)), .val (.int (Int32.ofNat hi)), .val (.int (Int32.ofNat cs.length)), .val (.int (Int32.ofNat (hi - lo)))] [(.ref a1)])) rfl rfl (hb hby d9_48)
        refine OGo.via st8 ?_
        show OGo _ _ _ _ (T8.setTop (mkF m 51 #[.val (.ref a1), .val (.int (Int32.ofNat lo)), .val (.int (Int32.ofNat hi)), .val (.int (Int32.ofNat cs.length)), .val (.int (Int32.ofNat (hi - lo)))] [(.ref vb)]))
        refine OGo.via (fun _ k => XS.iloadN X8.here hx rfl (hb hby d9_51) rfl (XS.iload X8.here hx rfl (hb hby d9_52) rfl k)) ?_
        obtain ⟨_, T9, Lc9, X9, hQ9, st9⟩ := own_open X8 (Jvm.LawKit.callS X8 hx (y := own_y31) hown (mvT hZ (own_w hw 146 rfl)) (mvT hZ (own_w hw 147 rfl)) (mvT hZ (own_w hw 62 rfl)) (mvT hZ (own_w hw 148 rfl)) (by decide) (backOf (W := 0) (rm34 l Z a0 hw [] vb kb cs lo (hi - lo) w fm h0 n0 Z0 S_COMPACT_STRINGS S_SIOOBE_FORMATTER S__assertionsDisabled S_HI_BYTE_SHIFT S_LO_BYTE_SHIFT hw0 hr_fm V_vb hcs hn10 (by omega) (by omega) (fun q => hth ⟨q.1, by have := q.1; have := q.2; omega⟩)) hZ (own_w hw 148 rfl) (own_w hw 62 rfl) (by decide) (by decide)) (g := (mkF m 54 #[.val (.ref a1), .val (.int (Int32.ofNat lo)), .val (.int (Int32.ofNat hi)), .val (.int (Int32.ofNat cs.length)), .val (.int (Int32.ofNat (hi - lo)))] [(.int (Int32.ofNat (hi - lo))), (.int (Int32.ofNat lo)), (.ref vb)])) rfl (by rw [hml]; rfl) (argsL := [(.ref vb), (.int (Int32.ofNat lo)), (.int (Int32.ofNat (hi - lo)))]) (rest := []) (lenOf pd_22 rfl) rfl (by show 2 * 0 + _ ≤ _; exact Nat.le_of_eq rfl) (hb hby d9_54) (fun _ _ => ⟨rfl, e8, (by decide : 0 + 3 ≤ _), (by decide : 0 + 34 ≤ _)⟩))
        obtain ⟨rr, vr, kr, cr, zr, br, rfl, N9q, r9_0, r9_1, r9_2, r9_3, r9_4, r9_5⟩ := hQ9
        have N9 := Fr.app N7 N9q
        have K9 : Keep h0 T9.heap [] := (Keep.refl h0 []).trans r9_0 all0
        refine OGo.via st9 ?_
        show OGo _ _ _ _ (T9.setTop (mkF m 57 #[.val (.ref a1), .val (.int (Int32.ofNat lo)), .val (.int (Int32.ofNat hi)), .val (.int (Int32.ofNat cs.length)), .val (.int (Int32.ofNat (hi - lo)))] [(.ref rr)]))
        show OGo _ _ _ _ (T9.setTop (mkF m 57 #[.val (.ref a1), .val (.int (Int32.ofNat lo)), .val (.int (Int32.ofNat hi)), .val (.int (Int32.ofNat cs.length)), .val (.int (Int32.ofNat (hi - lo)))] [(.ref rr)]))
        refine own_retA X9 hx Bd.notSynchronized Bd.returns rfl rfl (hb hby d9_57) (by decide) (by decide) ?_
        show Q_rm9 Z _ _ _ _ _ _ _ _ _ _ _ h0 n0 _ T9.heap _
        exact ⟨rr, vr, kr, cr, zr, br, rfl, N9, K9, r9_1, r9_2, r9_3, r9_4, r9_5⟩
    · refine OGo.via (fun _ k => XS.ifYes X2.here hx rfl (pc0 := 12) (pc' := 22) rfl (hb hby d9_12) rfl ((if0 _ _).trans (feq hc12_3).2) (by decide) (by decide) (XS.iloadN X2.here hx rfl (hb hby d9_22) rfl (XS.iloadN X2.here hx rfl (hb hby d9_23) rfl (XS.isub X2.here hx rfl (hb hby d9_24) rfl k)))) ?_
      show OGo _ _ _ _ (T2.setTop (mkF m 25 #[.val (.ref a1), .val (.int (Int32.ofNat lo)), .val (.int (Int32.ofNat hi)), .val (.int (Int32.ofNat cs.length)), .unset] [(.int ((Int32.ofNat hi) - (Int32.ofNat lo)))]))
      rw [own_subN (show lo ≤ hi by omega)]
      show OGo _ _ _ _ (T2.setTop (mkF m 25 #[.val (.ref a1), .val (.int (Int32.ofNat lo)), .val (.int (Int32.ofNat hi)), .val (.int (Int32.ofNat cs.length)), .unset] [(.int (Int32.ofNat (hi - lo)))]))
      refine OGo.via (fun _ k => XS.istore X2.here hx rfl (hb hby d9_25) rfl (l' := #[.val (.ref a1), .val (.int (Int32.ofNat lo)), .val (.int (Int32.ofNat hi)), .val (.int (Int32.ofNat cs.length)), .val (.int (Int32.ofNat (hi - lo)))]) rfl k) ?_
      rcases hrep with ⟨rfl, rfl, rfl, hall⟩ | ⟨rfl, rfl, rfl, hexi⟩
      · refine OGo.via (fun _ k => XS.aloadN X2.here hx rfl (hb hby d9_27) rfl rfl k) ?_
        obtain ⟨cq10, kq10, q10a, q10b, q10c⟩ := isOf hZ r2_0 E_a1
        obtain ⟨_, T10, Lc10, X10, hQ10, st10⟩ := own_open X2 (X2.virtualBack hx (y := own_y3) (z := own_y3) hown (mvT hZ (own_w hw 75 rfl)) (mvT hZ (own_w hw 76 rfl)) (notFace_of_selects (args := #[]) (mvT hZ (own_w hw 78 rfl))) (mvT hZ (own_w hw 78 rfl)) (mvT hZ (own_w hw 77 rfl)) (by decide) (backOf (W := 0) (rm16L l Z a0 hw [] a1 w vb h0 n0 Z0 E_a1 F_value_a1 F_coder_a1 S_COMPACT_STRINGS hw0) hZ (own_w hw 79 rfl) (own_w hw 11 rfl) (by decide) (by decide)) q10a q10c (g := (mkF m 28 #[.val (.ref a1), .val (.int (Int32.ofNat lo)), .val (.int (Int32.ofNat hi)), .val (.int (Int32.ofNat cs.length)), .val (.int (Int32.ofNat (hi - lo)))] [(.ref a1)])) rfl (by rw [hml]; rfl) (Steps.refl _) (argsL := []) (rest := []) (lenOf pd_11 rfl) rfl (by show 2 * 0 + _ ≤ _; exact Nat.le_of_eq rfl) (hb hby d9_28) (fun _ _ => ⟨rfl, r2_0, (by decide : 0 + 0 ≤ _), (by decide : 0 + 0 ≤ _)⟩))
        obtain ⟨rfl, N10q, r10_0⟩ := hQ10
        have N10 := Fr.app N2 N10q
        refine OGo.via (fun _ k => st10.trans k) ?_
        show OGo _ _ _ _ (T10.setTop (mkF m 31 #[.val (.ref a1), .val (.int (Int32.ofNat lo)), .val (.int (Int32.ofNat hi)), .val (.int (Int32.ofNat cs.length)), .val (.int (Int32.ofNat (hi - lo)))] [(.int (1 : Int32))]))
        refine OGo.via (fun _ k => XS.ifNo X10.here hx rfl (hb hby d9_31) rfl ((if0 _ _).trans (feq (by decide : ¬ ((1 : Int32) = (0 : Int32)))).1) (XS.aloadN X10.here hx rfl (hb hby d9_34) rfl rfl k)) ?_
        obtain ⟨T11, X11, e11, st11⟩ := getF X10 hx hZ hown (host := "") (Or.inl (own_w hw 28 rfl)) Via.refl r10_0 F_value_a1 (g := (mkF m 35 #[.val (.ref a1), .val (.int (Int32.ofNat lo)), .val (.int (Int32.ofNat hi)), .val (.int (Int32.ofNat cs.length)), .val (.int (Int32.ofNat (hi - lo)))] [(.ref a1)])) rfl rfl (hb hby d9_35)
        refine OGo.via st11 ?_
        show OGo _ _ _ _ (T11.setTop (mkF m 38 #[.val (.ref a1), .val (.int (Int32.ofNat lo)), .val (.int (Int32.ofNat hi)), .val (.int (Int32.ofNat cs.length)), .val (.int (Int32.ofNat (hi - lo)))] [(.ref vb)]))
        refine OGo.via (fun _ k => XS.iloadN X11.here hx rfl (hb hby d9_38) rfl (XS.iload X11.here hx rfl (hb hby d9_39) rfl k)) ?_
        obtain ⟨_, T12, Lc12, X12, hQ12, st12⟩ := own_open X11 (Jvm.LawKit.callS X11 hx (y := own_y29) hown (mvT hZ (own_w hw 90 rfl)) (mvT hZ (own_w hw 91 rfl)) (mvT hZ (own_w hw 82 rfl)) (mvT hZ (own_w hw 92 rfl)) (by decide) (backOf (W := 0) (rm20 l Z a0 hw [] vb kb (List.map own_by cs) cs.length lo (hi - lo) h0 n0 Z0 V_vb (by simp) (by omega) (by omega) (by omega) (fun q => hth ⟨q.1, by have := q.1; have := q.2; omega⟩)) hZ (own_w hw 92 rfl) (own_w hw 82 rfl) (by decide) (by decide)) (g := (mkF m 41 #[.val (.ref a1), .val (.int (Int32.ofNat lo)), .val (.int (Int32.ofNat hi)), .val (.int (Int32.ofNat cs.length)), .val (.int (Int32.ofNat (hi - lo)))] [(.int (Int32.ofNat (hi - lo))), (.int (Int32.ofNat lo)), (.ref vb)])) rfl (by rw [hml]; rfl) (argsL := [(.ref vb), (.int (Int32.ofNat lo)), (.int (Int32.ofNat (hi - lo)))]) (rest := []) (lenOf pd_22 rfl) rfl (by show 2 * 0 + _ ≤ _; exact Nat.le_of_eq rfl) (hb hby d9_41) (fun _ _ => ⟨rfl, e11, (by decide : 0 + 2 ≤ _), (by decide : 0 + 24 ≤ _)⟩))
        obtain ⟨rr, vr, kr, rfl, N12q, r12_0, r12_1, r12_2, r12_3, r12_4⟩ := hQ12
        have N12 := Fr.app N10 N12q
        have K12 : Keep h0 T12.heap [] := (Keep.refl h0 []).trans r12_0 all0
        refine OGo.via st12 ?_
        show OGo _ _ _ _ (T12.setTop (mkF m 44 #[.val (.ref a1), .val (.int (Int32.ofNat lo)), .val (.int (Int32.ofNat hi)), .val (.int (Int32.ofNat cs.length)), .val (.int (Int32.ofNat (hi - lo)))] [(.ref rr)]))
        refine OGo.via (fun _ k => XS.goto X12.here hx rfl (pc0 := 44) (pc' := 57) rfl (hb hby d9_44) (by decide) (by decide) k) ?_
        show OGo _ _ _ _ (T12.setTop (mkF m 57 #[.val (.ref a1), .val (.int (Int32.ofNat lo)), .val (.int (Int32.ofNat hi)), .val (.int (Int32.ofNat cs.length)), .val (.int (Int32.ofNat (hi - lo)))] [(.ref rr)]))
        refine own_retA X12 hx Bd.notSynchronized Bd.returns rfl rfl (hb hby d9_57) (by decide) (by decide) ?_
        show Q_rm9 Z _ _ _ _ _ _ _ _ _ _ _ h0 n0 _ T12.heap _
        exact ⟨rr, vr, kr, (0 : Int32), (Int32.ofNat (hi - lo)), (List.map Value.int (own_sub (List.map own_by cs) lo (hi - lo))), rfl, N12, K12, r12_1, r12_2, r12_3, r12_4, (Or.inl ⟨rfl, by rw [own_subL (by omega)], by rw [own_subMap], own_subM (q := fun c => ¬ (255 : Int32) < c) hall⟩)⟩
      · refine OGo.via (fun _ k => XS.aloadN X2.here hx rfl (hb hby d9_27) rfl rfl k) ?_
        obtain ⟨cq13, kq13, q13a, q13b, q13c⟩ := isOf hZ r2_0 E_a1
        obtain ⟨_, T13, Lc13, X13, hQ13, st13⟩ := own_open X2 (X2.virtualBack hx (y := own_y3) (z := own_y3) hown (mvT hZ (own_w hw 75 rfl)) (mvT hZ (own_w hw 76 rfl)) (notFace_of_selects (args := #[]) (mvT hZ (own_w hw 78 rfl))) (mvT hZ (own_w hw 78 rfl)) (mvT hZ (own_w hw 77 rfl)) (by decide) (backOf (W := 0) (rm16U l Z a0 hw [] a1 w vb h0 n0 Z0 E_a1 F_value_a1 F_coder_a1 S_COMPACT_STRINGS hw0) hZ (own_w hw 79 rfl) (own_w hw 11 rfl) (by decide) (by decide)) q13a q13c (g := (mkF m 28 #[.val (.ref a1), .val (.int (Int32.ofNat lo)), .val (.int (Int32.ofNat hi)), .val (.int (Int32.ofNat cs.length)), .val (.int (Int32.ofNat (hi - lo)))] [(.ref a1)])) rfl (by rw [hml]; rfl) (Steps.refl _) (argsL := []) (rest := []) (lenOf pd_11 rfl) rfl (by show 2 * 0 + _ ≤ _; exact Nat.le_of_eq rfl) (hb hby d9_28) (fun _ _ => ⟨rfl, r2_0, (by decide : 0 + 0 ≤ _), (by decide : 0 + 0 ≤ _)⟩))
        obtain ⟨rfl, N13q, r13_0⟩ := hQ13
        have N13 := Fr.app N2 N13q
        refine OGo.via (fun _ k => st13.trans k) ?_
        show OGo _ _ _ _ (T13.setTop (mkF m 31 #[.val (.ref a1), .val (.int (Int32.ofNat lo)), .val (.int (Int32.ofNat hi)), .val (.int (Int32.ofNat cs.length)), .val (.int (Int32.ofNat (hi - lo)))] [(.int (0 : Int32))]))
        refine OGo.via (fun _ k => XS.ifYes X13.here hx rfl (pc0 := 31) (pc' := 47) rfl (hb hby d9_31) rfl ((if0 _ _).trans (teq (by decide : (0 : Int32) = (0 : Int32))).1) (by decide) (by decide) (XS.aloadN X13.here hx rfl (hb hby d9_47) rfl rfl k)) ?_
        obtain ⟨T14, X14, e14, st14⟩ := getF X13 hx hZ hown (host := "") (Or.inl (own_w hw 28 rfl)) Via.refl r13_0 F_value_a1 (g := (mkF m 48 #[.val (.ref a1), .val (.int (Int32.ofNat lo)), .val (.int (Int32.ofNat hi)), .val (.int (Int32.ofNat cs.length)), .val (.int (Int32.ofNat (hi - lo)))] [(.ref a1)])) rfl rfl (hb hby d9_48)
        refine OGo.via st14 ?_
        show OGo _ _ _ _ (T14.setTop (mkF m 51 #[.val (.ref a1), .val (.int (Int32.ofNat lo)), .val (.int (Int32.ofNat hi)), .val (.int (Int32.ofNat cs.length)), .val (.int (Int32.ofNat (hi - lo)))] [(.ref vb)]))
        refine OGo.via (fun _ k => XS.iloadN X14.here hx rfl (hb hby d9_51) rfl (XS.iload X14.here hx rfl (hb hby d9_52) rfl k)) ?_
        obtain ⟨_, T15, Lc15, X15, hQ15, st15⟩ := own_open X14 (Jvm.LawKit.callS X14 hx (y := own_y31) hown (mvT hZ (own_w hw 146 rfl)) (mvT hZ (own_w hw 147 rfl)) (mvT hZ (own_w hw 62 rfl)) (mvT hZ (own_w hw 148 rfl)) (by decide) (backOf (W := 0) (rm34 l Z a0 hw [] vb kb cs lo (hi - lo) w fm h0 n0 Z0 S_COMPACT_STRINGS S_SIOOBE_FORMATTER S__assertionsDisabled S_HI_BYTE_SHIFT S_LO_BYTE_SHIFT hw0 hr_fm V_vb hcs hn10 (by omega) (by omega) (fun q => hth ⟨q.1, by have := q.1; have := q.2; omega⟩)) hZ (own_w hw 148 rfl) (own_w hw 62 rfl) (by decide) (by decide)) (g := (mkF m 54 #[.val (.ref a1), .val (.int (Int32.ofNat lo)), .val (.int (Int32.ofNat hi)), .val (.int (Int32.ofNat cs.length)), .val (.int (Int32.ofNat (hi - lo)))] [(.int (Int32.ofNat (hi - lo))), (.int (Int32.ofNat lo)), (.ref vb)])) rfl (by rw [hml]; rfl) (argsL := [(.ref vb), (.int (Int32.ofNat lo)), (.int (Int32.ofNat (hi - lo)))]) (rest := []) (lenOf pd_22 rfl) rfl (by show 2 * 0 + _ ≤ _; exact Nat.le_of_eq rfl) (hb hby d9_54) (fun _ _ => ⟨rfl, e14, (by decide : 0 + 3 ≤ _), (by decide : 0 + 34 ≤ _)⟩))
        obtain ⟨rr, vr, kr, cr, zr, br, rfl, N15q, r15_0, r15_1, r15_2, r15_3, r15_4, r15_5⟩ := hQ15
        have N15 := Fr.app N13 N15q
        have K15 : Keep h0 T15.heap [] := (Keep.refl h0 []).trans r15_0 all0
        refine OGo.via st15 ?_
        show OGo _ _ _ _ (T15.setTop (mkF m 57 #[.val (.ref a1), .val (.int (Int32.ofNat lo)), .val (.int (Int32.ofNat hi)), .val (.int (Int32.ofNat cs.length)), .val (.int (Int32.ofNat (hi - lo)))] [(.ref rr)]))
        show OGo _ _ _ _ (T15.setTop (mkF m 57 #[.val (.ref a1), .val (.int (Int32.ofNat lo)), .val (.int (Int32.ofNat hi)), .val (.int (Int32.ofNat cs.length)), .val (.int (Int32.ofNat (hi - lo)))] [(.ref rr)]))
        refine own_retA X15 hx Bd.notSynchronized Bd.returns rfl rfl (hb hby d9_57) (by decide) (by decide) ?_
        show Q_rm9 Z _ _ _ _ _ _ _ _ _ _ _ h0 n0 _ T15.heap _
        exact ⟨rr, vr, kr, cr, zr, br, rfl, N15, K15, r15_1, r15_2, r15_3, r15_4, r15_5⟩
theorem ef_rm9w (m : MethodId) (a1 : Addr) (cs : List Int32) : entryFrame m #[(.ref a1), (.int (Int32.ofNat cs.length)), (.int (Int32.ofNat cs.length))] 5 = mkF m 0 #[.val (.ref a1), .val (.int (Int32.ofNat cs.length)), .val (.int (Int32.ofNat cs.length)), .unset, .unset] [] := by
  first | (simp [entryFrame, mkF, argsToLocals, Value.category]; done) | rfl
def Q_rm9w (Z : State) (a1 : Addr) (w : Int32) (fm : Value) (cs : List Int32) (cd : Int32) (zb : Int32) (bs : List Value) (vb : Addr) (kb : ClassId) (h0 : Heap) (n0 : Nat) (v : Option Value) (h : Heap) (L : List Loc) : Prop := ∃ rr : Addr, ∃ vr : Addr, ∃ kr : ClassId, v = some (.ref rr) ∧ Fr n0 L ∧ Keep h0 h [] ∧ Exa Z h rr "java/lang/String" ∧ Fld Z h rr "java/lang/String" "value" "[B" (.ref vr) ∧ Fld Z h rr "java/lang/String" "coder" "B" (.int (0 : Int32)) ∧ Arv Z h vr kr .byte (0 : Int32) [] (.int (0 : Int32))
abbrev R_rm9w : Room := ⟨2, 2, 4, 29⟩
set_option maxRecDepth 65536 in
set_option maxHeartbeats 40000000 in
theorem rm9w (l : Launch) (Z : State) (a0 : Array Value) (hw : ∀ d ∈ tables_1, d.before a0 Z = true) (ws : List Jvm.Cond) (a1 : Addr) (w : Int32) (fm : Value) (cs : List Int32) (cd : Int32) (zb : Int32) (bs : List Value) (vb : Addr) (kb : ClassId) (h0 : Heap) (n0 : Nat) (Z0 : n0 ≤ h0.size) (E_a1 : Exa Z h0 a1 "java/lang/String") (F_value_a1 : Fld Z h0 a1 "java/lang/String" "value" "[B" (.ref vb)) (F_coder_a1 : Fld Z h0 a1 "java/lang/String" "coder" "B" (.int cd)) (V_vb : Arv Z h0 vb kb .byte zb bs (.int (0 : Int32))) (S_COMPACT_STRINGS : Sta Z h0 "java/lang/String" "COMPACT_STRINGS" "Z" (.int w)) (S_SIOOBE_FORMATTER : Sta Z h0 "jdk/internal/util/Preconditions" "SIOOBE_FORMATTER" "Ljava/util/function/BiFunction;" fm) (S__assertionsDisabled : Sta Z h0 "java/lang/StringUTF16" "$assertionsDisabled" "Z" (.int (1 : Int32))) (S_HI_BYTE_SHIFT : Sta Z h0 "java/lang/StringUTF16" "HI_BYTE_SHIFT" "I" (.int (0 : Int32))) (S_LO_BYTE_SHIFT : Sta Z h0 "java/lang/StringUTF16" "LO_BYTE_SHIFT" "I" (.int (8 : Int32))) (hw0 : ¬ w = (0 : Int32)) (hr_fm : fm.isRef = true) (hrep : own_Rep cs cd zb bs) (hcs : ∀ c ∈ cs, nar .char c = c) (hn10 : cs.length ≤ 10) (hn1 : 0 < cs.length) (hlat : ∀ c ∈ cs, ¬ (255 : Int32) < c) (hold : ∀ (b : Addr) (cl : Cell), Z.heap[b]? = some cl → h0[b]? = some cl) (hhc : Jvm.Lit.constHeld Z "java/lang/StringLatin1" 151) (hcw : Jvm.Lit.compactW.before a0 Z = true) :
    MetFree l own_y32 (head1 (Jvm.Cond.code own_y32 jdk_42_method_92_code 5 (some (.object "java/lang/String")) :: ws) R_rm9w) (fun a U => a = #[(.ref a1), (.int (Int32.ofNat cs.length)), (.int (Int32.ofNat cs.length))] ∧ Z.WarmedH U.vm ∧ U.heap = h0) (fun _ _ _ _ _ => True) (fun _ U o U' => ∃ v L, o = .returned v ∧ Q_rm9w Z a1 w fm cs cd zb bs vb kb h0 n0 v U'.heap L ∧ ReturnedEndW U o U' L R_rm9w.cells R_rm9w.slots) := by
  refine MetFree.of_bodySF (plainFor_of_name pn_String) hisR ?_
  intro p e s m args below meth c s₁ Bd hml0 hP hK
  obtain ⟨rfl, hZH, hh⟩ := hP
  have hZ := hZH.wide
  have hx := Bd.exec
  have hby := Bd.bytes
  have hml : c.maxLocals = 5 := hml0
  have hown : s.vm.findClass "java/lang/String" = some m.cls := findClass_of_methodNamed Bd.named
  have hnm := (name_of_methodNamed Bd.named Bd.method).1
  have X0 : Stand p l e R_rm9w s m #[(.ref a1), (.int (Int32.ofNat cs.length)), (.int (Int32.ofNat cs.length))] below meth c s₁ [] 0 0 := Stand.of_body Bd
  have e0 : s₁.heap = h0 := by rw [← hh, Bd.state]; rfl
  have N0 := Fr.nil n0
  show OGo p.tables e below (own_KqW s (fun v h L => Q_rm9w Z a1 w fm cs cd zb bs vb kb h0 n0 v h L) R_rm9w.cells R_rm9w.slots) (s₁.setTop (entryFrame m #[(.ref a1), (.int (Int32.ofNat cs.length)), (.int (Int32.ofNat cs.length))] 5))
  refine OGo.cast (ef_rm9w m a1 cs) ?_
  show OGo _ _ _ _ (s₁.setTop (mkF m 0 #[.val (.ref a1), .val (.int (Int32.ofNat cs.length)), .val (.int (Int32.ofNat cs.length)), .unset, .unset] []))
  refine OGo.via (fun _ k => XS.aloadN X0.here hx rfl (hb hby d9_0) rfl rfl k) ?_
  obtain ⟨cq1, kq1, q1a, q1b, q1c⟩ := isOf hZ e0 E_a1
  obtain ⟨_, T1, Lc1, X1, hQ1, st1⟩ := own_open X0 (X0.virtualBack hx (y := own_y21) (z := own_y21) hown (mvT hZ (own_w hw 50 rfl)) (mvT hZ (own_w hw 35 rfl)) (notFace_of_selects (args := #[]) (mvT hZ (own_w hw 37 rfl))) (mvT hZ (own_w hw 37 rfl)) (mvT hZ (own_w hw 36 rfl)) (by decide) (backOf (W := 0) (rm7 l Z a0 hw [] a1 w cs cd zb bs vb kb h0 n0 Z0 E_a1 F_value_a1 F_coder_a1 V_vb S_COMPACT_STRINGS hw0 hrep hn10) hZ (own_w hw 38 rfl) (own_w hw 11 rfl) (by decide) (by decide)) q1a q1c (g := (mkF m 1 #[.val (.ref a1), .val (.int (Int32.ofNat cs.length)), .val (.int (Int32.ofNat cs.length)), .unset, .unset] [(.ref a1)])) rfl (by rw [hml]; rfl) (Steps.refl _) (argsL := []) (rest := []) (lenOf pd_20 rfl) rfl (by show 2 * 0 + _ ≤ _; exact Nat.le_of_eq rfl) (hb hby d9_1) (fun _ _ => ⟨rfl, e0, (by decide : 0 + 0 ≤ _), (by decide : 0 + 0 ≤ _)⟩))
  obtain ⟨rfl, N1q, r1_0⟩ := hQ1
  have N1 := Fr.app N0 N1q
  refine OGo.via (fun _ k => st1.trans k) ?_
  show OGo _ _ _ _ (T1.setTop (mkF m 4 #[.val (.ref a1), .val (.int (Int32.ofNat cs.length)), .val (.int (Int32.ofNat cs.length)), .unset, .unset] [(.int (Int32.ofNat cs.length))]))
  refine OGo.via (fun _ k => XS.istoreN X1.here hx rfl (hb hby d9_4) rfl (l' := #[.val (.ref a1), .val (.int (Int32.ofNat cs.length)), .val (.int (Int32.ofNat cs.length)), .val (.int (Int32.ofNat cs.length)), .unset]) rfl (XS.iloadN X1.here hx rfl (hb hby d9_5) rfl (XS.iloadN X1.here hx rfl (hb hby d9_6) rfl (XS.iloadN X1.here hx rfl (hb hby d9_7) rfl k)))) ?_
  obtain ⟨_, T2, Lc2, X2, hQ2, st2⟩ := own_open X1 (Jvm.LawKit.callS X1 hx (y := own_y6) hown (mvT hZ (own_w hw 51 rfl)) (mvT hZ (own_w hw 52 rfl)) (mvT hZ (own_w hw 11 rfl)) (mvT hZ (own_w hw 53 rfl)) (by decide) (backOf (W := 0) (rm10 l Z a0 hw [] (Int32.ofNat cs.length) (Int32.ofNat cs.length) (Int32.ofNat cs.length) fm h0 n0 Z0 S_SIOOBE_FORMATTER (own_nn (by omega)) (own_nlt (by omega) (by omega)) (own_nlt (by omega) (by omega)) hr_fm) hZ (own_w hw 53 rfl) (own_w hw 11 rfl) (by decide) (by decide)) (g := (mkF m 8 #[.val (.ref a1), .val (.int (Int32.ofNat cs.length)), .val (.int (Int32.ofNat cs.length)), .val (.int (Int32.ofNat cs.length)), .unset] [(.int (Int32.ofNat cs.length)), (.int (Int32.ofNat cs.length)), (.int (Int32.ofNat cs.length))])) rfl (by rw [hml]; rfl) (argsL := [(.int (Int32.ofNat cs.length)), (.int (Int32.ofNat cs.length)), (.int (Int32.ofNat cs.length))]) (rest := []) (lenOf pd_21 rfl) rfl (by show 2 * 0 + _ ≤ _; exact Nat.le_of_eq rfl) (hb hby d9_8) (fun _ _ => ⟨rfl, r1_0, (by decide : 0 + 0 ≤ _), (by decide : 0 + 0 ≤ _)⟩))
  obtain ⟨rfl, N2q, r2_0⟩ := hQ2
  have N2 := Fr.app N1 N2q
  refine OGo.via st2 ?_
  show OGo _ _ _ _ (T2.setTop (mkF m 11 #[.val (.ref a1), .val (.int (Int32.ofNat cs.length)), .val (.int (Int32.ofNat cs.length)), .val (.int (Int32.ofNat cs.length)), .unset] []))
  refine OGo.via (fun _ k => XS.iloadN X2.here hx rfl (hb hby d9_11) rfl (XS.ifYes X2.here hx rfl (pc0 := 12) (pc' := 22) rfl (hb hby d9_12) rfl ((if0 _ _).trans (feq (own_ne0 (by omega) hn1)).2) (by decide) (by decide) (XS.iloadN X2.here hx rfl (hb hby d9_22) rfl (XS.iloadN X2.here hx rfl (hb hby d9_23) rfl (XS.isub X2.here hx rfl (hb hby d9_24) rfl k))))) ?_
  show OGo _ _ _ _ (T2.setTop (mkF m 25 #[.val (.ref a1), .val (.int (Int32.ofNat cs.length)), .val (.int (Int32.ofNat cs.length)), .val (.int (Int32.ofNat cs.length)), .unset] [(.int ((Int32.ofNat cs.length) - (Int32.ofNat cs.length)))]))
  rw [Int32.sub_self]
  show OGo _ _ _ _ (T2.setTop (mkF m 25 #[.val (.ref a1), .val (.int (Int32.ofNat cs.length)), .val (.int (Int32.ofNat cs.length)), .val (.int (Int32.ofNat cs.length)), .unset] [(.int (0 : Int32))]))
  refine OGo.via (fun _ k => XS.istore X2.here hx rfl (hb hby d9_25) rfl (l' := #[.val (.ref a1), .val (.int (Int32.ofNat cs.length)), .val (.int (Int32.ofNat cs.length)), .val (.int (Int32.ofNat cs.length)), .val (.int (0 : Int32))]) rfl k) ?_
  rcases hrep with ⟨rfl, rfl, rfl, hall⟩ | ⟨rfl, rfl, rfl, hexi⟩
  · refine OGo.via (fun _ k => XS.aloadN X2.here hx rfl (hb hby d9_27) rfl rfl k) ?_
    obtain ⟨cq3, kq3, q3a, q3b, q3c⟩ := isOf hZ r2_0 E_a1
    obtain ⟨_, T3, Lc3, X3, hQ3, st3⟩ := own_open X2 (X2.virtualBack hx (y := own_y3) (z := own_y3) hown (mvT hZ (own_w hw 75 rfl)) (mvT hZ (own_w hw 76 rfl)) (notFace_of_selects (args := #[]) (mvT hZ (own_w hw 78 rfl))) (mvT hZ (own_w hw 78 rfl)) (mvT hZ (own_w hw 77 rfl)) (by decide) (backOf (W := 0) (rm16L l Z a0 hw [] a1 w vb h0 n0 Z0 E_a1 F_value_a1 F_coder_a1 S_COMPACT_STRINGS hw0) hZ (own_w hw 79 rfl) (own_w hw 11 rfl) (by decide) (by decide)) q3a q3c (g := (mkF m 28 #[.val (.ref a1), .val (.int (Int32.ofNat cs.length)), .val (.int (Int32.ofNat cs.length)), .val (.int (Int32.ofNat cs.length)), .val (.int (0 : Int32))] [(.ref a1)])) rfl (by rw [hml]; rfl) (Steps.refl _) (argsL := []) (rest := []) (lenOf pd_11 rfl) rfl (by show 2 * 0 + _ ≤ _; exact Nat.le_of_eq rfl) (hb hby d9_28) (fun _ _ => ⟨rfl, r2_0, (by decide : 0 + 0 ≤ _), (by decide : 0 + 0 ≤ _)⟩))
    obtain ⟨rfl, N3q, r3_0⟩ := hQ3
    have N3 := Fr.app N2 N3q
    refine OGo.via (fun _ k => st3.trans k) ?_
    show OGo _ _ _ _ (T3.setTop (mkF m 31 #[.val (.ref a1), .val (.int (Int32.ofNat cs.length)), .val (.int (Int32.ofNat cs.length)), .val (.int (Int32.ofNat cs.length)), .val (.int (0 : Int32))] [(.int (1 : Int32))]))
    refine OGo.via (fun _ k => XS.ifNo X3.here hx rfl (hb hby d9_31) rfl ((if0 _ _).trans (feq (by decide : ¬ ((1 : Int32) = (0 : Int32)))).1) (XS.aloadN X3.here hx rfl (hb hby d9_34) rfl rfl k)) ?_
    obtain ⟨T4, X4, e4, st4⟩ := getF X3 hx hZ hown (host := "") (Or.inl (own_w hw 28 rfl)) Via.refl r3_0 F_value_a1 (g := (mkF m 35 #[.val (.ref a1), .val (.int (Int32.ofNat cs.length)), .val (.int (Int32.ofNat cs.length)), .val (.int (Int32.ofNat cs.length)), .val (.int (0 : Int32))] [(.ref a1)])) rfl rfl (hb hby d9_35)
    refine OGo.via st4 ?_
    show OGo _ _ _ _ (T4.setTop (mkF m 38 #[.val (.ref a1), .val (.int (Int32.ofNat cs.length)), .val (.int (Int32.ofNat cs.length)), .val (.int (Int32.ofNat cs.length)), .val (.int (0 : Int32))] [(.ref vb)]))
    refine OGo.via (fun _ k => XS.iloadN X4.here hx rfl (hb hby d9_38) rfl (XS.iload X4.here hx rfl (hb hby d9_39) rfl k)) ?_
    obtain ⟨_, T5, Lc5, X5, hSi5, hQ5, st5⟩ := own_openS X4 (Jvm.RoadKit.callSS X4 hx (y := own_y29) hown (mvT hZ (own_w hw 90 rfl)) (mvT hZ (own_w hw 91 rfl)) (mvT hZ (own_w hw 82 rfl)) (mvT hZ (own_w hw 92 rfl)) (by decide) (own_backOfSH (W := 0) (rm20w l Z a0 hw [] vb (Int32.ofNat cs.length) h0 n0 Z0 hold hhc hcw) hZH (own_w hw 92 rfl) (own_w hw 82 rfl) (by decide) (by decide)) (g := (mkF m 41 #[.val (.ref a1), .val (.int (Int32.ofNat cs.length)), .val (.int (Int32.ofNat cs.length)), .val (.int (Int32.ofNat cs.length)), .val (.int (0 : Int32))] [(.int (0 : Int32)), (.int (Int32.ofNat cs.length)), (.ref vb)])) rfl (by rw [hml]; rfl) (argsL := [(.ref vb), (.int (Int32.ofNat cs.length)), (.int (0 : Int32))]) (rest := []) (lenOf pd_22 rfl) rfl (by show 2 * 0 + _ ≤ _; exact Nat.le_of_eq rfl) (hb hby d9_41) (fun _ _ => ⟨rfl, e4, (by decide : 0 + 2 ≤ _), (by decide : 0 + 4 ≤ _)⟩))
    have hZ5 : Z.Warmed39 (s.setVm T5.vm).vm := State.Warmed39.trans hZ hSi5.1
    have hown5 : (s.setVm T5.vm).vm.findClass "java/lang/String" = some m.cls := by rw [show (s.setVm T5.vm).vm = T5.vm from rfl, hSi5.1.alike.findClass]; exact hown
    obtain ⟨rr, vr, kr, rfl, N5q, r5_0, r5_1, r5_2, r5_3, r5_4⟩ := hQ5
    have N5 := Fr.app N3 N5q
    have K5 : Keep h0 T5.heap [] := (Keep.refl h0 []).trans r5_0 all0
    refine OGo.via (fun _ k => st5.trans k) ?_
    show OGo _ _ _ _ (T5.setTop (mkF m 44 #[.val (.ref a1), .val (.int (Int32.ofNat cs.length)), .val (.int (Int32.ofNat cs.length)), .val (.int (Int32.ofNat cs.length)), .val (.int (0 : Int32))] [(.ref rr)]))
    refine OGo.via (fun _ k => XS.goto X5.here hx rfl (pc0 := 44) (pc' := 57) rfl (hb hby d9_44) (by decide) (by decide) k) ?_
    show OGo _ _ _ _ (T5.setTop (mkF m 57 #[.val (.ref a1), .val (.int (Int32.ofNat cs.length)), .val (.int (Int32.ofNat cs.length)), .val (.int (Int32.ofNat cs.length)), .val (.int (0 : Int32))] [(.ref rr)]))
    refine own_retAW X5 hSi5 (Nat.le_refl T5.heap.size) hx Bd.notSynchronized Bd.returns rfl rfl (hb hby d9_57) (by decide) (by decide) ?_
    show Q_rm9w Z _ _ _ _ _ _ _ _ _ h0 n0 _ T5.heap _
    exact ⟨rr, vr, kr, rfl, N5, K5, r5_1, r5_2, r5_3, r5_4⟩
  · obtain ⟨c, hc1, hc2⟩ := hexi
    exact absurd hc2 (hlat c hc1)
theorem ef_rm90 (m : MethodId) (a1 : Addr) : entryFrame m #[(.ref a1), (.int (0 : Int32)), (.int (0 : Int32))] 5 = mkF m 0 #[.val (.ref a1), .val (.int (0 : Int32)), .val (.int (0 : Int32)), .unset, .unset] [] := by
  first | (simp [entryFrame, mkF, argsToLocals, Value.category]; done) | rfl
def Q_rm90 (Z : State) (a1 : Addr) (w : Int32) (fm : Value) (vb : Addr) (kb : ClassId) (h0 : Heap) (n0 : Nat) (v : Option Value) (h : Heap) (L : List Loc) : Prop := v = some (.ref a1) ∧ Fr n0 L ∧ h = h0
abbrev R_rm90 : Room := ⟨2, 0, 0, 29⟩
set_option maxRecDepth 65536 in
set_option maxHeartbeats 40000000 in
theorem rm90 (l : Launch) (Z : State) (a0 : Array Value) (hw : ∀ d ∈ tables_1, d.before a0 Z = true) (ws : List Jvm.Cond) (a1 : Addr) (w : Int32) (fm : Value) (vb : Addr) (kb : ClassId) (h0 : Heap) (n0 : Nat) (Z0 : n0 ≤ h0.size) (E_a1 : Exa Z h0 a1 "java/lang/String") (F_value_a1 : Fld Z h0 a1 "java/lang/String" "value" "[B" (.ref vb)) (F_coder_a1 : Fld Z h0 a1 "java/lang/String" "coder" "B" (.int (0 : Int32))) (V_vb : Arv Z h0 vb kb .byte (0 : Int32) [] (.int (0 : Int32))) (S_COMPACT_STRINGS : Sta Z h0 "java/lang/String" "COMPACT_STRINGS" "Z" (.int w)) (S_SIOOBE_FORMATTER : Sta Z h0 "jdk/internal/util/Preconditions" "SIOOBE_FORMATTER" "Ljava/util/function/BiFunction;" fm) (S__assertionsDisabled : Sta Z h0 "java/lang/StringUTF16" "$assertionsDisabled" "Z" (.int (1 : Int32))) (S_HI_BYTE_SHIFT : Sta Z h0 "java/lang/StringUTF16" "HI_BYTE_SHIFT" "I" (.int (0 : Int32))) (S_LO_BYTE_SHIFT : Sta Z h0 "java/lang/StringUTF16" "LO_BYTE_SHIFT" "I" (.int (8 : Int32))) (hw0 : ¬ w = (0 : Int32)) (hr_fm : fm.isRef = true) :
    MetFree l own_y32 (head1 (Jvm.Cond.code own_y32 jdk_42_method_92_code 5 (some (.object "java/lang/String")) :: ws) R_rm90) (fun a U => a = #[(.ref a1), (.int (0 : Int32)), (.int (0 : Int32))] ∧ Z.Warmed39 U.vm ∧ U.heap = h0) (fun _ _ _ _ _ => True) (fun _ U o U' => ∃ v L, o = .returned v ∧ Q_rm90 Z a1 w fm vb kb h0 n0 v U'.heap L ∧ FrameEnd U o U' L R_rm90.cells R_rm90.slots) := by
  refine MetFree.of_bodySF (plainFor_of_name pn_String) hisR ?_
  intro p e s m args below meth c s₁ Bd hml0 hP hK
  obtain ⟨rfl, hZ, hh⟩ := hP
  have hx := Bd.exec
  have hby := Bd.bytes
  have hml : c.maxLocals = 5 := hml0
  have hown : s.vm.findClass "java/lang/String" = some m.cls := findClass_of_methodNamed Bd.named
  have hnm := (name_of_methodNamed Bd.named Bd.method).1
  have X0 : Stand p l e R_rm90 s m #[(.ref a1), (.int (0 : Int32)), (.int (0 : Int32))] below meth c s₁ [] 0 0 := Stand.of_body Bd
  have e0 : s₁.heap = h0 := by rw [← hh, Bd.state]; rfl
  have N0 := Fr.nil n0
  show OGo p.tables e below (own_Kq s (fun v h L => Q_rm90 Z a1 w fm vb kb h0 n0 v h L) R_rm90.cells R_rm90.slots) (s₁.setTop (entryFrame m #[(.ref a1), (.int (0 : Int32)), (.int (0 : Int32))] 5))
  refine OGo.cast (ef_rm90 m a1) ?_
  show OGo _ _ _ _ (s₁.setTop (mkF m 0 #[.val (.ref a1), .val (.int (0 : Int32)), .val (.int (0 : Int32)), .unset, .unset] []))
  refine OGo.via (fun _ k => XS.aloadN X0.here hx rfl (hb hby d9_0) rfl rfl k) ?_
  obtain ⟨cq1, kq1, q1a, q1b, q1c⟩ := isOf hZ e0 E_a1
  obtain ⟨_, T1, Lc1, X1, hQ1, st1⟩ := own_open X0 (X0.virtualBack hx (y := own_y21) (z := own_y21) hown (mvT hZ (own_w hw 50 rfl)) (mvT hZ (own_w hw 35 rfl)) (notFace_of_selects (args := #[]) (mvT hZ (own_w hw 37 rfl))) (mvT hZ (own_w hw 37 rfl)) (mvT hZ (own_w hw 36 rfl)) (by decide) (backOf (W := 0) (rm7 l Z a0 hw [] a1 w ([] : List Int32) (0 : Int32) (0 : Int32) [] vb kb h0 n0 Z0 E_a1 F_value_a1 F_coder_a1 V_vb S_COMPACT_STRINGS hw0 (Or.inl ⟨rfl, rfl, rfl, by simp⟩) (by simp)) hZ (own_w hw 38 rfl) (own_w hw 11 rfl) (by decide) (by decide)) q1a q1c (g := (mkF m 1 #[.val (.ref a1), .val (.int (0 : Int32)), .val (.int (0 : Int32)), .unset, .unset] [(.ref a1)])) rfl (by rw [hml]; rfl) (Steps.refl _) (argsL := []) (rest := []) (lenOf pd_20 rfl) rfl (by show 2 * 0 + _ ≤ _; exact Nat.le_of_eq rfl) (hb hby d9_1) (fun _ _ => ⟨rfl, e0, (by decide : 0 + 0 ≤ _), (by decide : 0 + 0 ≤ _)⟩))
  obtain ⟨rfl, N1q, r1_0⟩ := hQ1
  have N1 := Fr.app N0 N1q
  refine OGo.via (fun _ k => st1.trans k) ?_
  show OGo _ _ _ _ (T1.setTop (mkF m 4 #[.val (.ref a1), .val (.int (0 : Int32)), .val (.int (0 : Int32)), .unset, .unset] [(.int (Int32.ofNat ([] : List Int32).length))]))
  rw [show Int32.ofNat ([] : List Int32).length = (0 : Int32) from rfl]
  show OGo _ _ _ _ (T1.setTop (mkF m 4 #[.val (.ref a1), .val (.int (0 : Int32)), .val (.int (0 : Int32)), .unset, .unset] [(.int (0 : Int32))]))
  refine OGo.via (fun _ k => XS.istoreN X1.here hx rfl (hb hby d9_4) rfl (l' := #[.val (.ref a1), .val (.int (0 : Int32)), .val (.int (0 : Int32)), .val (.int (0 : Int32)), .unset]) rfl (XS.iloadN X1.here hx rfl (hb hby d9_5) rfl (XS.iloadN X1.here hx rfl (hb hby d9_6) rfl (XS.iloadN X1.here hx rfl (hb hby d9_7) rfl k)))) ?_
  obtain ⟨_, T2, Lc2, X2, hQ2, st2⟩ := own_open X1 (Jvm.LawKit.callS X1 hx (y := own_y6) hown (mvT hZ (own_w hw 51 rfl)) (mvT hZ (own_w hw 52 rfl)) (mvT hZ (own_w hw 11 rfl)) (mvT hZ (own_w hw 53 rfl)) (by decide) (backOf (W := 0) (rm10 l Z a0 hw [] (0 : Int32) (0 : Int32) (0 : Int32) fm h0 n0 Z0 S_SIOOBE_FORMATTER (by decide) (by decide) (by decide) hr_fm) hZ (own_w hw 53 rfl) (own_w hw 11 rfl) (by decide) (by decide)) (g := (mkF m 8 #[.val (.ref a1), .val (.int (0 : Int32)), .val (.int (0 : Int32)), .val (.int (0 : Int32)), .unset] [(.int (0 : Int32)), (.int (0 : Int32)), (.int (0 : Int32))])) rfl (by rw [hml]; rfl) (argsL := [(.int (0 : Int32)), (.int (0 : Int32)), (.int (0 : Int32))]) (rest := []) (lenOf pd_21 rfl) rfl (by show 2 * 0 + _ ≤ _; exact Nat.le_of_eq rfl) (hb hby d9_8) (fun _ _ => ⟨rfl, r1_0, (by decide : 0 + 0 ≤ _), (by decide : 0 + 0 ≤ _)⟩))
  obtain ⟨rfl, N2q, r2_0⟩ := hQ2
  have N2 := Fr.app N1 N2q
  refine OGo.via st2 ?_
  show OGo _ _ _ _ (T2.setTop (mkF m 11 #[.val (.ref a1), .val (.int (0 : Int32)), .val (.int (0 : Int32)), .val (.int (0 : Int32)), .unset] []))
  refine OGo.via (fun _ k => XS.iloadN X2.here hx rfl (hb hby d9_11) rfl (XS.ifNo X2.here hx rfl (hb hby d9_12) rfl ((if0 _ _).trans (teq (by decide : (0 : Int32) = (0 : Int32))).2) (XS.iloadN X2.here hx rfl (hb hby d9_15) rfl (XS.iloadN X2.here hx rfl (hb hby d9_16) rfl (XS.icmpNo X2.here hx rfl (hb hby d9_17) rfl (teq (by decide : (0 : Int32) = (0 : Int32))).2 (XS.aloadN X2.here hx rfl (hb hby d9_20) rfl rfl k)))))) ?_
  show OGo _ _ _ _ (T2.setTop (mkF m 21 #[.val (.ref a1), .val (.int (0 : Int32)), .val (.int (0 : Int32)), .val (.int (0 : Int32)), .unset] [(.ref a1)]))
  refine own_retA X2 hx Bd.notSynchronized Bd.returns rfl rfl (hb hby d9_21) (by decide) (by decide) ?_
  show Q_rm90 Z _ _ _ _ _ h0 n0 _ T2.heap _
  exact ⟨rfl, N2, r2_0⟩
theorem d6_0 : decode prog_5_method_3_code 0 = .ok (.iconst 0, 1) := by decide +kernel
theorem d6_1 : decode prog_5_method_3_code 1 = .ok (.istore_n 1, 1) := by decide +kernel
theorem d6_2 : decode prog_5_method_3_code 2 = .ok (.aload_n 0, 1) := by decide +kernel
theorem d6_3 : decode prog_5_method_3_code 3 = .ok (.invokevirtual 30, 3) := by decide +kernel
theorem d6_6 : decode prog_5_method_3_code 6 = .ok (.istore_n 2, 1) := by decide +kernel
theorem d6_7 : decode prog_5_method_3_code 7 = .ok (.iload_n 1, 1) := by decide +kernel
theorem d6_8 : decode prog_5_method_3_code 8 = .ok (.iload_n 2, 1) := by decide +kernel
theorem d6_9 : decode prog_5_method_3_code 9 = .ok (.if_icmp .ge 19, 3) := by decide +kernel
theorem d6_28 : decode prog_5_method_3_code 28 = .ok (.iload_n 2, 1) := by decide +kernel
theorem d6_29 : decode prog_5_method_3_code 29 = .ok (.iload_n 1, 1) := by decide +kernel
theorem d6_30 : decode prog_5_method_3_code 30 = .ok (.if_icmp .le 21, 3) := by decide +kernel
theorem d6_51 : decode prog_5_method_3_code 51 = .ok (.aload_n 0, 1) := by decide +kernel
theorem d6_52 : decode prog_5_method_3_code 52 = .ok (.iload_n 1, 1) := by decide +kernel
theorem d6_53 : decode prog_5_method_3_code 53 = .ok (.iload_n 2, 1) := by decide +kernel
theorem d6_54 : decode prog_5_method_3_code 54 = .ok (.invokevirtual 40, 3) := by decide +kernel
theorem pd_23 : parseMethodDescriptor "(II)Ljava/lang/String;" = some ⟨[.int, .int], some (.object "java/lang/String")⟩ := by decide +kernel
theorem d6_57 : decode prog_5_method_3_code 57 = .ok (.areturn, 1) := by decide +kernel
theorem pn_UserPath : plainName "com/example/ianus/ianus/path/UserPath" = true := by first | (simp [plainName, overriddenIn]; done) | decide +kernel
theorem ef_rm60 (m : MethodId) (a1 : Addr) : entryFrame m #[(.ref a1)] 3 = mkF m 0 #[.val (.ref a1), .unset, .unset] [] := by
  first | (simp [entryFrame, mkF, argsToLocals, Value.category]; done) | rfl
def Q_rm60 (Z : State) (a1 : Addr) (w : Int32) (fm : Value) (vb : Addr) (kb : ClassId) (h0 : Heap) (n0 : Nat) (v : Option Value) (h : Heap) (L : List Loc) : Prop := v = some (.ref a1) ∧ Fr n0 L ∧ h = h0
abbrev R_rm60 : Room := ⟨3, 0, 0, 45⟩
set_option maxRecDepth 65536 in
set_option maxHeartbeats 40000000 in
theorem rm60 (l : Launch) (Z : State) (a0 : Array Value) (hw : ∀ d ∈ tables_1, d.before a0 Z = true) (ws : List Jvm.Cond) (a1 : Addr) (w : Int32) (fm : Value) (vb : Addr) (kb : ClassId) (h0 : Heap) (n0 : Nat) (Z0 : n0 ≤ h0.size) (E_a1 : Exa Z h0 a1 "java/lang/String") (F_value_a1 : Fld Z h0 a1 "java/lang/String" "value" "[B" (.ref vb)) (F_coder_a1 : Fld Z h0 a1 "java/lang/String" "coder" "B" (.int (0 : Int32))) (V_vb : Arv Z h0 vb kb .byte (0 : Int32) [] (.int (0 : Int32))) (S_COMPACT_STRINGS : Sta Z h0 "java/lang/String" "COMPACT_STRINGS" "Z" (.int w)) (S_SIOOBE_FORMATTER : Sta Z h0 "jdk/internal/util/Preconditions" "SIOOBE_FORMATTER" "Ljava/util/function/BiFunction;" fm) (S__assertionsDisabled : Sta Z h0 "java/lang/StringUTF16" "$assertionsDisabled" "Z" (.int (1 : Int32))) (S_HI_BYTE_SHIFT : Sta Z h0 "java/lang/StringUTF16" "HI_BYTE_SHIFT" "I" (.int (0 : Int32))) (S_LO_BYTE_SHIFT : Sta Z h0 "java/lang/StringUTF16" "LO_BYTE_SHIFT" "I" (.int (8 : Int32))) (hw0 : ¬ w = (0 : Int32)) (hr_fm : fm.isRef = true) :
    MetFree l own_y33 (head1 (Jvm.Cond.code own_y33 prog_5_method_3_code 3 (some (.object "java/lang/String")) :: ws) R_rm60) (fun a U => a = #[(.ref a1)] ∧ Z.Warmed39 U.vm ∧ U.heap = h0) (fun _ _ _ _ _ => True) (fun _ U o U' => ∃ v L, o = .returned v ∧ Q_rm60 Z a1 w fm vb kb h0 n0 v U'.heap L ∧ FrameEnd U o U' L R_rm60.cells R_rm60.slots) := by
  refine MetFree.of_bodySF (plainFor_of_name pn_UserPath) hisR ?_
  intro p e s m args below meth c s₁ Bd hml0 hP hK
  obtain ⟨rfl, hZ, hh⟩ := hP
  have hx := Bd.exec
  have hby := Bd.bytes
  have hml : c.maxLocals = 3 := hml0
  have hown : s.vm.findClass "com/example/ianus/ianus/path/UserPath" = some m.cls := findClass_of_methodNamed Bd.named
  have hnm := (name_of_methodNamed Bd.named Bd.method).1
  have X0 : Stand p l e R_rm60 s m #[(.ref a1)] below meth c s₁ [] 0 0 := Stand.of_body Bd
  have e0 : s₁.heap = h0 := by rw [← hh, Bd.state]; rfl
  have N0 := Fr.nil n0
  show OGo p.tables e below (own_Kq s (fun v h L => Q_rm60 Z a1 w fm vb kb h0 n0 v h L) R_rm60.cells R_rm60.slots) (s₁.setTop (entryFrame m #[(.ref a1)] 3))
  refine OGo.cast (ef_rm60 m a1) ?_
  show OGo _ _ _ _ (s₁.setTop (mkF m 0 #[.val (.ref a1), .unset, .unset] []))
  refine OGo.via (fun _ k => XS.iconst X0.here hx rfl (hb hby d6_0) (XS.istoreN X0.here hx rfl (hb hby d6_1) rfl (l' := #[.val (.ref a1), .val (.int (0 : Int32)), .unset]) rfl (XS.aloadN X0.here hx rfl (hb hby d6_2) rfl rfl k))) ?_
  obtain ⟨cq1, kq1, q1a, q1b, q1c⟩ := isOf hZ e0 E_a1
  obtain ⟨_, T1, Lc1, X1, hQ1, st1⟩ := own_open X0 (X0.virtualBack hx (y := own_y21) (z := own_y21) hown (mvT hZ (own_w hw 34 rfl)) (mvT hZ (own_w hw 35 rfl)) (notFace_of_selects (args := #[]) (mvT hZ (own_w hw 37 rfl))) (mvT hZ (own_w hw 37 rfl)) (mvT hZ (own_w hw 36 rfl)) (by decide) (backOf (W := 0) (rm7 l Z a0 hw [] a1 w ([] : List Int32) (0 : Int32) (0 : Int32) [] vb kb h0 n0 Z0 E_a1 F_value_a1 F_coder_a1 V_vb S_COMPACT_STRINGS hw0 (Or.inl ⟨rfl, rfl, rfl, by simp⟩) (by simp)) hZ (own_w hw 38 rfl) (own_w hw 11 rfl) (by decide) (by decide)) q1a q1c (g := (mkF m 3 #[.val (.ref a1), .val (.int (0 : Int32)), .unset] [(.ref a1)])) rfl (by rw [hml]; rfl) (Steps.refl _) (argsL := []) (rest := []) (lenOf pd_20 rfl) rfl (by show 2 * 0 + _ ≤ _; exact Nat.le_of_eq rfl) (hb hby d6_3) (fun _ _ => ⟨rfl, e0, (by decide : 0 + 0 ≤ _), (by decide : 0 + 0 ≤ _)⟩))
  obtain ⟨rfl, N1q, r1_0⟩ := hQ1
  have N1 := Fr.app N0 N1q
  refine OGo.via (fun _ k => st1.trans k) ?_
  show OGo _ _ _ _ (T1.setTop (mkF m 6 #[.val (.ref a1), .val (.int (0 : Int32)), .unset] [(.int (Int32.ofNat ([] : List Int32).length))]))
  rw [show Int32.ofNat ([] : List Int32).length = (0 : Int32) from rfl]
  show OGo _ _ _ _ (T1.setTop (mkF m 6 #[.val (.ref a1), .val (.int (0 : Int32)), .unset] [(.int (0 : Int32))]))
  refine OGo.via (fun _ k => XS.istoreN X1.here hx rfl (hb hby d6_6) rfl (l' := #[.val (.ref a1), .val (.int (0 : Int32)), .val (.int (0 : Int32))]) rfl (XS.iloadN X1.here hx rfl (hb hby d6_7) rfl (XS.iloadN X1.here hx rfl (hb hby d6_8) rfl (XS.icmpYes X1.here hx rfl (pc0 := 9) (pc' := 28) rfl (hb hby d6_9) rfl (flt (by decide : ¬ ((0 : Int32) < (0 : Int32)))).2.1 (by decide) (by decide) (XS.iloadN X1.here hx rfl (hb hby d6_28) rfl (XS.iloadN X1.here hx rfl (hb hby d6_29) rfl (XS.icmpYes X1.here hx rfl (pc0 := 30) (pc' := 51) rfl (hb hby d6_30) rfl (flt (by decide : ¬ ((0 : Int32) < (0 : Int32)))).2.2.2 (by decide) (by decide) (XS.aloadN X1.here hx rfl (hb hby d6_51) rfl rfl k)))))))) ?_
  show OGo _ _ _ _ (T1.setTop (mkF m 52 #[.val (.ref a1), .val (.int (0 : Int32)), .val (.int (0 : Int32))] [(.ref a1)]))
  refine OGo.via (fun _ k => XS.iloadN X1.here hx rfl (hb hby d6_52) rfl (XS.iloadN X1.here hx rfl (hb hby d6_53) rfl k)) ?_
  obtain ⟨cq2, kq2, q2a, q2b, q2c⟩ := isOf hZ r1_0 E_a1
  obtain ⟨_, T2, Lc2, X2, hQ2, st2⟩ := own_open X1 (X1.virtualBack hx (y := own_y32) (z := own_y32) hown (mvT hZ (own_w hw 45 rfl)) (mvT hZ (own_w hw 46 rfl)) (notFace_of_selects (args := #[]) (mvT hZ (own_w hw 48 rfl))) (mvT hZ (own_w hw 48 rfl)) (mvT hZ (own_w hw 47 rfl)) (by decide) (backOf (W := 0) (rm90 l Z a0 hw [] a1 w fm vb kb h0 n0 Z0 E_a1 F_value_a1 F_coder_a1 V_vb S_COMPACT_STRINGS S_SIOOBE_FORMATTER S__assertionsDisabled S_HI_BYTE_SHIFT S_LO_BYTE_SHIFT hw0 hr_fm) hZ (own_w hw 49 rfl) (own_w hw 11 rfl) (by decide) (by decide)) q2a q2c (g := (mkF m 54 #[.val (.ref a1), .val (.int (0 : Int32)), .val (.int (0 : Int32))] [(.int (0 : Int32)), (.int (0 : Int32)), (.ref a1)])) rfl (by rw [hml]; rfl) (Steps.refl _) (argsL := [(.int (0 : Int32)), (.int (0 : Int32))]) (rest := []) (lenOf pd_23 rfl) rfl (by show 2 * 0 + _ ≤ _; exact Nat.le_of_eq rfl) (hb hby d6_54) (fun _ _ => ⟨rfl, r1_0, (by decide : 0 + 0 ≤ _), (by decide : 0 + 0 ≤ _)⟩))
  obtain ⟨rfl, N2q, r2_0⟩ := hQ2
  have N2 := Fr.app N1 N2q
  refine OGo.via (fun _ k => st2.trans k) ?_
  show OGo _ _ _ _ (T2.setTop (mkF m 57 #[.val (.ref a1), .val (.int (0 : Int32)), .val (.int (0 : Int32))] [(.ref a1)]))
  show OGo _ _ _ _ (T2.setTop (mkF m 57 #[.val (.ref a1), .val (.int (0 : Int32)), .val (.int (0 : Int32))] [(.ref a1)]))
  refine own_retA X2 hx Bd.notSynchronized Bd.returns rfl rfl (hb hby d6_57) (by decide) (by decide) ?_
  show Q_rm60 Z _ _ _ _ _ h0 n0 _ T2.heap _
  exact ⟨rfl, N2, r2_0⟩
theorem d6_12 : decode prog_5_method_3_code 12 = .ok (.aload_n 0, 1) := by decide +kernel
theorem d6_13 : decode prog_5_method_3_code 13 = .ok (.iload_n 1, 1) := by decide +kernel
theorem d6_14 : decode prog_5_method_3_code 14 = .ok (.invokevirtual 36, 3) := by decide +kernel
theorem pd_24 : parseMethodDescriptor "(I)C" = some ⟨[.int], some .char⟩ := by decide +kernel
theorem d6_17 : decode prog_5_method_3_code 17 = .ok (.bipush 47, 2) := by decide +kernel
theorem d6_19 : decode prog_5_method_3_code 19 = .ok (.if_icmp .ne 9, 3) := by decide +kernel
theorem d6_33 : decode prog_5_method_3_code 33 = .ok (.aload_n 0, 1) := by decide +kernel
theorem d6_34 : decode prog_5_method_3_code 34 = .ok (.iload_n 2, 1) := by decide +kernel
theorem d6_35 : decode prog_5_method_3_code 35 = .ok (.iconst 1, 1) := by decide +kernel
theorem d6_36 : decode prog_5_method_3_code 36 = .ok (.isub, 1) := by decide +kernel
theorem d6_37 : decode prog_5_method_3_code 37 = .ok (.invokevirtual 36, 3) := by decide +kernel
theorem d6_40 : decode prog_5_method_3_code 40 = .ok (.bipush 47, 2) := by decide +kernel
theorem d6_42 : decode prog_5_method_3_code 42 = .ok (.if_icmp .ne 9, 3) := by decide +kernel
theorem d6_45 : decode prog_5_method_3_code 45 = .ok (.iinc 2 (-1), 3) := by decide +kernel
theorem d6_48 : decode prog_5_method_3_code 48 = .ok (.goto (-20), 3) := by decide +kernel
theorem d6_22 : decode prog_5_method_3_code 22 = .ok (.iinc 1 1, 3) := by decide +kernel
theorem d6_25 : decode prog_5_method_3_code 25 = .ok (.goto (-18), 3) := by decide +kernel
theorem ef_rm6 (m : MethodId) (a1 : Addr) : entryFrame m #[(.ref a1)] 3 = mkF m 0 #[.val (.ref a1), .unset, .unset] [] := by
  first | (simp [entryFrame, mkF, argsToLocals, Value.category]; done) | rfl
def Q_rm6 (Z : State) (a1 : Addr) (w : Int32) (fm : Value) (cs : List Int32) (cd : Int32) (zb : Int32) (bs : List Value) (vb : Addr) (kb : ClassId) (pp : Nat) (qq : Nat) (h0 : Heap) (n0 : Nat) (v : Option Value) (h : Heap) (L : List Loc) : Prop := ∃ rr : Addr, ∃ vr : Addr, ∃ kr : ClassId, ∃ cr : Int32, ∃ zr : Int32, ∃ br : List Value, v = some (.ref rr) ∧ Fr n0 L ∧ Keep h0 h [] ∧ Exa Z h rr "java/lang/String" ∧ Fld Z h rr "java/lang/String" "value" "[B" (.ref vr) ∧ Fld Z h rr "java/lang/String" "coder" "B" (.int cr) ∧ Arv Z h vr kr .byte zr br (.int (0 : Int32)) ∧ (own_Rep (own_sub cs pp (qq - pp)) cr zr br)
abbrev R_rm6 : Room := ⟨7, 3, 34, 110⟩
set_option maxRecDepth 65536 in
set_option maxHeartbeats 40000000 in
theorem rm6 (l : Launch) (Z : State) (a0 : Array Value) (hw : ∀ d ∈ tables_1, d.before a0 Z = true) (ws : List Jvm.Cond) (a1 : Addr) (w : Int32) (fm : Value) (cs : List Int32) (cd : Int32) (zb : Int32) (bs : List Value) (vb : Addr) (kb : ClassId) (pp : Nat) (qq : Nat) (h0 : Heap) (n0 : Nat) (Z0 : n0 ≤ h0.size) (E_a1 : Exa Z h0 a1 "java/lang/String") (F_value_a1 : Fld Z h0 a1 "java/lang/String" "value" "[B" (.ref vb)) (F_coder_a1 : Fld Z h0 a1 "java/lang/String" "coder" "B" (.int cd)) (V_vb : Arv Z h0 vb kb .byte zb bs (.int (0 : Int32))) (S_COMPACT_STRINGS : Sta Z h0 "java/lang/String" "COMPACT_STRINGS" "Z" (.int w)) (S_SIOOBE_FORMATTER : Sta Z h0 "jdk/internal/util/Preconditions" "SIOOBE_FORMATTER" "Ljava/util/function/BiFunction;" fm) (S__assertionsDisabled : Sta Z h0 "java/lang/StringUTF16" "$assertionsDisabled" "Z" (.int (1 : Int32))) (S_HI_BYTE_SHIFT : Sta Z h0 "java/lang/StringUTF16" "HI_BYTE_SHIFT" "I" (.int (0 : Int32))) (S_LO_BYTE_SHIFT : Sta Z h0 "java/lang/StringUTF16" "LO_BYTE_SHIFT" "I" (.int (8 : Int32))) (hw0 : ¬ w = (0 : Int32)) (hr_fm : fm.isRef = true) (hrep : own_Rep cs cd zb bs) (hcs : ∀ c ∈ cs, nar .char c = c) (hn10 : cs.length ≤ 10) (hpq : pp < qq) (hqn : qq ≤ cs.length) (ht1 : ∀ i, i < pp → cs.getD i 0 = 47) (ht2 : ∀ i, qq ≤ i → i < cs.length → cs.getD i 0 = 47) (ht3 : ¬ cs.getD pp 0 = 47) (ht4 : ¬ cs.getD (qq - 1) 0 = 47) :
    MetFree l own_y33 (head1 (Jvm.Cond.code own_y33 prog_5_method_3_code 3 (some (.object "java/lang/String")) :: ws) R_rm6) (fun a U => a = #[(.ref a1)] ∧ Z.Warmed39 U.vm ∧ U.heap = h0) (fun _ _ _ _ _ => True) (fun _ U o U' => ∃ v L, o = .returned v ∧ Q_rm6 Z a1 w fm cs cd zb bs vb kb pp qq h0 n0 v U'.heap L ∧ FrameEnd U o U' L R_rm6.cells R_rm6.slots) := by
  refine MetFree.of_bodySF (plainFor_of_name pn_UserPath) hisR ?_
  intro p e s m args below meth c s₁ Bd hml0 hP hK
  obtain ⟨rfl, hZ, hh⟩ := hP
  have hx := Bd.exec
  have hby := Bd.bytes
  have hml : c.maxLocals = 3 := hml0
  have hown : s.vm.findClass "com/example/ianus/ianus/path/UserPath" = some m.cls := findClass_of_methodNamed Bd.named
  have hnm := (name_of_methodNamed Bd.named Bd.method).1
  have X0 : Stand p l e R_rm6 s m #[(.ref a1)] below meth c s₁ [] 0 0 := Stand.of_body Bd
  have e0 : s₁.heap = h0 := by rw [← hh, Bd.state]; rfl
  have N0 := Fr.nil n0
  show OGo p.tables e below (own_Kq s (fun v h L => Q_rm6 Z a1 w fm cs cd zb bs vb kb pp qq h0 n0 v h L) R_rm6.cells R_rm6.slots) (s₁.setTop (entryFrame m #[(.ref a1)] 3))
  refine OGo.cast (ef_rm6 m a1) ?_
  show OGo _ _ _ _ (s₁.setTop (mkF m 0 #[.val (.ref a1), .unset, .unset] []))
  refine OGo.via (fun _ k => XS.iconst X0.here hx rfl (hb hby d6_0) (XS.istoreN X0.here hx rfl (hb hby d6_1) rfl (l' := #[.val (.ref a1), .val (.int (0 : Int32)), .unset]) rfl (XS.aloadN X0.here hx rfl (hb hby d6_2) rfl rfl k))) ?_
  obtain ⟨cq1, kq1, q1a, q1b, q1c⟩ := isOf hZ e0 E_a1
  obtain ⟨_, T1, Lc1, X1, hQ1, st1⟩ := own_open X0 (X0.virtualBack hx (y := own_y21) (z := own_y21) hown (mvT hZ (own_w hw 34 rfl)) (mvT hZ (own_w hw 35 rfl)) (notFace_of_selects (args := #[]) (mvT hZ (own_w hw 37 rfl))) (mvT hZ (own_w hw 37 rfl)) (mvT hZ (own_w hw 36 rfl)) (by decide) (backOf (W := 0) (rm7 l Z a0 hw [] a1 w cs cd zb bs vb kb h0 n0 Z0 E_a1 F_value_a1 F_coder_a1 V_vb S_COMPACT_STRINGS hw0 hrep hn10) hZ (own_w hw 38 rfl) (own_w hw 11 rfl) (by decide) (by decide)) q1a q1c (g := (mkF m 3 #[.val (.ref a1), .val (.int (0 : Int32)), .unset] [(.ref a1)])) rfl (by rw [hml]; rfl) (Steps.refl _) (argsL := []) (rest := []) (lenOf pd_20 rfl) rfl (by show 2 * 0 + _ ≤ _; exact Nat.le_of_eq rfl) (hb hby d6_3) (fun _ _ => ⟨rfl, e0, (by decide : 0 + 0 ≤ _), (by decide : 0 + 0 ≤ _)⟩))
  obtain ⟨rfl, N1q, r1_0⟩ := hQ1
  have N1 := Fr.app N0 N1q
  refine OGo.via (fun _ k => st1.trans k) ?_
  show OGo _ _ _ _ (T1.setTop (mkF m 6 #[.val (.ref a1), .val (.int (0 : Int32)), .unset] [(.int (Int32.ofNat cs.length))]))
  refine OGo.via (fun _ k => XS.istoreN X1.here hx rfl (hb hby d6_6) rfl (l' := #[.val (.ref a1), .val (.int (0 : Int32)), .val (.int (Int32.ofNat cs.length))]) rfl k) ?_
  have lpa : ∀ (da jj : Nat), jj + da = pp → ∀ (Tla : State) (hla : Heap) (locsla : List Loc), Stand p l e R_rm6 s m #[(.ref a1)] below meth c Tla locsla 0 0 → Tla.heap = hla → Fr n0 locsla → Keep h0 hla [] → OGo p.tables e below (own_Kq s (fun v h L => Q_rm6 Z a1 w fm cs cd zb bs vb kb pp qq h0 n0 v h L) R_rm6.cells R_rm6.slots) (Tla.setTop (mkF m 7 #[.val (.ref a1), .val (.int (Int32.ofNat jj)), .val (.int (Int32.ofNat cs.length))] [])) := by
    intro da
    induction da with
    | zero =>
      intro jj hja Tla hla locsla Xla ela Nla Kla 
      have hjp : jj = pp := by omega
      rw [hjp]
      show OGo _ _ _ _ (Tla.setTop (mkF m 7 #[.val (.ref a1), .val (.int (Int32.ofNat pp)), .val (.int (Int32.ofNat cs.length))] []))
      refine OGo.via (fun _ k => XS.iloadN Xla.here hx rfl (hb hby d6_7) rfl (XS.iloadN Xla.here hx rfl (hb hby d6_8) rfl (XS.icmpNo Xla.here hx rfl (hb hby d6_9) rfl (tlt (own_ilt (by omega) (by omega))).2.1 (XS.aloadN Xla.here hx rfl (hb hby d6_12) rfl rfl (XS.iloadN Xla.here hx rfl (hb hby d6_13) rfl k))))) ?_
      have f3 := E_a1.keep Kla
      have f4 := F_value_a1.keep Kla nin0
      have f5 := F_coder_a1.keep Kla nin0
      have f6 := V_vb.keep Kla nin0
      have f7 := own_staKeep0 S_COMPACT_STRINGS Kla
      have f8 := own_staKeep0 S_SIOOBE_FORMATTER Kla
      have f9 := own_staKeep0 S__assertionsDisabled Kla
      have f10 := own_staKeep0 S_HI_BYTE_SHIFT Kla
      have f11 := own_staKeep0 S_LO_BYTE_SHIFT Kla
      obtain ⟨cq2, kq2, q2a, q2b, q2c⟩ := isOf hZ ela f3
      obtain ⟨_, T2, Lc2, X2, hQ2, st2⟩ := own_open Xla (Xla.virtualBack hx (y := own_y22) (z := own_y22) hown (mvT hZ (own_w hw 70 rfl)) (mvT hZ (own_w hw 71 rfl)) (notFace_of_selects (args := #[]) (mvT hZ (own_w hw 73 rfl))) (mvT hZ (own_w hw 73 rfl)) (mvT hZ (own_w hw 72 rfl)) (by decide) (backOf (W := 0) (rm15 l Z a0 hw [] a1 (Int32.ofNat pp) w fm cs cd zb bs vb kb pp hla n0 (Nat.le_trans Z0 Kla.1) f3 f4 f5 f6 f7 f8 f9 f10 f11 hw0 hr_fm hrep hcs hn10 rfl (by omega)) hZ (own_w hw 74 rfl) (own_w hw 11 rfl) (by decide) (by decide)) q2a q2c (g := (mkF m 14 #[.val (.ref a1), .val (.int (Int32.ofNat pp)), .val (.int (Int32.ofNat cs.length))] [(.int (Int32.ofNat pp)), (.ref a1)])) rfl (by rw [hml]; rfl) (Steps.refl _) (argsL := [(.int (Int32.ofNat pp))]) (rest := []) (lenOf pd_24 rfl) rfl (by show 2 * 0 + _ ≤ _; exact Nat.le_of_eq rfl) (hb hby d6_14) (fun _ _ => ⟨rfl, ela, (by decide : 0 + 0 ≤ _), (by decide : 0 + 0 ≤ _)⟩))
      obtain ⟨rfl, N2q, r2_0⟩ := hQ2
      have N2 := Fr.app Nla N2q
      refine OGo.via (fun _ k => st2.trans k) ?_
      show OGo _ _ _ _ (T2.setTop (mkF m 17 #[.val (.ref a1), .val (.int (Int32.ofNat pp)), .val (.int (Int32.ofNat cs.length))] [(.int (cs.getD pp 0))]))
      refine OGo.via (fun _ k => XS.bipush X2.here hx rfl (hb hby d6_17) (XS.icmpYes X2.here hx rfl (pc0 := 19) (pc' := 28) rfl (hb hby d6_19) rfl (feq ht3).2 (by decide) (by decide) k)) ?_
      have lpb : ∀ (db kk : Nat), kk + db = (cs.length - qq) → ∀ (Tlb : State) (hlb : Heap) (locslb : List Loc), Stand p l e R_rm6 s m #[(.ref a1)] below meth c Tlb locslb 0 0 → Tlb.heap = hlb → Fr n0 locslb → Keep h0 hlb [] → OGo p.tables e below (own_Kq s (fun v h L => Q_rm6 Z a1 w fm cs cd zb bs vb kb pp qq h0 n0 v h L) R_rm6.cells R_rm6.slots) (Tlb.setTop (mkF m 28 #[.val (.ref a1), .val (.int (Int32.ofNat pp)), .val (.int (Int32.ofNat (cs.length - kk)))] [])) := by
        intro db
        induction db with
        | zero =>
          intro kk hjb Tlb hlb locslb Xlb elb Nlb Klb 
          have hjp : cs.length - kk = qq := by omega
          rw [hjp]
          show OGo _ _ _ _ (Tlb.setTop (mkF m 28 #[.val (.ref a1), .val (.int (Int32.ofNat pp)), .val (.int (Int32.ofNat qq))] []))
          refine OGo.via (fun _ k => XS.iloadN Xlb.here hx rfl (hb hby d6_28) rfl (XS.iloadN Xlb.here hx rfl (hb hby d6_29) rfl (XS.icmpNo Xlb.here hx rfl (hb hby d6_30) rfl (tlt (own_ilt (by omega) (by omega))).2.2.2 (XS.aloadN Xlb.here hx rfl (hb hby d6_33) rfl rfl (XS.iloadN Xlb.here hx rfl (hb hby d6_34) rfl (XS.iconst Xlb.here hx rfl (hb hby d6_35) (XS.isub Xlb.here hx rfl (hb hby d6_36) rfl k))))))) ?_
          show OGo _ _ _ _ (Tlb.setTop (mkF m 37 #[.val (.ref a1), .val (.int (Int32.ofNat pp)), .val (.int (Int32.ofNat qq))] [(.int ((Int32.ofNat qq) - (1 : Int32))), (.ref a1)]))
          rw [own_pred (show 0 < qq by omega)]
          show OGo _ _ _ _ (Tlb.setTop (mkF m 37 #[.val (.ref a1), .val (.int (Int32.ofNat pp)), .val (.int (Int32.ofNat qq))] [(.int (Int32.ofNat (qq - 1))), (.ref a1)]))
          have f13 := E_a1.keep Klb
          have f14 := F_value_a1.keep Klb nin0
          have f15 := F_coder_a1.keep Klb nin0
          have f16 := V_vb.keep Klb nin0
          have f17 := own_staKeep0 S_COMPACT_STRINGS Klb
          have f18 := own_staKeep0 S_SIOOBE_FORMATTER Klb
          have f19 := own_staKeep0 S__assertionsDisabled Klb
          have f20 := own_staKeep0 S_HI_BYTE_SHIFT Klb
          have f21 := own_staKeep0 S_LO_BYTE_SHIFT Klb
          obtain ⟨cq12, kq12, q12a, q12b, q12c⟩ := isOf hZ elb f13
          obtain ⟨_, T12, Lc12, X12, hQ12, st12⟩ := own_open Xlb (Xlb.virtualBack hx (y := own_y22) (z := own_y22) hown (mvT hZ (own_w hw 70 rfl)) (mvT hZ (own_w hw 71 rfl)) (notFace_of_selects (args := #[]) (mvT hZ (own_w hw 73 rfl))) (mvT hZ (own_w hw 73 rfl)) (mvT hZ (own_w hw 72 rfl)) (by decide) (backOf (W := 0) (rm15 l Z a0 hw [] a1 (Int32.ofNat (qq - 1)) w fm cs cd zb bs vb kb (qq - 1) hlb n0 (Nat.le_trans Z0 Klb.1) f13 f14 f15 f16 f17 f18 f19 f20 f21 hw0 hr_fm hrep hcs hn10 rfl (by omega)) hZ (own_w hw 74 rfl) (own_w hw 11 rfl) (by decide) (by decide)) q12a q12c (g := (mkF m 37 #[.val (.ref a1), .val (.int (Int32.ofNat pp)), .val (.int (Int32.ofNat qq))] [(.int (Int32.ofNat (qq - 1))), (.ref a1)])) rfl (by rw [hml]; rfl) (Steps.refl _) (argsL := [(.int (Int32.ofNat (qq - 1)))]) (rest := []) (lenOf pd_24 rfl) rfl (by show 2 * 0 + _ ≤ _; exact Nat.le_of_eq rfl) (hb hby d6_37) (fun _ _ => ⟨rfl, elb, (by decide : 0 + 0 ≤ _), (by decide : 0 + 0 ≤ _)⟩))
          obtain ⟨rfl, N12q, r12_0⟩ := hQ12
          have N12 := Fr.app Nlb N12q
          refine OGo.via (fun _ k => st12.trans k) ?_
          show OGo _ _ _ _ (T12.setTop (mkF m 40 #[.val (.ref a1), .val (.int (Int32.ofNat pp)), .val (.int (Int32.ofNat qq))] [(.int (cs.getD (qq - 1) 0))]))
          refine OGo.via (fun _ k => XS.bipush X12.here hx rfl (hb hby d6_40) (XS.icmpYes X12.here hx rfl (pc0 := 42) (pc' := 51) rfl (hb hby d6_42) rfl (feq ht4).2 (by decide) (by decide) (XS.aloadN X12.here hx rfl (hb hby d6_51) rfl rfl (XS.iloadN X12.here hx rfl (hb hby d6_52) rfl (XS.iloadN X12.here hx rfl (hb hby d6_53) rfl k))))) ?_
          obtain ⟨cq22, kq22, q22a, q22b, q22c⟩ := isOf hZ r12_0 f13
          obtain ⟨_, T22, Lc22, X22, hQ22, st22⟩ := own_open X12 (X12.virtualBack hx (y := own_y32) (z := own_y32) hown (mvT hZ (own_w hw 45 rfl)) (mvT hZ (own_w hw 46 rfl)) (notFace_of_selects (args := #[]) (mvT hZ (own_w hw 48 rfl))) (mvT hZ (own_w hw 48 rfl)) (mvT hZ (own_w hw 47 rfl)) (by decide) (backOf (W := 0) (rm9 l Z a0 hw [] a1 w fm cs cd zb bs vb kb pp qq hlb n0 (Nat.le_trans Z0 Klb.1) f13 f14 f15 f16 f17 f18 f19 f20 f21 hw0 hr_fm hrep hcs hn10 hpq hqn) hZ (own_w hw 49 rfl) (own_w hw 11 rfl) (by decide) (by decide)) q22a q22c (g := (mkF m 54 #[.val (.ref a1), .val (.int (Int32.ofNat pp)), .val (.int (Int32.ofNat qq))] [(.int (Int32.ofNat qq)), (.int (Int32.ofNat pp)), (.ref a1)])) rfl (by rw [hml]; rfl) (Steps.refl _) (argsL := [(.int (Int32.ofNat pp)), (.int (Int32.ofNat qq))]) (rest := []) (lenOf pd_23 rfl) rfl (by show 2 * 0 + _ ≤ _; exact Nat.le_of_eq rfl) (hb hby d6_54) (fun _ _ => ⟨rfl, r12_0, (by decide : 0 + 3 ≤ _), (by decide : 0 + 34 ≤ _)⟩))
          obtain ⟨rr, vr, kr, cr, zr, br, rfl, N22q, r22_0, r22_1, r22_2, r22_3, r22_4, r22_5⟩ := hQ22
          have N22 := Fr.app N12 N22q
          have K22 : Keep h0 T22.heap [] := Klb.trans r22_0 all0
          refine OGo.via (fun _ k => st22.trans k) ?_
          show OGo _ _ _ _ (T22.setTop (mkF m 57 #[.val (.ref a1), .val (.int (Int32.ofNat pp)), .val (.int (Int32.ofNat qq))] [(.ref rr)]))
          show OGo _ _ _ _ (T22.setTop (mkF m 57 #[.val (.ref a1), .val (.int (Int32.ofNat pp)), .val (.int (Int32.ofNat qq))] [(.ref rr)]))
          refine own_retA X22 hx Bd.notSynchronized Bd.returns rfl rfl (hb hby d6_57) (by decide) (by decide) ?_
          show Q_rm6 Z _ _ _ _ _ _ _ _ _ _ _ h0 n0 _ T22.heap _
          exact ⟨rr, vr, kr, cr, zr, br, rfl, N22, K22, r22_1, r22_2, r22_3, r22_4, r22_5⟩
        | succ db ihb =>
          intro kk hjb Tlb hlb locslb Xlb elb Nlb Klb 
          have hjk : kk < cs.length - qq := by omega
          refine OGo.via (fun _ k => XS.iloadN Xlb.here hx rfl (hb hby d6_28) rfl (XS.iloadN Xlb.here hx rfl (hb hby d6_29) rfl (XS.icmpNo Xlb.here hx rfl (hb hby d6_30) rfl (tlt (own_ilt (by omega) (by omega))).2.2.2 (XS.aloadN Xlb.here hx rfl (hb hby d6_33) rfl rfl (XS.iloadN Xlb.here hx rfl (hb hby d6_34) rfl (XS.iconst Xlb.here hx rfl (hb hby d6_35) (XS.isub Xlb.here hx rfl (hb hby d6_36) rfl k))))))) ?_
          show OGo _ _ _ _ (Tlb.setTop (mkF m 37 #[.val (.ref a1), .val (.int (Int32.ofNat pp)), .val (.int (Int32.ofNat (cs.length - kk)))] [(.int ((Int32.ofNat (cs.length - kk)) - (1 : Int32))), (.ref a1)]))
          rw [own_pred (show 0 < cs.length - kk by omega)]
          show OGo _ _ _ _ (Tlb.setTop (mkF m 37 #[.val (.ref a1), .val (.int (Int32.ofNat pp)), .val (.int (Int32.ofNat (cs.length - kk)))] [(.int (Int32.ofNat (cs.length - kk - 1))), (.ref a1)]))
          have f24 := E_a1.keep Klb
          have f25 := F_value_a1.keep Klb nin0
          have f26 := F_coder_a1.keep Klb nin0
          have f27 := V_vb.keep Klb nin0
          have f28 := own_staKeep0 S_COMPACT_STRINGS Klb
          have f29 := own_staKeep0 S_SIOOBE_FORMATTER Klb
          have f30 := own_staKeep0 S__assertionsDisabled Klb
          have f31 := own_staKeep0 S_HI_BYTE_SHIFT Klb
          have f32 := own_staKeep0 S_LO_BYTE_SHIFT Klb
          obtain ⟨cq23, kq23, q23a, q23b, q23c⟩ := isOf hZ elb f24
          obtain ⟨_, T23, Lc23, X23, hQ23, st23⟩ := own_open Xlb (Xlb.virtualBack hx (y := own_y22) (z := own_y22) hown (mvT hZ (own_w hw 70 rfl)) (mvT hZ (own_w hw 71 rfl)) (notFace_of_selects (args := #[]) (mvT hZ (own_w hw 73 rfl))) (mvT hZ (own_w hw 73 rfl)) (mvT hZ (own_w hw 72 rfl)) (by decide) (backOf (W := 0) (rm15 l Z a0 hw [] a1 (Int32.ofNat (cs.length - kk - 1)) w fm cs cd zb bs vb kb (cs.length - kk - 1) hlb n0 (Nat.le_trans Z0 Klb.1) f24 f25 f26 f27 f28 f29 f30 f31 f32 hw0 hr_fm hrep hcs hn10 rfl (by omega)) hZ (own_w hw 74 rfl) (own_w hw 11 rfl) (by decide) (by decide)) q23a q23c (g := (mkF m 37 #[.val (.ref a1), .val (.int (Int32.ofNat pp)), .val (.int (Int32.ofNat (cs.length - kk)))] [(.int (Int32.ofNat (cs.length - kk - 1))), (.ref a1)])) rfl (by rw [hml]; rfl) (Steps.refl _) (argsL := [(.int (Int32.ofNat (cs.length - kk - 1)))]) (rest := []) (lenOf pd_24 rfl) rfl (by show 2 * 0 + _ ≤ _; exact Nat.le_of_eq rfl) (hb hby d6_37) (fun _ _ => ⟨rfl, elb, (by decide : 0 + 0 ≤ _), (by decide : 0 + 0 ≤ _)⟩))
          obtain ⟨rfl, N23q, r23_0⟩ := hQ23
          have N23 := Fr.app Nlb N23q
          refine OGo.via (fun _ k => st23.trans k) ?_
          show OGo _ _ _ _ (T23.setTop (mkF m 40 #[.val (.ref a1), .val (.int (Int32.ofNat pp)), .val (.int (Int32.ofNat (cs.length - kk)))] [(.int (cs.getD (cs.length - kk - 1) 0))]))
          refine OGo.via (fun _ k => XS.bipush X23.here hx rfl (hb hby d6_40) (XS.icmpNo X23.here hx rfl (hb hby d6_42) rfl (teq (ht2 _ (by omega) (by omega))).2 (XS.iinc X23.here hx rfl (hb hby d6_45) rfl (l' := #[.val (.ref a1), .val (.int (Int32.ofNat pp)), .val (.int ((Int32.ofNat (cs.length - kk)) + (-1 : Int32)))]) rfl (XS.goto X23.here hx rfl (pc0 := 48) (pc' := 28) rfl (hb hby d6_48) (by decide) (by decide) k)))) ?_
          show OGo _ _ _ _ (T23.setTop (mkF m 28 #[.val (.ref a1), .val (.int (Int32.ofNat pp)), .val (.int ((Int32.ofNat (cs.length - kk)) + (-1 : Int32)))] []))
          rw [own_predA (show 0 < cs.length - kk by omega), show cs.length - kk - 1 = cs.length - (kk + 1) from by omega]
          show OGo _ _ _ _ (T23.setTop (mkF m 28 #[.val (.ref a1), .val (.int (Int32.ofNat pp)), .val (.int (Int32.ofNat (cs.length - (kk + 1))))] []))
          exact ihb  (kk + 1) (by omega) _ _ _ X23 r23_0 N23 Klb
      exact lpb (cs.length - qq) 0 (by omega) _ _ _ X2 r2_0 N2 Kla
    | succ da iha =>
      intro jj hja Tla hla locsla Xla ela Nla Kla 
      have hjk : jj < pp := by omega
      refine OGo.via (fun _ k => XS.iloadN Xla.here hx rfl (hb hby d6_7) rfl (XS.iloadN Xla.here hx rfl (hb hby d6_8) rfl (XS.icmpNo Xla.here hx rfl (hb hby d6_9) rfl (tlt (own_ilt (by omega) (by omega))).2.1 (XS.aloadN Xla.here hx rfl (hb hby d6_12) rfl rfl (XS.iloadN Xla.here hx rfl (hb hby d6_13) rfl k))))) ?_
      have f34 := E_a1.keep Kla
      have f35 := F_value_a1.keep Kla nin0
      have f36 := F_coder_a1.keep Kla nin0
      have f37 := V_vb.keep Kla nin0
      have f38 := own_staKeep0 S_COMPACT_STRINGS Kla
      have f39 := own_staKeep0 S_SIOOBE_FORMATTER Kla
      have f40 := own_staKeep0 S__assertionsDisabled Kla
      have f41 := own_staKeep0 S_HI_BYTE_SHIFT Kla
      have f42 := own_staKeep0 S_LO_BYTE_SHIFT Kla
      obtain ⟨cq33, kq33, q33a, q33b, q33c⟩ := isOf hZ ela f34
      obtain ⟨_, T33, Lc33, X33, hQ33, st33⟩ := own_open Xla (Xla.virtualBack hx (y := own_y22) (z := own_y22) hown (mvT hZ (own_w hw 70 rfl)) (mvT hZ (own_w hw 71 rfl)) (notFace_of_selects (args := #[]) (mvT hZ (own_w hw 73 rfl))) (mvT hZ (own_w hw 73 rfl)) (mvT hZ (own_w hw 72 rfl)) (by decide) (backOf (W := 0) (rm15 l Z a0 hw [] a1 (Int32.ofNat jj) w fm cs cd zb bs vb kb jj hla n0 (Nat.le_trans Z0 Kla.1) f34 f35 f36 f37 f38 f39 f40 f41 f42 hw0 hr_fm hrep hcs hn10 rfl (by omega)) hZ (own_w hw 74 rfl) (own_w hw 11 rfl) (by decide) (by decide)) q33a q33c (g := (mkF m 14 #[.val (.ref a1), .val (.int (Int32.ofNat jj)), .val (.int (Int32.ofNat cs.length))] [(.int (Int32.ofNat jj)), (.ref a1)])) rfl (by rw [hml]; rfl) (Steps.refl _) (argsL := [(.int (Int32.ofNat jj))]) (rest := []) (lenOf pd_24 rfl) rfl (by show 2 * 0 + _ ≤ _; exact Nat.le_of_eq rfl) (hb hby d6_14) (fun _ _ => ⟨rfl, ela, (by decide : 0 + 0 ≤ _), (by decide : 0 + 0 ≤ _)⟩))
      obtain ⟨rfl, N33q, r33_0⟩ := hQ33
      have N33 := Fr.app Nla N33q
      refine OGo.via (fun _ k => st33.trans k) ?_
      show OGo _ _ _ _ (T33.setTop (mkF m 17 #[.val (.ref a1), .val (.int (Int32.ofNat jj)), .val (.int (Int32.ofNat cs.length))] [(.int (cs.getD jj 0))]))
      refine OGo.via (fun _ k => XS.bipush X33.here hx rfl (hb hby d6_17) (XS.icmpNo X33.here hx rfl (hb hby d6_19) rfl (teq (ht1 jj (by omega))).2 (XS.iinc X33.here hx rfl (hb hby d6_22) rfl (l' := #[.val (.ref a1), .val (.int ((Int32.ofNat jj) + (1 : Int32))), .val (.int (Int32.ofNat cs.length))]) rfl (XS.goto X33.here hx rfl (pc0 := 25) (pc' := 7) rfl (hb hby d6_25) (by decide) (by decide) k)))) ?_
      show OGo _ _ _ _ (T33.setTop (mkF m 7 #[.val (.ref a1), .val (.int ((Int32.ofNat jj) + (1 : Int32))), .val (.int (Int32.ofNat cs.length))] []))
      rw [own_succ]
      exact iha  (jj + 1) (by omega) _ _ _ X33 r33_0 N33 Kla
  exact lpa pp 0 (by omega) _ _ _ X1 r1_0 N1 (Keep.refl h0 [])
theorem ef_rm6w (m : MethodId) (a1 : Addr) : entryFrame m #[(.ref a1)] 3 = mkF m 0 #[.val (.ref a1), .unset, .unset] [] := by
  first | (simp [entryFrame, mkF, argsToLocals, Value.category]; done) | rfl
def Q_rm6w (Z : State) (a1 : Addr) (w : Int32) (fm : Value) (cs : List Int32) (cd : Int32) (zb : Int32) (bs : List Value) (vb : Addr) (kb : ClassId) (h0 : Heap) (n0 : Nat) (v : Option Value) (h : Heap) (L : List Loc) : Prop := ∃ rr : Addr, ∃ vr : Addr, ∃ kr : ClassId, v = some (.ref rr) ∧ Fr n0 L ∧ Keep h0 h [] ∧ Exa Z h rr "java/lang/String" ∧ Fld Z h rr "java/lang/String" "value" "[B" (.ref vr) ∧ Fld Z h rr "java/lang/String" "coder" "B" (.int (0 : Int32)) ∧ Arv Z h vr kr .byte (0 : Int32) [] (.int (0 : Int32))
abbrev R_rm6w : Room := ⟨5, 2, 4, 66⟩
set_option maxRecDepth 65536 in
set_option maxHeartbeats 40000000 in
theorem rm6w (l : Launch) (Z : State) (a0 : Array Value) (hw : ∀ d ∈ tables_1, d.before a0 Z = true) (ws : List Jvm.Cond) (a1 : Addr) (w : Int32) (fm : Value) (cs : List Int32) (cd : Int32) (zb : Int32) (bs : List Value) (vb : Addr) (kb : ClassId) (h0 : Heap) (n0 : Nat) (Z0 : n0 ≤ h0.size) (E_a1 : Exa Z h0 a1 "java/lang/String") (F_value_a1 : Fld Z h0 a1 "java/lang/String" "value" "[B" (.ref vb)) (F_coder_a1 : Fld Z h0 a1 "java/lang/String" "coder" "B" (.int cd)) (V_vb : Arv Z h0 vb kb .byte zb bs (.int (0 : Int32))) (S_COMPACT_STRINGS : Sta Z h0 "java/lang/String" "COMPACT_STRINGS" "Z" (.int w)) (S_SIOOBE_FORMATTER : Sta Z h0 "jdk/internal/util/Preconditions" "SIOOBE_FORMATTER" "Ljava/util/function/BiFunction;" fm) (S__assertionsDisabled : Sta Z h0 "java/lang/StringUTF16" "$assertionsDisabled" "Z" (.int (1 : Int32))) (S_HI_BYTE_SHIFT : Sta Z h0 "java/lang/StringUTF16" "HI_BYTE_SHIFT" "I" (.int (0 : Int32))) (S_LO_BYTE_SHIFT : Sta Z h0 "java/lang/StringUTF16" "LO_BYTE_SHIFT" "I" (.int (8 : Int32))) (hw0 : ¬ w = (0 : Int32)) (hr_fm : fm.isRef = true) (hrep : own_Rep cs cd zb bs) (hcs : ∀ c ∈ cs, nar .char c = c) (hn10 : cs.length ≤ 10) (hn1 : 0 < cs.length) (h47 : ∀ i, i < cs.length → cs.getD i 0 = 47) (hold : ∀ (b : Addr) (cl : Cell), Z.heap[b]? = some cl → h0[b]? = some cl) (hhc : Jvm.Lit.constHeld Z "java/lang/StringLatin1" 151) (hcw : Jvm.Lit.compactW.before a0 Z = true) :
    MetFree l own_y33 (head1 (Jvm.Cond.code own_y33 prog_5_method_3_code 3 (some (.object "java/lang/String")) :: ws) R_rm6w) (fun a U => a = #[(.ref a1)] ∧ Z.WarmedH U.vm ∧ U.heap = h0) (fun _ _ _ _ _ => True) (fun _ U o U' => ∃ v L, o = .returned v ∧ Q_rm6w Z a1 w fm cs cd zb bs vb kb h0 n0 v U'.heap L ∧ ReturnedEndW U o U' L R_rm6w.cells R_rm6w.slots) := by
  refine MetFree.of_bodySF (plainFor_of_name pn_UserPath) hisR ?_
  intro p e s m args below meth c s₁ Bd hml0 hP hK
  obtain ⟨rfl, hZH, hh⟩ := hP
  have hZ := hZH.wide
  have hx := Bd.exec
  have hby := Bd.bytes
  have hml : c.maxLocals = 3 := hml0
  have hown : s.vm.findClass "com/example/ianus/ianus/path/UserPath" = some m.cls := findClass_of_methodNamed Bd.named
  have hnm := (name_of_methodNamed Bd.named Bd.method).1
  have X0 : Stand p l e R_rm6w s m #[(.ref a1)] below meth c s₁ [] 0 0 := Stand.of_body Bd
  have e0 : s₁.heap = h0 := by rw [← hh, Bd.state]; rfl
  have N0 := Fr.nil n0
  show OGo p.tables e below (own_KqW s (fun v h L => Q_rm6w Z a1 w fm cs cd zb bs vb kb h0 n0 v h L) R_rm6w.cells R_rm6w.slots) (s₁.setTop (entryFrame m #[(.ref a1)] 3))
  refine OGo.cast (ef_rm6w m a1) ?_
  show OGo _ _ _ _ (s₁.setTop (mkF m 0 #[.val (.ref a1), .unset, .unset] []))
  refine OGo.via (fun _ k => XS.iconst X0.here hx rfl (hb hby d6_0) (XS.istoreN X0.here hx rfl (hb hby d6_1) rfl (l' := #[.val (.ref a1), .val (.int (0 : Int32)), .unset]) rfl (XS.aloadN X0.here hx rfl (hb hby d6_2) rfl rfl k))) ?_
  obtain ⟨cq1, kq1, q1a, q1b, q1c⟩ := isOf hZ e0 E_a1
  obtain ⟨_, T1, Lc1, X1, hQ1, st1⟩ := own_open X0 (X0.virtualBack hx (y := own_y21) (z := own_y21) hown (mvT hZ (own_w hw 34 rfl)) (mvT hZ (own_w hw 35 rfl)) (notFace_of_selects (args := #[]) (mvT hZ (own_w hw 37 rfl))) (mvT hZ (own_w hw 37 rfl)) (mvT hZ (own_w hw 36 rfl)) (by decide) (backOf (W := 0) (rm7 l Z a0 hw [] a1 w cs cd zb bs vb kb h0 n0 Z0 E_a1 F_value_a1 F_coder_a1 V_vb S_COMPACT_STRINGS hw0 hrep hn10) hZ (own_w hw 38 rfl) (own_w hw 11 rfl) (by decide) (by decide)) q1a q1c (g := (mkF m 3 #[.val (.ref a1), .val (.int (0 : Int32)), .unset] [(.ref a1)])) rfl (by rw [hml]; rfl) (Steps.refl _) (argsL := []) (rest := []) (lenOf pd_20 rfl) rfl (by show 2 * 0 + _ ≤ _; exact Nat.le_of_eq rfl) (hb hby d6_3) (fun _ _ => ⟨rfl, e0, (by decide : 0 + 0 ≤ _), (by decide : 0 + 0 ≤ _)⟩))
  obtain ⟨rfl, N1q, r1_0⟩ := hQ1
  have N1 := Fr.app N0 N1q
  refine OGo.via (fun _ k => st1.trans k) ?_
  show OGo _ _ _ _ (T1.setTop (mkF m 6 #[.val (.ref a1), .val (.int (0 : Int32)), .unset] [(.int (Int32.ofNat cs.length))]))
  refine OGo.via (fun _ k => XS.istoreN X1.here hx rfl (hb hby d6_6) rfl (l' := #[.val (.ref a1), .val (.int (0 : Int32)), .val (.int (Int32.ofNat cs.length))]) rfl k) ?_
  have lpa : ∀ (da jj : Nat), jj + da = cs.length → ∀ (Tla : State) (hla : Heap) (locsla : List Loc), Stand p l e R_rm6w s m #[(.ref a1)] below meth c Tla locsla 0 0 → Tla.heap = hla → Fr n0 locsla → Keep h0 hla [] → OGo p.tables e below (own_KqW s (fun v h L => Q_rm6w Z a1 w fm cs cd zb bs vb kb h0 n0 v h L) R_rm6w.cells R_rm6w.slots) (Tla.setTop (mkF m 7 #[.val (.ref a1), .val (.int (Int32.ofNat jj)), .val (.int (Int32.ofNat cs.length))] [])) := by
    intro da
    induction da with
    | zero =>
      intro jj hja Tla hla locsla Xla ela Nla Kla 
      have hjp : jj = cs.length := by omega
      rw [hjp]
      show OGo _ _ _ _ (Tla.setTop (mkF m 7 #[.val (.ref a1), .val (.int (Int32.ofNat cs.length)), .val (.int (Int32.ofNat cs.length))] []))
      refine OGo.via (fun _ k => XS.iloadN Xla.here hx rfl (hb hby d6_7) rfl (XS.iloadN Xla.here hx rfl (hb hby d6_8) rfl (XS.icmpYes Xla.here hx rfl (pc0 := 9) (pc' := 28) rfl (hb hby d6_9) rfl (flt (own_irr _)).2.1 (by decide) (by decide) (XS.iloadN Xla.here hx rfl (hb hby d6_28) rfl (XS.iloadN Xla.here hx rfl (hb hby d6_29) rfl (XS.icmpYes Xla.here hx rfl (pc0 := 30) (pc' := 51) rfl (hb hby d6_30) rfl (flt (own_irr _)).2.2.2 (by decide) (by decide) (XS.aloadN Xla.here hx rfl (hb hby d6_51) rfl rfl (XS.iloadN Xla.here hx rfl (hb hby d6_52) rfl k)))))))) ?_
      show OGo _ _ _ _ (Tla.setTop (mkF m 53 #[.val (.ref a1), .val (.int (Int32.ofNat cs.length)), .val (.int (Int32.ofNat cs.length))] [(.int (Int32.ofNat cs.length)), (.ref a1)]))
      refine OGo.via (fun _ k => XS.iloadN Xla.here hx rfl (hb hby d6_53) rfl k) ?_
      have f3 := E_a1.keep Kla
      have f4 := F_value_a1.keep Kla nin0
      have f5 := F_coder_a1.keep Kla nin0
      have f6 := V_vb.keep Kla nin0
      have f7 := own_staKeep0 S_COMPACT_STRINGS Kla
      have f8 := own_staKeep0 S_SIOOBE_FORMATTER Kla
      have f9 := own_staKeep0 S__assertionsDisabled Kla
      have f10 := own_staKeep0 S_HI_BYTE_SHIFT Kla
      have f11 := own_staKeep0 S_LO_BYTE_SHIFT Kla
      obtain ⟨cq2, kq2, q2a, q2b, q2c⟩ := isOf hZ ela f3
      obtain ⟨_, T2, Lc2, X2, hSi2, hQ2, st2⟩ := own_openS Xla (Xla.virtualBackS hx (y := own_y32) (z := own_y32) hown (mvT hZ (own_w hw 45 rfl)) (mvT hZ (own_w hw 46 rfl)) (notFace_of_selects (args := #[]) (mvT hZ (own_w hw 48 rfl))) (mvT hZ (own_w hw 48 rfl)) (mvT hZ (own_w hw 47 rfl)) (by decide) (own_backOfSH (W := 0) (rm9w l Z a0 hw [] a1 w fm cs cd zb bs vb kb hla n0 (Nat.le_trans Z0 Kla.1) f3 f4 f5 f6 f7 f8 f9 f10 f11 hw0 hr_fm hrep hcs hn10 hn1 (own_lat47 h47) (fun b cl q => Kla.2.1 b cl (hold b cl q) nin0) hhc hcw) hZH (own_w hw 49 rfl) (own_w hw 11 rfl) (by decide) (by decide)) q2a q2c (g := (mkF m 54 #[.val (.ref a1), .val (.int (Int32.ofNat cs.length)), .val (.int (Int32.ofNat cs.length))] [(.int (Int32.ofNat cs.length)), (.int (Int32.ofNat cs.length)), (.ref a1)])) rfl (by rw [hml]; rfl) (Steps.refl _) (argsL := [(.int (Int32.ofNat cs.length)), (.int (Int32.ofNat cs.length))]) (rest := []) (lenOf pd_23 rfl) rfl (by show 2 * 0 + _ ≤ _; exact Nat.le_of_eq rfl) (hb hby d6_54) (fun _ _ => ⟨rfl, ela, (by decide : 0 + 2 ≤ _), (by decide : 0 + 4 ≤ _)⟩))
      have hZ2 : Z.Warmed39 (s.setVm T2.vm).vm := State.Warmed39.trans hZ hSi2.1
      have hown2 : (s.setVm T2.vm).vm.findClass "com/example/ianus/ianus/path/UserPath" = some m.cls := by rw [show (s.setVm T2.vm).vm = T2.vm from rfl, hSi2.1.alike.findClass]; exact hown
      obtain ⟨rr, vr, kr, rfl, N2q, r2_0, r2_1, r2_2, r2_3, r2_4⟩ := hQ2
      have N2 := Fr.app Nla N2q
      have K2 : Keep h0 T2.heap [] := Kla.trans r2_0 all0
      refine OGo.via (fun _ k => st2.trans k) ?_
      show OGo _ _ _ _ (T2.setTop (mkF m 57 #[.val (.ref a1), .val (.int (Int32.ofNat cs.length)), .val (.int (Int32.ofNat cs.length))] [(.ref rr)]))
      show OGo _ _ _ _ (T2.setTop (mkF m 57 #[.val (.ref a1), .val (.int (Int32.ofNat cs.length)), .val (.int (Int32.ofNat cs.length))] [(.ref rr)]))
      refine own_retAW X2 hSi2 (Nat.le_refl T2.heap.size) hx Bd.notSynchronized Bd.returns rfl rfl (hb hby d6_57) (by decide) (by decide) ?_
      show Q_rm6w Z _ _ _ _ _ _ _ _ _ h0 n0 _ T2.heap _
      exact ⟨rr, vr, kr, rfl, N2, K2, r2_1, r2_2, r2_3, r2_4⟩
    | succ da iha =>
      intro jj hja Tla hla locsla Xla ela Nla Kla 
      have hjk : jj < cs.length := by omega
      refine OGo.via (fun _ k => XS.iloadN Xla.here hx rfl (hb hby d6_7) rfl (XS.iloadN Xla.here hx rfl (hb hby d6_8) rfl (XS.icmpNo Xla.here hx rfl (hb hby d6_9) rfl (tlt (own_ilt hjk (by omega))).2.1 (XS.aloadN Xla.here hx rfl (hb hby d6_12) rfl rfl (XS.iloadN Xla.here hx rfl (hb hby d6_13) rfl k))))) ?_
      have f13 := E_a1.keep Kla
      have f14 := F_value_a1.keep Kla nin0
      have f15 := F_coder_a1.keep Kla nin0
      have f16 := V_vb.keep Kla nin0
      have f17 := own_staKeep0 S_COMPACT_STRINGS Kla
      have f18 := own_staKeep0 S_SIOOBE_FORMATTER Kla
      have f19 := own_staKeep0 S__assertionsDisabled Kla
      have f20 := own_staKeep0 S_HI_BYTE_SHIFT Kla
      have f21 := own_staKeep0 S_LO_BYTE_SHIFT Kla
      obtain ⟨cq12, kq12, q12a, q12b, q12c⟩ := isOf hZ ela f13
      obtain ⟨_, T12, Lc12, X12, hQ12, st12⟩ := own_open Xla (Xla.virtualBack hx (y := own_y22) (z := own_y22) hown (mvT hZ (own_w hw 70 rfl)) (mvT hZ (own_w hw 71 rfl)) (notFace_of_selects (args := #[]) (mvT hZ (own_w hw 73 rfl))) (mvT hZ (own_w hw 73 rfl)) (mvT hZ (own_w hw 72 rfl)) (by decide) (backOf (W := 0) (rm15 l Z a0 hw [] a1 (Int32.ofNat jj) w fm cs cd zb bs vb kb jj hla n0 (Nat.le_trans Z0 Kla.1) f13 f14 f15 f16 f17 f18 f19 f20 f21 hw0 hr_fm hrep hcs hn10 rfl hjk) hZ (own_w hw 74 rfl) (own_w hw 11 rfl) (by decide) (by decide)) q12a q12c (g := (mkF m 14 #[.val (.ref a1), .val (.int (Int32.ofNat jj)), .val (.int (Int32.ofNat cs.length))] [(.int (Int32.ofNat jj)), (.ref a1)])) rfl (by rw [hml]; rfl) (Steps.refl _) (argsL := [(.int (Int32.ofNat jj))]) (rest := []) (lenOf pd_24 rfl) rfl (by show 2 * 0 + _ ≤ _; exact Nat.le_of_eq rfl) (hb hby d6_14) (fun _ _ => ⟨rfl, ela, (by decide : 0 + 0 ≤ _), (by decide : 0 + 0 ≤ _)⟩))
      obtain ⟨rfl, N12q, r12_0⟩ := hQ12
      have N12 := Fr.app Nla N12q
      refine OGo.via (fun _ k => st12.trans k) ?_
      show OGo _ _ _ _ (T12.setTop (mkF m 17 #[.val (.ref a1), .val (.int (Int32.ofNat jj)), .val (.int (Int32.ofNat cs.length))] [(.int (cs.getD jj 0))]))
      refine OGo.via (fun _ k => XS.bipush X12.here hx rfl (hb hby d6_17) (XS.icmpNo X12.here hx rfl (hb hby d6_19) rfl (teq (h47 jj hjk)).2 (XS.iinc X12.here hx rfl (hb hby d6_22) rfl (l' := #[.val (.ref a1), .val (.int ((Int32.ofNat jj) + (1 : Int32))), .val (.int (Int32.ofNat cs.length))]) rfl (XS.goto X12.here hx rfl (pc0 := 25) (pc' := 7) rfl (hb hby d6_25) (by decide) (by decide) k)))) ?_
      show OGo _ _ _ _ (T12.setTop (mkF m 7 #[.val (.ref a1), .val (.int ((Int32.ofNat jj) + (1 : Int32))), .val (.int (Int32.ofNat cs.length))] []))
      rw [own_succ]
      exact iha  (jj + 1) (by omega) _ _ _ X12 r12_0 N12 Kla
  exact lpa cs.length 0 (by omega) _ _ _ X1 r1_0 N1 (Keep.refl h0 [])
theorem d4_0 : decode jdk_42_method_149_code 0 = .ok (.aload_n 0, 1) := by decide +kernel
theorem d4_1 : decode jdk_42_method_149_code 1 = .ok (.invokespecial 1, 3) := by decide +kernel
theorem d4_4 : decode jdk_42_method_149_code 4 = .ok (.iload_n 3, 1) := by decide +kernel
theorem d4_5 : decode jdk_42_method_149_code 5 = .ok (.ifCond .ne 22, 3) := by decide +kernel
theorem d4_27 : decode jdk_42_method_149_code 27 = .ok (.getstatic 38, 3) := by decide +kernel
theorem d4_30 : decode jdk_42_method_149_code 30 = .ok (.ifCond .eq 28, 3) := by decide +kernel
theorem d4_33 : decode jdk_42_method_149_code 33 = .ok (.aload_n 1, 1) := by decide +kernel
theorem d4_34 : decode jdk_42_method_149_code 34 = .ok (.iload_n 2, 1) := by decide +kernel
theorem d4_35 : decode jdk_42_method_149_code 35 = .ok (.iload_n 3, 1) := by decide +kernel
theorem d4_36 : decode jdk_42_method_149_code 36 = .ok (.invokestatic 177, 3) := by decide +kernel
theorem d4_39 : decode jdk_42_method_149_code 39 = .ok (.astore 5, 2) := by decide +kernel
theorem d4_41 : decode jdk_42_method_149_code 41 = .ok (.aload_n 0, 1) := by decide +kernel
theorem d4_42 : decode jdk_42_method_149_code 42 = .ok (.aload 5, 2) := by decide +kernel
theorem d4_44 : decode jdk_42_method_149_code 44 = .ok (.iload_n 3, 1) := by decide +kernel
theorem d4_45 : decode jdk_42_method_149_code 45 = .ok (.invokestatic 47, 3) := by decide +kernel
theorem d4_48 : decode jdk_42_method_149_code 48 = .ok (.putfield 15, 3) := by decide +kernel
theorem d4_51 : decode jdk_42_method_149_code 51 = .ok (.aload_n 0, 1) := by decide +kernel
theorem d4_52 : decode jdk_42_method_149_code 52 = .ok (.aload 5, 2) := by decide +kernel
theorem d4_54 : decode jdk_42_method_149_code 54 = .ok (.putfield 9, 3) := by decide +kernel
theorem d4_57 : decode jdk_42_method_149_code 57 = .ok (.return_, 1) := by decide +kernel
theorem ef_rm4 (m : MethodId) (a1 : Addr) (a2 : Addr) (p4 : Int32) : entryFrame m #[(.ref a1), (.ref a2), (.int (0 : Int32)), (.int p4), .null] 6 = mkF m 0 #[.val (.ref a1), .val (.ref a2), .val (.int (0 : Int32)), .val (.int p4), .val .null, .unset] [] := by
  first | (simp [entryFrame, mkF, argsToLocals, Value.category]; done) | rfl
def Q_rm4 (Z : State) (a1 : Addr) (a2 : Addr) (p4 : Int32) (k2 : ClassId) (cs : List Int32) (w : Int32) (fm : Value) (h0 : Heap) (n0 : Nat) (v : Option Value) (h : Heap) (L : List Loc) : Prop := ∃ vb : Addr, ∃ kb : ClassId, ∃ cd : Int32, ∃ zb : Int32, ∃ bs : List Value, v = none ∧ Fr n0 L ∧ Keep h0 h [a1] ∧ h0.size ≤ vb ∧ Exa Z h a1 "java/lang/String" ∧ Fld Z h a1 "java/lang/String" "value" "[B" (.ref vb) ∧ Fld Z h a1 "java/lang/String" "coder" "B" (.int cd) ∧ Arv Z h vb kb .byte zb bs (.int (0 : Int32)) ∧ (own_Rep cs cd zb bs)
abbrev R_rm4 : Room := ⟨4, 2, 30, 57⟩
set_option maxRecDepth 65536 in
set_option maxHeartbeats 40000000 in
theorem rm4 (l : Launch) (Z : State) (a0 : Array Value) (hw : ∀ d ∈ tables_1, d.before a0 Z = true) (ws : List Jvm.Cond) (a1 : Addr) (a2 : Addr) (p4 : Int32) (k2 : ClassId) (cs : List Int32) (w : Int32) (fm : Value) (h0 : Heap) (n0 : Nat) (Z0 : n0 ≤ h0.size) (E_a1 : Exa Z h0 a1 "java/lang/String") (F_value_a1 : Fld Z h0 a1 "java/lang/String" "value" "[B" .null) (F_coder_a1 : Fld Z h0 a1 "java/lang/String" "coder" "B" (.int (0 : Int32))) (V_a2 : Arv Z h0 a2 k2 .char p4 (List.map Value.int cs) (.int (0 : Int32))) (g_a1 : n0 ≤ a1) (S_COMPACT_STRINGS : Sta Z h0 "java/lang/String" "COMPACT_STRINGS" "Z" (.int w)) (S_SIOOBE_FORMATTER : Sta Z h0 "jdk/internal/util/Preconditions" "SIOOBE_FORMATTER" "Ljava/util/function/BiFunction;" fm) (S__assertionsDisabled : Sta Z h0 "java/lang/StringUTF16" "$assertionsDisabled" "Z" (.int (1 : Int32))) (S_HI_BYTE_SHIFT : Sta Z h0 "java/lang/StringUTF16" "HI_BYTE_SHIFT" "I" (.int (0 : Int32))) (S_LO_BYTE_SHIFT : Sta Z h0 "java/lang/StringUTF16" "LO_BYTE_SHIFT" "I" (.int (8 : Int32))) (hw0 : ¬ w = (0 : Int32)) (hz4 : p4 = Int32.ofNat cs.length) (hn10 : cs.length ≤ 10) (hn1 : 0 < cs.length) (hcs : ∀ c ∈ cs, nar .char c = c) :
    MetFree l own_y34 (head1 (Jvm.Cond.code own_y34 jdk_42_method_149_code 6 none :: ws) R_rm4) (fun a U => a = #[(.ref a1), (.ref a2), (.int (0 : Int32)), (.int p4), .null] ∧ Z.Warmed39 U.vm ∧ U.heap = h0) (fun _ _ _ _ _ => True) (fun _ U o U' => ∃ v L, o = .returned v ∧ Q_rm4 Z a1 a2 p4 k2 cs w fm h0 n0 v U'.heap L ∧ FrameEnd U o U' L R_rm4.cells R_rm4.slots) := by
  refine MetFree.of_bodySF (plainFor_of_name pn_String) hisR ?_
  intro p e s m args below meth c s₁ Bd hml0 hP hK
  obtain ⟨rfl, hZ, hh⟩ := hP
  have hx := Bd.exec
  have hby := Bd.bytes
  have hml : c.maxLocals = 6 := hml0
  have hown : s.vm.findClass "java/lang/String" = some m.cls := findClass_of_methodNamed Bd.named
  have hnm := (name_of_methodNamed Bd.named Bd.method).1
  have X0 : Stand p l e R_rm4 s m #[(.ref a1), (.ref a2), (.int (0 : Int32)), (.int p4), .null] below meth c s₁ [] 0 0 := Stand.of_body Bd
  have e0 : s₁.heap = h0 := by rw [← hh, Bd.state]; rfl
  have N0 := Fr.nil n0
  show OGo p.tables e below (own_Kq s (fun v h L => Q_rm4 Z a1 a2 p4 k2 cs w fm h0 n0 v h L) R_rm4.cells R_rm4.slots) (s₁.setTop (entryFrame m #[(.ref a1), (.ref a2), (.int (0 : Int32)), (.int p4), .null] 6))
  refine OGo.cast (ef_rm4 m a1 a2 p4) ?_
  show OGo _ _ _ _ (s₁.setTop (mkF m 0 #[.val (.ref a1), .val (.ref a2), .val (.int (0 : Int32)), .val (.int p4), .val .null, .unset] []))
  refine OGo.via (fun _ k => XS.aloadN X0.here hx rfl (hb hby d4_0) rfl rfl k) ?_
  obtain ⟨T1, X1, e1, st1⟩ := initO X0 hx hZ hown (own_w hw 19 rfl) (own_w hw 20 rfl) (own_w hw 21 rfl) e0 (g := (mkF m 1 #[.val (.ref a1), .val (.ref a2), .val (.int (0 : Int32)), .val (.int p4), .val .null, .unset] [(.ref a1)])) rfl (by rw [hml]; rfl) rfl (hb hby d4_1) (by decide) (W := 0) (by show 2 * 0 + _ ≤ _; exact Nat.le_of_eq rfl) (by decide)
  refine OGo.via st1 ?_
  show OGo _ _ _ _ (T1.setTop (mkF m 4 #[.val (.ref a1), .val (.ref a2), .val (.int (0 : Int32)), .val (.int p4), .val .null, .unset] []))
  refine OGo.via (fun _ k => XS.iloadN X1.here hx rfl (hb hby d4_4) rfl (XS.ifYes X1.here hx rfl (pc0 := 5) (pc' := 27) rfl (hb hby d4_5) rfl ((if0 _ _).trans (feq (by rw [hz4]; exact own_ne0 (by omega) hn1)).2) (by decide) (by decide) k)) ?_
  obtain ⟨T2, X2, e2, st2⟩ := getS2 X1 hx hZ hown (host := "") (Or.inl (own_w hw 44 rfl)) Via.refl e1 S_COMPACT_STRINGS (g := (mkF m 27 #[.val (.ref a1), .val (.ref a2), .val (.int (0 : Int32)), .val (.int p4), .val .null, .unset] [])) rfl (hb hby d4_27)
  refine OGo.via st2 ?_
  show OGo _ _ _ _ (T2.setTop (mkF m 30 #[.val (.ref a1), .val (.ref a2), .val (.int (0 : Int32)), .val (.int p4), .val .null, .unset] [(.int w)]))
  refine OGo.via (fun _ k => XS.ifNo X2.here hx rfl (hb hby d4_30) rfl ((if0 _ _).trans (feq hw0).1) (XS.aloadN X2.here hx rfl (hb hby d4_33) rfl rfl (XS.iloadN X2.here hx rfl (hb hby d4_34) rfl (XS.iloadN X2.here hx rfl (hb hby d4_35) rfl k)))) ?_
  obtain ⟨_, T3, Lc3, X3, hQ3, st3⟩ := own_open X2 (Jvm.LawKit.callS X2 hx (y := own_y23) hown (mvT hZ (own_w hw 60 rfl)) (mvT hZ (own_w hw 61 rfl)) (mvT hZ (own_w hw 62 rfl)) (mvT hZ (own_w hw 63 rfl)) (by decide) (backOf (W := 0) (rm12 l Z a0 hw [] a2 p4 k2 cs w fm h0 n0 Z0 S_COMPACT_STRINGS S_SIOOBE_FORMATTER S__assertionsDisabled S_HI_BYTE_SHIFT S_LO_BYTE_SHIFT V_a2 hz4 hn10 hcs) hZ (own_w hw 63 rfl) (own_w hw 62 rfl) (by decide) (by decide)) (g := (mkF m 36 #[.val (.ref a1), .val (.ref a2), .val (.int (0 : Int32)), .val (.int p4), .val .null, .unset] [(.int p4), (.int (0 : Int32)), (.ref a2)])) rfl (by rw [hml]; rfl) (argsL := [(.ref a2), (.int (0 : Int32)), (.int p4)]) (rest := []) (lenOf pd_13 rfl) rfl (by show 2 * 0 + _ ≤ _; exact Nat.le_of_eq rfl) (hb hby d4_36) (fun _ _ => ⟨rfl, e2, (by decide : 0 + 2 ≤ _), (by decide : 0 + 30 ≤ _)⟩))
  obtain ⟨vb, kb, cd, zb, bs, rfl, N3q, r3_0, r3_1, r3_2, r3_3⟩ := hQ3
  have N3 := Fr.app N0 N3q
  have K3 : Keep h0 T3.heap [a1] := (Keep.refl h0 [a1]).trans r3_0 all0
  have lt_a1_vb : a1 < vb := Nat.lt_of_lt_of_le E_a1.lt r3_1
  have lt_a2_vb : a2 < vb := Nat.lt_of_lt_of_le V_a2.lt r3_1
  have sz_vb : h0.size ≤ vb := Nat.le_trans (Keep.refl h0 [a1]).1 r3_1
  have g_vb : n0 ≤ vb := Nat.le_trans Z0 sz_vb
  refine OGo.via st3 ?_
  show OGo _ _ _ _ (T3.setTop (mkF m 39 #[.val (.ref a1), .val (.ref a2), .val (.int (0 : Int32)), .val (.int p4), .val .null, .unset] [(.ref vb)]))
  rcases r3_3 with ⟨rfl, rfl, rfl, hall⟩ | ⟨rfl, rfl, rfl, hexi⟩
  · refine OGo.via (fun _ k => XS.astore X3.here hx rfl (hb hby d4_39) rfl rfl (l' := #[.val (.ref a1), .val (.ref a2), .val (.int (0 : Int32)), .val (.int p4), .val .null, .val (.ref vb)]) rfl (XS.aloadN X3.here hx rfl (hb hby d4_41) rfl rfl (XS.aload X3.here hx rfl (hb hby d4_42) rfl rfl (XS.iloadN X3.here hx rfl (hb hby d4_44) rfl k)))) ?_
    obtain ⟨_, T4, Lc4, X4, hQ4, st4⟩ := own_open X3 (Jvm.LawKit.callS X3 hx (y := own_y4) hown (mvT hZ (own_w hw 67 rfl)) (mvT hZ (own_w hw 68 rfl)) (mvT hZ (own_w hw 62 rfl)) (mvT hZ (own_w hw 69 rfl)) (by decide) (backOf (W := 1) (rm14 l Z a0 hw [] vb p4 kb (List.map Value.int (List.map own_by cs)) (Int32.ofNat cs.length) (0 : Int32) T3.heap n0 (Nat.le_trans Z0 K3.1) r3_2 (by rw [hz4]; exact own_cl0 hn10)) hZ (own_w hw 69 rfl) (own_w hw 62 rfl) (by decide) (by decide)) (g := (mkF m 45 #[.val (.ref a1), .val (.ref a2), .val (.int (0 : Int32)), .val (.int p4), .val .null, .val (.ref vb)] [(.int p4), (.ref vb), (.ref a1)])) rfl (by rw [hml]; rfl) (argsL := [(.ref vb), (.int p4)]) (rest := [(.ref a1)]) (lenOf pd_19 rfl) rfl (by show 2 * 0 + _ ≤ _; exact Nat.le_of_eq rfl) (hb hby d4_45) (fun _ _ => ⟨rfl, rfl, (by decide : 2 + 0 ≤ _), (by decide : 30 + 0 ≤ _)⟩))
    obtain ⟨rfl, N4q, r4_0⟩ := hQ4
    have N4 := Fr.app N3 N4q
    refine OGo.via st4 ?_
    show OGo _ _ _ _ (T4.setTop (mkF m 48 #[.val (.ref a1), .val (.ref a2), .val (.int (0 : Int32)), .val (.int p4), .val .null, .val (.ref vb)] [(.int (0 : Int32)), (.ref a1)]))
    have f6 := F_coder_a1.keep r3_0 nin0
    have f7 := E_a1.keep r3_0
    obtain ⟨T5, h5, X5, e5, W5, st5⟩ := putFN X4 hx hZ hown (own_w hw 29 rfl) Via.refl r4_0 f6 f7 (Or.inr ⟨(own_w hw 25 rfl), rfl, hnm⟩) (own_w hw 10 rfl) (ty := .byte) (v' := (.int (0 : Int32))) (by decide) rfl (by decide) (g := (mkF m 48 #[.val (.ref a1), .val (.ref a2), .val (.int (0 : Int32)), .val (.int p4), .val .null, .val (.ref vb)] [(.int (0 : Int32)), (.ref a1)])) rfl rfl (hb hby d4_48)
    refine OGo.via st5 ?_
    have Fw5 := f6.same W5
    have K5 : Keep h0 h5 [a1] := K3.wr W5 (Or.inl (List.mem_of_getElem? (i := 0) rfl))
    have N5 := Fr.snoc X5 N4 g_a1
    show OGo _ _ _ _ (T5.setTop (mkF m 51 #[.val (.ref a1), .val (.ref a2), .val (.int (0 : Int32)), .val (.int p4), .val .null, .val (.ref vb)] []))
    refine OGo.via (fun _ k => XS.aloadN X5.here hx rfl (hb hby d4_51) rfl rfl (XS.aload X5.here hx rfl (hb hby d4_52) rfl rfl k)) ?_
    have f9 := F_value_a1.keep r3_0 nin0
    have f10 := f9.other W5 (Or.inr (slot_ne (Or.inr (own_w hw 24 rfl)) (Or.inr (own_w hw 25 rfl)) (by decide) (t := (.array .byte)) (t' := .byte) (by decide) (by decide)))
    have f11 := f7.wr W5
    obtain ⟨T8, h8, X8, e8, W8, st8⟩ := putF X5 hx hZ hown (host := "") (Or.inl (own_w hw 28 rfl)) Via.refl e5 f10 f11 (Or.inr ⟨(own_w hw 24 rfl), rfl, hnm⟩) (own_w hw 10 rfl) (ty := (.array .byte)) (by decide) rfl rfl (g := (mkF m 54 #[.val (.ref a1), .val (.ref a2), .val (.int (0 : Int32)), .val (.int p4), .val .null, .val (.ref vb)] [(.ref vb), (.ref a1)])) rfl rfl (hb hby d4_54)
    refine OGo.via st8 ?_
    have Fw8 := f10.same W8
    have K8 : Keep h0 h8 [a1] := K5.wr W8 (Or.inl (List.mem_of_getElem? (i := 0) rfl))
    have N8 := Fr.snoc X8 N5 g_a1
    show OGo _ _ _ _ (T8.setTop (mkF m 57 #[.val (.ref a1), .val (.ref a2), .val (.int (0 : Int32)), .val (.int p4), .val .null, .val (.ref vb)] []))
    show OGo _ _ _ _ (T8.setTop (mkF m 57 #[.val (.ref a1), .val (.ref a2), .val (.int (0 : Int32)), .val (.int p4), .val .null, .val (.ref vb)] []))
    have f12 := f11.wr W8
    have f13 := Fw5.other W8 (Or.inr (slot_ne (Or.inr (own_w hw 25 rfl)) (Or.inr (own_w hw 24 rfl)) (by decide) (t := .byte) (t' := (.array .byte)) (by decide) (by decide)))
    have f14 := r3_2.other W5 (Nat.ne_of_gt lt_a1_vb)
    have f15 := f14.other W8 (Nat.ne_of_gt lt_a1_vb)
    refine own_retV X8 hx Bd.notSynchronized Bd.returns (hb hby d4_57) (by decide) (by decide) ?_
    show Q_rm4 Z _ _ _ _ _ _ _ h0 n0 _ T8.heap _
    rw [e8]
    exact ⟨vb, kb, (0 : Int32), (Int32.ofNat cs.length), (List.map Value.int (List.map own_by cs)), rfl, N8, K8, sz_vb, f12, Fw8, f13, f15, (Or.inl ⟨rfl, rfl, rfl, hall⟩)⟩
  · refine OGo.via (fun _ k => XS.astore X3.here hx rfl (hb hby d4_39) rfl rfl (l' := #[.val (.ref a1), .val (.ref a2), .val (.int (0 : Int32)), .val (.int p4), .val .null, .val (.ref vb)]) rfl (XS.aloadN X3.here hx rfl (hb hby d4_41) rfl rfl (XS.aload X3.here hx rfl (hb hby d4_42) rfl rfl (XS.iloadN X3.here hx rfl (hb hby d4_44) rfl k)))) ?_
    obtain ⟨_, T16, Lc16, X16, hQ16, st16⟩ := own_open X3 (Jvm.LawKit.callS X3 hx (y := own_y4) hown (mvT hZ (own_w hw 67 rfl)) (mvT hZ (own_w hw 68 rfl)) (mvT hZ (own_w hw 62 rfl)) (mvT hZ (own_w hw 69 rfl)) (by decide) (backOf (W := 1) (rm14 l Z a0 hw [] vb p4 kb (List.map Value.int (own_u cs)) (Int32.ofNat (2 * cs.length)) (1 : Int32) T3.heap n0 (Nat.le_trans Z0 K3.1) r3_2 (by rw [hz4]; exact own_cl1 hn10 hn1)) hZ (own_w hw 69 rfl) (own_w hw 62 rfl) (by decide) (by decide)) (g := (mkF m 45 #[.val (.ref a1), .val (.ref a2), .val (.int (0 : Int32)), .val (.int p4), .val .null, .val (.ref vb)] [(.int p4), (.ref vb), (.ref a1)])) rfl (by rw [hml]; rfl) (argsL := [(.ref vb), (.int p4)]) (rest := [(.ref a1)]) (lenOf pd_19 rfl) rfl (by show 2 * 0 + _ ≤ _; exact Nat.le_of_eq rfl) (hb hby d4_45) (fun _ _ => ⟨rfl, rfl, (by decide : 2 + 0 ≤ _), (by decide : 30 + 0 ≤ _)⟩))
    obtain ⟨rfl, N16q, r16_0⟩ := hQ16
    have N16 := Fr.app N3 N16q
    refine OGo.via st16 ?_
    show OGo _ _ _ _ (T16.setTop (mkF m 48 #[.val (.ref a1), .val (.ref a2), .val (.int (0 : Int32)), .val (.int p4), .val .null, .val (.ref vb)] [(.int (1 : Int32)), (.ref a1)]))
    have f18 := F_coder_a1.keep r3_0 nin0
    have f19 := E_a1.keep r3_0
    obtain ⟨T17, h17, X17, e17, W17, st17⟩ := putFN X16 hx hZ hown (own_w hw 29 rfl) Via.refl r16_0 f18 f19 (Or.inr ⟨(own_w hw 25 rfl), rfl, hnm⟩) (own_w hw 10 rfl) (ty := .byte) (v' := (.int (1 : Int32))) (by decide) rfl (by decide) (g := (mkF m 48 #[.val (.ref a1), .val (.ref a2), .val (.int (0 : Int32)), .val (.int p4), .val .null, .val (.ref vb)] [(.int (1 : Int32)), (.ref a1)])) rfl rfl (hb hby d4_48)
    refine OGo.via st17 ?_
    have Fw17 := f18.same W17
    have K17 : Keep h0 h17 [a1] := K3.wr W17 (Or.inl (List.mem_of_getElem? (i := 0) rfl))
    have N17 := Fr.snoc X17 N16 g_a1
    show OGo _ _ _ _ (T17.setTop (mkF m 51 #[.val (.ref a1), .val (.ref a2), .val (.int (0 : Int32)), .val (.int p4), .val .null, .val (.ref vb)] []))
    refine OGo.via (fun _ k => XS.aloadN X17.here hx rfl (hb hby d4_51) rfl rfl (XS.aload X17.here hx rfl (hb hby d4_52) rfl rfl k)) ?_
    have f21 := F_value_a1.keep r3_0 nin0
    have f22 := f21.other W17 (Or.inr (slot_ne (Or.inr (own_w hw 24 rfl)) (Or.inr (own_w hw 25 rfl)) (by decide) (t := (.array .byte)) (t' := .byte) (by decide) (by decide)))
    have f23 := f19.wr W17
    obtain ⟨T20, h20, X20, e20, W20, st20⟩ := putF X17 hx hZ hown (host := "") (Or.inl (own_w hw 28 rfl)) Via.refl e17 f22 f23 (Or.inr ⟨(own_w hw 24 rfl), rfl, hnm⟩) (own_w hw 10 rfl) (ty := (.array .byte)) (by decide) rfl rfl (g := (mkF m 54 #[.val (.ref a1), .val (.ref a2), .val (.int (0 : Int32)), .val (.int p4), .val .null, .val (.ref vb)] [(.ref vb), (.ref a1)])) rfl rfl (hb hby d4_54)
    refine OGo.via st20 ?_
    have Fw20 := f22.same W20
    have K20 : Keep h0 h20 [a1] := K17.wr W20 (Or.inl (List.mem_of_getElem? (i := 0) rfl))
    have N20 := Fr.snoc X20 N17 g_a1
    show OGo _ _ _ _ (T20.setTop (mkF m 57 #[.val (.ref a1), .val (.ref a2), .val (.int (0 : Int32)), .val (.int p4), .val .null, .val (.ref vb)] []))
    show OGo _ _ _ _ (T20.setTop (mkF m 57 #[.val (.ref a1), .val (.ref a2), .val (.int (0 : Int32)), .val (.int p4), .val .null, .val (.ref vb)] []))
    have f24 := f23.wr W20
    have f25 := Fw17.other W20 (Or.inr (slot_ne (Or.inr (own_w hw 25 rfl)) (Or.inr (own_w hw 24 rfl)) (by decide) (t := .byte) (t' := (.array .byte)) (by decide) (by decide)))
    have f26 := r3_2.other W17 (Nat.ne_of_gt lt_a1_vb)
    have f27 := f26.other W20 (Nat.ne_of_gt lt_a1_vb)
    refine own_retV X20 hx Bd.notSynchronized Bd.returns (hb hby d4_57) (by decide) (by decide) ?_
    show Q_rm4 Z _ _ _ _ _ _ _ h0 n0 _ T20.heap _
    rw [e20]
    exact ⟨vb, kb, (1 : Int32), (Int32.ofNat (2 * cs.length)), (List.map Value.int (own_u cs)), rfl, N20, K20, sz_vb, f24, Fw20, f25, f27, (Or.inr ⟨rfl, rfl, rfl, hexi⟩)⟩
theorem d3_0 : decode jdk_42_method_3_code 0 = .ok (.aload_n 0, 1) := by decide +kernel
theorem d3_1 : decode jdk_42_method_3_code 1 = .ok (.aload_n 1, 1) := by decide +kernel
theorem d3_2 : decode jdk_42_method_3_code 2 = .ok (.iconst 0, 1) := by decide +kernel
theorem d3_3 : decode jdk_42_method_3_code 3 = .ok (.aload_n 1, 1) := by decide +kernel
theorem d3_4 : decode jdk_42_method_3_code 4 = .ok (.arraylength, 1) := by decide +kernel
theorem d3_5 : decode jdk_42_method_3_code 5 = .ok (.aconst_null, 1) := by decide +kernel
theorem d3_6 : decode jdk_42_method_3_code 6 = .ok (.invokespecial 27, 3) := by decide +kernel
theorem pd_25 : parseMethodDescriptor "([CIILjava/lang/Void;)V" = some ⟨[(.array .char), .int, .int, (.object "java/lang/Void")], none⟩ := by decide +kernel
theorem d3_9 : decode jdk_42_method_3_code 9 = .ok (.return_, 1) := by decide +kernel
theorem ef_rm3 (m : MethodId) (a1 : Addr) (a2 : Addr) : entryFrame m #[(.ref a1), (.ref a2)] 2 = mkF m 0 #[.val (.ref a1), .val (.ref a2)] [] := by
  first | (simp [entryFrame, mkF, argsToLocals, Value.category]; done) | rfl
def Q_rm3 (Z : State) (a1 : Addr) (a2 : Addr) (k2 : ClassId) (cs : List Int32) (p4 : Int32) (w : Int32) (fm : Value) (h0 : Heap) (n0 : Nat) (v : Option Value) (h : Heap) (L : List Loc) : Prop := ∃ vb : Addr, ∃ kb : ClassId, ∃ cd : Int32, ∃ zb : Int32, ∃ bs : List Value, v = none ∧ Fr n0 L ∧ Keep h0 h [a1] ∧ h0.size ≤ vb ∧ Exa Z h a1 "java/lang/String" ∧ Fld Z h a1 "java/lang/String" "value" "[B" (.ref vb) ∧ Fld Z h a1 "java/lang/String" "coder" "B" (.int cd) ∧ Arv Z h vb kb .byte zb bs (.int (0 : Int32)) ∧ (own_Rep cs cd zb bs)
abbrev R_rm3 : Room := ⟨5, 2, 30, 74⟩
set_option maxRecDepth 65536 in
set_option maxHeartbeats 40000000 in
theorem rm3 (l : Launch) (Z : State) (a0 : Array Value) (hw : ∀ d ∈ tables_1, d.before a0 Z = true) (ws : List Jvm.Cond) (a1 : Addr) (a2 : Addr) (k2 : ClassId) (cs : List Int32) (p4 : Int32) (w : Int32) (fm : Value) (h0 : Heap) (n0 : Nat) (Z0 : n0 ≤ h0.size) (E_a1 : Exa Z h0 a1 "java/lang/String") (F_value_a1 : Fld Z h0 a1 "java/lang/String" "value" "[B" .null) (F_coder_a1 : Fld Z h0 a1 "java/lang/String" "coder" "B" (.int (0 : Int32))) (V_a2 : Arv Z h0 a2 k2 .char p4 (List.map Value.int cs) (.int (0 : Int32))) (g_a1 : n0 ≤ a1) (S_COMPACT_STRINGS : Sta Z h0 "java/lang/String" "COMPACT_STRINGS" "Z" (.int w)) (S_SIOOBE_FORMATTER : Sta Z h0 "jdk/internal/util/Preconditions" "SIOOBE_FORMATTER" "Ljava/util/function/BiFunction;" fm) (S__assertionsDisabled : Sta Z h0 "java/lang/StringUTF16" "$assertionsDisabled" "Z" (.int (1 : Int32))) (S_HI_BYTE_SHIFT : Sta Z h0 "java/lang/StringUTF16" "HI_BYTE_SHIFT" "I" (.int (0 : Int32))) (S_LO_BYTE_SHIFT : Sta Z h0 "java/lang/StringUTF16" "LO_BYTE_SHIFT" "I" (.int (8 : Int32))) (hw0 : ¬ w = (0 : Int32)) (hz4 : p4 = Int32.ofNat cs.length) (hn10 : cs.length ≤ 10) (hn1 : 0 < cs.length) (hcs : ∀ c ∈ cs, nar .char c = c) :
    MetFree l own_y35 (head1 (Jvm.Cond.code own_y35 jdk_42_method_3_code 2 none :: ws) R_rm3) (fun a U => a = #[(.ref a1), (.ref a2)] ∧ Z.Warmed39 U.vm ∧ U.heap = h0) (fun _ _ _ _ _ => True) (fun _ U o U' => ∃ v L, o = .returned v ∧ Q_rm3 Z a1 a2 k2 cs p4 w fm h0 n0 v U'.heap L ∧ FrameEnd U o U' L R_rm3.cells R_rm3.slots) := by
  refine MetFree.of_bodySF (plainFor_of_name pn_String) hisR ?_
  intro p e s m args below meth c s₁ Bd hml0 hP hK
  obtain ⟨rfl, hZ, hh⟩ := hP
  have hx := Bd.exec
  have hby := Bd.bytes
  have hml : c.maxLocals = 2 := hml0
  have hown : s.vm.findClass "java/lang/String" = some m.cls := findClass_of_methodNamed Bd.named
  have hnm := (name_of_methodNamed Bd.named Bd.method).1
  have X0 : Stand p l e R_rm3 s m #[(.ref a1), (.ref a2)] below meth c s₁ [] 0 0 := Stand.of_body Bd
  have e0 : s₁.heap = h0 := by rw [← hh, Bd.state]; rfl
  have N0 := Fr.nil n0
  show OGo p.tables e below (own_Kq s (fun v h L => Q_rm3 Z a1 a2 k2 cs p4 w fm h0 n0 v h L) R_rm3.cells R_rm3.slots) (s₁.setTop (entryFrame m #[(.ref a1), (.ref a2)] 2))
  refine OGo.cast (ef_rm3 m a1 a2) ?_
  show OGo _ _ _ _ (s₁.setTop (mkF m 0 #[.val (.ref a1), .val (.ref a2)] []))
  refine OGo.via (fun _ k => XS.aloadN X0.here hx rfl (hb hby d3_0) rfl rfl (XS.aloadN X0.here hx rfl (hb hby d3_1) rfl rfl (XS.iconst X0.here hx rfl (hb hby d3_2) (XS.aloadN X0.here hx rfl (hb hby d3_3) rfl rfl k)))) ?_
  obtain ⟨cl1, Ar1, q1, Sz1, Ng1, Hs1, Gf1⟩ := id V_a2
  refine OGo.via (X0.arraylength hx (by rw [e0]; exact Ar1.1) (State.isArrayOf_alike hZ.alike Ar1.2.1) (g := (mkF m 4 #[.val (.ref a1), .val (.ref a2)] [(.ref a2), (.int (0 : Int32)), (.ref a2), (.ref a1)])) rfl rfl (hb hby d3_4)) ?_
  rw [len_of Sz1 Ng1]
  show OGo _ _ _ _ (s₁.setTop (mkF m 5 #[.val (.ref a1), .val (.ref a2)] [(.int p4), (.int (0 : Int32)), (.ref a2), (.ref a1)]))
  refine OGo.via (fun _ k => XS.aconstNull X0.here hx rfl (hb hby d3_5) k) ?_
  obtain ⟨_, T2, Lc2, X2, hQ2, st2⟩ := own_open X0 (X0.specialBack hx (y := own_y34) rfl hown (mvT hZ (own_w hw 15 rfl)) (mvT hZ (own_w hw 16 rfl)) (mvT hZ (own_w hw 18 rfl)) (by decide) (backOf (W := 0) (rm4 l Z a0 hw [] a1 a2 p4 k2 cs w fm h0 n0 Z0 E_a1 F_value_a1 F_coder_a1 V_a2 g_a1 S_COMPACT_STRINGS S_SIOOBE_FORMATTER S__assertionsDisabled S_HI_BYTE_SHIFT S_LO_BYTE_SHIFT hw0 hz4 hn10 hn1 hcs) hZ (own_w hw 18 rfl) (own_w hw 11 rfl) (by decide) (by decide)) (g := (mkF m 6 #[.val (.ref a1), .val (.ref a2)] [.null, (.int p4), (.int (0 : Int32)), (.ref a2), (.ref a1)])) rfl (by rw [hml]; rfl) (Steps.refl _) (a := a1) (argsL := [(.ref a2), (.int (0 : Int32)), (.int p4), .null]) (rest := []) (lenOf pd_25 rfl) rfl (by show 2 * 0 + _ ≤ _; exact Nat.le_of_eq rfl) (hb hby d3_6) (fun _ _ => ⟨rfl, e0, (by decide : 0 + 2 ≤ _), (by decide : 0 + 30 ≤ _)⟩))
  obtain ⟨vb, kb, cd, zb, bs, rfl, N2q, r2_0, r2_1, r2_2, r2_3, r2_4, r2_5, r2_6⟩ := hQ2
  have N2 := Fr.app N0 N2q
  have K2 : Keep h0 T2.heap [a1] := (Keep.refl h0 [a1]).trans r2_0 (allS (Or.inl (List.mem_of_getElem? (i := 0) rfl)) all0)
  have lt_a1_vb : a1 < vb := Nat.lt_of_lt_of_le E_a1.lt r2_1
  have lt_a2_vb : a2 < vb := Nat.lt_of_lt_of_le V_a2.lt r2_1
  have sz_vb : h0.size ≤ vb := Nat.le_trans (Keep.refl h0 [a1]).1 r2_1
  have g_vb : n0 ≤ vb := Nat.le_trans Z0 sz_vb
  refine OGo.via (fun _ k => st2.trans k) ?_
  show OGo _ _ _ _ (T2.setTop (mkF m 9 #[.val (.ref a1), .val (.ref a2)] []))
  show OGo _ _ _ _ (T2.setTop (mkF m 9 #[.val (.ref a1), .val (.ref a2)] []))
  refine own_retV X2 hx Bd.notSynchronized Bd.returns (hb hby d3_9) (by decide) (by decide) ?_
  show Q_rm3 Z _ _ _ _ _ _ _ h0 n0 _ T2.heap _
  exact ⟨vb, kb, cd, zb, bs, rfl, N2, K2, sz_vb, r2_2, r2_3, r2_4, r2_5, r2_6⟩
theorem d4_8 : decode jdk_42_method_149_code 8 = .ok (.aload_n 0, 1) := by decide +kernel
theorem d4_9 : decode jdk_42_method_149_code 9 = .ok (.ldc 7, 2) := by decide +kernel
theorem d4_11 : decode jdk_42_method_149_code 11 = .ok (.getfield 9, 3) := by decide +kernel
theorem d4_14 : decode jdk_42_method_149_code 14 = .ok (.putfield 9, 3) := by decide +kernel
theorem d4_17 : decode jdk_42_method_149_code 17 = .ok (.aload_n 0, 1) := by decide +kernel
theorem d4_18 : decode jdk_42_method_149_code 18 = .ok (.ldc 7, 2) := by decide +kernel
theorem d4_20 : decode jdk_42_method_149_code 20 = .ok (.getfield 15, 3) := by decide +kernel
theorem d4_23 : decode jdk_42_method_149_code 23 = .ok (.putfield 15, 3) := by decide +kernel
theorem d4_26 : decode jdk_42_method_149_code 26 = .ok (.return_, 1) := by decide +kernel
theorem ef_rm4w (m : MethodId) (a1 : Addr) (a2 : Addr) : entryFrame m #[(.ref a1), (.ref a2), (.int (0 : Int32)), (.int (0 : Int32)), .null] 6 = mkF m 0 #[.val (.ref a1), .val (.ref a2), .val (.int (0 : Int32)), .val (.int (0 : Int32)), .val .null, .unset] [] := by
  first | (simp [entryFrame, mkF, argsToLocals, Value.category]; done) | rfl
def Q_rm4w (Z : State) (a1 : Addr) (a2 : Addr) (h0 : Heap) (n0 : Nat) (v : Option Value) (h : Heap) (L : List Loc) : Prop := ∃ vb : Addr, ∃ kb : ClassId, v = none ∧ Fr n0 L ∧ Keep h0 h [a1] ∧ Exa Z h a1 "java/lang/String" ∧ Fld Z h a1 "java/lang/String" "value" "[B" (.ref vb) ∧ Fld Z h a1 "java/lang/String" "coder" "B" (.int (0 : Int32)) ∧ Arv Z h vb kb .byte (0 : Int32) [] (.int (0 : Int32))
abbrev R_rm4w : Room := ⟨1, 2, 4, 12⟩
set_option maxRecDepth 65536 in
set_option maxHeartbeats 40000000 in
theorem rm4w (l : Launch) (Z : State) (a0 : Array Value) (hw : ∀ d ∈ tables_1, d.before a0 Z = true) (ws : List Jvm.Cond) (a1 : Addr) (a2 : Addr) (h0 : Heap) (n0 : Nat) (Z0 : n0 ≤ h0.size) (E_a1 : Exa Z h0 a1 "java/lang/String") (F_value_a1 : Fld Z h0 a1 "java/lang/String" "value" "[B" .null) (F_coder_a1 : Fld Z h0 a1 "java/lang/String" "coder" "B" (.int (0 : Int32))) (g_a1 : n0 ≤ a1) (hold : ∀ (b : Addr) (cl : Cell), Z.heap[b]? = some cl → h0[b]? = some cl) (hhc : Jvm.Lit.constHeld Z "java/lang/String" 7) (hcw : Jvm.Lit.compactW.before a0 Z = true) :
    MetFree l own_y34 (head1 (Jvm.Cond.code own_y34 jdk_42_method_149_code 6 none :: ws) R_rm4w) (fun a U => a = #[(.ref a1), (.ref a2), (.int (0 : Int32)), (.int (0 : Int32)), .null] ∧ Z.WarmedH U.vm ∧ U.heap = h0) (fun _ _ _ _ _ => True) (fun _ U o U' => ∃ v L, o = .returned v ∧ Q_rm4w Z a1 a2 h0 n0 v U'.heap L ∧ ReturnedEndW U o U' L R_rm4w.cells R_rm4w.slots) := by
  refine MetFree.of_bodySF (plainFor_of_name pn_String) hisR ?_
  intro p e s m args below meth c s₁ Bd hml0 hP hK
  obtain ⟨rfl, hZH, hh⟩ := hP
  have hZ := hZH.wide
  have hx := Bd.exec
  have hby := Bd.bytes
  have hml : c.maxLocals = 6 := hml0
  have hown : s.vm.findClass "java/lang/String" = some m.cls := findClass_of_methodNamed Bd.named
  have hnm := (name_of_methodNamed Bd.named Bd.method).1
  have X0 : Stand p l e R_rm4w s m #[(.ref a1), (.ref a2), (.int (0 : Int32)), (.int (0 : Int32)), .null] below meth c s₁ [] 0 0 := Stand.of_body Bd
  have e0 : s₁.heap = h0 := by rw [← hh, Bd.state]; rfl
  have N0 := Fr.nil n0
  show OGo p.tables e below (own_KqW s (fun v h L => Q_rm4w Z a1 a2 h0 n0 v h L) R_rm4w.cells R_rm4w.slots) (s₁.setTop (entryFrame m #[(.ref a1), (.ref a2), (.int (0 : Int32)), (.int (0 : Int32)), .null] 6))
  refine OGo.cast (ef_rm4w m a1 a2) ?_
  show OGo _ _ _ _ (s₁.setTop (mkF m 0 #[.val (.ref a1), .val (.ref a2), .val (.int (0 : Int32)), .val (.int (0 : Int32)), .val .null, .unset] []))
  refine OGo.via (fun _ k => XS.aloadN X0.here hx rfl (hb hby d4_0) rfl rfl k) ?_
  obtain ⟨T1, X1, e1, st1⟩ := initO X0 hx hZ hown (own_w hw 19 rfl) (own_w hw 20 rfl) (own_w hw 21 rfl) e0 (g := (mkF m 1 #[.val (.ref a1), .val (.ref a2), .val (.int (0 : Int32)), .val (.int (0 : Int32)), .val .null, .unset] [(.ref a1)])) rfl (by rw [hml]; rfl) rfl (hb hby d4_1) (by decide) (W := 0) (by show 2 * 0 + _ ≤ _; exact Nat.le_of_eq rfl) (by decide)
  refine OGo.via st1 ?_
  show OGo _ _ _ _ (T1.setTop (mkF m 4 #[.val (.ref a1), .val (.ref a2), .val (.int (0 : Int32)), .val (.int (0 : Int32)), .val .null, .unset] []))
  refine OGo.via (fun _ k => XS.iloadN X1.here hx rfl (hb hby d4_4) rfl (XS.ifNo X1.here hx rfl (hb hby d4_5) rfl ((if0 _ _).trans (teq (by decide : (0 : Int32) = (0 : Int32))).2) (XS.aloadN X1.here hx rfl (hb hby d4_8) rfl rfl k))) ?_
  have wS : ∀ d ∈ Bundle.stringAtoms, d.before a0 Z = true := by
    intro d hd
    simp only [Bundle.stringAtoms, List.mem_cons, List.not_mem_nil, or_false] at hd
    rcases hd with rfl | rfl | rfl | rfl | rfl | rfl | rfl
    · exact (own_w hw 11 rfl)
    · exact (own_w hw 10 rfl)
    · exact (own_w hw 23 rfl)
    · exact (own_w hw 24 rfl)
    · exact (own_w hw 25 rfl)
    · exact (own_w hw 26 rfl)
    · exact (own_w hw 27 rfl)
  obtain ⟨r2, T2, h2, k2, vb2, kb2, X2, e2, E2, hSi2, hk2, hZ2, hown2, Ex2, Fc2, Fv2, V2, -, -, -, Li2, st2⟩ := ldcSVL (s := s) (vm0 := s.vm) X1 hx hZ hown (own_w hw 22 rfl) wS e1 (k0 := 0) ((State.WarmedH.refl s).since 0) (Nat.zero_le _) (Fr.nil _) (fun b cl q => by rw [hh]; exact hold b cl q) (own_ib hZH) (by simp) hhc hcw (vs := []) (z := 0) ⟨by simp, rfl⟩ (by decide) rfl (g := (mkF m 9 #[.val (.ref a1), .val (.ref a2), .val (.int (0 : Int32)), .val (.int (0 : Int32)), .val .null, .unset] [(.ref a1)])) rfl (hb hby d4_9) (n := 0) (by decide) (by decide) (by decide) (by decide)
  refine OGo.via st2 ?_
  have K2 : Keep h0 h2 [a1] := (Keep.refl h0 [a1]).ext E2
  show OGo _ _ _ _ (T2.setTop (mkF m 11 #[.val (.ref a1), .val (.ref a2), .val (.int (0 : Int32)), .val (.int (0 : Int32)), .val .null, .unset] [(.ref r2), (.ref a1)]))
  have f4 := F_value_a1.ext E2
  have ne3r : r2 ≠ a1 := Fld.ne Fv2 f4 (fun q => nomatch q)
  have f5 := E_a1.ext E2
  have ne3v : a1 ≠ vb2 := Exa.neArv f5 V2 (own_w hw 10 rfl)
  obtain ⟨T6, X6, e6, st6⟩ := getF X2 hx hZ2 hown2 (host := "") (Or.inl (own_w hw 28 rfl)) Via.refl e2 Fv2 (g := (mkF m 11 #[.val (.ref a1), .val (.ref a2), .val (.int (0 : Int32)), .val (.int (0 : Int32)), .val .null, .unset] [(.ref r2), (.ref a1)])) rfl rfl (hb hby d4_11)
  refine OGo.via st6 ?_
  show OGo _ _ _ _ (T6.setTop (mkF m 14 #[.val (.ref a1), .val (.ref a2), .val (.int (0 : Int32)), .val (.int (0 : Int32)), .val .null, .unset] [(.ref vb2), (.ref a1)]))
  obtain ⟨T7, h7, X7, e7, W7, st7⟩ := putF X6 hx hZ2 hown2 (host := "") (Or.inl (own_w hw 28 rfl)) Via.refl e6 f4 f5 (Or.inr ⟨(own_w hw 24 rfl), rfl, hnm⟩) (own_w hw 10 rfl) (ty := (.array .byte)) (by decide) rfl rfl (g := (mkF m 14 #[.val (.ref a1), .val (.ref a2), .val (.int (0 : Int32)), .val (.int (0 : Int32)), .val .null, .unset] [(.ref vb2), (.ref a1)])) rfl rfl (hb hby d4_14)
  refine OGo.via st7 ?_
  have Fw7 := f4.same W7
  have K7 : Keep h0 h7 [a1] := K2.wr W7 (Or.inl (List.mem_of_getElem? (i := 0) rfl))
  have N7 := Fr.snoc X7 N0 g_a1
  show OGo _ _ _ _ (T7.setTop (mkF m 17 #[.val (.ref a1), .val (.ref a2), .val (.int (0 : Int32)), .val (.int (0 : Int32)), .val .null, .unset] []))
  refine OGo.via (fun _ k => XS.aloadN X7.here hx rfl (hb hby d4_17) rfl rfl k) ?_
  refine OGo.via (ldcAgain (s := s) (vm0 := T2.vm) X7 hx hZ2 hown2 (own_w hw 22 rfl) Li2 (g := (mkF m 18 #[.val (.ref a1), .val (.ref a2), .val (.int (0 : Int32)), .val (.int (0 : Int32)), .val .null, .unset] [(.ref a1)])) rfl (hb hby d4_18)) ?_
  show OGo _ _ _ _ (T7.setTop (mkF m 20 #[.val (.ref a1), .val (.ref a2), .val (.int (0 : Int32)), .val (.int (0 : Int32)), .val .null, .unset] [(.ref r2), (.ref a1)]))
  have f10 := Fc2.other W7 (Or.inl ne3r)
  obtain ⟨T9, X9, e9, st9⟩ := getF X7 hx hZ2 hown2 (host := "") (Or.inl (own_w hw 29 rfl)) Via.refl e7 f10 (g := (mkF m 20 #[.val (.ref a1), .val (.ref a2), .val (.int (0 : Int32)), .val (.int (0 : Int32)), .val .null, .unset] [(.ref r2), (.ref a1)])) rfl rfl (hb hby d4_20)
  refine OGo.via st9 ?_
  show OGo _ _ _ _ (T9.setTop (mkF m 23 #[.val (.ref a1), .val (.ref a2), .val (.int (0 : Int32)), .val (.int (0 : Int32)), .val .null, .unset] [(.int (0 : Int32)), (.ref a1)]))
  have f12 := F_coder_a1.ext E2
  have f13 := f12.other W7 (Or.inr (slot_ne (Or.inr (own_w hw 25 rfl)) (Or.inr (own_w hw 24 rfl)) (by decide) (t := .byte) (t' := (.array .byte)) (by decide) (by decide)))
  have f14 := f5.wr W7
  obtain ⟨T11, h11, X11, e11, W11, st11⟩ := putFN X9 hx hZ2 hown2 (own_w hw 29 rfl) Via.refl e9 f13 f14 (Or.inr ⟨(own_w hw 25 rfl), rfl, hnm⟩) (own_w hw 10 rfl) (ty := .byte) (v' := (.int (0 : Int32))) (by decide) rfl (by decide) (g := (mkF m 23 #[.val (.ref a1), .val (.ref a2), .val (.int (0 : Int32)), .val (.int (0 : Int32)), .val .null, .unset] [(.int (0 : Int32)), (.ref a1)])) rfl rfl (hb hby d4_23)
  refine OGo.via st11 ?_
  have Fw11 := f13.same W11
  have K11 : Keep h0 h11 [a1] := K7.wr W11 (Or.inl (List.mem_of_getElem? (i := 0) rfl))
  have N11 := Fr.snoc X11 N7 g_a1
  show OGo _ _ _ _ (T11.setTop (mkF m 26 #[.val (.ref a1), .val (.ref a2), .val (.int (0 : Int32)), .val (.int (0 : Int32)), .val .null, .unset] []))
  show OGo _ _ _ _ (T11.setTop (mkF m 26 #[.val (.ref a1), .val (.ref a2), .val (.int (0 : Int32)), .val (.int (0 : Int32)), .val .null, .unset] []))
  have f15 := f14.wr W11
  have f16 := Fw7.other W11 (Or.inr (slot_ne (Or.inr (own_w hw 24 rfl)) (Or.inr (own_w hw 25 rfl)) (by decide) (t := (.array .byte)) (t' := .byte) (by decide) (by decide)))
  have f17 := V2.other W7 (Ne.symm ne3v)
  have f18 := f17.other W11 (Ne.symm ne3v)
  refine own_retVW X11 hSi2 (Nat.le_trans (Nat.le_trans (Nat.le_trans hk2 (Nat.le_of_eq (Wr.size W7).symm)) (Nat.le_of_eq (Wr.size W11).symm)) (Nat.le_of_eq (congrArg Array.size (Eq.symm e11)))) hx Bd.notSynchronized Bd.returns (hb hby d4_26) (by decide) (by decide) ?_
  show Q_rm4w Z _ _ h0 n0 _ T11.heap _
  rw [e11]
  exact ⟨vb2, kb2, rfl, N11, K11, f15, f16, Fw11, f18⟩
theorem ef_rm3w (m : MethodId) (a1 : Addr) (a2 : Addr) : entryFrame m #[(.ref a1), (.ref a2)] 2 = mkF m 0 #[.val (.ref a1), .val (.ref a2)] [] := by
  first | (simp [entryFrame, mkF, argsToLocals, Value.category]; done) | rfl
def Q_rm3w (Z : State) (a1 : Addr) (a2 : Addr) (k2 : ClassId) (h0 : Heap) (n0 : Nat) (v : Option Value) (h : Heap) (L : List Loc) : Prop := ∃ vb : Addr, ∃ kb : ClassId, v = none ∧ Fr n0 L ∧ Keep h0 h [a1] ∧ Exa Z h a1 "java/lang/String" ∧ Fld Z h a1 "java/lang/String" "value" "[B" (.ref vb) ∧ Fld Z h a1 "java/lang/String" "coder" "B" (.int (0 : Int32)) ∧ Arv Z h vb kb .byte (0 : Int32) [] (.int (0 : Int32))
abbrev R_rm3w : Room := ⟨2, 2, 4, 29⟩
set_option maxRecDepth 65536 in
set_option maxHeartbeats 40000000 in
theorem rm3w (l : Launch) (Z : State) (a0 : Array Value) (hw : ∀ d ∈ tables_1, d.before a0 Z = true) (ws : List Jvm.Cond) (a1 : Addr) (a2 : Addr) (k2 : ClassId) (h0 : Heap) (n0 : Nat) (Z0 : n0 ≤ h0.size) (E_a1 : Exa Z h0 a1 "java/lang/String") (F_value_a1 : Fld Z h0 a1 "java/lang/String" "value" "[B" .null) (F_coder_a1 : Fld Z h0 a1 "java/lang/String" "coder" "B" (.int (0 : Int32))) (V_a2 : Arv Z h0 a2 k2 .char (0 : Int32) [] (.int (0 : Int32))) (g_a1 : n0 ≤ a1) (hold : ∀ (b : Addr) (cl : Cell), Z.heap[b]? = some cl → h0[b]? = some cl) (hhc : Jvm.Lit.constHeld Z "java/lang/String" 7) (hcw : Jvm.Lit.compactW.before a0 Z = true) :
    MetFree l own_y35 (head1 (Jvm.Cond.code own_y35 jdk_42_method_3_code 2 none :: ws) R_rm3w) (fun a U => a = #[(.ref a1), (.ref a2)] ∧ Z.WarmedH U.vm ∧ U.heap = h0) (fun _ _ _ _ _ => True) (fun _ U o U' => ∃ v L, o = .returned v ∧ Q_rm3w Z a1 a2 k2 h0 n0 v U'.heap L ∧ ReturnedEndW U o U' L R_rm3w.cells R_rm3w.slots) := by
  refine MetFree.of_bodySF (plainFor_of_name pn_String) hisR ?_
  intro p e s m args below meth c s₁ Bd hml0 hP hK
  obtain ⟨rfl, hZH, hh⟩ := hP
  have hZ := hZH.wide
  have hx := Bd.exec
  have hby := Bd.bytes
  have hml : c.maxLocals = 2 := hml0
  have hown : s.vm.findClass "java/lang/String" = some m.cls := findClass_of_methodNamed Bd.named
  have hnm := (name_of_methodNamed Bd.named Bd.method).1
  have X0 : Stand p l e R_rm3w s m #[(.ref a1), (.ref a2)] below meth c s₁ [] 0 0 := Stand.of_body Bd
  have e0 : s₁.heap = h0 := by rw [← hh, Bd.state]; rfl
  have N0 := Fr.nil n0
  show OGo p.tables e below (own_KqW s (fun v h L => Q_rm3w Z a1 a2 k2 h0 n0 v h L) R_rm3w.cells R_rm3w.slots) (s₁.setTop (entryFrame m #[(.ref a1), (.ref a2)] 2))
  refine OGo.cast (ef_rm3w m a1 a2) ?_
  show OGo _ _ _ _ (s₁.setTop (mkF m 0 #[.val (.ref a1), .val (.ref a2)] []))
  refine OGo.via (fun _ k => XS.aloadN X0.here hx rfl (hb hby d3_0) rfl rfl (XS.aloadN X0.here hx rfl (hb hby d3_1) rfl rfl (XS.iconst X0.here hx rfl (hb hby d3_2) (XS.aloadN X0.here hx rfl (hb hby d3_3) rfl rfl k)))) ?_
  obtain ⟨cl1, Ar1, q1, Sz1, Ng1, Hs1, Gf1⟩ := id V_a2
  refine OGo.via (X0.arraylength hx (by rw [e0]; exact Ar1.1) (State.isArrayOf_alike hZ.alike Ar1.2.1) (g := (mkF m 4 #[.val (.ref a1), .val (.ref a2)] [(.ref a2), (.int (0 : Int32)), (.ref a2), (.ref a1)])) rfl rfl (hb hby d3_4)) ?_
  rw [len_of Sz1 Ng1]
  show OGo _ _ _ _ (s₁.setTop (mkF m 5 #[.val (.ref a1), .val (.ref a2)] [(.int (0 : Int32)), (.int (0 : Int32)), (.ref a2), (.ref a1)]))
  refine OGo.via (fun _ k => XS.aconstNull X0.here hx rfl (hb hby d3_5) k) ?_
  obtain ⟨_, T2, Lc2, X2, hSi2, hQ2, st2⟩ := own_openS X0 (X0.specialBackS hx (y := own_y34) rfl hown (mvT hZ (own_w hw 15 rfl)) (mvT hZ (own_w hw 16 rfl)) (mvT hZ (own_w hw 18 rfl)) (by decide) (own_backOfSH (W := 0) (rm4w l Z a0 hw [] a1 a2 h0 n0 Z0 E_a1 F_value_a1 F_coder_a1 g_a1 hold hhc hcw) hZH (own_w hw 18 rfl) (own_w hw 11 rfl) (by decide) (by decide)) (g := (mkF m 6 #[.val (.ref a1), .val (.ref a2)] [.null, (.int (0 : Int32)), (.int (0 : Int32)), (.ref a2), (.ref a1)])) rfl (by rw [hml]; rfl) (Steps.refl _) (a := a1) (argsL := [(.ref a2), (.int (0 : Int32)), (.int (0 : Int32)), .null]) (rest := []) (lenOf pd_25 rfl) rfl (by show 2 * 0 + _ ≤ _; exact Nat.le_of_eq rfl) (hb hby d3_6) (fun _ _ => ⟨rfl, e0, (by decide : 0 + 2 ≤ _), (by decide : 0 + 4 ≤ _)⟩))
  have hZ2 : Z.Warmed39 (s.setVm T2.vm).vm := State.Warmed39.trans hZ hSi2.1
  have hown2 : (s.setVm T2.vm).vm.findClass "java/lang/String" = some m.cls := by rw [show (s.setVm T2.vm).vm = T2.vm from rfl, hSi2.1.alike.findClass]; exact hown
  obtain ⟨vb, kb, rfl, N2q, r2_0, r2_1, r2_2, r2_3, r2_4⟩ := hQ2
  have N2 := Fr.app N0 N2q
  have K2 : Keep h0 T2.heap [a1] := (Keep.refl h0 [a1]).trans r2_0 (allS (Or.inl (List.mem_of_getElem? (i := 0) rfl)) all0)
  refine OGo.via (fun _ k => st2.trans k) ?_
  show OGo _ _ _ _ (T2.setTop (mkF m 9 #[.val (.ref a1), .val (.ref a2)] []))
  show OGo _ _ _ _ (T2.setTop (mkF m 9 #[.val (.ref a1), .val (.ref a2)] []))
  refine own_retVW X2 hSi2 (Nat.le_refl T2.heap.size) hx Bd.notSynchronized Bd.returns (hb hby d3_9) (by decide) (by decide) ?_
  show Q_rm3w Z _ _ _ h0 n0 _ T2.heap _
  exact ⟨vb, kb, rfl, N2, K2, r2_1, r2_2, r2_3, r2_4⟩
theorem d1_0 : decode method_3_code 0 = .ok (.iload_n 0, 1) := by decide +kernel
theorem d1_1 : decode method_3_code 1 = .ok (.iload_n 1, 1) := by decide +kernel
theorem d1_2 : decode method_3_code 2 = .ok (.if_icmp .ge 6, 3) := by decide +kernel
theorem d1_5 : decode method_3_code 5 = .ok (.bipush 47, 2) := by decide +kernel
theorem d1_7 : decode method_3_code 7 = .ok (.ireturn, 1) := by decide +kernel
theorem d1_8 : decode method_3_code 8 = .ok (.iload_n 0, 1) := by decide +kernel
theorem d1_9 : decode method_3_code 9 = .ok (.iload_n 1, 1) := by decide +kernel
theorem d1_10 : decode method_3_code 10 = .ok (.iload_n 2, 1) := by decide +kernel
theorem d1_11 : decode method_3_code 11 = .ok (.iadd, 1) := by decide +kernel
theorem d1_12 : decode method_3_code 12 = .ok (.if_icmp .ge 9, 3) := by decide +kernel
theorem d1_15 : decode method_3_code 15 = .ok (.aload_n 3, 1) := by decide +kernel
theorem d1_16 : decode method_3_code 16 = .ok (.iload_n 0, 1) := by decide +kernel
theorem d1_17 : decode method_3_code 17 = .ok (.iload_n 1, 1) := by decide +kernel
theorem d1_18 : decode method_3_code 18 = .ok (.isub, 1) := by decide +kernel
theorem d1_19 : decode method_3_code 19 = .ok (.caload, 1) := by decide +kernel
theorem d1_20 : decode method_3_code 20 = .ok (.ireturn, 1) := by decide +kernel
theorem d1_21 : decode method_3_code 21 = .ok (.bipush 47, 2) := by decide +kernel
theorem d1_23 : decode method_3_code 23 = .ok (.ireturn, 1) := by decide +kernel
theorem pn_UserPathTrimmedPinLaw : plainName "com/example/ianus/ianus/path/UserPathTrimmedPinLaw" = true := by first | (simp [plainName, overriddenIn]; done) | decide +kernel
theorem ef_rm1 (m : MethodId) (kn : Nat) (pn : Nat) (nn : Nat) (a4 : Addr) : entryFrame m #[(.int (Int32.ofNat kn)), (.int (Int32.ofNat pn)), (.int (Int32.ofNat nn)), (.ref a4)] 4 = mkF m 0 #[.val (.int (Int32.ofNat kn)), .val (.int (Int32.ofNat pn)), .val (.int (Int32.ofNat nn)), .val (.ref a4)] [] := by
  first | (simp [entryFrame, mkF, argsToLocals, Value.category]; done) | rfl
def Q_rm1 (Z : State) (a4 : Addr) (ka : ClassId) (kn : Nat) (pn : Nat) (nn : Nat) (ms : List Int32) (h0 : Heap) (n0 : Nat) (v : Option Value) (h : Heap) (L : List Loc) : Prop := v = some (.int (own_cell kn pn nn ms)) ∧ Fr n0 L ∧ h = h0
abbrev R_rm1 : Room := ⟨0, 0, 0, 0⟩
set_option maxRecDepth 65536 in
set_option maxHeartbeats 40000000 in
theorem rm1 (l : Launch) (Z : State) (a0 : Array Value) (hw : ∀ d ∈ tables_1, d.before a0 Z = true) (ws : List Jvm.Cond) (a4 : Addr) (ka : ClassId) (kn : Nat) (pn : Nat) (nn : Nat) (ms : List Int32) (h0 : Heap) (n0 : Nat) (Z0 : n0 ≤ h0.size) (V_a4 : Arv Z h0 a4 ka .char (4 : Int32) (List.map Value.int ms) (.int (0 : Int32))) (hk9 : kn ≤ 9) (hp3 : pn ≤ 3) (hn4 : nn ≤ 4) (hms : ∀ i, nar .char (ms.getD i 0) = ms.getD i 0) :
    MetFree l own_y36 (head1 (Jvm.Cond.code own_y36 method_3_code 4 (some .char) :: ws) R_rm1) (fun a U => a = #[(.int (Int32.ofNat kn)), (.int (Int32.ofNat pn)), (.int (Int32.ofNat nn)), (.ref a4)] ∧ Z.Warmed39 U.vm ∧ U.heap = h0) (fun _ _ _ _ _ => True) (fun _ U o U' => ∃ v L, o = .returned v ∧ Q_rm1 Z a4 ka kn pn nn ms h0 n0 v U'.heap L ∧ FrameEnd U o U' L R_rm1.cells R_rm1.slots) := by
  refine MetFree.of_bodySF (plainFor_of_name pn_UserPathTrimmedPinLaw) hisR ?_
  intro p e s m args below meth c s₁ Bd hml0 hP hK
  obtain ⟨rfl, hZ, hh⟩ := hP
  have hx := Bd.exec
  have hby := Bd.bytes
  have hml : c.maxLocals = 4 := hml0
  have hown : s.vm.findClass "com/example/ianus/ianus/path/UserPathTrimmedPinLaw" = some m.cls := findClass_of_methodNamed Bd.named
  have hnm := (name_of_methodNamed Bd.named Bd.method).1
  have X0 : Stand p l e R_rm1 s m #[(.int (Int32.ofNat kn)), (.int (Int32.ofNat pn)), (.int (Int32.ofNat nn)), (.ref a4)] below meth c s₁ [] 0 0 := Stand.of_body Bd
  have e0 : s₁.heap = h0 := by rw [← hh, Bd.state]; rfl
  have N0 := Fr.nil n0
  show OGo p.tables e below (own_Kq s (fun v h L => Q_rm1 Z a4 ka kn pn nn ms h0 n0 v h L) R_rm1.cells R_rm1.slots) (s₁.setTop (entryFrame m #[(.int (Int32.ofNat kn)), (.int (Int32.ofNat pn)), (.int (Int32.ofNat nn)), (.ref a4)] 4))
  refine OGo.cast (ef_rm1 m kn pn nn a4) ?_
  show OGo _ _ _ _ (s₁.setTop (mkF m 0 #[.val (.int (Int32.ofNat kn)), .val (.int (Int32.ofNat pn)), .val (.int (Int32.ofNat nn)), .val (.ref a4)] []))
  by_cases hk1 : kn < pn
  · show OGo _ _ _ _ (s₁.setTop (mkF m 0 #[.val (.int (Int32.ofNat kn)), .val (.int (Int32.ofNat pn)), .val (.int (Int32.ofNat nn)), .val (.ref a4)] []))
    refine OGo.via (fun _ k => XS.iloadN X0.here hx rfl (hb hby d1_0) rfl (XS.iloadN X0.here hx rfl (hb hby d1_1) rfl (XS.icmpNo X0.here hx rfl (hb hby d1_2) rfl (tlt (own_ilt hk1 (by omega))).2.1 (XS.bipush X0.here hx rfl (hb hby d1_5) k)))) ?_
    show OGo _ _ _ _ (s₁.setTop (mkF m 7 #[.val (.int (Int32.ofNat kn)), .val (.int (Int32.ofNat pn)), .val (.int (Int32.ofNat nn)), .val (.ref a4)] [(.int (47 : Int32))]))
    refine own_retN (t := .char) (by simp) X0 hx Bd.notSynchronized Bd.returns (hb hby d1_7) (by decide) (by decide) ?_
    show Q_rm1 Z _ _ _ _ _ _ h0 n0 _ s₁.heap _
    exact ⟨(by rw [own_cellA (Or.inl hk1), show nar .char (47 : Int32) = 47 from by decide]), N0, e0⟩
  · by_cases hk2 : kn < pn + nn
    · show OGo _ _ _ _ (s₁.setTop (mkF m 0 #[.val (.int (Int32.ofNat kn)), .val (.int (Int32.ofNat pn)), .val (.int (Int32.ofNat nn)), .val (.ref a4)] []))
      refine OGo.via (fun _ k => XS.iloadN X0.here hx rfl (hb hby d1_0) rfl (XS.iloadN X0.here hx rfl (hb hby d1_1) rfl (XS.icmpYes X0.here hx rfl (pc0 := 2) (pc' := 8) rfl (hb hby d1_2) rfl (flt (own_nlt (by omega) (by omega))).2.1 (by decide) (by decide) (XS.iloadN X0.here hx rfl (hb hby d1_8) rfl (XS.iloadN X0.here hx rfl (hb hby d1_9) rfl (XS.iloadN X0.here hx rfl (hb hby d1_10) rfl (XS.iadd X0.here hx rfl (hb hby d1_11) rfl k))))))) ?_
      show OGo _ _ _ _ (s₁.setTop (mkF m 12 #[.val (.int (Int32.ofNat kn)), .val (.int (Int32.ofNat pn)), .val (.int (Int32.ofNat nn)), .val (.ref a4)] [(.int ((Int32.ofNat pn) + (Int32.ofNat nn))), (.int (Int32.ofNat kn))]))
      rw [own_addN pn nn]
      show OGo _ _ _ _ (s₁.setTop (mkF m 12 #[.val (.int (Int32.ofNat kn)), .val (.int (Int32.ofNat pn)), .val (.int (Int32.ofNat nn)), .val (.ref a4)] [(.int (Int32.ofNat (pn + nn))), (.int (Int32.ofNat kn))]))
      refine OGo.via (fun _ k => XS.icmpNo X0.here hx rfl (hb hby d1_12) rfl (tlt (own_ilt hk2 (by omega))).2.1 (XS.aloadN X0.here hx rfl (hb hby d1_15) rfl rfl (XS.iloadN X0.here hx rfl (hb hby d1_16) rfl (XS.iloadN X0.here hx rfl (hb hby d1_17) rfl (XS.isub X0.here hx rfl (hb hby d1_18) rfl k))))) ?_
      show OGo _ _ _ _ (s₁.setTop (mkF m 19 #[.val (.int (Int32.ofNat kn)), .val (.int (Int32.ofNat pn)), .val (.int (Int32.ofNat nn)), .val (.ref a4)] [(.int ((Int32.ofNat kn) - (Int32.ofNat pn))), (.ref a4)]))
      rw [own_subN (show pn ≤ kn by omega)]
      show OGo _ _ _ _ (s₁.setTop (mkF m 19 #[.val (.int (Int32.ofNat kn)), .val (.int (Int32.ofNat pn)), .val (.int (Int32.ofNat nn)), .val (.ref a4)] [(.int (Int32.ofNat (kn - pn))), (.ref a4)]))
      obtain ⟨cl1, Ar1, q1, Sz1, Ng1, Hs1, Gf1⟩ := id V_a4
      have hin1 : ¬ ((Int32.ofNat (kn - pn)) < 0 ∨ cl1.slots.size ≤ ((Int32.ofNat (kn - pn))).toNatClampNeg) := inb_of Sz1 ⟨own_nn (by omega), own_ilt (n := 4) (by omega) (by omega)⟩
      have hat1 : cl1.slots[((Int32.ofNat (kn - pn))).toNatClampNeg]? = some (.int (ms.getD (kn - pn) 0)) := Hs1.at hin1 (by rw [own_nc (by omega)]; exact own_getm ms _)
      refine OGo.via (X0.caload hx (j := (Int32.ofNat (kn - pn))) (v := (.int (ms.getD (kn - pn) 0))) (by rw [e0]; exact Ar1.1) (State.isArrayOf_alike hZ.alike Ar1.2.1) Ar1.2.2 hin1 hat1 (g := (mkF m 19 #[.val (.int (Int32.ofNat kn)), .val (.int (Int32.ofNat pn)), .val (.int (Int32.ofNat nn)), .val (.ref a4)] [(.int (Int32.ofNat (kn - pn))), (.ref a4)])) rfl rfl (hb hby d1_19)) ?_
      show OGo _ _ _ _ (s₁.setTop (mkF m 20 #[.val (.int (Int32.ofNat kn)), .val (.int (Int32.ofNat pn)), .val (.int (Int32.ofNat nn)), .val (.ref a4)] [(.int (ms.getD (kn - pn) 0))]))
      show OGo _ _ _ _ (s₁.setTop (mkF m 20 #[.val (.int (Int32.ofNat kn)), .val (.int (Int32.ofNat pn)), .val (.int (Int32.ofNat nn)), .val (.ref a4)] [(.int (ms.getD (kn - pn) 0))]))
      refine own_retN (t := .char) (by simp) X0 hx Bd.notSynchronized Bd.returns (hb hby d1_20) (by decide) (by decide) ?_
      show Q_rm1 Z _ _ _ _ _ _ h0 n0 _ s₁.heap _
      exact ⟨(by rw [hms, own_cellB (by omega) hk2]), N0, e0⟩
    · show OGo _ _ _ _ (s₁.setTop (mkF m 0 #[.val (.int (Int32.ofNat kn)), .val (.int (Int32.ofNat pn)), .val (.int (Int32.ofNat nn)), .val (.ref a4)] []))
      refine OGo.via (fun _ k => XS.iloadN X0.here hx rfl (hb hby d1_0) rfl (XS.iloadN X0.here hx rfl (hb hby d1_1) rfl (XS.icmpYes X0.here hx rfl (pc0 := 2) (pc' := 8) rfl (hb hby d1_2) rfl (flt (own_nlt (by omega) (by omega))).2.1 (by decide) (by decide) (XS.iloadN X0.here hx rfl (hb hby d1_8) rfl (XS.iloadN X0.here hx rfl (hb hby d1_9) rfl (XS.iloadN X0.here hx rfl (hb hby d1_10) rfl (XS.iadd X0.here hx rfl (hb hby d1_11) rfl k))))))) ?_
      show OGo _ _ _ _ (s₁.setTop (mkF m 12 #[.val (.int (Int32.ofNat kn)), .val (.int (Int32.ofNat pn)), .val (.int (Int32.ofNat nn)), .val (.ref a4)] [(.int ((Int32.ofNat pn) + (Int32.ofNat nn))), (.int (Int32.ofNat kn))]))
      rw [own_addN pn nn]
      show OGo _ _ _ _ (s₁.setTop (mkF m 12 #[.val (.int (Int32.ofNat kn)), .val (.int (Int32.ofNat pn)), .val (.int (Int32.ofNat nn)), .val (.ref a4)] [(.int (Int32.ofNat (pn + nn))), (.int (Int32.ofNat kn))]))
      refine OGo.via (fun _ k => XS.icmpYes X0.here hx rfl (pc0 := 12) (pc' := 21) rfl (hb hby d1_12) rfl (flt (own_nlt (by omega) (by omega))).2.1 (by decide) (by decide) (XS.bipush X0.here hx rfl (hb hby d1_21) k)) ?_
      show OGo _ _ _ _ (s₁.setTop (mkF m 23 #[.val (.int (Int32.ofNat kn)), .val (.int (Int32.ofNat pn)), .val (.int (Int32.ofNat nn)), .val (.ref a4)] [(.int (47 : Int32))]))
      refine own_retN (t := .char) (by simp) X0 hx Bd.notSynchronized Bd.returns (hb hby d1_23) (by decide) (by decide) ?_
      show Q_rm1 Z _ _ _ _ _ _ h0 n0 _ s₁.heap _
      exact ⟨(by rw [own_cellA (Or.inr (by omega)), show nar .char (47 : Int32) = 47 from by decide]), N0, e0⟩
theorem d2_0 : decode method_4_code 0 = .ok (.iload_n 1, 1) := by decide +kernel
theorem d2_1 : decode method_4_code 1 = .ok (.ifCond .ne 14, 3) := by decide +kernel
theorem d2_15 : decode method_4_code 15 = .ok (.iload_n 1, 1) := by decide +kernel
theorem d2_16 : decode method_4_code 16 = .ok (.iconst 1, 1) := by decide +kernel
theorem d2_17 : decode method_4_code 17 = .ok (.if_icmp .ne 20, 3) := by decide +kernel
theorem d2_20 : decode method_4_code 20 = .ok (.new 25, 3) := by decide +kernel
theorem d2_23 : decode method_4_code 23 = .ok (.dup, 1) := by decide +kernel
theorem d2_24 : decode method_4_code 24 = .ok (.iconst 1, 1) := by decide +kernel
theorem d2_25 : decode method_4_code 25 = .ok (.newarray .char, 2) := by decide +kernel
theorem d2_27 : decode method_4_code 27 = .ok (.dup, 1) := by decide +kernel
theorem d2_28 : decode method_4_code 28 = .ok (.iconst 0, 1) := by decide +kernel
theorem d2_29 : decode method_4_code 29 = .ok (.aload_n 0, 1) := by decide +kernel
theorem d2_30 : decode method_4_code 30 = .ok (.iconst 0, 1) := by decide +kernel
theorem d2_31 : decode method_4_code 31 = .ok (.caload, 1) := by decide +kernel
theorem d2_32 : decode method_4_code 32 = .ok (.castore, 1) := by decide +kernel
theorem d2_33 : decode method_4_code 33 = .ok (.invokespecial 34, 3) := by decide +kernel
theorem pd_26 : parseMethodDescriptor "([C)V" = some ⟨[(.array .char)], none⟩ := by decide +kernel
theorem d2_36 : decode method_4_code 36 = .ok (.areturn, 1) := by decide +kernel
theorem d2_37 : decode method_4_code 37 = .ok (.iload_n 1, 1) := by decide +kernel
theorem d2_38 : decode method_4_code 38 = .ok (.iconst 2, 1) := by decide +kernel
theorem d2_39 : decode method_4_code 39 = .ok (.if_icmp .ne 26, 3) := by decide +kernel
theorem d2_42 : decode method_4_code 42 = .ok (.new 25, 3) := by decide +kernel
theorem d2_45 : decode method_4_code 45 = .ok (.dup, 1) := by decide +kernel
theorem d2_46 : decode method_4_code 46 = .ok (.iconst 2, 1) := by decide +kernel
theorem d2_47 : decode method_4_code 47 = .ok (.newarray .char, 2) := by decide +kernel
theorem d2_49 : decode method_4_code 49 = .ok (.dup, 1) := by decide +kernel
theorem d2_50 : decode method_4_code 50 = .ok (.iconst 0, 1) := by decide +kernel
theorem d2_51 : decode method_4_code 51 = .ok (.aload_n 0, 1) := by decide +kernel
theorem d2_52 : decode method_4_code 52 = .ok (.iconst 0, 1) := by decide +kernel
theorem d2_53 : decode method_4_code 53 = .ok (.caload, 1) := by decide +kernel
theorem d2_54 : decode method_4_code 54 = .ok (.castore, 1) := by decide +kernel
theorem d2_55 : decode method_4_code 55 = .ok (.dup, 1) := by decide +kernel
theorem d2_56 : decode method_4_code 56 = .ok (.iconst 1, 1) := by decide +kernel
theorem d2_57 : decode method_4_code 57 = .ok (.aload_n 0, 1) := by decide +kernel
theorem d2_58 : decode method_4_code 58 = .ok (.iconst 1, 1) := by decide +kernel
theorem d2_59 : decode method_4_code 59 = .ok (.caload, 1) := by decide +kernel
theorem d2_60 : decode method_4_code 60 = .ok (.castore, 1) := by decide +kernel
theorem d2_61 : decode method_4_code 61 = .ok (.invokespecial 34, 3) := by decide +kernel
theorem d2_64 : decode method_4_code 64 = .ok (.areturn, 1) := by decide +kernel
theorem d2_65 : decode method_4_code 65 = .ok (.iload_n 1, 1) := by decide +kernel
theorem d2_66 : decode method_4_code 66 = .ok (.iconst 3, 1) := by decide +kernel
theorem d2_67 : decode method_4_code 67 = .ok (.if_icmp .ne 32, 3) := by decide +kernel
theorem d2_70 : decode method_4_code 70 = .ok (.new 25, 3) := by decide +kernel
theorem d2_73 : decode method_4_code 73 = .ok (.dup, 1) := by decide +kernel
theorem d2_74 : decode method_4_code 74 = .ok (.iconst 3, 1) := by decide +kernel
theorem d2_75 : decode method_4_code 75 = .ok (.newarray .char, 2) := by decide +kernel
theorem d2_77 : decode method_4_code 77 = .ok (.dup, 1) := by decide +kernel
theorem d2_78 : decode method_4_code 78 = .ok (.iconst 0, 1) := by decide +kernel
theorem d2_79 : decode method_4_code 79 = .ok (.aload_n 0, 1) := by decide +kernel
theorem d2_80 : decode method_4_code 80 = .ok (.iconst 0, 1) := by decide +kernel
theorem d2_81 : decode method_4_code 81 = .ok (.caload, 1) := by decide +kernel
theorem d2_82 : decode method_4_code 82 = .ok (.castore, 1) := by decide +kernel
theorem d2_83 : decode method_4_code 83 = .ok (.dup, 1) := by decide +kernel
theorem d2_84 : decode method_4_code 84 = .ok (.iconst 1, 1) := by decide +kernel
theorem d2_85 : decode method_4_code 85 = .ok (.aload_n 0, 1) := by decide +kernel
theorem d2_86 : decode method_4_code 86 = .ok (.iconst 1, 1) := by decide +kernel
theorem d2_87 : decode method_4_code 87 = .ok (.caload, 1) := by decide +kernel
theorem d2_88 : decode method_4_code 88 = .ok (.castore, 1) := by decide +kernel
theorem d2_89 : decode method_4_code 89 = .ok (.dup, 1) := by decide +kernel
theorem d2_90 : decode method_4_code 90 = .ok (.iconst 2, 1) := by decide +kernel
theorem d2_91 : decode method_4_code 91 = .ok (.aload_n 0, 1) := by decide +kernel
theorem d2_92 : decode method_4_code 92 = .ok (.iconst 2, 1) := by decide +kernel
theorem d2_93 : decode method_4_code 93 = .ok (.caload, 1) := by decide +kernel
theorem d2_94 : decode method_4_code 94 = .ok (.castore, 1) := by decide +kernel
theorem d2_95 : decode method_4_code 95 = .ok (.invokespecial 34, 3) := by decide +kernel
theorem d2_98 : decode method_4_code 98 = .ok (.areturn, 1) := by decide +kernel
theorem d2_99 : decode method_4_code 99 = .ok (.iload_n 1, 1) := by decide +kernel
theorem d2_100 : decode method_4_code 100 = .ok (.iconst 4, 1) := by decide +kernel
theorem d2_101 : decode method_4_code 101 = .ok (.if_icmp .ne 38, 3) := by decide +kernel
theorem d2_104 : decode method_4_code 104 = .ok (.new 25, 3) := by decide +kernel
theorem d2_107 : decode method_4_code 107 = .ok (.dup, 1) := by decide +kernel
theorem d2_108 : decode method_4_code 108 = .ok (.iconst 4, 1) := by decide +kernel
theorem d2_109 : decode method_4_code 109 = .ok (.newarray .char, 2) := by decide +kernel
theorem d2_111 : decode method_4_code 111 = .ok (.dup, 1) := by decide +kernel
theorem d2_112 : decode method_4_code 112 = .ok (.iconst 0, 1) := by decide +kernel
theorem d2_113 : decode method_4_code 113 = .ok (.aload_n 0, 1) := by decide +kernel
theorem d2_114 : decode method_4_code 114 = .ok (.iconst 0, 1) := by decide +kernel
theorem d2_115 : decode method_4_code 115 = .ok (.caload, 1) := by decide +kernel
theorem d2_116 : decode method_4_code 116 = .ok (.castore, 1) := by decide +kernel
theorem d2_117 : decode method_4_code 117 = .ok (.dup, 1) := by decide +kernel
theorem d2_118 : decode method_4_code 118 = .ok (.iconst 1, 1) := by decide +kernel
theorem d2_119 : decode method_4_code 119 = .ok (.aload_n 0, 1) := by decide +kernel
theorem d2_120 : decode method_4_code 120 = .ok (.iconst 1, 1) := by decide +kernel
theorem d2_121 : decode method_4_code 121 = .ok (.caload, 1) := by decide +kernel
theorem d2_122 : decode method_4_code 122 = .ok (.castore, 1) := by decide +kernel
theorem d2_123 : decode method_4_code 123 = .ok (.dup, 1) := by decide +kernel
theorem d2_124 : decode method_4_code 124 = .ok (.iconst 2, 1) := by decide +kernel
theorem d2_125 : decode method_4_code 125 = .ok (.aload_n 0, 1) := by decide +kernel
theorem d2_126 : decode method_4_code 126 = .ok (.iconst 2, 1) := by decide +kernel
theorem d2_127 : decode method_4_code 127 = .ok (.caload, 1) := by decide +kernel
theorem d2_128 : decode method_4_code 128 = .ok (.castore, 1) := by decide +kernel
theorem d2_129 : decode method_4_code 129 = .ok (.dup, 1) := by decide +kernel
theorem d2_130 : decode method_4_code 130 = .ok (.iconst 3, 1) := by decide +kernel
theorem d2_131 : decode method_4_code 131 = .ok (.aload_n 0, 1) := by decide +kernel
theorem d2_132 : decode method_4_code 132 = .ok (.iconst 3, 1) := by decide +kernel
theorem d2_133 : decode method_4_code 133 = .ok (.caload, 1) := by decide +kernel
theorem d2_134 : decode method_4_code 134 = .ok (.castore, 1) := by decide +kernel
theorem d2_135 : decode method_4_code 135 = .ok (.invokespecial 34, 3) := by decide +kernel
theorem d2_138 : decode method_4_code 138 = .ok (.areturn, 1) := by decide +kernel
theorem d2_139 : decode method_4_code 139 = .ok (.iload_n 1, 1) := by decide +kernel
theorem d2_140 : decode method_4_code 140 = .ok (.iconst 5, 1) := by decide +kernel
theorem d2_141 : decode method_4_code 141 = .ok (.if_icmp .ne 44, 3) := by decide +kernel
theorem d2_144 : decode method_4_code 144 = .ok (.new 25, 3) := by decide +kernel
theorem d2_147 : decode method_4_code 147 = .ok (.dup, 1) := by decide +kernel
theorem d2_148 : decode method_4_code 148 = .ok (.iconst 5, 1) := by decide +kernel
theorem d2_149 : decode method_4_code 149 = .ok (.newarray .char, 2) := by decide +kernel
theorem d2_151 : decode method_4_code 151 = .ok (.dup, 1) := by decide +kernel
theorem d2_152 : decode method_4_code 152 = .ok (.iconst 0, 1) := by decide +kernel
theorem d2_153 : decode method_4_code 153 = .ok (.aload_n 0, 1) := by decide +kernel
theorem d2_154 : decode method_4_code 154 = .ok (.iconst 0, 1) := by decide +kernel
theorem d2_155 : decode method_4_code 155 = .ok (.caload, 1) := by decide +kernel
theorem d2_156 : decode method_4_code 156 = .ok (.castore, 1) := by decide +kernel
theorem d2_157 : decode method_4_code 157 = .ok (.dup, 1) := by decide +kernel
theorem d2_158 : decode method_4_code 158 = .ok (.iconst 1, 1) := by decide +kernel
theorem d2_159 : decode method_4_code 159 = .ok (.aload_n 0, 1) := by decide +kernel
theorem d2_160 : decode method_4_code 160 = .ok (.iconst 1, 1) := by decide +kernel
theorem d2_161 : decode method_4_code 161 = .ok (.caload, 1) := by decide +kernel
theorem d2_162 : decode method_4_code 162 = .ok (.castore, 1) := by decide +kernel
theorem d2_163 : decode method_4_code 163 = .ok (.dup, 1) := by decide +kernel
theorem d2_164 : decode method_4_code 164 = .ok (.iconst 2, 1) := by decide +kernel
theorem d2_165 : decode method_4_code 165 = .ok (.aload_n 0, 1) := by decide +kernel
theorem d2_166 : decode method_4_code 166 = .ok (.iconst 2, 1) := by decide +kernel
theorem d2_167 : decode method_4_code 167 = .ok (.caload, 1) := by decide +kernel
theorem d2_168 : decode method_4_code 168 = .ok (.castore, 1) := by decide +kernel
theorem d2_169 : decode method_4_code 169 = .ok (.dup, 1) := by decide +kernel
theorem d2_170 : decode method_4_code 170 = .ok (.iconst 3, 1) := by decide +kernel
theorem d2_171 : decode method_4_code 171 = .ok (.aload_n 0, 1) := by decide +kernel
theorem d2_172 : decode method_4_code 172 = .ok (.iconst 3, 1) := by decide +kernel
theorem d2_173 : decode method_4_code 173 = .ok (.caload, 1) := by decide +kernel
theorem d2_174 : decode method_4_code 174 = .ok (.castore, 1) := by decide +kernel
theorem d2_175 : decode method_4_code 175 = .ok (.dup, 1) := by decide +kernel
theorem d2_176 : decode method_4_code 176 = .ok (.iconst 4, 1) := by decide +kernel
theorem d2_177 : decode method_4_code 177 = .ok (.aload_n 0, 1) := by decide +kernel
theorem d2_178 : decode method_4_code 178 = .ok (.iconst 4, 1) := by decide +kernel
theorem d2_179 : decode method_4_code 179 = .ok (.caload, 1) := by decide +kernel
theorem d2_180 : decode method_4_code 180 = .ok (.castore, 1) := by decide +kernel
theorem d2_181 : decode method_4_code 181 = .ok (.invokespecial 34, 3) := by decide +kernel
theorem d2_184 : decode method_4_code 184 = .ok (.areturn, 1) := by decide +kernel
theorem d2_185 : decode method_4_code 185 = .ok (.iload_n 1, 1) := by decide +kernel
theorem d2_186 : decode method_4_code 186 = .ok (.bipush 6, 2) := by decide +kernel
theorem d2_188 : decode method_4_code 188 = .ok (.if_icmp .ne 51, 3) := by decide +kernel
theorem d2_191 : decode method_4_code 191 = .ok (.new 25, 3) := by decide +kernel
theorem d2_194 : decode method_4_code 194 = .ok (.dup, 1) := by decide +kernel
theorem d2_195 : decode method_4_code 195 = .ok (.bipush 6, 2) := by decide +kernel
theorem d2_197 : decode method_4_code 197 = .ok (.newarray .char, 2) := by decide +kernel
theorem d2_199 : decode method_4_code 199 = .ok (.dup, 1) := by decide +kernel
theorem d2_200 : decode method_4_code 200 = .ok (.iconst 0, 1) := by decide +kernel
theorem d2_201 : decode method_4_code 201 = .ok (.aload_n 0, 1) := by decide +kernel
theorem d2_202 : decode method_4_code 202 = .ok (.iconst 0, 1) := by decide +kernel
theorem d2_203 : decode method_4_code 203 = .ok (.caload, 1) := by decide +kernel
theorem d2_204 : decode method_4_code 204 = .ok (.castore, 1) := by decide +kernel
theorem d2_205 : decode method_4_code 205 = .ok (.dup, 1) := by decide +kernel
theorem d2_206 : decode method_4_code 206 = .ok (.iconst 1, 1) := by decide +kernel
theorem d2_207 : decode method_4_code 207 = .ok (.aload_n 0, 1) := by decide +kernel
theorem d2_208 : decode method_4_code 208 = .ok (.iconst 1, 1) := by decide +kernel
theorem d2_209 : decode method_4_code 209 = .ok (.caload, 1) := by decide +kernel
theorem d2_210 : decode method_4_code 210 = .ok (.castore, 1) := by decide +kernel
theorem d2_211 : decode method_4_code 211 = .ok (.dup, 1) := by decide +kernel
theorem d2_212 : decode method_4_code 212 = .ok (.iconst 2, 1) := by decide +kernel
theorem d2_213 : decode method_4_code 213 = .ok (.aload_n 0, 1) := by decide +kernel
theorem d2_214 : decode method_4_code 214 = .ok (.iconst 2, 1) := by decide +kernel
theorem d2_215 : decode method_4_code 215 = .ok (.caload, 1) := by decide +kernel
theorem d2_216 : decode method_4_code 216 = .ok (.castore, 1) := by decide +kernel
theorem d2_217 : decode method_4_code 217 = .ok (.dup, 1) := by decide +kernel
theorem d2_218 : decode method_4_code 218 = .ok (.iconst 3, 1) := by decide +kernel
theorem d2_219 : decode method_4_code 219 = .ok (.aload_n 0, 1) := by decide +kernel
theorem d2_220 : decode method_4_code 220 = .ok (.iconst 3, 1) := by decide +kernel
theorem d2_221 : decode method_4_code 221 = .ok (.caload, 1) := by decide +kernel
theorem d2_222 : decode method_4_code 222 = .ok (.castore, 1) := by decide +kernel
theorem d2_223 : decode method_4_code 223 = .ok (.dup, 1) := by decide +kernel
theorem d2_224 : decode method_4_code 224 = .ok (.iconst 4, 1) := by decide +kernel
theorem d2_225 : decode method_4_code 225 = .ok (.aload_n 0, 1) := by decide +kernel
theorem d2_226 : decode method_4_code 226 = .ok (.iconst 4, 1) := by decide +kernel
theorem d2_227 : decode method_4_code 227 = .ok (.caload, 1) := by decide +kernel
theorem d2_228 : decode method_4_code 228 = .ok (.castore, 1) := by decide +kernel
theorem d2_229 : decode method_4_code 229 = .ok (.dup, 1) := by decide +kernel
theorem d2_230 : decode method_4_code 230 = .ok (.iconst 5, 1) := by decide +kernel
theorem d2_231 : decode method_4_code 231 = .ok (.aload_n 0, 1) := by decide +kernel
theorem d2_232 : decode method_4_code 232 = .ok (.iconst 5, 1) := by decide +kernel
theorem d2_233 : decode method_4_code 233 = .ok (.caload, 1) := by decide +kernel
theorem d2_234 : decode method_4_code 234 = .ok (.castore, 1) := by decide +kernel
theorem d2_235 : decode method_4_code 235 = .ok (.invokespecial 34, 3) := by decide +kernel
theorem d2_238 : decode method_4_code 238 = .ok (.areturn, 1) := by decide +kernel
theorem d2_239 : decode method_4_code 239 = .ok (.iload_n 1, 1) := by decide +kernel
theorem d2_240 : decode method_4_code 240 = .ok (.bipush 7, 2) := by decide +kernel
theorem d2_242 : decode method_4_code 242 = .ok (.if_icmp .ne 59, 3) := by decide +kernel
theorem d2_245 : decode method_4_code 245 = .ok (.new 25, 3) := by decide +kernel
theorem d2_248 : decode method_4_code 248 = .ok (.dup, 1) := by decide +kernel
theorem d2_249 : decode method_4_code 249 = .ok (.bipush 7, 2) := by decide +kernel
theorem d2_251 : decode method_4_code 251 = .ok (.newarray .char, 2) := by decide +kernel
theorem d2_253 : decode method_4_code 253 = .ok (.dup, 1) := by decide +kernel
theorem d2_254 : decode method_4_code 254 = .ok (.iconst 0, 1) := by decide +kernel
theorem d2_255 : decode method_4_code 255 = .ok (.aload_n 0, 1) := by decide +kernel
theorem d2_256 : decode method_4_code 256 = .ok (.iconst 0, 1) := by decide +kernel
theorem d2_257 : decode method_4_code 257 = .ok (.caload, 1) := by decide +kernel
theorem d2_258 : decode method_4_code 258 = .ok (.castore, 1) := by decide +kernel
theorem d2_259 : decode method_4_code 259 = .ok (.dup, 1) := by decide +kernel
theorem d2_260 : decode method_4_code 260 = .ok (.iconst 1, 1) := by decide +kernel
theorem d2_261 : decode method_4_code 261 = .ok (.aload_n 0, 1) := by decide +kernel
theorem d2_262 : decode method_4_code 262 = .ok (.iconst 1, 1) := by decide +kernel
theorem d2_263 : decode method_4_code 263 = .ok (.caload, 1) := by decide +kernel
theorem d2_264 : decode method_4_code 264 = .ok (.castore, 1) := by decide +kernel
theorem d2_265 : decode method_4_code 265 = .ok (.dup, 1) := by decide +kernel
theorem d2_266 : decode method_4_code 266 = .ok (.iconst 2, 1) := by decide +kernel
theorem d2_267 : decode method_4_code 267 = .ok (.aload_n 0, 1) := by decide +kernel
theorem d2_268 : decode method_4_code 268 = .ok (.iconst 2, 1) := by decide +kernel
theorem d2_269 : decode method_4_code 269 = .ok (.caload, 1) := by decide +kernel
theorem d2_270 : decode method_4_code 270 = .ok (.castore, 1) := by decide +kernel
theorem d2_271 : decode method_4_code 271 = .ok (.dup, 1) := by decide +kernel
theorem d2_272 : decode method_4_code 272 = .ok (.iconst 3, 1) := by decide +kernel
theorem d2_273 : decode method_4_code 273 = .ok (.aload_n 0, 1) := by decide +kernel
theorem d2_274 : decode method_4_code 274 = .ok (.iconst 3, 1) := by decide +kernel
theorem d2_275 : decode method_4_code 275 = .ok (.caload, 1) := by decide +kernel
theorem d2_276 : decode method_4_code 276 = .ok (.castore, 1) := by decide +kernel
theorem d2_277 : decode method_4_code 277 = .ok (.dup, 1) := by decide +kernel
theorem d2_278 : decode method_4_code 278 = .ok (.iconst 4, 1) := by decide +kernel
theorem d2_279 : decode method_4_code 279 = .ok (.aload_n 0, 1) := by decide +kernel
theorem d2_280 : decode method_4_code 280 = .ok (.iconst 4, 1) := by decide +kernel
theorem d2_281 : decode method_4_code 281 = .ok (.caload, 1) := by decide +kernel
theorem d2_282 : decode method_4_code 282 = .ok (.castore, 1) := by decide +kernel
theorem d2_283 : decode method_4_code 283 = .ok (.dup, 1) := by decide +kernel
theorem d2_284 : decode method_4_code 284 = .ok (.iconst 5, 1) := by decide +kernel
theorem d2_285 : decode method_4_code 285 = .ok (.aload_n 0, 1) := by decide +kernel
theorem d2_286 : decode method_4_code 286 = .ok (.iconst 5, 1) := by decide +kernel
theorem d2_287 : decode method_4_code 287 = .ok (.caload, 1) := by decide +kernel
theorem d2_288 : decode method_4_code 288 = .ok (.castore, 1) := by decide +kernel
theorem d2_289 : decode method_4_code 289 = .ok (.dup, 1) := by decide +kernel
theorem d2_290 : decode method_4_code 290 = .ok (.bipush 6, 2) := by decide +kernel
theorem d2_292 : decode method_4_code 292 = .ok (.aload_n 0, 1) := by decide +kernel
theorem d2_293 : decode method_4_code 293 = .ok (.bipush 6, 2) := by decide +kernel
theorem d2_295 : decode method_4_code 295 = .ok (.caload, 1) := by decide +kernel
theorem d2_296 : decode method_4_code 296 = .ok (.castore, 1) := by decide +kernel
theorem d2_297 : decode method_4_code 297 = .ok (.invokespecial 34, 3) := by decide +kernel
theorem d2_300 : decode method_4_code 300 = .ok (.areturn, 1) := by decide +kernel
theorem d2_301 : decode method_4_code 301 = .ok (.iload_n 1, 1) := by decide +kernel
theorem d2_302 : decode method_4_code 302 = .ok (.bipush 8, 2) := by decide +kernel
theorem d2_304 : decode method_4_code 304 = .ok (.if_icmp .ne 67, 3) := by decide +kernel
theorem d2_307 : decode method_4_code 307 = .ok (.new 25, 3) := by decide +kernel
theorem d2_310 : decode method_4_code 310 = .ok (.dup, 1) := by decide +kernel
theorem d2_311 : decode method_4_code 311 = .ok (.bipush 8, 2) := by decide +kernel
theorem d2_313 : decode method_4_code 313 = .ok (.newarray .char, 2) := by decide +kernel
theorem d2_315 : decode method_4_code 315 = .ok (.dup, 1) := by decide +kernel
theorem d2_316 : decode method_4_code 316 = .ok (.iconst 0, 1) := by decide +kernel
theorem d2_317 : decode method_4_code 317 = .ok (.aload_n 0, 1) := by decide +kernel
theorem d2_318 : decode method_4_code 318 = .ok (.iconst 0, 1) := by decide +kernel
theorem d2_319 : decode method_4_code 319 = .ok (.caload, 1) := by decide +kernel
theorem d2_320 : decode method_4_code 320 = .ok (.castore, 1) := by decide +kernel
theorem d2_321 : decode method_4_code 321 = .ok (.dup, 1) := by decide +kernel
theorem d2_322 : decode method_4_code 322 = .ok (.iconst 1, 1) := by decide +kernel
theorem d2_323 : decode method_4_code 323 = .ok (.aload_n 0, 1) := by decide +kernel
theorem d2_324 : decode method_4_code 324 = .ok (.iconst 1, 1) := by decide +kernel
theorem d2_325 : decode method_4_code 325 = .ok (.caload, 1) := by decide +kernel
theorem d2_326 : decode method_4_code 326 = .ok (.castore, 1) := by decide +kernel
theorem d2_327 : decode method_4_code 327 = .ok (.dup, 1) := by decide +kernel
theorem d2_328 : decode method_4_code 328 = .ok (.iconst 2, 1) := by decide +kernel
theorem d2_329 : decode method_4_code 329 = .ok (.aload_n 0, 1) := by decide +kernel
theorem d2_330 : decode method_4_code 330 = .ok (.iconst 2, 1) := by decide +kernel
theorem d2_331 : decode method_4_code 331 = .ok (.caload, 1) := by decide +kernel
theorem d2_332 : decode method_4_code 332 = .ok (.castore, 1) := by decide +kernel
theorem d2_333 : decode method_4_code 333 = .ok (.dup, 1) := by decide +kernel
theorem d2_334 : decode method_4_code 334 = .ok (.iconst 3, 1) := by decide +kernel
theorem d2_335 : decode method_4_code 335 = .ok (.aload_n 0, 1) := by decide +kernel
theorem d2_336 : decode method_4_code 336 = .ok (.iconst 3, 1) := by decide +kernel
theorem d2_337 : decode method_4_code 337 = .ok (.caload, 1) := by decide +kernel
theorem d2_338 : decode method_4_code 338 = .ok (.castore, 1) := by decide +kernel
theorem d2_339 : decode method_4_code 339 = .ok (.dup, 1) := by decide +kernel
theorem d2_340 : decode method_4_code 340 = .ok (.iconst 4, 1) := by decide +kernel
theorem d2_341 : decode method_4_code 341 = .ok (.aload_n 0, 1) := by decide +kernel
theorem d2_342 : decode method_4_code 342 = .ok (.iconst 4, 1) := by decide +kernel
theorem d2_343 : decode method_4_code 343 = .ok (.caload, 1) := by decide +kernel
theorem d2_344 : decode method_4_code 344 = .ok (.castore, 1) := by decide +kernel
theorem d2_345 : decode method_4_code 345 = .ok (.dup, 1) := by decide +kernel
theorem d2_346 : decode method_4_code 346 = .ok (.iconst 5, 1) := by decide +kernel
theorem d2_347 : decode method_4_code 347 = .ok (.aload_n 0, 1) := by decide +kernel
theorem d2_348 : decode method_4_code 348 = .ok (.iconst 5, 1) := by decide +kernel
theorem d2_349 : decode method_4_code 349 = .ok (.caload, 1) := by decide +kernel
theorem d2_350 : decode method_4_code 350 = .ok (.castore, 1) := by decide +kernel
theorem d2_351 : decode method_4_code 351 = .ok (.dup, 1) := by decide +kernel
theorem d2_352 : decode method_4_code 352 = .ok (.bipush 6, 2) := by decide +kernel
theorem d2_354 : decode method_4_code 354 = .ok (.aload_n 0, 1) := by decide +kernel
theorem d2_355 : decode method_4_code 355 = .ok (.bipush 6, 2) := by decide +kernel
theorem d2_357 : decode method_4_code 357 = .ok (.caload, 1) := by decide +kernel
theorem d2_358 : decode method_4_code 358 = .ok (.castore, 1) := by decide +kernel
theorem d2_359 : decode method_4_code 359 = .ok (.dup, 1) := by decide +kernel
theorem d2_360 : decode method_4_code 360 = .ok (.bipush 7, 2) := by decide +kernel
theorem d2_362 : decode method_4_code 362 = .ok (.aload_n 0, 1) := by decide +kernel
theorem d2_363 : decode method_4_code 363 = .ok (.bipush 7, 2) := by decide +kernel
theorem d2_365 : decode method_4_code 365 = .ok (.caload, 1) := by decide +kernel
theorem d2_366 : decode method_4_code 366 = .ok (.castore, 1) := by decide +kernel
theorem d2_367 : decode method_4_code 367 = .ok (.invokespecial 34, 3) := by decide +kernel
theorem d2_370 : decode method_4_code 370 = .ok (.areturn, 1) := by decide +kernel
theorem d2_371 : decode method_4_code 371 = .ok (.iload_n 1, 1) := by decide +kernel
theorem d2_372 : decode method_4_code 372 = .ok (.bipush 9, 2) := by decide +kernel
theorem d2_374 : decode method_4_code 374 = .ok (.if_icmp .ne 75, 3) := by decide +kernel
theorem d2_377 : decode method_4_code 377 = .ok (.new 25, 3) := by decide +kernel
theorem d2_380 : decode method_4_code 380 = .ok (.dup, 1) := by decide +kernel
theorem d2_381 : decode method_4_code 381 = .ok (.bipush 9, 2) := by decide +kernel
theorem d2_383 : decode method_4_code 383 = .ok (.newarray .char, 2) := by decide +kernel
theorem d2_385 : decode method_4_code 385 = .ok (.dup, 1) := by decide +kernel
theorem d2_386 : decode method_4_code 386 = .ok (.iconst 0, 1) := by decide +kernel
theorem d2_387 : decode method_4_code 387 = .ok (.aload_n 0, 1) := by decide +kernel
theorem d2_388 : decode method_4_code 388 = .ok (.iconst 0, 1) := by decide +kernel
theorem d2_389 : decode method_4_code 389 = .ok (.caload, 1) := by decide +kernel
theorem d2_390 : decode method_4_code 390 = .ok (.castore, 1) := by decide +kernel
theorem d2_391 : decode method_4_code 391 = .ok (.dup, 1) := by decide +kernel
theorem d2_392 : decode method_4_code 392 = .ok (.iconst 1, 1) := by decide +kernel
theorem d2_393 : decode method_4_code 393 = .ok (.aload_n 0, 1) := by decide +kernel
theorem d2_394 : decode method_4_code 394 = .ok (.iconst 1, 1) := by decide +kernel
theorem d2_395 : decode method_4_code 395 = .ok (.caload, 1) := by decide +kernel
theorem d2_396 : decode method_4_code 396 = .ok (.castore, 1) := by decide +kernel
theorem d2_397 : decode method_4_code 397 = .ok (.dup, 1) := by decide +kernel
theorem d2_398 : decode method_4_code 398 = .ok (.iconst 2, 1) := by decide +kernel
theorem d2_399 : decode method_4_code 399 = .ok (.aload_n 0, 1) := by decide +kernel
theorem d2_400 : decode method_4_code 400 = .ok (.iconst 2, 1) := by decide +kernel
theorem d2_401 : decode method_4_code 401 = .ok (.caload, 1) := by decide +kernel
theorem d2_402 : decode method_4_code 402 = .ok (.castore, 1) := by decide +kernel
theorem d2_403 : decode method_4_code 403 = .ok (.dup, 1) := by decide +kernel
theorem d2_404 : decode method_4_code 404 = .ok (.iconst 3, 1) := by decide +kernel
theorem d2_405 : decode method_4_code 405 = .ok (.aload_n 0, 1) := by decide +kernel
theorem d2_406 : decode method_4_code 406 = .ok (.iconst 3, 1) := by decide +kernel
theorem d2_407 : decode method_4_code 407 = .ok (.caload, 1) := by decide +kernel
theorem d2_408 : decode method_4_code 408 = .ok (.castore, 1) := by decide +kernel
theorem d2_409 : decode method_4_code 409 = .ok (.dup, 1) := by decide +kernel
theorem d2_410 : decode method_4_code 410 = .ok (.iconst 4, 1) := by decide +kernel
theorem d2_411 : decode method_4_code 411 = .ok (.aload_n 0, 1) := by decide +kernel
theorem d2_412 : decode method_4_code 412 = .ok (.iconst 4, 1) := by decide +kernel
theorem d2_413 : decode method_4_code 413 = .ok (.caload, 1) := by decide +kernel
theorem d2_414 : decode method_4_code 414 = .ok (.castore, 1) := by decide +kernel
theorem d2_415 : decode method_4_code 415 = .ok (.dup, 1) := by decide +kernel
theorem d2_416 : decode method_4_code 416 = .ok (.iconst 5, 1) := by decide +kernel
theorem d2_417 : decode method_4_code 417 = .ok (.aload_n 0, 1) := by decide +kernel
theorem d2_418 : decode method_4_code 418 = .ok (.iconst 5, 1) := by decide +kernel
theorem d2_419 : decode method_4_code 419 = .ok (.caload, 1) := by decide +kernel
theorem d2_420 : decode method_4_code 420 = .ok (.castore, 1) := by decide +kernel
theorem d2_421 : decode method_4_code 421 = .ok (.dup, 1) := by decide +kernel
theorem d2_422 : decode method_4_code 422 = .ok (.bipush 6, 2) := by decide +kernel
theorem d2_424 : decode method_4_code 424 = .ok (.aload_n 0, 1) := by decide +kernel
theorem d2_425 : decode method_4_code 425 = .ok (.bipush 6, 2) := by decide +kernel
theorem d2_427 : decode method_4_code 427 = .ok (.caload, 1) := by decide +kernel
theorem d2_428 : decode method_4_code 428 = .ok (.castore, 1) := by decide +kernel
theorem d2_429 : decode method_4_code 429 = .ok (.dup, 1) := by decide +kernel
theorem d2_430 : decode method_4_code 430 = .ok (.bipush 7, 2) := by decide +kernel
theorem d2_432 : decode method_4_code 432 = .ok (.aload_n 0, 1) := by decide +kernel
theorem d2_433 : decode method_4_code 433 = .ok (.bipush 7, 2) := by decide +kernel
theorem d2_435 : decode method_4_code 435 = .ok (.caload, 1) := by decide +kernel
theorem d2_436 : decode method_4_code 436 = .ok (.castore, 1) := by decide +kernel
theorem d2_437 : decode method_4_code 437 = .ok (.dup, 1) := by decide +kernel
theorem d2_438 : decode method_4_code 438 = .ok (.bipush 8, 2) := by decide +kernel
theorem d2_440 : decode method_4_code 440 = .ok (.aload_n 0, 1) := by decide +kernel
theorem d2_441 : decode method_4_code 441 = .ok (.bipush 8, 2) := by decide +kernel
theorem d2_443 : decode method_4_code 443 = .ok (.caload, 1) := by decide +kernel
theorem d2_444 : decode method_4_code 444 = .ok (.castore, 1) := by decide +kernel
theorem d2_445 : decode method_4_code 445 = .ok (.invokespecial 34, 3) := by decide +kernel
theorem d2_448 : decode method_4_code 448 = .ok (.areturn, 1) := by decide +kernel
theorem d2_449 : decode method_4_code 449 = .ok (.new 25, 3) := by decide +kernel
theorem d2_452 : decode method_4_code 452 = .ok (.dup, 1) := by decide +kernel
theorem d2_453 : decode method_4_code 453 = .ok (.bipush 10, 2) := by decide +kernel
theorem d2_455 : decode method_4_code 455 = .ok (.newarray .char, 2) := by decide +kernel
theorem d2_457 : decode method_4_code 457 = .ok (.dup, 1) := by decide +kernel
theorem d2_458 : decode method_4_code 458 = .ok (.iconst 0, 1) := by decide +kernel
theorem d2_459 : decode method_4_code 459 = .ok (.aload_n 0, 1) := by decide +kernel
theorem d2_460 : decode method_4_code 460 = .ok (.iconst 0, 1) := by decide +kernel
theorem d2_461 : decode method_4_code 461 = .ok (.caload, 1) := by decide +kernel
theorem d2_462 : decode method_4_code 462 = .ok (.castore, 1) := by decide +kernel
theorem d2_463 : decode method_4_code 463 = .ok (.dup, 1) := by decide +kernel
theorem d2_464 : decode method_4_code 464 = .ok (.iconst 1, 1) := by decide +kernel
theorem d2_465 : decode method_4_code 465 = .ok (.aload_n 0, 1) := by decide +kernel
theorem d2_466 : decode method_4_code 466 = .ok (.iconst 1, 1) := by decide +kernel
theorem d2_467 : decode method_4_code 467 = .ok (.caload, 1) := by decide +kernel
theorem d2_468 : decode method_4_code 468 = .ok (.castore, 1) := by decide +kernel
theorem d2_469 : decode method_4_code 469 = .ok (.dup, 1) := by decide +kernel
theorem d2_470 : decode method_4_code 470 = .ok (.iconst 2, 1) := by decide +kernel
theorem d2_471 : decode method_4_code 471 = .ok (.aload_n 0, 1) := by decide +kernel
theorem d2_472 : decode method_4_code 472 = .ok (.iconst 2, 1) := by decide +kernel
theorem d2_473 : decode method_4_code 473 = .ok (.caload, 1) := by decide +kernel
theorem d2_474 : decode method_4_code 474 = .ok (.castore, 1) := by decide +kernel
theorem d2_475 : decode method_4_code 475 = .ok (.dup, 1) := by decide +kernel
theorem d2_476 : decode method_4_code 476 = .ok (.iconst 3, 1) := by decide +kernel
theorem d2_477 : decode method_4_code 477 = .ok (.aload_n 0, 1) := by decide +kernel
theorem d2_478 : decode method_4_code 478 = .ok (.iconst 3, 1) := by decide +kernel
theorem d2_479 : decode method_4_code 479 = .ok (.caload, 1) := by decide +kernel
theorem d2_480 : decode method_4_code 480 = .ok (.castore, 1) := by decide +kernel
theorem d2_481 : decode method_4_code 481 = .ok (.dup, 1) := by decide +kernel
theorem d2_482 : decode method_4_code 482 = .ok (.iconst 4, 1) := by decide +kernel
theorem d2_483 : decode method_4_code 483 = .ok (.aload_n 0, 1) := by decide +kernel
theorem d2_484 : decode method_4_code 484 = .ok (.iconst 4, 1) := by decide +kernel
theorem d2_485 : decode method_4_code 485 = .ok (.caload, 1) := by decide +kernel
theorem d2_486 : decode method_4_code 486 = .ok (.castore, 1) := by decide +kernel
theorem d2_487 : decode method_4_code 487 = .ok (.dup, 1) := by decide +kernel
theorem d2_488 : decode method_4_code 488 = .ok (.iconst 5, 1) := by decide +kernel
theorem d2_489 : decode method_4_code 489 = .ok (.aload_n 0, 1) := by decide +kernel
theorem d2_490 : decode method_4_code 490 = .ok (.iconst 5, 1) := by decide +kernel
theorem d2_491 : decode method_4_code 491 = .ok (.caload, 1) := by decide +kernel
theorem d2_492 : decode method_4_code 492 = .ok (.castore, 1) := by decide +kernel
theorem d2_493 : decode method_4_code 493 = .ok (.dup, 1) := by decide +kernel
theorem d2_494 : decode method_4_code 494 = .ok (.bipush 6, 2) := by decide +kernel
theorem d2_496 : decode method_4_code 496 = .ok (.aload_n 0, 1) := by decide +kernel
theorem d2_497 : decode method_4_code 497 = .ok (.bipush 6, 2) := by decide +kernel
theorem d2_499 : decode method_4_code 499 = .ok (.caload, 1) := by decide +kernel
theorem d2_500 : decode method_4_code 500 = .ok (.castore, 1) := by decide +kernel
theorem d2_501 : decode method_4_code 501 = .ok (.dup, 1) := by decide +kernel
theorem d2_502 : decode method_4_code 502 = .ok (.bipush 7, 2) := by decide +kernel
theorem d2_504 : decode method_4_code 504 = .ok (.aload_n 0, 1) := by decide +kernel
theorem d2_505 : decode method_4_code 505 = .ok (.bipush 7, 2) := by decide +kernel
theorem d2_507 : decode method_4_code 507 = .ok (.caload, 1) := by decide +kernel
theorem d2_508 : decode method_4_code 508 = .ok (.castore, 1) := by decide +kernel
theorem d2_509 : decode method_4_code 509 = .ok (.dup, 1) := by decide +kernel
theorem d2_510 : decode method_4_code 510 = .ok (.bipush 8, 2) := by decide +kernel
theorem d2_512 : decode method_4_code 512 = .ok (.aload_n 0, 1) := by decide +kernel
theorem d2_513 : decode method_4_code 513 = .ok (.bipush 8, 2) := by decide +kernel
theorem d2_515 : decode method_4_code 515 = .ok (.caload, 1) := by decide +kernel
theorem d2_516 : decode method_4_code 516 = .ok (.castore, 1) := by decide +kernel
theorem d2_517 : decode method_4_code 517 = .ok (.dup, 1) := by decide +kernel
theorem d2_518 : decode method_4_code 518 = .ok (.bipush 9, 2) := by decide +kernel
theorem d2_520 : decode method_4_code 520 = .ok (.aload_n 0, 1) := by decide +kernel
theorem d2_521 : decode method_4_code 521 = .ok (.bipush 9, 2) := by decide +kernel
theorem d2_523 : decode method_4_code 523 = .ok (.caload, 1) := by decide +kernel
theorem d2_524 : decode method_4_code 524 = .ok (.castore, 1) := by decide +kernel
theorem d2_525 : decode method_4_code 525 = .ok (.invokespecial 34, 3) := by decide +kernel
theorem d2_528 : decode method_4_code 528 = .ok (.areturn, 1) := by decide +kernel
theorem ef_rm2 (m : MethodId) (a1 : Addr) (zz : Nat) : entryFrame m #[(.ref a1), (.int (Int32.ofNat zz))] 2 = mkF m 0 #[.val (.ref a1), .val (.int (Int32.ofNat zz))] [] := by
  first | (simp [entryFrame, mkF, argsToLocals, Value.category]; done) | rfl
def Q_rm2 (Z : State) (a1 : Addr) (k1 : ClassId) (zz : Nat) (y0 : Int32) (y1 : Int32) (y2 : Int32) (y3 : Int32) (y4 : Int32) (y5 : Int32) (y6 : Int32) (y7 : Int32) (y8 : Int32) (y9 : Int32) (w : Int32) (fm : Value) (h0 : Heap) (n0 : Nat) (v : Option Value) (h : Heap) (L : List Loc) : Prop := ∃ rr : Addr, ∃ vr : Addr, ∃ kr : ClassId, ∃ cr : Int32, ∃ zr : Int32, ∃ br : List Value, v = some (.ref rr) ∧ Fr n0 L ∧ Keep h0 h [] ∧ Exa Z h rr "java/lang/String" ∧ Fld Z h rr "java/lang/String" "value" "[B" (.ref vr) ∧ Fld Z h rr "java/lang/String" "coder" "B" (.int cr) ∧ Arv Z h vr kr .byte zr br (.int (0 : Int32)) ∧ (own_Rep (List.take zz [y0, y1, y2, y3, y4, y5, y6, y7, y8, y9]) cr zr br)
abbrev R_rm2 : Room := ⟨6, 4, 44, 88⟩
set_option maxRecDepth 65536 in
set_option maxHeartbeats 40000000 in
theorem rm2 (l : Launch) (Z : State) (a0 : Array Value) (hw : ∀ d ∈ tables_1, d.before a0 Z = true) (ws : List Jvm.Cond) (a1 : Addr) (k1 : ClassId) (zz : Nat) (y0 : Int32) (y1 : Int32) (y2 : Int32) (y3 : Int32) (y4 : Int32) (y5 : Int32) (y6 : Int32) (y7 : Int32) (y8 : Int32) (y9 : Int32) (w : Int32) (fm : Value) (h0 : Heap) (n0 : Nat) (Z0 : n0 ≤ h0.size) (V_a1 : Arv Z h0 a1 k1 .char (10 : Int32) [(.int y0), (.int y1), (.int y2), (.int y3), (.int y4), (.int y5), (.int y6), (.int y7), (.int y8), (.int y9)] (.int (0 : Int32))) (S_COMPACT_STRINGS : Sta Z h0 "java/lang/String" "COMPACT_STRINGS" "Z" (.int w)) (S_SIOOBE_FORMATTER : Sta Z h0 "jdk/internal/util/Preconditions" "SIOOBE_FORMATTER" "Ljava/util/function/BiFunction;" fm) (S__assertionsDisabled : Sta Z h0 "java/lang/StringUTF16" "$assertionsDisabled" "Z" (.int (1 : Int32))) (S_HI_BYTE_SHIFT : Sta Z h0 "java/lang/StringUTF16" "HI_BYTE_SHIFT" "I" (.int (0 : Int32))) (S_LO_BYTE_SHIFT : Sta Z h0 "java/lang/StringUTF16" "LO_BYTE_SHIFT" "I" (.int (8 : Int32))) (hw0 : ¬ w = (0 : Int32)) (hz1 : 1 ≤ zz) (hz10 : zz ≤ 10) (hy0 : nar .char y0 = y0) (hy1 : nar .char y1 = y1) (hy2 : nar .char y2 = y2) (hy3 : nar .char y3 = y3) (hy4 : nar .char y4 = y4) (hy5 : nar .char y5 = y5) (hy6 : nar .char y6 = y6) (hy7 : nar .char y7 = y7) (hy8 : nar .char y8 = y8) (hy9 : nar .char y9 = y9) :
    MetFree l own_y37 (head1 (Jvm.Cond.code own_y37 method_4_code 2 (some (.object "java/lang/String")) :: ws) R_rm2) (fun a U => a = #[(.ref a1), (.int (Int32.ofNat zz))] ∧ Z.Warmed39 U.vm ∧ U.heap = h0) (fun _ _ _ _ _ => True) (fun _ U o U' => ∃ v L, o = .returned v ∧ Q_rm2 Z a1 k1 zz y0 y1 y2 y3 y4 y5 y6 y7 y8 y9 w fm h0 n0 v U'.heap L ∧ FrameEnd U o U' L R_rm2.cells R_rm2.slots) := by
  refine MetFree.of_bodySF (plainFor_of_name pn_UserPathTrimmedPinLaw) hisR ?_
  intro p e s m args below meth c s₁ Bd hml0 hP hK
  obtain ⟨rfl, hZ, hh⟩ := hP
  have hx := Bd.exec
  have hby := Bd.bytes
  have hml : c.maxLocals = 2 := hml0
  have hown : s.vm.findClass "com/example/ianus/ianus/path/UserPathTrimmedPinLaw" = some m.cls := findClass_of_methodNamed Bd.named
  have hnm := (name_of_methodNamed Bd.named Bd.method).1
  have X0 : Stand p l e R_rm2 s m #[(.ref a1), (.int (Int32.ofNat zz))] below meth c s₁ [] 0 0 := Stand.of_body Bd
  have e0 : s₁.heap = h0 := by rw [← hh, Bd.state]; rfl
  have N0 := Fr.nil n0
  show OGo p.tables e below (own_Kq s (fun v h L => Q_rm2 Z a1 k1 zz y0 y1 y2 y3 y4 y5 y6 y7 y8 y9 w fm h0 n0 v h L) R_rm2.cells R_rm2.slots) (s₁.setTop (entryFrame m #[(.ref a1), (.int (Int32.ofNat zz))] 2))
  refine OGo.cast (ef_rm2 m a1 zz) ?_
  show OGo _ _ _ _ (s₁.setTop (mkF m 0 #[.val (.ref a1), .val (.int (Int32.ofNat zz))] []))
  have hzc : zz = 1 ∨ zz = 2 ∨ zz = 3 ∨ zz = 4 ∨ zz = 5 ∨ zz = 6 ∨ zz = 7 ∨ zz = 8 ∨ zz = 9 ∨ zz = 10 := by omega
  rcases hzc with rfl | rfl | rfl | rfl | rfl | rfl | rfl | rfl | rfl | rfl
  · show OGo _ _ _ _ (s₁.setTop (mkF m 0 #[.val (.ref a1), .val (.int (1 : Int32))] []))
    refine OGo.via (fun _ k => XS.iloadN X0.here hx rfl (hb hby d2_0) rfl (XS.ifYes X0.here hx rfl (pc0 := 1) (pc' := 15) rfl (hb hby d2_1) rfl ((if0 _ _).trans (feq (by decide : ¬ ((1 : Int32) = (0 : Int32)))).2) (by decide) (by decide) (XS.iloadN X0.here hx rfl (hb hby d2_15) rfl (XS.iconst X0.here hx rfl (hb hby d2_16) (XS.icmpNo X0.here hx rfl (hb hby d2_17) rfl (teq (by decide : (1 : Int32) = (1 : Int32))).2 k))))) ?_
    obtain ⟨T1, h1, X1, e1, E1, A1, D1, -, st1⟩ := newO X0 hx hZ hown (own_w hw 9 rfl) (own_w hw 10 rfl) (own_w hw 11 rfl) e0 (g := (mkF m 20 #[.val (.ref a1), .val (.int (1 : Int32))] [])) rfl (hb hby d2_20) (by decide) (by decide)
    obtain ⟨b1, g1⟩ : ∃ z, z = h0.size := ⟨_, rfl⟩
    rw [← g1] at A1 D1 st1
    refine OGo.via st1 ?_
    have K1 : Keep h0 h1 [] := (Keep.refl h0 []).ext E1
    have lt_a1_b1 : a1 < b1 := Nat.lt_of_lt_of_le V_a1.lt (Nat.le_of_eq g1.symm)
    have sz_b1 : h0.size ≤ b1 := Nat.le_trans (Keep.refl h0 []).1 (Nat.le_of_eq g1.symm)
    have g_b1 : n0 ≤ b1 := Nat.le_trans Z0 sz_b1
    have F1_value : Fld Z h1 b1 "java/lang/String" "value" "[B" .null := D1 (Or.inr (own_w hw 24 rfl)) (ty := (.array .byte)) (by decide)
    have F1_coder : Fld Z h1 b1 "java/lang/String" "coder" "B" (.int (0 : Int32)) := D1 (Or.inr (own_w hw 25 rfl)) (ty := .byte) (by decide)
    show OGo _ _ _ _ (T1.setTop (mkF m 23 #[.val (.ref a1), .val (.int (1 : Int32))] [(.ref b1)]))
    refine OGo.via (fun _ k => XS.dup X1.here hx rfl (hb hby d2_23) rfl rfl (XS.iconst X1.here hx rfl (hb hby d2_24) k)) ?_
    have f3 := V_a1.ext E1
    obtain ⟨T2, h2, ka2, X2, e2, E2, A2, Y2, st2⟩ := newPE (ad := "[C") X1 hx hZ (own_w hw 0 rfl) e1 (g := (mkF m 25 #[.val (.ref a1), .val (.int (1 : Int32))] [(.int (1 : Int32)), (.ref b1), (.ref b1)])) rfl (hb hby d2_25) rfl (by decide) (cap := 1) (by decide) (by decide) (by decide) (by decide) (by decide)
    obtain ⟨b2, g2⟩ : ∃ z, z = h1.size := ⟨_, rfl⟩
    rw [← g2] at A2 Y2 st2
    refine OGo.via st2 ?_
    have K2 : Keep h0 h2 [] := K1.ext E2
    have lt_a1_b2 : a1 < b2 := Nat.lt_of_lt_of_le f3.lt (Nat.le_of_eq g2.symm)
    have lt_b1_b2 : b1 < b2 := Nat.lt_of_lt_of_le A1.lt (Nat.le_of_eq g2.symm)
    have sz_b2 : h0.size ≤ b2 := Nat.le_trans K1.1 (Nat.le_of_eq g2.symm)
    have g_b2 : n0 ≤ b2 := Nat.le_trans Z0 sz_b2
    have V2 : Arv Z h2 b2 ka2 .char (1 : Int32) [(.int (0 : Int32))] (.int (0 : Int32)) := (Arv.new A2 (by decide)).pad (pad_rep [] (.int (0 : Int32)) 1)
    show OGo _ _ _ _ (T2.setTop (mkF m 27 #[.val (.ref a1), .val (.int (1 : Int32))] [(.ref b2), (.ref b1), (.ref b1)]))
    refine OGo.via (fun _ k => XS.dup X2.here hx rfl (hb hby d2_27) rfl rfl (XS.iconst X2.here hx rfl (hb hby d2_28) (XS.aloadN X2.here hx rfl (hb hby d2_29) rfl rfl (XS.iconst X2.here hx rfl (hb hby d2_30) k)))) ?_
    have f5 := f3.ext E2
    obtain ⟨cl4, Ar4, q4, Sz4, Ng4, Hs4, Gf4⟩ := id f5
    have hin4 : ¬ ((0 : Int32) < 0 ∨ cl4.slots.size ≤ ((0 : Int32)).toNatClampNeg) := inb_of Sz4 ⟨by decide, by decide⟩
    have hat4 : cl4.slots[((0 : Int32)).toNatClampNeg]? = some (.int y0) := Hs4.at hin4 rfl
    refine OGo.via (X2.caload hx (j := (0 : Int32)) (v := (.int y0)) (by rw [e2]; exact Ar4.1) (State.isArrayOf_alike hZ.alike Ar4.2.1) Ar4.2.2 hin4 hat4 (g := (mkF m 31 #[.val (.ref a1), .val (.int (1 : Int32))] [(.int (0 : Int32)), (.ref a1), (.int (0 : Int32)), (.ref b2), (.ref b2), (.ref b1), (.ref b1)])) rfl rfl (hb hby d2_31)) ?_
    show OGo _ _ _ _ (T2.setTop (mkF m 32 #[.val (.ref a1), .val (.int (1 : Int32))] [(.int y0), (.int (0 : Int32)), (.ref b2), (.ref b2), (.ref b1), (.ref b1)]))
    obtain ⟨cl6, Ar6, q6, Sz6, Ng6, Hs6, Gf6⟩ := id V2
    have hin6 : ¬ ((0 : Int32) < 0 ∨ cl6.slots.size ≤ ((0 : Int32)).toNatClampNeg) := inb_of Sz6 ⟨by decide, by decide⟩
    obtain ⟨T6, h6, X6, e6, W6, st6⟩ := stC X2 hx hZ e2 Ar6 (j := (0 : Int32)) hin6 (g := (mkF m 32 #[.val (.ref a1), .val (.int (1 : Int32))] [(.int y0), (.int (0 : Int32)), (.ref b2), (.ref b2), (.ref b1), (.ref b1)])) rfl rfl (hb hby d2_32)
    refine OGo.via st6 ?_
    have V6 : Arv Z h6 b2 ka2 .char (1 : Int32) [(.int (nar .char y0))] (.int (0 : Int32)) := Arv.set Ar6 q6 Sz6 Ng6 Hs6 Gf6 (fits_nar_char _) W6 0 rfl (Nat.le_of_ble_eq_true rfl)
    have K6 : Keep h0 h6 [] := K2.wr W6 (Or.inr sz_b2)
    have N6 := Fr.snoc X6 N0 g_b2
    show OGo _ _ _ _ (T6.setTop (mkF m 33 #[.val (.ref a1), .val (.int (1 : Int32))] [(.ref b2), (.ref b1), (.ref b1)]))
    have f7 : Arv Z h6 b2 ka2 .char (1 : Int32) (List.map Value.int [y0]) (.int (0 : Int32)) := (by have q := V6; rw [hy0] at q; exact q)
    have f9 := A1.ext E2
    have f10 := f9.wr W6
    have f11 := F1_value.ext E2
    have f12 := f11.other W6 (Or.inl (Nat.ne_of_lt lt_b1_b2))
    have f13 := F1_coder.ext E2
    have f14 := f13.other W6 (Or.inl (Nat.ne_of_lt lt_b1_b2))
    have f15 := own_staKeep0 S_COMPACT_STRINGS K6
    have f16 := own_staKeep0 S_SIOOBE_FORMATTER K6
    have f17 := own_staKeep0 S__assertionsDisabled K6
    have f18 := own_staKeep0 S_HI_BYTE_SHIFT K6
    have f19 := own_staKeep0 S_LO_BYTE_SHIFT K6
    have f20 := f5.other W6 (Nat.ne_of_lt lt_a1_b2)
    have f21 := Y2.wr W6
    obtain ⟨_, T8, Lc8, X8, hQ8, st8⟩ := own_open X6 (X6.specialBack hx (y := own_y35) rfl hown (mvT hZ (own_w hw 12 rfl)) (mvT hZ (own_w hw 13 rfl)) (mvT hZ (own_w hw 14 rfl)) (by decide) (backOf (W := 1) (rm3 l Z a0 hw [] b1 b2 ka2 [y0] (1 : Int32) w fm h6 n0 (Nat.le_trans Z0 K6.1) f10 f12 f14 f7 g_b1 f15 f16 f17 f18 f19 hw0 rfl (by simp) (by simp) (List.forall_mem_cons.mpr ⟨hy0, (List.forall_mem_nil _)⟩)) hZ (own_w hw 14 rfl) (own_w hw 11 rfl) (by decide) (by decide)) (g := (mkF m 33 #[.val (.ref a1), .val (.int (1 : Int32))] [(.ref b2), (.ref b1), (.ref b1)])) rfl (by rw [hml]; rfl) (Steps.refl _) (a := b1) (argsL := [(.ref b2)]) (rest := [(.ref b1)]) (lenOf pd_26 rfl) rfl (by show 2 * 0 + _ ≤ _; exact Nat.le_of_eq rfl) (hb hby d2_33) (fun _ _ => ⟨rfl, e6, (by decide : 2 + 2 ≤ _), (by decide : 5 + 30 ≤ _)⟩))
    obtain ⟨vr, kr, cr, zr, br, rfl, N8q, r8_0, r8_1, r8_2, r8_3, r8_4, r8_5, r8_6⟩ := hQ8
    have N8 := Fr.app N6 N8q
    have K8 : Keep h0 T8.heap [] := K6.trans r8_0 (allS (Or.inr sz_b1) all0)
    have lt_a1_vr : a1 < vr := Nat.lt_of_lt_of_le f20.lt r8_1
    have lt_b1_vr : b1 < vr := Nat.lt_of_lt_of_le f10.lt r8_1
    have lt_b2_vr : b2 < vr := Nat.lt_of_lt_of_le f21.lt r8_1
    have sz_vr : h0.size ≤ vr := Nat.le_trans K6.1 r8_1
    have g_vr : n0 ≤ vr := Nat.le_trans Z0 sz_vr
    refine OGo.via (fun _ k => st8.trans k) ?_
    show OGo _ _ _ _ (T8.setTop (mkF m 36 #[.val (.ref a1), .val (.int (1 : Int32))] [(.ref b1)]))
    show OGo _ _ _ _ (T8.setTop (mkF m 36 #[.val (.ref a1), .val (.int (1 : Int32))] [(.ref b1)]))
    refine own_retA X8 hx Bd.notSynchronized Bd.returns rfl rfl (hb hby d2_36) (by decide) (by decide) ?_
    show Q_rm2 Z _ _ _ _ _ _ _ _ _ _ _ _ _ _ _ h0 n0 _ T8.heap _
    exact ⟨b1, vr, kr, cr, zr, br, rfl, N8, K8, r8_2, r8_3, r8_4, r8_5, r8_6⟩
  · show OGo _ _ _ _ (s₁.setTop (mkF m 0 #[.val (.ref a1), .val (.int (2 : Int32))] []))
    refine OGo.via (fun _ k => XS.iloadN X0.here hx rfl (hb hby d2_0) rfl (XS.ifYes X0.here hx rfl (pc0 := 1) (pc' := 15) rfl (hb hby d2_1) rfl ((if0 _ _).trans (feq (by decide : ¬ ((2 : Int32) = (0 : Int32)))).2) (by decide) (by decide) (XS.iloadN X0.here hx rfl (hb hby d2_15) rfl (XS.iconst X0.here hx rfl (hb hby d2_16) (XS.icmpYes X0.here hx rfl (pc0 := 17) (pc' := 37) rfl (hb hby d2_17) rfl (feq (by decide : ¬ ((2 : Int32) = (1 : Int32)))).2 (by decide) (by decide) (XS.iloadN X0.here hx rfl (hb hby d2_37) rfl (XS.iconst X0.here hx rfl (hb hby d2_38) (XS.icmpNo X0.here hx rfl (hb hby d2_39) rfl (teq (by decide : (2 : Int32) = (2 : Int32))).2 k)))))))) ?_
    show OGo _ _ _ _ (s₁.setTop (mkF m 42 #[.val (.ref a1), .val (.int (2 : Int32))] []))
    obtain ⟨T22, h22, X22, e22, E22, A22, D22, -, st22⟩ := newO X0 hx hZ hown (own_w hw 9 rfl) (own_w hw 10 rfl) (own_w hw 11 rfl) e0 (g := (mkF m 42 #[.val (.ref a1), .val (.int (2 : Int32))] [])) rfl (hb hby d2_42) (by decide) (by decide)
    obtain ⟨b22, g22⟩ : ∃ z, z = h0.size := ⟨_, rfl⟩
    rw [← g22] at A22 D22 st22
    refine OGo.via st22 ?_
    have K22 : Keep h0 h22 [] := (Keep.refl h0 []).ext E22
    have lt_a1_b22 : a1 < b22 := Nat.lt_of_lt_of_le V_a1.lt (Nat.le_of_eq g22.symm)
    have sz_b22 : h0.size ≤ b22 := Nat.le_trans (Keep.refl h0 []).1 (Nat.le_of_eq g22.symm)
    have g_b22 : n0 ≤ b22 := Nat.le_trans Z0 sz_b22
    have F22_value : Fld Z h22 b22 "java/lang/String" "value" "[B" .null := D22 (Or.inr (own_w hw 24 rfl)) (ty := (.array .byte)) (by decide)
    have F22_coder : Fld Z h22 b22 "java/lang/String" "coder" "B" (.int (0 : Int32)) := D22 (Or.inr (own_w hw 25 rfl)) (ty := .byte) (by decide)
    show OGo _ _ _ _ (T22.setTop (mkF m 45 #[.val (.ref a1), .val (.int (2 : Int32))] [(.ref b22)]))
    refine OGo.via (fun _ k => XS.dup X22.here hx rfl (hb hby d2_45) rfl rfl (XS.iconst X22.here hx rfl (hb hby d2_46) k)) ?_
    have f24 := V_a1.ext E22
    obtain ⟨T23, h23, ka23, X23, e23, E23, A23, Y23, st23⟩ := newPE (ad := "[C") X22 hx hZ (own_w hw 0 rfl) e22 (g := (mkF m 47 #[.val (.ref a1), .val (.int (2 : Int32))] [(.int (2 : Int32)), (.ref b22), (.ref b22)])) rfl (hb hby d2_47) rfl (by decide) (cap := 2) (by decide) (by decide) (by decide) (by decide) (by decide)
    obtain ⟨b23, g23⟩ : ∃ z, z = h22.size := ⟨_, rfl⟩
    rw [← g23] at A23 Y23 st23
    refine OGo.via st23 ?_
    have K23 : Keep h0 h23 [] := K22.ext E23
    have lt_a1_b23 : a1 < b23 := Nat.lt_of_lt_of_le f24.lt (Nat.le_of_eq g23.symm)
    have lt_b22_b23 : b22 < b23 := Nat.lt_of_lt_of_le A22.lt (Nat.le_of_eq g23.symm)
    have sz_b23 : h0.size ≤ b23 := Nat.le_trans K22.1 (Nat.le_of_eq g23.symm)
    have g_b23 : n0 ≤ b23 := Nat.le_trans Z0 sz_b23
    have V23 : Arv Z h23 b23 ka23 .char (2 : Int32) [(.int (0 : Int32)), (.int (0 : Int32))] (.int (0 : Int32)) := (Arv.new A23 (by decide)).pad (pad_rep [] (.int (0 : Int32)) 2)
    show OGo _ _ _ _ (T23.setTop (mkF m 49 #[.val (.ref a1), .val (.int (2 : Int32))] [(.ref b23), (.ref b22), (.ref b22)]))
    refine OGo.via (fun _ k => XS.dup X23.here hx rfl (hb hby d2_49) rfl rfl (XS.iconst X23.here hx rfl (hb hby d2_50) (XS.aloadN X23.here hx rfl (hb hby d2_51) rfl rfl (XS.iconst X23.here hx rfl (hb hby d2_52) k)))) ?_
    have f26 := f24.ext E23
    obtain ⟨cl25, Ar25, q25, Sz25, Ng25, Hs25, Gf25⟩ := id f26
    have hin25 : ¬ ((0 : Int32) < 0 ∨ cl25.slots.size ≤ ((0 : Int32)).toNatClampNeg) := inb_of Sz25 ⟨by decide, by decide⟩
    have hat25 : cl25.slots[((0 : Int32)).toNatClampNeg]? = some (.int y0) := Hs25.at hin25 rfl
    refine OGo.via (X23.caload hx (j := (0 : Int32)) (v := (.int y0)) (by rw [e23]; exact Ar25.1) (State.isArrayOf_alike hZ.alike Ar25.2.1) Ar25.2.2 hin25 hat25 (g := (mkF m 53 #[.val (.ref a1), .val (.int (2 : Int32))] [(.int (0 : Int32)), (.ref a1), (.int (0 : Int32)), (.ref b23), (.ref b23), (.ref b22), (.ref b22)])) rfl rfl (hb hby d2_53)) ?_
    show OGo _ _ _ _ (T23.setTop (mkF m 54 #[.val (.ref a1), .val (.int (2 : Int32))] [(.int y0), (.int (0 : Int32)), (.ref b23), (.ref b23), (.ref b22), (.ref b22)]))
    obtain ⟨cl27, Ar27, q27, Sz27, Ng27, Hs27, Gf27⟩ := id V23
    have hin27 : ¬ ((0 : Int32) < 0 ∨ cl27.slots.size ≤ ((0 : Int32)).toNatClampNeg) := inb_of Sz27 ⟨by decide, by decide⟩
    obtain ⟨T27, h27, X27, e27, W27, st27⟩ := stC X23 hx hZ e23 Ar27 (j := (0 : Int32)) hin27 (g := (mkF m 54 #[.val (.ref a1), .val (.int (2 : Int32))] [(.int y0), (.int (0 : Int32)), (.ref b23), (.ref b23), (.ref b22), (.ref b22)])) rfl rfl (hb hby d2_54)
    refine OGo.via st27 ?_
    have V27 : Arv Z h27 b23 ka23 .char (2 : Int32) [(.int (nar .char y0)), (.int (0 : Int32))] (.int (0 : Int32)) := Arv.set Ar27 q27 Sz27 Ng27 Hs27 Gf27 (fits_nar_char _) W27 0 rfl (Nat.le_of_ble_eq_true rfl)
    have K27 : Keep h0 h27 [] := K23.wr W27 (Or.inr sz_b23)
    have N27 := Fr.snoc X27 N0 g_b23
    show OGo _ _ _ _ (T27.setTop (mkF m 55 #[.val (.ref a1), .val (.int (2 : Int32))] [(.ref b23), (.ref b22), (.ref b22)]))
    refine OGo.via (fun _ k => XS.dup X27.here hx rfl (hb hby d2_55) rfl rfl (XS.iconst X27.here hx rfl (hb hby d2_56) (XS.aloadN X27.here hx rfl (hb hby d2_57) rfl rfl (XS.iconst X27.here hx rfl (hb hby d2_58) k)))) ?_
    have f29 := f26.other W27 (Nat.ne_of_lt lt_a1_b23)
    obtain ⟨cl28, Ar28, q28, Sz28, Ng28, Hs28, Gf28⟩ := id f29
    have hin28 : ¬ ((1 : Int32) < 0 ∨ cl28.slots.size ≤ ((1 : Int32)).toNatClampNeg) := inb_of Sz28 ⟨by decide, by decide⟩
    have hat28 : cl28.slots[((1 : Int32)).toNatClampNeg]? = some (.int y1) := Hs28.at hin28 rfl
    refine OGo.via (X27.caload hx (j := (1 : Int32)) (v := (.int y1)) (by rw [e27]; exact Ar28.1) (State.isArrayOf_alike hZ.alike Ar28.2.1) Ar28.2.2 hin28 hat28 (g := (mkF m 59 #[.val (.ref a1), .val (.int (2 : Int32))] [(.int (1 : Int32)), (.ref a1), (.int (1 : Int32)), (.ref b23), (.ref b23), (.ref b22), (.ref b22)])) rfl rfl (hb hby d2_59)) ?_
    show OGo _ _ _ _ (T27.setTop (mkF m 60 #[.val (.ref a1), .val (.int (2 : Int32))] [(.int y1), (.int (1 : Int32)), (.ref b23), (.ref b23), (.ref b22), (.ref b22)]))
    obtain ⟨cl30, Ar30, q30, Sz30, Ng30, Hs30, Gf30⟩ := id V27
    have hin30 : ¬ ((1 : Int32) < 0 ∨ cl30.slots.size ≤ ((1 : Int32)).toNatClampNeg) := inb_of Sz30 ⟨by decide, by decide⟩
    obtain ⟨T30, h30, X30, e30, W30, st30⟩ := stC X27 hx hZ e27 Ar30 (j := (1 : Int32)) hin30 (g := (mkF m 60 #[.val (.ref a1), .val (.int (2 : Int32))] [(.int y1), (.int (1 : Int32)), (.ref b23), (.ref b23), (.ref b22), (.ref b22)])) rfl rfl (hb hby d2_60)
    refine OGo.via st30 ?_
    have V30 : Arv Z h30 b23 ka23 .char (2 : Int32) [(.int (nar .char y0)), (.int (nar .char y1))] (.int (0 : Int32)) := Arv.set Ar30 q30 Sz30 Ng30 Hs30 Gf30 (fits_nar_char _) W30 1 rfl (Nat.le_of_ble_eq_true rfl)
    have K30 : Keep h0 h30 [] := K27.wr W30 (Or.inr sz_b23)
    have N30 := Fr.snoc X30 N27 g_b23
    show OGo _ _ _ _ (T30.setTop (mkF m 61 #[.val (.ref a1), .val (.int (2 : Int32))] [(.ref b23), (.ref b22), (.ref b22)]))
    have f31 : Arv Z h30 b23 ka23 .char (2 : Int32) (List.map Value.int [y0, y1]) (.int (0 : Int32)) := (by have q := V30; rw [hy0, hy1] at q; exact q)
    have f33 := A22.ext E23
    have f34 := f33.wr W27
    have f35 := f34.wr W30
    have f36 := F22_value.ext E23
    have f37 := f36.other W27 (Or.inl (Nat.ne_of_lt lt_b22_b23))
    have f38 := f37.other W30 (Or.inl (Nat.ne_of_lt lt_b22_b23))
    have f39 := F22_coder.ext E23
    have f40 := f39.other W27 (Or.inl (Nat.ne_of_lt lt_b22_b23))
    have f41 := f40.other W30 (Or.inl (Nat.ne_of_lt lt_b22_b23))
    have f42 := own_staKeep0 S_COMPACT_STRINGS K30
    have f43 := own_staKeep0 S_SIOOBE_FORMATTER K30
    have f44 := own_staKeep0 S__assertionsDisabled K30
    have f45 := own_staKeep0 S_HI_BYTE_SHIFT K30
    have f46 := own_staKeep0 S_LO_BYTE_SHIFT K30
    have f47 := f29.other W30 (Nat.ne_of_lt lt_a1_b23)
    have f48 := Y23.wr W27
    have f49 := f48.wr W30
    obtain ⟨_, T32, Lc32, X32, hQ32, st32⟩ := own_open X30 (X30.specialBack hx (y := own_y35) rfl hown (mvT hZ (own_w hw 12 rfl)) (mvT hZ (own_w hw 13 rfl)) (mvT hZ (own_w hw 14 rfl)) (by decide) (backOf (W := 1) (rm3 l Z a0 hw [] b22 b23 ka23 [y0, y1] (2 : Int32) w fm h30 n0 (Nat.le_trans Z0 K30.1) f35 f38 f41 f31 g_b22 f42 f43 f44 f45 f46 hw0 rfl (by simp) (by simp) (List.forall_mem_cons.mpr ⟨hy0, (List.forall_mem_cons.mpr ⟨hy1, (List.forall_mem_nil _)⟩)⟩)) hZ (own_w hw 14 rfl) (own_w hw 11 rfl) (by decide) (by decide)) (g := (mkF m 61 #[.val (.ref a1), .val (.int (2 : Int32))] [(.ref b23), (.ref b22), (.ref b22)])) rfl (by rw [hml]; rfl) (Steps.refl _) (a := b22) (argsL := [(.ref b23)]) (rest := [(.ref b22)]) (lenOf pd_26 rfl) rfl (by show 2 * 0 + _ ≤ _; exact Nat.le_of_eq rfl) (hb hby d2_61) (fun _ _ => ⟨rfl, e30, (by decide : 2 + 2 ≤ _), (by decide : 6 + 30 ≤ _)⟩))
    obtain ⟨vr, kr, cr, zr, br, rfl, N32q, r32_0, r32_1, r32_2, r32_3, r32_4, r32_5, r32_6⟩ := hQ32
    have N32 := Fr.app N30 N32q
    have K32 : Keep h0 T32.heap [] := K30.trans r32_0 (allS (Or.inr sz_b22) all0)
    have lt_a1_vr : a1 < vr := Nat.lt_of_lt_of_le f47.lt r32_1
    have lt_b22_vr : b22 < vr := Nat.lt_of_lt_of_le f35.lt r32_1
    have lt_b23_vr : b23 < vr := Nat.lt_of_lt_of_le f49.lt r32_1
    have sz_vr : h0.size ≤ vr := Nat.le_trans K30.1 r32_1
    have g_vr : n0 ≤ vr := Nat.le_trans Z0 sz_vr
    refine OGo.via (fun _ k => st32.trans k) ?_
    show OGo _ _ _ _ (T32.setTop (mkF m 64 #[.val (.ref a1), .val (.int (2 : Int32))] [(.ref b22)]))
    show OGo _ _ _ _ (T32.setTop (mkF m 64 #[.val (.ref a1), .val (.int (2 : Int32))] [(.ref b22)]))
    refine own_retA X32 hx Bd.notSynchronized Bd.returns rfl rfl (hb hby d2_64) (by decide) (by decide) ?_
    show Q_rm2 Z _ _ _ _ _ _ _ _ _ _ _ _ _ _ _ h0 n0 _ T32.heap _
    exact ⟨b22, vr, kr, cr, zr, br, rfl, N32, K32, r32_2, r32_3, r32_4, r32_5, r32_6⟩
  · show OGo _ _ _ _ (s₁.setTop (mkF m 0 #[.val (.ref a1), .val (.int (3 : Int32))] []))
    refine OGo.via (fun _ k => XS.iloadN X0.here hx rfl (hb hby d2_0) rfl (XS.ifYes X0.here hx rfl (pc0 := 1) (pc' := 15) rfl (hb hby d2_1) rfl ((if0 _ _).trans (feq (by decide : ¬ ((3 : Int32) = (0 : Int32)))).2) (by decide) (by decide) (XS.iloadN X0.here hx rfl (hb hby d2_15) rfl (XS.iconst X0.here hx rfl (hb hby d2_16) (XS.icmpYes X0.here hx rfl (pc0 := 17) (pc' := 37) rfl (hb hby d2_17) rfl (feq (by decide : ¬ ((3 : Int32) = (1 : Int32)))).2 (by decide) (by decide) (XS.iloadN X0.here hx rfl (hb hby d2_37) rfl (XS.iconst X0.here hx rfl (hb hby d2_38) (XS.icmpYes X0.here hx rfl (pc0 := 39) (pc' := 65) rfl (hb hby d2_39) rfl (feq (by decide : ¬ ((3 : Int32) = (2 : Int32)))).2 (by decide) (by decide) k)))))))) ?_
    show OGo _ _ _ _ (s₁.setTop (mkF m 65 #[.val (.ref a1), .val (.int (3 : Int32))] []))
    refine OGo.via (fun _ k => XS.iloadN X0.here hx rfl (hb hby d2_65) rfl (XS.iconst X0.here hx rfl (hb hby d2_66) (XS.icmpNo X0.here hx rfl (hb hby d2_67) rfl (teq (by decide : (3 : Int32) = (3 : Int32))).2 k))) ?_
    obtain ⟨T50, h50, X50, e50, E50, A50, D50, -, st50⟩ := newO X0 hx hZ hown (own_w hw 9 rfl) (own_w hw 10 rfl) (own_w hw 11 rfl) e0 (g := (mkF m 70 #[.val (.ref a1), .val (.int (3 : Int32))] [])) rfl (hb hby d2_70) (by decide) (by decide)
    obtain ⟨b50, g50⟩ : ∃ z, z = h0.size := ⟨_, rfl⟩
    rw [← g50] at A50 D50 st50
    refine OGo.via st50 ?_
    have K50 : Keep h0 h50 [] := (Keep.refl h0 []).ext E50
    have lt_a1_b50 : a1 < b50 := Nat.lt_of_lt_of_le V_a1.lt (Nat.le_of_eq g50.symm)
    have sz_b50 : h0.size ≤ b50 := Nat.le_trans (Keep.refl h0 []).1 (Nat.le_of_eq g50.symm)
    have g_b50 : n0 ≤ b50 := Nat.le_trans Z0 sz_b50
    have F50_value : Fld Z h50 b50 "java/lang/String" "value" "[B" .null := D50 (Or.inr (own_w hw 24 rfl)) (ty := (.array .byte)) (by decide)
    have F50_coder : Fld Z h50 b50 "java/lang/String" "coder" "B" (.int (0 : Int32)) := D50 (Or.inr (own_w hw 25 rfl)) (ty := .byte) (by decide)
    show OGo _ _ _ _ (T50.setTop (mkF m 73 #[.val (.ref a1), .val (.int (3 : Int32))] [(.ref b50)]))
    refine OGo.via (fun _ k => XS.dup X50.here hx rfl (hb hby d2_73) rfl rfl (XS.iconst X50.here hx rfl (hb hby d2_74) k)) ?_
    have f52 := V_a1.ext E50
    obtain ⟨T51, h51, ka51, X51, e51, E51, A51, Y51, st51⟩ := newPE (ad := "[C") X50 hx hZ (own_w hw 0 rfl) e50 (g := (mkF m 75 #[.val (.ref a1), .val (.int (3 : Int32))] [(.int (3 : Int32)), (.ref b50), (.ref b50)])) rfl (hb hby d2_75) rfl (by decide) (cap := 3) (by decide) (by decide) (by decide) (by decide) (by decide)
    obtain ⟨b51, g51⟩ : ∃ z, z = h50.size := ⟨_, rfl⟩
    rw [← g51] at A51 Y51 st51
    refine OGo.via st51 ?_
    have K51 : Keep h0 h51 [] := K50.ext E51
    have lt_a1_b51 : a1 < b51 := Nat.lt_of_lt_of_le f52.lt (Nat.le_of_eq g51.symm)
    have lt_b50_b51 : b50 < b51 := Nat.lt_of_lt_of_le A50.lt (Nat.le_of_eq g51.symm)
    have sz_b51 : h0.size ≤ b51 := Nat.le_trans K50.1 (Nat.le_of_eq g51.symm)
    have g_b51 : n0 ≤ b51 := Nat.le_trans Z0 sz_b51
    have V51 : Arv Z h51 b51 ka51 .char (3 : Int32) [(.int (0 : Int32)), (.int (0 : Int32)), (.int (0 : Int32))] (.int (0 : Int32)) := (Arv.new A51 (by decide)).pad (pad_rep [] (.int (0 : Int32)) 3)
    show OGo _ _ _ _ (T51.setTop (mkF m 77 #[.val (.ref a1), .val (.int (3 : Int32))] [(.ref b51), (.ref b50), (.ref b50)]))
    refine OGo.via (fun _ k => XS.dup X51.here hx rfl (hb hby d2_77) rfl rfl (XS.iconst X51.here hx rfl (hb hby d2_78) (XS.aloadN X51.here hx rfl (hb hby d2_79) rfl rfl (XS.iconst X51.here hx rfl (hb hby d2_80) k)))) ?_
    have f54 := f52.ext E51
    obtain ⟨cl53, Ar53, q53, Sz53, Ng53, Hs53, Gf53⟩ := id f54
    have hin53 : ¬ ((0 : Int32) < 0 ∨ cl53.slots.size ≤ ((0 : Int32)).toNatClampNeg) := inb_of Sz53 ⟨by decide, by decide⟩
    have hat53 : cl53.slots[((0 : Int32)).toNatClampNeg]? = some (.int y0) := Hs53.at hin53 rfl
    refine OGo.via (X51.caload hx (j := (0 : Int32)) (v := (.int y0)) (by rw [e51]; exact Ar53.1) (State.isArrayOf_alike hZ.alike Ar53.2.1) Ar53.2.2 hin53 hat53 (g := (mkF m 81 #[.val (.ref a1), .val (.int (3 : Int32))] [(.int (0 : Int32)), (.ref a1), (.int (0 : Int32)), (.ref b51), (.ref b51), (.ref b50), (.ref b50)])) rfl rfl (hb hby d2_81)) ?_
    show OGo _ _ _ _ (T51.setTop (mkF m 82 #[.val (.ref a1), .val (.int (3 : Int32))] [(.int y0), (.int (0 : Int32)), (.ref b51), (.ref b51), (.ref b50), (.ref b50)]))
    obtain ⟨cl55, Ar55, q55, Sz55, Ng55, Hs55, Gf55⟩ := id V51
    have hin55 : ¬ ((0 : Int32) < 0 ∨ cl55.slots.size ≤ ((0 : Int32)).toNatClampNeg) := inb_of Sz55 ⟨by decide, by decide⟩
    obtain ⟨T55, h55, X55, e55, W55, st55⟩ := stC X51 hx hZ e51 Ar55 (j := (0 : Int32)) hin55 (g := (mkF m 82 #[.val (.ref a1), .val (.int (3 : Int32))] [(.int y0), (.int (0 : Int32)), (.ref b51), (.ref b51), (.ref b50), (.ref b50)])) rfl rfl (hb hby d2_82)
    refine OGo.via st55 ?_
    have V55 : Arv Z h55 b51 ka51 .char (3 : Int32) [(.int (nar .char y0)), (.int (0 : Int32)), (.int (0 : Int32))] (.int (0 : Int32)) := Arv.set Ar55 q55 Sz55 Ng55 Hs55 Gf55 (fits_nar_char _) W55 0 rfl (Nat.le_of_ble_eq_true rfl)
    have K55 : Keep h0 h55 [] := K51.wr W55 (Or.inr sz_b51)
    have N55 := Fr.snoc X55 N0 g_b51
    show OGo _ _ _ _ (T55.setTop (mkF m 83 #[.val (.ref a1), .val (.int (3 : Int32))] [(.ref b51), (.ref b50), (.ref b50)]))
    refine OGo.via (fun _ k => XS.dup X55.here hx rfl (hb hby d2_83) rfl rfl (XS.iconst X55.here hx rfl (hb hby d2_84) (XS.aloadN X55.here hx rfl (hb hby d2_85) rfl rfl (XS.iconst X55.here hx rfl (hb hby d2_86) k)))) ?_
    have f57 := f54.other W55 (Nat.ne_of_lt lt_a1_b51)
    obtain ⟨cl56, Ar56, q56, Sz56, Ng56, Hs56, Gf56⟩ := id f57
    have hin56 : ¬ ((1 : Int32) < 0 ∨ cl56.slots.size ≤ ((1 : Int32)).toNatClampNeg) := inb_of Sz56 ⟨by decide, by decide⟩
    have hat56 : cl56.slots[((1 : Int32)).toNatClampNeg]? = some (.int y1) := Hs56.at hin56 rfl
    refine OGo.via (X55.caload hx (j := (1 : Int32)) (v := (.int y1)) (by rw [e55]; exact Ar56.1) (State.isArrayOf_alike hZ.alike Ar56.2.1) Ar56.2.2 hin56 hat56 (g := (mkF m 87 #[.val (.ref a1), .val (.int (3 : Int32))] [(.int (1 : Int32)), (.ref a1), (.int (1 : Int32)), (.ref b51), (.ref b51), (.ref b50), (.ref b50)])) rfl rfl (hb hby d2_87)) ?_
    show OGo _ _ _ _ (T55.setTop (mkF m 88 #[.val (.ref a1), .val (.int (3 : Int32))] [(.int y1), (.int (1 : Int32)), (.ref b51), (.ref b51), (.ref b50), (.ref b50)]))
    obtain ⟨cl58, Ar58, q58, Sz58, Ng58, Hs58, Gf58⟩ := id V55
    have hin58 : ¬ ((1 : Int32) < 0 ∨ cl58.slots.size ≤ ((1 : Int32)).toNatClampNeg) := inb_of Sz58 ⟨by decide, by decide⟩
    obtain ⟨T58, h58, X58, e58, W58, st58⟩ := stC X55 hx hZ e55 Ar58 (j := (1 : Int32)) hin58 (g := (mkF m 88 #[.val (.ref a1), .val (.int (3 : Int32))] [(.int y1), (.int (1 : Int32)), (.ref b51), (.ref b51), (.ref b50), (.ref b50)])) rfl rfl (hb hby d2_88)
    refine OGo.via st58 ?_
    have V58 : Arv Z h58 b51 ka51 .char (3 : Int32) [(.int (nar .char y0)), (.int (nar .char y1)), (.int (0 : Int32))] (.int (0 : Int32)) := Arv.set Ar58 q58 Sz58 Ng58 Hs58 Gf58 (fits_nar_char _) W58 1 rfl (Nat.le_of_ble_eq_true rfl)
    have K58 : Keep h0 h58 [] := K55.wr W58 (Or.inr sz_b51)
    have N58 := Fr.snoc X58 N55 g_b51
    show OGo _ _ _ _ (T58.setTop (mkF m 89 #[.val (.ref a1), .val (.int (3 : Int32))] [(.ref b51), (.ref b50), (.ref b50)]))
    refine OGo.via (fun _ k => XS.dup X58.here hx rfl (hb hby d2_89) rfl rfl (XS.iconst X58.here hx rfl (hb hby d2_90) (XS.aloadN X58.here hx rfl (hb hby d2_91) rfl rfl (XS.iconst X58.here hx rfl (hb hby d2_92) k)))) ?_
    have f60 := f57.other W58 (Nat.ne_of_lt lt_a1_b51)
    obtain ⟨cl59, Ar59, q59, Sz59, Ng59, Hs59, Gf59⟩ := id f60
    have hin59 : ¬ ((2 : Int32) < 0 ∨ cl59.slots.size ≤ ((2 : Int32)).toNatClampNeg) := inb_of Sz59 ⟨by decide, by decide⟩
    have hat59 : cl59.slots[((2 : Int32)).toNatClampNeg]? = some (.int y2) := Hs59.at hin59 rfl
    refine OGo.via (X58.caload hx (j := (2 : Int32)) (v := (.int y2)) (by rw [e58]; exact Ar59.1) (State.isArrayOf_alike hZ.alike Ar59.2.1) Ar59.2.2 hin59 hat59 (g := (mkF m 93 #[.val (.ref a1), .val (.int (3 : Int32))] [(.int (2 : Int32)), (.ref a1), (.int (2 : Int32)), (.ref b51), (.ref b51), (.ref b50), (.ref b50)])) rfl rfl (hb hby d2_93)) ?_
    show OGo _ _ _ _ (T58.setTop (mkF m 94 #[.val (.ref a1), .val (.int (3 : Int32))] [(.int y2), (.int (2 : Int32)), (.ref b51), (.ref b51), (.ref b50), (.ref b50)]))
    obtain ⟨cl61, Ar61, q61, Sz61, Ng61, Hs61, Gf61⟩ := id V58
    have hin61 : ¬ ((2 : Int32) < 0 ∨ cl61.slots.size ≤ ((2 : Int32)).toNatClampNeg) := inb_of Sz61 ⟨by decide, by decide⟩
    obtain ⟨T61, h61, X61, e61, W61, st61⟩ := stC X58 hx hZ e58 Ar61 (j := (2 : Int32)) hin61 (g := (mkF m 94 #[.val (.ref a1), .val (.int (3 : Int32))] [(.int y2), (.int (2 : Int32)), (.ref b51), (.ref b51), (.ref b50), (.ref b50)])) rfl rfl (hb hby d2_94)
    refine OGo.via st61 ?_
    have V61 : Arv Z h61 b51 ka51 .char (3 : Int32) [(.int (nar .char y0)), (.int (nar .char y1)), (.int (nar .char y2))] (.int (0 : Int32)) := Arv.set Ar61 q61 Sz61 Ng61 Hs61 Gf61 (fits_nar_char _) W61 2 rfl (Nat.le_of_ble_eq_true rfl)
    have K61 : Keep h0 h61 [] := K58.wr W61 (Or.inr sz_b51)
    have N61 := Fr.snoc X61 N58 g_b51
    show OGo _ _ _ _ (T61.setTop (mkF m 95 #[.val (.ref a1), .val (.int (3 : Int32))] [(.ref b51), (.ref b50), (.ref b50)]))
    have f62 : Arv Z h61 b51 ka51 .char (3 : Int32) (List.map Value.int [y0, y1, y2]) (.int (0 : Int32)) := (by have q := V61; rw [hy0, hy1, hy2] at q; exact q)
    have f64 := A50.ext E51
    have f65 := f64.wr W55
    have f66 := f65.wr W58
    have f67 := f66.wr W61
    have f68 := F50_value.ext E51
    have f69 := f68.other W55 (Or.inl (Nat.ne_of_lt lt_b50_b51))
    have f70 := f69.other W58 (Or.inl (Nat.ne_of_lt lt_b50_b51))
    have f71 := f70.other W61 (Or.inl (Nat.ne_of_lt lt_b50_b51))
    have f72 := F50_coder.ext E51
    have f73 := f72.other W55 (Or.inl (Nat.ne_of_lt lt_b50_b51))
    have f74 := f73.other W58 (Or.inl (Nat.ne_of_lt lt_b50_b51))
    have f75 := f74.other W61 (Or.inl (Nat.ne_of_lt lt_b50_b51))
    have f76 := own_staKeep0 S_COMPACT_STRINGS K61
    have f77 := own_staKeep0 S_SIOOBE_FORMATTER K61
    have f78 := own_staKeep0 S__assertionsDisabled K61
    have f79 := own_staKeep0 S_HI_BYTE_SHIFT K61
    have f80 := own_staKeep0 S_LO_BYTE_SHIFT K61
    have f81 := f60.other W61 (Nat.ne_of_lt lt_a1_b51)
    have f82 := Y51.wr W55
    have f83 := f82.wr W58
    have f84 := f83.wr W61
    obtain ⟨_, T63, Lc63, X63, hQ63, st63⟩ := own_open X61 (X61.specialBack hx (y := own_y35) rfl hown (mvT hZ (own_w hw 12 rfl)) (mvT hZ (own_w hw 13 rfl)) (mvT hZ (own_w hw 14 rfl)) (by decide) (backOf (W := 1) (rm3 l Z a0 hw [] b50 b51 ka51 [y0, y1, y2] (3 : Int32) w fm h61 n0 (Nat.le_trans Z0 K61.1) f67 f71 f75 f62 g_b50 f76 f77 f78 f79 f80 hw0 rfl (by simp) (by simp) (List.forall_mem_cons.mpr ⟨hy0, (List.forall_mem_cons.mpr ⟨hy1, (List.forall_mem_cons.mpr ⟨hy2, (List.forall_mem_nil _)⟩)⟩)⟩)) hZ (own_w hw 14 rfl) (own_w hw 11 rfl) (by decide) (by decide)) (g := (mkF m 95 #[.val (.ref a1), .val (.int (3 : Int32))] [(.ref b51), (.ref b50), (.ref b50)])) rfl (by rw [hml]; rfl) (Steps.refl _) (a := b50) (argsL := [(.ref b51)]) (rest := [(.ref b50)]) (lenOf pd_26 rfl) rfl (by show 2 * 0 + _ ≤ _; exact Nat.le_of_eq rfl) (hb hby d2_95) (fun _ _ => ⟨rfl, e61, (by decide : 2 + 2 ≤ _), (by decide : 7 + 30 ≤ _)⟩))
    obtain ⟨vr, kr, cr, zr, br, rfl, N63q, r63_0, r63_1, r63_2, r63_3, r63_4, r63_5, r63_6⟩ := hQ63
    have N63 := Fr.app N61 N63q
    have K63 : Keep h0 T63.heap [] := K61.trans r63_0 (allS (Or.inr sz_b50) all0)
    have lt_a1_vr : a1 < vr := Nat.lt_of_lt_of_le f81.lt r63_1
    have lt_b50_vr : b50 < vr := Nat.lt_of_lt_of_le f67.lt r63_1
    have lt_b51_vr : b51 < vr := Nat.lt_of_lt_of_le f84.lt r63_1
    have sz_vr : h0.size ≤ vr := Nat.le_trans K61.1 r63_1
    have g_vr : n0 ≤ vr := Nat.le_trans Z0 sz_vr
    refine OGo.via (fun _ k => st63.trans k) ?_
    show OGo _ _ _ _ (T63.setTop (mkF m 98 #[.val (.ref a1), .val (.int (3 : Int32))] [(.ref b50)]))
    show OGo _ _ _ _ (T63.setTop (mkF m 98 #[.val (.ref a1), .val (.int (3 : Int32))] [(.ref b50)]))
    refine own_retA X63 hx Bd.notSynchronized Bd.returns rfl rfl (hb hby d2_98) (by decide) (by decide) ?_
    show Q_rm2 Z _ _ _ _ _ _ _ _ _ _ _ _ _ _ _ h0 n0 _ T63.heap _
    exact ⟨b50, vr, kr, cr, zr, br, rfl, N63, K63, r63_2, r63_3, r63_4, r63_5, r63_6⟩
  · show OGo _ _ _ _ (s₁.setTop (mkF m 0 #[.val (.ref a1), .val (.int (4 : Int32))] []))
    refine OGo.via (fun _ k => XS.iloadN X0.here hx rfl (hb hby d2_0) rfl (XS.ifYes X0.here hx rfl (pc0 := 1) (pc' := 15) rfl (hb hby d2_1) rfl ((if0 _ _).trans (feq (by decide : ¬ ((4 : Int32) = (0 : Int32)))).2) (by decide) (by decide) (XS.iloadN X0.here hx rfl (hb hby d2_15) rfl (XS.iconst X0.here hx rfl (hb hby d2_16) (XS.icmpYes X0.here hx rfl (pc0 := 17) (pc' := 37) rfl (hb hby d2_17) rfl (feq (by decide : ¬ ((4 : Int32) = (1 : Int32)))).2 (by decide) (by decide) (XS.iloadN X0.here hx rfl (hb hby d2_37) rfl (XS.iconst X0.here hx rfl (hb hby d2_38) (XS.icmpYes X0.here hx rfl (pc0 := 39) (pc' := 65) rfl (hb hby d2_39) rfl (feq (by decide : ¬ ((4 : Int32) = (2 : Int32)))).2 (by decide) (by decide) k)))))))) ?_
    show OGo _ _ _ _ (s₁.setTop (mkF m 65 #[.val (.ref a1), .val (.int (4 : Int32))] []))
    refine OGo.via (fun _ k => XS.iloadN X0.here hx rfl (hb hby d2_65) rfl (XS.iconst X0.here hx rfl (hb hby d2_66) (XS.icmpYes X0.here hx rfl (pc0 := 67) (pc' := 99) rfl (hb hby d2_67) rfl (feq (by decide : ¬ ((4 : Int32) = (3 : Int32)))).2 (by decide) (by decide) (XS.iloadN X0.here hx rfl (hb hby d2_99) rfl (XS.iconst X0.here hx rfl (hb hby d2_100) (XS.icmpNo X0.here hx rfl (hb hby d2_101) rfl (teq (by decide : (4 : Int32) = (4 : Int32))).2 k)))))) ?_
    obtain ⟨T85, h85, X85, e85, E85, A85, D85, -, st85⟩ := newO X0 hx hZ hown (own_w hw 9 rfl) (own_w hw 10 rfl) (own_w hw 11 rfl) e0 (g := (mkF m 104 #[.val (.ref a1), .val (.int (4 : Int32))] [])) rfl (hb hby d2_104) (by decide) (by decide)
    obtain ⟨b85, g85⟩ : ∃ z, z = h0.size := ⟨_, rfl⟩
    rw [← g85] at A85 D85 st85
    refine OGo.via st85 ?_
    have K85 : Keep h0 h85 [] := (Keep.refl h0 []).ext E85
    have lt_a1_b85 : a1 < b85 := Nat.lt_of_lt_of_le V_a1.lt (Nat.le_of_eq g85.symm)
    have sz_b85 : h0.size ≤ b85 := Nat.le_trans (Keep.refl h0 []).1 (Nat.le_of_eq g85.symm)
    have g_b85 : n0 ≤ b85 := Nat.le_trans Z0 sz_b85
    have F85_value : Fld Z h85 b85 "java/lang/String" "value" "[B" .null := D85 (Or.inr (own_w hw 24 rfl)) (ty := (.array .byte)) (by decide)
    have F85_coder : Fld Z h85 b85 "java/lang/String" "coder" "B" (.int (0 : Int32)) := D85 (Or.inr (own_w hw 25 rfl)) (ty := .byte) (by decide)
    show OGo _ _ _ _ (T85.setTop (mkF m 107 #[.val (.ref a1), .val (.int (4 : Int32))] [(.ref b85)]))
    refine OGo.via (fun _ k => XS.dup X85.here hx rfl (hb hby d2_107) rfl rfl (XS.iconst X85.here hx rfl (hb hby d2_108) k)) ?_
    have f87 := V_a1.ext E85
    obtain ⟨T86, h86, ka86, X86, e86, E86, A86, Y86, st86⟩ := newPE (ad := "[C") X85 hx hZ (own_w hw 0 rfl) e85 (g := (mkF m 109 #[.val (.ref a1), .val (.int (4 : Int32))] [(.int (4 : Int32)), (.ref b85), (.ref b85)])) rfl (hb hby d2_109) rfl (by decide) (cap := 4) (by decide) (by decide) (by decide) (by decide) (by decide)
    obtain ⟨b86, g86⟩ : ∃ z, z = h85.size := ⟨_, rfl⟩
    rw [← g86] at A86 Y86 st86
    refine OGo.via st86 ?_
    have K86 : Keep h0 h86 [] := K85.ext E86
    have lt_a1_b86 : a1 < b86 := Nat.lt_of_lt_of_le f87.lt (Nat.le_of_eq g86.symm)
    have lt_b85_b86 : b85 < b86 := Nat.lt_of_lt_of_le A85.lt (Nat.le_of_eq g86.symm)
    have sz_b86 : h0.size ≤ b86 := Nat.le_trans K85.1 (Nat.le_of_eq g86.symm)
    have g_b86 : n0 ≤ b86 := Nat.le_trans Z0 sz_b86
    have V86 : Arv Z h86 b86 ka86 .char (4 : Int32) [(.int (0 : Int32)), (.int (0 : Int32)), (.int (0 : Int32)), (.int (0 : Int32))] (.int (0 : Int32)) := (Arv.new A86 (by decide)).pad (pad_rep [] (.int (0 : Int32)) 4)
    show OGo _ _ _ _ (T86.setTop (mkF m 111 #[.val (.ref a1), .val (.int (4 : Int32))] [(.ref b86), (.ref b85), (.ref b85)]))
    refine OGo.via (fun _ k => XS.dup X86.here hx rfl (hb hby d2_111) rfl rfl (XS.iconst X86.here hx rfl (hb hby d2_112) (XS.aloadN X86.here hx rfl (hb hby d2_113) rfl rfl (XS.iconst X86.here hx rfl (hb hby d2_114) k)))) ?_
    have f89 := f87.ext E86
    obtain ⟨cl88, Ar88, q88, Sz88, Ng88, Hs88, Gf88⟩ := id f89
    have hin88 : ¬ ((0 : Int32) < 0 ∨ cl88.slots.size ≤ ((0 : Int32)).toNatClampNeg) := inb_of Sz88 ⟨by decide, by decide⟩
    have hat88 : cl88.slots[((0 : Int32)).toNatClampNeg]? = some (.int y0) := Hs88.at hin88 rfl
    refine OGo.via (X86.caload hx (j := (0 : Int32)) (v := (.int y0)) (by rw [e86]; exact Ar88.1) (State.isArrayOf_alike hZ.alike Ar88.2.1) Ar88.2.2 hin88 hat88 (g := (mkF m 115 #[.val (.ref a1), .val (.int (4 : Int32))] [(.int (0 : Int32)), (.ref a1), (.int (0 : Int32)), (.ref b86), (.ref b86), (.ref b85), (.ref b85)])) rfl rfl (hb hby d2_115)) ?_
    show OGo _ _ _ _ (T86.setTop (mkF m 116 #[.val (.ref a1), .val (.int (4 : Int32))] [(.int y0), (.int (0 : Int32)), (.ref b86), (.ref b86), (.ref b85), (.ref b85)]))
    obtain ⟨cl90, Ar90, q90, Sz90, Ng90, Hs90, Gf90⟩ := id V86
    have hin90 : ¬ ((0 : Int32) < 0 ∨ cl90.slots.size ≤ ((0 : Int32)).toNatClampNeg) := inb_of Sz90 ⟨by decide, by decide⟩
    obtain ⟨T90, h90, X90, e90, W90, st90⟩ := stC X86 hx hZ e86 Ar90 (j := (0 : Int32)) hin90 (g := (mkF m 116 #[.val (.ref a1), .val (.int (4 : Int32))] [(.int y0), (.int (0 : Int32)), (.ref b86), (.ref b86), (.ref b85), (.ref b85)])) rfl rfl (hb hby d2_116)
    refine OGo.via st90 ?_
    have V90 : Arv Z h90 b86 ka86 .char (4 : Int32) [(.int (nar .char y0)), (.int (0 : Int32)), (.int (0 : Int32)), (.int (0 : Int32))] (.int (0 : Int32)) := Arv.set Ar90 q90 Sz90 Ng90 Hs90 Gf90 (fits_nar_char _) W90 0 rfl (Nat.le_of_ble_eq_true rfl)
    have K90 : Keep h0 h90 [] := K86.wr W90 (Or.inr sz_b86)
    have N90 := Fr.snoc X90 N0 g_b86
    show OGo _ _ _ _ (T90.setTop (mkF m 117 #[.val (.ref a1), .val (.int (4 : Int32))] [(.ref b86), (.ref b85), (.ref b85)]))
    refine OGo.via (fun _ k => XS.dup X90.here hx rfl (hb hby d2_117) rfl rfl (XS.iconst X90.here hx rfl (hb hby d2_118) (XS.aloadN X90.here hx rfl (hb hby d2_119) rfl rfl (XS.iconst X90.here hx rfl (hb hby d2_120) k)))) ?_
    have f92 := f89.other W90 (Nat.ne_of_lt lt_a1_b86)
    obtain ⟨cl91, Ar91, q91, Sz91, Ng91, Hs91, Gf91⟩ := id f92
    have hin91 : ¬ ((1 : Int32) < 0 ∨ cl91.slots.size ≤ ((1 : Int32)).toNatClampNeg) := inb_of Sz91 ⟨by decide, by decide⟩
    have hat91 : cl91.slots[((1 : Int32)).toNatClampNeg]? = some (.int y1) := Hs91.at hin91 rfl
    refine OGo.via (X90.caload hx (j := (1 : Int32)) (v := (.int y1)) (by rw [e90]; exact Ar91.1) (State.isArrayOf_alike hZ.alike Ar91.2.1) Ar91.2.2 hin91 hat91 (g := (mkF m 121 #[.val (.ref a1), .val (.int (4 : Int32))] [(.int (1 : Int32)), (.ref a1), (.int (1 : Int32)), (.ref b86), (.ref b86), (.ref b85), (.ref b85)])) rfl rfl (hb hby d2_121)) ?_
    show OGo _ _ _ _ (T90.setTop (mkF m 122 #[.val (.ref a1), .val (.int (4 : Int32))] [(.int y1), (.int (1 : Int32)), (.ref b86), (.ref b86), (.ref b85), (.ref b85)]))
    obtain ⟨cl93, Ar93, q93, Sz93, Ng93, Hs93, Gf93⟩ := id V90
    have hin93 : ¬ ((1 : Int32) < 0 ∨ cl93.slots.size ≤ ((1 : Int32)).toNatClampNeg) := inb_of Sz93 ⟨by decide, by decide⟩
    obtain ⟨T93, h93, X93, e93, W93, st93⟩ := stC X90 hx hZ e90 Ar93 (j := (1 : Int32)) hin93 (g := (mkF m 122 #[.val (.ref a1), .val (.int (4 : Int32))] [(.int y1), (.int (1 : Int32)), (.ref b86), (.ref b86), (.ref b85), (.ref b85)])) rfl rfl (hb hby d2_122)
    refine OGo.via st93 ?_
    have V93 : Arv Z h93 b86 ka86 .char (4 : Int32) [(.int (nar .char y0)), (.int (nar .char y1)), (.int (0 : Int32)), (.int (0 : Int32))] (.int (0 : Int32)) := Arv.set Ar93 q93 Sz93 Ng93 Hs93 Gf93 (fits_nar_char _) W93 1 rfl (Nat.le_of_ble_eq_true rfl)
    have K93 : Keep h0 h93 [] := K90.wr W93 (Or.inr sz_b86)
    have N93 := Fr.snoc X93 N90 g_b86
    show OGo _ _ _ _ (T93.setTop (mkF m 123 #[.val (.ref a1), .val (.int (4 : Int32))] [(.ref b86), (.ref b85), (.ref b85)]))
    refine OGo.via (fun _ k => XS.dup X93.here hx rfl (hb hby d2_123) rfl rfl (XS.iconst X93.here hx rfl (hb hby d2_124) (XS.aloadN X93.here hx rfl (hb hby d2_125) rfl rfl (XS.iconst X93.here hx rfl (hb hby d2_126) k)))) ?_
    have f95 := f92.other W93 (Nat.ne_of_lt lt_a1_b86)
    obtain ⟨cl94, Ar94, q94, Sz94, Ng94, Hs94, Gf94⟩ := id f95
    have hin94 : ¬ ((2 : Int32) < 0 ∨ cl94.slots.size ≤ ((2 : Int32)).toNatClampNeg) := inb_of Sz94 ⟨by decide, by decide⟩
    have hat94 : cl94.slots[((2 : Int32)).toNatClampNeg]? = some (.int y2) := Hs94.at hin94 rfl
    refine OGo.via (X93.caload hx (j := (2 : Int32)) (v := (.int y2)) (by rw [e93]; exact Ar94.1) (State.isArrayOf_alike hZ.alike Ar94.2.1) Ar94.2.2 hin94 hat94 (g := (mkF m 127 #[.val (.ref a1), .val (.int (4 : Int32))] [(.int (2 : Int32)), (.ref a1), (.int (2 : Int32)), (.ref b86), (.ref b86), (.ref b85), (.ref b85)])) rfl rfl (hb hby d2_127)) ?_
    show OGo _ _ _ _ (T93.setTop (mkF m 128 #[.val (.ref a1), .val (.int (4 : Int32))] [(.int y2), (.int (2 : Int32)), (.ref b86), (.ref b86), (.ref b85), (.ref b85)]))
    obtain ⟨cl96, Ar96, q96, Sz96, Ng96, Hs96, Gf96⟩ := id V93
    have hin96 : ¬ ((2 : Int32) < 0 ∨ cl96.slots.size ≤ ((2 : Int32)).toNatClampNeg) := inb_of Sz96 ⟨by decide, by decide⟩
    obtain ⟨T96, h96, X96, e96, W96, st96⟩ := stC X93 hx hZ e93 Ar96 (j := (2 : Int32)) hin96 (g := (mkF m 128 #[.val (.ref a1), .val (.int (4 : Int32))] [(.int y2), (.int (2 : Int32)), (.ref b86), (.ref b86), (.ref b85), (.ref b85)])) rfl rfl (hb hby d2_128)
    refine OGo.via st96 ?_
    have V96 : Arv Z h96 b86 ka86 .char (4 : Int32) [(.int (nar .char y0)), (.int (nar .char y1)), (.int (nar .char y2)), (.int (0 : Int32))] (.int (0 : Int32)) := Arv.set Ar96 q96 Sz96 Ng96 Hs96 Gf96 (fits_nar_char _) W96 2 rfl (Nat.le_of_ble_eq_true rfl)
    have K96 : Keep h0 h96 [] := K93.wr W96 (Or.inr sz_b86)
    have N96 := Fr.snoc X96 N93 g_b86
    show OGo _ _ _ _ (T96.setTop (mkF m 129 #[.val (.ref a1), .val (.int (4 : Int32))] [(.ref b86), (.ref b85), (.ref b85)]))
    refine OGo.via (fun _ k => XS.dup X96.here hx rfl (hb hby d2_129) rfl rfl (XS.iconst X96.here hx rfl (hb hby d2_130) (XS.aloadN X96.here hx rfl (hb hby d2_131) rfl rfl (XS.iconst X96.here hx rfl (hb hby d2_132) k)))) ?_
    have f98 := f95.other W96 (Nat.ne_of_lt lt_a1_b86)
    obtain ⟨cl97, Ar97, q97, Sz97, Ng97, Hs97, Gf97⟩ := id f98
    have hin97 : ¬ ((3 : Int32) < 0 ∨ cl97.slots.size ≤ ((3 : Int32)).toNatClampNeg) := inb_of Sz97 ⟨by decide, by decide⟩
    have hat97 : cl97.slots[((3 : Int32)).toNatClampNeg]? = some (.int y3) := Hs97.at hin97 rfl
    refine OGo.via (X96.caload hx (j := (3 : Int32)) (v := (.int y3)) (by rw [e96]; exact Ar97.1) (State.isArrayOf_alike hZ.alike Ar97.2.1) Ar97.2.2 hin97 hat97 (g := (mkF m 133 #[.val (.ref a1), .val (.int (4 : Int32))] [(.int (3 : Int32)), (.ref a1), (.int (3 : Int32)), (.ref b86), (.ref b86), (.ref b85), (.ref b85)])) rfl rfl (hb hby d2_133)) ?_
    show OGo _ _ _ _ (T96.setTop (mkF m 134 #[.val (.ref a1), .val (.int (4 : Int32))] [(.int y3), (.int (3 : Int32)), (.ref b86), (.ref b86), (.ref b85), (.ref b85)]))
    obtain ⟨cl99, Ar99, q99, Sz99, Ng99, Hs99, Gf99⟩ := id V96
    have hin99 : ¬ ((3 : Int32) < 0 ∨ cl99.slots.size ≤ ((3 : Int32)).toNatClampNeg) := inb_of Sz99 ⟨by decide, by decide⟩
    obtain ⟨T99, h99, X99, e99, W99, st99⟩ := stC X96 hx hZ e96 Ar99 (j := (3 : Int32)) hin99 (g := (mkF m 134 #[.val (.ref a1), .val (.int (4 : Int32))] [(.int y3), (.int (3 : Int32)), (.ref b86), (.ref b86), (.ref b85), (.ref b85)])) rfl rfl (hb hby d2_134)
    refine OGo.via st99 ?_
    have V99 : Arv Z h99 b86 ka86 .char (4 : Int32) [(.int (nar .char y0)), (.int (nar .char y1)), (.int (nar .char y2)), (.int (nar .char y3))] (.int (0 : Int32)) := Arv.set Ar99 q99 Sz99 Ng99 Hs99 Gf99 (fits_nar_char _) W99 3 rfl (Nat.le_of_ble_eq_true rfl)
    have K99 : Keep h0 h99 [] := K96.wr W99 (Or.inr sz_b86)
    have N99 := Fr.snoc X99 N96 g_b86
    show OGo _ _ _ _ (T99.setTop (mkF m 135 #[.val (.ref a1), .val (.int (4 : Int32))] [(.ref b86), (.ref b85), (.ref b85)]))
    have f100 : Arv Z h99 b86 ka86 .char (4 : Int32) (List.map Value.int [y0, y1, y2, y3]) (.int (0 : Int32)) := (by have q := V99; rw [hy0, hy1, hy2, hy3] at q; exact q)
    have f102 := A85.ext E86
    have f103 := f102.wr W90
    have f104 := f103.wr W93
    have f105 := f104.wr W96
    have f106 := f105.wr W99
    have f107 := F85_value.ext E86
    have f108 := f107.other W90 (Or.inl (Nat.ne_of_lt lt_b85_b86))
    have f109 := f108.other W93 (Or.inl (Nat.ne_of_lt lt_b85_b86))
    have f110 := f109.other W96 (Or.inl (Nat.ne_of_lt lt_b85_b86))
    have f111 := f110.other W99 (Or.inl (Nat.ne_of_lt lt_b85_b86))
    have f112 := F85_coder.ext E86
    have f113 := f112.other W90 (Or.inl (Nat.ne_of_lt lt_b85_b86))
    have f114 := f113.other W93 (Or.inl (Nat.ne_of_lt lt_b85_b86))
    have f115 := f114.other W96 (Or.inl (Nat.ne_of_lt lt_b85_b86))
    have f116 := f115.other W99 (Or.inl (Nat.ne_of_lt lt_b85_b86))
    have f117 := own_staKeep0 S_COMPACT_STRINGS K99
    have f118 := own_staKeep0 S_SIOOBE_FORMATTER K99
    have f119 := own_staKeep0 S__assertionsDisabled K99
    have f120 := own_staKeep0 S_HI_BYTE_SHIFT K99
    have f121 := own_staKeep0 S_LO_BYTE_SHIFT K99
    have f122 := f98.other W99 (Nat.ne_of_lt lt_a1_b86)
    have f123 := Y86.wr W90
    have f124 := f123.wr W93
    have f125 := f124.wr W96
    have f126 := f125.wr W99
    obtain ⟨_, T101, Lc101, X101, hQ101, st101⟩ := own_open X99 (X99.specialBack hx (y := own_y35) rfl hown (mvT hZ (own_w hw 12 rfl)) (mvT hZ (own_w hw 13 rfl)) (mvT hZ (own_w hw 14 rfl)) (by decide) (backOf (W := 1) (rm3 l Z a0 hw [] b85 b86 ka86 [y0, y1, y2, y3] (4 : Int32) w fm h99 n0 (Nat.le_trans Z0 K99.1) f106 f111 f116 f100 g_b85 f117 f118 f119 f120 f121 hw0 rfl (by simp) (by simp) (List.forall_mem_cons.mpr ⟨hy0, (List.forall_mem_cons.mpr ⟨hy1, (List.forall_mem_cons.mpr ⟨hy2, (List.forall_mem_cons.mpr ⟨hy3, (List.forall_mem_nil _)⟩)⟩)⟩)⟩)) hZ (own_w hw 14 rfl) (own_w hw 11 rfl) (by decide) (by decide)) (g := (mkF m 135 #[.val (.ref a1), .val (.int (4 : Int32))] [(.ref b86), (.ref b85), (.ref b85)])) rfl (by rw [hml]; rfl) (Steps.refl _) (a := b85) (argsL := [(.ref b86)]) (rest := [(.ref b85)]) (lenOf pd_26 rfl) rfl (by show 2 * 0 + _ ≤ _; exact Nat.le_of_eq rfl) (hb hby d2_135) (fun _ _ => ⟨rfl, e99, (by decide : 2 + 2 ≤ _), (by decide : 8 + 30 ≤ _)⟩))
    obtain ⟨vr, kr, cr, zr, br, rfl, N101q, r101_0, r101_1, r101_2, r101_3, r101_4, r101_5, r101_6⟩ := hQ101
    have N101 := Fr.app N99 N101q
    have K101 : Keep h0 T101.heap [] := K99.trans r101_0 (allS (Or.inr sz_b85) all0)
    have lt_a1_vr : a1 < vr := Nat.lt_of_lt_of_le f122.lt r101_1
    have lt_b85_vr : b85 < vr := Nat.lt_of_lt_of_le f106.lt r101_1
    have lt_b86_vr : b86 < vr := Nat.lt_of_lt_of_le f126.lt r101_1
    have sz_vr : h0.size ≤ vr := Nat.le_trans K99.1 r101_1
    have g_vr : n0 ≤ vr := Nat.le_trans Z0 sz_vr
    refine OGo.via (fun _ k => st101.trans k) ?_
    show OGo _ _ _ _ (T101.setTop (mkF m 138 #[.val (.ref a1), .val (.int (4 : Int32))] [(.ref b85)]))
    show OGo _ _ _ _ (T101.setTop (mkF m 138 #[.val (.ref a1), .val (.int (4 : Int32))] [(.ref b85)]))
    refine own_retA X101 hx Bd.notSynchronized Bd.returns rfl rfl (hb hby d2_138) (by decide) (by decide) ?_
    show Q_rm2 Z _ _ _ _ _ _ _ _ _ _ _ _ _ _ _ h0 n0 _ T101.heap _
    exact ⟨b85, vr, kr, cr, zr, br, rfl, N101, K101, r101_2, r101_3, r101_4, r101_5, r101_6⟩
  · show OGo _ _ _ _ (s₁.setTop (mkF m 0 #[.val (.ref a1), .val (.int (5 : Int32))] []))
    refine OGo.via (fun _ k => XS.iloadN X0.here hx rfl (hb hby d2_0) rfl (XS.ifYes X0.here hx rfl (pc0 := 1) (pc' := 15) rfl (hb hby d2_1) rfl ((if0 _ _).trans (feq (by decide : ¬ ((5 : Int32) = (0 : Int32)))).2) (by decide) (by decide) (XS.iloadN X0.here hx rfl (hb hby d2_15) rfl (XS.iconst X0.here hx rfl (hb hby d2_16) (XS.icmpYes X0.here hx rfl (pc0 := 17) (pc' := 37) rfl (hb hby d2_17) rfl (feq (by decide : ¬ ((5 : Int32) = (1 : Int32)))).2 (by decide) (by decide) (XS.iloadN X0.here hx rfl (hb hby d2_37) rfl (XS.iconst X0.here hx rfl (hb hby d2_38) (XS.icmpYes X0.here hx rfl (pc0 := 39) (pc' := 65) rfl (hb hby d2_39) rfl (feq (by decide : ¬ ((5 : Int32) = (2 : Int32)))).2 (by decide) (by decide) k)))))))) ?_
    show OGo _ _ _ _ (s₁.setTop (mkF m 65 #[.val (.ref a1), .val (.int (5 : Int32))] []))
    refine OGo.via (fun _ k => XS.iloadN X0.here hx rfl (hb hby d2_65) rfl (XS.iconst X0.here hx rfl (hb hby d2_66) (XS.icmpYes X0.here hx rfl (pc0 := 67) (pc' := 99) rfl (hb hby d2_67) rfl (feq (by decide : ¬ ((5 : Int32) = (3 : Int32)))).2 (by decide) (by decide) (XS.iloadN X0.here hx rfl (hb hby d2_99) rfl (XS.iconst X0.here hx rfl (hb hby d2_100) (XS.icmpYes X0.here hx rfl (pc0 := 101) (pc' := 139) rfl (hb hby d2_101) rfl (feq (by decide : ¬ ((5 : Int32) = (4 : Int32)))).2 (by decide) (by decide) (XS.iloadN X0.here hx rfl (hb hby d2_139) rfl (XS.iconst X0.here hx rfl (hb hby d2_140) k)))))))) ?_
    show OGo _ _ _ _ (s₁.setTop (mkF m 141 #[.val (.ref a1), .val (.int (5 : Int32))] [(.int (5 : Int32)), (.int (5 : Int32))]))
    refine OGo.via (fun _ k => XS.icmpNo X0.here hx rfl (hb hby d2_141) rfl (teq (by decide : (5 : Int32) = (5 : Int32))).2 k) ?_
    obtain ⟨T127, h127, X127, e127, E127, A127, D127, -, st127⟩ := newO X0 hx hZ hown (own_w hw 9 rfl) (own_w hw 10 rfl) (own_w hw 11 rfl) e0 (g := (mkF m 144 #[.val (.ref a1), .val (.int (5 : Int32))] [])) rfl (hb hby d2_144) (by decide) (by decide)
    obtain ⟨b127, g127⟩ : ∃ z, z = h0.size := ⟨_, rfl⟩
    rw [← g127] at A127 D127 st127
    refine OGo.via st127 ?_
    have K127 : Keep h0 h127 [] := (Keep.refl h0 []).ext E127
    have lt_a1_b127 : a1 < b127 := Nat.lt_of_lt_of_le V_a1.lt (Nat.le_of_eq g127.symm)
    have sz_b127 : h0.size ≤ b127 := Nat.le_trans (Keep.refl h0 []).1 (Nat.le_of_eq g127.symm)
    have g_b127 : n0 ≤ b127 := Nat.le_trans Z0 sz_b127
    have F127_value : Fld Z h127 b127 "java/lang/String" "value" "[B" .null := D127 (Or.inr (own_w hw 24 rfl)) (ty := (.array .byte)) (by decide)
    have F127_coder : Fld Z h127 b127 "java/lang/String" "coder" "B" (.int (0 : Int32)) := D127 (Or.inr (own_w hw 25 rfl)) (ty := .byte) (by decide)
    show OGo _ _ _ _ (T127.setTop (mkF m 147 #[.val (.ref a1), .val (.int (5 : Int32))] [(.ref b127)]))
    refine OGo.via (fun _ k => XS.dup X127.here hx rfl (hb hby d2_147) rfl rfl (XS.iconst X127.here hx rfl (hb hby d2_148) k)) ?_
    have f129 := V_a1.ext E127
    obtain ⟨T128, h128, ka128, X128, e128, E128, A128, Y128, st128⟩ := newPE (ad := "[C") X127 hx hZ (own_w hw 0 rfl) e127 (g := (mkF m 149 #[.val (.ref a1), .val (.int (5 : Int32))] [(.int (5 : Int32)), (.ref b127), (.ref b127)])) rfl (hb hby d2_149) rfl (by decide) (cap := 5) (by decide) (by decide) (by decide) (by decide) (by decide)
    obtain ⟨b128, g128⟩ : ∃ z, z = h127.size := ⟨_, rfl⟩
    rw [← g128] at A128 Y128 st128
    refine OGo.via st128 ?_
    have K128 : Keep h0 h128 [] := K127.ext E128
    have lt_a1_b128 : a1 < b128 := Nat.lt_of_lt_of_le f129.lt (Nat.le_of_eq g128.symm)
    have lt_b127_b128 : b127 < b128 := Nat.lt_of_lt_of_le A127.lt (Nat.le_of_eq g128.symm)
    have sz_b128 : h0.size ≤ b128 := Nat.le_trans K127.1 (Nat.le_of_eq g128.symm)
    have g_b128 : n0 ≤ b128 := Nat.le_trans Z0 sz_b128
    have V128 : Arv Z h128 b128 ka128 .char (5 : Int32) [(.int (0 : Int32)), (.int (0 : Int32)), (.int (0 : Int32)), (.int (0 : Int32)), (.int (0 : Int32))] (.int (0 : Int32)) := (Arv.new A128 (by decide)).pad (pad_rep [] (.int (0 : Int32)) 5)
    show OGo _ _ _ _ (T128.setTop (mkF m 151 #[.val (.ref a1), .val (.int (5 : Int32))] [(.ref b128), (.ref b127), (.ref b127)]))
    refine OGo.via (fun _ k => XS.dup X128.here hx rfl (hb hby d2_151) rfl rfl (XS.iconst X128.here hx rfl (hb hby d2_152) (XS.aloadN X128.here hx rfl (hb hby d2_153) rfl rfl (XS.iconst X128.here hx rfl (hb hby d2_154) k)))) ?_
    have f131 := f129.ext E128
    obtain ⟨cl130, Ar130, q130, Sz130, Ng130, Hs130, Gf130⟩ := id f131
    have hin130 : ¬ ((0 : Int32) < 0 ∨ cl130.slots.size ≤ ((0 : Int32)).toNatClampNeg) := inb_of Sz130 ⟨by decide, by decide⟩
    have hat130 : cl130.slots[((0 : Int32)).toNatClampNeg]? = some (.int y0) := Hs130.at hin130 rfl
    refine OGo.via (X128.caload hx (j := (0 : Int32)) (v := (.int y0)) (by rw [e128]; exact Ar130.1) (State.isArrayOf_alike hZ.alike Ar130.2.1) Ar130.2.2 hin130 hat130 (g := (mkF m 155 #[.val (.ref a1), .val (.int (5 : Int32))] [(.int (0 : Int32)), (.ref a1), (.int (0 : Int32)), (.ref b128), (.ref b128), (.ref b127), (.ref b127)])) rfl rfl (hb hby d2_155)) ?_
    show OGo _ _ _ _ (T128.setTop (mkF m 156 #[.val (.ref a1), .val (.int (5 : Int32))] [(.int y0), (.int (0 : Int32)), (.ref b128), (.ref b128), (.ref b127), (.ref b127)]))
    obtain ⟨cl132, Ar132, q132, Sz132, Ng132, Hs132, Gf132⟩ := id V128
    have hin132 : ¬ ((0 : Int32) < 0 ∨ cl132.slots.size ≤ ((0 : Int32)).toNatClampNeg) := inb_of Sz132 ⟨by decide, by decide⟩
    obtain ⟨T132, h132, X132, e132, W132, st132⟩ := stC X128 hx hZ e128 Ar132 (j := (0 : Int32)) hin132 (g := (mkF m 156 #[.val (.ref a1), .val (.int (5 : Int32))] [(.int y0), (.int (0 : Int32)), (.ref b128), (.ref b128), (.ref b127), (.ref b127)])) rfl rfl (hb hby d2_156)
    refine OGo.via st132 ?_
    have V132 : Arv Z h132 b128 ka128 .char (5 : Int32) [(.int (nar .char y0)), (.int (0 : Int32)), (.int (0 : Int32)), (.int (0 : Int32)), (.int (0 : Int32))] (.int (0 : Int32)) := Arv.set Ar132 q132 Sz132 Ng132 Hs132 Gf132 (fits_nar_char _) W132 0 rfl (Nat.le_of_ble_eq_true rfl)
    have K132 : Keep h0 h132 [] := K128.wr W132 (Or.inr sz_b128)
    have N132 := Fr.snoc X132 N0 g_b128
    show OGo _ _ _ _ (T132.setTop (mkF m 157 #[.val (.ref a1), .val (.int (5 : Int32))] [(.ref b128), (.ref b127), (.ref b127)]))
    refine OGo.via (fun _ k => XS.dup X132.here hx rfl (hb hby d2_157) rfl rfl (XS.iconst X132.here hx rfl (hb hby d2_158) (XS.aloadN X132.here hx rfl (hb hby d2_159) rfl rfl (XS.iconst X132.here hx rfl (hb hby d2_160) k)))) ?_
    have f134 := f131.other W132 (Nat.ne_of_lt lt_a1_b128)
    obtain ⟨cl133, Ar133, q133, Sz133, Ng133, Hs133, Gf133⟩ := id f134
    have hin133 : ¬ ((1 : Int32) < 0 ∨ cl133.slots.size ≤ ((1 : Int32)).toNatClampNeg) := inb_of Sz133 ⟨by decide, by decide⟩
    have hat133 : cl133.slots[((1 : Int32)).toNatClampNeg]? = some (.int y1) := Hs133.at hin133 rfl
    refine OGo.via (X132.caload hx (j := (1 : Int32)) (v := (.int y1)) (by rw [e132]; exact Ar133.1) (State.isArrayOf_alike hZ.alike Ar133.2.1) Ar133.2.2 hin133 hat133 (g := (mkF m 161 #[.val (.ref a1), .val (.int (5 : Int32))] [(.int (1 : Int32)), (.ref a1), (.int (1 : Int32)), (.ref b128), (.ref b128), (.ref b127), (.ref b127)])) rfl rfl (hb hby d2_161)) ?_
    show OGo _ _ _ _ (T132.setTop (mkF m 162 #[.val (.ref a1), .val (.int (5 : Int32))] [(.int y1), (.int (1 : Int32)), (.ref b128), (.ref b128), (.ref b127), (.ref b127)]))
    obtain ⟨cl135, Ar135, q135, Sz135, Ng135, Hs135, Gf135⟩ := id V132
    have hin135 : ¬ ((1 : Int32) < 0 ∨ cl135.slots.size ≤ ((1 : Int32)).toNatClampNeg) := inb_of Sz135 ⟨by decide, by decide⟩
    obtain ⟨T135, h135, X135, e135, W135, st135⟩ := stC X132 hx hZ e132 Ar135 (j := (1 : Int32)) hin135 (g := (mkF m 162 #[.val (.ref a1), .val (.int (5 : Int32))] [(.int y1), (.int (1 : Int32)), (.ref b128), (.ref b128), (.ref b127), (.ref b127)])) rfl rfl (hb hby d2_162)
    refine OGo.via st135 ?_
    have V135 : Arv Z h135 b128 ka128 .char (5 : Int32) [(.int (nar .char y0)), (.int (nar .char y1)), (.int (0 : Int32)), (.int (0 : Int32)), (.int (0 : Int32))] (.int (0 : Int32)) := Arv.set Ar135 q135 Sz135 Ng135 Hs135 Gf135 (fits_nar_char _) W135 1 rfl (Nat.le_of_ble_eq_true rfl)
    have K135 : Keep h0 h135 [] := K132.wr W135 (Or.inr sz_b128)
    have N135 := Fr.snoc X135 N132 g_b128
    show OGo _ _ _ _ (T135.setTop (mkF m 163 #[.val (.ref a1), .val (.int (5 : Int32))] [(.ref b128), (.ref b127), (.ref b127)]))
    refine OGo.via (fun _ k => XS.dup X135.here hx rfl (hb hby d2_163) rfl rfl (XS.iconst X135.here hx rfl (hb hby d2_164) (XS.aloadN X135.here hx rfl (hb hby d2_165) rfl rfl (XS.iconst X135.here hx rfl (hb hby d2_166) k)))) ?_
    have f137 := f134.other W135 (Nat.ne_of_lt lt_a1_b128)
    obtain ⟨cl136, Ar136, q136, Sz136, Ng136, Hs136, Gf136⟩ := id f137
    have hin136 : ¬ ((2 : Int32) < 0 ∨ cl136.slots.size ≤ ((2 : Int32)).toNatClampNeg) := inb_of Sz136 ⟨by decide, by decide⟩
    have hat136 : cl136.slots[((2 : Int32)).toNatClampNeg]? = some (.int y2) := Hs136.at hin136 rfl
    refine OGo.via (X135.caload hx (j := (2 : Int32)) (v := (.int y2)) (by rw [e135]; exact Ar136.1) (State.isArrayOf_alike hZ.alike Ar136.2.1) Ar136.2.2 hin136 hat136 (g := (mkF m 167 #[.val (.ref a1), .val (.int (5 : Int32))] [(.int (2 : Int32)), (.ref a1), (.int (2 : Int32)), (.ref b128), (.ref b128), (.ref b127), (.ref b127)])) rfl rfl (hb hby d2_167)) ?_
    show OGo _ _ _ _ (T135.setTop (mkF m 168 #[.val (.ref a1), .val (.int (5 : Int32))] [(.int y2), (.int (2 : Int32)), (.ref b128), (.ref b128), (.ref b127), (.ref b127)]))
    obtain ⟨cl138, Ar138, q138, Sz138, Ng138, Hs138, Gf138⟩ := id V135
    have hin138 : ¬ ((2 : Int32) < 0 ∨ cl138.slots.size ≤ ((2 : Int32)).toNatClampNeg) := inb_of Sz138 ⟨by decide, by decide⟩
    obtain ⟨T138, h138, X138, e138, W138, st138⟩ := stC X135 hx hZ e135 Ar138 (j := (2 : Int32)) hin138 (g := (mkF m 168 #[.val (.ref a1), .val (.int (5 : Int32))] [(.int y2), (.int (2 : Int32)), (.ref b128), (.ref b128), (.ref b127), (.ref b127)])) rfl rfl (hb hby d2_168)
    refine OGo.via st138 ?_
    have V138 : Arv Z h138 b128 ka128 .char (5 : Int32) [(.int (nar .char y0)), (.int (nar .char y1)), (.int (nar .char y2)), (.int (0 : Int32)), (.int (0 : Int32))] (.int (0 : Int32)) := Arv.set Ar138 q138 Sz138 Ng138 Hs138 Gf138 (fits_nar_char _) W138 2 rfl (Nat.le_of_ble_eq_true rfl)
    have K138 : Keep h0 h138 [] := K135.wr W138 (Or.inr sz_b128)
    have N138 := Fr.snoc X138 N135 g_b128
    show OGo _ _ _ _ (T138.setTop (mkF m 169 #[.val (.ref a1), .val (.int (5 : Int32))] [(.ref b128), (.ref b127), (.ref b127)]))
    refine OGo.via (fun _ k => XS.dup X138.here hx rfl (hb hby d2_169) rfl rfl (XS.iconst X138.here hx rfl (hb hby d2_170) (XS.aloadN X138.here hx rfl (hb hby d2_171) rfl rfl (XS.iconst X138.here hx rfl (hb hby d2_172) k)))) ?_
    have f140 := f137.other W138 (Nat.ne_of_lt lt_a1_b128)
    obtain ⟨cl139, Ar139, q139, Sz139, Ng139, Hs139, Gf139⟩ := id f140
    have hin139 : ¬ ((3 : Int32) < 0 ∨ cl139.slots.size ≤ ((3 : Int32)).toNatClampNeg) := inb_of Sz139 ⟨by decide, by decide⟩
    have hat139 : cl139.slots[((3 : Int32)).toNatClampNeg]? = some (.int y3) := Hs139.at hin139 rfl
    refine OGo.via (X138.caload hx (j := (3 : Int32)) (v := (.int y3)) (by rw [e138]; exact Ar139.1) (State.isArrayOf_alike hZ.alike Ar139.2.1) Ar139.2.2 hin139 hat139 (g := (mkF m 173 #[.val (.ref a1), .val (.int (5 : Int32))] [(.int (3 : Int32)), (.ref a1), (.int (3 : Int32)), (.ref b128), (.ref b128), (.ref b127), (.ref b127)])) rfl rfl (hb hby d2_173)) ?_
    show OGo _ _ _ _ (T138.setTop (mkF m 174 #[.val (.ref a1), .val (.int (5 : Int32))] [(.int y3), (.int (3 : Int32)), (.ref b128), (.ref b128), (.ref b127), (.ref b127)]))
    obtain ⟨cl141, Ar141, q141, Sz141, Ng141, Hs141, Gf141⟩ := id V138
    have hin141 : ¬ ((3 : Int32) < 0 ∨ cl141.slots.size ≤ ((3 : Int32)).toNatClampNeg) := inb_of Sz141 ⟨by decide, by decide⟩
    obtain ⟨T141, h141, X141, e141, W141, st141⟩ := stC X138 hx hZ e138 Ar141 (j := (3 : Int32)) hin141 (g := (mkF m 174 #[.val (.ref a1), .val (.int (5 : Int32))] [(.int y3), (.int (3 : Int32)), (.ref b128), (.ref b128), (.ref b127), (.ref b127)])) rfl rfl (hb hby d2_174)
    refine OGo.via st141 ?_
    have V141 : Arv Z h141 b128 ka128 .char (5 : Int32) [(.int (nar .char y0)), (.int (nar .char y1)), (.int (nar .char y2)), (.int (nar .char y3)), (.int (0 : Int32))] (.int (0 : Int32)) := Arv.set Ar141 q141 Sz141 Ng141 Hs141 Gf141 (fits_nar_char _) W141 3 rfl (Nat.le_of_ble_eq_true rfl)
    have K141 : Keep h0 h141 [] := K138.wr W141 (Or.inr sz_b128)
    have N141 := Fr.snoc X141 N138 g_b128
    show OGo _ _ _ _ (T141.setTop (mkF m 175 #[.val (.ref a1), .val (.int (5 : Int32))] [(.ref b128), (.ref b127), (.ref b127)]))
    refine OGo.via (fun _ k => XS.dup X141.here hx rfl (hb hby d2_175) rfl rfl (XS.iconst X141.here hx rfl (hb hby d2_176) (XS.aloadN X141.here hx rfl (hb hby d2_177) rfl rfl (XS.iconst X141.here hx rfl (hb hby d2_178) k)))) ?_
    have f143 := f140.other W141 (Nat.ne_of_lt lt_a1_b128)
    obtain ⟨cl142, Ar142, q142, Sz142, Ng142, Hs142, Gf142⟩ := id f143
    have hin142 : ¬ ((4 : Int32) < 0 ∨ cl142.slots.size ≤ ((4 : Int32)).toNatClampNeg) := inb_of Sz142 ⟨by decide, by decide⟩
    have hat142 : cl142.slots[((4 : Int32)).toNatClampNeg]? = some (.int y4) := Hs142.at hin142 rfl
    refine OGo.via (X141.caload hx (j := (4 : Int32)) (v := (.int y4)) (by rw [e141]; exact Ar142.1) (State.isArrayOf_alike hZ.alike Ar142.2.1) Ar142.2.2 hin142 hat142 (g := (mkF m 179 #[.val (.ref a1), .val (.int (5 : Int32))] [(.int (4 : Int32)), (.ref a1), (.int (4 : Int32)), (.ref b128), (.ref b128), (.ref b127), (.ref b127)])) rfl rfl (hb hby d2_179)) ?_
    show OGo _ _ _ _ (T141.setTop (mkF m 180 #[.val (.ref a1), .val (.int (5 : Int32))] [(.int y4), (.int (4 : Int32)), (.ref b128), (.ref b128), (.ref b127), (.ref b127)]))
    obtain ⟨cl144, Ar144, q144, Sz144, Ng144, Hs144, Gf144⟩ := id V141
    have hin144 : ¬ ((4 : Int32) < 0 ∨ cl144.slots.size ≤ ((4 : Int32)).toNatClampNeg) := inb_of Sz144 ⟨by decide, by decide⟩
    obtain ⟨T144, h144, X144, e144, W144, st144⟩ := stC X141 hx hZ e141 Ar144 (j := (4 : Int32)) hin144 (g := (mkF m 180 #[.val (.ref a1), .val (.int (5 : Int32))] [(.int y4), (.int (4 : Int32)), (.ref b128), (.ref b128), (.ref b127), (.ref b127)])) rfl rfl (hb hby d2_180)
    refine OGo.via st144 ?_
    have V144 : Arv Z h144 b128 ka128 .char (5 : Int32) [(.int (nar .char y0)), (.int (nar .char y1)), (.int (nar .char y2)), (.int (nar .char y3)), (.int (nar .char y4))] (.int (0 : Int32)) := Arv.set Ar144 q144 Sz144 Ng144 Hs144 Gf144 (fits_nar_char _) W144 4 rfl (Nat.le_of_ble_eq_true rfl)
    have K144 : Keep h0 h144 [] := K141.wr W144 (Or.inr sz_b128)
    have N144 := Fr.snoc X144 N141 g_b128
    show OGo _ _ _ _ (T144.setTop (mkF m 181 #[.val (.ref a1), .val (.int (5 : Int32))] [(.ref b128), (.ref b127), (.ref b127)]))
    have f145 : Arv Z h144 b128 ka128 .char (5 : Int32) (List.map Value.int [y0, y1, y2, y3, y4]) (.int (0 : Int32)) := (by have q := V144; rw [hy0, hy1, hy2, hy3, hy4] at q; exact q)
    have f147 := A127.ext E128
    have f148 := f147.wr W132
    have f149 := f148.wr W135
    have f150 := f149.wr W138
    have f151 := f150.wr W141
    have f152 := f151.wr W144
    have f153 := F127_value.ext E128
    have f154 := f153.other W132 (Or.inl (Nat.ne_of_lt lt_b127_b128))
    have f155 := f154.other W135 (Or.inl (Nat.ne_of_lt lt_b127_b128))
    have f156 := f155.other W138 (Or.inl (Nat.ne_of_lt lt_b127_b128))
    have f157 := f156.other W141 (Or.inl (Nat.ne_of_lt lt_b127_b128))
    have f158 := f157.other W144 (Or.inl (Nat.ne_of_lt lt_b127_b128))
    have f159 := F127_coder.ext E128
    have f160 := f159.other W132 (Or.inl (Nat.ne_of_lt lt_b127_b128))
    have f161 := f160.other W135 (Or.inl (Nat.ne_of_lt lt_b127_b128))
    have f162 := f161.other W138 (Or.inl (Nat.ne_of_lt lt_b127_b128))
    have f163 := f162.other W141 (Or.inl (Nat.ne_of_lt lt_b127_b128))
    have f164 := f163.other W144 (Or.inl (Nat.ne_of_lt lt_b127_b128))
    have f165 := own_staKeep0 S_COMPACT_STRINGS K144
    have f166 := own_staKeep0 S_SIOOBE_FORMATTER K144
    have f167 := own_staKeep0 S__assertionsDisabled K144
    have f168 := own_staKeep0 S_HI_BYTE_SHIFT K144
    have f169 := own_staKeep0 S_LO_BYTE_SHIFT K144
    have f170 := f143.other W144 (Nat.ne_of_lt lt_a1_b128)
    have f171 := Y128.wr W132
    have f172 := f171.wr W135
    have f173 := f172.wr W138
    have f174 := f173.wr W141
    have f175 := f174.wr W144
    obtain ⟨_, T146, Lc146, X146, hQ146, st146⟩ := own_open X144 (X144.specialBack hx (y := own_y35) rfl hown (mvT hZ (own_w hw 12 rfl)) (mvT hZ (own_w hw 13 rfl)) (mvT hZ (own_w hw 14 rfl)) (by decide) (backOf (W := 1) (rm3 l Z a0 hw [] b127 b128 ka128 [y0, y1, y2, y3, y4] (5 : Int32) w fm h144 n0 (Nat.le_trans Z0 K144.1) f152 f158 f164 f145 g_b127 f165 f166 f167 f168 f169 hw0 rfl (by simp) (by simp) (List.forall_mem_cons.mpr ⟨hy0, (List.forall_mem_cons.mpr ⟨hy1, (List.forall_mem_cons.mpr ⟨hy2, (List.forall_mem_cons.mpr ⟨hy3, (List.forall_mem_cons.mpr ⟨hy4, (List.forall_mem_nil _)⟩)⟩)⟩)⟩)⟩)) hZ (own_w hw 14 rfl) (own_w hw 11 rfl) (by decide) (by decide)) (g := (mkF m 181 #[.val (.ref a1), .val (.int (5 : Int32))] [(.ref b128), (.ref b127), (.ref b127)])) rfl (by rw [hml]; rfl) (Steps.refl _) (a := b127) (argsL := [(.ref b128)]) (rest := [(.ref b127)]) (lenOf pd_26 rfl) rfl (by show 2 * 0 + _ ≤ _; exact Nat.le_of_eq rfl) (hb hby d2_181) (fun _ _ => ⟨rfl, e144, (by decide : 2 + 2 ≤ _), (by decide : 9 + 30 ≤ _)⟩))
    obtain ⟨vr, kr, cr, zr, br, rfl, N146q, r146_0, r146_1, r146_2, r146_3, r146_4, r146_5, r146_6⟩ := hQ146
    have N146 := Fr.app N144 N146q
    have K146 : Keep h0 T146.heap [] := K144.trans r146_0 (allS (Or.inr sz_b127) all0)
    have lt_a1_vr : a1 < vr := Nat.lt_of_lt_of_le f170.lt r146_1
    have lt_b127_vr : b127 < vr := Nat.lt_of_lt_of_le f152.lt r146_1
    have lt_b128_vr : b128 < vr := Nat.lt_of_lt_of_le f175.lt r146_1
    have sz_vr : h0.size ≤ vr := Nat.le_trans K144.1 r146_1
    have g_vr : n0 ≤ vr := Nat.le_trans Z0 sz_vr
    refine OGo.via (fun _ k => st146.trans k) ?_
    show OGo _ _ _ _ (T146.setTop (mkF m 184 #[.val (.ref a1), .val (.int (5 : Int32))] [(.ref b127)]))
    show OGo _ _ _ _ (T146.setTop (mkF m 184 #[.val (.ref a1), .val (.int (5 : Int32))] [(.ref b127)]))
    refine own_retA X146 hx Bd.notSynchronized Bd.returns rfl rfl (hb hby d2_184) (by decide) (by decide) ?_
    show Q_rm2 Z _ _ _ _ _ _ _ _ _ _ _ _ _ _ _ h0 n0 _ T146.heap _
    exact ⟨b127, vr, kr, cr, zr, br, rfl, N146, K146, r146_2, r146_3, r146_4, r146_5, r146_6⟩
  · show OGo _ _ _ _ (s₁.setTop (mkF m 0 #[.val (.ref a1), .val (.int (6 : Int32))] []))
    refine OGo.via (fun _ k => XS.iloadN X0.here hx rfl (hb hby d2_0) rfl (XS.ifYes X0.here hx rfl (pc0 := 1) (pc' := 15) rfl (hb hby d2_1) rfl ((if0 _ _).trans (feq (by decide : ¬ ((6 : Int32) = (0 : Int32)))).2) (by decide) (by decide) (XS.iloadN X0.here hx rfl (hb hby d2_15) rfl (XS.iconst X0.here hx rfl (hb hby d2_16) (XS.icmpYes X0.here hx rfl (pc0 := 17) (pc' := 37) rfl (hb hby d2_17) rfl (feq (by decide : ¬ ((6 : Int32) = (1 : Int32)))).2 (by decide) (by decide) (XS.iloadN X0.here hx rfl (hb hby d2_37) rfl (XS.iconst X0.here hx rfl (hb hby d2_38) (XS.icmpYes X0.here hx rfl (pc0 := 39) (pc' := 65) rfl (hb hby d2_39) rfl (feq (by decide : ¬ ((6 : Int32) = (2 : Int32)))).2 (by decide) (by decide) k)))))))) ?_
    show OGo _ _ _ _ (s₁.setTop (mkF m 65 #[.val (.ref a1), .val (.int (6 : Int32))] []))
    refine OGo.via (fun _ k => XS.iloadN X0.here hx rfl (hb hby d2_65) rfl (XS.iconst X0.here hx rfl (hb hby d2_66) (XS.icmpYes X0.here hx rfl (pc0 := 67) (pc' := 99) rfl (hb hby d2_67) rfl (feq (by decide : ¬ ((6 : Int32) = (3 : Int32)))).2 (by decide) (by decide) (XS.iloadN X0.here hx rfl (hb hby d2_99) rfl (XS.iconst X0.here hx rfl (hb hby d2_100) (XS.icmpYes X0.here hx rfl (pc0 := 101) (pc' := 139) rfl (hb hby d2_101) rfl (feq (by decide : ¬ ((6 : Int32) = (4 : Int32)))).2 (by decide) (by decide) (XS.iloadN X0.here hx rfl (hb hby d2_139) rfl (XS.iconst X0.here hx rfl (hb hby d2_140) k)))))))) ?_
    show OGo _ _ _ _ (s₁.setTop (mkF m 141 #[.val (.ref a1), .val (.int (6 : Int32))] [(.int (5 : Int32)), (.int (6 : Int32))]))
    refine OGo.via (fun _ k => XS.icmpYes X0.here hx rfl (pc0 := 141) (pc' := 185) rfl (hb hby d2_141) rfl (feq (by decide : ¬ ((6 : Int32) = (5 : Int32)))).2 (by decide) (by decide) (XS.iloadN X0.here hx rfl (hb hby d2_185) rfl (XS.bipush X0.here hx rfl (hb hby d2_186) (XS.icmpNo X0.here hx rfl (hb hby d2_188) rfl (teq (by decide : (6 : Int32) = (6 : Int32))).2 k)))) ?_
    obtain ⟨T176, h176, X176, e176, E176, A176, D176, -, st176⟩ := newO X0 hx hZ hown (own_w hw 9 rfl) (own_w hw 10 rfl) (own_w hw 11 rfl) e0 (g := (mkF m 191 #[.val (.ref a1), .val (.int (6 : Int32))] [])) rfl (hb hby d2_191) (by decide) (by decide)
    obtain ⟨b176, g176⟩ : ∃ z, z = h0.size := ⟨_, rfl⟩
    rw [← g176] at A176 D176 st176
    refine OGo.via st176 ?_
    have K176 : Keep h0 h176 [] := (Keep.refl h0 []).ext E176
    have lt_a1_b176 : a1 < b176 := Nat.lt_of_lt_of_le V_a1.lt (Nat.le_of_eq g176.symm)
    have sz_b176 : h0.size ≤ b176 := Nat.le_trans (Keep.refl h0 []).1 (Nat.le_of_eq g176.symm)
    have g_b176 : n0 ≤ b176 := Nat.le_trans Z0 sz_b176
    have F176_value : Fld Z h176 b176 "java/lang/String" "value" "[B" .null := D176 (Or.inr (own_w hw 24 rfl)) (ty := (.array .byte)) (by decide)
    have F176_coder : Fld Z h176 b176 "java/lang/String" "coder" "B" (.int (0 : Int32)) := D176 (Or.inr (own_w hw 25 rfl)) (ty := .byte) (by decide)
    show OGo _ _ _ _ (T176.setTop (mkF m 194 #[.val (.ref a1), .val (.int (6 : Int32))] [(.ref b176)]))
    refine OGo.via (fun _ k => XS.dup X176.here hx rfl (hb hby d2_194) rfl rfl (XS.bipush X176.here hx rfl (hb hby d2_195) k)) ?_
    have f178 := V_a1.ext E176
    obtain ⟨T177, h177, ka177, X177, e177, E177, A177, Y177, st177⟩ := newPE (ad := "[C") X176 hx hZ (own_w hw 0 rfl) e176 (g := (mkF m 197 #[.val (.ref a1), .val (.int (6 : Int32))] [(.int (6 : Int32)), (.ref b176), (.ref b176)])) rfl (hb hby d2_197) rfl (by decide) (cap := 6) (by decide) (by decide) (by decide) (by decide) (by decide)
    obtain ⟨b177, g177⟩ : ∃ z, z = h176.size := ⟨_, rfl⟩
    rw [← g177] at A177 Y177 st177
    refine OGo.via st177 ?_
    have K177 : Keep h0 h177 [] := K176.ext E177
    have lt_a1_b177 : a1 < b177 := Nat.lt_of_lt_of_le f178.lt (Nat.le_of_eq g177.symm)
    have lt_b176_b177 : b176 < b177 := Nat.lt_of_lt_of_le A176.lt (Nat.le_of_eq g177.symm)
    have sz_b177 : h0.size ≤ b177 := Nat.le_trans K176.1 (Nat.le_of_eq g177.symm)
    have g_b177 : n0 ≤ b177 := Nat.le_trans Z0 sz_b177
    have V177 : Arv Z h177 b177 ka177 .char (6 : Int32) [(.int (0 : Int32)), (.int (0 : Int32)), (.int (0 : Int32)), (.int (0 : Int32)), (.int (0 : Int32)), (.int (0 : Int32))] (.int (0 : Int32)) := (Arv.new A177 (by decide)).pad (pad_rep [] (.int (0 : Int32)) 6)
    show OGo _ _ _ _ (T177.setTop (mkF m 199 #[.val (.ref a1), .val (.int (6 : Int32))] [(.ref b177), (.ref b176), (.ref b176)]))
    refine OGo.via (fun _ k => XS.dup X177.here hx rfl (hb hby d2_199) rfl rfl (XS.iconst X177.here hx rfl (hb hby d2_200) (XS.aloadN X177.here hx rfl (hb hby d2_201) rfl rfl (XS.iconst X177.here hx rfl (hb hby d2_202) k)))) ?_
    have f180 := f178.ext E177
    obtain ⟨cl179, Ar179, q179, Sz179, Ng179, Hs179, Gf179⟩ := id f180
    have hin179 : ¬ ((0 : Int32) < 0 ∨ cl179.slots.size ≤ ((0 : Int32)).toNatClampNeg) := inb_of Sz179 ⟨by decide, by decide⟩
    have hat179 : cl179.slots[((0 : Int32)).toNatClampNeg]? = some (.int y0) := Hs179.at hin179 rfl
    refine OGo.via (X177.caload hx (j := (0 : Int32)) (v := (.int y0)) (by rw [e177]; exact Ar179.1) (State.isArrayOf_alike hZ.alike Ar179.2.1) Ar179.2.2 hin179 hat179 (g := (mkF m 203 #[.val (.ref a1), .val (.int (6 : Int32))] [(.int (0 : Int32)), (.ref a1), (.int (0 : Int32)), (.ref b177), (.ref b177), (.ref b176), (.ref b176)])) rfl rfl (hb hby d2_203)) ?_
    show OGo _ _ _ _ (T177.setTop (mkF m 204 #[.val (.ref a1), .val (.int (6 : Int32))] [(.int y0), (.int (0 : Int32)), (.ref b177), (.ref b177), (.ref b176), (.ref b176)]))
    obtain ⟨cl181, Ar181, q181, Sz181, Ng181, Hs181, Gf181⟩ := id V177
    have hin181 : ¬ ((0 : Int32) < 0 ∨ cl181.slots.size ≤ ((0 : Int32)).toNatClampNeg) := inb_of Sz181 ⟨by decide, by decide⟩
    obtain ⟨T181, h181, X181, e181, W181, st181⟩ := stC X177 hx hZ e177 Ar181 (j := (0 : Int32)) hin181 (g := (mkF m 204 #[.val (.ref a1), .val (.int (6 : Int32))] [(.int y0), (.int (0 : Int32)), (.ref b177), (.ref b177), (.ref b176), (.ref b176)])) rfl rfl (hb hby d2_204)
    refine OGo.via st181 ?_
    have V181 : Arv Z h181 b177 ka177 .char (6 : Int32) [(.int (nar .char y0)), (.int (0 : Int32)), (.int (0 : Int32)), (.int (0 : Int32)), (.int (0 : Int32)), (.int (0 : Int32))] (.int (0 : Int32)) := Arv.set Ar181 q181 Sz181 Ng181 Hs181 Gf181 (fits_nar_char _) W181 0 rfl (Nat.le_of_ble_eq_true rfl)
    have K181 : Keep h0 h181 [] := K177.wr W181 (Or.inr sz_b177)
    have N181 := Fr.snoc X181 N0 g_b177
    show OGo _ _ _ _ (T181.setTop (mkF m 205 #[.val (.ref a1), .val (.int (6 : Int32))] [(.ref b177), (.ref b176), (.ref b176)]))
    refine OGo.via (fun _ k => XS.dup X181.here hx rfl (hb hby d2_205) rfl rfl (XS.iconst X181.here hx rfl (hb hby d2_206) (XS.aloadN X181.here hx rfl (hb hby d2_207) rfl rfl (XS.iconst X181.here hx rfl (hb hby d2_208) k)))) ?_
    have f183 := f180.other W181 (Nat.ne_of_lt lt_a1_b177)
    obtain ⟨cl182, Ar182, q182, Sz182, Ng182, Hs182, Gf182⟩ := id f183
    have hin182 : ¬ ((1 : Int32) < 0 ∨ cl182.slots.size ≤ ((1 : Int32)).toNatClampNeg) := inb_of Sz182 ⟨by decide, by decide⟩
    have hat182 : cl182.slots[((1 : Int32)).toNatClampNeg]? = some (.int y1) := Hs182.at hin182 rfl
    refine OGo.via (X181.caload hx (j := (1 : Int32)) (v := (.int y1)) (by rw [e181]; exact Ar182.1) (State.isArrayOf_alike hZ.alike Ar182.2.1) Ar182.2.2 hin182 hat182 (g := (mkF m 209 #[.val (.ref a1), .val (.int (6 : Int32))] [(.int (1 : Int32)), (.ref a1), (.int (1 : Int32)), (.ref b177), (.ref b177), (.ref b176), (.ref b176)])) rfl rfl (hb hby d2_209)) ?_
    show OGo _ _ _ _ (T181.setTop (mkF m 210 #[.val (.ref a1), .val (.int (6 : Int32))] [(.int y1), (.int (1 : Int32)), (.ref b177), (.ref b177), (.ref b176), (.ref b176)]))
    obtain ⟨cl184, Ar184, q184, Sz184, Ng184, Hs184, Gf184⟩ := id V181
    have hin184 : ¬ ((1 : Int32) < 0 ∨ cl184.slots.size ≤ ((1 : Int32)).toNatClampNeg) := inb_of Sz184 ⟨by decide, by decide⟩
    obtain ⟨T184, h184, X184, e184, W184, st184⟩ := stC X181 hx hZ e181 Ar184 (j := (1 : Int32)) hin184 (g := (mkF m 210 #[.val (.ref a1), .val (.int (6 : Int32))] [(.int y1), (.int (1 : Int32)), (.ref b177), (.ref b177), (.ref b176), (.ref b176)])) rfl rfl (hb hby d2_210)
    refine OGo.via st184 ?_
    have V184 : Arv Z h184 b177 ka177 .char (6 : Int32) [(.int (nar .char y0)), (.int (nar .char y1)), (.int (0 : Int32)), (.int (0 : Int32)), (.int (0 : Int32)), (.int (0 : Int32))] (.int (0 : Int32)) := Arv.set Ar184 q184 Sz184 Ng184 Hs184 Gf184 (fits_nar_char _) W184 1 rfl (Nat.le_of_ble_eq_true rfl)
    have K184 : Keep h0 h184 [] := K181.wr W184 (Or.inr sz_b177)
    have N184 := Fr.snoc X184 N181 g_b177
    show OGo _ _ _ _ (T184.setTop (mkF m 211 #[.val (.ref a1), .val (.int (6 : Int32))] [(.ref b177), (.ref b176), (.ref b176)]))
    refine OGo.via (fun _ k => XS.dup X184.here hx rfl (hb hby d2_211) rfl rfl (XS.iconst X184.here hx rfl (hb hby d2_212) (XS.aloadN X184.here hx rfl (hb hby d2_213) rfl rfl (XS.iconst X184.here hx rfl (hb hby d2_214) k)))) ?_
    have f186 := f183.other W184 (Nat.ne_of_lt lt_a1_b177)
    obtain ⟨cl185, Ar185, q185, Sz185, Ng185, Hs185, Gf185⟩ := id f186
    have hin185 : ¬ ((2 : Int32) < 0 ∨ cl185.slots.size ≤ ((2 : Int32)).toNatClampNeg) := inb_of Sz185 ⟨by decide, by decide⟩
    have hat185 : cl185.slots[((2 : Int32)).toNatClampNeg]? = some (.int y2) := Hs185.at hin185 rfl
    refine OGo.via (X184.caload hx (j := (2 : Int32)) (v := (.int y2)) (by rw [e184]; exact Ar185.1) (State.isArrayOf_alike hZ.alike Ar185.2.1) Ar185.2.2 hin185 hat185 (g := (mkF m 215 #[.val (.ref a1), .val (.int (6 : Int32))] [(.int (2 : Int32)), (.ref a1), (.int (2 : Int32)), (.ref b177), (.ref b177), (.ref b176), (.ref b176)])) rfl rfl (hb hby d2_215)) ?_
    show OGo _ _ _ _ (T184.setTop (mkF m 216 #[.val (.ref a1), .val (.int (6 : Int32))] [(.int y2), (.int (2 : Int32)), (.ref b177), (.ref b177), (.ref b176), (.ref b176)]))
    obtain ⟨cl187, Ar187, q187, Sz187, Ng187, Hs187, Gf187⟩ := id V184
    have hin187 : ¬ ((2 : Int32) < 0 ∨ cl187.slots.size ≤ ((2 : Int32)).toNatClampNeg) := inb_of Sz187 ⟨by decide, by decide⟩
    obtain ⟨T187, h187, X187, e187, W187, st187⟩ := stC X184 hx hZ e184 Ar187 (j := (2 : Int32)) hin187 (g := (mkF m 216 #[.val (.ref a1), .val (.int (6 : Int32))] [(.int y2), (.int (2 : Int32)), (.ref b177), (.ref b177), (.ref b176), (.ref b176)])) rfl rfl (hb hby d2_216)
    refine OGo.via st187 ?_
    have V187 : Arv Z h187 b177 ka177 .char (6 : Int32) [(.int (nar .char y0)), (.int (nar .char y1)), (.int (nar .char y2)), (.int (0 : Int32)), (.int (0 : Int32)), (.int (0 : Int32))] (.int (0 : Int32)) := Arv.set Ar187 q187 Sz187 Ng187 Hs187 Gf187 (fits_nar_char _) W187 2 rfl (Nat.le_of_ble_eq_true rfl)
    have K187 : Keep h0 h187 [] := K184.wr W187 (Or.inr sz_b177)
    have N187 := Fr.snoc X187 N184 g_b177
    show OGo _ _ _ _ (T187.setTop (mkF m 217 #[.val (.ref a1), .val (.int (6 : Int32))] [(.ref b177), (.ref b176), (.ref b176)]))
    refine OGo.via (fun _ k => XS.dup X187.here hx rfl (hb hby d2_217) rfl rfl (XS.iconst X187.here hx rfl (hb hby d2_218) (XS.aloadN X187.here hx rfl (hb hby d2_219) rfl rfl (XS.iconst X187.here hx rfl (hb hby d2_220) k)))) ?_
    have f189 := f186.other W187 (Nat.ne_of_lt lt_a1_b177)
    obtain ⟨cl188, Ar188, q188, Sz188, Ng188, Hs188, Gf188⟩ := id f189
    have hin188 : ¬ ((3 : Int32) < 0 ∨ cl188.slots.size ≤ ((3 : Int32)).toNatClampNeg) := inb_of Sz188 ⟨by decide, by decide⟩
    have hat188 : cl188.slots[((3 : Int32)).toNatClampNeg]? = some (.int y3) := Hs188.at hin188 rfl
    refine OGo.via (X187.caload hx (j := (3 : Int32)) (v := (.int y3)) (by rw [e187]; exact Ar188.1) (State.isArrayOf_alike hZ.alike Ar188.2.1) Ar188.2.2 hin188 hat188 (g := (mkF m 221 #[.val (.ref a1), .val (.int (6 : Int32))] [(.int (3 : Int32)), (.ref a1), (.int (3 : Int32)), (.ref b177), (.ref b177), (.ref b176), (.ref b176)])) rfl rfl (hb hby d2_221)) ?_
    show OGo _ _ _ _ (T187.setTop (mkF m 222 #[.val (.ref a1), .val (.int (6 : Int32))] [(.int y3), (.int (3 : Int32)), (.ref b177), (.ref b177), (.ref b176), (.ref b176)]))
    obtain ⟨cl190, Ar190, q190, Sz190, Ng190, Hs190, Gf190⟩ := id V187
    have hin190 : ¬ ((3 : Int32) < 0 ∨ cl190.slots.size ≤ ((3 : Int32)).toNatClampNeg) := inb_of Sz190 ⟨by decide, by decide⟩
    obtain ⟨T190, h190, X190, e190, W190, st190⟩ := stC X187 hx hZ e187 Ar190 (j := (3 : Int32)) hin190 (g := (mkF m 222 #[.val (.ref a1), .val (.int (6 : Int32))] [(.int y3), (.int (3 : Int32)), (.ref b177), (.ref b177), (.ref b176), (.ref b176)])) rfl rfl (hb hby d2_222)
    refine OGo.via st190 ?_
    have V190 : Arv Z h190 b177 ka177 .char (6 : Int32) [(.int (nar .char y0)), (.int (nar .char y1)), (.int (nar .char y2)), (.int (nar .char y3)), (.int (0 : Int32)), (.int (0 : Int32))] (.int (0 : Int32)) := Arv.set Ar190 q190 Sz190 Ng190 Hs190 Gf190 (fits_nar_char _) W190 3 rfl (Nat.le_of_ble_eq_true rfl)
    have K190 : Keep h0 h190 [] := K187.wr W190 (Or.inr sz_b177)
    have N190 := Fr.snoc X190 N187 g_b177
    show OGo _ _ _ _ (T190.setTop (mkF m 223 #[.val (.ref a1), .val (.int (6 : Int32))] [(.ref b177), (.ref b176), (.ref b176)]))
    refine OGo.via (fun _ k => XS.dup X190.here hx rfl (hb hby d2_223) rfl rfl (XS.iconst X190.here hx rfl (hb hby d2_224) (XS.aloadN X190.here hx rfl (hb hby d2_225) rfl rfl (XS.iconst X190.here hx rfl (hb hby d2_226) k)))) ?_
    have f192 := f189.other W190 (Nat.ne_of_lt lt_a1_b177)
    obtain ⟨cl191, Ar191, q191, Sz191, Ng191, Hs191, Gf191⟩ := id f192
    have hin191 : ¬ ((4 : Int32) < 0 ∨ cl191.slots.size ≤ ((4 : Int32)).toNatClampNeg) := inb_of Sz191 ⟨by decide, by decide⟩
    have hat191 : cl191.slots[((4 : Int32)).toNatClampNeg]? = some (.int y4) := Hs191.at hin191 rfl
    refine OGo.via (X190.caload hx (j := (4 : Int32)) (v := (.int y4)) (by rw [e190]; exact Ar191.1) (State.isArrayOf_alike hZ.alike Ar191.2.1) Ar191.2.2 hin191 hat191 (g := (mkF m 227 #[.val (.ref a1), .val (.int (6 : Int32))] [(.int (4 : Int32)), (.ref a1), (.int (4 : Int32)), (.ref b177), (.ref b177), (.ref b176), (.ref b176)])) rfl rfl (hb hby d2_227)) ?_
    show OGo _ _ _ _ (T190.setTop (mkF m 228 #[.val (.ref a1), .val (.int (6 : Int32))] [(.int y4), (.int (4 : Int32)), (.ref b177), (.ref b177), (.ref b176), (.ref b176)]))
    obtain ⟨cl193, Ar193, q193, Sz193, Ng193, Hs193, Gf193⟩ := id V190
    have hin193 : ¬ ((4 : Int32) < 0 ∨ cl193.slots.size ≤ ((4 : Int32)).toNatClampNeg) := inb_of Sz193 ⟨by decide, by decide⟩
    obtain ⟨T193, h193, X193, e193, W193, st193⟩ := stC X190 hx hZ e190 Ar193 (j := (4 : Int32)) hin193 (g := (mkF m 228 #[.val (.ref a1), .val (.int (6 : Int32))] [(.int y4), (.int (4 : Int32)), (.ref b177), (.ref b177), (.ref b176), (.ref b176)])) rfl rfl (hb hby d2_228)
    refine OGo.via st193 ?_
    have V193 : Arv Z h193 b177 ka177 .char (6 : Int32) [(.int (nar .char y0)), (.int (nar .char y1)), (.int (nar .char y2)), (.int (nar .char y3)), (.int (nar .char y4)), (.int (0 : Int32))] (.int (0 : Int32)) := Arv.set Ar193 q193 Sz193 Ng193 Hs193 Gf193 (fits_nar_char _) W193 4 rfl (Nat.le_of_ble_eq_true rfl)
    have K193 : Keep h0 h193 [] := K190.wr W193 (Or.inr sz_b177)
    have N193 := Fr.snoc X193 N190 g_b177
    show OGo _ _ _ _ (T193.setTop (mkF m 229 #[.val (.ref a1), .val (.int (6 : Int32))] [(.ref b177), (.ref b176), (.ref b176)]))
    refine OGo.via (fun _ k => XS.dup X193.here hx rfl (hb hby d2_229) rfl rfl (XS.iconst X193.here hx rfl (hb hby d2_230) (XS.aloadN X193.here hx rfl (hb hby d2_231) rfl rfl (XS.iconst X193.here hx rfl (hb hby d2_232) k)))) ?_
    have f195 := f192.other W193 (Nat.ne_of_lt lt_a1_b177)
    obtain ⟨cl194, Ar194, q194, Sz194, Ng194, Hs194, Gf194⟩ := id f195
    have hin194 : ¬ ((5 : Int32) < 0 ∨ cl194.slots.size ≤ ((5 : Int32)).toNatClampNeg) := inb_of Sz194 ⟨by decide, by decide⟩
    have hat194 : cl194.slots[((5 : Int32)).toNatClampNeg]? = some (.int y5) := Hs194.at hin194 rfl
    refine OGo.via (X193.caload hx (j := (5 : Int32)) (v := (.int y5)) (by rw [e193]; exact Ar194.1) (State.isArrayOf_alike hZ.alike Ar194.2.1) Ar194.2.2 hin194 hat194 (g := (mkF m 233 #[.val (.ref a1), .val (.int (6 : Int32))] [(.int (5 : Int32)), (.ref a1), (.int (5 : Int32)), (.ref b177), (.ref b177), (.ref b176), (.ref b176)])) rfl rfl (hb hby d2_233)) ?_
    show OGo _ _ _ _ (T193.setTop (mkF m 234 #[.val (.ref a1), .val (.int (6 : Int32))] [(.int y5), (.int (5 : Int32)), (.ref b177), (.ref b177), (.ref b176), (.ref b176)]))
    obtain ⟨cl196, Ar196, q196, Sz196, Ng196, Hs196, Gf196⟩ := id V193
    have hin196 : ¬ ((5 : Int32) < 0 ∨ cl196.slots.size ≤ ((5 : Int32)).toNatClampNeg) := inb_of Sz196 ⟨by decide, by decide⟩
    obtain ⟨T196, h196, X196, e196, W196, st196⟩ := stC X193 hx hZ e193 Ar196 (j := (5 : Int32)) hin196 (g := (mkF m 234 #[.val (.ref a1), .val (.int (6 : Int32))] [(.int y5), (.int (5 : Int32)), (.ref b177), (.ref b177), (.ref b176), (.ref b176)])) rfl rfl (hb hby d2_234)
    refine OGo.via st196 ?_
    have V196 : Arv Z h196 b177 ka177 .char (6 : Int32) [(.int (nar .char y0)), (.int (nar .char y1)), (.int (nar .char y2)), (.int (nar .char y3)), (.int (nar .char y4)), (.int (nar .char y5))] (.int (0 : Int32)) := Arv.set Ar196 q196 Sz196 Ng196 Hs196 Gf196 (fits_nar_char _) W196 5 rfl (Nat.le_of_ble_eq_true rfl)
    have K196 : Keep h0 h196 [] := K193.wr W196 (Or.inr sz_b177)
    have N196 := Fr.snoc X196 N193 g_b177
    show OGo _ _ _ _ (T196.setTop (mkF m 235 #[.val (.ref a1), .val (.int (6 : Int32))] [(.ref b177), (.ref b176), (.ref b176)]))
    have f197 : Arv Z h196 b177 ka177 .char (6 : Int32) (List.map Value.int [y0, y1, y2, y3, y4, y5]) (.int (0 : Int32)) := (by have q := V196; rw [hy0, hy1, hy2, hy3, hy4, hy5] at q; exact q)
    have f199 := A176.ext E177
    have f200 := f199.wr W181
    have f201 := f200.wr W184
    have f202 := f201.wr W187
    have f203 := f202.wr W190
    have f204 := f203.wr W193
    have f205 := f204.wr W196
    have f206 := F176_value.ext E177
    have f207 := f206.other W181 (Or.inl (Nat.ne_of_lt lt_b176_b177))
    have f208 := f207.other W184 (Or.inl (Nat.ne_of_lt lt_b176_b177))
    have f209 := f208.other W187 (Or.inl (Nat.ne_of_lt lt_b176_b177))
    have f210 := f209.other W190 (Or.inl (Nat.ne_of_lt lt_b176_b177))
    have f211 := f210.other W193 (Or.inl (Nat.ne_of_lt lt_b176_b177))
    have f212 := f211.other W196 (Or.inl (Nat.ne_of_lt lt_b176_b177))
    have f213 := F176_coder.ext E177
    have f214 := f213.other W181 (Or.inl (Nat.ne_of_lt lt_b176_b177))
    have f215 := f214.other W184 (Or.inl (Nat.ne_of_lt lt_b176_b177))
    have f216 := f215.other W187 (Or.inl (Nat.ne_of_lt lt_b176_b177))
    have f217 := f216.other W190 (Or.inl (Nat.ne_of_lt lt_b176_b177))
    have f218 := f217.other W193 (Or.inl (Nat.ne_of_lt lt_b176_b177))
    have f219 := f218.other W196 (Or.inl (Nat.ne_of_lt lt_b176_b177))
    have f220 := own_staKeep0 S_COMPACT_STRINGS K196
    have f221 := own_staKeep0 S_SIOOBE_FORMATTER K196
    have f222 := own_staKeep0 S__assertionsDisabled K196
    have f223 := own_staKeep0 S_HI_BYTE_SHIFT K196
    have f224 := own_staKeep0 S_LO_BYTE_SHIFT K196
    have f225 := f195.other W196 (Nat.ne_of_lt lt_a1_b177)
    have f226 := Y177.wr W181
    have f227 := f226.wr W184
    have f228 := f227.wr W187
    have f229 := f228.wr W190
    have f230 := f229.wr W193
    have f231 := f230.wr W196
    obtain ⟨_, T198, Lc198, X198, hQ198, st198⟩ := own_open X196 (X196.specialBack hx (y := own_y35) rfl hown (mvT hZ (own_w hw 12 rfl)) (mvT hZ (own_w hw 13 rfl)) (mvT hZ (own_w hw 14 rfl)) (by decide) (backOf (W := 1) (rm3 l Z a0 hw [] b176 b177 ka177 [y0, y1, y2, y3, y4, y5] (6 : Int32) w fm h196 n0 (Nat.le_trans Z0 K196.1) f205 f212 f219 f197 g_b176 f220 f221 f222 f223 f224 hw0 rfl (by simp) (by simp) (List.forall_mem_cons.mpr ⟨hy0, (List.forall_mem_cons.mpr ⟨hy1, (List.forall_mem_cons.mpr ⟨hy2, (List.forall_mem_cons.mpr ⟨hy3, (List.forall_mem_cons.mpr ⟨hy4, (List.forall_mem_cons.mpr ⟨hy5, (List.forall_mem_nil _)⟩)⟩)⟩)⟩)⟩)⟩)) hZ (own_w hw 14 rfl) (own_w hw 11 rfl) (by decide) (by decide)) (g := (mkF m 235 #[.val (.ref a1), .val (.int (6 : Int32))] [(.ref b177), (.ref b176), (.ref b176)])) rfl (by rw [hml]; rfl) (Steps.refl _) (a := b176) (argsL := [(.ref b177)]) (rest := [(.ref b176)]) (lenOf pd_26 rfl) rfl (by show 2 * 0 + _ ≤ _; exact Nat.le_of_eq rfl) (hb hby d2_235) (fun _ _ => ⟨rfl, e196, (by decide : 2 + 2 ≤ _), (by decide : 10 + 30 ≤ _)⟩))
    obtain ⟨vr, kr, cr, zr, br, rfl, N198q, r198_0, r198_1, r198_2, r198_3, r198_4, r198_5, r198_6⟩ := hQ198
    have N198 := Fr.app N196 N198q
    have K198 : Keep h0 T198.heap [] := K196.trans r198_0 (allS (Or.inr sz_b176) all0)
    have lt_a1_vr : a1 < vr := Nat.lt_of_lt_of_le f225.lt r198_1
    have lt_b176_vr : b176 < vr := Nat.lt_of_lt_of_le f205.lt r198_1
    have lt_b177_vr : b177 < vr := Nat.lt_of_lt_of_le f231.lt r198_1
    have sz_vr : h0.size ≤ vr := Nat.le_trans K196.1 r198_1
    have g_vr : n0 ≤ vr := Nat.le_trans Z0 sz_vr
    refine OGo.via (fun _ k => st198.trans k) ?_
    show OGo _ _ _ _ (T198.setTop (mkF m 238 #[.val (.ref a1), .val (.int (6 : Int32))] [(.ref b176)]))
    show OGo _ _ _ _ (T198.setTop (mkF m 238 #[.val (.ref a1), .val (.int (6 : Int32))] [(.ref b176)]))
    refine own_retA X198 hx Bd.notSynchronized Bd.returns rfl rfl (hb hby d2_238) (by decide) (by decide) ?_
    show Q_rm2 Z _ _ _ _ _ _ _ _ _ _ _ _ _ _ _ h0 n0 _ T198.heap _
    exact ⟨b176, vr, kr, cr, zr, br, rfl, N198, K198, r198_2, r198_3, r198_4, r198_5, r198_6⟩
  · show OGo _ _ _ _ (s₁.setTop (mkF m 0 #[.val (.ref a1), .val (.int (7 : Int32))] []))
    refine OGo.via (fun _ k => XS.iloadN X0.here hx rfl (hb hby d2_0) rfl (XS.ifYes X0.here hx rfl (pc0 := 1) (pc' := 15) rfl (hb hby d2_1) rfl ((if0 _ _).trans (feq (by decide : ¬ ((7 : Int32) = (0 : Int32)))).2) (by decide) (by decide) (XS.iloadN X0.here hx rfl (hb hby d2_15) rfl (XS.iconst X0.here hx rfl (hb hby d2_16) (XS.icmpYes X0.here hx rfl (pc0 := 17) (pc' := 37) rfl (hb hby d2_17) rfl (feq (by decide : ¬ ((7 : Int32) = (1 : Int32)))).2 (by decide) (by decide) (XS.iloadN X0.here hx rfl (hb hby d2_37) rfl (XS.iconst X0.here hx rfl (hb hby d2_38) (XS.icmpYes X0.here hx rfl (pc0 := 39) (pc' := 65) rfl (hb hby d2_39) rfl (feq (by decide : ¬ ((7 : Int32) = (2 : Int32)))).2 (by decide) (by decide) k)))))))) ?_
    show OGo _ _ _ _ (s₁.setTop (mkF m 65 #[.val (.ref a1), .val (.int (7 : Int32))] []))
    refine OGo.via (fun _ k => XS.iloadN X0.here hx rfl (hb hby d2_65) rfl (XS.iconst X0.here hx rfl (hb hby d2_66) (XS.icmpYes X0.here hx rfl (pc0 := 67) (pc' := 99) rfl (hb hby d2_67) rfl (feq (by decide : ¬ ((7 : Int32) = (3 : Int32)))).2 (by decide) (by decide) (XS.iloadN X0.here hx rfl (hb hby d2_99) rfl (XS.iconst X0.here hx rfl (hb hby d2_100) (XS.icmpYes X0.here hx rfl (pc0 := 101) (pc' := 139) rfl (hb hby d2_101) rfl (feq (by decide : ¬ ((7 : Int32) = (4 : Int32)))).2 (by decide) (by decide) (XS.iloadN X0.here hx rfl (hb hby d2_139) rfl (XS.iconst X0.here hx rfl (hb hby d2_140) k)))))))) ?_
    show OGo _ _ _ _ (s₁.setTop (mkF m 141 #[.val (.ref a1), .val (.int (7 : Int32))] [(.int (5 : Int32)), (.int (7 : Int32))]))
    refine OGo.via (fun _ k => XS.icmpYes X0.here hx rfl (pc0 := 141) (pc' := 185) rfl (hb hby d2_141) rfl (feq (by decide : ¬ ((7 : Int32) = (5 : Int32)))).2 (by decide) (by decide) (XS.iloadN X0.here hx rfl (hb hby d2_185) rfl (XS.bipush X0.here hx rfl (hb hby d2_186) (XS.icmpYes X0.here hx rfl (pc0 := 188) (pc' := 239) rfl (hb hby d2_188) rfl (feq (by decide : ¬ ((7 : Int32) = (6 : Int32)))).2 (by decide) (by decide) (XS.iloadN X0.here hx rfl (hb hby d2_239) rfl (XS.bipush X0.here hx rfl (hb hby d2_240) (XS.icmpNo X0.here hx rfl (hb hby d2_242) rfl (teq (by decide : (7 : Int32) = (7 : Int32))).2 k))))))) ?_
    obtain ⟨T232, h232, X232, e232, E232, A232, D232, -, st232⟩ := newO X0 hx hZ hown (own_w hw 9 rfl) (own_w hw 10 rfl) (own_w hw 11 rfl) e0 (g := (mkF m 245 #[.val (.ref a1), .val (.int (7 : Int32))] [])) rfl (hb hby d2_245) (by decide) (by decide)
    obtain ⟨b232, g232⟩ : ∃ z, z = h0.size := ⟨_, rfl⟩
    rw [← g232] at A232 D232 st232
    refine OGo.via st232 ?_
    have K232 : Keep h0 h232 [] := (Keep.refl h0 []).ext E232
    have lt_a1_b232 : a1 < b232 := Nat.lt_of_lt_of_le V_a1.lt (Nat.le_of_eq g232.symm)
    have sz_b232 : h0.size ≤ b232 := Nat.le_trans (Keep.refl h0 []).1 (Nat.le_of_eq g232.symm)
    have g_b232 : n0 ≤ b232 := Nat.le_trans Z0 sz_b232
    have F232_value : Fld Z h232 b232 "java/lang/String" "value" "[B" .null := D232 (Or.inr (own_w hw 24 rfl)) (ty := (.array .byte)) (by decide)
    have F232_coder : Fld Z h232 b232 "java/lang/String" "coder" "B" (.int (0 : Int32)) := D232 (Or.inr (own_w hw 25 rfl)) (ty := .byte) (by decide)
    show OGo _ _ _ _ (T232.setTop (mkF m 248 #[.val (.ref a1), .val (.int (7 : Int32))] [(.ref b232)]))
    refine OGo.via (fun _ k => XS.dup X232.here hx rfl (hb hby d2_248) rfl rfl (XS.bipush X232.here hx rfl (hb hby d2_249) k)) ?_
    have f234 := V_a1.ext E232
    obtain ⟨T233, h233, ka233, X233, e233, E233, A233, Y233, st233⟩ := newPE (ad := "[C") X232 hx hZ (own_w hw 0 rfl) e232 (g := (mkF m 251 #[.val (.ref a1), .val (.int (7 : Int32))] [(.int (7 : Int32)), (.ref b232), (.ref b232)])) rfl (hb hby d2_251) rfl (by decide) (cap := 7) (by decide) (by decide) (by decide) (by decide) (by decide)
    obtain ⟨b233, g233⟩ : ∃ z, z = h232.size := ⟨_, rfl⟩
    rw [← g233] at A233 Y233 st233
    refine OGo.via st233 ?_
    have K233 : Keep h0 h233 [] := K232.ext E233
    have lt_a1_b233 : a1 < b233 := Nat.lt_of_lt_of_le f234.lt (Nat.le_of_eq g233.symm)
    have lt_b232_b233 : b232 < b233 := Nat.lt_of_lt_of_le A232.lt (Nat.le_of_eq g233.symm)
    have sz_b233 : h0.size ≤ b233 := Nat.le_trans K232.1 (Nat.le_of_eq g233.symm)
    have g_b233 : n0 ≤ b233 := Nat.le_trans Z0 sz_b233
    have V233 : Arv Z h233 b233 ka233 .char (7 : Int32) [(.int (0 : Int32)), (.int (0 : Int32)), (.int (0 : Int32)), (.int (0 : Int32)), (.int (0 : Int32)), (.int (0 : Int32)), (.int (0 : Int32))] (.int (0 : Int32)) := (Arv.new A233 (by decide)).pad (pad_rep [] (.int (0 : Int32)) 7)
    show OGo _ _ _ _ (T233.setTop (mkF m 253 #[.val (.ref a1), .val (.int (7 : Int32))] [(.ref b233), (.ref b232), (.ref b232)]))
    refine OGo.via (fun _ k => XS.dup X233.here hx rfl (hb hby d2_253) rfl rfl (XS.iconst X233.here hx rfl (hb hby d2_254) (XS.aloadN X233.here hx rfl (hb hby d2_255) rfl rfl (XS.iconst X233.here hx rfl (hb hby d2_256) k)))) ?_
    have f236 := f234.ext E233
    obtain ⟨cl235, Ar235, q235, Sz235, Ng235, Hs235, Gf235⟩ := id f236
    have hin235 : ¬ ((0 : Int32) < 0 ∨ cl235.slots.size ≤ ((0 : Int32)).toNatClampNeg) := inb_of Sz235 ⟨by decide, by decide⟩
    have hat235 : cl235.slots[((0 : Int32)).toNatClampNeg]? = some (.int y0) := Hs235.at hin235 rfl
    refine OGo.via (X233.caload hx (j := (0 : Int32)) (v := (.int y0)) (by rw [e233]; exact Ar235.1) (State.isArrayOf_alike hZ.alike Ar235.2.1) Ar235.2.2 hin235 hat235 (g := (mkF m 257 #[.val (.ref a1), .val (.int (7 : Int32))] [(.int (0 : Int32)), (.ref a1), (.int (0 : Int32)), (.ref b233), (.ref b233), (.ref b232), (.ref b232)])) rfl rfl (hb hby d2_257)) ?_
    show OGo _ _ _ _ (T233.setTop (mkF m 258 #[.val (.ref a1), .val (.int (7 : Int32))] [(.int y0), (.int (0 : Int32)), (.ref b233), (.ref b233), (.ref b232), (.ref b232)]))
    obtain ⟨cl237, Ar237, q237, Sz237, Ng237, Hs237, Gf237⟩ := id V233
    have hin237 : ¬ ((0 : Int32) < 0 ∨ cl237.slots.size ≤ ((0 : Int32)).toNatClampNeg) := inb_of Sz237 ⟨by decide, by decide⟩
    obtain ⟨T237, h237, X237, e237, W237, st237⟩ := stC X233 hx hZ e233 Ar237 (j := (0 : Int32)) hin237 (g := (mkF m 258 #[.val (.ref a1), .val (.int (7 : Int32))] [(.int y0), (.int (0 : Int32)), (.ref b233), (.ref b233), (.ref b232), (.ref b232)])) rfl rfl (hb hby d2_258)
    refine OGo.via st237 ?_
    have V237 : Arv Z h237 b233 ka233 .char (7 : Int32) [(.int (nar .char y0)), (.int (0 : Int32)), (.int (0 : Int32)), (.int (0 : Int32)), (.int (0 : Int32)), (.int (0 : Int32)), (.int (0 : Int32))] (.int (0 : Int32)) := Arv.set Ar237 q237 Sz237 Ng237 Hs237 Gf237 (fits_nar_char _) W237 0 rfl (Nat.le_of_ble_eq_true rfl)
    have K237 : Keep h0 h237 [] := K233.wr W237 (Or.inr sz_b233)
    have N237 := Fr.snoc X237 N0 g_b233
    show OGo _ _ _ _ (T237.setTop (mkF m 259 #[.val (.ref a1), .val (.int (7 : Int32))] [(.ref b233), (.ref b232), (.ref b232)]))
    refine OGo.via (fun _ k => XS.dup X237.here hx rfl (hb hby d2_259) rfl rfl (XS.iconst X237.here hx rfl (hb hby d2_260) (XS.aloadN X237.here hx rfl (hb hby d2_261) rfl rfl (XS.iconst X237.here hx rfl (hb hby d2_262) k)))) ?_
    have f239 := f236.other W237 (Nat.ne_of_lt lt_a1_b233)
    obtain ⟨cl238, Ar238, q238, Sz238, Ng238, Hs238, Gf238⟩ := id f239
    have hin238 : ¬ ((1 : Int32) < 0 ∨ cl238.slots.size ≤ ((1 : Int32)).toNatClampNeg) := inb_of Sz238 ⟨by decide, by decide⟩
    have hat238 : cl238.slots[((1 : Int32)).toNatClampNeg]? = some (.int y1) := Hs238.at hin238 rfl
    refine OGo.via (X237.caload hx (j := (1 : Int32)) (v := (.int y1)) (by rw [e237]; exact Ar238.1) (State.isArrayOf_alike hZ.alike Ar238.2.1) Ar238.2.2 hin238 hat238 (g := (mkF m 263 #[.val (.ref a1), .val (.int (7 : Int32))] [(.int (1 : Int32)), (.ref a1), (.int (1 : Int32)), (.ref b233), (.ref b233), (.ref b232), (.ref b232)])) rfl rfl (hb hby d2_263)) ?_
    show OGo _ _ _ _ (T237.setTop (mkF m 264 #[.val (.ref a1), .val (.int (7 : Int32))] [(.int y1), (.int (1 : Int32)), (.ref b233), (.ref b233), (.ref b232), (.ref b232)]))
    obtain ⟨cl240, Ar240, q240, Sz240, Ng240, Hs240, Gf240⟩ := id V237
    have hin240 : ¬ ((1 : Int32) < 0 ∨ cl240.slots.size ≤ ((1 : Int32)).toNatClampNeg) := inb_of Sz240 ⟨by decide, by decide⟩
    obtain ⟨T240, h240, X240, e240, W240, st240⟩ := stC X237 hx hZ e237 Ar240 (j := (1 : Int32)) hin240 (g := (mkF m 264 #[.val (.ref a1), .val (.int (7 : Int32))] [(.int y1), (.int (1 : Int32)), (.ref b233), (.ref b233), (.ref b232), (.ref b232)])) rfl rfl (hb hby d2_264)
    refine OGo.via st240 ?_
    have V240 : Arv Z h240 b233 ka233 .char (7 : Int32) [(.int (nar .char y0)), (.int (nar .char y1)), (.int (0 : Int32)), (.int (0 : Int32)), (.int (0 : Int32)), (.int (0 : Int32)), (.int (0 : Int32))] (.int (0 : Int32)) := Arv.set Ar240 q240 Sz240 Ng240 Hs240 Gf240 (fits_nar_char _) W240 1 rfl (Nat.le_of_ble_eq_true rfl)
    have K240 : Keep h0 h240 [] := K237.wr W240 (Or.inr sz_b233)
    have N240 := Fr.snoc X240 N237 g_b233
    show OGo _ _ _ _ (T240.setTop (mkF m 265 #[.val (.ref a1), .val (.int (7 : Int32))] [(.ref b233), (.ref b232), (.ref b232)]))
    refine OGo.via (fun _ k => XS.dup X240.here hx rfl (hb hby d2_265) rfl rfl (XS.iconst X240.here hx rfl (hb hby d2_266) (XS.aloadN X240.here hx rfl (hb hby d2_267) rfl rfl (XS.iconst X240.here hx rfl (hb hby d2_268) k)))) ?_
    have f242 := f239.other W240 (Nat.ne_of_lt lt_a1_b233)
    obtain ⟨cl241, Ar241, q241, Sz241, Ng241, Hs241, Gf241⟩ := id f242
    have hin241 : ¬ ((2 : Int32) < 0 ∨ cl241.slots.size ≤ ((2 : Int32)).toNatClampNeg) := inb_of Sz241 ⟨by decide, by decide⟩
    have hat241 : cl241.slots[((2 : Int32)).toNatClampNeg]? = some (.int y2) := Hs241.at hin241 rfl
    refine OGo.via (X240.caload hx (j := (2 : Int32)) (v := (.int y2)) (by rw [e240]; exact Ar241.1) (State.isArrayOf_alike hZ.alike Ar241.2.1) Ar241.2.2 hin241 hat241 (g := (mkF m 269 #[.val (.ref a1), .val (.int (7 : Int32))] [(.int (2 : Int32)), (.ref a1), (.int (2 : Int32)), (.ref b233), (.ref b233), (.ref b232), (.ref b232)])) rfl rfl (hb hby d2_269)) ?_
    show OGo _ _ _ _ (T240.setTop (mkF m 270 #[.val (.ref a1), .val (.int (7 : Int32))] [(.int y2), (.int (2 : Int32)), (.ref b233), (.ref b233), (.ref b232), (.ref b232)]))
    obtain ⟨cl243, Ar243, q243, Sz243, Ng243, Hs243, Gf243⟩ := id V240
    have hin243 : ¬ ((2 : Int32) < 0 ∨ cl243.slots.size ≤ ((2 : Int32)).toNatClampNeg) := inb_of Sz243 ⟨by decide, by decide⟩
    obtain ⟨T243, h243, X243, e243, W243, st243⟩ := stC X240 hx hZ e240 Ar243 (j := (2 : Int32)) hin243 (g := (mkF m 270 #[.val (.ref a1), .val (.int (7 : Int32))] [(.int y2), (.int (2 : Int32)), (.ref b233), (.ref b233), (.ref b232), (.ref b232)])) rfl rfl (hb hby d2_270)
    refine OGo.via st243 ?_
    have V243 : Arv Z h243 b233 ka233 .char (7 : Int32) [(.int (nar .char y0)), (.int (nar .char y1)), (.int (nar .char y2)), (.int (0 : Int32)), (.int (0 : Int32)), (.int (0 : Int32)), (.int (0 : Int32))] (.int (0 : Int32)) := Arv.set Ar243 q243 Sz243 Ng243 Hs243 Gf243 (fits_nar_char _) W243 2 rfl (Nat.le_of_ble_eq_true rfl)
    have K243 : Keep h0 h243 [] := K240.wr W243 (Or.inr sz_b233)
    have N243 := Fr.snoc X243 N240 g_b233
    show OGo _ _ _ _ (T243.setTop (mkF m 271 #[.val (.ref a1), .val (.int (7 : Int32))] [(.ref b233), (.ref b232), (.ref b232)]))
    refine OGo.via (fun _ k => XS.dup X243.here hx rfl (hb hby d2_271) rfl rfl (XS.iconst X243.here hx rfl (hb hby d2_272) (XS.aloadN X243.here hx rfl (hb hby d2_273) rfl rfl (XS.iconst X243.here hx rfl (hb hby d2_274) k)))) ?_
    have f245 := f242.other W243 (Nat.ne_of_lt lt_a1_b233)
    obtain ⟨cl244, Ar244, q244, Sz244, Ng244, Hs244, Gf244⟩ := id f245
    have hin244 : ¬ ((3 : Int32) < 0 ∨ cl244.slots.size ≤ ((3 : Int32)).toNatClampNeg) := inb_of Sz244 ⟨by decide, by decide⟩
    have hat244 : cl244.slots[((3 : Int32)).toNatClampNeg]? = some (.int y3) := Hs244.at hin244 rfl
    refine OGo.via (X243.caload hx (j := (3 : Int32)) (v := (.int y3)) (by rw [e243]; exact Ar244.1) (State.isArrayOf_alike hZ.alike Ar244.2.1) Ar244.2.2 hin244 hat244 (g := (mkF m 275 #[.val (.ref a1), .val (.int (7 : Int32))] [(.int (3 : Int32)), (.ref a1), (.int (3 : Int32)), (.ref b233), (.ref b233), (.ref b232), (.ref b232)])) rfl rfl (hb hby d2_275)) ?_
    show OGo _ _ _ _ (T243.setTop (mkF m 276 #[.val (.ref a1), .val (.int (7 : Int32))] [(.int y3), (.int (3 : Int32)), (.ref b233), (.ref b233), (.ref b232), (.ref b232)]))
    obtain ⟨cl246, Ar246, q246, Sz246, Ng246, Hs246, Gf246⟩ := id V243
    have hin246 : ¬ ((3 : Int32) < 0 ∨ cl246.slots.size ≤ ((3 : Int32)).toNatClampNeg) := inb_of Sz246 ⟨by decide, by decide⟩
    obtain ⟨T246, h246, X246, e246, W246, st246⟩ := stC X243 hx hZ e243 Ar246 (j := (3 : Int32)) hin246 (g := (mkF m 276 #[.val (.ref a1), .val (.int (7 : Int32))] [(.int y3), (.int (3 : Int32)), (.ref b233), (.ref b233), (.ref b232), (.ref b232)])) rfl rfl (hb hby d2_276)
    refine OGo.via st246 ?_
    have V246 : Arv Z h246 b233 ka233 .char (7 : Int32) [(.int (nar .char y0)), (.int (nar .char y1)), (.int (nar .char y2)), (.int (nar .char y3)), (.int (0 : Int32)), (.int (0 : Int32)), (.int (0 : Int32))] (.int (0 : Int32)) := Arv.set Ar246 q246 Sz246 Ng246 Hs246 Gf246 (fits_nar_char _) W246 3 rfl (Nat.le_of_ble_eq_true rfl)
    have K246 : Keep h0 h246 [] := K243.wr W246 (Or.inr sz_b233)
    have N246 := Fr.snoc X246 N243 g_b233
    show OGo _ _ _ _ (T246.setTop (mkF m 277 #[.val (.ref a1), .val (.int (7 : Int32))] [(.ref b233), (.ref b232), (.ref b232)]))
    refine OGo.via (fun _ k => XS.dup X246.here hx rfl (hb hby d2_277) rfl rfl (XS.iconst X246.here hx rfl (hb hby d2_278) (XS.aloadN X246.here hx rfl (hb hby d2_279) rfl rfl (XS.iconst X246.here hx rfl (hb hby d2_280) k)))) ?_
    have f248 := f245.other W246 (Nat.ne_of_lt lt_a1_b233)
    obtain ⟨cl247, Ar247, q247, Sz247, Ng247, Hs247, Gf247⟩ := id f248
    have hin247 : ¬ ((4 : Int32) < 0 ∨ cl247.slots.size ≤ ((4 : Int32)).toNatClampNeg) := inb_of Sz247 ⟨by decide, by decide⟩
    have hat247 : cl247.slots[((4 : Int32)).toNatClampNeg]? = some (.int y4) := Hs247.at hin247 rfl
    refine OGo.via (X246.caload hx (j := (4 : Int32)) (v := (.int y4)) (by rw [e246]; exact Ar247.1) (State.isArrayOf_alike hZ.alike Ar247.2.1) Ar247.2.2 hin247 hat247 (g := (mkF m 281 #[.val (.ref a1), .val (.int (7 : Int32))] [(.int (4 : Int32)), (.ref a1), (.int (4 : Int32)), (.ref b233), (.ref b233), (.ref b232), (.ref b232)])) rfl rfl (hb hby d2_281)) ?_
    show OGo _ _ _ _ (T246.setTop (mkF m 282 #[.val (.ref a1), .val (.int (7 : Int32))] [(.int y4), (.int (4 : Int32)), (.ref b233), (.ref b233), (.ref b232), (.ref b232)]))
    obtain ⟨cl249, Ar249, q249, Sz249, Ng249, Hs249, Gf249⟩ := id V246
    have hin249 : ¬ ((4 : Int32) < 0 ∨ cl249.slots.size ≤ ((4 : Int32)).toNatClampNeg) := inb_of Sz249 ⟨by decide, by decide⟩
    obtain ⟨T249, h249, X249, e249, W249, st249⟩ := stC X246 hx hZ e246 Ar249 (j := (4 : Int32)) hin249 (g := (mkF m 282 #[.val (.ref a1), .val (.int (7 : Int32))] [(.int y4), (.int (4 : Int32)), (.ref b233), (.ref b233), (.ref b232), (.ref b232)])) rfl rfl (hb hby d2_282)
    refine OGo.via st249 ?_
    have V249 : Arv Z h249 b233 ka233 .char (7 : Int32) [(.int (nar .char y0)), (.int (nar .char y1)), (.int (nar .char y2)), (.int (nar .char y3)), (.int (nar .char y4)), (.int (0 : Int32)), (.int (0 : Int32))] (.int (0 : Int32)) := Arv.set Ar249 q249 Sz249 Ng249 Hs249 Gf249 (fits_nar_char _) W249 4 rfl (Nat.le_of_ble_eq_true rfl)
    have K249 : Keep h0 h249 [] := K246.wr W249 (Or.inr sz_b233)
    have N249 := Fr.snoc X249 N246 g_b233
    show OGo _ _ _ _ (T249.setTop (mkF m 283 #[.val (.ref a1), .val (.int (7 : Int32))] [(.ref b233), (.ref b232), (.ref b232)]))
    refine OGo.via (fun _ k => XS.dup X249.here hx rfl (hb hby d2_283) rfl rfl (XS.iconst X249.here hx rfl (hb hby d2_284) (XS.aloadN X249.here hx rfl (hb hby d2_285) rfl rfl (XS.iconst X249.here hx rfl (hb hby d2_286) k)))) ?_
    have f251 := f248.other W249 (Nat.ne_of_lt lt_a1_b233)
    obtain ⟨cl250, Ar250, q250, Sz250, Ng250, Hs250, Gf250⟩ := id f251
    have hin250 : ¬ ((5 : Int32) < 0 ∨ cl250.slots.size ≤ ((5 : Int32)).toNatClampNeg) := inb_of Sz250 ⟨by decide, by decide⟩
    have hat250 : cl250.slots[((5 : Int32)).toNatClampNeg]? = some (.int y5) := Hs250.at hin250 rfl
    refine OGo.via (X249.caload hx (j := (5 : Int32)) (v := (.int y5)) (by rw [e249]; exact Ar250.1) (State.isArrayOf_alike hZ.alike Ar250.2.1) Ar250.2.2 hin250 hat250 (g := (mkF m 287 #[.val (.ref a1), .val (.int (7 : Int32))] [(.int (5 : Int32)), (.ref a1), (.int (5 : Int32)), (.ref b233), (.ref b233), (.ref b232), (.ref b232)])) rfl rfl (hb hby d2_287)) ?_
    show OGo _ _ _ _ (T249.setTop (mkF m 288 #[.val (.ref a1), .val (.int (7 : Int32))] [(.int y5), (.int (5 : Int32)), (.ref b233), (.ref b233), (.ref b232), (.ref b232)]))
    obtain ⟨cl252, Ar252, q252, Sz252, Ng252, Hs252, Gf252⟩ := id V249
    have hin252 : ¬ ((5 : Int32) < 0 ∨ cl252.slots.size ≤ ((5 : Int32)).toNatClampNeg) := inb_of Sz252 ⟨by decide, by decide⟩
    obtain ⟨T252, h252, X252, e252, W252, st252⟩ := stC X249 hx hZ e249 Ar252 (j := (5 : Int32)) hin252 (g := (mkF m 288 #[.val (.ref a1), .val (.int (7 : Int32))] [(.int y5), (.int (5 : Int32)), (.ref b233), (.ref b233), (.ref b232), (.ref b232)])) rfl rfl (hb hby d2_288)
    refine OGo.via st252 ?_
    have V252 : Arv Z h252 b233 ka233 .char (7 : Int32) [(.int (nar .char y0)), (.int (nar .char y1)), (.int (nar .char y2)), (.int (nar .char y3)), (.int (nar .char y4)), (.int (nar .char y5)), (.int (0 : Int32))] (.int (0 : Int32)) := Arv.set Ar252 q252 Sz252 Ng252 Hs252 Gf252 (fits_nar_char _) W252 5 rfl (Nat.le_of_ble_eq_true rfl)
    have K252 : Keep h0 h252 [] := K249.wr W252 (Or.inr sz_b233)
    have N252 := Fr.snoc X252 N249 g_b233
    show OGo _ _ _ _ (T252.setTop (mkF m 289 #[.val (.ref a1), .val (.int (7 : Int32))] [(.ref b233), (.ref b232), (.ref b232)]))
    refine OGo.via (fun _ k => XS.dup X252.here hx rfl (hb hby d2_289) rfl rfl (XS.bipush X252.here hx rfl (hb hby d2_290) (XS.aloadN X252.here hx rfl (hb hby d2_292) rfl rfl (XS.bipush X252.here hx rfl (hb hby d2_293) k)))) ?_
    have f254 := f251.other W252 (Nat.ne_of_lt lt_a1_b233)
    obtain ⟨cl253, Ar253, q253, Sz253, Ng253, Hs253, Gf253⟩ := id f254
    have hin253 : ¬ ((6 : Int32) < 0 ∨ cl253.slots.size ≤ ((6 : Int32)).toNatClampNeg) := inb_of Sz253 ⟨by decide, by decide⟩
    have hat253 : cl253.slots[((6 : Int32)).toNatClampNeg]? = some (.int y6) := Hs253.at hin253 rfl
    refine OGo.via (X252.caload hx (j := (6 : Int32)) (v := (.int y6)) (by rw [e252]; exact Ar253.1) (State.isArrayOf_alike hZ.alike Ar253.2.1) Ar253.2.2 hin253 hat253 (g := (mkF m 295 #[.val (.ref a1), .val (.int (7 : Int32))] [(.int (6 : Int32)), (.ref a1), (.int (6 : Int32)), (.ref b233), (.ref b233), (.ref b232), (.ref b232)])) rfl rfl (hb hby d2_295)) ?_
    show OGo _ _ _ _ (T252.setTop (mkF m 296 #[.val (.ref a1), .val (.int (7 : Int32))] [(.int y6), (.int (6 : Int32)), (.ref b233), (.ref b233), (.ref b232), (.ref b232)]))
    obtain ⟨cl255, Ar255, q255, Sz255, Ng255, Hs255, Gf255⟩ := id V252
    have hin255 : ¬ ((6 : Int32) < 0 ∨ cl255.slots.size ≤ ((6 : Int32)).toNatClampNeg) := inb_of Sz255 ⟨by decide, by decide⟩
    obtain ⟨T255, h255, X255, e255, W255, st255⟩ := stC X252 hx hZ e252 Ar255 (j := (6 : Int32)) hin255 (g := (mkF m 296 #[.val (.ref a1), .val (.int (7 : Int32))] [(.int y6), (.int (6 : Int32)), (.ref b233), (.ref b233), (.ref b232), (.ref b232)])) rfl rfl (hb hby d2_296)
    refine OGo.via st255 ?_
    have V255 : Arv Z h255 b233 ka233 .char (7 : Int32) [(.int (nar .char y0)), (.int (nar .char y1)), (.int (nar .char y2)), (.int (nar .char y3)), (.int (nar .char y4)), (.int (nar .char y5)), (.int (nar .char y6))] (.int (0 : Int32)) := Arv.set Ar255 q255 Sz255 Ng255 Hs255 Gf255 (fits_nar_char _) W255 6 rfl (Nat.le_of_ble_eq_true rfl)
    have K255 : Keep h0 h255 [] := K252.wr W255 (Or.inr sz_b233)
    have N255 := Fr.snoc X255 N252 g_b233
    show OGo _ _ _ _ (T255.setTop (mkF m 297 #[.val (.ref a1), .val (.int (7 : Int32))] [(.ref b233), (.ref b232), (.ref b232)]))
    have f256 : Arv Z h255 b233 ka233 .char (7 : Int32) (List.map Value.int [y0, y1, y2, y3, y4, y5, y6]) (.int (0 : Int32)) := (by have q := V255; rw [hy0, hy1, hy2, hy3, hy4, hy5, hy6] at q; exact q)
    have f258 := A232.ext E233
    have f259 := f258.wr W237
    have f260 := f259.wr W240
    have f261 := f260.wr W243
    have f262 := f261.wr W246
    have f263 := f262.wr W249
    have f264 := f263.wr W252
    have f265 := f264.wr W255
    have f266 := F232_value.ext E233
    have f267 := f266.other W237 (Or.inl (Nat.ne_of_lt lt_b232_b233))
    have f268 := f267.other W240 (Or.inl (Nat.ne_of_lt lt_b232_b233))
    have f269 := f268.other W243 (Or.inl (Nat.ne_of_lt lt_b232_b233))
    have f270 := f269.other W246 (Or.inl (Nat.ne_of_lt lt_b232_b233))
    have f271 := f270.other W249 (Or.inl (Nat.ne_of_lt lt_b232_b233))
    have f272 := f271.other W252 (Or.inl (Nat.ne_of_lt lt_b232_b233))
    have f273 := f272.other W255 (Or.inl (Nat.ne_of_lt lt_b232_b233))
    have f274 := F232_coder.ext E233
    have f275 := f274.other W237 (Or.inl (Nat.ne_of_lt lt_b232_b233))
    have f276 := f275.other W240 (Or.inl (Nat.ne_of_lt lt_b232_b233))
    have f277 := f276.other W243 (Or.inl (Nat.ne_of_lt lt_b232_b233))
    have f278 := f277.other W246 (Or.inl (Nat.ne_of_lt lt_b232_b233))
    have f279 := f278.other W249 (Or.inl (Nat.ne_of_lt lt_b232_b233))
    have f280 := f279.other W252 (Or.inl (Nat.ne_of_lt lt_b232_b233))
    have f281 := f280.other W255 (Or.inl (Nat.ne_of_lt lt_b232_b233))
    have f282 := own_staKeep0 S_COMPACT_STRINGS K255
    have f283 := own_staKeep0 S_SIOOBE_FORMATTER K255
    have f284 := own_staKeep0 S__assertionsDisabled K255
    have f285 := own_staKeep0 S_HI_BYTE_SHIFT K255
    have f286 := own_staKeep0 S_LO_BYTE_SHIFT K255
    have f287 := f254.other W255 (Nat.ne_of_lt lt_a1_b233)
    have f288 := Y233.wr W237
    have f289 := f288.wr W240
    have f290 := f289.wr W243
    have f291 := f290.wr W246
    have f292 := f291.wr W249
    have f293 := f292.wr W252
    have f294 := f293.wr W255
    obtain ⟨_, T257, Lc257, X257, hQ257, st257⟩ := own_open X255 (X255.specialBack hx (y := own_y35) rfl hown (mvT hZ (own_w hw 12 rfl)) (mvT hZ (own_w hw 13 rfl)) (mvT hZ (own_w hw 14 rfl)) (by decide) (backOf (W := 1) (rm3 l Z a0 hw [] b232 b233 ka233 [y0, y1, y2, y3, y4, y5, y6] (7 : Int32) w fm h255 n0 (Nat.le_trans Z0 K255.1) f265 f273 f281 f256 g_b232 f282 f283 f284 f285 f286 hw0 rfl (by simp) (by simp) (List.forall_mem_cons.mpr ⟨hy0, (List.forall_mem_cons.mpr ⟨hy1, (List.forall_mem_cons.mpr ⟨hy2, (List.forall_mem_cons.mpr ⟨hy3, (List.forall_mem_cons.mpr ⟨hy4, (List.forall_mem_cons.mpr ⟨hy5, (List.forall_mem_cons.mpr ⟨hy6, (List.forall_mem_nil _)⟩)⟩)⟩)⟩)⟩)⟩)⟩)) hZ (own_w hw 14 rfl) (own_w hw 11 rfl) (by decide) (by decide)) (g := (mkF m 297 #[.val (.ref a1), .val (.int (7 : Int32))] [(.ref b233), (.ref b232), (.ref b232)])) rfl (by rw [hml]; rfl) (Steps.refl _) (a := b232) (argsL := [(.ref b233)]) (rest := [(.ref b232)]) (lenOf pd_26 rfl) rfl (by show 2 * 0 + _ ≤ _; exact Nat.le_of_eq rfl) (hb hby d2_297) (fun _ _ => ⟨rfl, e255, (by decide : 2 + 2 ≤ _), (by decide : 11 + 30 ≤ _)⟩))
    obtain ⟨vr, kr, cr, zr, br, rfl, N257q, r257_0, r257_1, r257_2, r257_3, r257_4, r257_5, r257_6⟩ := hQ257
    have N257 := Fr.app N255 N257q
    have K257 : Keep h0 T257.heap [] := K255.trans r257_0 (allS (Or.inr sz_b232) all0)
    have lt_a1_vr : a1 < vr := Nat.lt_of_lt_of_le f287.lt r257_1
    have lt_b232_vr : b232 < vr := Nat.lt_of_lt_of_le f265.lt r257_1
    have lt_b233_vr : b233 < vr := Nat.lt_of_lt_of_le f294.lt r257_1
    have sz_vr : h0.size ≤ vr := Nat.le_trans K255.1 r257_1
    have g_vr : n0 ≤ vr := Nat.le_trans Z0 sz_vr
    refine OGo.via (fun _ k => st257.trans k) ?_
    show OGo _ _ _ _ (T257.setTop (mkF m 300 #[.val (.ref a1), .val (.int (7 : Int32))] [(.ref b232)]))
    show OGo _ _ _ _ (T257.setTop (mkF m 300 #[.val (.ref a1), .val (.int (7 : Int32))] [(.ref b232)]))
    refine own_retA X257 hx Bd.notSynchronized Bd.returns rfl rfl (hb hby d2_300) (by decide) (by decide) ?_
    show Q_rm2 Z _ _ _ _ _ _ _ _ _ _ _ _ _ _ _ h0 n0 _ T257.heap _
    exact ⟨b232, vr, kr, cr, zr, br, rfl, N257, K257, r257_2, r257_3, r257_4, r257_5, r257_6⟩
  · show OGo _ _ _ _ (s₁.setTop (mkF m 0 #[.val (.ref a1), .val (.int (8 : Int32))] []))
    refine OGo.via (fun _ k => XS.iloadN X0.here hx rfl (hb hby d2_0) rfl (XS.ifYes X0.here hx rfl (pc0 := 1) (pc' := 15) rfl (hb hby d2_1) rfl ((if0 _ _).trans (feq (by decide : ¬ ((8 : Int32) = (0 : Int32)))).2) (by decide) (by decide) (XS.iloadN X0.here hx rfl (hb hby d2_15) rfl (XS.iconst X0.here hx rfl (hb hby d2_16) (XS.icmpYes X0.here hx rfl (pc0 := 17) (pc' := 37) rfl (hb hby d2_17) rfl (feq (by decide : ¬ ((8 : Int32) = (1 : Int32)))).2 (by decide) (by decide) (XS.iloadN X0.here hx rfl (hb hby d2_37) rfl (XS.iconst X0.here hx rfl (hb hby d2_38) (XS.icmpYes X0.here hx rfl (pc0 := 39) (pc' := 65) rfl (hb hby d2_39) rfl (feq (by decide : ¬ ((8 : Int32) = (2 : Int32)))).2 (by decide) (by decide) k)))))))) ?_
    show OGo _ _ _ _ (s₁.setTop (mkF m 65 #[.val (.ref a1), .val (.int (8 : Int32))] []))
    refine OGo.via (fun _ k => XS.iloadN X0.here hx rfl (hb hby d2_65) rfl (XS.iconst X0.here hx rfl (hb hby d2_66) (XS.icmpYes X0.here hx rfl (pc0 := 67) (pc' := 99) rfl (hb hby d2_67) rfl (feq (by decide : ¬ ((8 : Int32) = (3 : Int32)))).2 (by decide) (by decide) (XS.iloadN X0.here hx rfl (hb hby d2_99) rfl (XS.iconst X0.here hx rfl (hb hby d2_100) (XS.icmpYes X0.here hx rfl (pc0 := 101) (pc' := 139) rfl (hb hby d2_101) rfl (feq (by decide : ¬ ((8 : Int32) = (4 : Int32)))).2 (by decide) (by decide) (XS.iloadN X0.here hx rfl (hb hby d2_139) rfl (XS.iconst X0.here hx rfl (hb hby d2_140) k)))))))) ?_
    show OGo _ _ _ _ (s₁.setTop (mkF m 141 #[.val (.ref a1), .val (.int (8 : Int32))] [(.int (5 : Int32)), (.int (8 : Int32))]))
    refine OGo.via (fun _ k => XS.icmpYes X0.here hx rfl (pc0 := 141) (pc' := 185) rfl (hb hby d2_141) rfl (feq (by decide : ¬ ((8 : Int32) = (5 : Int32)))).2 (by decide) (by decide) (XS.iloadN X0.here hx rfl (hb hby d2_185) rfl (XS.bipush X0.here hx rfl (hb hby d2_186) (XS.icmpYes X0.here hx rfl (pc0 := 188) (pc' := 239) rfl (hb hby d2_188) rfl (feq (by decide : ¬ ((8 : Int32) = (6 : Int32)))).2 (by decide) (by decide) (XS.iloadN X0.here hx rfl (hb hby d2_239) rfl (XS.bipush X0.here hx rfl (hb hby d2_240) (XS.icmpYes X0.here hx rfl (pc0 := 242) (pc' := 301) rfl (hb hby d2_242) rfl (feq (by decide : ¬ ((8 : Int32) = (7 : Int32)))).2 (by decide) (by decide) (XS.iloadN X0.here hx rfl (hb hby d2_301) rfl k)))))))) ?_
    show OGo _ _ _ _ (s₁.setTop (mkF m 302 #[.val (.ref a1), .val (.int (8 : Int32))] [(.int (8 : Int32))]))
    refine OGo.via (fun _ k => XS.bipush X0.here hx rfl (hb hby d2_302) (XS.icmpNo X0.here hx rfl (hb hby d2_304) rfl (teq (by decide : (8 : Int32) = (8 : Int32))).2 k)) ?_
    obtain ⟨T295, h295, X295, e295, E295, A295, D295, -, st295⟩ := newO X0 hx hZ hown (own_w hw 9 rfl) (own_w hw 10 rfl) (own_w hw 11 rfl) e0 (g := (mkF m 307 #[.val (.ref a1), .val (.int (8 : Int32))] [])) rfl (hb hby d2_307) (by decide) (by decide)
    obtain ⟨b295, g295⟩ : ∃ z, z = h0.size := ⟨_, rfl⟩
    rw [← g295] at A295 D295 st295
    refine OGo.via st295 ?_
    have K295 : Keep h0 h295 [] := (Keep.refl h0 []).ext E295
    have lt_a1_b295 : a1 < b295 := Nat.lt_of_lt_of_le V_a1.lt (Nat.le_of_eq g295.symm)
    have sz_b295 : h0.size ≤ b295 := Nat.le_trans (Keep.refl h0 []).1 (Nat.le_of_eq g295.symm)
    have g_b295 : n0 ≤ b295 := Nat.le_trans Z0 sz_b295
    have F295_value : Fld Z h295 b295 "java/lang/String" "value" "[B" .null := D295 (Or.inr (own_w hw 24 rfl)) (ty := (.array .byte)) (by decide)
    have F295_coder : Fld Z h295 b295 "java/lang/String" "coder" "B" (.int (0 : Int32)) := D295 (Or.inr (own_w hw 25 rfl)) (ty := .byte) (by decide)
    show OGo _ _ _ _ (T295.setTop (mkF m 310 #[.val (.ref a1), .val (.int (8 : Int32))] [(.ref b295)]))
    refine OGo.via (fun _ k => XS.dup X295.here hx rfl (hb hby d2_310) rfl rfl (XS.bipush X295.here hx rfl (hb hby d2_311) k)) ?_
    have f297 := V_a1.ext E295
    obtain ⟨T296, h296, ka296, X296, e296, E296, A296, Y296, st296⟩ := newPE (ad := "[C") X295 hx hZ (own_w hw 0 rfl) e295 (g := (mkF m 313 #[.val (.ref a1), .val (.int (8 : Int32))] [(.int (8 : Int32)), (.ref b295), (.ref b295)])) rfl (hb hby d2_313) rfl (by decide) (cap := 8) (by decide) (by decide) (by decide) (by decide) (by decide)
    obtain ⟨b296, g296⟩ : ∃ z, z = h295.size := ⟨_, rfl⟩
    rw [← g296] at A296 Y296 st296
    refine OGo.via st296 ?_
    have K296 : Keep h0 h296 [] := K295.ext E296
    have lt_a1_b296 : a1 < b296 := Nat.lt_of_lt_of_le f297.lt (Nat.le_of_eq g296.symm)
    have lt_b295_b296 : b295 < b296 := Nat.lt_of_lt_of_le A295.lt (Nat.le_of_eq g296.symm)
    have sz_b296 : h0.size ≤ b296 := Nat.le_trans K295.1 (Nat.le_of_eq g296.symm)
    have g_b296 : n0 ≤ b296 := Nat.le_trans Z0 sz_b296
    have V296 : Arv Z h296 b296 ka296 .char (8 : Int32) [(.int (0 : Int32)), (.int (0 : Int32)), (.int (0 : Int32)), (.int (0 : Int32)), (.int (0 : Int32)), (.int (0 : Int32)), (.int (0 : Int32)), (.int (0 : Int32))] (.int (0 : Int32)) := (Arv.new A296 (by decide)).pad (pad_rep [] (.int (0 : Int32)) 8)
    show OGo _ _ _ _ (T296.setTop (mkF m 315 #[.val (.ref a1), .val (.int (8 : Int32))] [(.ref b296), (.ref b295), (.ref b295)]))
    refine OGo.via (fun _ k => XS.dup X296.here hx rfl (hb hby d2_315) rfl rfl (XS.iconst X296.here hx rfl (hb hby d2_316) (XS.aloadN X296.here hx rfl (hb hby d2_317) rfl rfl (XS.iconst X296.here hx rfl (hb hby d2_318) k)))) ?_
    have f299 := f297.ext E296
    obtain ⟨cl298, Ar298, q298, Sz298, Ng298, Hs298, Gf298⟩ := id f299
    have hin298 : ¬ ((0 : Int32) < 0 ∨ cl298.slots.size ≤ ((0 : Int32)).toNatClampNeg) := inb_of Sz298 ⟨by decide, by decide⟩
    have hat298 : cl298.slots[((0 : Int32)).toNatClampNeg]? = some (.int y0) := Hs298.at hin298 rfl
    refine OGo.via (X296.caload hx (j := (0 : Int32)) (v := (.int y0)) (by rw [e296]; exact Ar298.1) (State.isArrayOf_alike hZ.alike Ar298.2.1) Ar298.2.2 hin298 hat298 (g := (mkF m 319 #[.val (.ref a1), .val (.int (8 : Int32))] [(.int (0 : Int32)), (.ref a1), (.int (0 : Int32)), (.ref b296), (.ref b296), (.ref b295), (.ref b295)])) rfl rfl (hb hby d2_319)) ?_
    show OGo _ _ _ _ (T296.setTop (mkF m 320 #[.val (.ref a1), .val (.int (8 : Int32))] [(.int y0), (.int (0 : Int32)), (.ref b296), (.ref b296), (.ref b295), (.ref b295)]))
    obtain ⟨cl300, Ar300, q300, Sz300, Ng300, Hs300, Gf300⟩ := id V296
    have hin300 : ¬ ((0 : Int32) < 0 ∨ cl300.slots.size ≤ ((0 : Int32)).toNatClampNeg) := inb_of Sz300 ⟨by decide, by decide⟩
    obtain ⟨T300, h300, X300, e300, W300, st300⟩ := stC X296 hx hZ e296 Ar300 (j := (0 : Int32)) hin300 (g := (mkF m 320 #[.val (.ref a1), .val (.int (8 : Int32))] [(.int y0), (.int (0 : Int32)), (.ref b296), (.ref b296), (.ref b295), (.ref b295)])) rfl rfl (hb hby d2_320)
    refine OGo.via st300 ?_
    have V300 : Arv Z h300 b296 ka296 .char (8 : Int32) [(.int (nar .char y0)), (.int (0 : Int32)), (.int (0 : Int32)), (.int (0 : Int32)), (.int (0 : Int32)), (.int (0 : Int32)), (.int (0 : Int32)), (.int (0 : Int32))] (.int (0 : Int32)) := Arv.set Ar300 q300 Sz300 Ng300 Hs300 Gf300 (fits_nar_char _) W300 0 rfl (Nat.le_of_ble_eq_true rfl)
    have K300 : Keep h0 h300 [] := K296.wr W300 (Or.inr sz_b296)
    have N300 := Fr.snoc X300 N0 g_b296
    show OGo _ _ _ _ (T300.setTop (mkF m 321 #[.val (.ref a1), .val (.int (8 : Int32))] [(.ref b296), (.ref b295), (.ref b295)]))
    refine OGo.via (fun _ k => XS.dup X300.here hx rfl (hb hby d2_321) rfl rfl (XS.iconst X300.here hx rfl (hb hby d2_322) (XS.aloadN X300.here hx rfl (hb hby d2_323) rfl rfl (XS.iconst X300.here hx rfl (hb hby d2_324) k)))) ?_
    have f302 := f299.other W300 (Nat.ne_of_lt lt_a1_b296)
    obtain ⟨cl301, Ar301, q301, Sz301, Ng301, Hs301, Gf301⟩ := id f302
    have hin301 : ¬ ((1 : Int32) < 0 ∨ cl301.slots.size ≤ ((1 : Int32)).toNatClampNeg) := inb_of Sz301 ⟨by decide, by decide⟩
    have hat301 : cl301.slots[((1 : Int32)).toNatClampNeg]? = some (.int y1) := Hs301.at hin301 rfl
    refine OGo.via (X300.caload hx (j := (1 : Int32)) (v := (.int y1)) (by rw [e300]; exact Ar301.1) (State.isArrayOf_alike hZ.alike Ar301.2.1) Ar301.2.2 hin301 hat301 (g := (mkF m 325 #[.val (.ref a1), .val (.int (8 : Int32))] [(.int (1 : Int32)), (.ref a1), (.int (1 : Int32)), (.ref b296), (.ref b296), (.ref b295), (.ref b295)])) rfl rfl (hb hby d2_325)) ?_
    show OGo _ _ _ _ (T300.setTop (mkF m 326 #[.val (.ref a1), .val (.int (8 : Int32))] [(.int y1), (.int (1 : Int32)), (.ref b296), (.ref b296), (.ref b295), (.ref b295)]))
    obtain ⟨cl303, Ar303, q303, Sz303, Ng303, Hs303, Gf303⟩ := id V300
    have hin303 : ¬ ((1 : Int32) < 0 ∨ cl303.slots.size ≤ ((1 : Int32)).toNatClampNeg) := inb_of Sz303 ⟨by decide, by decide⟩
    obtain ⟨T303, h303, X303, e303, W303, st303⟩ := stC X300 hx hZ e300 Ar303 (j := (1 : Int32)) hin303 (g := (mkF m 326 #[.val (.ref a1), .val (.int (8 : Int32))] [(.int y1), (.int (1 : Int32)), (.ref b296), (.ref b296), (.ref b295), (.ref b295)])) rfl rfl (hb hby d2_326)
    refine OGo.via st303 ?_
    have V303 : Arv Z h303 b296 ka296 .char (8 : Int32) [(.int (nar .char y0)), (.int (nar .char y1)), (.int (0 : Int32)), (.int (0 : Int32)), (.int (0 : Int32)), (.int (0 : Int32)), (.int (0 : Int32)), (.int (0 : Int32))] (.int (0 : Int32)) := Arv.set Ar303 q303 Sz303 Ng303 Hs303 Gf303 (fits_nar_char _) W303 1 rfl (Nat.le_of_ble_eq_true rfl)
    have K303 : Keep h0 h303 [] := K300.wr W303 (Or.inr sz_b296)
    have N303 := Fr.snoc X303 N300 g_b296
    show OGo _ _ _ _ (T303.setTop (mkF m 327 #[.val (.ref a1), .val (.int (8 : Int32))] [(.ref b296), (.ref b295), (.ref b295)]))
    refine OGo.via (fun _ k => XS.dup X303.here hx rfl (hb hby d2_327) rfl rfl (XS.iconst X303.here hx rfl (hb hby d2_328) (XS.aloadN X303.here hx rfl (hb hby d2_329) rfl rfl (XS.iconst X303.here hx rfl (hb hby d2_330) k)))) ?_
    have f305 := f302.other W303 (Nat.ne_of_lt lt_a1_b296)
    obtain ⟨cl304, Ar304, q304, Sz304, Ng304, Hs304, Gf304⟩ := id f305
    have hin304 : ¬ ((2 : Int32) < 0 ∨ cl304.slots.size ≤ ((2 : Int32)).toNatClampNeg) := inb_of Sz304 ⟨by decide, by decide⟩
    have hat304 : cl304.slots[((2 : Int32)).toNatClampNeg]? = some (.int y2) := Hs304.at hin304 rfl
    refine OGo.via (X303.caload hx (j := (2 : Int32)) (v := (.int y2)) (by rw [e303]; exact Ar304.1) (State.isArrayOf_alike hZ.alike Ar304.2.1) Ar304.2.2 hin304 hat304 (g := (mkF m 331 #[.val (.ref a1), .val (.int (8 : Int32))] [(.int (2 : Int32)), (.ref a1), (.int (2 : Int32)), (.ref b296), (.ref b296), (.ref b295), (.ref b295)])) rfl rfl (hb hby d2_331)) ?_
    show OGo _ _ _ _ (T303.setTop (mkF m 332 #[.val (.ref a1), .val (.int (8 : Int32))] [(.int y2), (.int (2 : Int32)), (.ref b296), (.ref b296), (.ref b295), (.ref b295)]))
    obtain ⟨cl306, Ar306, q306, Sz306, Ng306, Hs306, Gf306⟩ := id V303
    have hin306 : ¬ ((2 : Int32) < 0 ∨ cl306.slots.size ≤ ((2 : Int32)).toNatClampNeg) := inb_of Sz306 ⟨by decide, by decide⟩
    obtain ⟨T306, h306, X306, e306, W306, st306⟩ := stC X303 hx hZ e303 Ar306 (j := (2 : Int32)) hin306 (g := (mkF m 332 #[.val (.ref a1), .val (.int (8 : Int32))] [(.int y2), (.int (2 : Int32)), (.ref b296), (.ref b296), (.ref b295), (.ref b295)])) rfl rfl (hb hby d2_332)
    refine OGo.via st306 ?_
    have V306 : Arv Z h306 b296 ka296 .char (8 : Int32) [(.int (nar .char y0)), (.int (nar .char y1)), (.int (nar .char y2)), (.int (0 : Int32)), (.int (0 : Int32)), (.int (0 : Int32)), (.int (0 : Int32)), (.int (0 : Int32))] (.int (0 : Int32)) := Arv.set Ar306 q306 Sz306 Ng306 Hs306 Gf306 (fits_nar_char _) W306 2 rfl (Nat.le_of_ble_eq_true rfl)
    have K306 : Keep h0 h306 [] := K303.wr W306 (Or.inr sz_b296)
    have N306 := Fr.snoc X306 N303 g_b296
    show OGo _ _ _ _ (T306.setTop (mkF m 333 #[.val (.ref a1), .val (.int (8 : Int32))] [(.ref b296), (.ref b295), (.ref b295)]))
    refine OGo.via (fun _ k => XS.dup X306.here hx rfl (hb hby d2_333) rfl rfl (XS.iconst X306.here hx rfl (hb hby d2_334) (XS.aloadN X306.here hx rfl (hb hby d2_335) rfl rfl (XS.iconst X306.here hx rfl (hb hby d2_336) k)))) ?_
    have f308 := f305.other W306 (Nat.ne_of_lt lt_a1_b296)
    obtain ⟨cl307, Ar307, q307, Sz307, Ng307, Hs307, Gf307⟩ := id f308
    have hin307 : ¬ ((3 : Int32) < 0 ∨ cl307.slots.size ≤ ((3 : Int32)).toNatClampNeg) := inb_of Sz307 ⟨by decide, by decide⟩
    have hat307 : cl307.slots[((3 : Int32)).toNatClampNeg]? = some (.int y3) := Hs307.at hin307 rfl
    refine OGo.via (X306.caload hx (j := (3 : Int32)) (v := (.int y3)) (by rw [e306]; exact Ar307.1) (State.isArrayOf_alike hZ.alike Ar307.2.1) Ar307.2.2 hin307 hat307 (g := (mkF m 337 #[.val (.ref a1), .val (.int (8 : Int32))] [(.int (3 : Int32)), (.ref a1), (.int (3 : Int32)), (.ref b296), (.ref b296), (.ref b295), (.ref b295)])) rfl rfl (hb hby d2_337)) ?_
    show OGo _ _ _ _ (T306.setTop (mkF m 338 #[.val (.ref a1), .val (.int (8 : Int32))] [(.int y3), (.int (3 : Int32)), (.ref b296), (.ref b296), (.ref b295), (.ref b295)]))
    obtain ⟨cl309, Ar309, q309, Sz309, Ng309, Hs309, Gf309⟩ := id V306
    have hin309 : ¬ ((3 : Int32) < 0 ∨ cl309.slots.size ≤ ((3 : Int32)).toNatClampNeg) := inb_of Sz309 ⟨by decide, by decide⟩
    obtain ⟨T309, h309, X309, e309, W309, st309⟩ := stC X306 hx hZ e306 Ar309 (j := (3 : Int32)) hin309 (g := (mkF m 338 #[.val (.ref a1), .val (.int (8 : Int32))] [(.int y3), (.int (3 : Int32)), (.ref b296), (.ref b296), (.ref b295), (.ref b295)])) rfl rfl (hb hby d2_338)
    refine OGo.via st309 ?_
    have V309 : Arv Z h309 b296 ka296 .char (8 : Int32) [(.int (nar .char y0)), (.int (nar .char y1)), (.int (nar .char y2)), (.int (nar .char y3)), (.int (0 : Int32)), (.int (0 : Int32)), (.int (0 : Int32)), (.int (0 : Int32))] (.int (0 : Int32)) := Arv.set Ar309 q309 Sz309 Ng309 Hs309 Gf309 (fits_nar_char _) W309 3 rfl (Nat.le_of_ble_eq_true rfl)
    have K309 : Keep h0 h309 [] := K306.wr W309 (Or.inr sz_b296)
    have N309 := Fr.snoc X309 N306 g_b296
    show OGo _ _ _ _ (T309.setTop (mkF m 339 #[.val (.ref a1), .val (.int (8 : Int32))] [(.ref b296), (.ref b295), (.ref b295)]))
    refine OGo.via (fun _ k => XS.dup X309.here hx rfl (hb hby d2_339) rfl rfl (XS.iconst X309.here hx rfl (hb hby d2_340) (XS.aloadN X309.here hx rfl (hb hby d2_341) rfl rfl (XS.iconst X309.here hx rfl (hb hby d2_342) k)))) ?_
    have f311 := f308.other W309 (Nat.ne_of_lt lt_a1_b296)
    obtain ⟨cl310, Ar310, q310, Sz310, Ng310, Hs310, Gf310⟩ := id f311
    have hin310 : ¬ ((4 : Int32) < 0 ∨ cl310.slots.size ≤ ((4 : Int32)).toNatClampNeg) := inb_of Sz310 ⟨by decide, by decide⟩
    have hat310 : cl310.slots[((4 : Int32)).toNatClampNeg]? = some (.int y4) := Hs310.at hin310 rfl
    refine OGo.via (X309.caload hx (j := (4 : Int32)) (v := (.int y4)) (by rw [e309]; exact Ar310.1) (State.isArrayOf_alike hZ.alike Ar310.2.1) Ar310.2.2 hin310 hat310 (g := (mkF m 343 #[.val (.ref a1), .val (.int (8 : Int32))] [(.int (4 : Int32)), (.ref a1), (.int (4 : Int32)), (.ref b296), (.ref b296), (.ref b295), (.ref b295)])) rfl rfl (hb hby d2_343)) ?_
    show OGo _ _ _ _ (T309.setTop (mkF m 344 #[.val (.ref a1), .val (.int (8 : Int32))] [(.int y4), (.int (4 : Int32)), (.ref b296), (.ref b296), (.ref b295), (.ref b295)]))
    obtain ⟨cl312, Ar312, q312, Sz312, Ng312, Hs312, Gf312⟩ := id V309
    have hin312 : ¬ ((4 : Int32) < 0 ∨ cl312.slots.size ≤ ((4 : Int32)).toNatClampNeg) := inb_of Sz312 ⟨by decide, by decide⟩
    obtain ⟨T312, h312, X312, e312, W312, st312⟩ := stC X309 hx hZ e309 Ar312 (j := (4 : Int32)) hin312 (g := (mkF m 344 #[.val (.ref a1), .val (.int (8 : Int32))] [(.int y4), (.int (4 : Int32)), (.ref b296), (.ref b296), (.ref b295), (.ref b295)])) rfl rfl (hb hby d2_344)
    refine OGo.via st312 ?_
    have V312 : Arv Z h312 b296 ka296 .char (8 : Int32) [(.int (nar .char y0)), (.int (nar .char y1)), (.int (nar .char y2)), (.int (nar .char y3)), (.int (nar .char y4)), (.int (0 : Int32)), (.int (0 : Int32)), (.int (0 : Int32))] (.int (0 : Int32)) := Arv.set Ar312 q312 Sz312 Ng312 Hs312 Gf312 (fits_nar_char _) W312 4 rfl (Nat.le_of_ble_eq_true rfl)
    have K312 : Keep h0 h312 [] := K309.wr W312 (Or.inr sz_b296)
    have N312 := Fr.snoc X312 N309 g_b296
    show OGo _ _ _ _ (T312.setTop (mkF m 345 #[.val (.ref a1), .val (.int (8 : Int32))] [(.ref b296), (.ref b295), (.ref b295)]))
    refine OGo.via (fun _ k => XS.dup X312.here hx rfl (hb hby d2_345) rfl rfl (XS.iconst X312.here hx rfl (hb hby d2_346) (XS.aloadN X312.here hx rfl (hb hby d2_347) rfl rfl (XS.iconst X312.here hx rfl (hb hby d2_348) k)))) ?_
    have f314 := f311.other W312 (Nat.ne_of_lt lt_a1_b296)
    obtain ⟨cl313, Ar313, q313, Sz313, Ng313, Hs313, Gf313⟩ := id f314
    have hin313 : ¬ ((5 : Int32) < 0 ∨ cl313.slots.size ≤ ((5 : Int32)).toNatClampNeg) := inb_of Sz313 ⟨by decide, by decide⟩
    have hat313 : cl313.slots[((5 : Int32)).toNatClampNeg]? = some (.int y5) := Hs313.at hin313 rfl
    refine OGo.via (X312.caload hx (j := (5 : Int32)) (v := (.int y5)) (by rw [e312]; exact Ar313.1) (State.isArrayOf_alike hZ.alike Ar313.2.1) Ar313.2.2 hin313 hat313 (g := (mkF m 349 #[.val (.ref a1), .val (.int (8 : Int32))] [(.int (5 : Int32)), (.ref a1), (.int (5 : Int32)), (.ref b296), (.ref b296), (.ref b295), (.ref b295)])) rfl rfl (hb hby d2_349)) ?_
    show OGo _ _ _ _ (T312.setTop (mkF m 350 #[.val (.ref a1), .val (.int (8 : Int32))] [(.int y5), (.int (5 : Int32)), (.ref b296), (.ref b296), (.ref b295), (.ref b295)]))
    obtain ⟨cl315, Ar315, q315, Sz315, Ng315, Hs315, Gf315⟩ := id V312
    have hin315 : ¬ ((5 : Int32) < 0 ∨ cl315.slots.size ≤ ((5 : Int32)).toNatClampNeg) := inb_of Sz315 ⟨by decide, by decide⟩
    obtain ⟨T315, h315, X315, e315, W315, st315⟩ := stC X312 hx hZ e312 Ar315 (j := (5 : Int32)) hin315 (g := (mkF m 350 #[.val (.ref a1), .val (.int (8 : Int32))] [(.int y5), (.int (5 : Int32)), (.ref b296), (.ref b296), (.ref b295), (.ref b295)])) rfl rfl (hb hby d2_350)
    refine OGo.via st315 ?_
    have V315 : Arv Z h315 b296 ka296 .char (8 : Int32) [(.int (nar .char y0)), (.int (nar .char y1)), (.int (nar .char y2)), (.int (nar .char y3)), (.int (nar .char y4)), (.int (nar .char y5)), (.int (0 : Int32)), (.int (0 : Int32))] (.int (0 : Int32)) := Arv.set Ar315 q315 Sz315 Ng315 Hs315 Gf315 (fits_nar_char _) W315 5 rfl (Nat.le_of_ble_eq_true rfl)
    have K315 : Keep h0 h315 [] := K312.wr W315 (Or.inr sz_b296)
    have N315 := Fr.snoc X315 N312 g_b296
    show OGo _ _ _ _ (T315.setTop (mkF m 351 #[.val (.ref a1), .val (.int (8 : Int32))] [(.ref b296), (.ref b295), (.ref b295)]))
    refine OGo.via (fun _ k => XS.dup X315.here hx rfl (hb hby d2_351) rfl rfl (XS.bipush X315.here hx rfl (hb hby d2_352) (XS.aloadN X315.here hx rfl (hb hby d2_354) rfl rfl (XS.bipush X315.here hx rfl (hb hby d2_355) k)))) ?_
    have f317 := f314.other W315 (Nat.ne_of_lt lt_a1_b296)
    obtain ⟨cl316, Ar316, q316, Sz316, Ng316, Hs316, Gf316⟩ := id f317
    have hin316 : ¬ ((6 : Int32) < 0 ∨ cl316.slots.size ≤ ((6 : Int32)).toNatClampNeg) := inb_of Sz316 ⟨by decide, by decide⟩
    have hat316 : cl316.slots[((6 : Int32)).toNatClampNeg]? = some (.int y6) := Hs316.at hin316 rfl
    refine OGo.via (X315.caload hx (j := (6 : Int32)) (v := (.int y6)) (by rw [e315]; exact Ar316.1) (State.isArrayOf_alike hZ.alike Ar316.2.1) Ar316.2.2 hin316 hat316 (g := (mkF m 357 #[.val (.ref a1), .val (.int (8 : Int32))] [(.int (6 : Int32)), (.ref a1), (.int (6 : Int32)), (.ref b296), (.ref b296), (.ref b295), (.ref b295)])) rfl rfl (hb hby d2_357)) ?_
    show OGo _ _ _ _ (T315.setTop (mkF m 358 #[.val (.ref a1), .val (.int (8 : Int32))] [(.int y6), (.int (6 : Int32)), (.ref b296), (.ref b296), (.ref b295), (.ref b295)]))
    obtain ⟨cl318, Ar318, q318, Sz318, Ng318, Hs318, Gf318⟩ := id V315
    have hin318 : ¬ ((6 : Int32) < 0 ∨ cl318.slots.size ≤ ((6 : Int32)).toNatClampNeg) := inb_of Sz318 ⟨by decide, by decide⟩
    obtain ⟨T318, h318, X318, e318, W318, st318⟩ := stC X315 hx hZ e315 Ar318 (j := (6 : Int32)) hin318 (g := (mkF m 358 #[.val (.ref a1), .val (.int (8 : Int32))] [(.int y6), (.int (6 : Int32)), (.ref b296), (.ref b296), (.ref b295), (.ref b295)])) rfl rfl (hb hby d2_358)
    refine OGo.via st318 ?_
    have V318 : Arv Z h318 b296 ka296 .char (8 : Int32) [(.int (nar .char y0)), (.int (nar .char y1)), (.int (nar .char y2)), (.int (nar .char y3)), (.int (nar .char y4)), (.int (nar .char y5)), (.int (nar .char y6)), (.int (0 : Int32))] (.int (0 : Int32)) := Arv.set Ar318 q318 Sz318 Ng318 Hs318 Gf318 (fits_nar_char _) W318 6 rfl (Nat.le_of_ble_eq_true rfl)
    have K318 : Keep h0 h318 [] := K315.wr W318 (Or.inr sz_b296)
    have N318 := Fr.snoc X318 N315 g_b296
    show OGo _ _ _ _ (T318.setTop (mkF m 359 #[.val (.ref a1), .val (.int (8 : Int32))] [(.ref b296), (.ref b295), (.ref b295)]))
    refine OGo.via (fun _ k => XS.dup X318.here hx rfl (hb hby d2_359) rfl rfl (XS.bipush X318.here hx rfl (hb hby d2_360) (XS.aloadN X318.here hx rfl (hb hby d2_362) rfl rfl (XS.bipush X318.here hx rfl (hb hby d2_363) k)))) ?_
    have f320 := f317.other W318 (Nat.ne_of_lt lt_a1_b296)
    obtain ⟨cl319, Ar319, q319, Sz319, Ng319, Hs319, Gf319⟩ := id f320
    have hin319 : ¬ ((7 : Int32) < 0 ∨ cl319.slots.size ≤ ((7 : Int32)).toNatClampNeg) := inb_of Sz319 ⟨by decide, by decide⟩
    have hat319 : cl319.slots[((7 : Int32)).toNatClampNeg]? = some (.int y7) := Hs319.at hin319 rfl
    refine OGo.via (X318.caload hx (j := (7 : Int32)) (v := (.int y7)) (by rw [e318]; exact Ar319.1) (State.isArrayOf_alike hZ.alike Ar319.2.1) Ar319.2.2 hin319 hat319 (g := (mkF m 365 #[.val (.ref a1), .val (.int (8 : Int32))] [(.int (7 : Int32)), (.ref a1), (.int (7 : Int32)), (.ref b296), (.ref b296), (.ref b295), (.ref b295)])) rfl rfl (hb hby d2_365)) ?_
    show OGo _ _ _ _ (T318.setTop (mkF m 366 #[.val (.ref a1), .val (.int (8 : Int32))] [(.int y7), (.int (7 : Int32)), (.ref b296), (.ref b296), (.ref b295), (.ref b295)]))
    obtain ⟨cl321, Ar321, q321, Sz321, Ng321, Hs321, Gf321⟩ := id V318
    have hin321 : ¬ ((7 : Int32) < 0 ∨ cl321.slots.size ≤ ((7 : Int32)).toNatClampNeg) := inb_of Sz321 ⟨by decide, by decide⟩
    obtain ⟨T321, h321, X321, e321, W321, st321⟩ := stC X318 hx hZ e318 Ar321 (j := (7 : Int32)) hin321 (g := (mkF m 366 #[.val (.ref a1), .val (.int (8 : Int32))] [(.int y7), (.int (7 : Int32)), (.ref b296), (.ref b296), (.ref b295), (.ref b295)])) rfl rfl (hb hby d2_366)
    refine OGo.via st321 ?_
    have V321 : Arv Z h321 b296 ka296 .char (8 : Int32) [(.int (nar .char y0)), (.int (nar .char y1)), (.int (nar .char y2)), (.int (nar .char y3)), (.int (nar .char y4)), (.int (nar .char y5)), (.int (nar .char y6)), (.int (nar .char y7))] (.int (0 : Int32)) := Arv.set Ar321 q321 Sz321 Ng321 Hs321 Gf321 (fits_nar_char _) W321 7 rfl (Nat.le_of_ble_eq_true rfl)
    have K321 : Keep h0 h321 [] := K318.wr W321 (Or.inr sz_b296)
    have N321 := Fr.snoc X321 N318 g_b296
    show OGo _ _ _ _ (T321.setTop (mkF m 367 #[.val (.ref a1), .val (.int (8 : Int32))] [(.ref b296), (.ref b295), (.ref b295)]))
    have f322 : Arv Z h321 b296 ka296 .char (8 : Int32) (List.map Value.int [y0, y1, y2, y3, y4, y5, y6, y7]) (.int (0 : Int32)) := (by have q := V321; rw [hy0, hy1, hy2, hy3, hy4, hy5, hy6, hy7] at q; exact q)
    have f324 := A295.ext E296
    have f325 := f324.wr W300
    have f326 := f325.wr W303
    have f327 := f326.wr W306
    have f328 := f327.wr W309
    have f329 := f328.wr W312
    have f330 := f329.wr W315
    have f331 := f330.wr W318
    have f332 := f331.wr W321
    have f333 := F295_value.ext E296
    have f334 := f333.other W300 (Or.inl (Nat.ne_of_lt lt_b295_b296))
    have f335 := f334.other W303 (Or.inl (Nat.ne_of_lt lt_b295_b296))
    have f336 := f335.other W306 (Or.inl (Nat.ne_of_lt lt_b295_b296))
    have f337 := f336.other W309 (Or.inl (Nat.ne_of_lt lt_b295_b296))
    have f338 := f337.other W312 (Or.inl (Nat.ne_of_lt lt_b295_b296))
    have f339 := f338.other W315 (Or.inl (Nat.ne_of_lt lt_b295_b296))
    have f340 := f339.other W318 (Or.inl (Nat.ne_of_lt lt_b295_b296))
    have f341 := f340.other W321 (Or.inl (Nat.ne_of_lt lt_b295_b296))
    have f342 := F295_coder.ext E296
    have f343 := f342.other W300 (Or.inl (Nat.ne_of_lt lt_b295_b296))
    have f344 := f343.other W303 (Or.inl (Nat.ne_of_lt lt_b295_b296))
    have f345 := f344.other W306 (Or.inl (Nat.ne_of_lt lt_b295_b296))
    have f346 := f345.other W309 (Or.inl (Nat.ne_of_lt lt_b295_b296))
    have f347 := f346.other W312 (Or.inl (Nat.ne_of_lt lt_b295_b296))
    have f348 := f347.other W315 (Or.inl (Nat.ne_of_lt lt_b295_b296))
    have f349 := f348.other W318 (Or.inl (Nat.ne_of_lt lt_b295_b296))
    have f350 := f349.other W321 (Or.inl (Nat.ne_of_lt lt_b295_b296))
    have f351 := own_staKeep0 S_COMPACT_STRINGS K321
    have f352 := own_staKeep0 S_SIOOBE_FORMATTER K321
    have f353 := own_staKeep0 S__assertionsDisabled K321
    have f354 := own_staKeep0 S_HI_BYTE_SHIFT K321
    have f355 := own_staKeep0 S_LO_BYTE_SHIFT K321
    have f356 := f320.other W321 (Nat.ne_of_lt lt_a1_b296)
    have f357 := Y296.wr W300
    have f358 := f357.wr W303
    have f359 := f358.wr W306
    have f360 := f359.wr W309
    have f361 := f360.wr W312
    have f362 := f361.wr W315
    have f363 := f362.wr W318
    have f364 := f363.wr W321
    obtain ⟨_, T323, Lc323, X323, hQ323, st323⟩ := own_open X321 (X321.specialBack hx (y := own_y35) rfl hown (mvT hZ (own_w hw 12 rfl)) (mvT hZ (own_w hw 13 rfl)) (mvT hZ (own_w hw 14 rfl)) (by decide) (backOf (W := 1) (rm3 l Z a0 hw [] b295 b296 ka296 [y0, y1, y2, y3, y4, y5, y6, y7] (8 : Int32) w fm h321 n0 (Nat.le_trans Z0 K321.1) f332 f341 f350 f322 g_b295 f351 f352 f353 f354 f355 hw0 rfl (by simp) (by simp) (List.forall_mem_cons.mpr ⟨hy0, (List.forall_mem_cons.mpr ⟨hy1, (List.forall_mem_cons.mpr ⟨hy2, (List.forall_mem_cons.mpr ⟨hy3, (List.forall_mem_cons.mpr ⟨hy4, (List.forall_mem_cons.mpr ⟨hy5, (List.forall_mem_cons.mpr ⟨hy6, (List.forall_mem_cons.mpr ⟨hy7, (List.forall_mem_nil _)⟩)⟩)⟩)⟩)⟩)⟩)⟩)⟩)) hZ (own_w hw 14 rfl) (own_w hw 11 rfl) (by decide) (by decide)) (g := (mkF m 367 #[.val (.ref a1), .val (.int (8 : Int32))] [(.ref b296), (.ref b295), (.ref b295)])) rfl (by rw [hml]; rfl) (Steps.refl _) (a := b295) (argsL := [(.ref b296)]) (rest := [(.ref b295)]) (lenOf pd_26 rfl) rfl (by show 2 * 0 + _ ≤ _; exact Nat.le_of_eq rfl) (hb hby d2_367) (fun _ _ => ⟨rfl, e321, (by decide : 2 + 2 ≤ _), (by decide : 12 + 30 ≤ _)⟩))
    obtain ⟨vr, kr, cr, zr, br, rfl, N323q, r323_0, r323_1, r323_2, r323_3, r323_4, r323_5, r323_6⟩ := hQ323
    have N323 := Fr.app N321 N323q
    have K323 : Keep h0 T323.heap [] := K321.trans r323_0 (allS (Or.inr sz_b295) all0)
    have lt_a1_vr : a1 < vr := Nat.lt_of_lt_of_le f356.lt r323_1
    have lt_b295_vr : b295 < vr := Nat.lt_of_lt_of_le f332.lt r323_1
    have lt_b296_vr : b296 < vr := Nat.lt_of_lt_of_le f364.lt r323_1
    have sz_vr : h0.size ≤ vr := Nat.le_trans K321.1 r323_1
    have g_vr : n0 ≤ vr := Nat.le_trans Z0 sz_vr
    refine OGo.via (fun _ k => st323.trans k) ?_
    show OGo _ _ _ _ (T323.setTop (mkF m 370 #[.val (.ref a1), .val (.int (8 : Int32))] [(.ref b295)]))
    show OGo _ _ _ _ (T323.setTop (mkF m 370 #[.val (.ref a1), .val (.int (8 : Int32))] [(.ref b295)]))
    refine own_retA X323 hx Bd.notSynchronized Bd.returns rfl rfl (hb hby d2_370) (by decide) (by decide) ?_
    show Q_rm2 Z _ _ _ _ _ _ _ _ _ _ _ _ _ _ _ h0 n0 _ T323.heap _
    exact ⟨b295, vr, kr, cr, zr, br, rfl, N323, K323, r323_2, r323_3, r323_4, r323_5, r323_6⟩
  · show OGo _ _ _ _ (s₁.setTop (mkF m 0 #[.val (.ref a1), .val (.int (9 : Int32))] []))
    refine OGo.via (fun _ k => XS.iloadN X0.here hx rfl (hb hby d2_0) rfl (XS.ifYes X0.here hx rfl (pc0 := 1) (pc' := 15) rfl (hb hby d2_1) rfl ((if0 _ _).trans (feq (by decide : ¬ ((9 : Int32) = (0 : Int32)))).2) (by decide) (by decide) (XS.iloadN X0.here hx rfl (hb hby d2_15) rfl (XS.iconst X0.here hx rfl (hb hby d2_16) (XS.icmpYes X0.here hx rfl (pc0 := 17) (pc' := 37) rfl (hb hby d2_17) rfl (feq (by decide : ¬ ((9 : Int32) = (1 : Int32)))).2 (by decide) (by decide) (XS.iloadN X0.here hx rfl (hb hby d2_37) rfl (XS.iconst X0.here hx rfl (hb hby d2_38) (XS.icmpYes X0.here hx rfl (pc0 := 39) (pc' := 65) rfl (hb hby d2_39) rfl (feq (by decide : ¬ ((9 : Int32) = (2 : Int32)))).2 (by decide) (by decide) k)))))))) ?_
    show OGo _ _ _ _ (s₁.setTop (mkF m 65 #[.val (.ref a1), .val (.int (9 : Int32))] []))
    refine OGo.via (fun _ k => XS.iloadN X0.here hx rfl (hb hby d2_65) rfl (XS.iconst X0.here hx rfl (hb hby d2_66) (XS.icmpYes X0.here hx rfl (pc0 := 67) (pc' := 99) rfl (hb hby d2_67) rfl (feq (by decide : ¬ ((9 : Int32) = (3 : Int32)))).2 (by decide) (by decide) (XS.iloadN X0.here hx rfl (hb hby d2_99) rfl (XS.iconst X0.here hx rfl (hb hby d2_100) (XS.icmpYes X0.here hx rfl (pc0 := 101) (pc' := 139) rfl (hb hby d2_101) rfl (feq (by decide : ¬ ((9 : Int32) = (4 : Int32)))).2 (by decide) (by decide) (XS.iloadN X0.here hx rfl (hb hby d2_139) rfl (XS.iconst X0.here hx rfl (hb hby d2_140) k)))))))) ?_
    show OGo _ _ _ _ (s₁.setTop (mkF m 141 #[.val (.ref a1), .val (.int (9 : Int32))] [(.int (5 : Int32)), (.int (9 : Int32))]))
    refine OGo.via (fun _ k => XS.icmpYes X0.here hx rfl (pc0 := 141) (pc' := 185) rfl (hb hby d2_141) rfl (feq (by decide : ¬ ((9 : Int32) = (5 : Int32)))).2 (by decide) (by decide) (XS.iloadN X0.here hx rfl (hb hby d2_185) rfl (XS.bipush X0.here hx rfl (hb hby d2_186) (XS.icmpYes X0.here hx rfl (pc0 := 188) (pc' := 239) rfl (hb hby d2_188) rfl (feq (by decide : ¬ ((9 : Int32) = (6 : Int32)))).2 (by decide) (by decide) (XS.iloadN X0.here hx rfl (hb hby d2_239) rfl (XS.bipush X0.here hx rfl (hb hby d2_240) (XS.icmpYes X0.here hx rfl (pc0 := 242) (pc' := 301) rfl (hb hby d2_242) rfl (feq (by decide : ¬ ((9 : Int32) = (7 : Int32)))).2 (by decide) (by decide) (XS.iloadN X0.here hx rfl (hb hby d2_301) rfl k)))))))) ?_
    show OGo _ _ _ _ (s₁.setTop (mkF m 302 #[.val (.ref a1), .val (.int (9 : Int32))] [(.int (9 : Int32))]))
    refine OGo.via (fun _ k => XS.bipush X0.here hx rfl (hb hby d2_302) (XS.icmpYes X0.here hx rfl (pc0 := 304) (pc' := 371) rfl (hb hby d2_304) rfl (feq (by decide : ¬ ((9 : Int32) = (8 : Int32)))).2 (by decide) (by decide) (XS.iloadN X0.here hx rfl (hb hby d2_371) rfl (XS.bipush X0.here hx rfl (hb hby d2_372) (XS.icmpNo X0.here hx rfl (hb hby d2_374) rfl (teq (by decide : (9 : Int32) = (9 : Int32))).2 k))))) ?_
    obtain ⟨T365, h365, X365, e365, E365, A365, D365, -, st365⟩ := newO X0 hx hZ hown (own_w hw 9 rfl) (own_w hw 10 rfl) (own_w hw 11 rfl) e0 (g := (mkF m 377 #[.val (.ref a1), .val (.int (9 : Int32))] [])) rfl (hb hby d2_377) (by decide) (by decide)
    obtain ⟨b365, g365⟩ : ∃ z, z = h0.size := ⟨_, rfl⟩
    rw [← g365] at A365 D365 st365
    refine OGo.via st365 ?_
    have K365 : Keep h0 h365 [] := (Keep.refl h0 []).ext E365
    have lt_a1_b365 : a1 < b365 := Nat.lt_of_lt_of_le V_a1.lt (Nat.le_of_eq g365.symm)
    have sz_b365 : h0.size ≤ b365 := Nat.le_trans (Keep.refl h0 []).1 (Nat.le_of_eq g365.symm)
    have g_b365 : n0 ≤ b365 := Nat.le_trans Z0 sz_b365
    have F365_value : Fld Z h365 b365 "java/lang/String" "value" "[B" .null := D365 (Or.inr (own_w hw 24 rfl)) (ty := (.array .byte)) (by decide)
    have F365_coder : Fld Z h365 b365 "java/lang/String" "coder" "B" (.int (0 : Int32)) := D365 (Or.inr (own_w hw 25 rfl)) (ty := .byte) (by decide)
    show OGo _ _ _ _ (T365.setTop (mkF m 380 #[.val (.ref a1), .val (.int (9 : Int32))] [(.ref b365)]))
    refine OGo.via (fun _ k => XS.dup X365.here hx rfl (hb hby d2_380) rfl rfl (XS.bipush X365.here hx rfl (hb hby d2_381) k)) ?_
    have f367 := V_a1.ext E365
    obtain ⟨T366, h366, ka366, X366, e366, E366, A366, Y366, st366⟩ := newPE (ad := "[C") X365 hx hZ (own_w hw 0 rfl) e365 (g := (mkF m 383 #[.val (.ref a1), .val (.int (9 : Int32))] [(.int (9 : Int32)), (.ref b365), (.ref b365)])) rfl (hb hby d2_383) rfl (by decide) (cap := 9) (by decide) (by decide) (by decide) (by decide) (by decide)
    obtain ⟨b366, g366⟩ : ∃ z, z = h365.size := ⟨_, rfl⟩
    rw [← g366] at A366 Y366 st366
    refine OGo.via st366 ?_
    have K366 : Keep h0 h366 [] := K365.ext E366
    have lt_a1_b366 : a1 < b366 := Nat.lt_of_lt_of_le f367.lt (Nat.le_of_eq g366.symm)
    have lt_b365_b366 : b365 < b366 := Nat.lt_of_lt_of_le A365.lt (Nat.le_of_eq g366.symm)
    have sz_b366 : h0.size ≤ b366 := Nat.le_trans K365.1 (Nat.le_of_eq g366.symm)
    have g_b366 : n0 ≤ b366 := Nat.le_trans Z0 sz_b366
    have V366 : Arv Z h366 b366 ka366 .char (9 : Int32) [(.int (0 : Int32)), (.int (0 : Int32)), (.int (0 : Int32)), (.int (0 : Int32)), (.int (0 : Int32)), (.int (0 : Int32)), (.int (0 : Int32)), (.int (0 : Int32)), (.int (0 : Int32))] (.int (0 : Int32)) := (Arv.new A366 (by decide)).pad (pad_rep [] (.int (0 : Int32)) 9)
    show OGo _ _ _ _ (T366.setTop (mkF m 385 #[.val (.ref a1), .val (.int (9 : Int32))] [(.ref b366), (.ref b365), (.ref b365)]))
    refine OGo.via (fun _ k => XS.dup X366.here hx rfl (hb hby d2_385) rfl rfl (XS.iconst X366.here hx rfl (hb hby d2_386) (XS.aloadN X366.here hx rfl (hb hby d2_387) rfl rfl (XS.iconst X366.here hx rfl (hb hby d2_388) k)))) ?_
    have f369 := f367.ext E366
    obtain ⟨cl368, Ar368, q368, Sz368, Ng368, Hs368, Gf368⟩ := id f369
    have hin368 : ¬ ((0 : Int32) < 0 ∨ cl368.slots.size ≤ ((0 : Int32)).toNatClampNeg) := inb_of Sz368 ⟨by decide, by decide⟩
    have hat368 : cl368.slots[((0 : Int32)).toNatClampNeg]? = some (.int y0) := Hs368.at hin368 rfl
    refine OGo.via (X366.caload hx (j := (0 : Int32)) (v := (.int y0)) (by rw [e366]; exact Ar368.1) (State.isArrayOf_alike hZ.alike Ar368.2.1) Ar368.2.2 hin368 hat368 (g := (mkF m 389 #[.val (.ref a1), .val (.int (9 : Int32))] [(.int (0 : Int32)), (.ref a1), (.int (0 : Int32)), (.ref b366), (.ref b366), (.ref b365), (.ref b365)])) rfl rfl (hb hby d2_389)) ?_
    show OGo _ _ _ _ (T366.setTop (mkF m 390 #[.val (.ref a1), .val (.int (9 : Int32))] [(.int y0), (.int (0 : Int32)), (.ref b366), (.ref b366), (.ref b365), (.ref b365)]))
    obtain ⟨cl370, Ar370, q370, Sz370, Ng370, Hs370, Gf370⟩ := id V366
    have hin370 : ¬ ((0 : Int32) < 0 ∨ cl370.slots.size ≤ ((0 : Int32)).toNatClampNeg) := inb_of Sz370 ⟨by decide, by decide⟩
    obtain ⟨T370, h370, X370, e370, W370, st370⟩ := stC X366 hx hZ e366 Ar370 (j := (0 : Int32)) hin370 (g := (mkF m 390 #[.val (.ref a1), .val (.int (9 : Int32))] [(.int y0), (.int (0 : Int32)), (.ref b366), (.ref b366), (.ref b365), (.ref b365)])) rfl rfl (hb hby d2_390)
    refine OGo.via st370 ?_
    have V370 : Arv Z h370 b366 ka366 .char (9 : Int32) [(.int (nar .char y0)), (.int (0 : Int32)), (.int (0 : Int32)), (.int (0 : Int32)), (.int (0 : Int32)), (.int (0 : Int32)), (.int (0 : Int32)), (.int (0 : Int32)), (.int (0 : Int32))] (.int (0 : Int32)) := Arv.set Ar370 q370 Sz370 Ng370 Hs370 Gf370 (fits_nar_char _) W370 0 rfl (Nat.le_of_ble_eq_true rfl)
    have K370 : Keep h0 h370 [] := K366.wr W370 (Or.inr sz_b366)
    have N370 := Fr.snoc X370 N0 g_b366
    show OGo _ _ _ _ (T370.setTop (mkF m 391 #[.val (.ref a1), .val (.int (9 : Int32))] [(.ref b366), (.ref b365), (.ref b365)]))
    refine OGo.via (fun _ k => XS.dup X370.here hx rfl (hb hby d2_391) rfl rfl (XS.iconst X370.here hx rfl (hb hby d2_392) (XS.aloadN X370.here hx rfl (hb hby d2_393) rfl rfl (XS.iconst X370.here hx rfl (hb hby d2_394) k)))) ?_
    have f372 := f369.other W370 (Nat.ne_of_lt lt_a1_b366)
    obtain ⟨cl371, Ar371, q371, Sz371, Ng371, Hs371, Gf371⟩ := id f372
    have hin371 : ¬ ((1 : Int32) < 0 ∨ cl371.slots.size ≤ ((1 : Int32)).toNatClampNeg) := inb_of Sz371 ⟨by decide, by decide⟩
    have hat371 : cl371.slots[((1 : Int32)).toNatClampNeg]? = some (.int y1) := Hs371.at hin371 rfl
    refine OGo.via (X370.caload hx (j := (1 : Int32)) (v := (.int y1)) (by rw [e370]; exact Ar371.1) (State.isArrayOf_alike hZ.alike Ar371.2.1) Ar371.2.2 hin371 hat371 (g := (mkF m 395 #[.val (.ref a1), .val (.int (9 : Int32))] [(.int (1 : Int32)), (.ref a1), (.int (1 : Int32)), (.ref b366), (.ref b366), (.ref b365), (.ref b365)])) rfl rfl (hb hby d2_395)) ?_
    show OGo _ _ _ _ (T370.setTop (mkF m 396 #[.val (.ref a1), .val (.int (9 : Int32))] [(.int y1), (.int (1 : Int32)), (.ref b366), (.ref b366), (.ref b365), (.ref b365)]))
    obtain ⟨cl373, Ar373, q373, Sz373, Ng373, Hs373, Gf373⟩ := id V370
    have hin373 : ¬ ((1 : Int32) < 0 ∨ cl373.slots.size ≤ ((1 : Int32)).toNatClampNeg) := inb_of Sz373 ⟨by decide, by decide⟩
    obtain ⟨T373, h373, X373, e373, W373, st373⟩ := stC X370 hx hZ e370 Ar373 (j := (1 : Int32)) hin373 (g := (mkF m 396 #[.val (.ref a1), .val (.int (9 : Int32))] [(.int y1), (.int (1 : Int32)), (.ref b366), (.ref b366), (.ref b365), (.ref b365)])) rfl rfl (hb hby d2_396)
    refine OGo.via st373 ?_
    have V373 : Arv Z h373 b366 ka366 .char (9 : Int32) [(.int (nar .char y0)), (.int (nar .char y1)), (.int (0 : Int32)), (.int (0 : Int32)), (.int (0 : Int32)), (.int (0 : Int32)), (.int (0 : Int32)), (.int (0 : Int32)), (.int (0 : Int32))] (.int (0 : Int32)) := Arv.set Ar373 q373 Sz373 Ng373 Hs373 Gf373 (fits_nar_char _) W373 1 rfl (Nat.le_of_ble_eq_true rfl)
    have K373 : Keep h0 h373 [] := K370.wr W373 (Or.inr sz_b366)
    have N373 := Fr.snoc X373 N370 g_b366
    show OGo _ _ _ _ (T373.setTop (mkF m 397 #[.val (.ref a1), .val (.int (9 : Int32))] [(.ref b366), (.ref b365), (.ref b365)]))
    refine OGo.via (fun _ k => XS.dup X373.here hx rfl (hb hby d2_397) rfl rfl (XS.iconst X373.here hx rfl (hb hby d2_398) (XS.aloadN X373.here hx rfl (hb hby d2_399) rfl rfl (XS.iconst X373.here hx rfl (hb hby d2_400) k)))) ?_
    have f375 := f372.other W373 (Nat.ne_of_lt lt_a1_b366)
    obtain ⟨cl374, Ar374, q374, Sz374, Ng374, Hs374, Gf374⟩ := id f375
    have hin374 : ¬ ((2 : Int32) < 0 ∨ cl374.slots.size ≤ ((2 : Int32)).toNatClampNeg) := inb_of Sz374 ⟨by decide, by decide⟩
    have hat374 : cl374.slots[((2 : Int32)).toNatClampNeg]? = some (.int y2) := Hs374.at hin374 rfl
    refine OGo.via (X373.caload hx (j := (2 : Int32)) (v := (.int y2)) (by rw [e373]; exact Ar374.1) (State.isArrayOf_alike hZ.alike Ar374.2.1) Ar374.2.2 hin374 hat374 (g := (mkF m 401 #[.val (.ref a1), .val (.int (9 : Int32))] [(.int (2 : Int32)), (.ref a1), (.int (2 : Int32)), (.ref b366), (.ref b366), (.ref b365), (.ref b365)])) rfl rfl (hb hby d2_401)) ?_
    show OGo _ _ _ _ (T373.setTop (mkF m 402 #[.val (.ref a1), .val (.int (9 : Int32))] [(.int y2), (.int (2 : Int32)), (.ref b366), (.ref b366), (.ref b365), (.ref b365)]))
    obtain ⟨cl376, Ar376, q376, Sz376, Ng376, Hs376, Gf376⟩ := id V373
    have hin376 : ¬ ((2 : Int32) < 0 ∨ cl376.slots.size ≤ ((2 : Int32)).toNatClampNeg) := inb_of Sz376 ⟨by decide, by decide⟩
    obtain ⟨T376, h376, X376, e376, W376, st376⟩ := stC X373 hx hZ e373 Ar376 (j := (2 : Int32)) hin376 (g := (mkF m 402 #[.val (.ref a1), .val (.int (9 : Int32))] [(.int y2), (.int (2 : Int32)), (.ref b366), (.ref b366), (.ref b365), (.ref b365)])) rfl rfl (hb hby d2_402)
    refine OGo.via st376 ?_
    have V376 : Arv Z h376 b366 ka366 .char (9 : Int32) [(.int (nar .char y0)), (.int (nar .char y1)), (.int (nar .char y2)), (.int (0 : Int32)), (.int (0 : Int32)), (.int (0 : Int32)), (.int (0 : Int32)), (.int (0 : Int32)), (.int (0 : Int32))] (.int (0 : Int32)) := Arv.set Ar376 q376 Sz376 Ng376 Hs376 Gf376 (fits_nar_char _) W376 2 rfl (Nat.le_of_ble_eq_true rfl)
    have K376 : Keep h0 h376 [] := K373.wr W376 (Or.inr sz_b366)
    have N376 := Fr.snoc X376 N373 g_b366
    show OGo _ _ _ _ (T376.setTop (mkF m 403 #[.val (.ref a1), .val (.int (9 : Int32))] [(.ref b366), (.ref b365), (.ref b365)]))
    refine OGo.via (fun _ k => XS.dup X376.here hx rfl (hb hby d2_403) rfl rfl (XS.iconst X376.here hx rfl (hb hby d2_404) (XS.aloadN X376.here hx rfl (hb hby d2_405) rfl rfl (XS.iconst X376.here hx rfl (hb hby d2_406) k)))) ?_
    have f378 := f375.other W376 (Nat.ne_of_lt lt_a1_b366)
    obtain ⟨cl377, Ar377, q377, Sz377, Ng377, Hs377, Gf377⟩ := id f378
    have hin377 : ¬ ((3 : Int32) < 0 ∨ cl377.slots.size ≤ ((3 : Int32)).toNatClampNeg) := inb_of Sz377 ⟨by decide, by decide⟩
    have hat377 : cl377.slots[((3 : Int32)).toNatClampNeg]? = some (.int y3) := Hs377.at hin377 rfl
    refine OGo.via (X376.caload hx (j := (3 : Int32)) (v := (.int y3)) (by rw [e376]; exact Ar377.1) (State.isArrayOf_alike hZ.alike Ar377.2.1) Ar377.2.2 hin377 hat377 (g := (mkF m 407 #[.val (.ref a1), .val (.int (9 : Int32))] [(.int (3 : Int32)), (.ref a1), (.int (3 : Int32)), (.ref b366), (.ref b366), (.ref b365), (.ref b365)])) rfl rfl (hb hby d2_407)) ?_
    show OGo _ _ _ _ (T376.setTop (mkF m 408 #[.val (.ref a1), .val (.int (9 : Int32))] [(.int y3), (.int (3 : Int32)), (.ref b366), (.ref b366), (.ref b365), (.ref b365)]))
    obtain ⟨cl379, Ar379, q379, Sz379, Ng379, Hs379, Gf379⟩ := id V376
    have hin379 : ¬ ((3 : Int32) < 0 ∨ cl379.slots.size ≤ ((3 : Int32)).toNatClampNeg) := inb_of Sz379 ⟨by decide, by decide⟩
    obtain ⟨T379, h379, X379, e379, W379, st379⟩ := stC X376 hx hZ e376 Ar379 (j := (3 : Int32)) hin379 (g := (mkF m 408 #[.val (.ref a1), .val (.int (9 : Int32))] [(.int y3), (.int (3 : Int32)), (.ref b366), (.ref b366), (.ref b365), (.ref b365)])) rfl rfl (hb hby d2_408)
    refine OGo.via st379 ?_
    have V379 : Arv Z h379 b366 ka366 .char (9 : Int32) [(.int (nar .char y0)), (.int (nar .char y1)), (.int (nar .char y2)), (.int (nar .char y3)), (.int (0 : Int32)), (.int (0 : Int32)), (.int (0 : Int32)), (.int (0 : Int32)), (.int (0 : Int32))] (.int (0 : Int32)) := Arv.set Ar379 q379 Sz379 Ng379 Hs379 Gf379 (fits_nar_char _) W379 3 rfl (Nat.le_of_ble_eq_true rfl)
    have K379 : Keep h0 h379 [] := K376.wr W379 (Or.inr sz_b366)
    have N379 := Fr.snoc X379 N376 g_b366
    show OGo _ _ _ _ (T379.setTop (mkF m 409 #[.val (.ref a1), .val (.int (9 : Int32))] [(.ref b366), (.ref b365), (.ref b365)]))
    refine OGo.via (fun _ k => XS.dup X379.here hx rfl (hb hby d2_409) rfl rfl (XS.iconst X379.here hx rfl (hb hby d2_410) (XS.aloadN X379.here hx rfl (hb hby d2_411) rfl rfl (XS.iconst X379.here hx rfl (hb hby d2_412) k)))) ?_
    have f381 := f378.other W379 (Nat.ne_of_lt lt_a1_b366)
    obtain ⟨cl380, Ar380, q380, Sz380, Ng380, Hs380, Gf380⟩ := id f381
    have hin380 : ¬ ((4 : Int32) < 0 ∨ cl380.slots.size ≤ ((4 : Int32)).toNatClampNeg) := inb_of Sz380 ⟨by decide, by decide⟩
    have hat380 : cl380.slots[((4 : Int32)).toNatClampNeg]? = some (.int y4) := Hs380.at hin380 rfl
    refine OGo.via (X379.caload hx (j := (4 : Int32)) (v := (.int y4)) (by rw [e379]; exact Ar380.1) (State.isArrayOf_alike hZ.alike Ar380.2.1) Ar380.2.2 hin380 hat380 (g := (mkF m 413 #[.val (.ref a1), .val (.int (9 : Int32))] [(.int (4 : Int32)), (.ref a1), (.int (4 : Int32)), (.ref b366), (.ref b366), (.ref b365), (.ref b365)])) rfl rfl (hb hby d2_413)) ?_
    show OGo _ _ _ _ (T379.setTop (mkF m 414 #[.val (.ref a1), .val (.int (9 : Int32))] [(.int y4), (.int (4 : Int32)), (.ref b366), (.ref b366), (.ref b365), (.ref b365)]))
    obtain ⟨cl382, Ar382, q382, Sz382, Ng382, Hs382, Gf382⟩ := id V379
    have hin382 : ¬ ((4 : Int32) < 0 ∨ cl382.slots.size ≤ ((4 : Int32)).toNatClampNeg) := inb_of Sz382 ⟨by decide, by decide⟩
    obtain ⟨T382, h382, X382, e382, W382, st382⟩ := stC X379 hx hZ e379 Ar382 (j := (4 : Int32)) hin382 (g := (mkF m 414 #[.val (.ref a1), .val (.int (9 : Int32))] [(.int y4), (.int (4 : Int32)), (.ref b366), (.ref b366), (.ref b365), (.ref b365)])) rfl rfl (hb hby d2_414)
    refine OGo.via st382 ?_
    have V382 : Arv Z h382 b366 ka366 .char (9 : Int32) [(.int (nar .char y0)), (.int (nar .char y1)), (.int (nar .char y2)), (.int (nar .char y3)), (.int (nar .char y4)), (.int (0 : Int32)), (.int (0 : Int32)), (.int (0 : Int32)), (.int (0 : Int32))] (.int (0 : Int32)) := Arv.set Ar382 q382 Sz382 Ng382 Hs382 Gf382 (fits_nar_char _) W382 4 rfl (Nat.le_of_ble_eq_true rfl)
    have K382 : Keep h0 h382 [] := K379.wr W382 (Or.inr sz_b366)
    have N382 := Fr.snoc X382 N379 g_b366
    show OGo _ _ _ _ (T382.setTop (mkF m 415 #[.val (.ref a1), .val (.int (9 : Int32))] [(.ref b366), (.ref b365), (.ref b365)]))
    refine OGo.via (fun _ k => XS.dup X382.here hx rfl (hb hby d2_415) rfl rfl (XS.iconst X382.here hx rfl (hb hby d2_416) (XS.aloadN X382.here hx rfl (hb hby d2_417) rfl rfl (XS.iconst X382.here hx rfl (hb hby d2_418) k)))) ?_
    have f384 := f381.other W382 (Nat.ne_of_lt lt_a1_b366)
    obtain ⟨cl383, Ar383, q383, Sz383, Ng383, Hs383, Gf383⟩ := id f384
    have hin383 : ¬ ((5 : Int32) < 0 ∨ cl383.slots.size ≤ ((5 : Int32)).toNatClampNeg) := inb_of Sz383 ⟨by decide, by decide⟩
    have hat383 : cl383.slots[((5 : Int32)).toNatClampNeg]? = some (.int y5) := Hs383.at hin383 rfl
    refine OGo.via (X382.caload hx (j := (5 : Int32)) (v := (.int y5)) (by rw [e382]; exact Ar383.1) (State.isArrayOf_alike hZ.alike Ar383.2.1) Ar383.2.2 hin383 hat383 (g := (mkF m 419 #[.val (.ref a1), .val (.int (9 : Int32))] [(.int (5 : Int32)), (.ref a1), (.int (5 : Int32)), (.ref b366), (.ref b366), (.ref b365), (.ref b365)])) rfl rfl (hb hby d2_419)) ?_
    show OGo _ _ _ _ (T382.setTop (mkF m 420 #[.val (.ref a1), .val (.int (9 : Int32))] [(.int y5), (.int (5 : Int32)), (.ref b366), (.ref b366), (.ref b365), (.ref b365)]))
    obtain ⟨cl385, Ar385, q385, Sz385, Ng385, Hs385, Gf385⟩ := id V382
    have hin385 : ¬ ((5 : Int32) < 0 ∨ cl385.slots.size ≤ ((5 : Int32)).toNatClampNeg) := inb_of Sz385 ⟨by decide, by decide⟩
    obtain ⟨T385, h385, X385, e385, W385, st385⟩ := stC X382 hx hZ e382 Ar385 (j := (5 : Int32)) hin385 (g := (mkF m 420 #[.val (.ref a1), .val (.int (9 : Int32))] [(.int y5), (.int (5 : Int32)), (.ref b366), (.ref b366), (.ref b365), (.ref b365)])) rfl rfl (hb hby d2_420)
    refine OGo.via st385 ?_
    have V385 : Arv Z h385 b366 ka366 .char (9 : Int32) [(.int (nar .char y0)), (.int (nar .char y1)), (.int (nar .char y2)), (.int (nar .char y3)), (.int (nar .char y4)), (.int (nar .char y5)), (.int (0 : Int32)), (.int (0 : Int32)), (.int (0 : Int32))] (.int (0 : Int32)) := Arv.set Ar385 q385 Sz385 Ng385 Hs385 Gf385 (fits_nar_char _) W385 5 rfl (Nat.le_of_ble_eq_true rfl)
    have K385 : Keep h0 h385 [] := K382.wr W385 (Or.inr sz_b366)
    have N385 := Fr.snoc X385 N382 g_b366
    show OGo _ _ _ _ (T385.setTop (mkF m 421 #[.val (.ref a1), .val (.int (9 : Int32))] [(.ref b366), (.ref b365), (.ref b365)]))
    refine OGo.via (fun _ k => XS.dup X385.here hx rfl (hb hby d2_421) rfl rfl (XS.bipush X385.here hx rfl (hb hby d2_422) (XS.aloadN X385.here hx rfl (hb hby d2_424) rfl rfl (XS.bipush X385.here hx rfl (hb hby d2_425) k)))) ?_
    have f387 := f384.other W385 (Nat.ne_of_lt lt_a1_b366)
    obtain ⟨cl386, Ar386, q386, Sz386, Ng386, Hs386, Gf386⟩ := id f387
    have hin386 : ¬ ((6 : Int32) < 0 ∨ cl386.slots.size ≤ ((6 : Int32)).toNatClampNeg) := inb_of Sz386 ⟨by decide, by decide⟩
    have hat386 : cl386.slots[((6 : Int32)).toNatClampNeg]? = some (.int y6) := Hs386.at hin386 rfl
    refine OGo.via (X385.caload hx (j := (6 : Int32)) (v := (.int y6)) (by rw [e385]; exact Ar386.1) (State.isArrayOf_alike hZ.alike Ar386.2.1) Ar386.2.2 hin386 hat386 (g := (mkF m 427 #[.val (.ref a1), .val (.int (9 : Int32))] [(.int (6 : Int32)), (.ref a1), (.int (6 : Int32)), (.ref b366), (.ref b366), (.ref b365), (.ref b365)])) rfl rfl (hb hby d2_427)) ?_
    show OGo _ _ _ _ (T385.setTop (mkF m 428 #[.val (.ref a1), .val (.int (9 : Int32))] [(.int y6), (.int (6 : Int32)), (.ref b366), (.ref b366), (.ref b365), (.ref b365)]))
    obtain ⟨cl388, Ar388, q388, Sz388, Ng388, Hs388, Gf388⟩ := id V385
    have hin388 : ¬ ((6 : Int32) < 0 ∨ cl388.slots.size ≤ ((6 : Int32)).toNatClampNeg) := inb_of Sz388 ⟨by decide, by decide⟩
    obtain ⟨T388, h388, X388, e388, W388, st388⟩ := stC X385 hx hZ e385 Ar388 (j := (6 : Int32)) hin388 (g := (mkF m 428 #[.val (.ref a1), .val (.int (9 : Int32))] [(.int y6), (.int (6 : Int32)), (.ref b366), (.ref b366), (.ref b365), (.ref b365)])) rfl rfl (hb hby d2_428)
    refine OGo.via st388 ?_
    have V388 : Arv Z h388 b366 ka366 .char (9 : Int32) [(.int (nar .char y0)), (.int (nar .char y1)), (.int (nar .char y2)), (.int (nar .char y3)), (.int (nar .char y4)), (.int (nar .char y5)), (.int (nar .char y6)), (.int (0 : Int32)), (.int (0 : Int32))] (.int (0 : Int32)) := Arv.set Ar388 q388 Sz388 Ng388 Hs388 Gf388 (fits_nar_char _) W388 6 rfl (Nat.le_of_ble_eq_true rfl)
    have K388 : Keep h0 h388 [] := K385.wr W388 (Or.inr sz_b366)
    have N388 := Fr.snoc X388 N385 g_b366
    show OGo _ _ _ _ (T388.setTop (mkF m 429 #[.val (.ref a1), .val (.int (9 : Int32))] [(.ref b366), (.ref b365), (.ref b365)]))
    refine OGo.via (fun _ k => XS.dup X388.here hx rfl (hb hby d2_429) rfl rfl (XS.bipush X388.here hx rfl (hb hby d2_430) (XS.aloadN X388.here hx rfl (hb hby d2_432) rfl rfl (XS.bipush X388.here hx rfl (hb hby d2_433) k)))) ?_
    have f390 := f387.other W388 (Nat.ne_of_lt lt_a1_b366)
    obtain ⟨cl389, Ar389, q389, Sz389, Ng389, Hs389, Gf389⟩ := id f390
    have hin389 : ¬ ((7 : Int32) < 0 ∨ cl389.slots.size ≤ ((7 : Int32)).toNatClampNeg) := inb_of Sz389 ⟨by decide, by decide⟩
    have hat389 : cl389.slots[((7 : Int32)).toNatClampNeg]? = some (.int y7) := Hs389.at hin389 rfl
    refine OGo.via (X388.caload hx (j := (7 : Int32)) (v := (.int y7)) (by rw [e388]; exact Ar389.1) (State.isArrayOf_alike hZ.alike Ar389.2.1) Ar389.2.2 hin389 hat389 (g := (mkF m 435 #[.val (.ref a1), .val (.int (9 : Int32))] [(.int (7 : Int32)), (.ref a1), (.int (7 : Int32)), (.ref b366), (.ref b366), (.ref b365), (.ref b365)])) rfl rfl (hb hby d2_435)) ?_
    show OGo _ _ _ _ (T388.setTop (mkF m 436 #[.val (.ref a1), .val (.int (9 : Int32))] [(.int y7), (.int (7 : Int32)), (.ref b366), (.ref b366), (.ref b365), (.ref b365)]))
    obtain ⟨cl391, Ar391, q391, Sz391, Ng391, Hs391, Gf391⟩ := id V388
    have hin391 : ¬ ((7 : Int32) < 0 ∨ cl391.slots.size ≤ ((7 : Int32)).toNatClampNeg) := inb_of Sz391 ⟨by decide, by decide⟩
    obtain ⟨T391, h391, X391, e391, W391, st391⟩ := stC X388 hx hZ e388 Ar391 (j := (7 : Int32)) hin391 (g := (mkF m 436 #[.val (.ref a1), .val (.int (9 : Int32))] [(.int y7), (.int (7 : Int32)), (.ref b366), (.ref b366), (.ref b365), (.ref b365)])) rfl rfl (hb hby d2_436)
    refine OGo.via st391 ?_
    have V391 : Arv Z h391 b366 ka366 .char (9 : Int32) [(.int (nar .char y0)), (.int (nar .char y1)), (.int (nar .char y2)), (.int (nar .char y3)), (.int (nar .char y4)), (.int (nar .char y5)), (.int (nar .char y6)), (.int (nar .char y7)), (.int (0 : Int32))] (.int (0 : Int32)) := Arv.set Ar391 q391 Sz391 Ng391 Hs391 Gf391 (fits_nar_char _) W391 7 rfl (Nat.le_of_ble_eq_true rfl)
    have K391 : Keep h0 h391 [] := K388.wr W391 (Or.inr sz_b366)
    have N391 := Fr.snoc X391 N388 g_b366
    show OGo _ _ _ _ (T391.setTop (mkF m 437 #[.val (.ref a1), .val (.int (9 : Int32))] [(.ref b366), (.ref b365), (.ref b365)]))
    refine OGo.via (fun _ k => XS.dup X391.here hx rfl (hb hby d2_437) rfl rfl (XS.bipush X391.here hx rfl (hb hby d2_438) (XS.aloadN X391.here hx rfl (hb hby d2_440) rfl rfl (XS.bipush X391.here hx rfl (hb hby d2_441) k)))) ?_
    have f393 := f390.other W391 (Nat.ne_of_lt lt_a1_b366)
    obtain ⟨cl392, Ar392, q392, Sz392, Ng392, Hs392, Gf392⟩ := id f393
    have hin392 : ¬ ((8 : Int32) < 0 ∨ cl392.slots.size ≤ ((8 : Int32)).toNatClampNeg) := inb_of Sz392 ⟨by decide, by decide⟩
    have hat392 : cl392.slots[((8 : Int32)).toNatClampNeg]? = some (.int y8) := Hs392.at hin392 rfl
    refine OGo.via (X391.caload hx (j := (8 : Int32)) (v := (.int y8)) (by rw [e391]; exact Ar392.1) (State.isArrayOf_alike hZ.alike Ar392.2.1) Ar392.2.2 hin392 hat392 (g := (mkF m 443 #[.val (.ref a1), .val (.int (9 : Int32))] [(.int (8 : Int32)), (.ref a1), (.int (8 : Int32)), (.ref b366), (.ref b366), (.ref b365), (.ref b365)])) rfl rfl (hb hby d2_443)) ?_
    show OGo _ _ _ _ (T391.setTop (mkF m 444 #[.val (.ref a1), .val (.int (9 : Int32))] [(.int y8), (.int (8 : Int32)), (.ref b366), (.ref b366), (.ref b365), (.ref b365)]))
    obtain ⟨cl394, Ar394, q394, Sz394, Ng394, Hs394, Gf394⟩ := id V391
    have hin394 : ¬ ((8 : Int32) < 0 ∨ cl394.slots.size ≤ ((8 : Int32)).toNatClampNeg) := inb_of Sz394 ⟨by decide, by decide⟩
    obtain ⟨T394, h394, X394, e394, W394, st394⟩ := stC X391 hx hZ e391 Ar394 (j := (8 : Int32)) hin394 (g := (mkF m 444 #[.val (.ref a1), .val (.int (9 : Int32))] [(.int y8), (.int (8 : Int32)), (.ref b366), (.ref b366), (.ref b365), (.ref b365)])) rfl rfl (hb hby d2_444)
    refine OGo.via st394 ?_
    have V394 : Arv Z h394 b366 ka366 .char (9 : Int32) [(.int (nar .char y0)), (.int (nar .char y1)), (.int (nar .char y2)), (.int (nar .char y3)), (.int (nar .char y4)), (.int (nar .char y5)), (.int (nar .char y6)), (.int (nar .char y7)), (.int (nar .char y8))] (.int (0 : Int32)) := Arv.set Ar394 q394 Sz394 Ng394 Hs394 Gf394 (fits_nar_char _) W394 8 rfl (Nat.le_of_ble_eq_true rfl)
    have K394 : Keep h0 h394 [] := K391.wr W394 (Or.inr sz_b366)
    have N394 := Fr.snoc X394 N391 g_b366
    show OGo _ _ _ _ (T394.setTop (mkF m 445 #[.val (.ref a1), .val (.int (9 : Int32))] [(.ref b366), (.ref b365), (.ref b365)]))
    have f395 : Arv Z h394 b366 ka366 .char (9 : Int32) (List.map Value.int [y0, y1, y2, y3, y4, y5, y6, y7, y8]) (.int (0 : Int32)) := (by have q := V394; rw [hy0, hy1, hy2, hy3, hy4, hy5, hy6, hy7, hy8] at q; exact q)
    have f397 := A365.ext E366
    have f398 := f397.wr W370
    have f399 := f398.wr W373
    have f400 := f399.wr W376
    have f401 := f400.wr W379
    have f402 := f401.wr W382
    have f403 := f402.wr W385
    have f404 := f403.wr W388
    have f405 := f404.wr W391
    have f406 := f405.wr W394
    have f407 := F365_value.ext E366
    have f408 := f407.other W370 (Or.inl (Nat.ne_of_lt lt_b365_b366))
    have f409 := f408.other W373 (Or.inl (Nat.ne_of_lt lt_b365_b366))
    have f410 := f409.other W376 (Or.inl (Nat.ne_of_lt lt_b365_b366))
    have f411 := f410.other W379 (Or.inl (Nat.ne_of_lt lt_b365_b366))
    have f412 := f411.other W382 (Or.inl (Nat.ne_of_lt lt_b365_b366))
    have f413 := f412.other W385 (Or.inl (Nat.ne_of_lt lt_b365_b366))
    have f414 := f413.other W388 (Or.inl (Nat.ne_of_lt lt_b365_b366))
    have f415 := f414.other W391 (Or.inl (Nat.ne_of_lt lt_b365_b366))
    have f416 := f415.other W394 (Or.inl (Nat.ne_of_lt lt_b365_b366))
    have f417 := F365_coder.ext E366
    have f418 := f417.other W370 (Or.inl (Nat.ne_of_lt lt_b365_b366))
    have f419 := f418.other W373 (Or.inl (Nat.ne_of_lt lt_b365_b366))
    have f420 := f419.other W376 (Or.inl (Nat.ne_of_lt lt_b365_b366))
    have f421 := f420.other W379 (Or.inl (Nat.ne_of_lt lt_b365_b366))
    have f422 := f421.other W382 (Or.inl (Nat.ne_of_lt lt_b365_b366))
    have f423 := f422.other W385 (Or.inl (Nat.ne_of_lt lt_b365_b366))
    have f424 := f423.other W388 (Or.inl (Nat.ne_of_lt lt_b365_b366))
    have f425 := f424.other W391 (Or.inl (Nat.ne_of_lt lt_b365_b366))
    have f426 := f425.other W394 (Or.inl (Nat.ne_of_lt lt_b365_b366))
    have f427 := own_staKeep0 S_COMPACT_STRINGS K394
    have f428 := own_staKeep0 S_SIOOBE_FORMATTER K394
    have f429 := own_staKeep0 S__assertionsDisabled K394
    have f430 := own_staKeep0 S_HI_BYTE_SHIFT K394
    have f431 := own_staKeep0 S_LO_BYTE_SHIFT K394
    have f432 := f393.other W394 (Nat.ne_of_lt lt_a1_b366)
    have f433 := Y366.wr W370
    have f434 := f433.wr W373
    have f435 := f434.wr W376
    have f436 := f435.wr W379
    have f437 := f436.wr W382
    have f438 := f437.wr W385
    have f439 := f438.wr W388
    have f440 := f439.wr W391
    have f441 := f440.wr W394
    obtain ⟨_, T396, Lc396, X396, hQ396, st396⟩ := own_open X394 (X394.specialBack hx (y := own_y35) rfl hown (mvT hZ (own_w hw 12 rfl)) (mvT hZ (own_w hw 13 rfl)) (mvT hZ (own_w hw 14 rfl)) (by decide) (backOf (W := 1) (rm3 l Z a0 hw [] b365 b366 ka366 [y0, y1, y2, y3, y4, y5, y6, y7, y8] (9 : Int32) w fm h394 n0 (Nat.le_trans Z0 K394.1) f406 f416 f426 f395 g_b365 f427 f428 f429 f430 f431 hw0 rfl (by simp) (by simp) (List.forall_mem_cons.mpr ⟨hy0, (List.forall_mem_cons.mpr ⟨hy1, (List.forall_mem_cons.mpr ⟨hy2, (List.forall_mem_cons.mpr ⟨hy3, (List.forall_mem_cons.mpr ⟨hy4, (List.forall_mem_cons.mpr ⟨hy5, (List.forall_mem_cons.mpr ⟨hy6, (List.forall_mem_cons.mpr ⟨hy7, (List.forall_mem_cons.mpr ⟨hy8, (List.forall_mem_nil _)⟩)⟩)⟩)⟩)⟩)⟩)⟩)⟩)⟩)) hZ (own_w hw 14 rfl) (own_w hw 11 rfl) (by decide) (by decide)) (g := (mkF m 445 #[.val (.ref a1), .val (.int (9 : Int32))] [(.ref b366), (.ref b365), (.ref b365)])) rfl (by rw [hml]; rfl) (Steps.refl _) (a := b365) (argsL := [(.ref b366)]) (rest := [(.ref b365)]) (lenOf pd_26 rfl) rfl (by show 2 * 0 + _ ≤ _; exact Nat.le_of_eq rfl) (hb hby d2_445) (fun _ _ => ⟨rfl, e394, (by decide : 2 + 2 ≤ _), (by decide : 13 + 30 ≤ _)⟩))
    obtain ⟨vr, kr, cr, zr, br, rfl, N396q, r396_0, r396_1, r396_2, r396_3, r396_4, r396_5, r396_6⟩ := hQ396
    have N396 := Fr.app N394 N396q
    have K396 : Keep h0 T396.heap [] := K394.trans r396_0 (allS (Or.inr sz_b365) all0)
    have lt_a1_vr : a1 < vr := Nat.lt_of_lt_of_le f432.lt r396_1
    have lt_b365_vr : b365 < vr := Nat.lt_of_lt_of_le f406.lt r396_1
    have lt_b366_vr : b366 < vr := Nat.lt_of_lt_of_le f441.lt r396_1
    have sz_vr : h0.size ≤ vr := Nat.le_trans K394.1 r396_1
    have g_vr : n0 ≤ vr := Nat.le_trans Z0 sz_vr
    refine OGo.via (fun _ k => st396.trans k) ?_
    show OGo _ _ _ _ (T396.setTop (mkF m 448 #[.val (.ref a1), .val (.int (9 : Int32))] [(.ref b365)]))
    show OGo _ _ _ _ (T396.setTop (mkF m 448 #[.val (.ref a1), .val (.int (9 : Int32))] [(.ref b365)]))
    refine own_retA X396 hx Bd.notSynchronized Bd.returns rfl rfl (hb hby d2_448) (by decide) (by decide) ?_
    show Q_rm2 Z _ _ _ _ _ _ _ _ _ _ _ _ _ _ _ h0 n0 _ T396.heap _
    exact ⟨b365, vr, kr, cr, zr, br, rfl, N396, K396, r396_2, r396_3, r396_4, r396_5, r396_6⟩
  · show OGo _ _ _ _ (s₁.setTop (mkF m 0 #[.val (.ref a1), .val (.int (10 : Int32))] []))
    refine OGo.via (fun _ k => XS.iloadN X0.here hx rfl (hb hby d2_0) rfl (XS.ifYes X0.here hx rfl (pc0 := 1) (pc' := 15) rfl (hb hby d2_1) rfl ((if0 _ _).trans (feq (by decide : ¬ ((10 : Int32) = (0 : Int32)))).2) (by decide) (by decide) (XS.iloadN X0.here hx rfl (hb hby d2_15) rfl (XS.iconst X0.here hx rfl (hb hby d2_16) (XS.icmpYes X0.here hx rfl (pc0 := 17) (pc' := 37) rfl (hb hby d2_17) rfl (feq (by decide : ¬ ((10 : Int32) = (1 : Int32)))).2 (by decide) (by decide) (XS.iloadN X0.here hx rfl (hb hby d2_37) rfl (XS.iconst X0.here hx rfl (hb hby d2_38) (XS.icmpYes X0.here hx rfl (pc0 := 39) (pc' := 65) rfl (hb hby d2_39) rfl (feq (by decide : ¬ ((10 : Int32) = (2 : Int32)))).2 (by decide) (by decide) k)))))))) ?_
    show OGo _ _ _ _ (s₁.setTop (mkF m 65 #[.val (.ref a1), .val (.int (10 : Int32))] []))
    refine OGo.via (fun _ k => XS.iloadN X0.here hx rfl (hb hby d2_65) rfl (XS.iconst X0.here hx rfl (hb hby d2_66) (XS.icmpYes X0.here hx rfl (pc0 := 67) (pc' := 99) rfl (hb hby d2_67) rfl (feq (by decide : ¬ ((10 : Int32) = (3 : Int32)))).2 (by decide) (by decide) (XS.iloadN X0.here hx rfl (hb hby d2_99) rfl (XS.iconst X0.here hx rfl (hb hby d2_100) (XS.icmpYes X0.here hx rfl (pc0 := 101) (pc' := 139) rfl (hb hby d2_101) rfl (feq (by decide : ¬ ((10 : Int32) = (4 : Int32)))).2 (by decide) (by decide) (XS.iloadN X0.here hx rfl (hb hby d2_139) rfl (XS.iconst X0.here hx rfl (hb hby d2_140) k)))))))) ?_
    show OGo _ _ _ _ (s₁.setTop (mkF m 141 #[.val (.ref a1), .val (.int (10 : Int32))] [(.int (5 : Int32)), (.int (10 : Int32))]))
    refine OGo.via (fun _ k => XS.icmpYes X0.here hx rfl (pc0 := 141) (pc' := 185) rfl (hb hby d2_141) rfl (feq (by decide : ¬ ((10 : Int32) = (5 : Int32)))).2 (by decide) (by decide) (XS.iloadN X0.here hx rfl (hb hby d2_185) rfl (XS.bipush X0.here hx rfl (hb hby d2_186) (XS.icmpYes X0.here hx rfl (pc0 := 188) (pc' := 239) rfl (hb hby d2_188) rfl (feq (by decide : ¬ ((10 : Int32) = (6 : Int32)))).2 (by decide) (by decide) (XS.iloadN X0.here hx rfl (hb hby d2_239) rfl (XS.bipush X0.here hx rfl (hb hby d2_240) (XS.icmpYes X0.here hx rfl (pc0 := 242) (pc' := 301) rfl (hb hby d2_242) rfl (feq (by decide : ¬ ((10 : Int32) = (7 : Int32)))).2 (by decide) (by decide) (XS.iloadN X0.here hx rfl (hb hby d2_301) rfl k)))))))) ?_
    show OGo _ _ _ _ (s₁.setTop (mkF m 302 #[.val (.ref a1), .val (.int (10 : Int32))] [(.int (10 : Int32))]))
    refine OGo.via (fun _ k => XS.bipush X0.here hx rfl (hb hby d2_302) (XS.icmpYes X0.here hx rfl (pc0 := 304) (pc' := 371) rfl (hb hby d2_304) rfl (feq (by decide : ¬ ((10 : Int32) = (8 : Int32)))).2 (by decide) (by decide) (XS.iloadN X0.here hx rfl (hb hby d2_371) rfl (XS.bipush X0.here hx rfl (hb hby d2_372) (XS.icmpYes X0.here hx rfl (pc0 := 374) (pc' := 449) rfl (hb hby d2_374) rfl (feq (by decide : ¬ ((10 : Int32) = (9 : Int32)))).2 (by decide) (by decide) k))))) ?_
    obtain ⟨T442, h442, X442, e442, E442, A442, D442, -, st442⟩ := newO X0 hx hZ hown (own_w hw 9 rfl) (own_w hw 10 rfl) (own_w hw 11 rfl) e0 (g := (mkF m 449 #[.val (.ref a1), .val (.int (10 : Int32))] [])) rfl (hb hby d2_449) (by decide) (by decide)
    obtain ⟨b442, g442⟩ : ∃ z, z = h0.size := ⟨_, rfl⟩
    rw [← g442] at A442 D442 st442
    refine OGo.via st442 ?_
    have K442 : Keep h0 h442 [] := (Keep.refl h0 []).ext E442
    have lt_a1_b442 : a1 < b442 := Nat.lt_of_lt_of_le V_a1.lt (Nat.le_of_eq g442.symm)
    have sz_b442 : h0.size ≤ b442 := Nat.le_trans (Keep.refl h0 []).1 (Nat.le_of_eq g442.symm)
    have g_b442 : n0 ≤ b442 := Nat.le_trans Z0 sz_b442
    have F442_value : Fld Z h442 b442 "java/lang/String" "value" "[B" .null := D442 (Or.inr (own_w hw 24 rfl)) (ty := (.array .byte)) (by decide)
    have F442_coder : Fld Z h442 b442 "java/lang/String" "coder" "B" (.int (0 : Int32)) := D442 (Or.inr (own_w hw 25 rfl)) (ty := .byte) (by decide)
    show OGo _ _ _ _ (T442.setTop (mkF m 452 #[.val (.ref a1), .val (.int (10 : Int32))] [(.ref b442)]))
    refine OGo.via (fun _ k => XS.dup X442.here hx rfl (hb hby d2_452) rfl rfl (XS.bipush X442.here hx rfl (hb hby d2_453) k)) ?_
    have f444 := V_a1.ext E442
    obtain ⟨T443, h443, ka443, X443, e443, E443, A443, Y443, st443⟩ := newPE (ad := "[C") X442 hx hZ (own_w hw 0 rfl) e442 (g := (mkF m 455 #[.val (.ref a1), .val (.int (10 : Int32))] [(.int (10 : Int32)), (.ref b442), (.ref b442)])) rfl (hb hby d2_455) rfl (by decide) (cap := 10) (by decide) (by decide) (by decide) (by decide) (by decide)
    obtain ⟨b443, g443⟩ : ∃ z, z = h442.size := ⟨_, rfl⟩
    rw [← g443] at A443 Y443 st443
    refine OGo.via st443 ?_
    have K443 : Keep h0 h443 [] := K442.ext E443
    have lt_a1_b443 : a1 < b443 := Nat.lt_of_lt_of_le f444.lt (Nat.le_of_eq g443.symm)
    have lt_b442_b443 : b442 < b443 := Nat.lt_of_lt_of_le A442.lt (Nat.le_of_eq g443.symm)
    have sz_b443 : h0.size ≤ b443 := Nat.le_trans K442.1 (Nat.le_of_eq g443.symm)
    have g_b443 : n0 ≤ b443 := Nat.le_trans Z0 sz_b443
    have V443 : Arv Z h443 b443 ka443 .char (10 : Int32) [(.int (0 : Int32)), (.int (0 : Int32)), (.int (0 : Int32)), (.int (0 : Int32)), (.int (0 : Int32)), (.int (0 : Int32)), (.int (0 : Int32)), (.int (0 : Int32)), (.int (0 : Int32)), (.int (0 : Int32))] (.int (0 : Int32)) := (Arv.new A443 (by decide)).pad (pad_rep [] (.int (0 : Int32)) 10)
    show OGo _ _ _ _ (T443.setTop (mkF m 457 #[.val (.ref a1), .val (.int (10 : Int32))] [(.ref b443), (.ref b442), (.ref b442)]))
    refine OGo.via (fun _ k => XS.dup X443.here hx rfl (hb hby d2_457) rfl rfl (XS.iconst X443.here hx rfl (hb hby d2_458) (XS.aloadN X443.here hx rfl (hb hby d2_459) rfl rfl (XS.iconst X443.here hx rfl (hb hby d2_460) k)))) ?_
    have f446 := f444.ext E443
    obtain ⟨cl445, Ar445, q445, Sz445, Ng445, Hs445, Gf445⟩ := id f446
    have hin445 : ¬ ((0 : Int32) < 0 ∨ cl445.slots.size ≤ ((0 : Int32)).toNatClampNeg) := inb_of Sz445 ⟨by decide, by decide⟩
    have hat445 : cl445.slots[((0 : Int32)).toNatClampNeg]? = some (.int y0) := Hs445.at hin445 rfl
    refine OGo.via (X443.caload hx (j := (0 : Int32)) (v := (.int y0)) (by rw [e443]; exact Ar445.1) (State.isArrayOf_alike hZ.alike Ar445.2.1) Ar445.2.2 hin445 hat445 (g := (mkF m 461 #[.val (.ref a1), .val (.int (10 : Int32))] [(.int (0 : Int32)), (.ref a1), (.int (0 : Int32)), (.ref b443), (.ref b443), (.ref b442), (.ref b442)])) rfl rfl (hb hby d2_461)) ?_
    show OGo _ _ _ _ (T443.setTop (mkF m 462 #[.val (.ref a1), .val (.int (10 : Int32))] [(.int y0), (.int (0 : Int32)), (.ref b443), (.ref b443), (.ref b442), (.ref b442)]))
    obtain ⟨cl447, Ar447, q447, Sz447, Ng447, Hs447, Gf447⟩ := id V443
    have hin447 : ¬ ((0 : Int32) < 0 ∨ cl447.slots.size ≤ ((0 : Int32)).toNatClampNeg) := inb_of Sz447 ⟨by decide, by decide⟩
    obtain ⟨T447, h447, X447, e447, W447, st447⟩ := stC X443 hx hZ e443 Ar447 (j := (0 : Int32)) hin447 (g := (mkF m 462 #[.val (.ref a1), .val (.int (10 : Int32))] [(.int y0), (.int (0 : Int32)), (.ref b443), (.ref b443), (.ref b442), (.ref b442)])) rfl rfl (hb hby d2_462)
    refine OGo.via st447 ?_
    have V447 : Arv Z h447 b443 ka443 .char (10 : Int32) [(.int (nar .char y0)), (.int (0 : Int32)), (.int (0 : Int32)), (.int (0 : Int32)), (.int (0 : Int32)), (.int (0 : Int32)), (.int (0 : Int32)), (.int (0 : Int32)), (.int (0 : Int32)), (.int (0 : Int32))] (.int (0 : Int32)) := Arv.set Ar447 q447 Sz447 Ng447 Hs447 Gf447 (fits_nar_char _) W447 0 rfl (Nat.le_of_ble_eq_true rfl)
    have K447 : Keep h0 h447 [] := K443.wr W447 (Or.inr sz_b443)
    have N447 := Fr.snoc X447 N0 g_b443
    show OGo _ _ _ _ (T447.setTop (mkF m 463 #[.val (.ref a1), .val (.int (10 : Int32))] [(.ref b443), (.ref b442), (.ref b442)]))
    refine OGo.via (fun _ k => XS.dup X447.here hx rfl (hb hby d2_463) rfl rfl (XS.iconst X447.here hx rfl (hb hby d2_464) (XS.aloadN X447.here hx rfl (hb hby d2_465) rfl rfl (XS.iconst X447.here hx rfl (hb hby d2_466) k)))) ?_
    have f449 := f446.other W447 (Nat.ne_of_lt lt_a1_b443)
    obtain ⟨cl448, Ar448, q448, Sz448, Ng448, Hs448, Gf448⟩ := id f449
    have hin448 : ¬ ((1 : Int32) < 0 ∨ cl448.slots.size ≤ ((1 : Int32)).toNatClampNeg) := inb_of Sz448 ⟨by decide, by decide⟩
    have hat448 : cl448.slots[((1 : Int32)).toNatClampNeg]? = some (.int y1) := Hs448.at hin448 rfl
    refine OGo.via (X447.caload hx (j := (1 : Int32)) (v := (.int y1)) (by rw [e447]; exact Ar448.1) (State.isArrayOf_alike hZ.alike Ar448.2.1) Ar448.2.2 hin448 hat448 (g := (mkF m 467 #[.val (.ref a1), .val (.int (10 : Int32))] [(.int (1 : Int32)), (.ref a1), (.int (1 : Int32)), (.ref b443), (.ref b443), (.ref b442), (.ref b442)])) rfl rfl (hb hby d2_467)) ?_
    show OGo _ _ _ _ (T447.setTop (mkF m 468 #[.val (.ref a1), .val (.int (10 : Int32))] [(.int y1), (.int (1 : Int32)), (.ref b443), (.ref b443), (.ref b442), (.ref b442)]))
    obtain ⟨cl450, Ar450, q450, Sz450, Ng450, Hs450, Gf450⟩ := id V447
    have hin450 : ¬ ((1 : Int32) < 0 ∨ cl450.slots.size ≤ ((1 : Int32)).toNatClampNeg) := inb_of Sz450 ⟨by decide, by decide⟩
    obtain ⟨T450, h450, X450, e450, W450, st450⟩ := stC X447 hx hZ e447 Ar450 (j := (1 : Int32)) hin450 (g := (mkF m 468 #[.val (.ref a1), .val (.int (10 : Int32))] [(.int y1), (.int (1 : Int32)), (.ref b443), (.ref b443), (.ref b442), (.ref b442)])) rfl rfl (hb hby d2_468)
    refine OGo.via st450 ?_
    have V450 : Arv Z h450 b443 ka443 .char (10 : Int32) [(.int (nar .char y0)), (.int (nar .char y1)), (.int (0 : Int32)), (.int (0 : Int32)), (.int (0 : Int32)), (.int (0 : Int32)), (.int (0 : Int32)), (.int (0 : Int32)), (.int (0 : Int32)), (.int (0 : Int32))] (.int (0 : Int32)) := Arv.set Ar450 q450 Sz450 Ng450 Hs450 Gf450 (fits_nar_char _) W450 1 rfl (Nat.le_of_ble_eq_true rfl)
    have K450 : Keep h0 h450 [] := K447.wr W450 (Or.inr sz_b443)
    have N450 := Fr.snoc X450 N447 g_b443
    show OGo _ _ _ _ (T450.setTop (mkF m 469 #[.val (.ref a1), .val (.int (10 : Int32))] [(.ref b443), (.ref b442), (.ref b442)]))
    refine OGo.via (fun _ k => XS.dup X450.here hx rfl (hb hby d2_469) rfl rfl (XS.iconst X450.here hx rfl (hb hby d2_470) (XS.aloadN X450.here hx rfl (hb hby d2_471) rfl rfl (XS.iconst X450.here hx rfl (hb hby d2_472) k)))) ?_
    have f452 := f449.other W450 (Nat.ne_of_lt lt_a1_b443)
    obtain ⟨cl451, Ar451, q451, Sz451, Ng451, Hs451, Gf451⟩ := id f452
    have hin451 : ¬ ((2 : Int32) < 0 ∨ cl451.slots.size ≤ ((2 : Int32)).toNatClampNeg) := inb_of Sz451 ⟨by decide, by decide⟩
    have hat451 : cl451.slots[((2 : Int32)).toNatClampNeg]? = some (.int y2) := Hs451.at hin451 rfl
    refine OGo.via (X450.caload hx (j := (2 : Int32)) (v := (.int y2)) (by rw [e450]; exact Ar451.1) (State.isArrayOf_alike hZ.alike Ar451.2.1) Ar451.2.2 hin451 hat451 (g := (mkF m 473 #[.val (.ref a1), .val (.int (10 : Int32))] [(.int (2 : Int32)), (.ref a1), (.int (2 : Int32)), (.ref b443), (.ref b443), (.ref b442), (.ref b442)])) rfl rfl (hb hby d2_473)) ?_
    show OGo _ _ _ _ (T450.setTop (mkF m 474 #[.val (.ref a1), .val (.int (10 : Int32))] [(.int y2), (.int (2 : Int32)), (.ref b443), (.ref b443), (.ref b442), (.ref b442)]))
    obtain ⟨cl453, Ar453, q453, Sz453, Ng453, Hs453, Gf453⟩ := id V450
    have hin453 : ¬ ((2 : Int32) < 0 ∨ cl453.slots.size ≤ ((2 : Int32)).toNatClampNeg) := inb_of Sz453 ⟨by decide, by decide⟩
    obtain ⟨T453, h453, X453, e453, W453, st453⟩ := stC X450 hx hZ e450 Ar453 (j := (2 : Int32)) hin453 (g := (mkF m 474 #[.val (.ref a1), .val (.int (10 : Int32))] [(.int y2), (.int (2 : Int32)), (.ref b443), (.ref b443), (.ref b442), (.ref b442)])) rfl rfl (hb hby d2_474)
    refine OGo.via st453 ?_
    have V453 : Arv Z h453 b443 ka443 .char (10 : Int32) [(.int (nar .char y0)), (.int (nar .char y1)), (.int (nar .char y2)), (.int (0 : Int32)), (.int (0 : Int32)), (.int (0 : Int32)), (.int (0 : Int32)), (.int (0 : Int32)), (.int (0 : Int32)), (.int (0 : Int32))] (.int (0 : Int32)) := Arv.set Ar453 q453 Sz453 Ng453 Hs453 Gf453 (fits_nar_char _) W453 2 rfl (Nat.le_of_ble_eq_true rfl)
    have K453 : Keep h0 h453 [] := K450.wr W453 (Or.inr sz_b443)
    have N453 := Fr.snoc X453 N450 g_b443
    show OGo _ _ _ _ (T453.setTop (mkF m 475 #[.val (.ref a1), .val (.int (10 : Int32))] [(.ref b443), (.ref b442), (.ref b442)]))
    refine OGo.via (fun _ k => XS.dup X453.here hx rfl (hb hby d2_475) rfl rfl (XS.iconst X453.here hx rfl (hb hby d2_476) (XS.aloadN X453.here hx rfl (hb hby d2_477) rfl rfl (XS.iconst X453.here hx rfl (hb hby d2_478) k)))) ?_
    have f455 := f452.other W453 (Nat.ne_of_lt lt_a1_b443)
    obtain ⟨cl454, Ar454, q454, Sz454, Ng454, Hs454, Gf454⟩ := id f455
    have hin454 : ¬ ((3 : Int32) < 0 ∨ cl454.slots.size ≤ ((3 : Int32)).toNatClampNeg) := inb_of Sz454 ⟨by decide, by decide⟩
    have hat454 : cl454.slots[((3 : Int32)).toNatClampNeg]? = some (.int y3) := Hs454.at hin454 rfl
    refine OGo.via (X453.caload hx (j := (3 : Int32)) (v := (.int y3)) (by rw [e453]; exact Ar454.1) (State.isArrayOf_alike hZ.alike Ar454.2.1) Ar454.2.2 hin454 hat454 (g := (mkF m 479 #[.val (.ref a1), .val (.int (10 : Int32))] [(.int (3 : Int32)), (.ref a1), (.int (3 : Int32)), (.ref b443), (.ref b443), (.ref b442), (.ref b442)])) rfl rfl (hb hby d2_479)) ?_
    show OGo _ _ _ _ (T453.setTop (mkF m 480 #[.val (.ref a1), .val (.int (10 : Int32))] [(.int y3), (.int (3 : Int32)), (.ref b443), (.ref b443), (.ref b442), (.ref b442)]))
    obtain ⟨cl456, Ar456, q456, Sz456, Ng456, Hs456, Gf456⟩ := id V453
    have hin456 : ¬ ((3 : Int32) < 0 ∨ cl456.slots.size ≤ ((3 : Int32)).toNatClampNeg) := inb_of Sz456 ⟨by decide, by decide⟩
    obtain ⟨T456, h456, X456, e456, W456, st456⟩ := stC X453 hx hZ e453 Ar456 (j := (3 : Int32)) hin456 (g := (mkF m 480 #[.val (.ref a1), .val (.int (10 : Int32))] [(.int y3), (.int (3 : Int32)), (.ref b443), (.ref b443), (.ref b442), (.ref b442)])) rfl rfl (hb hby d2_480)
    refine OGo.via st456 ?_
    have V456 : Arv Z h456 b443 ka443 .char (10 : Int32) [(.int (nar .char y0)), (.int (nar .char y1)), (.int (nar .char y2)), (.int (nar .char y3)), (.int (0 : Int32)), (.int (0 : Int32)), (.int (0 : Int32)), (.int (0 : Int32)), (.int (0 : Int32)), (.int (0 : Int32))] (.int (0 : Int32)) := Arv.set Ar456 q456 Sz456 Ng456 Hs456 Gf456 (fits_nar_char _) W456 3 rfl (Nat.le_of_ble_eq_true rfl)
    have K456 : Keep h0 h456 [] := K453.wr W456 (Or.inr sz_b443)
    have N456 := Fr.snoc X456 N453 g_b443
    show OGo _ _ _ _ (T456.setTop (mkF m 481 #[.val (.ref a1), .val (.int (10 : Int32))] [(.ref b443), (.ref b442), (.ref b442)]))
    refine OGo.via (fun _ k => XS.dup X456.here hx rfl (hb hby d2_481) rfl rfl (XS.iconst X456.here hx rfl (hb hby d2_482) (XS.aloadN X456.here hx rfl (hb hby d2_483) rfl rfl (XS.iconst X456.here hx rfl (hb hby d2_484) k)))) ?_
    have f458 := f455.other W456 (Nat.ne_of_lt lt_a1_b443)
    obtain ⟨cl457, Ar457, q457, Sz457, Ng457, Hs457, Gf457⟩ := id f458
    have hin457 : ¬ ((4 : Int32) < 0 ∨ cl457.slots.size ≤ ((4 : Int32)).toNatClampNeg) := inb_of Sz457 ⟨by decide, by decide⟩
    have hat457 : cl457.slots[((4 : Int32)).toNatClampNeg]? = some (.int y4) := Hs457.at hin457 rfl
    refine OGo.via (X456.caload hx (j := (4 : Int32)) (v := (.int y4)) (by rw [e456]; exact Ar457.1) (State.isArrayOf_alike hZ.alike Ar457.2.1) Ar457.2.2 hin457 hat457 (g := (mkF m 485 #[.val (.ref a1), .val (.int (10 : Int32))] [(.int (4 : Int32)), (.ref a1), (.int (4 : Int32)), (.ref b443), (.ref b443), (.ref b442), (.ref b442)])) rfl rfl (hb hby d2_485)) ?_
    show OGo _ _ _ _ (T456.setTop (mkF m 486 #[.val (.ref a1), .val (.int (10 : Int32))] [(.int y4), (.int (4 : Int32)), (.ref b443), (.ref b443), (.ref b442), (.ref b442)]))
    obtain ⟨cl459, Ar459, q459, Sz459, Ng459, Hs459, Gf459⟩ := id V456
    have hin459 : ¬ ((4 : Int32) < 0 ∨ cl459.slots.size ≤ ((4 : Int32)).toNatClampNeg) := inb_of Sz459 ⟨by decide, by decide⟩
    obtain ⟨T459, h459, X459, e459, W459, st459⟩ := stC X456 hx hZ e456 Ar459 (j := (4 : Int32)) hin459 (g := (mkF m 486 #[.val (.ref a1), .val (.int (10 : Int32))] [(.int y4), (.int (4 : Int32)), (.ref b443), (.ref b443), (.ref b442), (.ref b442)])) rfl rfl (hb hby d2_486)
    refine OGo.via st459 ?_
    have V459 : Arv Z h459 b443 ka443 .char (10 : Int32) [(.int (nar .char y0)), (.int (nar .char y1)), (.int (nar .char y2)), (.int (nar .char y3)), (.int (nar .char y4)), (.int (0 : Int32)), (.int (0 : Int32)), (.int (0 : Int32)), (.int (0 : Int32)), (.int (0 : Int32))] (.int (0 : Int32)) := Arv.set Ar459 q459 Sz459 Ng459 Hs459 Gf459 (fits_nar_char _) W459 4 rfl (Nat.le_of_ble_eq_true rfl)
    have K459 : Keep h0 h459 [] := K456.wr W459 (Or.inr sz_b443)
    have N459 := Fr.snoc X459 N456 g_b443
    show OGo _ _ _ _ (T459.setTop (mkF m 487 #[.val (.ref a1), .val (.int (10 : Int32))] [(.ref b443), (.ref b442), (.ref b442)]))
    refine OGo.via (fun _ k => XS.dup X459.here hx rfl (hb hby d2_487) rfl rfl (XS.iconst X459.here hx rfl (hb hby d2_488) (XS.aloadN X459.here hx rfl (hb hby d2_489) rfl rfl (XS.iconst X459.here hx rfl (hb hby d2_490) k)))) ?_
    have f461 := f458.other W459 (Nat.ne_of_lt lt_a1_b443)
    obtain ⟨cl460, Ar460, q460, Sz460, Ng460, Hs460, Gf460⟩ := id f461
    have hin460 : ¬ ((5 : Int32) < 0 ∨ cl460.slots.size ≤ ((5 : Int32)).toNatClampNeg) := inb_of Sz460 ⟨by decide, by decide⟩
    have hat460 : cl460.slots[((5 : Int32)).toNatClampNeg]? = some (.int y5) := Hs460.at hin460 rfl
    refine OGo.via (X459.caload hx (j := (5 : Int32)) (v := (.int y5)) (by rw [e459]; exact Ar460.1) (State.isArrayOf_alike hZ.alike Ar460.2.1) Ar460.2.2 hin460 hat460 (g := (mkF m 491 #[.val (.ref a1), .val (.int (10 : Int32))] [(.int (5 : Int32)), (.ref a1), (.int (5 : Int32)), (.ref b443), (.ref b443), (.ref b442), (.ref b442)])) rfl rfl (hb hby d2_491)) ?_
    show OGo _ _ _ _ (T459.setTop (mkF m 492 #[.val (.ref a1), .val (.int (10 : Int32))] [(.int y5), (.int (5 : Int32)), (.ref b443), (.ref b443), (.ref b442), (.ref b442)]))
    obtain ⟨cl462, Ar462, q462, Sz462, Ng462, Hs462, Gf462⟩ := id V459
    have hin462 : ¬ ((5 : Int32) < 0 ∨ cl462.slots.size ≤ ((5 : Int32)).toNatClampNeg) := inb_of Sz462 ⟨by decide, by decide⟩
    obtain ⟨T462, h462, X462, e462, W462, st462⟩ := stC X459 hx hZ e459 Ar462 (j := (5 : Int32)) hin462 (g := (mkF m 492 #[.val (.ref a1), .val (.int (10 : Int32))] [(.int y5), (.int (5 : Int32)), (.ref b443), (.ref b443), (.ref b442), (.ref b442)])) rfl rfl (hb hby d2_492)
    refine OGo.via st462 ?_
    have V462 : Arv Z h462 b443 ka443 .char (10 : Int32) [(.int (nar .char y0)), (.int (nar .char y1)), (.int (nar .char y2)), (.int (nar .char y3)), (.int (nar .char y4)), (.int (nar .char y5)), (.int (0 : Int32)), (.int (0 : Int32)), (.int (0 : Int32)), (.int (0 : Int32))] (.int (0 : Int32)) := Arv.set Ar462 q462 Sz462 Ng462 Hs462 Gf462 (fits_nar_char _) W462 5 rfl (Nat.le_of_ble_eq_true rfl)
    have K462 : Keep h0 h462 [] := K459.wr W462 (Or.inr sz_b443)
    have N462 := Fr.snoc X462 N459 g_b443
    show OGo _ _ _ _ (T462.setTop (mkF m 493 #[.val (.ref a1), .val (.int (10 : Int32))] [(.ref b443), (.ref b442), (.ref b442)]))
    refine OGo.via (fun _ k => XS.dup X462.here hx rfl (hb hby d2_493) rfl rfl (XS.bipush X462.here hx rfl (hb hby d2_494) (XS.aloadN X462.here hx rfl (hb hby d2_496) rfl rfl (XS.bipush X462.here hx rfl (hb hby d2_497) k)))) ?_
    have f464 := f461.other W462 (Nat.ne_of_lt lt_a1_b443)
    obtain ⟨cl463, Ar463, q463, Sz463, Ng463, Hs463, Gf463⟩ := id f464
    have hin463 : ¬ ((6 : Int32) < 0 ∨ cl463.slots.size ≤ ((6 : Int32)).toNatClampNeg) := inb_of Sz463 ⟨by decide, by decide⟩
    have hat463 : cl463.slots[((6 : Int32)).toNatClampNeg]? = some (.int y6) := Hs463.at hin463 rfl
    refine OGo.via (X462.caload hx (j := (6 : Int32)) (v := (.int y6)) (by rw [e462]; exact Ar463.1) (State.isArrayOf_alike hZ.alike Ar463.2.1) Ar463.2.2 hin463 hat463 (g := (mkF m 499 #[.val (.ref a1), .val (.int (10 : Int32))] [(.int (6 : Int32)), (.ref a1), (.int (6 : Int32)), (.ref b443), (.ref b443), (.ref b442), (.ref b442)])) rfl rfl (hb hby d2_499)) ?_
    show OGo _ _ _ _ (T462.setTop (mkF m 500 #[.val (.ref a1), .val (.int (10 : Int32))] [(.int y6), (.int (6 : Int32)), (.ref b443), (.ref b443), (.ref b442), (.ref b442)]))
    obtain ⟨cl465, Ar465, q465, Sz465, Ng465, Hs465, Gf465⟩ := id V462
    have hin465 : ¬ ((6 : Int32) < 0 ∨ cl465.slots.size ≤ ((6 : Int32)).toNatClampNeg) := inb_of Sz465 ⟨by decide, by decide⟩
    obtain ⟨T465, h465, X465, e465, W465, st465⟩ := stC X462 hx hZ e462 Ar465 (j := (6 : Int32)) hin465 (g := (mkF m 500 #[.val (.ref a1), .val (.int (10 : Int32))] [(.int y6), (.int (6 : Int32)), (.ref b443), (.ref b443), (.ref b442), (.ref b442)])) rfl rfl (hb hby d2_500)
    refine OGo.via st465 ?_
    have V465 : Arv Z h465 b443 ka443 .char (10 : Int32) [(.int (nar .char y0)), (.int (nar .char y1)), (.int (nar .char y2)), (.int (nar .char y3)), (.int (nar .char y4)), (.int (nar .char y5)), (.int (nar .char y6)), (.int (0 : Int32)), (.int (0 : Int32)), (.int (0 : Int32))] (.int (0 : Int32)) := Arv.set Ar465 q465 Sz465 Ng465 Hs465 Gf465 (fits_nar_char _) W465 6 rfl (Nat.le_of_ble_eq_true rfl)
    have K465 : Keep h0 h465 [] := K462.wr W465 (Or.inr sz_b443)
    have N465 := Fr.snoc X465 N462 g_b443
    show OGo _ _ _ _ (T465.setTop (mkF m 501 #[.val (.ref a1), .val (.int (10 : Int32))] [(.ref b443), (.ref b442), (.ref b442)]))
    refine OGo.via (fun _ k => XS.dup X465.here hx rfl (hb hby d2_501) rfl rfl (XS.bipush X465.here hx rfl (hb hby d2_502) (XS.aloadN X465.here hx rfl (hb hby d2_504) rfl rfl (XS.bipush X465.here hx rfl (hb hby d2_505) k)))) ?_
    have f467 := f464.other W465 (Nat.ne_of_lt lt_a1_b443)
    obtain ⟨cl466, Ar466, q466, Sz466, Ng466, Hs466, Gf466⟩ := id f467
    have hin466 : ¬ ((7 : Int32) < 0 ∨ cl466.slots.size ≤ ((7 : Int32)).toNatClampNeg) := inb_of Sz466 ⟨by decide, by decide⟩
    have hat466 : cl466.slots[((7 : Int32)).toNatClampNeg]? = some (.int y7) := Hs466.at hin466 rfl
    refine OGo.via (X465.caload hx (j := (7 : Int32)) (v := (.int y7)) (by rw [e465]; exact Ar466.1) (State.isArrayOf_alike hZ.alike Ar466.2.1) Ar466.2.2 hin466 hat466 (g := (mkF m 507 #[.val (.ref a1), .val (.int (10 : Int32))] [(.int (7 : Int32)), (.ref a1), (.int (7 : Int32)), (.ref b443), (.ref b443), (.ref b442), (.ref b442)])) rfl rfl (hb hby d2_507)) ?_
    show OGo _ _ _ _ (T465.setTop (mkF m 508 #[.val (.ref a1), .val (.int (10 : Int32))] [(.int y7), (.int (7 : Int32)), (.ref b443), (.ref b443), (.ref b442), (.ref b442)]))
    obtain ⟨cl468, Ar468, q468, Sz468, Ng468, Hs468, Gf468⟩ := id V465
    have hin468 : ¬ ((7 : Int32) < 0 ∨ cl468.slots.size ≤ ((7 : Int32)).toNatClampNeg) := inb_of Sz468 ⟨by decide, by decide⟩
    obtain ⟨T468, h468, X468, e468, W468, st468⟩ := stC X465 hx hZ e465 Ar468 (j := (7 : Int32)) hin468 (g := (mkF m 508 #[.val (.ref a1), .val (.int (10 : Int32))] [(.int y7), (.int (7 : Int32)), (.ref b443), (.ref b443), (.ref b442), (.ref b442)])) rfl rfl (hb hby d2_508)
    refine OGo.via st468 ?_
    have V468 : Arv Z h468 b443 ka443 .char (10 : Int32) [(.int (nar .char y0)), (.int (nar .char y1)), (.int (nar .char y2)), (.int (nar .char y3)), (.int (nar .char y4)), (.int (nar .char y5)), (.int (nar .char y6)), (.int (nar .char y7)), (.int (0 : Int32)), (.int (0 : Int32))] (.int (0 : Int32)) := Arv.set Ar468 q468 Sz468 Ng468 Hs468 Gf468 (fits_nar_char _) W468 7 rfl (Nat.le_of_ble_eq_true rfl)
    have K468 : Keep h0 h468 [] := K465.wr W468 (Or.inr sz_b443)
    have N468 := Fr.snoc X468 N465 g_b443
    show OGo _ _ _ _ (T468.setTop (mkF m 509 #[.val (.ref a1), .val (.int (10 : Int32))] [(.ref b443), (.ref b442), (.ref b442)]))
    refine OGo.via (fun _ k => XS.dup X468.here hx rfl (hb hby d2_509) rfl rfl (XS.bipush X468.here hx rfl (hb hby d2_510) (XS.aloadN X468.here hx rfl (hb hby d2_512) rfl rfl (XS.bipush X468.here hx rfl (hb hby d2_513) k)))) ?_
    have f470 := f467.other W468 (Nat.ne_of_lt lt_a1_b443)
    obtain ⟨cl469, Ar469, q469, Sz469, Ng469, Hs469, Gf469⟩ := id f470
    have hin469 : ¬ ((8 : Int32) < 0 ∨ cl469.slots.size ≤ ((8 : Int32)).toNatClampNeg) := inb_of Sz469 ⟨by decide, by decide⟩
    have hat469 : cl469.slots[((8 : Int32)).toNatClampNeg]? = some (.int y8) := Hs469.at hin469 rfl
    refine OGo.via (X468.caload hx (j := (8 : Int32)) (v := (.int y8)) (by rw [e468]; exact Ar469.1) (State.isArrayOf_alike hZ.alike Ar469.2.1) Ar469.2.2 hin469 hat469 (g := (mkF m 515 #[.val (.ref a1), .val (.int (10 : Int32))] [(.int (8 : Int32)), (.ref a1), (.int (8 : Int32)), (.ref b443), (.ref b443), (.ref b442), (.ref b442)])) rfl rfl (hb hby d2_515)) ?_
    show OGo _ _ _ _ (T468.setTop (mkF m 516 #[.val (.ref a1), .val (.int (10 : Int32))] [(.int y8), (.int (8 : Int32)), (.ref b443), (.ref b443), (.ref b442), (.ref b442)]))
    obtain ⟨cl471, Ar471, q471, Sz471, Ng471, Hs471, Gf471⟩ := id V468
    have hin471 : ¬ ((8 : Int32) < 0 ∨ cl471.slots.size ≤ ((8 : Int32)).toNatClampNeg) := inb_of Sz471 ⟨by decide, by decide⟩
    obtain ⟨T471, h471, X471, e471, W471, st471⟩ := stC X468 hx hZ e468 Ar471 (j := (8 : Int32)) hin471 (g := (mkF m 516 #[.val (.ref a1), .val (.int (10 : Int32))] [(.int y8), (.int (8 : Int32)), (.ref b443), (.ref b443), (.ref b442), (.ref b442)])) rfl rfl (hb hby d2_516)
    refine OGo.via st471 ?_
    have V471 : Arv Z h471 b443 ka443 .char (10 : Int32) [(.int (nar .char y0)), (.int (nar .char y1)), (.int (nar .char y2)), (.int (nar .char y3)), (.int (nar .char y4)), (.int (nar .char y5)), (.int (nar .char y6)), (.int (nar .char y7)), (.int (nar .char y8)), (.int (0 : Int32))] (.int (0 : Int32)) := Arv.set Ar471 q471 Sz471 Ng471 Hs471 Gf471 (fits_nar_char _) W471 8 rfl (Nat.le_of_ble_eq_true rfl)
    have K471 : Keep h0 h471 [] := K468.wr W471 (Or.inr sz_b443)
    have N471 := Fr.snoc X471 N468 g_b443
    show OGo _ _ _ _ (T471.setTop (mkF m 517 #[.val (.ref a1), .val (.int (10 : Int32))] [(.ref b443), (.ref b442), (.ref b442)]))
    refine OGo.via (fun _ k => XS.dup X471.here hx rfl (hb hby d2_517) rfl rfl (XS.bipush X471.here hx rfl (hb hby d2_518) (XS.aloadN X471.here hx rfl (hb hby d2_520) rfl rfl (XS.bipush X471.here hx rfl (hb hby d2_521) k)))) ?_
    have f473 := f470.other W471 (Nat.ne_of_lt lt_a1_b443)
    obtain ⟨cl472, Ar472, q472, Sz472, Ng472, Hs472, Gf472⟩ := id f473
    have hin472 : ¬ ((9 : Int32) < 0 ∨ cl472.slots.size ≤ ((9 : Int32)).toNatClampNeg) := inb_of Sz472 ⟨by decide, by decide⟩
    have hat472 : cl472.slots[((9 : Int32)).toNatClampNeg]? = some (.int y9) := Hs472.at hin472 rfl
    refine OGo.via (X471.caload hx (j := (9 : Int32)) (v := (.int y9)) (by rw [e471]; exact Ar472.1) (State.isArrayOf_alike hZ.alike Ar472.2.1) Ar472.2.2 hin472 hat472 (g := (mkF m 523 #[.val (.ref a1), .val (.int (10 : Int32))] [(.int (9 : Int32)), (.ref a1), (.int (9 : Int32)), (.ref b443), (.ref b443), (.ref b442), (.ref b442)])) rfl rfl (hb hby d2_523)) ?_
    show OGo _ _ _ _ (T471.setTop (mkF m 524 #[.val (.ref a1), .val (.int (10 : Int32))] [(.int y9), (.int (9 : Int32)), (.ref b443), (.ref b443), (.ref b442), (.ref b442)]))
    obtain ⟨cl474, Ar474, q474, Sz474, Ng474, Hs474, Gf474⟩ := id V471
    have hin474 : ¬ ((9 : Int32) < 0 ∨ cl474.slots.size ≤ ((9 : Int32)).toNatClampNeg) := inb_of Sz474 ⟨by decide, by decide⟩
    obtain ⟨T474, h474, X474, e474, W474, st474⟩ := stC X471 hx hZ e471 Ar474 (j := (9 : Int32)) hin474 (g := (mkF m 524 #[.val (.ref a1), .val (.int (10 : Int32))] [(.int y9), (.int (9 : Int32)), (.ref b443), (.ref b443), (.ref b442), (.ref b442)])) rfl rfl (hb hby d2_524)
    refine OGo.via st474 ?_
    have V474 : Arv Z h474 b443 ka443 .char (10 : Int32) [(.int (nar .char y0)), (.int (nar .char y1)), (.int (nar .char y2)), (.int (nar .char y3)), (.int (nar .char y4)), (.int (nar .char y5)), (.int (nar .char y6)), (.int (nar .char y7)), (.int (nar .char y8)), (.int (nar .char y9))] (.int (0 : Int32)) := Arv.set Ar474 q474 Sz474 Ng474 Hs474 Gf474 (fits_nar_char _) W474 9 rfl (Nat.le_of_ble_eq_true rfl)
    have K474 : Keep h0 h474 [] := K471.wr W474 (Or.inr sz_b443)
    have N474 := Fr.snoc X474 N471 g_b443
    show OGo _ _ _ _ (T474.setTop (mkF m 525 #[.val (.ref a1), .val (.int (10 : Int32))] [(.ref b443), (.ref b442), (.ref b442)]))
    have f475 : Arv Z h474 b443 ka443 .char (10 : Int32) (List.map Value.int [y0, y1, y2, y3, y4, y5, y6, y7, y8, y9]) (.int (0 : Int32)) := (by have q := V474; rw [hy0, hy1, hy2, hy3, hy4, hy5, hy6, hy7, hy8, hy9] at q; exact q)
    have f477 := A442.ext E443
    have f478 := f477.wr W447
    have f479 := f478.wr W450
    have f480 := f479.wr W453
    have f481 := f480.wr W456
    have f482 := f481.wr W459
    have f483 := f482.wr W462
    have f484 := f483.wr W465
    have f485 := f484.wr W468
    have f486 := f485.wr W471
    have f487 := f486.wr W474
    have f488 := F442_value.ext E443
    have f489 := f488.other W447 (Or.inl (Nat.ne_of_lt lt_b442_b443))
    have f490 := f489.other W450 (Or.inl (Nat.ne_of_lt lt_b442_b443))
    have f491 := f490.other W453 (Or.inl (Nat.ne_of_lt lt_b442_b443))
    have f492 := f491.other W456 (Or.inl (Nat.ne_of_lt lt_b442_b443))
    have f493 := f492.other W459 (Or.inl (Nat.ne_of_lt lt_b442_b443))
    have f494 := f493.other W462 (Or.inl (Nat.ne_of_lt lt_b442_b443))
    have f495 := f494.other W465 (Or.inl (Nat.ne_of_lt lt_b442_b443))
    have f496 := f495.other W468 (Or.inl (Nat.ne_of_lt lt_b442_b443))
    have f497 := f496.other W471 (Or.inl (Nat.ne_of_lt lt_b442_b443))
    have f498 := f497.other W474 (Or.inl (Nat.ne_of_lt lt_b442_b443))
    have f499 := F442_coder.ext E443
    have f500 := f499.other W447 (Or.inl (Nat.ne_of_lt lt_b442_b443))
    have f501 := f500.other W450 (Or.inl (Nat.ne_of_lt lt_b442_b443))
    have f502 := f501.other W453 (Or.inl (Nat.ne_of_lt lt_b442_b443))
    have f503 := f502.other W456 (Or.inl (Nat.ne_of_lt lt_b442_b443))
    have f504 := f503.other W459 (Or.inl (Nat.ne_of_lt lt_b442_b443))
    have f505 := f504.other W462 (Or.inl (Nat.ne_of_lt lt_b442_b443))
    have f506 := f505.other W465 (Or.inl (Nat.ne_of_lt lt_b442_b443))
    have f507 := f506.other W468 (Or.inl (Nat.ne_of_lt lt_b442_b443))
    have f508 := f507.other W471 (Or.inl (Nat.ne_of_lt lt_b442_b443))
    have f509 := f508.other W474 (Or.inl (Nat.ne_of_lt lt_b442_b443))
    have f510 := own_staKeep0 S_COMPACT_STRINGS K474
    have f511 := own_staKeep0 S_SIOOBE_FORMATTER K474
    have f512 := own_staKeep0 S__assertionsDisabled K474
    have f513 := own_staKeep0 S_HI_BYTE_SHIFT K474
    have f514 := own_staKeep0 S_LO_BYTE_SHIFT K474
    have f515 := f473.other W474 (Nat.ne_of_lt lt_a1_b443)
    have f516 := Y443.wr W447
    have f517 := f516.wr W450
    have f518 := f517.wr W453
    have f519 := f518.wr W456
    have f520 := f519.wr W459
    have f521 := f520.wr W462
    have f522 := f521.wr W465
    have f523 := f522.wr W468
    have f524 := f523.wr W471
    have f525 := f524.wr W474
    obtain ⟨_, T476, Lc476, X476, hQ476, st476⟩ := own_open X474 (X474.specialBack hx (y := own_y35) rfl hown (mvT hZ (own_w hw 12 rfl)) (mvT hZ (own_w hw 13 rfl)) (mvT hZ (own_w hw 14 rfl)) (by decide) (backOf (W := 1) (rm3 l Z a0 hw [] b442 b443 ka443 [y0, y1, y2, y3, y4, y5, y6, y7, y8, y9] (10 : Int32) w fm h474 n0 (Nat.le_trans Z0 K474.1) f487 f498 f509 f475 g_b442 f510 f511 f512 f513 f514 hw0 rfl (by simp) (by simp) (List.forall_mem_cons.mpr ⟨hy0, (List.forall_mem_cons.mpr ⟨hy1, (List.forall_mem_cons.mpr ⟨hy2, (List.forall_mem_cons.mpr ⟨hy3, (List.forall_mem_cons.mpr ⟨hy4, (List.forall_mem_cons.mpr ⟨hy5, (List.forall_mem_cons.mpr ⟨hy6, (List.forall_mem_cons.mpr ⟨hy7, (List.forall_mem_cons.mpr ⟨hy8, (List.forall_mem_cons.mpr ⟨hy9, (List.forall_mem_nil _)⟩)⟩)⟩)⟩)⟩)⟩)⟩)⟩)⟩)⟩)) hZ (own_w hw 14 rfl) (own_w hw 11 rfl) (by decide) (by decide)) (g := (mkF m 525 #[.val (.ref a1), .val (.int (10 : Int32))] [(.ref b443), (.ref b442), (.ref b442)])) rfl (by rw [hml]; rfl) (Steps.refl _) (a := b442) (argsL := [(.ref b443)]) (rest := [(.ref b442)]) (lenOf pd_26 rfl) rfl (by show 2 * 0 + _ ≤ _; exact Nat.le_of_eq rfl) (hb hby d2_525) (fun _ _ => ⟨rfl, e474, (by decide : 2 + 2 ≤ _), (by decide : 14 + 30 ≤ _)⟩))
    obtain ⟨vr, kr, cr, zr, br, rfl, N476q, r476_0, r476_1, r476_2, r476_3, r476_4, r476_5, r476_6⟩ := hQ476
    have N476 := Fr.app N474 N476q
    have K476 : Keep h0 T476.heap [] := K474.trans r476_0 (allS (Or.inr sz_b442) all0)
    have lt_a1_vr : a1 < vr := Nat.lt_of_lt_of_le f515.lt r476_1
    have lt_b442_vr : b442 < vr := Nat.lt_of_lt_of_le f487.lt r476_1
    have lt_b443_vr : b443 < vr := Nat.lt_of_lt_of_le f525.lt r476_1
    have sz_vr : h0.size ≤ vr := Nat.le_trans K474.1 r476_1
    have g_vr : n0 ≤ vr := Nat.le_trans Z0 sz_vr
    refine OGo.via (fun _ k => st476.trans k) ?_
    show OGo _ _ _ _ (T476.setTop (mkF m 528 #[.val (.ref a1), .val (.int (10 : Int32))] [(.ref b442)]))
    show OGo _ _ _ _ (T476.setTop (mkF m 528 #[.val (.ref a1), .val (.int (10 : Int32))] [(.ref b442)]))
    refine own_retA X476 hx Bd.notSynchronized Bd.returns rfl rfl (hb hby d2_528) (by decide) (by decide) ?_
    show Q_rm2 Z _ _ _ _ _ _ _ _ _ _ _ _ _ _ _ h0 n0 _ T476.heap _
    exact ⟨b442, vr, kr, cr, zr, br, rfl, N476, K476, r476_2, r476_3, r476_4, r476_5, r476_6⟩
theorem d2_4 : decode method_4_code 4 = .ok (.new 25, 3) := by decide +kernel
theorem d2_7 : decode method_4_code 7 = .ok (.dup, 1) := by decide +kernel
theorem d2_8 : decode method_4_code 8 = .ok (.iconst 0, 1) := by decide +kernel
theorem d2_9 : decode method_4_code 9 = .ok (.newarray .char, 2) := by decide +kernel
theorem d2_11 : decode method_4_code 11 = .ok (.invokespecial 34, 3) := by decide +kernel
theorem d2_14 : decode method_4_code 14 = .ok (.areturn, 1) := by decide +kernel
theorem ef_rm2w (m : MethodId) (a1 : Addr) : entryFrame m #[(.ref a1), (.int (0 : Int32))] 2 = mkF m 0 #[.val (.ref a1), .val (.int (0 : Int32))] [] := by
  first | (simp [entryFrame, mkF, argsToLocals, Value.category]; done) | rfl
def Q_rm2w (Z : State) (a1 : Addr) (h0 : Heap) (n0 : Nat) (v : Option Value) (h : Heap) (L : List Loc) : Prop := ∃ rr : Addr, ∃ vr : Addr, ∃ kr : ClassId, v = some (.ref rr) ∧ Fr n0 L ∧ Keep h0 h [] ∧ Exa Z h rr "java/lang/String" ∧ Fld Z h rr "java/lang/String" "value" "[B" (.ref vr) ∧ Fld Z h rr "java/lang/String" "coder" "B" (.int (0 : Int32)) ∧ Arv Z h vr kr .byte (0 : Int32) [] (.int (0 : Int32))
abbrev R_rm2w : Room := ⟨3, 4, 8, 43⟩
set_option maxRecDepth 65536 in
set_option maxHeartbeats 40000000 in
theorem rm2w (l : Launch) (Z : State) (a0 : Array Value) (hw : ∀ d ∈ tables_1, d.before a0 Z = true) (ws : List Jvm.Cond) (a1 : Addr) (h0 : Heap) (n0 : Nat) (Z0 : n0 ≤ h0.size) (hold : ∀ (b : Addr) (cl : Cell), Z.heap[b]? = some cl → h0[b]? = some cl) (hhc : Jvm.Lit.constHeld Z "java/lang/String" 7) (hcw : Jvm.Lit.compactW.before a0 Z = true) :
    MetFree l own_y37 (head1 (Jvm.Cond.code own_y37 method_4_code 2 (some (.object "java/lang/String")) :: ws) R_rm2w) (fun a U => a = #[(.ref a1), (.int (0 : Int32))] ∧ Z.WarmedH U.vm ∧ U.heap = h0) (fun _ _ _ _ _ => True) (fun _ U o U' => ∃ v L, o = .returned v ∧ Q_rm2w Z a1 h0 n0 v U'.heap L ∧ ReturnedEndW U o U' L R_rm2w.cells R_rm2w.slots) := by
  refine MetFree.of_bodySF (plainFor_of_name pn_UserPathTrimmedPinLaw) hisR ?_
  intro p e s m args below meth c s₁ Bd hml0 hP hK
  obtain ⟨rfl, hZH, hh⟩ := hP
  have hZ := hZH.wide
  have hx := Bd.exec
  have hby := Bd.bytes
  have hml : c.maxLocals = 2 := hml0
  have hown : s.vm.findClass "com/example/ianus/ianus/path/UserPathTrimmedPinLaw" = some m.cls := findClass_of_methodNamed Bd.named
  have hnm := (name_of_methodNamed Bd.named Bd.method).1
  have X0 : Stand p l e R_rm2w s m #[(.ref a1), (.int (0 : Int32))] below meth c s₁ [] 0 0 := Stand.of_body Bd
  have e0 : s₁.heap = h0 := by rw [← hh, Bd.state]; rfl
  have N0 := Fr.nil n0
  show OGo p.tables e below (own_KqW s (fun v h L => Q_rm2w Z a1 h0 n0 v h L) R_rm2w.cells R_rm2w.slots) (s₁.setTop (entryFrame m #[(.ref a1), (.int (0 : Int32))] 2))
  refine OGo.cast (ef_rm2w m a1) ?_
  show OGo _ _ _ _ (s₁.setTop (mkF m 0 #[.val (.ref a1), .val (.int (0 : Int32))] []))
  refine OGo.via (fun _ k => XS.iloadN X0.here hx rfl (hb hby d2_0) rfl (XS.ifNo X0.here hx rfl (hb hby d2_1) rfl ((if0 _ _).trans (teq (by decide : (0 : Int32) = (0 : Int32))).2) k)) ?_
  obtain ⟨T1, h1, X1, e1, E1, A1, D1, -, st1⟩ := newO X0 hx hZ hown (own_w hw 9 rfl) (own_w hw 10 rfl) (own_w hw 11 rfl) e0 (g := (mkF m 4 #[.val (.ref a1), .val (.int (0 : Int32))] [])) rfl (hb hby d2_4) (by decide) (by decide)
  obtain ⟨b1, g1⟩ : ∃ z, z = h0.size := ⟨_, rfl⟩
  rw [← g1] at A1 D1 st1
  refine OGo.via st1 ?_
  have K1 : Keep h0 h1 [] := (Keep.refl h0 []).ext E1
  have sz_b1 : h0.size ≤ b1 := Nat.le_trans (Keep.refl h0 []).1 (Nat.le_of_eq g1.symm)
  have g_b1 : n0 ≤ b1 := Nat.le_trans Z0 sz_b1
  have F1_value : Fld Z h1 b1 "java/lang/String" "value" "[B" .null := D1 (Or.inr (own_w hw 24 rfl)) (ty := (.array .byte)) (by decide)
  have F1_coder : Fld Z h1 b1 "java/lang/String" "coder" "B" (.int (0 : Int32)) := D1 (Or.inr (own_w hw 25 rfl)) (ty := .byte) (by decide)
  show OGo _ _ _ _ (T1.setTop (mkF m 7 #[.val (.ref a1), .val (.int (0 : Int32))] [(.ref b1)]))
  refine OGo.via (fun _ k => XS.dup X1.here hx rfl (hb hby d2_7) rfl rfl (XS.iconst X1.here hx rfl (hb hby d2_8) k)) ?_
  obtain ⟨T2, h2, ka2, X2, e2, E2, A2, Y2, st2⟩ := newPE (ad := "[C") X1 hx hZ (own_w hw 0 rfl) e1 (g := (mkF m 9 #[.val (.ref a1), .val (.int (0 : Int32))] [(.int (0 : Int32)), (.ref b1), (.ref b1)])) rfl (hb hby d2_9) rfl (by decide) (cap := 0) (by decide) (by decide) (by decide) (by decide) (by decide)
  obtain ⟨b2, g2⟩ : ∃ z, z = h1.size := ⟨_, rfl⟩
  rw [← g2] at A2 Y2 st2
  refine OGo.via st2 ?_
  have K2 : Keep h0 h2 [] := K1.ext E2
  have lt_b1_b2 : b1 < b2 := Nat.lt_of_lt_of_le A1.lt (Nat.le_of_eq g2.symm)
  have sz_b2 : h0.size ≤ b2 := Nat.le_trans K1.1 (Nat.le_of_eq g2.symm)
  have g_b2 : n0 ≤ b2 := Nat.le_trans Z0 sz_b2
  have V2 : Arv Z h2 b2 ka2 .char (0 : Int32) [] (.int (0 : Int32)) := (Arv.new A2 (by decide)).pad (pad_rep [] (.int (0 : Int32)) 0)
  show OGo _ _ _ _ (T2.setTop (mkF m 11 #[.val (.ref a1), .val (.int (0 : Int32))] [(.ref b2), (.ref b1), (.ref b1)]))
  have f4 := A1.ext E2
  have f5 := F1_value.ext E2
  have f6 := F1_coder.ext E2
  obtain ⟨_, T3, Lc3, X3, hSi3, hQ3, st3⟩ := own_openS X2 (X2.specialBackS hx (y := own_y35) rfl hown (mvT hZ (own_w hw 12 rfl)) (mvT hZ (own_w hw 13 rfl)) (mvT hZ (own_w hw 14 rfl)) (by decide) (own_backOfSH (W := 1) (rm3w l Z a0 hw [] b1 b2 ka2 h2 n0 (Nat.le_trans Z0 K2.1) f4 f5 f6 V2 g_b1 (fun b cl q => K2.2.1 b cl (hold b cl q) nin0) hhc hcw) hZH (own_w hw 14 rfl) (own_w hw 11 rfl) (by decide) (by decide)) (g := (mkF m 11 #[.val (.ref a1), .val (.int (0 : Int32))] [(.ref b2), (.ref b1), (.ref b1)])) rfl (by rw [hml]; rfl) (Steps.refl _) (a := b1) (argsL := [(.ref b2)]) (rest := [(.ref b1)]) (lenOf pd_26 rfl) rfl (by show 2 * 0 + _ ≤ _; exact Nat.le_of_eq rfl) (hb hby d2_11) (fun _ _ => ⟨rfl, e2, (by decide : 2 + 2 ≤ _), (by decide : 4 + 4 ≤ _)⟩))
  have hZ3 : Z.Warmed39 (s.setVm T3.vm).vm := State.Warmed39.trans hZ hSi3.1
  have hown3 : (s.setVm T3.vm).vm.findClass "com/example/ianus/ianus/path/UserPathTrimmedPinLaw" = some m.cls := by rw [show (s.setVm T3.vm).vm = T3.vm from rfl, hSi3.1.alike.findClass]; exact hown
  obtain ⟨vr, kr, rfl, N3q, r3_0, r3_1, r3_2, r3_3, r3_4⟩ := hQ3
  have N3 := Fr.app N0 N3q
  have K3 : Keep h0 T3.heap [] := K2.trans r3_0 (allS (Or.inr sz_b1) all0)
  refine OGo.via (fun _ k => st3.trans k) ?_
  show OGo _ _ _ _ (T3.setTop (mkF m 14 #[.val (.ref a1), .val (.int (0 : Int32))] [(.ref b1)]))
  show OGo _ _ _ _ (T3.setTop (mkF m 14 #[.val (.ref a1), .val (.int (0 : Int32))] [(.ref b1)]))
  refine own_retAW X3 hSi3 (Nat.le_refl T3.heap.size) hx Bd.notSynchronized Bd.returns rfl rfl (hb hby d2_14) (by decide) (by decide) ?_
  show Q_rm2w Z _ h0 n0 _ T3.heap _
  exact ⟨b1, vr, kr, rfl, N3, K3, r3_1, r3_2, r3_3, r3_4⟩
theorem pd_27 : parseMethodDescriptor "(III[C)C" = some ⟨[.int, .int, .int, (.array .char)], some .char⟩ := by decide +kernel
theorem pd_28 : parseMethodDescriptor "([CI)Ljava/lang/String;" = some ⟨[(.array .char), .int], some (.object "java/lang/String")⟩ := by decide +kernel
theorem pd_29 : parseMethodDescriptor "(Ljava/lang/String;)Ljava/lang/String;" = some ⟨[(.object "java/lang/String")], some (.object "java/lang/String")⟩ := by decide +kernel
theorem ef_rm0 (m : MethodId) (p1 : Int32) (p2 : Int32) (p3 : Int32) : entryFrame m #[(.int p1), (.int p2), (.int p3)] maxLocals = mkF m 0 #[.val (.int p1), .val (.int p2), .val (.int p3), .unset, .unset, .unset, .unset, .unset, .unset, .unset] [] := by
  first | (simp [entryFrame, mkF, argsToLocals, Value.category, maxLocals]; done) | rfl
def Q_rm0 (Z : State) (p1 : Int32) (p2 : Int32) (p3 : Int32) (w : Int32) (fm : Value) (h0 : Heap) (n0 : Nat) (v : Option Value) (h : Heap) (L : List Loc) : Prop := v = some (.int (1 : Int32)) ∧ Fr n0 L
set_option maxRecDepth 65536 in
set_option maxHeartbeats 40000000 in
theorem rm0 (l : Launch) (Z : State) (a0 : Array Value) (hw : ∀ d ∈ tables_1, d.before a0 Z = true) (ws : List Jvm.Cond) (p1 : Int32) (p2 : Int32) (p3 : Int32) (w : Int32) (fm : Value) (h0 : Heap) (n0 : Nat) (Z0 : n0 ≤ h0.size) (S_COMPACT_STRINGS : Sta Z h0 "java/lang/String" "COMPACT_STRINGS" "Z" (.int w)) (S_SIOOBE_FORMATTER : Sta Z h0 "jdk/internal/util/Preconditions" "SIOOBE_FORMATTER" "Ljava/util/function/BiFunction;" fm) (S__assertionsDisabled : Sta Z h0 "java/lang/StringUTF16" "$assertionsDisabled" "Z" (.int (1 : Int32))) (S_HI_BYTE_SHIFT : Sta Z h0 "java/lang/StringUTF16" "HI_BYTE_SHIFT" "I" (.int (0 : Int32))) (S_LO_BYTE_SHIFT : Sta Z h0 "java/lang/StringUTF16" "LO_BYTE_SHIFT" "I" (.int (8 : Int32))) (hw0 : ¬ w = (0 : Int32)) (hr_fm : fm.isRef = true) (hz0 : Z.heap = h0) (hhc : Jvm.Lit.constHeld Z "java/lang/StringLatin1" 151) (hhc7 : Jvm.Lit.constHeld Z "java/lang/String" 7) (hcw : Jvm.Lit.compactW.before a0 Z = true) :
    MetFree l x (head1 (Jvm.Cond.code x code maxLocals ret :: ws) room_1) (fun a U => a = #[(.int p1), (.int p2), (.int p3)] ∧ Z.WarmedH U.vm ∧ U.heap = h0) (fun _ _ _ _ _ => True) (fun _ U o U' => ∃ v L, o = .returned v ∧ Q_rm0 Z p1 p2 p3 w fm h0 n0 v U'.heap L ∧ ReturnedEndW U o U' L room_1.cells room_1.slots) := by
  refine MetFree.of_bodySF (plainFor_of_name pn_UserPathTrimmedPinLaw) hisR ?_
  intro p e s m args below meth c s₁ Bd hml0 hP hK
  obtain ⟨rfl, hZH, hh⟩ := hP
  have hZ := hZH.wide
  have hx := Bd.exec
  have hby := Bd.bytes
  have hml : c.maxLocals = 10 := hml0
  have hown : s.vm.findClass "com/example/ianus/ianus/path/UserPathTrimmedPinLaw" = some m.cls := findClass_of_methodNamed Bd.named
  have hnm := (name_of_methodNamed Bd.named Bd.method).1
  have X0 : Stand p l e room_1 s m #[(.int p1), (.int p2), (.int p3)] below meth c s₁ [] 0 0 := Stand.of_body Bd
  have e0 : s₁.heap = h0 := by rw [← hh, Bd.state]; rfl
  have N0 := Fr.nil n0
  show OGo p.tables e below (own_KqW s (fun v h L => Q_rm0 Z p1 p2 p3 w fm h0 n0 v h L) room_1.cells room_1.slots) (s₁.setTop (entryFrame m #[(.int p1), (.int p2), (.int p3)] maxLocals))
  refine OGo.cast (ef_rm0 m p1 p2 p3) ?_
  show OGo _ _ _ _ (s₁.setTop (mkF m 0 #[.val (.int p1), .val (.int p2), .val (.int p3), .unset, .unset, .unset, .unset, .unset, .unset, .unset] []))
  refine OGo.via (fun _ k => XS.iloadN X0.here hx rfl (hb hby at_0) rfl (XS.iconst X0.here hx rfl (hb hby at_1) (XS.iand X0.here hx rfl (hb hby at_2) rfl k))) ?_
  show OGo _ _ _ _ (s₁.setTop (mkF m 3 #[.val (.int p1), .val (.int p2), .val (.int p3), .unset, .unset, .unset, .unset, .unset, .unset, .unset] [(.int (p1 &&& (3 : Int32)))]))
  obtain ⟨pn, hpn, epn⟩ := own_p3 p1
  rw [epn]
  show OGo _ _ _ _ (s₁.setTop (mkF m 3 #[.val (.int p1), .val (.int p2), .val (.int p3), .unset, .unset, .unset, .unset, .unset, .unset, .unset] [(.int (Int32.ofNat pn))]))
  refine OGo.via (fun _ k => XS.istoreN X0.here hx rfl (hb hby at_3) rfl (l' := #[.val (.int p1), .val (.int p2), .val (.int p3), .val (.int (Int32.ofNat pn)), .unset, .unset, .unset, .unset, .unset, .unset]) rfl (XS.iloadN X0.here hx rfl (hb hby at_4) rfl (XS.iconst X0.here hx rfl (hb hby at_5) (XS.iushr X0.here hx rfl (hb hby at_6) rfl (XS.iconst X0.here hx rfl (hb hby at_7) (XS.iand X0.here hx rfl (hb hby at_8) rfl k)))))) ?_
  show OGo _ _ _ _ (s₁.setTop (mkF m 9 #[.val (.int p1), .val (.int p2), .val (.int p3), .val (.int (Int32.ofNat pn)), .unset, .unset, .unset, .unset, .unset, .unset] [(.int (((p1.toUInt32 >>> ((2 : Int32) &&& 31).toUInt32).toInt32) &&& (3 : Int32)))]))
  obtain ⟨qn, hqn, eqn⟩ := own_p3 ((p1.toUInt32 >>> ((2 : Int32) &&& 31).toUInt32).toInt32)
  rw [eqn]
  show OGo _ _ _ _ (s₁.setTop (mkF m 9 #[.val (.int p1), .val (.int p2), .val (.int p3), .val (.int (Int32.ofNat pn)), .unset, .unset, .unset, .unset, .unset, .unset] [(.int (Int32.ofNat qn))]))
  refine OGo.via (fun _ k => XS.istore X0.here hx rfl (hb hby at_9) rfl (l' := #[.val (.int p1), .val (.int p2), .val (.int p3), .val (.int (Int32.ofNat pn)), .val (.int (Int32.ofNat qn)), .unset, .unset, .unset, .unset, .unset]) rfl (XS.iloadN X0.here hx rfl (hb hby at_11) rfl (XS.iconst X0.here hx rfl (hb hby at_12) (XS.iushr X0.here hx rfl (hb hby at_13) rfl (XS.iconst X0.here hx rfl (hb hby at_14) k))))) ?_
  refine OGo.via (fun _ k => XS.irem X0.here hx rfl (hb hby at_15) rfl (by decide) k) ?_
  show OGo _ _ _ _ (s₁.setTop (mkF m 16 #[.val (.int p1), .val (.int p2), .val (.int p3), .val (.int (Int32.ofNat pn)), .val (.int (Int32.ofNat qn)), .unset, .unset, .unset, .unset, .unset] [(.int (((p1.toUInt32 >>> ((4 : Int32) &&& 31).toUInt32).toInt32) - ((((p1.toUInt32 >>> ((4 : Int32) &&& 31).toUInt32).toInt32) / (5 : Int32)) * (5 : Int32))))]))
  obtain ⟨nn, hnn, enn⟩ := own_n5 p1
  rw [enn]
  show OGo _ _ _ _ (s₁.setTop (mkF m 16 #[.val (.int p1), .val (.int p2), .val (.int p3), .val (.int (Int32.ofNat pn)), .val (.int (Int32.ofNat qn)), .unset, .unset, .unset, .unset, .unset] [(.int (Int32.ofNat nn))]))
  refine OGo.via (fun _ k => XS.istore X0.here hx rfl (hb hby at_16) rfl (l' := #[.val (.int p1), .val (.int p2), .val (.int p3), .val (.int (Int32.ofNat pn)), .val (.int (Int32.ofNat qn)), .val (.int (Int32.ofNat nn)), .unset, .unset, .unset, .unset]) rfl (XS.iconst X0.here hx rfl (hb hby at_18) k)) ?_
  obtain ⟨T1, h1, ka1, X1, e1, E1, A1, Y1, st1⟩ := newPE (ad := "[C") X0 hx hZ (own_w hw 0 rfl) e0 (g := (mkF m 19 #[.val (.int p1), .val (.int p2), .val (.int p3), .val (.int (Int32.ofNat pn)), .val (.int (Int32.ofNat qn)), .val (.int (Int32.ofNat nn)), .unset, .unset, .unset, .unset] [(.int (4 : Int32))])) rfl (hb hby at_19) rfl (by decide) (cap := 4) (by decide) (by decide) (by decide) (by decide) (by decide)
  obtain ⟨b1, g1⟩ : ∃ z, z = h0.size := ⟨_, rfl⟩
  rw [← g1] at A1 Y1 st1
  refine OGo.via st1 ?_
  have K1 : Keep h0 h1 [] := (Keep.refl h0 []).ext E1
  have sz_b1 : h0.size ≤ b1 := Nat.le_trans (Keep.refl h0 []).1 (Nat.le_of_eq g1.symm)
  have g_b1 : n0 ≤ b1 := Nat.le_trans Z0 sz_b1
  have V1 : Arv Z h1 b1 ka1 .char (4 : Int32) [(.int (0 : Int32)), (.int (0 : Int32)), (.int (0 : Int32)), (.int (0 : Int32))] (.int (0 : Int32)) := (Arv.new A1 (by decide)).pad (pad_rep [] (.int (0 : Int32)) 4)
  show OGo _ _ _ _ (T1.setTop (mkF m 21 #[.val (.int p1), .val (.int p2), .val (.int p3), .val (.int (Int32.ofNat pn)), .val (.int (Int32.ofNat qn)), .val (.int (Int32.ofNat nn)), .unset, .unset, .unset, .unset] [(.ref b1)]))
  refine OGo.via (fun _ k => XS.astore X1.here hx rfl (hb hby at_21) rfl rfl (l' := #[.val (.int p1), .val (.int p2), .val (.int p3), .val (.int (Int32.ofNat pn)), .val (.int (Int32.ofNat qn)), .val (.int (Int32.ofNat nn)), .val (.ref b1), .unset, .unset, .unset]) rfl (XS.aload X1.here hx rfl (hb hby at_23) rfl rfl (XS.iconst X1.here hx rfl (hb hby at_25) (XS.iloadN X1.here hx rfl (hb hby at_26) rfl k)))) ?_
  refine OGo.via (X1.ldcInt hx hown (mvT hZ (own_w hw 1 rfl)) (g := (mkF m 27 #[.val (.int p1), .val (.int p2), .val (.int p3), .val (.int (Int32.ofNat pn)), .val (.int (Int32.ofNat qn)), .val (.int (Int32.ofNat nn)), .val (.ref b1), .unset, .unset, .unset] [(.int p2), (.int (0 : Int32)), (.ref b1)])) rfl (hb hby at_27)) ?_
  show OGo _ _ _ _ (T1.setTop (mkF m 29 #[.val (.int p1), .val (.int p2), .val (.int p3), .val (.int (Int32.ofNat pn)), .val (.int (Int32.ofNat qn)), .val (.int (Int32.ofNat nn)), .val (.ref b1), .unset, .unset, .unset] [(.int (65535 : Int32)), (.int p2), (.int (0 : Int32)), (.ref b1)]))
  refine OGo.via (fun _ k => XS.iand X1.here hx rfl (hb hby at_29) rfl (XS.i2c X1.here hx rfl (hb hby at_30) rfl k)) ?_
  obtain ⟨cl2, Ar2, q2, Sz2, Ng2, Hs2, Gf2⟩ := id V1
  have hin2 : ¬ ((0 : Int32) < 0 ∨ cl2.slots.size ≤ ((0 : Int32)).toNatClampNeg) := inb_of Sz2 ⟨by decide, by decide⟩
  obtain ⟨T2, h2, X2, e2, W2, st2⟩ := stC X1 hx hZ e1 Ar2 (j := (0 : Int32)) hin2 (g := (mkF m 31 #[.val (.int p1), .val (.int p2), .val (.int p3), .val (.int (Int32.ofNat pn)), .val (.int (Int32.ofNat qn)), .val (.int (Int32.ofNat nn)), .val (.ref b1), .unset, .unset, .unset] [(.int ((p2 &&& (65535 : Int32)).toUInt32.toUInt16.toUInt32.toInt32)), (.int (0 : Int32)), (.ref b1)])) rfl rfl (hb hby at_31)
  refine OGo.via st2 ?_
  have V2 : Arv Z h2 b1 ka1 .char (4 : Int32) [(.int (nar .char ((p2 &&& (65535 : Int32)).toUInt32.toUInt16.toUInt32.toInt32))), (.int (0 : Int32)), (.int (0 : Int32)), (.int (0 : Int32))] (.int (0 : Int32)) := Arv.set Ar2 q2 Sz2 Ng2 Hs2 Gf2 (fits_nar_char _) W2 0 rfl (Nat.le_of_ble_eq_true rfl)
  have K2 : Keep h0 h2 [] := K1.wr W2 (Or.inr sz_b1)
  have N2 := Fr.snoc X2 N0 g_b1
  show OGo _ _ _ _ (T2.setTop (mkF m 32 #[.val (.int p1), .val (.int p2), .val (.int p3), .val (.int (Int32.ofNat pn)), .val (.int (Int32.ofNat qn)), .val (.int (Int32.ofNat nn)), .val (.ref b1), .unset, .unset, .unset] []))
  refine OGo.via (fun _ k => XS.aload X2.here hx rfl (hb hby at_32) rfl rfl (XS.iconst X2.here hx rfl (hb hby at_34) (XS.iloadN X2.here hx rfl (hb hby at_35) rfl (XS.bipush X2.here hx rfl (hb hby at_36) (XS.iushr X2.here hx rfl (hb hby at_38) rfl (XS.i2c X2.here hx rfl (hb hby at_39) rfl k)))))) ?_
  obtain ⟨cl3, Ar3, q3, Sz3, Ng3, Hs3, Gf3⟩ := id V2
  have hin3 : ¬ ((1 : Int32) < 0 ∨ cl3.slots.size ≤ ((1 : Int32)).toNatClampNeg) := inb_of Sz3 ⟨by decide, by decide⟩
  obtain ⟨T3, h3, X3, e3, W3, st3⟩ := stC X2 hx hZ e2 Ar3 (j := (1 : Int32)) hin3 (g := (mkF m 40 #[.val (.int p1), .val (.int p2), .val (.int p3), .val (.int (Int32.ofNat pn)), .val (.int (Int32.ofNat qn)), .val (.int (Int32.ofNat nn)), .val (.ref b1), .unset, .unset, .unset] [(.int (((p2.toUInt32 >>> ((16 : Int32) &&& 31).toUInt32).toInt32).toUInt32.toUInt16.toUInt32.toInt32)), (.int (1 : Int32)), (.ref b1)])) rfl rfl (hb hby at_40)
  refine OGo.via st3 ?_
  have V3 : Arv Z h3 b1 ka1 .char (4 : Int32) [(.int (nar .char ((p2 &&& (65535 : Int32)).toUInt32.toUInt16.toUInt32.toInt32))), (.int (nar .char (((p2.toUInt32 >>> ((16 : Int32) &&& 31).toUInt32).toInt32).toUInt32.toUInt16.toUInt32.toInt32))), (.int (0 : Int32)), (.int (0 : Int32))] (.int (0 : Int32)) := Arv.set Ar3 q3 Sz3 Ng3 Hs3 Gf3 (fits_nar_char _) W3 1 rfl (Nat.le_of_ble_eq_true rfl)
  have K3 : Keep h0 h3 [] := K2.wr W3 (Or.inr sz_b1)
  have N3 := Fr.snoc X3 N2 g_b1
  show OGo _ _ _ _ (T3.setTop (mkF m 41 #[.val (.int p1), .val (.int p2), .val (.int p3), .val (.int (Int32.ofNat pn)), .val (.int (Int32.ofNat qn)), .val (.int (Int32.ofNat nn)), .val (.ref b1), .unset, .unset, .unset] []))
  refine OGo.via (fun _ k => XS.aload X3.here hx rfl (hb hby at_41) rfl rfl (XS.iconst X3.here hx rfl (hb hby at_43) (XS.iloadN X3.here hx rfl (hb hby at_44) rfl k))) ?_
  refine OGo.via (X3.ldcInt hx hown (mvT hZ (own_w hw 1 rfl)) (g := (mkF m 45 #[.val (.int p1), .val (.int p2), .val (.int p3), .val (.int (Int32.ofNat pn)), .val (.int (Int32.ofNat qn)), .val (.int (Int32.ofNat nn)), .val (.ref b1), .unset, .unset, .unset] [(.int p3), (.int (2 : Int32)), (.ref b1)])) rfl (hb hby at_45)) ?_
  show OGo _ _ _ _ (T3.setTop (mkF m 47 #[.val (.int p1), .val (.int p2), .val (.int p3), .val (.int (Int32.ofNat pn)), .val (.int (Int32.ofNat qn)), .val (.int (Int32.ofNat nn)), .val (.ref b1), .unset, .unset, .unset] [(.int (65535 : Int32)), (.int p3), (.int (2 : Int32)), (.ref b1)]))
  refine OGo.via (fun _ k => XS.iand X3.here hx rfl (hb hby at_47) rfl (XS.i2c X3.here hx rfl (hb hby at_48) rfl k)) ?_
  obtain ⟨cl4, Ar4, q4, Sz4, Ng4, Hs4, Gf4⟩ := id V3
  have hin4 : ¬ ((2 : Int32) < 0 ∨ cl4.slots.size ≤ ((2 : Int32)).toNatClampNeg) := inb_of Sz4 ⟨by decide, by decide⟩
  obtain ⟨T4, h4, X4, e4, W4, st4⟩ := stC X3 hx hZ e3 Ar4 (j := (2 : Int32)) hin4 (g := (mkF m 49 #[.val (.int p1), .val (.int p2), .val (.int p3), .val (.int (Int32.ofNat pn)), .val (.int (Int32.ofNat qn)), .val (.int (Int32.ofNat nn)), .val (.ref b1), .unset, .unset, .unset] [(.int ((p3 &&& (65535 : Int32)).toUInt32.toUInt16.toUInt32.toInt32)), (.int (2 : Int32)), (.ref b1)])) rfl rfl (hb hby at_49)
  refine OGo.via st4 ?_
  have V4 : Arv Z h4 b1 ka1 .char (4 : Int32) [(.int (nar .char ((p2 &&& (65535 : Int32)).toUInt32.toUInt16.toUInt32.toInt32))), (.int (nar .char (((p2.toUInt32 >>> ((16 : Int32) &&& 31).toUInt32).toInt32).toUInt32.toUInt16.toUInt32.toInt32))), (.int (nar .char ((p3 &&& (65535 : Int32)).toUInt32.toUInt16.toUInt32.toInt32))), (.int (0 : Int32))] (.int (0 : Int32)) := Arv.set Ar4 q4 Sz4 Ng4 Hs4 Gf4 (fits_nar_char _) W4 2 rfl (Nat.le_of_ble_eq_true rfl)
  have K4 : Keep h0 h4 [] := K3.wr W4 (Or.inr sz_b1)
  have N4 := Fr.snoc X4 N3 g_b1
  show OGo _ _ _ _ (T4.setTop (mkF m 50 #[.val (.int p1), .val (.int p2), .val (.int p3), .val (.int (Int32.ofNat pn)), .val (.int (Int32.ofNat qn)), .val (.int (Int32.ofNat nn)), .val (.ref b1), .unset, .unset, .unset] []))
  refine OGo.via (fun _ k => XS.aload X4.here hx rfl (hb hby at_50) rfl rfl (XS.iconst X4.here hx rfl (hb hby at_52) (XS.iloadN X4.here hx rfl (hb hby at_53) rfl (XS.bipush X4.here hx rfl (hb hby at_54) (XS.iushr X4.here hx rfl (hb hby at_56) rfl (XS.i2c X4.here hx rfl (hb hby at_57) rfl k)))))) ?_
  obtain ⟨cl5, Ar5, q5, Sz5, Ng5, Hs5, Gf5⟩ := id V4
  have hin5 : ¬ ((3 : Int32) < 0 ∨ cl5.slots.size ≤ ((3 : Int32)).toNatClampNeg) := inb_of Sz5 ⟨by decide, by decide⟩
  obtain ⟨T5, h5, X5, e5, W5, st5⟩ := stC X4 hx hZ e4 Ar5 (j := (3 : Int32)) hin5 (g := (mkF m 58 #[.val (.int p1), .val (.int p2), .val (.int p3), .val (.int (Int32.ofNat pn)), .val (.int (Int32.ofNat qn)), .val (.int (Int32.ofNat nn)), .val (.ref b1), .unset, .unset, .unset] [(.int (((p3.toUInt32 >>> ((16 : Int32) &&& 31).toUInt32).toInt32).toUInt32.toUInt16.toUInt32.toInt32)), (.int (3 : Int32)), (.ref b1)])) rfl rfl (hb hby at_58)
  refine OGo.via st5 ?_
  have V5 : Arv Z h5 b1 ka1 .char (4 : Int32) [(.int (nar .char ((p2 &&& (65535 : Int32)).toUInt32.toUInt16.toUInt32.toInt32))), (.int (nar .char (((p2.toUInt32 >>> ((16 : Int32) &&& 31).toUInt32).toInt32).toUInt32.toUInt16.toUInt32.toInt32))), (.int (nar .char ((p3 &&& (65535 : Int32)).toUInt32.toUInt16.toUInt32.toInt32))), (.int (nar .char (((p3.toUInt32 >>> ((16 : Int32) &&& 31).toUInt32).toInt32).toUInt32.toUInt16.toUInt32.toInt32)))] (.int (0 : Int32)) := Arv.set Ar5 q5 Sz5 Ng5 Hs5 Gf5 (fits_nar_char _) W5 3 rfl (Nat.le_of_ble_eq_true rfl)
  have K5 : Keep h0 h5 [] := K4.wr W5 (Or.inr sz_b1)
  have N5 := Fr.snoc X5 N4 g_b1
  show OGo _ _ _ _ (T5.setTop (mkF m 59 #[.val (.int p1), .val (.int p2), .val (.int p3), .val (.int (Int32.ofNat pn)), .val (.int (Int32.ofNat qn)), .val (.int (Int32.ofNat nn)), .val (.ref b1), .unset, .unset, .unset] []))
  obtain ⟨m0, hm0⟩ : ∃ z, z = (nar .char ((p2 &&& (65535 : Int32)).toUInt32.toUInt16.toUInt32.toInt32)) := ⟨_, rfl⟩
  rw [← hm0] at V5
  have hmc0 : nar .char m0 = m0 := by rw [hm0]; exact own_nn2 _
  obtain ⟨m1, hm1⟩ : ∃ z, z = (nar .char (((p2.toUInt32 >>> ((16 : Int32) &&& 31).toUInt32).toInt32).toUInt32.toUInt16.toUInt32.toInt32)) := ⟨_, rfl⟩
  rw [← hm1] at V5
  have hmc1 : nar .char m1 = m1 := by rw [hm1]; exact own_nn2 _
  obtain ⟨m2, hm2⟩ : ∃ z, z = (nar .char ((p3 &&& (65535 : Int32)).toUInt32.toUInt16.toUInt32.toInt32)) := ⟨_, rfl⟩
  rw [← hm2] at V5
  have hmc2 : nar .char m2 = m2 := by rw [hm2]; exact own_nn2 _
  obtain ⟨m3, hm3⟩ : ∃ z, z = (nar .char (((p3.toUInt32 >>> ((16 : Int32) &&& 31).toUInt32).toInt32).toUInt32.toUInt16.toUInt32.toInt32)) := ⟨_, rfl⟩
  rw [← hm3] at V5
  have hmc3 : nar .char m3 = m3 := by rw [hm3]; exact own_nn2 _
  have cta : ∀ (x0 : Int32) (x1 : Int32) (x2 : Int32) (x3 : Int32) (Tla : State) (hla : Heap) (locsla : List Loc), Stand p l e room_1 s m #[(.int p1), (.int p2), (.int p3)] below meth c Tla locsla 1 4 → Tla.heap = hla → Fr n0 locsla → Keep h0 hla [] → Arv Z hla b1 ka1 .char (4 : Int32) [(.int x0), (.int x1), (.int x2), (.int x3)] (.int (0 : Int32)) → (nar .char x0 = x0) → (nar .char x1 = x1) → (nar .char x2 = x2) → (nar .char x3 = x3) → (0 < nn → ¬ [x0, x1, x2, x3].getD 0 0 = (47 : Int32)) → (0 < nn → ¬ [x0, x1, x2, x3].getD (nn - 1) 0 = (47 : Int32)) → OGo p.tables e below (own_KqW s (fun v h L => Q_rm0 Z p1 p2 p3 w fm h0 n0 v h L) room_1.cells room_1.slots) (Tla.setTop (mkF m 100 #[.val (.int p1), .val (.int p2), .val (.int p3), .val (.int (Int32.ofNat pn)), .val (.int (Int32.ofNat qn)), .val (.int (Int32.ofNat nn)), .val (.ref b1), .unset, .unset, .unset] [])) := by
    intro x0 x1 x2 x3 Tla hla locsla Xla ela Nla Kla V_b1_a hx0c hx1c hx2c hx3c hfst hlst
    have hms := own_ms hx0c hx1c hx2c hx3c
    refine OGo.via (fun _ k => XS.bipush Xla.here hx rfl (hb hby at_100) k) ?_
    obtain ⟨T6, h6, ka6, X6, e6, E6, A6, Y6, st6⟩ := newPE (ad := "[C") Xla hx hZ (own_w hw 0 rfl) ela (g := (mkF m 102 #[.val (.int p1), .val (.int p2), .val (.int p3), .val (.int (Int32.ofNat pn)), .val (.int (Int32.ofNat qn)), .val (.int (Int32.ofNat nn)), .val (.ref b1), .unset, .unset, .unset] [(.int (10 : Int32))])) rfl (hb hby at_102) rfl (by decide) (cap := 10) (by decide) (by decide) (by decide) (by decide) (by decide)
    obtain ⟨b6, g6⟩ : ∃ z, z = hla.size := ⟨_, rfl⟩
    rw [← g6] at A6 Y6 st6
    refine OGo.via st6 ?_
    have K6 : Keep h0 h6 [] := Kla.ext E6
    have lt_b1_b6 : b1 < b6 := Nat.lt_of_lt_of_le V_b1_a.lt (Nat.le_of_eq g6.symm)
    have sz_b6 : h0.size ≤ b6 := Nat.le_trans Kla.1 (Nat.le_of_eq g6.symm)
    have g_b6 : n0 ≤ b6 := Nat.le_trans Z0 sz_b6
    have V6 : Arv Z h6 b6 ka6 .char (10 : Int32) [(.int (0 : Int32)), (.int (0 : Int32)), (.int (0 : Int32)), (.int (0 : Int32)), (.int (0 : Int32)), (.int (0 : Int32)), (.int (0 : Int32)), (.int (0 : Int32)), (.int (0 : Int32)), (.int (0 : Int32))] (.int (0 : Int32)) := (Arv.new A6 (by decide)).pad (pad_rep [] (.int (0 : Int32)) 10)
    show OGo _ _ _ _ (T6.setTop (mkF m 104 #[.val (.int p1), .val (.int p2), .val (.int p3), .val (.int (Int32.ofNat pn)), .val (.int (Int32.ofNat qn)), .val (.int (Int32.ofNat nn)), .val (.ref b1), .unset, .unset, .unset] [(.ref b6)]))
    refine OGo.via (fun _ k => XS.astore X6.here hx rfl (hb hby at_104) rfl rfl (l' := #[.val (.int p1), .val (.int p2), .val (.int p3), .val (.int (Int32.ofNat pn)), .val (.int (Int32.ofNat qn)), .val (.int (Int32.ofNat nn)), .val (.ref b1), .val (.ref b6), .unset, .unset]) rfl (XS.aload X6.here hx rfl (hb hby at_106) rfl rfl (XS.iconst X6.here hx rfl (hb hby at_108) (XS.iconst X6.here hx rfl (hb hby at_109) (XS.iloadN X6.here hx rfl (hb hby at_110) rfl (XS.iload X6.here hx rfl (hb hby at_111) rfl (XS.aload X6.here hx rfl (hb hby at_113) rfl rfl k))))))) ?_
    have f8 := V_b1_a.ext E6
    obtain ⟨_, T7, Lc7, X7, hQ7, st7⟩ := own_open X6 (Jvm.LawKit.callS X6 hx (y := own_y36) hown (mvT hZ (own_w hw 2 rfl)) (mvT hZ (own_w hw 3 rfl)) (mvT hZ (own_w hw 4 rfl)) (mvT hZ (own_w hw 5 rfl)) (by decide) (backOf (W := 2) (rm1 l Z a0 hw [] b1 ka1 0 pn nn [x0, x1, x2, x3] h6 n0 (Nat.le_trans Z0 K6.1) f8 (by decide) hpn hnn hms) hZ (own_w hw 5 rfl) (own_w hw 4 rfl) (by decide) (by decide)) (g := (mkF m 115 #[.val (.int p1), .val (.int p2), .val (.int p3), .val (.int (Int32.ofNat pn)), .val (.int (Int32.ofNat qn)), .val (.int (Int32.ofNat nn)), .val (.ref b1), .val (.ref b6), .unset, .unset] [(.ref b1), (.int (Int32.ofNat nn)), (.int (Int32.ofNat pn)), (.int (0 : Int32)), (.int (0 : Int32)), (.ref b6)])) rfl (by rw [hml]; rfl) (argsL := [(.int (0 : Int32)), (.int (Int32.ofNat pn)), (.int (Int32.ofNat nn)), (.ref b1)]) (rest := [(.int (0 : Int32)), (.ref b6)]) (lenOf pd_27 rfl) rfl (by show 2 * 0 + _ ≤ _; exact Nat.le_of_eq rfl) (hb hby at_115) (fun _ _ => ⟨rfl, e6, (by decide : 2 + 0 ≤ _), (by decide : 14 + 0 ≤ _)⟩))
    obtain ⟨rfl, N7q, r7_0⟩ := hQ7
    have N7 := Fr.app Nla N7q
    refine OGo.via st7 ?_
    show OGo _ _ _ _ (T7.setTop (mkF m 118 #[.val (.int p1), .val (.int p2), .val (.int p3), .val (.int (Int32.ofNat pn)), .val (.int (Int32.ofNat qn)), .val (.int (Int32.ofNat nn)), .val (.ref b1), .val (.ref b6), .unset, .unset] [(.int (own_cell 0 pn nn [x0, x1, x2, x3])), (.int (0 : Int32)), (.ref b6)]))
    obtain ⟨cl9, Ar9, q9, Sz9, Ng9, Hs9, Gf9⟩ := id V6
    have hin9 : ¬ ((0 : Int32) < 0 ∨ cl9.slots.size ≤ ((0 : Int32)).toNatClampNeg) := inb_of Sz9 ⟨by decide, by decide⟩
    obtain ⟨T9, h9, X9, e9, W9, st9⟩ := stC X7 hx hZ r7_0 Ar9 (j := (0 : Int32)) hin9 (g := (mkF m 118 #[.val (.int p1), .val (.int p2), .val (.int p3), .val (.int (Int32.ofNat pn)), .val (.int (Int32.ofNat qn)), .val (.int (Int32.ofNat nn)), .val (.ref b1), .val (.ref b6), .unset, .unset] [(.int (own_cell 0 pn nn [x0, x1, x2, x3])), (.int (0 : Int32)), (.ref b6)])) rfl rfl (hb hby at_118)
    refine OGo.via st9 ?_
    have V9 : Arv Z h9 b6 ka6 .char (10 : Int32) [(.int (nar .char (own_cell 0 pn nn [x0, x1, x2, x3]))), (.int (0 : Int32)), (.int (0 : Int32)), (.int (0 : Int32)), (.int (0 : Int32)), (.int (0 : Int32)), (.int (0 : Int32)), (.int (0 : Int32)), (.int (0 : Int32)), (.int (0 : Int32))] (.int (0 : Int32)) := Arv.set Ar9 q9 Sz9 Ng9 Hs9 Gf9 (fits_nar_char _) W9 0 rfl (Nat.le_of_ble_eq_true rfl)
    have K9 : Keep h0 h9 [] := K6.wr W9 (Or.inr sz_b6)
    have N9 := Fr.snoc X9 N7 g_b6
    show OGo _ _ _ _ (T9.setTop (mkF m 119 #[.val (.int p1), .val (.int p2), .val (.int p3), .val (.int (Int32.ofNat pn)), .val (.int (Int32.ofNat qn)), .val (.int (Int32.ofNat nn)), .val (.ref b1), .val (.ref b6), .unset, .unset] []))
    refine OGo.via (fun _ k => XS.aload X9.here hx rfl (hb hby at_119) rfl rfl (XS.iconst X9.here hx rfl (hb hby at_121) (XS.iconst X9.here hx rfl (hb hby at_122) (XS.iloadN X9.here hx rfl (hb hby at_123) rfl (XS.iload X9.here hx rfl (hb hby at_124) rfl (XS.aload X9.here hx rfl (hb hby at_126) rfl rfl k)))))) ?_
    have f11 := f8.other W9 (Nat.ne_of_lt lt_b1_b6)
    obtain ⟨_, T10, Lc10, X10, hQ10, st10⟩ := own_open X9 (Jvm.LawKit.callS X9 hx (y := own_y36) hown (mvT hZ (own_w hw 2 rfl)) (mvT hZ (own_w hw 3 rfl)) (mvT hZ (own_w hw 4 rfl)) (mvT hZ (own_w hw 5 rfl)) (by decide) (backOf (W := 2) (rm1 l Z a0 hw [] b1 ka1 1 pn nn [x0, x1, x2, x3] h9 n0 (Nat.le_trans Z0 K9.1) f11 (by decide) hpn hnn hms) hZ (own_w hw 5 rfl) (own_w hw 4 rfl) (by decide) (by decide)) (g := (mkF m 128 #[.val (.int p1), .val (.int p2), .val (.int p3), .val (.int (Int32.ofNat pn)), .val (.int (Int32.ofNat qn)), .val (.int (Int32.ofNat nn)), .val (.ref b1), .val (.ref b6), .unset, .unset] [(.ref b1), (.int (Int32.ofNat nn)), (.int (Int32.ofNat pn)), (.int (1 : Int32)), (.int (1 : Int32)), (.ref b6)])) rfl (by rw [hml]; rfl) (argsL := [(.int (1 : Int32)), (.int (Int32.ofNat pn)), (.int (Int32.ofNat nn)), (.ref b1)]) (rest := [(.int (1 : Int32)), (.ref b6)]) (lenOf pd_27 rfl) rfl (by show 2 * 0 + _ ≤ _; exact Nat.le_of_eq rfl) (hb hby at_128) (fun _ _ => ⟨rfl, e9, (by decide : 2 + 0 ≤ _), (by decide : 14 + 0 ≤ _)⟩))
    obtain ⟨rfl, N10q, r10_0⟩ := hQ10
    have N10 := Fr.app N9 N10q
    refine OGo.via st10 ?_
    show OGo _ _ _ _ (T10.setTop (mkF m 131 #[.val (.int p1), .val (.int p2), .val (.int p3), .val (.int (Int32.ofNat pn)), .val (.int (Int32.ofNat qn)), .val (.int (Int32.ofNat nn)), .val (.ref b1), .val (.ref b6), .unset, .unset] [(.int (own_cell 1 pn nn [x0, x1, x2, x3])), (.int (1 : Int32)), (.ref b6)]))
    obtain ⟨cl12, Ar12, q12, Sz12, Ng12, Hs12, Gf12⟩ := id V9
    have hin12 : ¬ ((1 : Int32) < 0 ∨ cl12.slots.size ≤ ((1 : Int32)).toNatClampNeg) := inb_of Sz12 ⟨by decide, by decide⟩
    obtain ⟨T12, h12, X12, e12, W12, st12⟩ := stC X10 hx hZ r10_0 Ar12 (j := (1 : Int32)) hin12 (g := (mkF m 131 #[.val (.int p1), .val (.int p2), .val (.int p3), .val (.int (Int32.ofNat pn)), .val (.int (Int32.ofNat qn)), .val (.int (Int32.ofNat nn)), .val (.ref b1), .val (.ref b6), .unset, .unset] [(.int (own_cell 1 pn nn [x0, x1, x2, x3])), (.int (1 : Int32)), (.ref b6)])) rfl rfl (hb hby at_131)
    refine OGo.via st12 ?_
    have V12 : Arv Z h12 b6 ka6 .char (10 : Int32) [(.int (nar .char (own_cell 0 pn nn [x0, x1, x2, x3]))), (.int (nar .char (own_cell 1 pn nn [x0, x1, x2, x3]))), (.int (0 : Int32)), (.int (0 : Int32)), (.int (0 : Int32)), (.int (0 : Int32)), (.int (0 : Int32)), (.int (0 : Int32)), (.int (0 : Int32)), (.int (0 : Int32))] (.int (0 : Int32)) := Arv.set Ar12 q12 Sz12 Ng12 Hs12 Gf12 (fits_nar_char _) W12 1 rfl (Nat.le_of_ble_eq_true rfl)
    have K12 : Keep h0 h12 [] := K9.wr W12 (Or.inr sz_b6)
    have N12 := Fr.snoc X12 N10 g_b6
    show OGo _ _ _ _ (T12.setTop (mkF m 132 #[.val (.int p1), .val (.int p2), .val (.int p3), .val (.int (Int32.ofNat pn)), .val (.int (Int32.ofNat qn)), .val (.int (Int32.ofNat nn)), .val (.ref b1), .val (.ref b6), .unset, .unset] []))
    refine OGo.via (fun _ k => XS.aload X12.here hx rfl (hb hby at_132) rfl rfl (XS.iconst X12.here hx rfl (hb hby at_134) (XS.iconst X12.here hx rfl (hb hby at_135) (XS.iloadN X12.here hx rfl (hb hby at_136) rfl (XS.iload X12.here hx rfl (hb hby at_137) rfl (XS.aload X12.here hx rfl (hb hby at_139) rfl rfl k)))))) ?_
    have f14 := f11.other W12 (Nat.ne_of_lt lt_b1_b6)
    obtain ⟨_, T13, Lc13, X13, hQ13, st13⟩ := own_open X12 (Jvm.LawKit.callS X12 hx (y := own_y36) hown (mvT hZ (own_w hw 2 rfl)) (mvT hZ (own_w hw 3 rfl)) (mvT hZ (own_w hw 4 rfl)) (mvT hZ (own_w hw 5 rfl)) (by decide) (backOf (W := 2) (rm1 l Z a0 hw [] b1 ka1 2 pn nn [x0, x1, x2, x3] h12 n0 (Nat.le_trans Z0 K12.1) f14 (by decide) hpn hnn hms) hZ (own_w hw 5 rfl) (own_w hw 4 rfl) (by decide) (by decide)) (g := (mkF m 141 #[.val (.int p1), .val (.int p2), .val (.int p3), .val (.int (Int32.ofNat pn)), .val (.int (Int32.ofNat qn)), .val (.int (Int32.ofNat nn)), .val (.ref b1), .val (.ref b6), .unset, .unset] [(.ref b1), (.int (Int32.ofNat nn)), (.int (Int32.ofNat pn)), (.int (2 : Int32)), (.int (2 : Int32)), (.ref b6)])) rfl (by rw [hml]; rfl) (argsL := [(.int (2 : Int32)), (.int (Int32.ofNat pn)), (.int (Int32.ofNat nn)), (.ref b1)]) (rest := [(.int (2 : Int32)), (.ref b6)]) (lenOf pd_27 rfl) rfl (by show 2 * 0 + _ ≤ _; exact Nat.le_of_eq rfl) (hb hby at_141) (fun _ _ => ⟨rfl, e12, (by decide : 2 + 0 ≤ _), (by decide : 14 + 0 ≤ _)⟩))
    obtain ⟨rfl, N13q, r13_0⟩ := hQ13
    have N13 := Fr.app N12 N13q
    refine OGo.via st13 ?_
    show OGo _ _ _ _ (T13.setTop (mkF m 144 #[.val (.int p1), .val (.int p2), .val (.int p3), .val (.int (Int32.ofNat pn)), .val (.int (Int32.ofNat qn)), .val (.int (Int32.ofNat nn)), .val (.ref b1), .val (.ref b6), .unset, .unset] [(.int (own_cell 2 pn nn [x0, x1, x2, x3])), (.int (2 : Int32)), (.ref b6)]))
    obtain ⟨cl15, Ar15, q15, Sz15, Ng15, Hs15, Gf15⟩ := id V12
    have hin15 : ¬ ((2 : Int32) < 0 ∨ cl15.slots.size ≤ ((2 : Int32)).toNatClampNeg) := inb_of Sz15 ⟨by decide, by decide⟩
    obtain ⟨T15, h15, X15, e15, W15, st15⟩ := stC X13 hx hZ r13_0 Ar15 (j := (2 : Int32)) hin15 (g := (mkF m 144 #[.val (.int p1), .val (.int p2), .val (.int p3), .val (.int (Int32.ofNat pn)), .val (.int (Int32.ofNat qn)), .val (.int (Int32.ofNat nn)), .val (.ref b1), .val (.ref b6), .unset, .unset] [(.int (own_cell 2 pn nn [x0, x1, x2, x3])), (.int (2 : Int32)), (.ref b6)])) rfl rfl (hb hby at_144)
    refine OGo.via st15 ?_
    have V15 : Arv Z h15 b6 ka6 .char (10 : Int32) [(.int (nar .char (own_cell 0 pn nn [x0, x1, x2, x3]))), (.int (nar .char (own_cell 1 pn nn [x0, x1, x2, x3]))), (.int (nar .char (own_cell 2 pn nn [x0, x1, x2, x3]))), (.int (0 : Int32)), (.int (0 : Int32)), (.int (0 : Int32)), (.int (0 : Int32)), (.int (0 : Int32)), (.int (0 : Int32)), (.int (0 : Int32))] (.int (0 : Int32)) := Arv.set Ar15 q15 Sz15 Ng15 Hs15 Gf15 (fits_nar_char _) W15 2 rfl (Nat.le_of_ble_eq_true rfl)
    have K15 : Keep h0 h15 [] := K12.wr W15 (Or.inr sz_b6)
    have N15 := Fr.snoc X15 N13 g_b6
    show OGo _ _ _ _ (T15.setTop (mkF m 145 #[.val (.int p1), .val (.int p2), .val (.int p3), .val (.int (Int32.ofNat pn)), .val (.int (Int32.ofNat qn)), .val (.int (Int32.ofNat nn)), .val (.ref b1), .val (.ref b6), .unset, .unset] []))
    refine OGo.via (fun _ k => XS.aload X15.here hx rfl (hb hby at_145) rfl rfl (XS.iconst X15.here hx rfl (hb hby at_147) (XS.iconst X15.here hx rfl (hb hby at_148) (XS.iloadN X15.here hx rfl (hb hby at_149) rfl (XS.iload X15.here hx rfl (hb hby at_150) rfl (XS.aload X15.here hx rfl (hb hby at_152) rfl rfl k)))))) ?_
    have f17 := f14.other W15 (Nat.ne_of_lt lt_b1_b6)
    obtain ⟨_, T16, Lc16, X16, hQ16, st16⟩ := own_open X15 (Jvm.LawKit.callS X15 hx (y := own_y36) hown (mvT hZ (own_w hw 2 rfl)) (mvT hZ (own_w hw 3 rfl)) (mvT hZ (own_w hw 4 rfl)) (mvT hZ (own_w hw 5 rfl)) (by decide) (backOf (W := 2) (rm1 l Z a0 hw [] b1 ka1 3 pn nn [x0, x1, x2, x3] h15 n0 (Nat.le_trans Z0 K15.1) f17 (by decide) hpn hnn hms) hZ (own_w hw 5 rfl) (own_w hw 4 rfl) (by decide) (by decide)) (g := (mkF m 154 #[.val (.int p1), .val (.int p2), .val (.int p3), .val (.int (Int32.ofNat pn)), .val (.int (Int32.ofNat qn)), .val (.int (Int32.ofNat nn)), .val (.ref b1), .val (.ref b6), .unset, .unset] [(.ref b1), (.int (Int32.ofNat nn)), (.int (Int32.ofNat pn)), (.int (3 : Int32)), (.int (3 : Int32)), (.ref b6)])) rfl (by rw [hml]; rfl) (argsL := [(.int (3 : Int32)), (.int (Int32.ofNat pn)), (.int (Int32.ofNat nn)), (.ref b1)]) (rest := [(.int (3 : Int32)), (.ref b6)]) (lenOf pd_27 rfl) rfl (by show 2 * 0 + _ ≤ _; exact Nat.le_of_eq rfl) (hb hby at_154) (fun _ _ => ⟨rfl, e15, (by decide : 2 + 0 ≤ _), (by decide : 14 + 0 ≤ _)⟩))
    obtain ⟨rfl, N16q, r16_0⟩ := hQ16
    have N16 := Fr.app N15 N16q
    refine OGo.via st16 ?_
    show OGo _ _ _ _ (T16.setTop (mkF m 157 #[.val (.int p1), .val (.int p2), .val (.int p3), .val (.int (Int32.ofNat pn)), .val (.int (Int32.ofNat qn)), .val (.int (Int32.ofNat nn)), .val (.ref b1), .val (.ref b6), .unset, .unset] [(.int (own_cell 3 pn nn [x0, x1, x2, x3])), (.int (3 : Int32)), (.ref b6)]))
    obtain ⟨cl18, Ar18, q18, Sz18, Ng18, Hs18, Gf18⟩ := id V15
    have hin18 : ¬ ((3 : Int32) < 0 ∨ cl18.slots.size ≤ ((3 : Int32)).toNatClampNeg) := inb_of Sz18 ⟨by decide, by decide⟩
    obtain ⟨T18, h18, X18, e18, W18, st18⟩ := stC X16 hx hZ r16_0 Ar18 (j := (3 : Int32)) hin18 (g := (mkF m 157 #[.val (.int p1), .val (.int p2), .val (.int p3), .val (.int (Int32.ofNat pn)), .val (.int (Int32.ofNat qn)), .val (.int (Int32.ofNat nn)), .val (.ref b1), .val (.ref b6), .unset, .unset] [(.int (own_cell 3 pn nn [x0, x1, x2, x3])), (.int (3 : Int32)), (.ref b6)])) rfl rfl (hb hby at_157)
    refine OGo.via st18 ?_
    have V18 : Arv Z h18 b6 ka6 .char (10 : Int32) [(.int (nar .char (own_cell 0 pn nn [x0, x1, x2, x3]))), (.int (nar .char (own_cell 1 pn nn [x0, x1, x2, x3]))), (.int (nar .char (own_cell 2 pn nn [x0, x1, x2, x3]))), (.int (nar .char (own_cell 3 pn nn [x0, x1, x2, x3]))), (.int (0 : Int32)), (.int (0 : Int32)), (.int (0 : Int32)), (.int (0 : Int32)), (.int (0 : Int32)), (.int (0 : Int32))] (.int (0 : Int32)) := Arv.set Ar18 q18 Sz18 Ng18 Hs18 Gf18 (fits_nar_char _) W18 3 rfl (Nat.le_of_ble_eq_true rfl)
    have K18 : Keep h0 h18 [] := K15.wr W18 (Or.inr sz_b6)
    have N18 := Fr.snoc X18 N16 g_b6
    show OGo _ _ _ _ (T18.setTop (mkF m 158 #[.val (.int p1), .val (.int p2), .val (.int p3), .val (.int (Int32.ofNat pn)), .val (.int (Int32.ofNat qn)), .val (.int (Int32.ofNat nn)), .val (.ref b1), .val (.ref b6), .unset, .unset] []))
    refine OGo.via (fun _ k => XS.aload X18.here hx rfl (hb hby at_158) rfl rfl (XS.iconst X18.here hx rfl (hb hby at_160) (XS.iconst X18.here hx rfl (hb hby at_161) (XS.iloadN X18.here hx rfl (hb hby at_162) rfl (XS.iload X18.here hx rfl (hb hby at_163) rfl (XS.aload X18.here hx rfl (hb hby at_165) rfl rfl k)))))) ?_
    have f20 := f17.other W18 (Nat.ne_of_lt lt_b1_b6)
    obtain ⟨_, T19, Lc19, X19, hQ19, st19⟩ := own_open X18 (Jvm.LawKit.callS X18 hx (y := own_y36) hown (mvT hZ (own_w hw 2 rfl)) (mvT hZ (own_w hw 3 rfl)) (mvT hZ (own_w hw 4 rfl)) (mvT hZ (own_w hw 5 rfl)) (by decide) (backOf (W := 2) (rm1 l Z a0 hw [] b1 ka1 4 pn nn [x0, x1, x2, x3] h18 n0 (Nat.le_trans Z0 K18.1) f20 (by decide) hpn hnn hms) hZ (own_w hw 5 rfl) (own_w hw 4 rfl) (by decide) (by decide)) (g := (mkF m 167 #[.val (.int p1), .val (.int p2), .val (.int p3), .val (.int (Int32.ofNat pn)), .val (.int (Int32.ofNat qn)), .val (.int (Int32.ofNat nn)), .val (.ref b1), .val (.ref b6), .unset, .unset] [(.ref b1), (.int (Int32.ofNat nn)), (.int (Int32.ofNat pn)), (.int (4 : Int32)), (.int (4 : Int32)), (.ref b6)])) rfl (by rw [hml]; rfl) (argsL := [(.int (4 : Int32)), (.int (Int32.ofNat pn)), (.int (Int32.ofNat nn)), (.ref b1)]) (rest := [(.int (4 : Int32)), (.ref b6)]) (lenOf pd_27 rfl) rfl (by show 2 * 0 + _ ≤ _; exact Nat.le_of_eq rfl) (hb hby at_167) (fun _ _ => ⟨rfl, e18, (by decide : 2 + 0 ≤ _), (by decide : 14 + 0 ≤ _)⟩))
    obtain ⟨rfl, N19q, r19_0⟩ := hQ19
    have N19 := Fr.app N18 N19q
    refine OGo.via st19 ?_
    show OGo _ _ _ _ (T19.setTop (mkF m 170 #[.val (.int p1), .val (.int p2), .val (.int p3), .val (.int (Int32.ofNat pn)), .val (.int (Int32.ofNat qn)), .val (.int (Int32.ofNat nn)), .val (.ref b1), .val (.ref b6), .unset, .unset] [(.int (own_cell 4 pn nn [x0, x1, x2, x3])), (.int (4 : Int32)), (.ref b6)]))
    obtain ⟨cl21, Ar21, q21, Sz21, Ng21, Hs21, Gf21⟩ := id V18
    have hin21 : ¬ ((4 : Int32) < 0 ∨ cl21.slots.size ≤ ((4 : Int32)).toNatClampNeg) := inb_of Sz21 ⟨by decide, by decide⟩
    obtain ⟨T21, h21, X21, e21, W21, st21⟩ := stC X19 hx hZ r19_0 Ar21 (j := (4 : Int32)) hin21 (g := (mkF m 170 #[.val (.int p1), .val (.int p2), .val (.int p3), .val (.int (Int32.ofNat pn)), .val (.int (Int32.ofNat qn)), .val (.int (Int32.ofNat nn)), .val (.ref b1), .val (.ref b6), .unset, .unset] [(.int (own_cell 4 pn nn [x0, x1, x2, x3])), (.int (4 : Int32)), (.ref b6)])) rfl rfl (hb hby at_170)
    refine OGo.via st21 ?_
    have V21 : Arv Z h21 b6 ka6 .char (10 : Int32) [(.int (nar .char (own_cell 0 pn nn [x0, x1, x2, x3]))), (.int (nar .char (own_cell 1 pn nn [x0, x1, x2, x3]))), (.int (nar .char (own_cell 2 pn nn [x0, x1, x2, x3]))), (.int (nar .char (own_cell 3 pn nn [x0, x1, x2, x3]))), (.int (nar .char (own_cell 4 pn nn [x0, x1, x2, x3]))), (.int (0 : Int32)), (.int (0 : Int32)), (.int (0 : Int32)), (.int (0 : Int32)), (.int (0 : Int32))] (.int (0 : Int32)) := Arv.set Ar21 q21 Sz21 Ng21 Hs21 Gf21 (fits_nar_char _) W21 4 rfl (Nat.le_of_ble_eq_true rfl)
    have K21 : Keep h0 h21 [] := K18.wr W21 (Or.inr sz_b6)
    have N21 := Fr.snoc X21 N19 g_b6
    show OGo _ _ _ _ (T21.setTop (mkF m 171 #[.val (.int p1), .val (.int p2), .val (.int p3), .val (.int (Int32.ofNat pn)), .val (.int (Int32.ofNat qn)), .val (.int (Int32.ofNat nn)), .val (.ref b1), .val (.ref b6), .unset, .unset] []))
    refine OGo.via (fun _ k => XS.aload X21.here hx rfl (hb hby at_171) rfl rfl (XS.iconst X21.here hx rfl (hb hby at_173) (XS.iconst X21.here hx rfl (hb hby at_174) (XS.iloadN X21.here hx rfl (hb hby at_175) rfl (XS.iload X21.here hx rfl (hb hby at_176) rfl (XS.aload X21.here hx rfl (hb hby at_178) rfl rfl k)))))) ?_
    have f23 := f20.other W21 (Nat.ne_of_lt lt_b1_b6)
    obtain ⟨_, T22, Lc22, X22, hQ22, st22⟩ := own_open X21 (Jvm.LawKit.callS X21 hx (y := own_y36) hown (mvT hZ (own_w hw 2 rfl)) (mvT hZ (own_w hw 3 rfl)) (mvT hZ (own_w hw 4 rfl)) (mvT hZ (own_w hw 5 rfl)) (by decide) (backOf (W := 2) (rm1 l Z a0 hw [] b1 ka1 5 pn nn [x0, x1, x2, x3] h21 n0 (Nat.le_trans Z0 K21.1) f23 (by decide) hpn hnn hms) hZ (own_w hw 5 rfl) (own_w hw 4 rfl) (by decide) (by decide)) (g := (mkF m 180 #[.val (.int p1), .val (.int p2), .val (.int p3), .val (.int (Int32.ofNat pn)), .val (.int (Int32.ofNat qn)), .val (.int (Int32.ofNat nn)), .val (.ref b1), .val (.ref b6), .unset, .unset] [(.ref b1), (.int (Int32.ofNat nn)), (.int (Int32.ofNat pn)), (.int (5 : Int32)), (.int (5 : Int32)), (.ref b6)])) rfl (by rw [hml]; rfl) (argsL := [(.int (5 : Int32)), (.int (Int32.ofNat pn)), (.int (Int32.ofNat nn)), (.ref b1)]) (rest := [(.int (5 : Int32)), (.ref b6)]) (lenOf pd_27 rfl) rfl (by show 2 * 0 + _ ≤ _; exact Nat.le_of_eq rfl) (hb hby at_180) (fun _ _ => ⟨rfl, e21, (by decide : 2 + 0 ≤ _), (by decide : 14 + 0 ≤ _)⟩))
    obtain ⟨rfl, N22q, r22_0⟩ := hQ22
    have N22 := Fr.app N21 N22q
    refine OGo.via st22 ?_
    show OGo _ _ _ _ (T22.setTop (mkF m 183 #[.val (.int p1), .val (.int p2), .val (.int p3), .val (.int (Int32.ofNat pn)), .val (.int (Int32.ofNat qn)), .val (.int (Int32.ofNat nn)), .val (.ref b1), .val (.ref b6), .unset, .unset] [(.int (own_cell 5 pn nn [x0, x1, x2, x3])), (.int (5 : Int32)), (.ref b6)]))
    obtain ⟨cl24, Ar24, q24, Sz24, Ng24, Hs24, Gf24⟩ := id V21
    have hin24 : ¬ ((5 : Int32) < 0 ∨ cl24.slots.size ≤ ((5 : Int32)).toNatClampNeg) := inb_of Sz24 ⟨by decide, by decide⟩
    obtain ⟨T24, h24, X24, e24, W24, st24⟩ := stC X22 hx hZ r22_0 Ar24 (j := (5 : Int32)) hin24 (g := (mkF m 183 #[.val (.int p1), .val (.int p2), .val (.int p3), .val (.int (Int32.ofNat pn)), .val (.int (Int32.ofNat qn)), .val (.int (Int32.ofNat nn)), .val (.ref b1), .val (.ref b6), .unset, .unset] [(.int (own_cell 5 pn nn [x0, x1, x2, x3])), (.int (5 : Int32)), (.ref b6)])) rfl rfl (hb hby at_183)
    refine OGo.via st24 ?_
    have V24 : Arv Z h24 b6 ka6 .char (10 : Int32) [(.int (nar .char (own_cell 0 pn nn [x0, x1, x2, x3]))), (.int (nar .char (own_cell 1 pn nn [x0, x1, x2, x3]))), (.int (nar .char (own_cell 2 pn nn [x0, x1, x2, x3]))), (.int (nar .char (own_cell 3 pn nn [x0, x1, x2, x3]))), (.int (nar .char (own_cell 4 pn nn [x0, x1, x2, x3]))), (.int (nar .char (own_cell 5 pn nn [x0, x1, x2, x3]))), (.int (0 : Int32)), (.int (0 : Int32)), (.int (0 : Int32)), (.int (0 : Int32))] (.int (0 : Int32)) := Arv.set Ar24 q24 Sz24 Ng24 Hs24 Gf24 (fits_nar_char _) W24 5 rfl (Nat.le_of_ble_eq_true rfl)
    have K24 : Keep h0 h24 [] := K21.wr W24 (Or.inr sz_b6)
    have N24 := Fr.snoc X24 N22 g_b6
    show OGo _ _ _ _ (T24.setTop (mkF m 184 #[.val (.int p1), .val (.int p2), .val (.int p3), .val (.int (Int32.ofNat pn)), .val (.int (Int32.ofNat qn)), .val (.int (Int32.ofNat nn)), .val (.ref b1), .val (.ref b6), .unset, .unset] []))
    refine OGo.via (fun _ k => XS.aload X24.here hx rfl (hb hby at_184) rfl rfl (XS.bipush X24.here hx rfl (hb hby at_186) (XS.bipush X24.here hx rfl (hb hby at_188) (XS.iloadN X24.here hx rfl (hb hby at_190) rfl (XS.iload X24.here hx rfl (hb hby at_191) rfl (XS.aload X24.here hx rfl (hb hby at_193) rfl rfl k)))))) ?_
    have f26 := f23.other W24 (Nat.ne_of_lt lt_b1_b6)
    obtain ⟨_, T25, Lc25, X25, hQ25, st25⟩ := own_open X24 (Jvm.LawKit.callS X24 hx (y := own_y36) hown (mvT hZ (own_w hw 2 rfl)) (mvT hZ (own_w hw 3 rfl)) (mvT hZ (own_w hw 4 rfl)) (mvT hZ (own_w hw 5 rfl)) (by decide) (backOf (W := 2) (rm1 l Z a0 hw [] b1 ka1 6 pn nn [x0, x1, x2, x3] h24 n0 (Nat.le_trans Z0 K24.1) f26 (by decide) hpn hnn hms) hZ (own_w hw 5 rfl) (own_w hw 4 rfl) (by decide) (by decide)) (g := (mkF m 195 #[.val (.int p1), .val (.int p2), .val (.int p3), .val (.int (Int32.ofNat pn)), .val (.int (Int32.ofNat qn)), .val (.int (Int32.ofNat nn)), .val (.ref b1), .val (.ref b6), .unset, .unset] [(.ref b1), (.int (Int32.ofNat nn)), (.int (Int32.ofNat pn)), (.int (6 : Int32)), (.int (6 : Int32)), (.ref b6)])) rfl (by rw [hml]; rfl) (argsL := [(.int (6 : Int32)), (.int (Int32.ofNat pn)), (.int (Int32.ofNat nn)), (.ref b1)]) (rest := [(.int (6 : Int32)), (.ref b6)]) (lenOf pd_27 rfl) rfl (by show 2 * 0 + _ ≤ _; exact Nat.le_of_eq rfl) (hb hby at_195) (fun _ _ => ⟨rfl, e24, (by decide : 2 + 0 ≤ _), (by decide : 14 + 0 ≤ _)⟩))
    obtain ⟨rfl, N25q, r25_0⟩ := hQ25
    have N25 := Fr.app N24 N25q
    refine OGo.via st25 ?_
    show OGo _ _ _ _ (T25.setTop (mkF m 198 #[.val (.int p1), .val (.int p2), .val (.int p3), .val (.int (Int32.ofNat pn)), .val (.int (Int32.ofNat qn)), .val (.int (Int32.ofNat nn)), .val (.ref b1), .val (.ref b6), .unset, .unset] [(.int (own_cell 6 pn nn [x0, x1, x2, x3])), (.int (6 : Int32)), (.ref b6)]))
    obtain ⟨cl27, Ar27, q27, Sz27, Ng27, Hs27, Gf27⟩ := id V24
    have hin27 : ¬ ((6 : Int32) < 0 ∨ cl27.slots.size ≤ ((6 : Int32)).toNatClampNeg) := inb_of Sz27 ⟨by decide, by decide⟩
    obtain ⟨T27, h27, X27, e27, W27, st27⟩ := stC X25 hx hZ r25_0 Ar27 (j := (6 : Int32)) hin27 (g := (mkF m 198 #[.val (.int p1), .val (.int p2), .val (.int p3), .val (.int (Int32.ofNat pn)), .val (.int (Int32.ofNat qn)), .val (.int (Int32.ofNat nn)), .val (.ref b1), .val (.ref b6), .unset, .unset] [(.int (own_cell 6 pn nn [x0, x1, x2, x3])), (.int (6 : Int32)), (.ref b6)])) rfl rfl (hb hby at_198)
    refine OGo.via st27 ?_
    have V27 : Arv Z h27 b6 ka6 .char (10 : Int32) [(.int (nar .char (own_cell 0 pn nn [x0, x1, x2, x3]))), (.int (nar .char (own_cell 1 pn nn [x0, x1, x2, x3]))), (.int (nar .char (own_cell 2 pn nn [x0, x1, x2, x3]))), (.int (nar .char (own_cell 3 pn nn [x0, x1, x2, x3]))), (.int (nar .char (own_cell 4 pn nn [x0, x1, x2, x3]))), (.int (nar .char (own_cell 5 pn nn [x0, x1, x2, x3]))), (.int (nar .char (own_cell 6 pn nn [x0, x1, x2, x3]))), (.int (0 : Int32)), (.int (0 : Int32)), (.int (0 : Int32))] (.int (0 : Int32)) := Arv.set Ar27 q27 Sz27 Ng27 Hs27 Gf27 (fits_nar_char _) W27 6 rfl (Nat.le_of_ble_eq_true rfl)
    have K27 : Keep h0 h27 [] := K24.wr W27 (Or.inr sz_b6)
    have N27 := Fr.snoc X27 N25 g_b6
    show OGo _ _ _ _ (T27.setTop (mkF m 199 #[.val (.int p1), .val (.int p2), .val (.int p3), .val (.int (Int32.ofNat pn)), .val (.int (Int32.ofNat qn)), .val (.int (Int32.ofNat nn)), .val (.ref b1), .val (.ref b6), .unset, .unset] []))
    refine OGo.via (fun _ k => XS.aload X27.here hx rfl (hb hby at_199) rfl rfl (XS.bipush X27.here hx rfl (hb hby at_201) (XS.bipush X27.here hx rfl (hb hby at_203) (XS.iloadN X27.here hx rfl (hb hby at_205) rfl (XS.iload X27.here hx rfl (hb hby at_206) rfl (XS.aload X27.here hx rfl (hb hby at_208) rfl rfl k)))))) ?_
    have f29 := f26.other W27 (Nat.ne_of_lt lt_b1_b6)
    obtain ⟨_, T28, Lc28, X28, hQ28, st28⟩ := own_open X27 (Jvm.LawKit.callS X27 hx (y := own_y36) hown (mvT hZ (own_w hw 2 rfl)) (mvT hZ (own_w hw 3 rfl)) (mvT hZ (own_w hw 4 rfl)) (mvT hZ (own_w hw 5 rfl)) (by decide) (backOf (W := 2) (rm1 l Z a0 hw [] b1 ka1 7 pn nn [x0, x1, x2, x3] h27 n0 (Nat.le_trans Z0 K27.1) f29 (by decide) hpn hnn hms) hZ (own_w hw 5 rfl) (own_w hw 4 rfl) (by decide) (by decide)) (g := (mkF m 210 #[.val (.int p1), .val (.int p2), .val (.int p3), .val (.int (Int32.ofNat pn)), .val (.int (Int32.ofNat qn)), .val (.int (Int32.ofNat nn)), .val (.ref b1), .val (.ref b6), .unset, .unset] [(.ref b1), (.int (Int32.ofNat nn)), (.int (Int32.ofNat pn)), (.int (7 : Int32)), (.int (7 : Int32)), (.ref b6)])) rfl (by rw [hml]; rfl) (argsL := [(.int (7 : Int32)), (.int (Int32.ofNat pn)), (.int (Int32.ofNat nn)), (.ref b1)]) (rest := [(.int (7 : Int32)), (.ref b6)]) (lenOf pd_27 rfl) rfl (by show 2 * 0 + _ ≤ _; exact Nat.le_of_eq rfl) (hb hby at_210) (fun _ _ => ⟨rfl, e27, (by decide : 2 + 0 ≤ _), (by decide : 14 + 0 ≤ _)⟩))
    obtain ⟨rfl, N28q, r28_0⟩ := hQ28
    have N28 := Fr.app N27 N28q
    refine OGo.via st28 ?_
    show OGo _ _ _ _ (T28.setTop (mkF m 213 #[.val (.int p1), .val (.int p2), .val (.int p3), .val (.int (Int32.ofNat pn)), .val (.int (Int32.ofNat qn)), .val (.int (Int32.ofNat nn)), .val (.ref b1), .val (.ref b6), .unset, .unset] [(.int (own_cell 7 pn nn [x0, x1, x2, x3])), (.int (7 : Int32)), (.ref b6)]))
    obtain ⟨cl30, Ar30, q30, Sz30, Ng30, Hs30, Gf30⟩ := id V27
    have hin30 : ¬ ((7 : Int32) < 0 ∨ cl30.slots.size ≤ ((7 : Int32)).toNatClampNeg) := inb_of Sz30 ⟨by decide, by decide⟩
    obtain ⟨T30, h30, X30, e30, W30, st30⟩ := stC X28 hx hZ r28_0 Ar30 (j := (7 : Int32)) hin30 (g := (mkF m 213 #[.val (.int p1), .val (.int p2), .val (.int p3), .val (.int (Int32.ofNat pn)), .val (.int (Int32.ofNat qn)), .val (.int (Int32.ofNat nn)), .val (.ref b1), .val (.ref b6), .unset, .unset] [(.int (own_cell 7 pn nn [x0, x1, x2, x3])), (.int (7 : Int32)), (.ref b6)])) rfl rfl (hb hby at_213)
    refine OGo.via st30 ?_
    have V30 : Arv Z h30 b6 ka6 .char (10 : Int32) [(.int (nar .char (own_cell 0 pn nn [x0, x1, x2, x3]))), (.int (nar .char (own_cell 1 pn nn [x0, x1, x2, x3]))), (.int (nar .char (own_cell 2 pn nn [x0, x1, x2, x3]))), (.int (nar .char (own_cell 3 pn nn [x0, x1, x2, x3]))), (.int (nar .char (own_cell 4 pn nn [x0, x1, x2, x3]))), (.int (nar .char (own_cell 5 pn nn [x0, x1, x2, x3]))), (.int (nar .char (own_cell 6 pn nn [x0, x1, x2, x3]))), (.int (nar .char (own_cell 7 pn nn [x0, x1, x2, x3]))), (.int (0 : Int32)), (.int (0 : Int32))] (.int (0 : Int32)) := Arv.set Ar30 q30 Sz30 Ng30 Hs30 Gf30 (fits_nar_char _) W30 7 rfl (Nat.le_of_ble_eq_true rfl)
    have K30 : Keep h0 h30 [] := K27.wr W30 (Or.inr sz_b6)
    have N30 := Fr.snoc X30 N28 g_b6
    show OGo _ _ _ _ (T30.setTop (mkF m 214 #[.val (.int p1), .val (.int p2), .val (.int p3), .val (.int (Int32.ofNat pn)), .val (.int (Int32.ofNat qn)), .val (.int (Int32.ofNat nn)), .val (.ref b1), .val (.ref b6), .unset, .unset] []))
    refine OGo.via (fun _ k => XS.aload X30.here hx rfl (hb hby at_214) rfl rfl (XS.bipush X30.here hx rfl (hb hby at_216) (XS.bipush X30.here hx rfl (hb hby at_218) (XS.iloadN X30.here hx rfl (hb hby at_220) rfl (XS.iload X30.here hx rfl (hb hby at_221) rfl (XS.aload X30.here hx rfl (hb hby at_223) rfl rfl k)))))) ?_
    have f32 := f29.other W30 (Nat.ne_of_lt lt_b1_b6)
    obtain ⟨_, T31, Lc31, X31, hQ31, st31⟩ := own_open X30 (Jvm.LawKit.callS X30 hx (y := own_y36) hown (mvT hZ (own_w hw 2 rfl)) (mvT hZ (own_w hw 3 rfl)) (mvT hZ (own_w hw 4 rfl)) (mvT hZ (own_w hw 5 rfl)) (by decide) (backOf (W := 2) (rm1 l Z a0 hw [] b1 ka1 8 pn nn [x0, x1, x2, x3] h30 n0 (Nat.le_trans Z0 K30.1) f32 (by decide) hpn hnn hms) hZ (own_w hw 5 rfl) (own_w hw 4 rfl) (by decide) (by decide)) (g := (mkF m 225 #[.val (.int p1), .val (.int p2), .val (.int p3), .val (.int (Int32.ofNat pn)), .val (.int (Int32.ofNat qn)), .val (.int (Int32.ofNat nn)), .val (.ref b1), .val (.ref b6), .unset, .unset] [(.ref b1), (.int (Int32.ofNat nn)), (.int (Int32.ofNat pn)), (.int (8 : Int32)), (.int (8 : Int32)), (.ref b6)])) rfl (by rw [hml]; rfl) (argsL := [(.int (8 : Int32)), (.int (Int32.ofNat pn)), (.int (Int32.ofNat nn)), (.ref b1)]) (rest := [(.int (8 : Int32)), (.ref b6)]) (lenOf pd_27 rfl) rfl (by show 2 * 0 + _ ≤ _; exact Nat.le_of_eq rfl) (hb hby at_225) (fun _ _ => ⟨rfl, e30, (by decide : 2 + 0 ≤ _), (by decide : 14 + 0 ≤ _)⟩))
    obtain ⟨rfl, N31q, r31_0⟩ := hQ31
    have N31 := Fr.app N30 N31q
    refine OGo.via st31 ?_
    show OGo _ _ _ _ (T31.setTop (mkF m 228 #[.val (.int p1), .val (.int p2), .val (.int p3), .val (.int (Int32.ofNat pn)), .val (.int (Int32.ofNat qn)), .val (.int (Int32.ofNat nn)), .val (.ref b1), .val (.ref b6), .unset, .unset] [(.int (own_cell 8 pn nn [x0, x1, x2, x3])), (.int (8 : Int32)), (.ref b6)]))
    obtain ⟨cl33, Ar33, q33, Sz33, Ng33, Hs33, Gf33⟩ := id V30
    have hin33 : ¬ ((8 : Int32) < 0 ∨ cl33.slots.size ≤ ((8 : Int32)).toNatClampNeg) := inb_of Sz33 ⟨by decide, by decide⟩
    obtain ⟨T33, h33, X33, e33, W33, st33⟩ := stC X31 hx hZ r31_0 Ar33 (j := (8 : Int32)) hin33 (g := (mkF m 228 #[.val (.int p1), .val (.int p2), .val (.int p3), .val (.int (Int32.ofNat pn)), .val (.int (Int32.ofNat qn)), .val (.int (Int32.ofNat nn)), .val (.ref b1), .val (.ref b6), .unset, .unset] [(.int (own_cell 8 pn nn [x0, x1, x2, x3])), (.int (8 : Int32)), (.ref b6)])) rfl rfl (hb hby at_228)
    refine OGo.via st33 ?_
    have V33 : Arv Z h33 b6 ka6 .char (10 : Int32) [(.int (nar .char (own_cell 0 pn nn [x0, x1, x2, x3]))), (.int (nar .char (own_cell 1 pn nn [x0, x1, x2, x3]))), (.int (nar .char (own_cell 2 pn nn [x0, x1, x2, x3]))), (.int (nar .char (own_cell 3 pn nn [x0, x1, x2, x3]))), (.int (nar .char (own_cell 4 pn nn [x0, x1, x2, x3]))), (.int (nar .char (own_cell 5 pn nn [x0, x1, x2, x3]))), (.int (nar .char (own_cell 6 pn nn [x0, x1, x2, x3]))), (.int (nar .char (own_cell 7 pn nn [x0, x1, x2, x3]))), (.int (nar .char (own_cell 8 pn nn [x0, x1, x2, x3]))), (.int (0 : Int32))] (.int (0 : Int32)) := Arv.set Ar33 q33 Sz33 Ng33 Hs33 Gf33 (fits_nar_char _) W33 8 rfl (Nat.le_of_ble_eq_true rfl)
    have K33 : Keep h0 h33 [] := K30.wr W33 (Or.inr sz_b6)
    have N33 := Fr.snoc X33 N31 g_b6
    show OGo _ _ _ _ (T33.setTop (mkF m 229 #[.val (.int p1), .val (.int p2), .val (.int p3), .val (.int (Int32.ofNat pn)), .val (.int (Int32.ofNat qn)), .val (.int (Int32.ofNat nn)), .val (.ref b1), .val (.ref b6), .unset, .unset] []))
    refine OGo.via (fun _ k => XS.aload X33.here hx rfl (hb hby at_229) rfl rfl (XS.bipush X33.here hx rfl (hb hby at_231) (XS.bipush X33.here hx rfl (hb hby at_233) (XS.iloadN X33.here hx rfl (hb hby at_235) rfl (XS.iload X33.here hx rfl (hb hby at_236) rfl (XS.aload X33.here hx rfl (hb hby at_238) rfl rfl k)))))) ?_
    have f35 := f32.other W33 (Nat.ne_of_lt lt_b1_b6)
    obtain ⟨_, T34, Lc34, X34, hQ34, st34⟩ := own_open X33 (Jvm.LawKit.callS X33 hx (y := own_y36) hown (mvT hZ (own_w hw 2 rfl)) (mvT hZ (own_w hw 3 rfl)) (mvT hZ (own_w hw 4 rfl)) (mvT hZ (own_w hw 5 rfl)) (by decide) (backOf (W := 2) (rm1 l Z a0 hw [] b1 ka1 9 pn nn [x0, x1, x2, x3] h33 n0 (Nat.le_trans Z0 K33.1) f35 (by decide) hpn hnn hms) hZ (own_w hw 5 rfl) (own_w hw 4 rfl) (by decide) (by decide)) (g := (mkF m 240 #[.val (.int p1), .val (.int p2), .val (.int p3), .val (.int (Int32.ofNat pn)), .val (.int (Int32.ofNat qn)), .val (.int (Int32.ofNat nn)), .val (.ref b1), .val (.ref b6), .unset, .unset] [(.ref b1), (.int (Int32.ofNat nn)), (.int (Int32.ofNat pn)), (.int (9 : Int32)), (.int (9 : Int32)), (.ref b6)])) rfl (by rw [hml]; rfl) (argsL := [(.int (9 : Int32)), (.int (Int32.ofNat pn)), (.int (Int32.ofNat nn)), (.ref b1)]) (rest := [(.int (9 : Int32)), (.ref b6)]) (lenOf pd_27 rfl) rfl (by show 2 * 0 + _ ≤ _; exact Nat.le_of_eq rfl) (hb hby at_240) (fun _ _ => ⟨rfl, e33, (by decide : 2 + 0 ≤ _), (by decide : 14 + 0 ≤ _)⟩))
    obtain ⟨rfl, N34q, r34_0⟩ := hQ34
    have N34 := Fr.app N33 N34q
    refine OGo.via st34 ?_
    show OGo _ _ _ _ (T34.setTop (mkF m 243 #[.val (.int p1), .val (.int p2), .val (.int p3), .val (.int (Int32.ofNat pn)), .val (.int (Int32.ofNat qn)), .val (.int (Int32.ofNat nn)), .val (.ref b1), .val (.ref b6), .unset, .unset] [(.int (own_cell 9 pn nn [x0, x1, x2, x3])), (.int (9 : Int32)), (.ref b6)]))
    obtain ⟨cl36, Ar36, q36, Sz36, Ng36, Hs36, Gf36⟩ := id V33
    have hin36 : ¬ ((9 : Int32) < 0 ∨ cl36.slots.size ≤ ((9 : Int32)).toNatClampNeg) := inb_of Sz36 ⟨by decide, by decide⟩
    obtain ⟨T36, h36, X36, e36, W36, st36⟩ := stC X34 hx hZ r34_0 Ar36 (j := (9 : Int32)) hin36 (g := (mkF m 243 #[.val (.int p1), .val (.int p2), .val (.int p3), .val (.int (Int32.ofNat pn)), .val (.int (Int32.ofNat qn)), .val (.int (Int32.ofNat nn)), .val (.ref b1), .val (.ref b6), .unset, .unset] [(.int (own_cell 9 pn nn [x0, x1, x2, x3])), (.int (9 : Int32)), (.ref b6)])) rfl rfl (hb hby at_243)
    refine OGo.via st36 ?_
    have V36 : Arv Z h36 b6 ka6 .char (10 : Int32) [(.int (nar .char (own_cell 0 pn nn [x0, x1, x2, x3]))), (.int (nar .char (own_cell 1 pn nn [x0, x1, x2, x3]))), (.int (nar .char (own_cell 2 pn nn [x0, x1, x2, x3]))), (.int (nar .char (own_cell 3 pn nn [x0, x1, x2, x3]))), (.int (nar .char (own_cell 4 pn nn [x0, x1, x2, x3]))), (.int (nar .char (own_cell 5 pn nn [x0, x1, x2, x3]))), (.int (nar .char (own_cell 6 pn nn [x0, x1, x2, x3]))), (.int (nar .char (own_cell 7 pn nn [x0, x1, x2, x3]))), (.int (nar .char (own_cell 8 pn nn [x0, x1, x2, x3]))), (.int (nar .char (own_cell 9 pn nn [x0, x1, x2, x3])))] (.int (0 : Int32)) := Arv.set Ar36 q36 Sz36 Ng36 Hs36 Gf36 (fits_nar_char _) W36 9 rfl (Nat.le_of_ble_eq_true rfl)
    have K36 : Keep h0 h36 [] := K33.wr W36 (Or.inr sz_b6)
    have N36 := Fr.snoc X36 N34 g_b6
    show OGo _ _ _ _ (T36.setTop (mkF m 244 #[.val (.int p1), .val (.int p2), .val (.int p3), .val (.int (Int32.ofNat pn)), .val (.int (Int32.ofNat qn)), .val (.int (Int32.ofNat nn)), .val (.ref b1), .val (.ref b6), .unset, .unset] []))
    refine OGo.via (fun _ k => XS.aload X36.here hx rfl (hb hby at_244) rfl rfl (XS.iloadN X36.here hx rfl (hb hby at_246) rfl (XS.iload X36.here hx rfl (hb hby at_247) rfl (XS.iadd X36.here hx rfl (hb hby at_249) rfl (XS.iload X36.here hx rfl (hb hby at_250) rfl (XS.iadd X36.here hx rfl (hb hby at_252) rfl k)))))) ?_
    show OGo _ _ _ _ (T36.setTop (mkF m 253 #[.val (.int p1), .val (.int p2), .val (.int p3), .val (.int (Int32.ofNat pn)), .val (.int (Int32.ofNat qn)), .val (.int (Int32.ofNat nn)), .val (.ref b1), .val (.ref b6), .unset, .unset] [(.int (((Int32.ofNat pn) + (Int32.ofNat nn)) + (Int32.ofNat qn))), (.ref b6)]))
    rw [own_addN pn nn, own_addN (pn + nn) qn]
    show OGo _ _ _ _ (T36.setTop (mkF m 253 #[.val (.int p1), .val (.int p2), .val (.int p3), .val (.int (Int32.ofNat pn)), .val (.int (Int32.ofNat qn)), .val (.int (Int32.ofNat nn)), .val (.ref b1), .val (.ref b6), .unset, .unset] [(.int (Int32.ofNat (pn + nn + qn))), (.ref b6)]))
    rcases (show pn + nn + qn = 0 ∨ (nn = 0 ∧ 0 < pn + nn + qn) ∨ 0 < nn by omega) with hA | ⟨hB, hB2⟩ | hC
    · obtain ⟨rfl, rfl, rfl⟩ : pn = 0 ∧ nn = 0 ∧ qn = 0 := by omega
      show OGo _ _ _ _ (T36.setTop (mkF m 253 #[.val (.int p1), .val (.int p2), .val (.int p3), .val (.int (0 : Int32)), .val (.int (0 : Int32)), .val (.int (0 : Int32)), .val (.ref b1), .val (.ref b6), .unset, .unset] [(.int (0 : Int32)), (.ref b6)]))
      obtain ⟨_, T37, Lc37, X37, hSi37, hQ37, st37⟩ := own_openS X36 (Jvm.RoadKit.callSS X36 hx (y := own_y37) hown (mvT hZ (own_w hw 6 rfl)) (mvT hZ (own_w hw 7 rfl)) (mvT hZ (own_w hw 4 rfl)) (mvT hZ (own_w hw 8 rfl)) (by decide) (own_backOfSH (W := 0) (rm2w l Z a0 hw [] b6 h36 n0 (Nat.le_trans Z0 K36.1) (fun b cl q => K36.2.1 b cl (hz0 ▸ q) nin0) hhc7 hcw) hZH (own_w hw 8 rfl) (own_w hw 4 rfl) (by decide) (by decide)) (g := (mkF m 253 #[.val (.int p1), .val (.int p2), .val (.int p3), .val (.int (0 : Int32)), .val (.int (0 : Int32)), .val (.int (0 : Int32)), .val (.ref b1), .val (.ref b6), .unset, .unset] [(.int (0 : Int32)), (.ref b6)])) rfl (by rw [hml]; rfl) (argsL := [(.ref b6), (.int (0 : Int32))]) (rest := []) (lenOf pd_28 rfl) rfl (by show 2 * 0 + _ ≤ _; exact Nat.le_of_eq rfl) (hb hby at_253) (fun _ _ => ⟨rfl, e36, (by decide : 2 + 4 ≤ _), (by decide : 14 + 8 ≤ _)⟩))
      have hZ37 : Z.Warmed39 (s.setVm T37.vm).vm := State.Warmed39.trans hZ hSi37.1
      have hown37 : (s.setVm T37.vm).vm.findClass "com/example/ianus/ianus/path/UserPathTrimmedPinLaw" = some m.cls := by rw [show (s.setVm T37.vm).vm = T37.vm from rfl, hSi37.1.alike.findClass]; exact hown
      obtain ⟨rp, vp, kp, rfl, N37q, r37_0, r37_1, r37_2, r37_3, r37_4⟩ := hQ37
      have N37 := Fr.app N36 N37q
      have K37 : Keep h0 T37.heap [] := K36.trans r37_0 all0
      refine OGo.via (fun _ k => st37.trans k) ?_
      show OGo _ _ _ _ (T37.setTop (mkF m 256 #[.val (.int p1), .val (.int p2), .val (.int p3), .val (.int (0 : Int32)), .val (.int (0 : Int32)), .val (.int (0 : Int32)), .val (.ref b1), .val (.ref b6), .unset, .unset] [(.ref rp)]))
      refine OGo.via (fun _ k => XS.astore X37.here hx rfl (hb hby at_256) rfl rfl (l' := #[.val (.int p1), .val (.int p2), .val (.int p3), .val (.int (0 : Int32)), .val (.int (0 : Int32)), .val (.int (0 : Int32)), .val (.ref b1), .val (.ref b6), .val (.ref rp), .unset]) rfl (XS.aload X37.here hx rfl (hb hby at_258) rfl rfl k)) ?_
      have f39 := own_staKeep0 S_COMPACT_STRINGS K37
      have f40 := own_staKeep0 S_SIOOBE_FORMATTER K37
      have f41 := own_staKeep0 S__assertionsDisabled K37
      have f42 := own_staKeep0 S_HI_BYTE_SHIFT K37
      have f43 := own_staKeep0 S_LO_BYTE_SHIFT K37
      obtain ⟨_, T38, Lc38, X38, hQ38, st38⟩ := own_open X37 (Jvm.LawKit.callS X37 hx (y := own_y33) hown37 (mvT hZ37 (own_w hw 30 rfl)) (mvT hZ37 (own_w hw 31 rfl)) (mvT hZ37 (own_w hw 32 rfl)) (mvT hZ37 (own_w hw 33 rfl)) (by decide) (backOf (W := 0) (rm60 l Z a0 hw [] rp w fm vp kp T37.heap n0 (Nat.le_trans Z0 K37.1) r37_1 r37_2 r37_3 r37_4 f39 f40 f41 f42 f43 hw0 hr_fm) hZ37 (own_w hw 33 rfl) (own_w hw 32 rfl) (by decide) (by decide)) (g := (mkF m 260 #[.val (.int p1), .val (.int p2), .val (.int p3), .val (.int (0 : Int32)), .val (.int (0 : Int32)), .val (.int (0 : Int32)), .val (.ref b1), .val (.ref b6), .val (.ref rp), .unset] [(.ref rp)])) rfl (by rw [hml]; rfl) (argsL := [(.ref rp)]) (rest := []) (lenOf pd_29 rfl) rfl (by show 2 * 0 + _ ≤ _; exact Nat.le_of_eq rfl) (hb hby at_260) (fun _ _ => ⟨rfl, rfl, (by decide : 6 + 0 ≤ _), (by decide : 22 + 0 ≤ _)⟩))
      obtain ⟨rfl, N38q, r38_0⟩ := hQ38
      have N38 := Fr.app N37 N38q
      refine OGo.via st38 ?_
      show OGo _ _ _ _ (T38.setTop (mkF m 263 #[.val (.int p1), .val (.int p2), .val (.int p3), .val (.int (0 : Int32)), .val (.int (0 : Int32)), .val (.int (0 : Int32)), .val (.ref b1), .val (.ref b6), .val (.ref rp), .unset] [(.ref rp)]))
      refine OGo.via (fun _ k => XS.astore X38.here hx rfl (hb hby at_263) rfl rfl (l' := #[.val (.int p1), .val (.int p2), .val (.int p3), .val (.int (0 : Int32)), .val (.int (0 : Int32)), .val (.int (0 : Int32)), .val (.ref b1), .val (.ref b6), .val (.ref rp), .val (.ref rp)]) rfl (XS.aload X38.here hx rfl (hb hby at_265) rfl rfl k)) ?_
      obtain ⟨cq44, kq44, q44a, q44b, q44c⟩ := isOf hZ37 r38_0 r37_1
      obtain ⟨_, T44, Lc44, X44, hQ44, st44⟩ := own_open X38 (X38.virtualBack hx (y := own_y21) (z := own_y21) hown37 (mvT hZ37 (own_w hw 59 rfl)) (mvT hZ37 (own_w hw 35 rfl)) (notFace_of_selects (args := #[]) (mvT hZ37 (own_w hw 37 rfl))) (mvT hZ37 (own_w hw 37 rfl)) (mvT hZ37 (own_w hw 36 rfl)) (by decide) (backOf (W := 0) (rm7 l Z a0 hw [] rp w ([] : List Int32) (0 : Int32) (0 : Int32) [] vp kp T37.heap n0 (Nat.le_trans Z0 K37.1) r37_1 r37_2 r37_3 r37_4 f39 hw0 (Or.inl ⟨rfl, rfl, rfl, by simp⟩) (by simp)) hZ37 (own_w hw 38 rfl) (own_w hw 11 rfl) (by decide) (by decide)) q44a q44c (g := (mkF m 267 #[.val (.int p1), .val (.int p2), .val (.int p3), .val (.int (0 : Int32)), .val (.int (0 : Int32)), .val (.int (0 : Int32)), .val (.ref b1), .val (.ref b6), .val (.ref rp), .val (.ref rp)] [(.ref rp)])) rfl (by rw [hml]; rfl) (Steps.refl _) (argsL := []) (rest := []) (lenOf pd_20 rfl) rfl (by show 2 * 0 + _ ≤ _; exact Nat.le_of_eq rfl) (hb hby at_267) (fun _ _ => ⟨rfl, r38_0, (by decide : 6 + 0 ≤ _), (by decide : 22 + 0 ≤ _)⟩))
      obtain ⟨rfl, N44q, r44_0⟩ := hQ44
      have N44 := Fr.app N38 N44q
      refine OGo.via (fun _ k => st44.trans k) ?_
      show OGo _ _ _ _ (T44.setTop (mkF m 270 #[.val (.int p1), .val (.int p2), .val (.int p3), .val (.int (0 : Int32)), .val (.int (0 : Int32)), .val (.int (0 : Int32)), .val (.ref b1), .val (.ref b6), .val (.ref rp), .val (.ref rp)] [(.int (Int32.ofNat ([] : List Int32).length))]))
      rw [show Int32.ofNat ([] : List Int32).length = (0 : Int32) from rfl]
      show OGo _ _ _ _ (T44.setTop (mkF m 270 #[.val (.int p1), .val (.int p2), .val (.int p3), .val (.int (0 : Int32)), .val (.int (0 : Int32)), .val (.int (0 : Int32)), .val (.ref b1), .val (.ref b6), .val (.ref rp), .val (.ref rp)] [(.int (0 : Int32))]))
      refine OGo.via (fun _ k => XS.iload X44.here hx rfl (hb hby at_270) rfl (XS.icmpYes X44.here hx rfl (pc0 := 272) (pc' := 277) rfl (hb hby at_272) rfl (teq (by decide : (0 : Int32) = (0 : Int32))).1 (by decide) (by decide) (XS.iload X44.here hx rfl (hb hby at_277) rfl (XS.iconst X44.here hx rfl (hb hby at_279) (XS.icmpYes X44.here hx rfl (pc0 := 280) (pc' := 296) rfl (hb hby at_280) rfl (tlt (by decide : (0 : Int32) < (1 : Int32))).1 (by decide) (by decide) (XS.iload X44.here hx rfl (hb hby at_296) rfl (XS.iconst X44.here hx rfl (hb hby at_298) (XS.icmpYes X44.here hx rfl (pc0 := 299) (pc' := 315) rfl (hb hby at_299) rfl (tlt (by decide : (0 : Int32) < (2 : Int32))).1 (by decide) (by decide) k)))))))) ?_
      show OGo _ _ _ _ (T44.setTop (mkF m 315 #[.val (.int p1), .val (.int p2), .val (.int p3), .val (.int (0 : Int32)), .val (.int (0 : Int32)), .val (.int (0 : Int32)), .val (.ref b1), .val (.ref b6), .val (.ref rp), .val (.ref rp)] []))
      refine OGo.via (fun _ k => XS.iload X44.here hx rfl (hb hby at_315) rfl (XS.iconst X44.here hx rfl (hb hby at_317) (XS.icmpYes X44.here hx rfl (pc0 := 318) (pc' := 334) rfl (hb hby at_318) rfl (tlt (by decide : (0 : Int32) < (3 : Int32))).1 (by decide) (by decide) (XS.iload X44.here hx rfl (hb hby at_334) rfl (XS.iconst X44.here hx rfl (hb hby at_336) (XS.icmpYes X44.here hx rfl (pc0 := 337) (pc' := 353) rfl (hb hby at_337) rfl (tlt (by decide : (0 : Int32) < (4 : Int32))).1 (by decide) (by decide) (XS.iconst X44.here hx rfl (hb hby at_353) (XS.goto X44.here hx rfl (pc0 := 354) (pc' := 358) rfl (hb hby at_354) (by decide) (by decide) k)))))))) ?_
      show OGo _ _ _ _ (T44.setTop (mkF m 358 #[.val (.int p1), .val (.int p2), .val (.int p3), .val (.int (0 : Int32)), .val (.int (0 : Int32)), .val (.int (0 : Int32)), .val (.ref b1), .val (.ref b6), .val (.ref rp), .val (.ref rp)] [(.int (1 : Int32))]))
      show OGo _ _ _ _ (T44.setTop (mkF m 358 #[.val (.int p1), .val (.int p2), .val (.int p3), .val (.int (0 : Int32)), .val (.int (0 : Int32)), .val (.int (0 : Int32)), .val (.ref b1), .val (.ref b6), .val (.ref rp), .val (.ref rp)] [(.int (1 : Int32))]))
      refine own_retNW (t := .boolean) (by simp) X44 hSi37 (Nat.le_trans (Nat.le_refl T37.heap.size) (Nat.le_of_eq (congrArg Array.size (Eq.symm r44_0)))) hx Bd.notSynchronized Bd.returns (hb hby at_358) (by decide) (by decide) ?_
      show Q_rm0 Z _ _ _ _ _ h0 n0 _ T44.heap _
      rw [r44_0]
      exact ⟨rfl, N44⟩
    · obtain rfl : nn = 0 := hB
      show OGo _ _ _ _ (T36.setTop (mkF m 253 #[.val (.int p1), .val (.int p2), .val (.int p3), .val (.int (Int32.ofNat pn)), .val (.int (Int32.ofNat qn)), .val (.int (0 : Int32)), .val (.ref b1), .val (.ref b6), .unset, .unset] [(.int (Int32.ofNat (pn + 0 + qn))), (.ref b6)]))
      have f45 : Arv Z h36 b6 ka6 .char (10 : Int32) [(.int (own_cell 0 pn 0 [x0, x1, x2, x3])), (.int (own_cell 1 pn 0 [x0, x1, x2, x3])), (.int (own_cell 2 pn 0 [x0, x1, x2, x3])), (.int (own_cell 3 pn 0 [x0, x1, x2, x3])), (.int (own_cell 4 pn 0 [x0, x1, x2, x3])), (.int (own_cell 5 pn 0 [x0, x1, x2, x3])), (.int (own_cell 6 pn 0 [x0, x1, x2, x3])), (.int (own_cell 7 pn 0 [x0, x1, x2, x3])), (.int (own_cell 8 pn 0 [x0, x1, x2, x3])), (.int (own_cell 9 pn 0 [x0, x1, x2, x3]))] (.int (0 : Int32)) := (by have q := V36; simp only [own_cellC hms] at q; exact q)
      have f47 := own_staKeep0 S_COMPACT_STRINGS K36
      have f48 := own_staKeep0 S_SIOOBE_FORMATTER K36
      have f49 := own_staKeep0 S__assertionsDisabled K36
      have f50 := own_staKeep0 S_HI_BYTE_SHIFT K36
      have f51 := own_staKeep0 S_LO_BYTE_SHIFT K36
      obtain ⟨_, T46, Lc46, X46, hQ46, st46⟩ := own_open X36 (Jvm.LawKit.callS X36 hx (y := own_y37) hown (mvT hZ (own_w hw 6 rfl)) (mvT hZ (own_w hw 7 rfl)) (mvT hZ (own_w hw 4 rfl)) (mvT hZ (own_w hw 8 rfl)) (by decide) (backOf (W := 0) (rm2 l Z a0 hw [] b6 ka6 (pn + 0 + qn) (own_cell 0 pn 0 [x0, x1, x2, x3]) (own_cell 1 pn 0 [x0, x1, x2, x3]) (own_cell 2 pn 0 [x0, x1, x2, x3]) (own_cell 3 pn 0 [x0, x1, x2, x3]) (own_cell 4 pn 0 [x0, x1, x2, x3]) (own_cell 5 pn 0 [x0, x1, x2, x3]) (own_cell 6 pn 0 [x0, x1, x2, x3]) (own_cell 7 pn 0 [x0, x1, x2, x3]) (own_cell 8 pn 0 [x0, x1, x2, x3]) (own_cell 9 pn 0 [x0, x1, x2, x3]) w fm h36 n0 (Nat.le_trans Z0 K36.1) f45 f47 f48 f49 f50 f51 hw0 (by omega) (by omega) (own_cellC hms) (own_cellC hms) (own_cellC hms) (own_cellC hms) (own_cellC hms) (own_cellC hms) (own_cellC hms) (own_cellC hms) (own_cellC hms) (own_cellC hms)) hZ (own_w hw 8 rfl) (own_w hw 4 rfl) (by decide) (by decide)) (g := (mkF m 253 #[.val (.int p1), .val (.int p2), .val (.int p3), .val (.int (Int32.ofNat pn)), .val (.int (Int32.ofNat qn)), .val (.int (0 : Int32)), .val (.ref b1), .val (.ref b6), .unset, .unset] [(.int (Int32.ofNat (pn + 0 + qn))), (.ref b6)])) rfl (by rw [hml]; rfl) (argsL := [(.ref b6), (.int (Int32.ofNat (pn + 0 + qn)))]) (rest := []) (lenOf pd_28 rfl) rfl (by show 2 * 0 + _ ≤ _; exact Nat.le_of_eq rfl) (hb hby at_253) (fun _ _ => ⟨rfl, e36, (by decide : 2 + 4 ≤ _), (by decide : 14 + 44 ≤ _)⟩))
      obtain ⟨rp, vp, kp, cp, zp, bp, rfl, N46q, r46_0, r46_1, r46_2, r46_3, r46_4, r46_5⟩ := hQ46
      have N46 := Fr.app N36 N46q
      have K46 : Keep h0 T46.heap [] := K36.trans r46_0 all0
      refine OGo.via st46 ?_
      show OGo _ _ _ _ (T46.setTop (mkF m 256 #[.val (.int p1), .val (.int p2), .val (.int p3), .val (.int (Int32.ofNat pn)), .val (.int (Int32.ofNat qn)), .val (.int (0 : Int32)), .val (.ref b1), .val (.ref b6), .unset, .unset] [(.ref rp)]))
      have hrp : own_Rep (List.take (pn + 0 + qn) (own_buf pn 0 [x0, x1, x2, x3])) cp zp bp := r46_5
      have hlen : (List.take (pn + 0 + qn) (own_buf pn 0 [x0, x1, x2, x3])).length = pn + 0 + qn := own_bufL (by omega)
      have hcc : ∀ c ∈ List.take (pn + 0 + qn) (own_buf pn 0 [x0, x1, x2, x3]), nar .char c = c := own_bufC hms
      have hget : ∀ i, i < pn + 0 + qn → (List.take (pn + 0 + qn) (own_buf pn 0 [x0, x1, x2, x3])).getD i 0 = own_cell i pn 0 [x0, x1, x2, x3] := own_bufG (by omega)
      obtain ⟨cs, hcsd⟩ : ∃ z, z = List.take (pn + 0 + qn) (own_buf pn 0 [x0, x1, x2, x3]) := ⟨_, rfl⟩
      rw [← hcsd] at hrp hlen hcc hget
      refine OGo.via (fun _ k => XS.astore X46.here hx rfl (hb hby at_256) rfl rfl (l' := #[.val (.int p1), .val (.int p2), .val (.int p3), .val (.int (Int32.ofNat pn)), .val (.int (Int32.ofNat qn)), .val (.int (0 : Int32)), .val (.ref b1), .val (.ref b6), .val (.ref rp), .unset]) rfl (XS.aload X46.here hx rfl (hb hby at_258) rfl rfl k)) ?_
      have f53 := own_staKeep0 f47 r46_0
      have f54 := own_staKeep0 f48 r46_0
      have f55 := own_staKeep0 f49 r46_0
      have f56 := own_staKeep0 f50 r46_0
      have f57 := own_staKeep0 f51 r46_0
      obtain ⟨_, T52, Lc52, X52, hSi52, hQ52, st52⟩ := own_openS X46 (Jvm.RoadKit.callSS X46 hx (y := own_y33) hown (mvT hZ (own_w hw 30 rfl)) (mvT hZ (own_w hw 31 rfl)) (mvT hZ (own_w hw 32 rfl)) (mvT hZ (own_w hw 33 rfl)) (by decide) (own_backOfSH (W := 0) (rm6w l Z a0 hw [] rp w fm cs cp zp bp vp kp T46.heap n0 (Nat.le_trans Z0 K46.1) r46_1 r46_2 r46_3 r46_4 f53 f54 f55 f56 f57 hw0 hr_fm hrp hcc (by omega) (by omega) (fun i hi => by rw [hget i (by omega), own_cellA (by omega)]) (fun b cl q => K46.2.1 b cl (hz0 ▸ q) nin0) hhc hcw) hZH (own_w hw 33 rfl) (own_w hw 32 rfl) (by decide) (by decide)) (g := (mkF m 260 #[.val (.int p1), .val (.int p2), .val (.int p3), .val (.int (Int32.ofNat pn)), .val (.int (Int32.ofNat qn)), .val (.int (0 : Int32)), .val (.ref b1), .val (.ref b6), .val (.ref rp), .unset] [(.ref rp)])) rfl (by rw [hml]; rfl) (argsL := [(.ref rp)]) (rest := []) (lenOf pd_29 rfl) rfl (by show 2 * 0 + _ ≤ _; exact Nat.le_of_eq rfl) (hb hby at_260) (fun _ _ => ⟨rfl, rfl, (by decide : 6 + 2 ≤ _), (by decide : 58 + 4 ≤ _)⟩))
      have hZ52 : Z.Warmed39 (s.setVm T52.vm).vm := State.Warmed39.trans hZ hSi52.1
      have hown52 : (s.setVm T52.vm).vm.findClass "com/example/ianus/ianus/path/UserPathTrimmedPinLaw" = some m.cls := by rw [show (s.setVm T52.vm).vm = T52.vm from rfl, hSi52.1.alike.findClass]; exact hown
      obtain ⟨rq, vq, kq, rfl, N52q, r52_0, r52_1, r52_2, r52_3, r52_4⟩ := hQ52
      have N52 := Fr.app N46 N52q
      have K52 : Keep h0 T52.heap [] := K46.trans r52_0 all0
      refine OGo.via (fun _ k => st52.trans k) ?_
      show OGo _ _ _ _ (T52.setTop (mkF m 263 #[.val (.int p1), .val (.int p2), .val (.int p3), .val (.int (Int32.ofNat pn)), .val (.int (Int32.ofNat qn)), .val (.int (0 : Int32)), .val (.ref b1), .val (.ref b6), .val (.ref rp), .unset] [(.ref rq)]))
      refine OGo.via (fun _ k => XS.astore X52.here hx rfl (hb hby at_263) rfl rfl (l' := #[.val (.int p1), .val (.int p2), .val (.int p3), .val (.int (Int32.ofNat pn)), .val (.int (Int32.ofNat qn)), .val (.int (0 : Int32)), .val (.ref b1), .val (.ref b6), .val (.ref rp), .val (.ref rq)]) rfl (XS.aload X52.here hx rfl (hb hby at_265) rfl rfl k)) ?_
      have f59 := own_staKeep0 f53 r52_0
      obtain ⟨cq58, kq58, q58a, q58b, q58c⟩ := isOf hZ52 rfl r52_1
      obtain ⟨_, T58, Lc58, X58, hQ58, st58⟩ := own_open X52 (X52.virtualBack hx (y := own_y21) (z := own_y21) hown52 (mvT hZ52 (own_w hw 59 rfl)) (mvT hZ52 (own_w hw 35 rfl)) (notFace_of_selects (args := #[]) (mvT hZ52 (own_w hw 37 rfl))) (mvT hZ52 (own_w hw 37 rfl)) (mvT hZ52 (own_w hw 36 rfl)) (by decide) (backOf (W := 0) (rm7 l Z a0 hw [] rq w ([] : List Int32) (0 : Int32) (0 : Int32) [] vq kq T52.heap n0 (Nat.le_trans Z0 K52.1) r52_1 r52_2 r52_3 r52_4 f59 hw0 (Or.inl ⟨rfl, rfl, rfl, by simp⟩) (by simp)) hZ52 (own_w hw 38 rfl) (own_w hw 11 rfl) (by decide) (by decide)) q58a q58c (g := (mkF m 267 #[.val (.int p1), .val (.int p2), .val (.int p3), .val (.int (Int32.ofNat pn)), .val (.int (Int32.ofNat qn)), .val (.int (0 : Int32)), .val (.ref b1), .val (.ref b6), .val (.ref rp), .val (.ref rq)] [(.ref rq)])) rfl (by rw [hml]; rfl) (Steps.refl _) (argsL := []) (rest := []) (lenOf pd_20 rfl) rfl (by show 2 * 0 + _ ≤ _; exact Nat.le_of_eq rfl) (hb hby at_267) (fun _ _ => ⟨rfl, rfl, (by decide : 8 + 0 ≤ _), (by decide : 62 + 0 ≤ _)⟩))
      obtain ⟨rfl, N58q, r58_0⟩ := hQ58
      have N58 := Fr.app N52 N58q
      refine OGo.via (fun _ k => st58.trans k) ?_
      show OGo _ _ _ _ (T58.setTop (mkF m 270 #[.val (.int p1), .val (.int p2), .val (.int p3), .val (.int (Int32.ofNat pn)), .val (.int (Int32.ofNat qn)), .val (.int (0 : Int32)), .val (.ref b1), .val (.ref b6), .val (.ref rp), .val (.ref rq)] [(.int (Int32.ofNat ([] : List Int32).length))]))
      rw [show Int32.ofNat ([] : List Int32).length = (0 : Int32) from rfl]
      show OGo _ _ _ _ (T58.setTop (mkF m 270 #[.val (.int p1), .val (.int p2), .val (.int p3), .val (.int (Int32.ofNat pn)), .val (.int (Int32.ofNat qn)), .val (.int (0 : Int32)), .val (.ref b1), .val (.ref b6), .val (.ref rp), .val (.ref rq)] [(.int (0 : Int32))]))
      refine OGo.via (fun _ k => XS.iload X58.here hx rfl (hb hby at_270) rfl (XS.icmpYes X58.here hx rfl (pc0 := 272) (pc' := 277) rfl (hb hby at_272) rfl (teq (by decide : (0 : Int32) = (0 : Int32))).1 (by decide) (by decide) (XS.iload X58.here hx rfl (hb hby at_277) rfl (XS.iconst X58.here hx rfl (hb hby at_279) (XS.icmpYes X58.here hx rfl (pc0 := 280) (pc' := 296) rfl (hb hby at_280) rfl (tlt (by decide : (0 : Int32) < (1 : Int32))).1 (by decide) (by decide) (XS.iload X58.here hx rfl (hb hby at_296) rfl (XS.iconst X58.here hx rfl (hb hby at_298) (XS.icmpYes X58.here hx rfl (pc0 := 299) (pc' := 315) rfl (hb hby at_299) rfl (tlt (by decide : (0 : Int32) < (2 : Int32))).1 (by decide) (by decide) k)))))))) ?_
      show OGo _ _ _ _ (T58.setTop (mkF m 315 #[.val (.int p1), .val (.int p2), .val (.int p3), .val (.int (Int32.ofNat pn)), .val (.int (Int32.ofNat qn)), .val (.int (0 : Int32)), .val (.ref b1), .val (.ref b6), .val (.ref rp), .val (.ref rq)] []))
      refine OGo.via (fun _ k => XS.iload X58.here hx rfl (hb hby at_315) rfl (XS.iconst X58.here hx rfl (hb hby at_317) (XS.icmpYes X58.here hx rfl (pc0 := 318) (pc' := 334) rfl (hb hby at_318) rfl (tlt (by decide : (0 : Int32) < (3 : Int32))).1 (by decide) (by decide) (XS.iload X58.here hx rfl (hb hby at_334) rfl (XS.iconst X58.here hx rfl (hb hby at_336) (XS.icmpYes X58.here hx rfl (pc0 := 337) (pc' := 353) rfl (hb hby at_337) rfl (tlt (by decide : (0 : Int32) < (4 : Int32))).1 (by decide) (by decide) (XS.iconst X58.here hx rfl (hb hby at_353) (XS.goto X58.here hx rfl (pc0 := 354) (pc' := 358) rfl (hb hby at_354) (by decide) (by decide) k)))))))) ?_
      show OGo _ _ _ _ (T58.setTop (mkF m 358 #[.val (.int p1), .val (.int p2), .val (.int p3), .val (.int (Int32.ofNat pn)), .val (.int (Int32.ofNat qn)), .val (.int (0 : Int32)), .val (.ref b1), .val (.ref b6), .val (.ref rp), .val (.ref rq)] [(.int (1 : Int32))]))
      show OGo _ _ _ _ (T58.setTop (mkF m 358 #[.val (.int p1), .val (.int p2), .val (.int p3), .val (.int (Int32.ofNat pn)), .val (.int (Int32.ofNat qn)), .val (.int (0 : Int32)), .val (.ref b1), .val (.ref b6), .val (.ref rp), .val (.ref rq)] [(.int (1 : Int32))]))
      refine own_retNW (t := .boolean) (by simp) X58 hSi52 (Nat.le_trans (Nat.le_refl T52.heap.size) (Nat.le_of_eq (congrArg Array.size (Eq.symm r58_0)))) hx Bd.notSynchronized Bd.returns (hb hby at_358) (by decide) (by decide) ?_
      show Q_rm0 Z _ _ _ _ _ h0 n0 _ T58.heap _
      rw [r58_0]
      exact ⟨rfl, N58⟩
    · have f60 : Arv Z h36 b6 ka6 .char (10 : Int32) [(.int (own_cell 0 pn nn [x0, x1, x2, x3])), (.int (own_cell 1 pn nn [x0, x1, x2, x3])), (.int (own_cell 2 pn nn [x0, x1, x2, x3])), (.int (own_cell 3 pn nn [x0, x1, x2, x3])), (.int (own_cell 4 pn nn [x0, x1, x2, x3])), (.int (own_cell 5 pn nn [x0, x1, x2, x3])), (.int (own_cell 6 pn nn [x0, x1, x2, x3])), (.int (own_cell 7 pn nn [x0, x1, x2, x3])), (.int (own_cell 8 pn nn [x0, x1, x2, x3])), (.int (own_cell 9 pn nn [x0, x1, x2, x3]))] (.int (0 : Int32)) := (by have q := V36; simp only [own_cellC hms] at q; exact q)
      have f62 := own_staKeep0 S_COMPACT_STRINGS K36
      have f63 := own_staKeep0 S_SIOOBE_FORMATTER K36
      have f64 := own_staKeep0 S__assertionsDisabled K36
      have f65 := own_staKeep0 S_HI_BYTE_SHIFT K36
      have f66 := own_staKeep0 S_LO_BYTE_SHIFT K36
      obtain ⟨_, T61, Lc61, X61, hQ61, st61⟩ := own_open X36 (Jvm.LawKit.callS X36 hx (y := own_y37) hown (mvT hZ (own_w hw 6 rfl)) (mvT hZ (own_w hw 7 rfl)) (mvT hZ (own_w hw 4 rfl)) (mvT hZ (own_w hw 8 rfl)) (by decide) (backOf (W := 0) (rm2 l Z a0 hw [] b6 ka6 (pn + nn + qn) (own_cell 0 pn nn [x0, x1, x2, x3]) (own_cell 1 pn nn [x0, x1, x2, x3]) (own_cell 2 pn nn [x0, x1, x2, x3]) (own_cell 3 pn nn [x0, x1, x2, x3]) (own_cell 4 pn nn [x0, x1, x2, x3]) (own_cell 5 pn nn [x0, x1, x2, x3]) (own_cell 6 pn nn [x0, x1, x2, x3]) (own_cell 7 pn nn [x0, x1, x2, x3]) (own_cell 8 pn nn [x0, x1, x2, x3]) (own_cell 9 pn nn [x0, x1, x2, x3]) w fm h36 n0 (Nat.le_trans Z0 K36.1) f60 f62 f63 f64 f65 f66 hw0 (by omega) (by omega) (own_cellC hms) (own_cellC hms) (own_cellC hms) (own_cellC hms) (own_cellC hms) (own_cellC hms) (own_cellC hms) (own_cellC hms) (own_cellC hms) (own_cellC hms)) hZ (own_w hw 8 rfl) (own_w hw 4 rfl) (by decide) (by decide)) (g := (mkF m 253 #[.val (.int p1), .val (.int p2), .val (.int p3), .val (.int (Int32.ofNat pn)), .val (.int (Int32.ofNat qn)), .val (.int (Int32.ofNat nn)), .val (.ref b1), .val (.ref b6), .unset, .unset] [(.int (Int32.ofNat (pn + nn + qn))), (.ref b6)])) rfl (by rw [hml]; rfl) (argsL := [(.ref b6), (.int (Int32.ofNat (pn + nn + qn)))]) (rest := []) (lenOf pd_28 rfl) rfl (by show 2 * 0 + _ ≤ _; exact Nat.le_of_eq rfl) (hb hby at_253) (fun _ _ => ⟨rfl, e36, (by decide : 2 + 4 ≤ _), (by decide : 14 + 44 ≤ _)⟩))
      obtain ⟨rp, vp, kp, cp, zp, bp, rfl, N61q, r61_0, r61_1, r61_2, r61_3, r61_4, r61_5⟩ := hQ61
      have N61 := Fr.app N36 N61q
      have K61 : Keep h0 T61.heap [] := K36.trans r61_0 all0
      refine OGo.via st61 ?_
      show OGo _ _ _ _ (T61.setTop (mkF m 256 #[.val (.int p1), .val (.int p2), .val (.int p3), .val (.int (Int32.ofNat pn)), .val (.int (Int32.ofNat qn)), .val (.int (Int32.ofNat nn)), .val (.ref b1), .val (.ref b6), .unset, .unset] [(.ref rp)]))
      have hrp : own_Rep (List.take (pn + nn + qn) (own_buf pn nn [x0, x1, x2, x3])) cp zp bp := r61_5
      have hlen : (List.take (pn + nn + qn) (own_buf pn nn [x0, x1, x2, x3])).length = pn + nn + qn := own_bufL (by omega)
      have hcc : ∀ c ∈ List.take (pn + nn + qn) (own_buf pn nn [x0, x1, x2, x3]), nar .char c = c := own_bufC hms
      have hget : ∀ i, i < pn + nn + qn → (List.take (pn + nn + qn) (own_buf pn nn [x0, x1, x2, x3])).getD i 0 = own_cell i pn nn [x0, x1, x2, x3] := own_bufG (by omega)
      have hsub : own_sub (List.take (pn + nn + qn) (own_buf pn nn [x0, x1, x2, x3])) pn nn = List.take nn [x0, x1, x2, x3] := own_bufS hpn hnn hqn rfl
      obtain ⟨cs, hcsd⟩ : ∃ z, z = List.take (pn + nn + qn) (own_buf pn nn [x0, x1, x2, x3]) := ⟨_, rfl⟩
      rw [← hcsd] at hrp hlen hcc hget hsub
      refine OGo.via (fun _ k => XS.astore X61.here hx rfl (hb hby at_256) rfl rfl (l' := #[.val (.int p1), .val (.int p2), .val (.int p3), .val (.int (Int32.ofNat pn)), .val (.int (Int32.ofNat qn)), .val (.int (Int32.ofNat nn)), .val (.ref b1), .val (.ref b6), .val (.ref rp), .unset]) rfl (XS.aload X61.here hx rfl (hb hby at_258) rfl rfl k)) ?_
      have f68 := own_staKeep0 f62 r61_0
      have f69 := own_staKeep0 f63 r61_0
      have f70 := own_staKeep0 f64 r61_0
      have f71 := own_staKeep0 f65 r61_0
      have f72 := own_staKeep0 f66 r61_0
      obtain ⟨_, T67, Lc67, X67, hQ67, st67⟩ := own_open X61 (Jvm.LawKit.callS X61 hx (y := own_y33) hown (mvT hZ (own_w hw 30 rfl)) (mvT hZ (own_w hw 31 rfl)) (mvT hZ (own_w hw 32 rfl)) (mvT hZ (own_w hw 33 rfl)) (by decide) (backOf (W := 0) (rm6 l Z a0 hw [] rp w fm cs cp zp bp vp kp pn (pn + nn) T61.heap n0 (Nat.le_trans Z0 K61.1) r61_1 r61_2 r61_3 r61_4 f68 f69 f70 f71 f72 hw0 hr_fm hrp hcc (by omega) (by omega) (by omega) (fun i hi => by rw [hget i (by omega), own_cellA (by omega)]) (fun i hi hi2 => by rw [hget i (by omega), own_cellA (by omega)]) (by rw [hget pn (by omega), own_cellB (by omega) (by omega), Nat.sub_self]; exact hfst hC) (by rw [hget (pn + nn - 1) (by omega), own_cellB (by omega) (by omega), show pn + nn - 1 - pn = nn - 1 from by omega]; exact hlst hC)) hZ (own_w hw 33 rfl) (own_w hw 32 rfl) (by decide) (by decide)) (g := (mkF m 260 #[.val (.int p1), .val (.int p2), .val (.int p3), .val (.int (Int32.ofNat pn)), .val (.int (Int32.ofNat qn)), .val (.int (Int32.ofNat nn)), .val (.ref b1), .val (.ref b6), .val (.ref rp), .unset] [(.ref rp)])) rfl (by rw [hml]; rfl) (argsL := [(.ref rp)]) (rest := []) (lenOf pd_29 rfl) rfl (by show 2 * 0 + _ ≤ _; exact Nat.le_of_eq rfl) (hb hby at_260) (fun _ _ => ⟨rfl, rfl, (by decide : 6 + 3 ≤ _), (by decide : 58 + 34 ≤ _)⟩))
      obtain ⟨rq, vq, kq, cq, zq, bq, rfl, N67q, r67_0, r67_1, r67_2, r67_3, r67_4, r67_5⟩ := hQ67
      have N67 := Fr.app N61 N67q
      have K67 : Keep h0 T67.heap [] := K61.trans r67_0 all0
      refine OGo.via st67 ?_
      show OGo _ _ _ _ (T67.setTop (mkF m 263 #[.val (.int p1), .val (.int p2), .val (.int p3), .val (.int (Int32.ofNat pn)), .val (.int (Int32.ofNat qn)), .val (.int (Int32.ofNat nn)), .val (.ref b1), .val (.ref b6), .val (.ref rp), .unset] [(.ref rq)]))
      have hrq : own_Rep (List.take nn [x0, x1, x2, x3]) cq zq bq := by
        have q := r67_5
        rw [Nat.add_sub_cancel_left, hsub] at q; exact q
      have htl : (List.take nn [x0, x1, x2, x3]).length = nn := by rw [List.length_take]; exact Nat.min_eq_left hnn
      have hma : ∀ c ∈ [x0, x1, x2, x3], nar .char c = c := (List.forall_mem_cons.mpr ⟨hx0c, (List.forall_mem_cons.mpr ⟨hx1c, (List.forall_mem_cons.mpr ⟨hx2c, (List.forall_mem_cons.mpr ⟨hx3c, (List.forall_mem_nil _)⟩)⟩)⟩)⟩)
      have hmc : ∀ c ∈ List.take nn [x0, x1, x2, x3], nar .char c = c := fun c hc => hma c (List.mem_of_mem_take hc)
      refine OGo.via (fun _ k => XS.astore X67.here hx rfl (hb hby at_263) rfl rfl (l' := #[.val (.int p1), .val (.int p2), .val (.int p3), .val (.int (Int32.ofNat pn)), .val (.int (Int32.ofNat qn)), .val (.int (Int32.ofNat nn)), .val (.ref b1), .val (.ref b6), .val (.ref rp), .val (.ref rq)]) rfl (XS.aload X67.here hx rfl (hb hby at_265) rfl rfl k)) ?_
      have f74 := own_staKeep0 f68 r67_0
      obtain ⟨cq73, kq73, q73a, q73b, q73c⟩ := isOf hZ rfl r67_1
      obtain ⟨_, T73, Lc73, X73, hQ73, st73⟩ := own_open X67 (X67.virtualBack hx (y := own_y21) (z := own_y21) hown (mvT hZ (own_w hw 59 rfl)) (mvT hZ (own_w hw 35 rfl)) (notFace_of_selects (args := #[]) (mvT hZ (own_w hw 37 rfl))) (mvT hZ (own_w hw 37 rfl)) (mvT hZ (own_w hw 36 rfl)) (by decide) (backOf (W := 0) (rm7 l Z a0 hw [] rq w (List.take nn [x0, x1, x2, x3]) cq zq bq vq kq T67.heap n0 (Nat.le_trans Z0 K67.1) r67_1 r67_2 r67_3 r67_4 f74 hw0 hrq (by omega)) hZ (own_w hw 38 rfl) (own_w hw 11 rfl) (by decide) (by decide)) q73a q73c (g := (mkF m 267 #[.val (.int p1), .val (.int p2), .val (.int p3), .val (.int (Int32.ofNat pn)), .val (.int (Int32.ofNat qn)), .val (.int (Int32.ofNat nn)), .val (.ref b1), .val (.ref b6), .val (.ref rp), .val (.ref rq)] [(.ref rq)])) rfl (by rw [hml]; rfl) (Steps.refl _) (argsL := []) (rest := []) (lenOf pd_20 rfl) rfl (by show 2 * 0 + _ ≤ _; exact Nat.le_of_eq rfl) (hb hby at_267) (fun _ _ => ⟨rfl, rfl, (by decide : 9 + 0 ≤ _), (by decide : 92 + 0 ≤ _)⟩))
      obtain ⟨rfl, N73q, r73_0⟩ := hQ73
      have N73 := Fr.app N67 N73q
      refine OGo.via (fun _ k => st73.trans k) ?_
      show OGo _ _ _ _ (T73.setTop (mkF m 270 #[.val (.int p1), .val (.int p2), .val (.int p3), .val (.int (Int32.ofNat pn)), .val (.int (Int32.ofNat qn)), .val (.int (Int32.ofNat nn)), .val (.ref b1), .val (.ref b6), .val (.ref rp), .val (.ref rq)] [(.int (Int32.ofNat (List.take nn [x0, x1, x2, x3]).length))]))
      refine OGo.via (fun _ k => XS.iload X73.here hx rfl (hb hby at_270) rfl (XS.icmpYes X73.here hx rfl (pc0 := 272) (pc' := 277) rfl (hb hby at_272) rfl (teq (by rw [htl])).1 (by decide) (by decide) (XS.iload X73.here hx rfl (hb hby at_277) rfl (XS.iconst X73.here hx rfl (hb hby at_279) (XS.icmpNo X73.here hx rfl (hb hby at_280) rfl (flt (own_nlt (n := 1) (by omega) (by omega))).1 (XS.aload X73.here hx rfl (hb hby at_283) rfl rfl (XS.iconst X73.here hx rfl (hb hby at_285) k))))))) ?_
      have f76 := own_staKeep0 f69 r67_0
      have f77 := own_staKeep0 f70 r67_0
      have f78 := own_staKeep0 f71 r67_0
      have f79 := own_staKeep0 f72 r67_0
      obtain ⟨cq75, kq75, q75a, q75b, q75c⟩ := isOf hZ r73_0 r67_1
      obtain ⟨_, T75, Lc75, X75, hQ75, st75⟩ := own_open X73 (X73.virtualBack hx (y := own_y22) (z := own_y22) hown (mvT hZ (own_w hw 116 rfl)) (mvT hZ (own_w hw 71 rfl)) (notFace_of_selects (args := #[]) (mvT hZ (own_w hw 73 rfl))) (mvT hZ (own_w hw 73 rfl)) (mvT hZ (own_w hw 72 rfl)) (by decide) (backOf (W := 0) (rm15 l Z a0 hw [] rq (0 : Int32) w fm (List.take nn [x0, x1, x2, x3]) cq zq bq vq kq 0 T67.heap n0 (Nat.le_trans Z0 K67.1) r67_1 r67_2 r67_3 r67_4 f74 f76 f77 f78 f79 hw0 hr_fm hrq hmc (by omega) rfl (by omega)) hZ (own_w hw 74 rfl) (own_w hw 11 rfl) (by decide) (by decide)) q75a q75c (g := (mkF m 286 #[.val (.int p1), .val (.int p2), .val (.int p3), .val (.int (Int32.ofNat pn)), .val (.int (Int32.ofNat qn)), .val (.int (Int32.ofNat nn)), .val (.ref b1), .val (.ref b6), .val (.ref rp), .val (.ref rq)] [(.int (0 : Int32)), (.ref rq)])) rfl (by rw [hml]; rfl) (Steps.refl _) (argsL := [(.int (0 : Int32))]) (rest := []) (lenOf pd_24 rfl) rfl (by show 2 * 0 + _ ≤ _; exact Nat.le_of_eq rfl) (hb hby at_286) (fun _ _ => ⟨rfl, r73_0, (by decide : 9 + 0 ≤ _), (by decide : 92 + 0 ≤ _)⟩))
      obtain ⟨rfl, N75q, r75_0⟩ := hQ75
      have N75 := Fr.app N73 N75q
      refine OGo.via (fun _ k => st75.trans k) ?_
      show OGo _ _ _ _ (T75.setTop (mkF m 289 #[.val (.int p1), .val (.int p2), .val (.int p3), .val (.int (Int32.ofNat pn)), .val (.int (Int32.ofNat qn)), .val (.int (Int32.ofNat nn)), .val (.ref b1), .val (.ref b6), .val (.ref rp), .val (.ref rq)] [(.int ((List.take nn [x0, x1, x2, x3]).getD 0 0))]))
      refine OGo.via (fun _ k => XS.aload X75.here hx rfl (hb hby at_289) rfl rfl (XS.iconst X75.here hx rfl (hb hby at_291) k)) ?_
      have f81 := f35.other W36 (Nat.ne_of_lt lt_b1_b6)
      have f82 := f81.keep r61_0 nin0
      have f83 := f82.keep r67_0 nin0
      obtain ⟨cl80, Ar80, q80, Sz80, Ng80, Hs80, Gf80⟩ := id f83
      have hin80 : ¬ ((0 : Int32) < 0 ∨ cl80.slots.size ≤ ((0 : Int32)).toNatClampNeg) := inb_of Sz80 ⟨by decide, by decide⟩
      have hat80 : cl80.slots[((0 : Int32)).toNatClampNeg]? = some (.int x0) := Hs80.at hin80 rfl
      refine OGo.via (X75.caload hx (j := (0 : Int32)) (v := (.int x0)) (by rw [r75_0]; exact Ar80.1) (State.isArrayOf_alike hZ.alike Ar80.2.1) Ar80.2.2 hin80 hat80 (g := (mkF m 292 #[.val (.int p1), .val (.int p2), .val (.int p3), .val (.int (Int32.ofNat pn)), .val (.int (Int32.ofNat qn)), .val (.int (Int32.ofNat nn)), .val (.ref b1), .val (.ref b6), .val (.ref rp), .val (.ref rq)] [(.int (0 : Int32)), (.ref b1), (.int ((List.take nn [x0, x1, x2, x3]).getD 0 0))])) rfl rfl (hb hby at_292)) ?_
      show OGo _ _ _ _ (T75.setTop (mkF m 293 #[.val (.int p1), .val (.int p2), .val (.int p3), .val (.int (Int32.ofNat pn)), .val (.int (Int32.ofNat qn)), .val (.int (Int32.ofNat nn)), .val (.ref b1), .val (.ref b6), .val (.ref rp), .val (.ref rq)] [(.int x0), (.int ((List.take nn [x0, x1, x2, x3]).getD 0 0))]))
      refine OGo.via (fun _ k => XS.icmpNo X75.here hx rfl (hb hby at_293) rfl (teq (show ((List.take nn [x0, x1, x2, x3]).getD 0 0) = x0 from own_takeG (by omega))).2 k) ?_
      by_cases hn2 : nn < 2
      · show OGo _ _ _ _ (T75.setTop (mkF m 296 #[.val (.int p1), .val (.int p2), .val (.int p3), .val (.int (Int32.ofNat pn)), .val (.int (Int32.ofNat qn)), .val (.int (Int32.ofNat nn)), .val (.ref b1), .val (.ref b6), .val (.ref rp), .val (.ref rq)] []))
        refine OGo.via (fun _ k => XS.iload X75.here hx rfl (hb hby at_296) rfl (XS.iconst X75.here hx rfl (hb hby at_298) (XS.icmpYes X75.here hx rfl (pc0 := 299) (pc' := 315) rfl (hb hby at_299) rfl (tlt (own_ilt (n := 2) (by omega) (by omega))).1 (by decide) (by decide) (XS.iload X75.here hx rfl (hb hby at_315) rfl (XS.iconst X75.here hx rfl (hb hby at_317) (XS.icmpYes X75.here hx rfl (pc0 := 318) (pc' := 334) rfl (hb hby at_318) rfl (tlt (own_ilt (n := 3) (by omega) (by omega))).1 (by decide) (by decide) (XS.iload X75.here hx rfl (hb hby at_334) rfl (XS.iconst X75.here hx rfl (hb hby at_336) k)))))))) ?_
        show OGo _ _ _ _ (T75.setTop (mkF m 337 #[.val (.int p1), .val (.int p2), .val (.int p3), .val (.int (Int32.ofNat pn)), .val (.int (Int32.ofNat qn)), .val (.int (Int32.ofNat nn)), .val (.ref b1), .val (.ref b6), .val (.ref rp), .val (.ref rq)] [(.int (4 : Int32)), (.int (Int32.ofNat nn))]))
        refine OGo.via (fun _ k => XS.icmpYes X75.here hx rfl (pc0 := 337) (pc' := 353) rfl (hb hby at_337) rfl (tlt (own_ilt (n := 4) (by omega) (by omega))).1 (by decide) (by decide) (XS.iconst X75.here hx rfl (hb hby at_353) (XS.goto X75.here hx rfl (pc0 := 354) (pc' := 358) rfl (hb hby at_354) (by decide) (by decide) k))) ?_
        show OGo _ _ _ _ (T75.setTop (mkF m 358 #[.val (.int p1), .val (.int p2), .val (.int p3), .val (.int (Int32.ofNat pn)), .val (.int (Int32.ofNat qn)), .val (.int (Int32.ofNat nn)), .val (.ref b1), .val (.ref b6), .val (.ref rp), .val (.ref rq)] [(.int (1 : Int32))]))
        refine own_wide ?_
        refine own_retN (t := .boolean) (by simp) X75 hx Bd.notSynchronized Bd.returns (hb hby at_358) (by decide) (by decide) ?_
        show Q_rm0 Z _ _ _ _ _ h0 n0 _ T75.heap _
        rw [r75_0]
        exact ⟨rfl, N75⟩
      · show OGo _ _ _ _ (T75.setTop (mkF m 296 #[.val (.int p1), .val (.int p2), .val (.int p3), .val (.int (Int32.ofNat pn)), .val (.int (Int32.ofNat qn)), .val (.int (Int32.ofNat nn)), .val (.ref b1), .val (.ref b6), .val (.ref rp), .val (.ref rq)] []))
        refine OGo.via (fun _ k => XS.iload X75.here hx rfl (hb hby at_296) rfl (XS.iconst X75.here hx rfl (hb hby at_298) (XS.icmpNo X75.here hx rfl (hb hby at_299) rfl (flt (own_nlt (n := 2) (by omega) (by omega))).1 (XS.aload X75.here hx rfl (hb hby at_302) rfl rfl (XS.iconst X75.here hx rfl (hb hby at_304) k))))) ?_
        obtain ⟨cq84, kq84, q84a, q84b, q84c⟩ := isOf hZ r75_0 r67_1
        obtain ⟨_, T84, Lc84, X84, hQ84, st84⟩ := own_open X75 (X75.virtualBack hx (y := own_y22) (z := own_y22) hown (mvT hZ (own_w hw 116 rfl)) (mvT hZ (own_w hw 71 rfl)) (notFace_of_selects (args := #[]) (mvT hZ (own_w hw 73 rfl))) (mvT hZ (own_w hw 73 rfl)) (mvT hZ (own_w hw 72 rfl)) (by decide) (backOf (W := 0) (rm15 l Z a0 hw [] rq (1 : Int32) w fm (List.take nn [x0, x1, x2, x3]) cq zq bq vq kq 1 T67.heap n0 (Nat.le_trans Z0 K67.1) r67_1 r67_2 r67_3 r67_4 f74 f76 f77 f78 f79 hw0 hr_fm hrq hmc (by omega) rfl (by omega)) hZ (own_w hw 74 rfl) (own_w hw 11 rfl) (by decide) (by decide)) q84a q84c (g := (mkF m 305 #[.val (.int p1), .val (.int p2), .val (.int p3), .val (.int (Int32.ofNat pn)), .val (.int (Int32.ofNat qn)), .val (.int (Int32.ofNat nn)), .val (.ref b1), .val (.ref b6), .val (.ref rp), .val (.ref rq)] [(.int (1 : Int32)), (.ref rq)])) rfl (by rw [hml]; rfl) (Steps.refl _) (argsL := [(.int (1 : Int32))]) (rest := []) (lenOf pd_24 rfl) rfl (by show 2 * 0 + _ ≤ _; exact Nat.le_of_eq rfl) (hb hby at_305) (fun _ _ => ⟨rfl, r75_0, (by decide : 9 + 0 ≤ _), (by decide : 92 + 0 ≤ _)⟩))
        obtain ⟨rfl, N84q, r84_0⟩ := hQ84
        have N84 := Fr.app N75 N84q
        refine OGo.via (fun _ k => st84.trans k) ?_
        show OGo _ _ _ _ (T84.setTop (mkF m 308 #[.val (.int p1), .val (.int p2), .val (.int p3), .val (.int (Int32.ofNat pn)), .val (.int (Int32.ofNat qn)), .val (.int (Int32.ofNat nn)), .val (.ref b1), .val (.ref b6), .val (.ref rp), .val (.ref rq)] [(.int ((List.take nn [x0, x1, x2, x3]).getD 1 0))]))
        refine OGo.via (fun _ k => XS.aload X84.here hx rfl (hb hby at_308) rfl rfl (XS.iconst X84.here hx rfl (hb hby at_310) k)) ?_
        obtain ⟨cl85, Ar85, q85, Sz85, Ng85, Hs85, Gf85⟩ := id f83
        have hin85 : ¬ ((1 : Int32) < 0 ∨ cl85.slots.size ≤ ((1 : Int32)).toNatClampNeg) := inb_of Sz85 ⟨by decide, by decide⟩
        have hat85 : cl85.slots[((1 : Int32)).toNatClampNeg]? = some (.int x1) := Hs85.at hin85 rfl
        refine OGo.via (X84.caload hx (j := (1 : Int32)) (v := (.int x1)) (by rw [r84_0]; exact Ar85.1) (State.isArrayOf_alike hZ.alike Ar85.2.1) Ar85.2.2 hin85 hat85 (g := (mkF m 311 #[.val (.int p1), .val (.int p2), .val (.int p3), .val (.int (Int32.ofNat pn)), .val (.int (Int32.ofNat qn)), .val (.int (Int32.ofNat nn)), .val (.ref b1), .val (.ref b6), .val (.ref rp), .val (.ref rq)] [(.int (1 : Int32)), (.ref b1), (.int ((List.take nn [x0, x1, x2, x3]).getD 1 0))])) rfl rfl (hb hby at_311)) ?_
        show OGo _ _ _ _ (T84.setTop (mkF m 312 #[.val (.int p1), .val (.int p2), .val (.int p3), .val (.int (Int32.ofNat pn)), .val (.int (Int32.ofNat qn)), .val (.int (Int32.ofNat nn)), .val (.ref b1), .val (.ref b6), .val (.ref rp), .val (.ref rq)] [(.int x1), (.int ((List.take nn [x0, x1, x2, x3]).getD 1 0))]))
        refine OGo.via (fun _ k => XS.icmpNo X84.here hx rfl (hb hby at_312) rfl (teq (show ((List.take nn [x0, x1, x2, x3]).getD 1 0) = x1 from own_takeG (by omega))).2 k) ?_
        by_cases hn3 : nn < 3
        · show OGo _ _ _ _ (T84.setTop (mkF m 315 #[.val (.int p1), .val (.int p2), .val (.int p3), .val (.int (Int32.ofNat pn)), .val (.int (Int32.ofNat qn)), .val (.int (Int32.ofNat nn)), .val (.ref b1), .val (.ref b6), .val (.ref rp), .val (.ref rq)] []))
          refine OGo.via (fun _ k => XS.iload X84.here hx rfl (hb hby at_315) rfl (XS.iconst X84.here hx rfl (hb hby at_317) (XS.icmpYes X84.here hx rfl (pc0 := 318) (pc' := 334) rfl (hb hby at_318) rfl (tlt (own_ilt (n := 3) (by omega) (by omega))).1 (by decide) (by decide) (XS.iload X84.here hx rfl (hb hby at_334) rfl (XS.iconst X84.here hx rfl (hb hby at_336) (XS.icmpYes X84.here hx rfl (pc0 := 337) (pc' := 353) rfl (hb hby at_337) rfl (tlt (own_ilt (n := 4) (by omega) (by omega))).1 (by decide) (by decide) (XS.iconst X84.here hx rfl (hb hby at_353) (XS.goto X84.here hx rfl (pc0 := 354) (pc' := 358) rfl (hb hby at_354) (by decide) (by decide) k)))))))) ?_
          show OGo _ _ _ _ (T84.setTop (mkF m 358 #[.val (.int p1), .val (.int p2), .val (.int p3), .val (.int (Int32.ofNat pn)), .val (.int (Int32.ofNat qn)), .val (.int (Int32.ofNat nn)), .val (.ref b1), .val (.ref b6), .val (.ref rp), .val (.ref rq)] [(.int (1 : Int32))]))
          show OGo _ _ _ _ (T84.setTop (mkF m 358 #[.val (.int p1), .val (.int p2), .val (.int p3), .val (.int (Int32.ofNat pn)), .val (.int (Int32.ofNat qn)), .val (.int (Int32.ofNat nn)), .val (.ref b1), .val (.ref b6), .val (.ref rp), .val (.ref rq)] [(.int (1 : Int32))]))
          refine own_wide ?_
          refine own_retN (t := .boolean) (by simp) X84 hx Bd.notSynchronized Bd.returns (hb hby at_358) (by decide) (by decide) ?_
          show Q_rm0 Z _ _ _ _ _ h0 n0 _ T84.heap _
          rw [r84_0]
          exact ⟨rfl, N84⟩
        · show OGo _ _ _ _ (T84.setTop (mkF m 315 #[.val (.int p1), .val (.int p2), .val (.int p3), .val (.int (Int32.ofNat pn)), .val (.int (Int32.ofNat qn)), .val (.int (Int32.ofNat nn)), .val (.ref b1), .val (.ref b6), .val (.ref rp), .val (.ref rq)] []))
          refine OGo.via (fun _ k => XS.iload X84.here hx rfl (hb hby at_315) rfl (XS.iconst X84.here hx rfl (hb hby at_317) (XS.icmpNo X84.here hx rfl (hb hby at_318) rfl (flt (own_nlt (n := 3) (by omega) (by omega))).1 (XS.aload X84.here hx rfl (hb hby at_321) rfl rfl (XS.iconst X84.here hx rfl (hb hby at_323) k))))) ?_
          obtain ⟨cq86, kq86, q86a, q86b, q86c⟩ := isOf hZ r84_0 r67_1
          obtain ⟨_, T86, Lc86, X86, hQ86, st86⟩ := own_open X84 (X84.virtualBack hx (y := own_y22) (z := own_y22) hown (mvT hZ (own_w hw 116 rfl)) (mvT hZ (own_w hw 71 rfl)) (notFace_of_selects (args := #[]) (mvT hZ (own_w hw 73 rfl))) (mvT hZ (own_w hw 73 rfl)) (mvT hZ (own_w hw 72 rfl)) (by decide) (backOf (W := 0) (rm15 l Z a0 hw [] rq (2 : Int32) w fm (List.take nn [x0, x1, x2, x3]) cq zq bq vq kq 2 T67.heap n0 (Nat.le_trans Z0 K67.1) r67_1 r67_2 r67_3 r67_4 f74 f76 f77 f78 f79 hw0 hr_fm hrq hmc (by omega) rfl (by omega)) hZ (own_w hw 74 rfl) (own_w hw 11 rfl) (by decide) (by decide)) q86a q86c (g := (mkF m 324 #[.val (.int p1), .val (.int p2), .val (.int p3), .val (.int (Int32.ofNat pn)), .val (.int (Int32.ofNat qn)), .val (.int (Int32.ofNat nn)), .val (.ref b1), .val (.ref b6), .val (.ref rp), .val (.ref rq)] [(.int (2 : Int32)), (.ref rq)])) rfl (by rw [hml]; rfl) (Steps.refl _) (argsL := [(.int (2 : Int32))]) (rest := []) (lenOf pd_24 rfl) rfl (by show 2 * 0 + _ ≤ _; exact Nat.le_of_eq rfl) (hb hby at_324) (fun _ _ => ⟨rfl, r84_0, (by decide : 9 + 0 ≤ _), (by decide : 92 + 0 ≤ _)⟩))
          obtain ⟨rfl, N86q, r86_0⟩ := hQ86
          have N86 := Fr.app N84 N86q
          refine OGo.via (fun _ k => st86.trans k) ?_
          show OGo _ _ _ _ (T86.setTop (mkF m 327 #[.val (.int p1), .val (.int p2), .val (.int p3), .val (.int (Int32.ofNat pn)), .val (.int (Int32.ofNat qn)), .val (.int (Int32.ofNat nn)), .val (.ref b1), .val (.ref b6), .val (.ref rp), .val (.ref rq)] [(.int ((List.take nn [x0, x1, x2, x3]).getD 2 0))]))
          refine OGo.via (fun _ k => XS.aload X86.here hx rfl (hb hby at_327) rfl rfl (XS.iconst X86.here hx rfl (hb hby at_329) k)) ?_
          obtain ⟨cl87, Ar87, q87, Sz87, Ng87, Hs87, Gf87⟩ := id f83
          have hin87 : ¬ ((2 : Int32) < 0 ∨ cl87.slots.size ≤ ((2 : Int32)).toNatClampNeg) := inb_of Sz87 ⟨by decide, by decide⟩
          have hat87 : cl87.slots[((2 : Int32)).toNatClampNeg]? = some (.int x2) := Hs87.at hin87 rfl
          refine OGo.via (X86.caload hx (j := (2 : Int32)) (v := (.int x2)) (by rw [r86_0]; exact Ar87.1) (State.isArrayOf_alike hZ.alike Ar87.2.1) Ar87.2.2 hin87 hat87 (g := (mkF m 330 #[.val (.int p1), .val (.int p2), .val (.int p3), .val (.int (Int32.ofNat pn)), .val (.int (Int32.ofNat qn)), .val (.int (Int32.ofNat nn)), .val (.ref b1), .val (.ref b6), .val (.ref rp), .val (.ref rq)] [(.int (2 : Int32)), (.ref b1), (.int ((List.take nn [x0, x1, x2, x3]).getD 2 0))])) rfl rfl (hb hby at_330)) ?_
          show OGo _ _ _ _ (T86.setTop (mkF m 331 #[.val (.int p1), .val (.int p2), .val (.int p3), .val (.int (Int32.ofNat pn)), .val (.int (Int32.ofNat qn)), .val (.int (Int32.ofNat nn)), .val (.ref b1), .val (.ref b6), .val (.ref rp), .val (.ref rq)] [(.int x2), (.int ((List.take nn [x0, x1, x2, x3]).getD 2 0))]))
          refine OGo.via (fun _ k => XS.icmpNo X86.here hx rfl (hb hby at_331) rfl (teq (show ((List.take nn [x0, x1, x2, x3]).getD 2 0) = x2 from own_takeG (by omega))).2 k) ?_
          by_cases hn4 : nn < 4
          · show OGo _ _ _ _ (T86.setTop (mkF m 334 #[.val (.int p1), .val (.int p2), .val (.int p3), .val (.int (Int32.ofNat pn)), .val (.int (Int32.ofNat qn)), .val (.int (Int32.ofNat nn)), .val (.ref b1), .val (.ref b6), .val (.ref rp), .val (.ref rq)] []))
            refine OGo.via (fun _ k => XS.iload X86.here hx rfl (hb hby at_334) rfl (XS.iconst X86.here hx rfl (hb hby at_336) (XS.icmpYes X86.here hx rfl (pc0 := 337) (pc' := 353) rfl (hb hby at_337) rfl (tlt (own_ilt (n := 4) (by omega) (by omega))).1 (by decide) (by decide) (XS.iconst X86.here hx rfl (hb hby at_353) (XS.goto X86.here hx rfl (pc0 := 354) (pc' := 358) rfl (hb hby at_354) (by decide) (by decide) k))))) ?_
            show OGo _ _ _ _ (T86.setTop (mkF m 358 #[.val (.int p1), .val (.int p2), .val (.int p3), .val (.int (Int32.ofNat pn)), .val (.int (Int32.ofNat qn)), .val (.int (Int32.ofNat nn)), .val (.ref b1), .val (.ref b6), .val (.ref rp), .val (.ref rq)] [(.int (1 : Int32))]))
            refine own_wide ?_
            refine own_retN (t := .boolean) (by simp) X86 hx Bd.notSynchronized Bd.returns (hb hby at_358) (by decide) (by decide) ?_
            show Q_rm0 Z _ _ _ _ _ h0 n0 _ T86.heap _
            rw [r86_0]
            exact ⟨rfl, N86⟩
          · show OGo _ _ _ _ (T86.setTop (mkF m 334 #[.val (.int p1), .val (.int p2), .val (.int p3), .val (.int (Int32.ofNat pn)), .val (.int (Int32.ofNat qn)), .val (.int (Int32.ofNat nn)), .val (.ref b1), .val (.ref b6), .val (.ref rp), .val (.ref rq)] []))
            refine OGo.via (fun _ k => XS.iload X86.here hx rfl (hb hby at_334) rfl (XS.iconst X86.here hx rfl (hb hby at_336) (XS.icmpNo X86.here hx rfl (hb hby at_337) rfl (flt (own_nlt (n := 4) (by omega) (by omega))).1 (XS.aload X86.here hx rfl (hb hby at_340) rfl rfl (XS.iconst X86.here hx rfl (hb hby at_342) k))))) ?_
            obtain ⟨cq88, kq88, q88a, q88b, q88c⟩ := isOf hZ r86_0 r67_1
            obtain ⟨_, T88, Lc88, X88, hQ88, st88⟩ := own_open X86 (X86.virtualBack hx (y := own_y22) (z := own_y22) hown (mvT hZ (own_w hw 116 rfl)) (mvT hZ (own_w hw 71 rfl)) (notFace_of_selects (args := #[]) (mvT hZ (own_w hw 73 rfl))) (mvT hZ (own_w hw 73 rfl)) (mvT hZ (own_w hw 72 rfl)) (by decide) (backOf (W := 0) (rm15 l Z a0 hw [] rq (3 : Int32) w fm (List.take nn [x0, x1, x2, x3]) cq zq bq vq kq 3 T67.heap n0 (Nat.le_trans Z0 K67.1) r67_1 r67_2 r67_3 r67_4 f74 f76 f77 f78 f79 hw0 hr_fm hrq hmc (by omega) rfl (by omega)) hZ (own_w hw 74 rfl) (own_w hw 11 rfl) (by decide) (by decide)) q88a q88c (g := (mkF m 343 #[.val (.int p1), .val (.int p2), .val (.int p3), .val (.int (Int32.ofNat pn)), .val (.int (Int32.ofNat qn)), .val (.int (Int32.ofNat nn)), .val (.ref b1), .val (.ref b6), .val (.ref rp), .val (.ref rq)] [(.int (3 : Int32)), (.ref rq)])) rfl (by rw [hml]; rfl) (Steps.refl _) (argsL := [(.int (3 : Int32))]) (rest := []) (lenOf pd_24 rfl) rfl (by show 2 * 0 + _ ≤ _; exact Nat.le_of_eq rfl) (hb hby at_343) (fun _ _ => ⟨rfl, r86_0, (by decide : 9 + 0 ≤ _), (by decide : 92 + 0 ≤ _)⟩))
            obtain ⟨rfl, N88q, r88_0⟩ := hQ88
            have N88 := Fr.app N86 N88q
            refine OGo.via (fun _ k => st88.trans k) ?_
            show OGo _ _ _ _ (T88.setTop (mkF m 346 #[.val (.int p1), .val (.int p2), .val (.int p3), .val (.int (Int32.ofNat pn)), .val (.int (Int32.ofNat qn)), .val (.int (Int32.ofNat nn)), .val (.ref b1), .val (.ref b6), .val (.ref rp), .val (.ref rq)] [(.int ((List.take nn [x0, x1, x2, x3]).getD 3 0))]))
            refine OGo.via (fun _ k => XS.aload X88.here hx rfl (hb hby at_346) rfl rfl (XS.iconst X88.here hx rfl (hb hby at_348) k)) ?_
            obtain ⟨cl89, Ar89, q89, Sz89, Ng89, Hs89, Gf89⟩ := id f83
            have hin89 : ¬ ((3 : Int32) < 0 ∨ cl89.slots.size ≤ ((3 : Int32)).toNatClampNeg) := inb_of Sz89 ⟨by decide, by decide⟩
            have hat89 : cl89.slots[((3 : Int32)).toNatClampNeg]? = some (.int x3) := Hs89.at hin89 rfl
            refine OGo.via (X88.caload hx (j := (3 : Int32)) (v := (.int x3)) (by rw [r88_0]; exact Ar89.1) (State.isArrayOf_alike hZ.alike Ar89.2.1) Ar89.2.2 hin89 hat89 (g := (mkF m 349 #[.val (.int p1), .val (.int p2), .val (.int p3), .val (.int (Int32.ofNat pn)), .val (.int (Int32.ofNat qn)), .val (.int (Int32.ofNat nn)), .val (.ref b1), .val (.ref b6), .val (.ref rp), .val (.ref rq)] [(.int (3 : Int32)), (.ref b1), (.int ((List.take nn [x0, x1, x2, x3]).getD 3 0))])) rfl rfl (hb hby at_349)) ?_
            show OGo _ _ _ _ (T88.setTop (mkF m 350 #[.val (.int p1), .val (.int p2), .val (.int p3), .val (.int (Int32.ofNat pn)), .val (.int (Int32.ofNat qn)), .val (.int (Int32.ofNat nn)), .val (.ref b1), .val (.ref b6), .val (.ref rp), .val (.ref rq)] [(.int x3), (.int ((List.take nn [x0, x1, x2, x3]).getD 3 0))]))
            refine OGo.via (fun _ k => XS.icmpNo X88.here hx rfl (hb hby at_350) rfl (teq (show ((List.take nn [x0, x1, x2, x3]).getD 3 0) = x3 from own_takeG (by omega))).2 (XS.iconst X88.here hx rfl (hb hby at_353) (XS.goto X88.here hx rfl (pc0 := 354) (pc' := 358) rfl (hb hby at_354) (by decide) (by decide) k))) ?_
            show OGo _ _ _ _ (T88.setTop (mkF m 358 #[.val (.int p1), .val (.int p2), .val (.int p3), .val (.int (Int32.ofNat pn)), .val (.int (Int32.ofNat qn)), .val (.int (Int32.ofNat nn)), .val (.ref b1), .val (.ref b6), .val (.ref rp), .val (.ref rq)] [(.int (1 : Int32))]))
            refine own_wide ?_
            refine own_retN (t := .boolean) (by simp) X88 hx Bd.notSynchronized Bd.returns (hb hby at_358) (by decide) (by decide) ?_
            show Q_rm0 Z _ _ _ _ _ h0 n0 _ T88.heap _
            rw [r88_0]
            exact ⟨rfl, N88⟩
  have hnc : nn = 0 ∨ nn = 1 ∨ nn = 2 ∨ nn = 3 ∨ nn = 4 := by omega
  rcases hnc with rfl | rfl | rfl | rfl | rfl
  · show OGo _ _ _ _ (T5.setTop (mkF m 59 #[.val (.int p1), .val (.int p2), .val (.int p3), .val (.int (Int32.ofNat pn)), .val (.int (Int32.ofNat qn)), .val (.int (0 : Int32)), .val (.ref b1), .unset, .unset, .unset] []))
    refine OGo.via (fun _ k => XS.iload X5.here hx rfl (hb hby at_59) rfl (XS.ifYes X5.here hx rfl (pc0 := 61) (pc' := 100) rfl (hb hby at_61) rfl ((if0 _ _).trans (flt (by decide : ¬ ((0 : Int32) < (0 : Int32)))).2.2.2) (by decide) (by decide) k)) ?_
    exact cta m0 m1 m2 m3 _ _ _ X5 e5 N5 K5 V5 hmc0 hmc1 hmc2 hmc3 (fun q => absurd q (Nat.lt_irrefl 0)) (fun q => absurd q (Nat.lt_irrefl 0))
  · show OGo _ _ _ _ (T5.setTop (mkF m 59 #[.val (.int p1), .val (.int p2), .val (.int p3), .val (.int (Int32.ofNat pn)), .val (.int (Int32.ofNat qn)), .val (.int (1 : Int32)), .val (.ref b1), .unset, .unset, .unset] []))
    refine OGo.via (fun _ k => XS.iload X5.here hx rfl (hb hby at_59) rfl (XS.ifNo X5.here hx rfl (hb hby at_61) rfl ((if0 _ _).trans (tlt (by decide : (0 : Int32) < (1 : Int32))).2.2.2) (XS.aload X5.here hx rfl (hb hby at_64) rfl rfl (XS.iconst X5.here hx rfl (hb hby at_66) k)))) ?_
    obtain ⟨cl90, Ar90, q90, Sz90, Ng90, Hs90, Gf90⟩ := id V5
    have hin90 : ¬ ((0 : Int32) < 0 ∨ cl90.slots.size ≤ ((0 : Int32)).toNatClampNeg) := inb_of Sz90 ⟨by decide, by decide⟩
    have hat90 : cl90.slots[((0 : Int32)).toNatClampNeg]? = some (.int m0) := Hs90.at hin90 rfl
    refine OGo.via (X5.caload hx (j := (0 : Int32)) (v := (.int m0)) (by rw [e5]; exact Ar90.1) (State.isArrayOf_alike hZ.alike Ar90.2.1) Ar90.2.2 hin90 hat90 (g := (mkF m 67 #[.val (.int p1), .val (.int p2), .val (.int p3), .val (.int (Int32.ofNat pn)), .val (.int (Int32.ofNat qn)), .val (.int (1 : Int32)), .val (.ref b1), .unset, .unset, .unset] [(.int (0 : Int32)), (.ref b1)])) rfl rfl (hb hby at_67)) ?_
    show OGo _ _ _ _ (T5.setTop (mkF m 68 #[.val (.int p1), .val (.int p2), .val (.int p3), .val (.int (Int32.ofNat pn)), .val (.int (Int32.ofNat qn)), .val (.int (1 : Int32)), .val (.ref b1), .unset, .unset, .unset] [(.int m0)]))
    refine OGo.via (fun _ k => XS.bipush X5.here hx rfl (hb hby at_68) k) ?_
    by_cases hc70_91 : m0 = (47 : Int32)
    · refine OGo.via (fun _ k => XS.icmpNo X5.here hx rfl (hb hby at_70) rfl (teq hc70_91).2 (XS.aload X5.here hx rfl (hb hby at_73) rfl rfl (XS.iconst X5.here hx rfl (hb hby at_75) (XS.bipush X5.here hx rfl (hb hby at_76) k)))) ?_
      obtain ⟨cl92, Ar92, q92, Sz92, Ng92, Hs92, Gf92⟩ := id V5
      have hin92 : ¬ ((0 : Int32) < 0 ∨ cl92.slots.size ≤ ((0 : Int32)).toNatClampNeg) := inb_of Sz92 ⟨by decide, by decide⟩
      obtain ⟨T92, h92, X92, e92, W92, st92⟩ := stC X5 hx hZ e5 Ar92 (j := (0 : Int32)) hin92 (g := (mkF m 78 #[.val (.int p1), .val (.int p2), .val (.int p3), .val (.int (Int32.ofNat pn)), .val (.int (Int32.ofNat qn)), .val (.int (1 : Int32)), .val (.ref b1), .unset, .unset, .unset] [(.int (46 : Int32)), (.int (0 : Int32)), (.ref b1)])) rfl rfl (hb hby at_78)
      refine OGo.via st92 ?_
      have V92 : Arv Z h92 b1 ka1 .char (4 : Int32) [(.int (nar .char (46 : Int32))), (.int m1), (.int m2), (.int m3)] (.int (0 : Int32)) := Arv.set Ar92 q92 Sz92 Ng92 Hs92 Gf92 (fits_nar_char _) W92 0 rfl (Nat.le_of_ble_eq_true rfl)
      have K92 : Keep h0 h92 [] := K5.wr W92 (Or.inr sz_b1)
      have N92 := Fr.snoc X92 N5 g_b1
      show OGo _ _ _ _ (T92.setTop (mkF m 79 #[.val (.int p1), .val (.int p2), .val (.int p3), .val (.int (Int32.ofNat pn)), .val (.int (Int32.ofNat qn)), .val (.int (1 : Int32)), .val (.ref b1), .unset, .unset, .unset] []))
      refine OGo.via (fun _ k => XS.aload X92.here hx rfl (hb hby at_79) rfl rfl (XS.iload X92.here hx rfl (hb hby at_81) rfl (XS.iconst X92.here hx rfl (hb hby at_83) (XS.isub X92.here hx rfl (hb hby at_84) rfl k)))) ?_
      show OGo _ _ _ _ (T92.setTop (mkF m 85 #[.val (.int p1), .val (.int p2), .val (.int p3), .val (.int (Int32.ofNat pn)), .val (.int (Int32.ofNat qn)), .val (.int (1 : Int32)), .val (.ref b1), .unset, .unset, .unset] [(.int ((1 : Int32) - (1 : Int32))), (.ref b1)]))
      rw [show ((1 : Int32) - (1 : Int32)) = (0 : Int32) from by decide]
      obtain ⟨cl94, Ar94, q94, Sz94, Ng94, Hs94, Gf94⟩ := id V92
      have hin94 : ¬ ((0 : Int32) < 0 ∨ cl94.slots.size ≤ ((0 : Int32)).toNatClampNeg) := inb_of Sz94 ⟨by decide, by decide⟩
      have hat94 : cl94.slots[((0 : Int32)).toNatClampNeg]? = some (.int (nar .char (46 : Int32))) := Hs94.at hin94 rfl
      refine OGo.via (X92.caload hx (j := (0 : Int32)) (v := (.int (nar .char (46 : Int32)))) (by rw [e92]; exact Ar94.1) (State.isArrayOf_alike hZ.alike Ar94.2.1) Ar94.2.2 hin94 hat94 (g := (mkF m 85 #[.val (.int p1), .val (.int p2), .val (.int p3), .val (.int (Int32.ofNat pn)), .val (.int (Int32.ofNat qn)), .val (.int (1 : Int32)), .val (.ref b1), .unset, .unset, .unset] [(.int (0 : Int32)), (.ref b1)])) rfl rfl (hb hby at_85)) ?_
      show OGo _ _ _ _ (T92.setTop (mkF m 86 #[.val (.int p1), .val (.int p2), .val (.int p3), .val (.int (Int32.ofNat pn)), .val (.int (Int32.ofNat qn)), .val (.int (1 : Int32)), .val (.ref b1), .unset, .unset, .unset] [(.int (nar .char (46 : Int32)))]))
      refine OGo.via (fun _ k => XS.bipush X92.here hx rfl (hb hby at_86) (XS.icmpYes X92.here hx rfl (pc0 := 88) (pc' := 100) rfl (hb hby at_88) rfl (feq (by decide)).2 (by decide) (by decide) k)) ?_
      exact cta (nar .char (46 : Int32)) m1 m2 m3 _ _ _ X92 e92 N92 K92 V92 (by decide) hmc1 hmc2 hmc3 (fun _ => (show ¬ nar .char (46 : Int32) = 47 from by decide)) (fun _ => (show ¬ nar .char (46 : Int32) = 47 from by decide))
    · refine OGo.via (fun _ k => XS.icmpYes X5.here hx rfl (pc0 := 70) (pc' := 79) rfl (hb hby at_70) rfl (feq hc70_91).2 (by decide) (by decide) (XS.aload X5.here hx rfl (hb hby at_79) rfl rfl (XS.iload X5.here hx rfl (hb hby at_81) rfl (XS.iconst X5.here hx rfl (hb hby at_83) (XS.isub X5.here hx rfl (hb hby at_84) rfl k))))) ?_
      show OGo _ _ _ _ (T5.setTop (mkF m 85 #[.val (.int p1), .val (.int p2), .val (.int p3), .val (.int (Int32.ofNat pn)), .val (.int (Int32.ofNat qn)), .val (.int (1 : Int32)), .val (.ref b1), .unset, .unset, .unset] [(.int ((1 : Int32) - (1 : Int32))), (.ref b1)]))
      rw [show ((1 : Int32) - (1 : Int32)) = (0 : Int32) from by decide]
      obtain ⟨cl96, Ar96, q96, Sz96, Ng96, Hs96, Gf96⟩ := id V5
      have hin96 : ¬ ((0 : Int32) < 0 ∨ cl96.slots.size ≤ ((0 : Int32)).toNatClampNeg) := inb_of Sz96 ⟨by decide, by decide⟩
      have hat96 : cl96.slots[((0 : Int32)).toNatClampNeg]? = some (.int m0) := Hs96.at hin96 rfl
      refine OGo.via (X5.caload hx (j := (0 : Int32)) (v := (.int m0)) (by rw [e5]; exact Ar96.1) (State.isArrayOf_alike hZ.alike Ar96.2.1) Ar96.2.2 hin96 hat96 (g := (mkF m 85 #[.val (.int p1), .val (.int p2), .val (.int p3), .val (.int (Int32.ofNat pn)), .val (.int (Int32.ofNat qn)), .val (.int (1 : Int32)), .val (.ref b1), .unset, .unset, .unset] [(.int (0 : Int32)), (.ref b1)])) rfl rfl (hb hby at_85)) ?_
      show OGo _ _ _ _ (T5.setTop (mkF m 86 #[.val (.int p1), .val (.int p2), .val (.int p3), .val (.int (Int32.ofNat pn)), .val (.int (Int32.ofNat qn)), .val (.int (1 : Int32)), .val (.ref b1), .unset, .unset, .unset] [(.int m0)]))
      refine OGo.via (fun _ k => XS.bipush X5.here hx rfl (hb hby at_86) (XS.icmpYes X5.here hx rfl (pc0 := 88) (pc' := 100) rfl (hb hby at_88) rfl (feq hc70_91).2 (by decide) (by decide) k)) ?_
      exact cta m0 m1 m2 m3 _ _ _ X5 e5 N5 K5 V5 hmc0 hmc1 hmc2 hmc3 (fun _ => hc70_91) (fun _ => hc70_91)
  · show OGo _ _ _ _ (T5.setTop (mkF m 59 #[.val (.int p1), .val (.int p2), .val (.int p3), .val (.int (Int32.ofNat pn)), .val (.int (Int32.ofNat qn)), .val (.int (2 : Int32)), .val (.ref b1), .unset, .unset, .unset] []))
    refine OGo.via (fun _ k => XS.iload X5.here hx rfl (hb hby at_59) rfl (XS.ifNo X5.here hx rfl (hb hby at_61) rfl ((if0 _ _).trans (tlt (by decide : (0 : Int32) < (2 : Int32))).2.2.2) (XS.aload X5.here hx rfl (hb hby at_64) rfl rfl (XS.iconst X5.here hx rfl (hb hby at_66) k)))) ?_
    obtain ⟨cl97, Ar97, q97, Sz97, Ng97, Hs97, Gf97⟩ := id V5
    have hin97 : ¬ ((0 : Int32) < 0 ∨ cl97.slots.size ≤ ((0 : Int32)).toNatClampNeg) := inb_of Sz97 ⟨by decide, by decide⟩
    have hat97 : cl97.slots[((0 : Int32)).toNatClampNeg]? = some (.int m0) := Hs97.at hin97 rfl
    refine OGo.via (X5.caload hx (j := (0 : Int32)) (v := (.int m0)) (by rw [e5]; exact Ar97.1) (State.isArrayOf_alike hZ.alike Ar97.2.1) Ar97.2.2 hin97 hat97 (g := (mkF m 67 #[.val (.int p1), .val (.int p2), .val (.int p3), .val (.int (Int32.ofNat pn)), .val (.int (Int32.ofNat qn)), .val (.int (2 : Int32)), .val (.ref b1), .unset, .unset, .unset] [(.int (0 : Int32)), (.ref b1)])) rfl rfl (hb hby at_67)) ?_
    show OGo _ _ _ _ (T5.setTop (mkF m 68 #[.val (.int p1), .val (.int p2), .val (.int p3), .val (.int (Int32.ofNat pn)), .val (.int (Int32.ofNat qn)), .val (.int (2 : Int32)), .val (.ref b1), .unset, .unset, .unset] [(.int m0)]))
    refine OGo.via (fun _ k => XS.bipush X5.here hx rfl (hb hby at_68) k) ?_
    by_cases hc70_98 : m0 = (47 : Int32)
    · refine OGo.via (fun _ k => XS.icmpNo X5.here hx rfl (hb hby at_70) rfl (teq hc70_98).2 (XS.aload X5.here hx rfl (hb hby at_73) rfl rfl (XS.iconst X5.here hx rfl (hb hby at_75) (XS.bipush X5.here hx rfl (hb hby at_76) k)))) ?_
      obtain ⟨cl99, Ar99, q99, Sz99, Ng99, Hs99, Gf99⟩ := id V5
      have hin99 : ¬ ((0 : Int32) < 0 ∨ cl99.slots.size ≤ ((0 : Int32)).toNatClampNeg) := inb_of Sz99 ⟨by decide, by decide⟩
      obtain ⟨T99, h99, X99, e99, W99, st99⟩ := stC X5 hx hZ e5 Ar99 (j := (0 : Int32)) hin99 (g := (mkF m 78 #[.val (.int p1), .val (.int p2), .val (.int p3), .val (.int (Int32.ofNat pn)), .val (.int (Int32.ofNat qn)), .val (.int (2 : Int32)), .val (.ref b1), .unset, .unset, .unset] [(.int (46 : Int32)), (.int (0 : Int32)), (.ref b1)])) rfl rfl (hb hby at_78)
      refine OGo.via st99 ?_
      have V99 : Arv Z h99 b1 ka1 .char (4 : Int32) [(.int (nar .char (46 : Int32))), (.int m1), (.int m2), (.int m3)] (.int (0 : Int32)) := Arv.set Ar99 q99 Sz99 Ng99 Hs99 Gf99 (fits_nar_char _) W99 0 rfl (Nat.le_of_ble_eq_true rfl)
      have K99 : Keep h0 h99 [] := K5.wr W99 (Or.inr sz_b1)
      have N99 := Fr.snoc X99 N5 g_b1
      show OGo _ _ _ _ (T99.setTop (mkF m 79 #[.val (.int p1), .val (.int p2), .val (.int p3), .val (.int (Int32.ofNat pn)), .val (.int (Int32.ofNat qn)), .val (.int (2 : Int32)), .val (.ref b1), .unset, .unset, .unset] []))
      refine OGo.via (fun _ k => XS.aload X99.here hx rfl (hb hby at_79) rfl rfl (XS.iload X99.here hx rfl (hb hby at_81) rfl (XS.iconst X99.here hx rfl (hb hby at_83) (XS.isub X99.here hx rfl (hb hby at_84) rfl k)))) ?_
      show OGo _ _ _ _ (T99.setTop (mkF m 85 #[.val (.int p1), .val (.int p2), .val (.int p3), .val (.int (Int32.ofNat pn)), .val (.int (Int32.ofNat qn)), .val (.int (2 : Int32)), .val (.ref b1), .unset, .unset, .unset] [(.int ((2 : Int32) - (1 : Int32))), (.ref b1)]))
      rw [show ((2 : Int32) - (1 : Int32)) = (1 : Int32) from by decide]
      obtain ⟨cl101, Ar101, q101, Sz101, Ng101, Hs101, Gf101⟩ := id V99
      have hin101 : ¬ ((1 : Int32) < 0 ∨ cl101.slots.size ≤ ((1 : Int32)).toNatClampNeg) := inb_of Sz101 ⟨by decide, by decide⟩
      have hat101 : cl101.slots[((1 : Int32)).toNatClampNeg]? = some (.int m1) := Hs101.at hin101 rfl
      refine OGo.via (X99.caload hx (j := (1 : Int32)) (v := (.int m1)) (by rw [e99]; exact Ar101.1) (State.isArrayOf_alike hZ.alike Ar101.2.1) Ar101.2.2 hin101 hat101 (g := (mkF m 85 #[.val (.int p1), .val (.int p2), .val (.int p3), .val (.int (Int32.ofNat pn)), .val (.int (Int32.ofNat qn)), .val (.int (2 : Int32)), .val (.ref b1), .unset, .unset, .unset] [(.int (1 : Int32)), (.ref b1)])) rfl rfl (hb hby at_85)) ?_
      show OGo _ _ _ _ (T99.setTop (mkF m 86 #[.val (.int p1), .val (.int p2), .val (.int p3), .val (.int (Int32.ofNat pn)), .val (.int (Int32.ofNat qn)), .val (.int (2 : Int32)), .val (.ref b1), .unset, .unset, .unset] [(.int m1)]))
      refine OGo.via (fun _ k => XS.bipush X99.here hx rfl (hb hby at_86) k) ?_
      by_cases hc88_102 : m1 = (47 : Int32)
      · refine OGo.via (fun _ k => XS.icmpNo X99.here hx rfl (hb hby at_88) rfl (teq hc88_102).2 (XS.aload X99.here hx rfl (hb hby at_91) rfl rfl (XS.iload X99.here hx rfl (hb hby at_93) rfl (XS.iconst X99.here hx rfl (hb hby at_95) (XS.isub X99.here hx rfl (hb hby at_96) rfl k))))) ?_
        show OGo _ _ _ _ (T99.setTop (mkF m 97 #[.val (.int p1), .val (.int p2), .val (.int p3), .val (.int (Int32.ofNat pn)), .val (.int (Int32.ofNat qn)), .val (.int (2 : Int32)), .val (.ref b1), .unset, .unset, .unset] [(.int ((2 : Int32) - (1 : Int32))), (.ref b1)]))
        rw [show ((2 : Int32) - (1 : Int32)) = (1 : Int32) from by decide]
        refine OGo.via (fun _ k => XS.bipush X99.here hx rfl (hb hby at_97) k) ?_
        obtain ⟨cl104, Ar104, q104, Sz104, Ng104, Hs104, Gf104⟩ := id V99
        have hin104 : ¬ ((1 : Int32) < 0 ∨ cl104.slots.size ≤ ((1 : Int32)).toNatClampNeg) := inb_of Sz104 ⟨by decide, by decide⟩
        obtain ⟨T104, h104, X104, e104, W104, st104⟩ := stC X99 hx hZ e99 Ar104 (j := (1 : Int32)) hin104 (g := (mkF m 99 #[.val (.int p1), .val (.int p2), .val (.int p3), .val (.int (Int32.ofNat pn)), .val (.int (Int32.ofNat qn)), .val (.int (2 : Int32)), .val (.ref b1), .unset, .unset, .unset] [(.int (46 : Int32)), (.int (1 : Int32)), (.ref b1)])) rfl rfl (hb hby at_99)
        refine OGo.via st104 ?_
        have V104 : Arv Z h104 b1 ka1 .char (4 : Int32) [(.int (nar .char (46 : Int32))), (.int (nar .char (46 : Int32))), (.int m2), (.int m3)] (.int (0 : Int32)) := Arv.set Ar104 q104 Sz104 Ng104 Hs104 Gf104 (fits_nar_char _) W104 1 rfl (Nat.le_of_ble_eq_true rfl)
        have K104 : Keep h0 h104 [] := K99.wr W104 (Or.inr sz_b1)
        have N104 := Fr.snoc X104 N99 g_b1
        show OGo _ _ _ _ (T104.setTop (mkF m 100 #[.val (.int p1), .val (.int p2), .val (.int p3), .val (.int (Int32.ofNat pn)), .val (.int (Int32.ofNat qn)), .val (.int (2 : Int32)), .val (.ref b1), .unset, .unset, .unset] []))
        exact cta (nar .char (46 : Int32)) (nar .char (46 : Int32)) m2 m3 _ _ _ X104 e104 N104 K104 V104 (by decide) (by decide) hmc2 hmc3 (fun _ => (show ¬ nar .char (46 : Int32) = 47 from by decide)) (fun _ => (show ¬ nar .char (46 : Int32) = 47 from by decide))
      · refine OGo.via (fun _ k => XS.icmpYes X99.here hx rfl (pc0 := 88) (pc' := 100) rfl (hb hby at_88) rfl (feq hc88_102).2 (by decide) (by decide) k) ?_
        exact cta (nar .char (46 : Int32)) m1 m2 m3 _ _ _ X99 e99 N99 K99 V99 (by decide) hmc1 hmc2 hmc3 (fun _ => (show ¬ nar .char (46 : Int32) = 47 from by decide)) (fun _ => hc88_102)
    · refine OGo.via (fun _ k => XS.icmpYes X5.here hx rfl (pc0 := 70) (pc' := 79) rfl (hb hby at_70) rfl (feq hc70_98).2 (by decide) (by decide) (XS.aload X5.here hx rfl (hb hby at_79) rfl rfl (XS.iload X5.here hx rfl (hb hby at_81) rfl (XS.iconst X5.here hx rfl (hb hby at_83) (XS.isub X5.here hx rfl (hb hby at_84) rfl k))))) ?_
      show OGo _ _ _ _ (T5.setTop (mkF m 85 #[.val (.int p1), .val (.int p2), .val (.int p3), .val (.int (Int32.ofNat pn)), .val (.int (Int32.ofNat qn)), .val (.int (2 : Int32)), .val (.ref b1), .unset, .unset, .unset] [(.int ((2 : Int32) - (1 : Int32))), (.ref b1)]))
      rw [show ((2 : Int32) - (1 : Int32)) = (1 : Int32) from by decide]
      obtain ⟨cl106, Ar106, q106, Sz106, Ng106, Hs106, Gf106⟩ := id V5
      have hin106 : ¬ ((1 : Int32) < 0 ∨ cl106.slots.size ≤ ((1 : Int32)).toNatClampNeg) := inb_of Sz106 ⟨by decide, by decide⟩
      have hat106 : cl106.slots[((1 : Int32)).toNatClampNeg]? = some (.int m1) := Hs106.at hin106 rfl
      refine OGo.via (X5.caload hx (j := (1 : Int32)) (v := (.int m1)) (by rw [e5]; exact Ar106.1) (State.isArrayOf_alike hZ.alike Ar106.2.1) Ar106.2.2 hin106 hat106 (g := (mkF m 85 #[.val (.int p1), .val (.int p2), .val (.int p3), .val (.int (Int32.ofNat pn)), .val (.int (Int32.ofNat qn)), .val (.int (2 : Int32)), .val (.ref b1), .unset, .unset, .unset] [(.int (1 : Int32)), (.ref b1)])) rfl rfl (hb hby at_85)) ?_
      show OGo _ _ _ _ (T5.setTop (mkF m 86 #[.val (.int p1), .val (.int p2), .val (.int p3), .val (.int (Int32.ofNat pn)), .val (.int (Int32.ofNat qn)), .val (.int (2 : Int32)), .val (.ref b1), .unset, .unset, .unset] [(.int m1)]))
      refine OGo.via (fun _ k => XS.bipush X5.here hx rfl (hb hby at_86) k) ?_
      by_cases hc88_107 : m1 = (47 : Int32)
      · refine OGo.via (fun _ k => XS.icmpNo X5.here hx rfl (hb hby at_88) rfl (teq hc88_107).2 (XS.aload X5.here hx rfl (hb hby at_91) rfl rfl (XS.iload X5.here hx rfl (hb hby at_93) rfl (XS.iconst X5.here hx rfl (hb hby at_95) (XS.isub X5.here hx rfl (hb hby at_96) rfl k))))) ?_
        show OGo _ _ _ _ (T5.setTop (mkF m 97 #[.val (.int p1), .val (.int p2), .val (.int p3), .val (.int (Int32.ofNat pn)), .val (.int (Int32.ofNat qn)), .val (.int (2 : Int32)), .val (.ref b1), .unset, .unset, .unset] [(.int ((2 : Int32) - (1 : Int32))), (.ref b1)]))
        rw [show ((2 : Int32) - (1 : Int32)) = (1 : Int32) from by decide]
        refine OGo.via (fun _ k => XS.bipush X5.here hx rfl (hb hby at_97) k) ?_
        obtain ⟨cl109, Ar109, q109, Sz109, Ng109, Hs109, Gf109⟩ := id V5
        have hin109 : ¬ ((1 : Int32) < 0 ∨ cl109.slots.size ≤ ((1 : Int32)).toNatClampNeg) := inb_of Sz109 ⟨by decide, by decide⟩
        obtain ⟨T109, h109, X109, e109, W109, st109⟩ := stC X5 hx hZ e5 Ar109 (j := (1 : Int32)) hin109 (g := (mkF m 99 #[.val (.int p1), .val (.int p2), .val (.int p3), .val (.int (Int32.ofNat pn)), .val (.int (Int32.ofNat qn)), .val (.int (2 : Int32)), .val (.ref b1), .unset, .unset, .unset] [(.int (46 : Int32)), (.int (1 : Int32)), (.ref b1)])) rfl rfl (hb hby at_99)
        refine OGo.via st109 ?_
        have V109 : Arv Z h109 b1 ka1 .char (4 : Int32) [(.int m0), (.int (nar .char (46 : Int32))), (.int m2), (.int m3)] (.int (0 : Int32)) := Arv.set Ar109 q109 Sz109 Ng109 Hs109 Gf109 (fits_nar_char _) W109 1 rfl (Nat.le_of_ble_eq_true rfl)
        have K109 : Keep h0 h109 [] := K5.wr W109 (Or.inr sz_b1)
        have N109 := Fr.snoc X109 N5 g_b1
        show OGo _ _ _ _ (T109.setTop (mkF m 100 #[.val (.int p1), .val (.int p2), .val (.int p3), .val (.int (Int32.ofNat pn)), .val (.int (Int32.ofNat qn)), .val (.int (2 : Int32)), .val (.ref b1), .unset, .unset, .unset] []))
        exact cta m0 (nar .char (46 : Int32)) m2 m3 _ _ _ X109 e109 N109 K109 V109 hmc0 (by decide) hmc2 hmc3 (fun _ => hc70_98) (fun _ => (show ¬ nar .char (46 : Int32) = 47 from by decide))
      · refine OGo.via (fun _ k => XS.icmpYes X5.here hx rfl (pc0 := 88) (pc' := 100) rfl (hb hby at_88) rfl (feq hc88_107).2 (by decide) (by decide) k) ?_
        exact cta m0 m1 m2 m3 _ _ _ X5 e5 N5 K5 V5 hmc0 hmc1 hmc2 hmc3 (fun _ => hc70_98) (fun _ => hc88_107)
  · show OGo _ _ _ _ (T5.setTop (mkF m 59 #[.val (.int p1), .val (.int p2), .val (.int p3), .val (.int (Int32.ofNat pn)), .val (.int (Int32.ofNat qn)), .val (.int (3 : Int32)), .val (.ref b1), .unset, .unset, .unset] []))
    refine OGo.via (fun _ k => XS.iload X5.here hx rfl (hb hby at_59) rfl (XS.ifNo X5.here hx rfl (hb hby at_61) rfl ((if0 _ _).trans (tlt (by decide : (0 : Int32) < (3 : Int32))).2.2.2) (XS.aload X5.here hx rfl (hb hby at_64) rfl rfl (XS.iconst X5.here hx rfl (hb hby at_66) k)))) ?_
    obtain ⟨cl110, Ar110, q110, Sz110, Ng110, Hs110, Gf110⟩ := id V5
    have hin110 : ¬ ((0 : Int32) < 0 ∨ cl110.slots.size ≤ ((0 : Int32)).toNatClampNeg) := inb_of Sz110 ⟨by decide, by decide⟩
    have hat110 : cl110.slots[((0 : Int32)).toNatClampNeg]? = some (.int m0) := Hs110.at hin110 rfl
    refine OGo.via (X5.caload hx (j := (0 : Int32)) (v := (.int m0)) (by rw [e5]; exact Ar110.1) (State.isArrayOf_alike hZ.alike Ar110.2.1) Ar110.2.2 hin110 hat110 (g := (mkF m 67 #[.val (.int p1), .val (.int p2), .val (.int p3), .val (.int (Int32.ofNat pn)), .val (.int (Int32.ofNat qn)), .val (.int (3 : Int32)), .val (.ref b1), .unset, .unset, .unset] [(.int (0 : Int32)), (.ref b1)])) rfl rfl (hb hby at_67)) ?_
    show OGo _ _ _ _ (T5.setTop (mkF m 68 #[.val (.int p1), .val (.int p2), .val (.int p3), .val (.int (Int32.ofNat pn)), .val (.int (Int32.ofNat qn)), .val (.int (3 : Int32)), .val (.ref b1), .unset, .unset, .unset] [(.int m0)]))
    refine OGo.via (fun _ k => XS.bipush X5.here hx rfl (hb hby at_68) k) ?_
    by_cases hc70_111 : m0 = (47 : Int32)
    · refine OGo.via (fun _ k => XS.icmpNo X5.here hx rfl (hb hby at_70) rfl (teq hc70_111).2 (XS.aload X5.here hx rfl (hb hby at_73) rfl rfl (XS.iconst X5.here hx rfl (hb hby at_75) (XS.bipush X5.here hx rfl (hb hby at_76) k)))) ?_
      obtain ⟨cl112, Ar112, q112, Sz112, Ng112, Hs112, Gf112⟩ := id V5
      have hin112 : ¬ ((0 : Int32) < 0 ∨ cl112.slots.size ≤ ((0 : Int32)).toNatClampNeg) := inb_of Sz112 ⟨by decide, by decide⟩
      obtain ⟨T112, h112, X112, e112, W112, st112⟩ := stC X5 hx hZ e5 Ar112 (j := (0 : Int32)) hin112 (g := (mkF m 78 #[.val (.int p1), .val (.int p2), .val (.int p3), .val (.int (Int32.ofNat pn)), .val (.int (Int32.ofNat qn)), .val (.int (3 : Int32)), .val (.ref b1), .unset, .unset, .unset] [(.int (46 : Int32)), (.int (0 : Int32)), (.ref b1)])) rfl rfl (hb hby at_78)
      refine OGo.via st112 ?_
      have V112 : Arv Z h112 b1 ka1 .char (4 : Int32) [(.int (nar .char (46 : Int32))), (.int m1), (.int m2), (.int m3)] (.int (0 : Int32)) := Arv.set Ar112 q112 Sz112 Ng112 Hs112 Gf112 (fits_nar_char _) W112 0 rfl (Nat.le_of_ble_eq_true rfl)
      have K112 : Keep h0 h112 [] := K5.wr W112 (Or.inr sz_b1)
      have N112 := Fr.snoc X112 N5 g_b1
      show OGo _ _ _ _ (T112.setTop (mkF m 79 #[.val (.int p1), .val (.int p2), .val (.int p3), .val (.int (Int32.ofNat pn)), .val (.int (Int32.ofNat qn)), .val (.int (3 : Int32)), .val (.ref b1), .unset, .unset, .unset] []))
      refine OGo.via (fun _ k => XS.aload X112.here hx rfl (hb hby at_79) rfl rfl (XS.iload X112.here hx rfl (hb hby at_81) rfl (XS.iconst X112.here hx rfl (hb hby at_83) (XS.isub X112.here hx rfl (hb hby at_84) rfl k)))) ?_
      show OGo _ _ _ _ (T112.setTop (mkF m 85 #[.val (.int p1), .val (.int p2), .val (.int p3), .val (.int (Int32.ofNat pn)), .val (.int (Int32.ofNat qn)), .val (.int (3 : Int32)), .val (.ref b1), .unset, .unset, .unset] [(.int ((3 : Int32) - (1 : Int32))), (.ref b1)]))
      rw [show ((3 : Int32) - (1 : Int32)) = (2 : Int32) from by decide]
      obtain ⟨cl114, Ar114, q114, Sz114, Ng114, Hs114, Gf114⟩ := id V112
      have hin114 : ¬ ((2 : Int32) < 0 ∨ cl114.slots.size ≤ ((2 : Int32)).toNatClampNeg) := inb_of Sz114 ⟨by decide, by decide⟩
      have hat114 : cl114.slots[((2 : Int32)).toNatClampNeg]? = some (.int m2) := Hs114.at hin114 rfl
      refine OGo.via (X112.caload hx (j := (2 : Int32)) (v := (.int m2)) (by rw [e112]; exact Ar114.1) (State.isArrayOf_alike hZ.alike Ar114.2.1) Ar114.2.2 hin114 hat114 (g := (mkF m 85 #[.val (.int p1), .val (.int p2), .val (.int p3), .val (.int (Int32.ofNat pn)), .val (.int (Int32.ofNat qn)), .val (.int (3 : Int32)), .val (.ref b1), .unset, .unset, .unset] [(.int (2 : Int32)), (.ref b1)])) rfl rfl (hb hby at_85)) ?_
      show OGo _ _ _ _ (T112.setTop (mkF m 86 #[.val (.int p1), .val (.int p2), .val (.int p3), .val (.int (Int32.ofNat pn)), .val (.int (Int32.ofNat qn)), .val (.int (3 : Int32)), .val (.ref b1), .unset, .unset, .unset] [(.int m2)]))
      refine OGo.via (fun _ k => XS.bipush X112.here hx rfl (hb hby at_86) k) ?_
      by_cases hc88_115 : m2 = (47 : Int32)
      · refine OGo.via (fun _ k => XS.icmpNo X112.here hx rfl (hb hby at_88) rfl (teq hc88_115).2 (XS.aload X112.here hx rfl (hb hby at_91) rfl rfl (XS.iload X112.here hx rfl (hb hby at_93) rfl (XS.iconst X112.here hx rfl (hb hby at_95) (XS.isub X112.here hx rfl (hb hby at_96) rfl k))))) ?_
        show OGo _ _ _ _ (T112.setTop (mkF m 97 #[.val (.int p1), .val (.int p2), .val (.int p3), .val (.int (Int32.ofNat pn)), .val (.int (Int32.ofNat qn)), .val (.int (3 : Int32)), .val (.ref b1), .unset, .unset, .unset] [(.int ((3 : Int32) - (1 : Int32))), (.ref b1)]))
        rw [show ((3 : Int32) - (1 : Int32)) = (2 : Int32) from by decide]
        refine OGo.via (fun _ k => XS.bipush X112.here hx rfl (hb hby at_97) k) ?_
        obtain ⟨cl117, Ar117, q117, Sz117, Ng117, Hs117, Gf117⟩ := id V112
        have hin117 : ¬ ((2 : Int32) < 0 ∨ cl117.slots.size ≤ ((2 : Int32)).toNatClampNeg) := inb_of Sz117 ⟨by decide, by decide⟩
        obtain ⟨T117, h117, X117, e117, W117, st117⟩ := stC X112 hx hZ e112 Ar117 (j := (2 : Int32)) hin117 (g := (mkF m 99 #[.val (.int p1), .val (.int p2), .val (.int p3), .val (.int (Int32.ofNat pn)), .val (.int (Int32.ofNat qn)), .val (.int (3 : Int32)), .val (.ref b1), .unset, .unset, .unset] [(.int (46 : Int32)), (.int (2 : Int32)), (.ref b1)])) rfl rfl (hb hby at_99)
        refine OGo.via st117 ?_
        have V117 : Arv Z h117 b1 ka1 .char (4 : Int32) [(.int (nar .char (46 : Int32))), (.int m1), (.int (nar .char (46 : Int32))), (.int m3)] (.int (0 : Int32)) := Arv.set Ar117 q117 Sz117 Ng117 Hs117 Gf117 (fits_nar_char _) W117 2 rfl (Nat.le_of_ble_eq_true rfl)
        have K117 : Keep h0 h117 [] := K112.wr W117 (Or.inr sz_b1)
        have N117 := Fr.snoc X117 N112 g_b1
        show OGo _ _ _ _ (T117.setTop (mkF m 100 #[.val (.int p1), .val (.int p2), .val (.int p3), .val (.int (Int32.ofNat pn)), .val (.int (Int32.ofNat qn)), .val (.int (3 : Int32)), .val (.ref b1), .unset, .unset, .unset] []))
        exact cta (nar .char (46 : Int32)) m1 (nar .char (46 : Int32)) m3 _ _ _ X117 e117 N117 K117 V117 (by decide) hmc1 (by decide) hmc3 (fun _ => (show ¬ nar .char (46 : Int32) = 47 from by decide)) (fun _ => (show ¬ nar .char (46 : Int32) = 47 from by decide))
      · refine OGo.via (fun _ k => XS.icmpYes X112.here hx rfl (pc0 := 88) (pc' := 100) rfl (hb hby at_88) rfl (feq hc88_115).2 (by decide) (by decide) k) ?_
        exact cta (nar .char (46 : Int32)) m1 m2 m3 _ _ _ X112 e112 N112 K112 V112 (by decide) hmc1 hmc2 hmc3 (fun _ => (show ¬ nar .char (46 : Int32) = 47 from by decide)) (fun _ => hc88_115)
    · refine OGo.via (fun _ k => XS.icmpYes X5.here hx rfl (pc0 := 70) (pc' := 79) rfl (hb hby at_70) rfl (feq hc70_111).2 (by decide) (by decide) (XS.aload X5.here hx rfl (hb hby at_79) rfl rfl (XS.iload X5.here hx rfl (hb hby at_81) rfl (XS.iconst X5.here hx rfl (hb hby at_83) (XS.isub X5.here hx rfl (hb hby at_84) rfl k))))) ?_
      show OGo _ _ _ _ (T5.setTop (mkF m 85 #[.val (.int p1), .val (.int p2), .val (.int p3), .val (.int (Int32.ofNat pn)), .val (.int (Int32.ofNat qn)), .val (.int (3 : Int32)), .val (.ref b1), .unset, .unset, .unset] [(.int ((3 : Int32) - (1 : Int32))), (.ref b1)]))
      rw [show ((3 : Int32) - (1 : Int32)) = (2 : Int32) from by decide]
      obtain ⟨cl119, Ar119, q119, Sz119, Ng119, Hs119, Gf119⟩ := id V5
      have hin119 : ¬ ((2 : Int32) < 0 ∨ cl119.slots.size ≤ ((2 : Int32)).toNatClampNeg) := inb_of Sz119 ⟨by decide, by decide⟩
      have hat119 : cl119.slots[((2 : Int32)).toNatClampNeg]? = some (.int m2) := Hs119.at hin119 rfl
      refine OGo.via (X5.caload hx (j := (2 : Int32)) (v := (.int m2)) (by rw [e5]; exact Ar119.1) (State.isArrayOf_alike hZ.alike Ar119.2.1) Ar119.2.2 hin119 hat119 (g := (mkF m 85 #[.val (.int p1), .val (.int p2), .val (.int p3), .val (.int (Int32.ofNat pn)), .val (.int (Int32.ofNat qn)), .val (.int (3 : Int32)), .val (.ref b1), .unset, .unset, .unset] [(.int (2 : Int32)), (.ref b1)])) rfl rfl (hb hby at_85)) ?_
      show OGo _ _ _ _ (T5.setTop (mkF m 86 #[.val (.int p1), .val (.int p2), .val (.int p3), .val (.int (Int32.ofNat pn)), .val (.int (Int32.ofNat qn)), .val (.int (3 : Int32)), .val (.ref b1), .unset, .unset, .unset] [(.int m2)]))
      refine OGo.via (fun _ k => XS.bipush X5.here hx rfl (hb hby at_86) k) ?_
      by_cases hc88_120 : m2 = (47 : Int32)
      · refine OGo.via (fun _ k => XS.icmpNo X5.here hx rfl (hb hby at_88) rfl (teq hc88_120).2 (XS.aload X5.here hx rfl (hb hby at_91) rfl rfl (XS.iload X5.here hx rfl (hb hby at_93) rfl (XS.iconst X5.here hx rfl (hb hby at_95) (XS.isub X5.here hx rfl (hb hby at_96) rfl k))))) ?_
        show OGo _ _ _ _ (T5.setTop (mkF m 97 #[.val (.int p1), .val (.int p2), .val (.int p3), .val (.int (Int32.ofNat pn)), .val (.int (Int32.ofNat qn)), .val (.int (3 : Int32)), .val (.ref b1), .unset, .unset, .unset] [(.int ((3 : Int32) - (1 : Int32))), (.ref b1)]))
        rw [show ((3 : Int32) - (1 : Int32)) = (2 : Int32) from by decide]
        refine OGo.via (fun _ k => XS.bipush X5.here hx rfl (hb hby at_97) k) ?_
        obtain ⟨cl122, Ar122, q122, Sz122, Ng122, Hs122, Gf122⟩ := id V5
        have hin122 : ¬ ((2 : Int32) < 0 ∨ cl122.slots.size ≤ ((2 : Int32)).toNatClampNeg) := inb_of Sz122 ⟨by decide, by decide⟩
        obtain ⟨T122, h122, X122, e122, W122, st122⟩ := stC X5 hx hZ e5 Ar122 (j := (2 : Int32)) hin122 (g := (mkF m 99 #[.val (.int p1), .val (.int p2), .val (.int p3), .val (.int (Int32.ofNat pn)), .val (.int (Int32.ofNat qn)), .val (.int (3 : Int32)), .val (.ref b1), .unset, .unset, .unset] [(.int (46 : Int32)), (.int (2 : Int32)), (.ref b1)])) rfl rfl (hb hby at_99)
        refine OGo.via st122 ?_
        have V122 : Arv Z h122 b1 ka1 .char (4 : Int32) [(.int m0), (.int m1), (.int (nar .char (46 : Int32))), (.int m3)] (.int (0 : Int32)) := Arv.set Ar122 q122 Sz122 Ng122 Hs122 Gf122 (fits_nar_char _) W122 2 rfl (Nat.le_of_ble_eq_true rfl)
        have K122 : Keep h0 h122 [] := K5.wr W122 (Or.inr sz_b1)
        have N122 := Fr.snoc X122 N5 g_b1
        show OGo _ _ _ _ (T122.setTop (mkF m 100 #[.val (.int p1), .val (.int p2), .val (.int p3), .val (.int (Int32.ofNat pn)), .val (.int (Int32.ofNat qn)), .val (.int (3 : Int32)), .val (.ref b1), .unset, .unset, .unset] []))
        exact cta m0 m1 (nar .char (46 : Int32)) m3 _ _ _ X122 e122 N122 K122 V122 hmc0 hmc1 (by decide) hmc3 (fun _ => hc70_111) (fun _ => (show ¬ nar .char (46 : Int32) = 47 from by decide))
      · refine OGo.via (fun _ k => XS.icmpYes X5.here hx rfl (pc0 := 88) (pc' := 100) rfl (hb hby at_88) rfl (feq hc88_120).2 (by decide) (by decide) k) ?_
        exact cta m0 m1 m2 m3 _ _ _ X5 e5 N5 K5 V5 hmc0 hmc1 hmc2 hmc3 (fun _ => hc70_111) (fun _ => hc88_120)
  · show OGo _ _ _ _ (T5.setTop (mkF m 59 #[.val (.int p1), .val (.int p2), .val (.int p3), .val (.int (Int32.ofNat pn)), .val (.int (Int32.ofNat qn)), .val (.int (4 : Int32)), .val (.ref b1), .unset, .unset, .unset] []))
    refine OGo.via (fun _ k => XS.iload X5.here hx rfl (hb hby at_59) rfl (XS.ifNo X5.here hx rfl (hb hby at_61) rfl ((if0 _ _).trans (tlt (by decide : (0 : Int32) < (4 : Int32))).2.2.2) (XS.aload X5.here hx rfl (hb hby at_64) rfl rfl (XS.iconst X5.here hx rfl (hb hby at_66) k)))) ?_
    obtain ⟨cl123, Ar123, q123, Sz123, Ng123, Hs123, Gf123⟩ := id V5
    have hin123 : ¬ ((0 : Int32) < 0 ∨ cl123.slots.size ≤ ((0 : Int32)).toNatClampNeg) := inb_of Sz123 ⟨by decide, by decide⟩
    have hat123 : cl123.slots[((0 : Int32)).toNatClampNeg]? = some (.int m0) := Hs123.at hin123 rfl
    refine OGo.via (X5.caload hx (j := (0 : Int32)) (v := (.int m0)) (by rw [e5]; exact Ar123.1) (State.isArrayOf_alike hZ.alike Ar123.2.1) Ar123.2.2 hin123 hat123 (g := (mkF m 67 #[.val (.int p1), .val (.int p2), .val (.int p3), .val (.int (Int32.ofNat pn)), .val (.int (Int32.ofNat qn)), .val (.int (4 : Int32)), .val (.ref b1), .unset, .unset, .unset] [(.int (0 : Int32)), (.ref b1)])) rfl rfl (hb hby at_67)) ?_
    show OGo _ _ _ _ (T5.setTop (mkF m 68 #[.val (.int p1), .val (.int p2), .val (.int p3), .val (.int (Int32.ofNat pn)), .val (.int (Int32.ofNat qn)), .val (.int (4 : Int32)), .val (.ref b1), .unset, .unset, .unset] [(.int m0)]))
    refine OGo.via (fun _ k => XS.bipush X5.here hx rfl (hb hby at_68) k) ?_
    by_cases hc70_124 : m0 = (47 : Int32)
    · refine OGo.via (fun _ k => XS.icmpNo X5.here hx rfl (hb hby at_70) rfl (teq hc70_124).2 (XS.aload X5.here hx rfl (hb hby at_73) rfl rfl (XS.iconst X5.here hx rfl (hb hby at_75) (XS.bipush X5.here hx rfl (hb hby at_76) k)))) ?_
      obtain ⟨cl125, Ar125, q125, Sz125, Ng125, Hs125, Gf125⟩ := id V5
      have hin125 : ¬ ((0 : Int32) < 0 ∨ cl125.slots.size ≤ ((0 : Int32)).toNatClampNeg) := inb_of Sz125 ⟨by decide, by decide⟩
      obtain ⟨T125, h125, X125, e125, W125, st125⟩ := stC X5 hx hZ e5 Ar125 (j := (0 : Int32)) hin125 (g := (mkF m 78 #[.val (.int p1), .val (.int p2), .val (.int p3), .val (.int (Int32.ofNat pn)), .val (.int (Int32.ofNat qn)), .val (.int (4 : Int32)), .val (.ref b1), .unset, .unset, .unset] [(.int (46 : Int32)), (.int (0 : Int32)), (.ref b1)])) rfl rfl (hb hby at_78)
      refine OGo.via st125 ?_
      have V125 : Arv Z h125 b1 ka1 .char (4 : Int32) [(.int (nar .char (46 : Int32))), (.int m1), (.int m2), (.int m3)] (.int (0 : Int32)) := Arv.set Ar125 q125 Sz125 Ng125 Hs125 Gf125 (fits_nar_char _) W125 0 rfl (Nat.le_of_ble_eq_true rfl)
      have K125 : Keep h0 h125 [] := K5.wr W125 (Or.inr sz_b1)
      have N125 := Fr.snoc X125 N5 g_b1
      show OGo _ _ _ _ (T125.setTop (mkF m 79 #[.val (.int p1), .val (.int p2), .val (.int p3), .val (.int (Int32.ofNat pn)), .val (.int (Int32.ofNat qn)), .val (.int (4 : Int32)), .val (.ref b1), .unset, .unset, .unset] []))
      refine OGo.via (fun _ k => XS.aload X125.here hx rfl (hb hby at_79) rfl rfl (XS.iload X125.here hx rfl (hb hby at_81) rfl (XS.iconst X125.here hx rfl (hb hby at_83) (XS.isub X125.here hx rfl (hb hby at_84) rfl k)))) ?_
      show OGo _ _ _ _ (T125.setTop (mkF m 85 #[.val (.int p1), .val (.int p2), .val (.int p3), .val (.int (Int32.ofNat pn)), .val (.int (Int32.ofNat qn)), .val (.int (4 : Int32)), .val (.ref b1), .unset, .unset, .unset] [(.int ((4 : Int32) - (1 : Int32))), (.ref b1)]))
      rw [show ((4 : Int32) - (1 : Int32)) = (3 : Int32) from by decide]
      obtain ⟨cl127, Ar127, q127, Sz127, Ng127, Hs127, Gf127⟩ := id V125
      have hin127 : ¬ ((3 : Int32) < 0 ∨ cl127.slots.size ≤ ((3 : Int32)).toNatClampNeg) := inb_of Sz127 ⟨by decide, by decide⟩
      have hat127 : cl127.slots[((3 : Int32)).toNatClampNeg]? = some (.int m3) := Hs127.at hin127 rfl
      refine OGo.via (X125.caload hx (j := (3 : Int32)) (v := (.int m3)) (by rw [e125]; exact Ar127.1) (State.isArrayOf_alike hZ.alike Ar127.2.1) Ar127.2.2 hin127 hat127 (g := (mkF m 85 #[.val (.int p1), .val (.int p2), .val (.int p3), .val (.int (Int32.ofNat pn)), .val (.int (Int32.ofNat qn)), .val (.int (4 : Int32)), .val (.ref b1), .unset, .unset, .unset] [(.int (3 : Int32)), (.ref b1)])) rfl rfl (hb hby at_85)) ?_
      show OGo _ _ _ _ (T125.setTop (mkF m 86 #[.val (.int p1), .val (.int p2), .val (.int p3), .val (.int (Int32.ofNat pn)), .val (.int (Int32.ofNat qn)), .val (.int (4 : Int32)), .val (.ref b1), .unset, .unset, .unset] [(.int m3)]))
      refine OGo.via (fun _ k => XS.bipush X125.here hx rfl (hb hby at_86) k) ?_
      by_cases hc88_128 : m3 = (47 : Int32)
      · refine OGo.via (fun _ k => XS.icmpNo X125.here hx rfl (hb hby at_88) rfl (teq hc88_128).2 (XS.aload X125.here hx rfl (hb hby at_91) rfl rfl (XS.iload X125.here hx rfl (hb hby at_93) rfl (XS.iconst X125.here hx rfl (hb hby at_95) (XS.isub X125.here hx rfl (hb hby at_96) rfl k))))) ?_
        show OGo _ _ _ _ (T125.setTop (mkF m 97 #[.val (.int p1), .val (.int p2), .val (.int p3), .val (.int (Int32.ofNat pn)), .val (.int (Int32.ofNat qn)), .val (.int (4 : Int32)), .val (.ref b1), .unset, .unset, .unset] [(.int ((4 : Int32) - (1 : Int32))), (.ref b1)]))
        rw [show ((4 : Int32) - (1 : Int32)) = (3 : Int32) from by decide]
        refine OGo.via (fun _ k => XS.bipush X125.here hx rfl (hb hby at_97) k) ?_
        obtain ⟨cl130, Ar130, q130, Sz130, Ng130, Hs130, Gf130⟩ := id V125
        have hin130 : ¬ ((3 : Int32) < 0 ∨ cl130.slots.size ≤ ((3 : Int32)).toNatClampNeg) := inb_of Sz130 ⟨by decide, by decide⟩
        obtain ⟨T130, h130, X130, e130, W130, st130⟩ := stC X125 hx hZ e125 Ar130 (j := (3 : Int32)) hin130 (g := (mkF m 99 #[.val (.int p1), .val (.int p2), .val (.int p3), .val (.int (Int32.ofNat pn)), .val (.int (Int32.ofNat qn)), .val (.int (4 : Int32)), .val (.ref b1), .unset, .unset, .unset] [(.int (46 : Int32)), (.int (3 : Int32)), (.ref b1)])) rfl rfl (hb hby at_99)
        refine OGo.via st130 ?_
        have V130 : Arv Z h130 b1 ka1 .char (4 : Int32) [(.int (nar .char (46 : Int32))), (.int m1), (.int m2), (.int (nar .char (46 : Int32)))] (.int (0 : Int32)) := Arv.set Ar130 q130 Sz130 Ng130 Hs130 Gf130 (fits_nar_char _) W130 3 rfl (Nat.le_of_ble_eq_true rfl)
        have K130 : Keep h0 h130 [] := K125.wr W130 (Or.inr sz_b1)
        have N130 := Fr.snoc X130 N125 g_b1
        show OGo _ _ _ _ (T130.setTop (mkF m 100 #[.val (.int p1), .val (.int p2), .val (.int p3), .val (.int (Int32.ofNat pn)), .val (.int (Int32.ofNat qn)), .val (.int (4 : Int32)), .val (.ref b1), .unset, .unset, .unset] []))
        exact cta (nar .char (46 : Int32)) m1 m2 (nar .char (46 : Int32)) _ _ _ X130 e130 N130 K130 V130 (by decide) hmc1 hmc2 (by decide) (fun _ => (show ¬ nar .char (46 : Int32) = 47 from by decide)) (fun _ => (show ¬ nar .char (46 : Int32) = 47 from by decide))
      · refine OGo.via (fun _ k => XS.icmpYes X125.here hx rfl (pc0 := 88) (pc' := 100) rfl (hb hby at_88) rfl (feq hc88_128).2 (by decide) (by decide) k) ?_
        exact cta (nar .char (46 : Int32)) m1 m2 m3 _ _ _ X125 e125 N125 K125 V125 (by decide) hmc1 hmc2 hmc3 (fun _ => (show ¬ nar .char (46 : Int32) = 47 from by decide)) (fun _ => hc88_128)
    · refine OGo.via (fun _ k => XS.icmpYes X5.here hx rfl (pc0 := 70) (pc' := 79) rfl (hb hby at_70) rfl (feq hc70_124).2 (by decide) (by decide) (XS.aload X5.here hx rfl (hb hby at_79) rfl rfl (XS.iload X5.here hx rfl (hb hby at_81) rfl (XS.iconst X5.here hx rfl (hb hby at_83) (XS.isub X5.here hx rfl (hb hby at_84) rfl k))))) ?_
      show OGo _ _ _ _ (T5.setTop (mkF m 85 #[.val (.int p1), .val (.int p2), .val (.int p3), .val (.int (Int32.ofNat pn)), .val (.int (Int32.ofNat qn)), .val (.int (4 : Int32)), .val (.ref b1), .unset, .unset, .unset] [(.int ((4 : Int32) - (1 : Int32))), (.ref b1)]))
      rw [show ((4 : Int32) - (1 : Int32)) = (3 : Int32) from by decide]
      obtain ⟨cl132, Ar132, q132, Sz132, Ng132, Hs132, Gf132⟩ := id V5
      have hin132 : ¬ ((3 : Int32) < 0 ∨ cl132.slots.size ≤ ((3 : Int32)).toNatClampNeg) := inb_of Sz132 ⟨by decide, by decide⟩
      have hat132 : cl132.slots[((3 : Int32)).toNatClampNeg]? = some (.int m3) := Hs132.at hin132 rfl
      refine OGo.via (X5.caload hx (j := (3 : Int32)) (v := (.int m3)) (by rw [e5]; exact Ar132.1) (State.isArrayOf_alike hZ.alike Ar132.2.1) Ar132.2.2 hin132 hat132 (g := (mkF m 85 #[.val (.int p1), .val (.int p2), .val (.int p3), .val (.int (Int32.ofNat pn)), .val (.int (Int32.ofNat qn)), .val (.int (4 : Int32)), .val (.ref b1), .unset, .unset, .unset] [(.int (3 : Int32)), (.ref b1)])) rfl rfl (hb hby at_85)) ?_
      show OGo _ _ _ _ (T5.setTop (mkF m 86 #[.val (.int p1), .val (.int p2), .val (.int p3), .val (.int (Int32.ofNat pn)), .val (.int (Int32.ofNat qn)), .val (.int (4 : Int32)), .val (.ref b1), .unset, .unset, .unset] [(.int m3)]))
      refine OGo.via (fun _ k => XS.bipush X5.here hx rfl (hb hby at_86) k) ?_
      by_cases hc88_133 : m3 = (47 : Int32)
      · refine OGo.via (fun _ k => XS.icmpNo X5.here hx rfl (hb hby at_88) rfl (teq hc88_133).2 (XS.aload X5.here hx rfl (hb hby at_91) rfl rfl (XS.iload X5.here hx rfl (hb hby at_93) rfl (XS.iconst X5.here hx rfl (hb hby at_95) (XS.isub X5.here hx rfl (hb hby at_96) rfl k))))) ?_
        show OGo _ _ _ _ (T5.setTop (mkF m 97 #[.val (.int p1), .val (.int p2), .val (.int p3), .val (.int (Int32.ofNat pn)), .val (.int (Int32.ofNat qn)), .val (.int (4 : Int32)), .val (.ref b1), .unset, .unset, .unset] [(.int ((4 : Int32) - (1 : Int32))), (.ref b1)]))
        rw [show ((4 : Int32) - (1 : Int32)) = (3 : Int32) from by decide]
        refine OGo.via (fun _ k => XS.bipush X5.here hx rfl (hb hby at_97) k) ?_
        obtain ⟨cl135, Ar135, q135, Sz135, Ng135, Hs135, Gf135⟩ := id V5
        have hin135 : ¬ ((3 : Int32) < 0 ∨ cl135.slots.size ≤ ((3 : Int32)).toNatClampNeg) := inb_of Sz135 ⟨by decide, by decide⟩
        obtain ⟨T135, h135, X135, e135, W135, st135⟩ := stC X5 hx hZ e5 Ar135 (j := (3 : Int32)) hin135 (g := (mkF m 99 #[.val (.int p1), .val (.int p2), .val (.int p3), .val (.int (Int32.ofNat pn)), .val (.int (Int32.ofNat qn)), .val (.int (4 : Int32)), .val (.ref b1), .unset, .unset, .unset] [(.int (46 : Int32)), (.int (3 : Int32)), (.ref b1)])) rfl rfl (hb hby at_99)
        refine OGo.via st135 ?_
        have V135 : Arv Z h135 b1 ka1 .char (4 : Int32) [(.int m0), (.int m1), (.int m2), (.int (nar .char (46 : Int32)))] (.int (0 : Int32)) := Arv.set Ar135 q135 Sz135 Ng135 Hs135 Gf135 (fits_nar_char _) W135 3 rfl (Nat.le_of_ble_eq_true rfl)
        have K135 : Keep h0 h135 [] := K5.wr W135 (Or.inr sz_b1)
        have N135 := Fr.snoc X135 N5 g_b1
        show OGo _ _ _ _ (T135.setTop (mkF m 100 #[.val (.int p1), .val (.int p2), .val (.int p3), .val (.int (Int32.ofNat pn)), .val (.int (Int32.ofNat qn)), .val (.int (4 : Int32)), .val (.ref b1), .unset, .unset, .unset] []))
        exact cta m0 m1 m2 (nar .char (46 : Int32)) _ _ _ X135 e135 N135 K135 V135 hmc0 hmc1 hmc2 (by decide) (fun _ => hc70_124) (fun _ => (show ¬ nar .char (46 : Int32) = 47 from by decide))
      · refine OGo.via (fun _ k => XS.icmpYes X5.here hx rfl (pc0 := 88) (pc' := 100) rfl (hb hby at_88) rfl (feq hc88_133).2 (by decide) (by decide) k) ?_
        exact cta m0 m1 m2 m3 _ _ _ X5 e5 N5 K5 V5 hmc0 hmc1 hmc2 hmc3 (fun _ => hc70_124) (fun _ => hc88_133)
theorem own_eqint {args : Array Value} {Z : State} {t : Term} {k : Int32} (h : (Jvm.Cond.eq t (.int k)).value args Z none Z [] = some true) : t.eval args Z none [] Z = some (.int k) := by
  obtain ⟨x, y, hx, hy, -, -⟩ := cmp_v (Or.inl h)
  obtain rfl : Value.int k = y := Option.some.inj hy
  rw [hx]
  cases x <;> simp [Jvm.Cond.value, hx, Term.int_eval] at h ⊢
  exact h
set_option maxRecDepth 65536 in
set_option maxHeartbeats 40000000 in
theorem comes_1 {Post : Tables → Env → Array Value → State → Outcome → State → Prop} (hpost : ∀ tb e args s v u, (limb_1_1.after args s (.returned v) u = true ∧ limb_1_2.after args s (.returned v) u = true ∧ True) → FramedW s (.returned v) u (Jvm.fieldLocs frame_1_writes args s ++ Jvm.arrayLocs frame_1_arrays args s ++ Jvm.staticLocs frame_1_statics s) 32 2304 → Post tb e args s (.returned v) u) :
    ArmFor flags0 classFile x code maxLocals ret World_1 tables_1 room_1 Calls_1 rest_1 Pre_1 Post := by
  intro l hfl _ _ p e ha hc hk s m args below hf hA hF happ hP
  obtain ⟨hcalls, hrest, hpre⟩ := hP
  obtain ⟨-, -, -, hnamed, -, -, -, hat⟩ := (Spec.applies_iff hf).mp happ
  obtain ⟨hg, hn⟩ := and_e (Cond.before_iff.mp (show (Jvm.Cond.and given_1 narrow_1).before args s = true from hpre))
  obtain ⟨gc, gv0⟩ := and_e hg
  obtain ⟨ga0, gv1⟩ := and_e gv0
  obtain ⟨ga1, gv2⟩ := and_e gv1
  have ga2 := gv2
  obtain ⟨w0, w1, w2, rfl⟩ : ∃ w0 w1 w2 : Value, args = #[w0, w1, w2] := by
    have hs : args.size = 3 := by simpa [Cond.value, given_1] using gc
    obtain ⟨L⟩ := args
    match L, hs with
    | [w0, w1, w2], _ => exact ⟨w0, w1, w2, rfl⟩
  have hw := fun d (hd : d ∈ tables_1) => atoms_spec (ws := Jvm.Cond.code x code maxLocals ret :: tables_1) hat d (List.mem_cons_of_mem _ hd)
  have hfit : Fit s := fun {y c} hc i hi => by
    obtain ⟨ha, rfl⟩ := Array.getElem?_eq_some_iff.mp hc
    have q := List.all_eq_true.mp ((Array.all_eq_true_iff_forall_mem.mp hF) _ (Array.getElem_mem ha)) i (List.mem_range.mpr hi)
    simpa [Array.getElem?_eq_getElem hi] using q
  obtain ⟨hsets, hown0⟩ := atoms_of _ (rest_1_c_eq ▸ (show rest_1_c.before _ s = true from hrest))
  have hr0 := Cond.before_iff.mp hown0
  obtain ⟨i0, ei0⟩ := is_v ga0
  obtain rfl : w0 = (.int i0) := Option.some.inj ei0
  obtain ⟨i1, ei1⟩ := is_v ga1
  obtain rfl : w1 = (.int i1) := Option.some.inj ei1
  obtain ⟨i2, ei2⟩ := is_v ga2
  obtain rfl : w2 = (.int i2) := Option.some.inj ei2
  obtain ⟨w, ew⟩ := is_v (Cond.before_iff.mp (hsets _ (List.mem_of_getElem? (i := 1) rfl)))
  have hcw : Jvm.Lit.compactW.before _ s = true := hsets _ (List.mem_of_getElem? (i := 2) rfl)
  have hw0 : ¬ w = (0 : Int32) := by
    have z := not_v (Cond.before_iff.mp (hsets _ (List.mem_of_getElem? (i := 2) rfl)))
    intro q; subst q
    simp [Jvm.Cond.value, ew, Term.int_eval] at z
  obtain ⟨fm, efm, hrf⟩ := isR_v (Cond.before_iff.mp (hsets _ (List.mem_of_getElem? (i := 8) rfl)))
  have hch : Jvm.Lit.constHeld s "java/lang/StringLatin1" 151 := hcalls.1 ("java/lang/StringLatin1", 151) (by simp [consts_1])
  have hch7 : Jvm.Lit.constHeld s "java/lang/String" 7 := hcalls.1 ("java/lang/String", 7) (by simp [consts_1])
  have e12 := own_eqint (Cond.before_iff.mp (hsets _ (List.mem_of_getElem? (i := 12) rfl)))
  have e15 := own_eqint (Cond.before_iff.mp (hsets _ (List.mem_of_getElem? (i := 15) rfl)))
  have e18 := own_eqint (Cond.before_iff.mp (hsets _ (List.mem_of_getElem? (i := 18) rfl)))
  obtain ⟨n, o, h1, h2, h3, _, L, rfl, ⟨rfl, N⟩, hq⟩ := rm0 l s _ hw tables_1 i0 i1 i2 w fm s.heap s.heap.size (Nat.le_refl _) (Sta.start ew (Or.inl (hsets _ (List.mem_of_getElem? (i := 0) rfl)))) (Sta.start efm (Or.inl (hsets _ (List.mem_of_getElem? (i := 7) rfl)))) (Sta.start e12 (Or.inl (hsets _ (List.mem_of_getElem? (i := 11) rfl)))) (Sta.start e15 (Or.inl (hsets _ (List.mem_of_getElem? (i := 14) rfl)))) (Sta.start e18 (Or.inl (hsets _ (List.mem_of_getElem? (i := 17) rfl)))) hw0 hrf rfl hch hch7 hcw p e ha hc hk s m _ below hf ((Spec.applies_iff_loose hf).mp happ).1 ⟨rfl, State.WarmedH.refl s, rfl⟩ trivial
  refine ⟨n, _, h1, h2, h3, hpost _ _ _ _ _ _ ⟨Cond.after_iff.mpr rfl, Cond.after_iff.mpr (eq_i res_at (Term.int_eval (1)) rfl), trivial⟩ ⟨hq.1, hq.2.1, hq.2.2.1, (hq.2.2.2.sift fun y hy => Or.inr (N y hy)).mono (by decide) (by decide)⟩⟩
theorem main_1_1 : Claimed_1_1 := comes_1 fun _ _ _ _ _ _ h hF => ⟨h.1, hF⟩
theorem main_1_2 : Claimed_1_2 := comes_1 fun _ _ _ _ _ _ h hF => ⟨h.2.1, hF⟩
end Jvm.Pilot.@@N@@
namespace Jvm.Pilot.@@N@@
open Jvm Jvm.ClassFile Sem Op Lib Jvm.Free Jvm.Stand Jvm.Pilot.@@N@@.Jvm.D
/-! MADE BY PROGRAM (witnessworld.py) out of the Statement's table words and the real class files: 23 classes; the members and pool entries that the words name. The judged class is class 1, her method 1. -/
namespace start1
open Jvm.ClassFile
def u (s : String) : CpInfo := .utf8 (stringToUtf16 s)
/-- a pool by its gaps: so many unusable entries, then the entry; so many at the end -/
def gap : Nat → List CpInfo → List CpInfo
  | 0, r => r
  | n + 1, r => .unusable :: gap n r
def poolList (es : List (Nat × CpInfo)) (last : Nat) : List CpInfo := es.foldr (fun e r => gap e.1 (e.2 :: r)) (gap last [])
def pool (es : List (Nat × CpInfo)) (last : Nat) : Array CpInfo := ⟨poolList es last⟩
def fileOf (pool : Array CpInfo) (this : Nat) (attrs : Array Attribute := #[]) (ms : Array MethodInfo := #[]) (fl : Nat := 33) (sup : Nat := 0) (ifs : Array Nat := #[]) (fds : Array FieldInfo := #[]) : ClassFile where
  minorVersion := 0
  majorVersion := 65
  constantPool := pool
  accessFlags := fl
  thisClass := this
  superClass := sup
  interfaces := ifs
  fields := fds
  methods := ms
  attributes := attrs
def plain (name : String) (sup : Option ClassId) : Class where
  name := name
  kind := .ordinary
  loader := none
  accessFlags := 33
  super := sup
  interfaces := #[]
  cf := none
  fields := #[]
  methods := #[]
  instanceTypes := #[]
  staticTypes := #[]
  resolved := #[]
  callSites := []
  init := .initialized
  statics := none
  mirror := none

def pool0 : Array CpInfo := pool [(5, u "<init>"), (0, u "()V"), (1, .class_ 10), (1, u "java/lang/Object")] 113

def k0c0 : Code := { maxStack := 0, maxLocals := 1, code := object_method_1_code, exceptionTable := #[], attributes := #[] }
def k0m0 : Method := { name := "<init>", desc := "()V", sig := { parameters := [], returnType := none }, accessFlags := 1, code := some k0c0 }
/-- java/lang/Object -/
def k0 : Class := { plain "java/lang/Object" none with
  accessFlags := 33
  interfaces := #[]
  cf := some (fileOf pool0 8 #[] #[{ accessFlags := 1, nameIndex := 5, descriptorIndex := 6, attributes := #[] }] 33 0 #[] #[])
  fields := #[]
  methods := #[k0m0]
  instanceTypes := #[]
  staticTypes := #[]
  resolved := Array.replicate 124 none
  statics := none }

def pool1 : Array CpInfo := pool [(2, .class_ 4), (1, u "java/lang/Object"), (0, u "<init>"), (0, u "()V"), (0, .integer 65535), (0, .methodref 9 10), (0, .class_ 11), (0, .nameAndType 12 13), (0, u "com/example/ianus/ianus/path/UserPathTrimmedPinLaw"), (0, u "cell"), (0, u "(III[C)C"), (0, .methodref 9 15), (0, .nameAndType 16 17), (0, u "make"), (0, u "([CI)Ljava/lang/String;"), (0, .methodref 19 20), (0, .class_ 21), (0, .nameAndType 22 23), (0, u "com/example/ianus/ianus/path/UserPath"), (0, u "trimmed"), (0, u "(Ljava/lang/String;)Ljava/lang/String;"), (0, .methodref 25 26), (0, .class_ 27), (0, .nameAndType 28 29), (0, u "java/lang/String"), (0, u "length"), (0, u "()I"), (0, .methodref 25 31), (0, .nameAndType 32 33), (0, u "charAt"), (0, u "(I)C"), (0, .methodref 25 35), (0, .nameAndType 5 36), (0, u "([C)V"), (2, u "law"), (0, u "(III)Z")] 5

def k1m0 : Method := { name := "<init>", desc := "()V", sig := { parameters := [], returnType := none }, accessFlags := 2, code := none }
def k1c1 : Code := { maxStack := 6, maxLocals := 10, code := code, exceptionTable := #[], attributes := #[] }
def k1m1 : Method := { name := "law", desc := "(III)Z", sig := { parameters := [.int, .int, .int], returnType := some .boolean }, accessFlags := 9, code := some k1c1 }
def k1c2 : Code := { maxStack := 3, maxLocals := 4, code := method_3_code, exceptionTable := #[], attributes := #[] }
def k1m2 : Method := { name := "cell", desc := "(III[C)C", sig := { parameters := [.int, .int, .int, (.array .char)], returnType := some .char }, accessFlags := 10, code := some k1c2 }
def k1c3 : Code := { maxStack := 7, maxLocals := 2, code := method_4_code, exceptionTable := #[], attributes := #[] }
def k1m3 : Method := { name := "make", desc := "([CI)Ljava/lang/String;", sig := { parameters := [(.array .char), .int], returnType := some (.object "java/lang/String") }, accessFlags := 10, code := some k1c3 }
/-- com/example/ianus/ianus/path/UserPathTrimmedPinLaw -/
def k1 : Class := { plain "com/example/ianus/ianus/path/UserPathTrimmedPinLaw" (some 0) with
  accessFlags := 49
  interfaces := #[]
  cf := some (fileOf pool1 9 #[] #[{ accessFlags := 2, nameIndex := 5, descriptorIndex := 6, attributes := #[] }, { accessFlags := 9, nameIndex := 39, descriptorIndex := 40, attributes := #[] }, { accessFlags := 10, nameIndex := 12, descriptorIndex := 13, attributes := #[] }, { accessFlags := 10, nameIndex := 16, descriptorIndex := 17, attributes := #[] }] 49 2 #[] #[])
  fields := #[]
  methods := #[k1m0, k1m1, k1m2, k1m3]
  instanceTypes := #[]
  staticTypes := #[]
  resolved := Array.replicate 46 none
  statics := none }

def pool2 : Array CpInfo := pool [(1, .class_ 2), (0, u "java/io/Serializable"), (0, .class_ 4), (0, u "java/lang/Object")] 2

/-- java/io/Serializable -/
def k2 : Class := { plain "java/io/Serializable" (some 0) with
  accessFlags := 1537
  interfaces := #[]
  cf := some (fileOf pool2 1 #[] #[] 1537 3 #[] #[])
  fields := #[]
  methods := #[]
  instanceTypes := #[]
  staticTypes := #[]
  resolved := Array.replicate 7 none
  statics := none }

def pool3 : Array CpInfo := pool [(1, .class_ 2), (0, u "java/lang/Comparable"), (0, .class_ 4), (0, u "java/lang/Object")] 7

/-- java/lang/Comparable -/
def k3 : Class := { plain "java/lang/Comparable" (some 0) with
  accessFlags := 1537
  interfaces := #[]
  cf := some (fileOf pool3 1 #[] #[] 1537 3 #[] #[])
  fields := #[]
  methods := #[]
  instanceTypes := #[]
  staticTypes := #[]
  resolved := Array.replicate 12 none
  statics := none }

def pool4 : Array CpInfo := pool [(2, .class_ 4), (1, u "java/lang/CharSequence"), (42, .class_ 48), (0, u "java/lang/CharSequence$1CodePointIterator"), (10, .class_ 60), (0, u "java/lang/CharSequence$1CharIterator"), (5, .class_ 67), (0, u "java/lang/Object")] 63

/-- java/lang/CharSequence -/
def k4 : Class := { plain "java/lang/CharSequence" (some 0) with
  accessFlags := 1537
  interfaces := #[]
  cf := some (fileOf pool4 2 #[.nestMembers #[47, 59]] #[] 1537 66 #[] #[])
  fields := #[]
  methods := #[]
  instanceTypes := #[]
  staticTypes := #[]
  resolved := Array.replicate 131 none
  statics := none }

def pool5 : Array CpInfo := pool [(1, .class_ 2), (0, u "java/lang/constant/Constable"), (0, .class_ 4), (0, u "java/lang/Object")] 6

/-- java/lang/constant/Constable -/
def k5 : Class := { plain "java/lang/constant/Constable" (some 0) with
  accessFlags := 1537
  interfaces := #[]
  cf := some (fileOf pool5 1 #[] #[] 1537 3 #[] #[])
  fields := #[]
  methods := #[]
  instanceTypes := #[]
  staticTypes := #[]
  resolved := Array.replicate 11 none
  statics := none }

def pool6 : Array CpInfo := pool [(1, .class_ 2), (0, u "java/lang/constant/ConstantDesc"), (0, .class_ 4), (0, u "java/lang/Object")] 32

/-- java/lang/constant/ConstantDesc -/
def k6 : Class := { plain "java/lang/constant/ConstantDesc" (some 0) with
  accessFlags := 1537
  interfaces := #[]
  cf := some (fileOf pool6 1 #[] #[] 1537 3 #[] #[])
  fields := #[]
  methods := #[]
  instanceTypes := #[]
  staticTypes := #[]
  resolved := Array.replicate 37 none
  statics := none }

def pool7 : Array CpInfo := pool [(1, .methodref 2 3), (0, .class_ 4), (0, .nameAndType 5 6), (0, u "java/lang/Object"), (0, u "<init>"), (0, u "()V"), (0, .string 8), (0, u ""), (0, .fieldref 10 11), (0, .class_ 12), (0, .nameAndType 13 14), (0, u "java/lang/String"), (0, u "value"), (0, u "[B"), (0, .fieldref 10 16), (0, .nameAndType 17 18), (0, u "coder"), (0, u "B"), (2, u "hash"), (0, u "I"), (2, u "hashIsZero"), (0, u "Z"), (0, .methodref 10 28), (0, .nameAndType 5 29), (0, u "([CIILjava/lang/Void;)V"), (6, u "checkBoundsOffCount"), (0, u "(III)I"), (0, .fieldref 10 39), (0, .nameAndType 40 26), (0, u "COMPACT_STRINGS"), (1, .class_ 44), (1, u "java/lang/StringUTF16"), (0, u "compress"), (1, .methodref 42 48), (0, .nameAndType 49 50), (0, u "coderFromArrayLen"), (0, u "([BI)B"), (56, .class_ 109), (1, u "java/lang/StringLatin1"), (32, u "()Z"), (34, .methodref 42 178), (0, .nameAndType 45 179), (0, u "([CII)[B"), (31, u "([BB)V"), (122, u "()I"), (0, .methodref 10 336), (0, .nameAndType 17 337), (0, u "()B"), (25, u "([BI)C"), (27, u "(II)V"), (35, u "(I)C"), (64, .methodref 10 493), (0, .nameAndType 494 142), (0, u "isLatin1"), (0, .methodref 107 496), (0, .nameAndType 497 363), (0, u "charAt"), (0, .methodref 42 496), (2, u "checkIndex"), (3, .methodref 10 506), (0, .nameAndType 507 334), (0, u "length"), (5, u "checkFromToIndex"), (7, .methodref 10 522), (0, .nameAndType 523 524), (0, u "checkBoundsBeginEnd"), (0, u "(III)V"), (50, .class_ 576), (0, u "java/lang/CharSequence"), (22, u "CASE_INSENSITIVE_ORDER"), (0, u "Ljava/util/Comparator;"), (82, u "substring"), (0, u "(II)Ljava/lang/String;"), (0, .methodref 107 686), (0, .nameAndType 687 688), (0, u "newString"), (0, u "([BII)Ljava/lang/String;"), (0, .methodref 42 686), (320, u "([C)V"), (42, .fieldref 1054 1055), (0, .class_ 1056), (0, .nameAndType 1057 1058), (0, u "jdk/internal/util/Preconditions"), (0, u "SIOOBE_FORMATTER"), (0, u "Ljava/util/function/BiFunction;"), (0, .methodref 1054 1060), (0, .nameAndType 501 1061), (0, u "(IILjava/util/function/BiFunction;)I"), (0, .methodref 1054 1063), (0, .nameAndType 513 1064), (0, u "(IIILjava/util/function/BiFunction;)I"), (0, .methodref 1054 1066), (0, .nameAndType 1067 1064), (0, u "checkFromIndexSize"), (33, u "serialPersistentFields"), (0, u "[Ljava/io/ObjectStreamField;"), (0, .class_ 1104), (0, u "java/lang/String$CaseInsensitiveComparator"), (1, .class_ 1107), (0, u "java/io/Serializable"), (0, .class_ 1109), (0, u "java/lang/Comparable"), (0, .class_ 1111), (0, u "java/lang/constant/Constable"), (0, .class_ 1113), (0, u "java/lang/constant/ConstantDesc"), (2, u "serialVersionUID"), (0, u "J"), (3, u "REPL"), (0, u "C"), (2, u "LATIN1"), (1, u "UTF16")] 323

def k7m0 : Method := { name := "<init>", desc := "()V", sig := { parameters := [], returnType := none }, accessFlags := 1, code := none }
def k7c1 : Code := { maxStack := 5, maxLocals := 2, code := jdk_42_method_3_code, exceptionTable := #[], attributes := #[] }
def k7m1 : Method := { name := "<init>", desc := "([C)V", sig := { parameters := [(.array .char)], returnType := none }, accessFlags := 1, code := some k7c1 }
def k7c2 : Code := { maxStack := 2, maxLocals := 1, code := jdk_42_method_54_code, exceptionTable := #[], attributes := #[] }
def k7m2 : Method := { name := "length", desc := "()I", sig := { parameters := [], returnType := some .int }, accessFlags := 1, code := some k7c2 }
def k7c3 : Code := { maxStack := 2, maxLocals := 2, code := jdk_42_method_56_code, exceptionTable := #[], attributes := #[] }
def k7m3 : Method := { name := "charAt", desc := "(I)C", sig := { parameters := [.int], returnType := some .char }, accessFlags := 1, code := some k7c3 }
def k7c4 : Code := { maxStack := 3, maxLocals := 5, code := jdk_42_method_92_code, exceptionTable := #[], attributes := #[] }
def k7m4 : Method := { name := "substring", desc := "(II)Ljava/lang/String;", sig := { parameters := [.int, .int], returnType := some (.object "java/lang/String") }, accessFlags := 1, code := some k7c4 }
def k7c5 : Code := { maxStack := 4, maxLocals := 6, code := jdk_42_method_149_code, exceptionTable := #[], attributes := #[] }
def k7m5 : Method := { name := "<init>", desc := "([CIILjava/lang/Void;)V", sig := { parameters := [(.array .char), .int, .int, (.object "java/lang/Void")], returnType := none }, accessFlags := 2, code := some k7c5 }
def k7c6 : Code := { maxStack := 2, maxLocals := 3, code := jdk_42_method_151_code, exceptionTable := #[], attributes := #[] }
def k7m6 : Method := { name := "<init>", desc := "([BB)V", sig := { parameters := [(.array .byte), .byte], returnType := none }, accessFlags := 0, code := some k7c6 }
def k7c7 : Code := { maxStack := 1, maxLocals := 1, code := jdk_42_method_152_code, exceptionTable := #[], attributes := #[] }
def k7m7 : Method := { name := "coder", desc := "()B", sig := { parameters := [], returnType := some .byte }, accessFlags := 0, code := some k7c7 }
def k7c8 : Code := { maxStack := 1, maxLocals := 1, code := jdk_42_method_154_code, exceptionTable := #[], attributes := #[] }
def k7m8 : Method := { name := "isLatin1", desc := "()Z", sig := { parameters := [], returnType := some .boolean }, accessFlags := 0, code := some k7c8 }
def k7c9 : Code := { maxStack := 3, maxLocals := 2, code := jdk_42_method_155_code, exceptionTable := #[], attributes := #[] }
def k7m9 : Method := { name := "checkIndex", desc := "(II)V", sig := { parameters := [.int, .int], returnType := none }, accessFlags := 8, code := some k7c9 }
def k7c10 : Code := { maxStack := 4, maxLocals := 3, code := jdk_42_method_157_code, exceptionTable := #[], attributes := #[] }
def k7m10 : Method := { name := "checkBoundsOffCount", desc := "(III)I", sig := { parameters := [.int, .int, .int], returnType := some .int }, accessFlags := 8, code := some k7c10 }
def k7c11 : Code := { maxStack := 4, maxLocals := 3, code := jdk_42_method_158_code, exceptionTable := #[], attributes := #[] }
def k7m11 : Method := { name := "checkBoundsBeginEnd", desc := "(III)V", sig := { parameters := [.int, .int, .int], returnType := none }, accessFlags := 8, code := some k7c11 }
/-- java/lang/String -/
def k7 : Class := { plain "java/lang/String" (some 0) with
  accessFlags := 49
  interfaces := #[2, 3, 4, 5, 6]
  cf := some (fileOf pool7 10 #[.nestMembers #[1103]] #[{ accessFlags := 1, nameIndex := 5, descriptorIndex := 6, attributes := #[] }, { accessFlags := 1, nameIndex := 5, descriptorIndex := 1010, attributes := #[] }, { accessFlags := 1, nameIndex := 507, descriptorIndex := 334, attributes := #[] }, { accessFlags := 1, nameIndex := 497, descriptorIndex := 427, attributes := #[] }, { accessFlags := 1, nameIndex := 683, descriptorIndex := 684, attributes := #[] }, { accessFlags := 2, nameIndex := 5, descriptorIndex := 29, attributes := #[] }, { accessFlags := 0, nameIndex := 5, descriptorIndex := 211, attributes := #[] }, { accessFlags := 0, nameIndex := 17, descriptorIndex := 337, attributes := #[] }, { accessFlags := 0, nameIndex := 494, descriptorIndex := 142, attributes := #[] }, { accessFlags := 8, nameIndex := 501, descriptorIndex := 391, attributes := #[] }, { accessFlags := 8, nameIndex := 36, descriptorIndex := 37, attributes := #[] }, { accessFlags := 8, nameIndex := 523, descriptorIndex := 524, attributes := #[] }] 49 2 #[1106, 1108, 575, 1110, 1112] #[{ accessFlags := 18, nameIndex := 13, descriptorIndex := 14, attributes := #[] }, { accessFlags := 18, nameIndex := 17, descriptorIndex := 18, attributes := #[] }, { accessFlags := 2, nameIndex := 21, descriptorIndex := 22, attributes := #[] }, { accessFlags := 2, nameIndex := 25, descriptorIndex := 26, attributes := #[] }, { accessFlags := 26, nameIndex := 1116, descriptorIndex := 1117, attributes := #[] }, { accessFlags := 24, nameIndex := 40, descriptorIndex := 26, attributes := #[] }, { accessFlags := 26, nameIndex := 1101, descriptorIndex := 1102, attributes := #[] }, { accessFlags := 26, nameIndex := 1121, descriptorIndex := 1122, attributes := #[] }, { accessFlags := 25, nameIndex := 599, descriptorIndex := 600, attributes := #[] }, { accessFlags := 24, nameIndex := 1125, descriptorIndex := 18, attributes := #[] }, { accessFlags := 24, nameIndex := 1127, descriptorIndex := 18, attributes := #[] }])
  fields := #[{ name := "value", type := (.array .byte), accessFlags := 18, slot := 0, constantValue := 0 }, { name := "coder", type := .byte, accessFlags := 18, slot := 1, constantValue := 0 }, { name := "hash", type := .int, accessFlags := 2, slot := 2, constantValue := 0 }, { name := "hashIsZero", type := .boolean, accessFlags := 2, slot := 3, constantValue := 0 }, { name := "serialVersionUID", type := .long, accessFlags := 26, slot := 0, constantValue := 0 }, { name := "COMPACT_STRINGS", type := .boolean, accessFlags := 24, slot := 1, constantValue := 0 }, { name := "serialPersistentFields", type := (.array (.object "java/io/ObjectStreamField")), accessFlags := 26, slot := 2, constantValue := 0 }, { name := "REPL", type := .char, accessFlags := 26, slot := 3, constantValue := 0 }, { name := "CASE_INSENSITIVE_ORDER", type := (.object "java/util/Comparator"), accessFlags := 25, slot := 4, constantValue := 0 }, { name := "LATIN1", type := .byte, accessFlags := 24, slot := 5, constantValue := 0 }, { name := "UTF16", type := .byte, accessFlags := 24, slot := 6, constantValue := 0 }]
  methods := #[k7m0, k7m1, k7m2, k7m3, k7m4, k7m5, k7m6, k7m7, k7m8, k7m9, k7m10, k7m11]
  instanceTypes := #[(.array .byte), .byte, .int, .boolean]
  staticTypes := #[.long, .boolean, (.array (.object "java/io/ObjectStreamField")), .char, (.object "java/util/Comparator"), .byte, .byte]
  resolved := Array.replicate 1451 none
  statics := some 0 }

def pool8 : Array CpInfo := pool [(2, .class_ 4), (1, u "java/lang/Object"), (0, u "<init>"), (0, u "()V"), (1, .class_ 10), (1, u "com/example/ianus/ianus/path/UserPath"), (0, u "trimmed"), (0, u "(Ljava/lang/String;)Ljava/lang/String;"), (17, .methodref 31 32), (0, .class_ 33), (0, .nameAndType 34 35), (0, u "java/lang/String"), (0, u "length"), (0, u "()I"), (0, .methodref 31 37), (0, .nameAndType 38 39), (0, u "charAt"), (0, u "(I)C"), (0, .methodref 31 41), (0, .nameAndType 42 43), (0, u "substring"), (0, u "(II)Ljava/lang/String;"), (2, u "NAMEABLE"), (0, u "Ljava/util/regex/Pattern;"), (18, u "UNSERVABLE_SEGMENT"), (0, u "Ljava/lang/String;")] 42

def k8m0 : Method := { name := "<init>", desc := "()V", sig := { parameters := [], returnType := none }, accessFlags := 2, code := none }
def k8c1 : Code := { maxStack := 3, maxLocals := 3, code := prog_5_method_3_code, exceptionTable := #[], attributes := #[] }
def k8m1 : Method := { name := "trimmed", desc := "(Ljava/lang/String;)Ljava/lang/String;", sig := { parameters := [(.object "java/lang/String")], returnType := some (.object "java/lang/String") }, accessFlags := 9, code := some k8c1 }
/-- com/example/ianus/ianus/path/UserPath -/
def k8 : Class := { plain "com/example/ianus/ianus/path/UserPath" (some 0) with
  accessFlags := 49
  interfaces := #[]
  cf := some (fileOf pool8 8 #[] #[{ accessFlags := 2, nameIndex := 5, descriptorIndex := 6, attributes := #[] }, { accessFlags := 9, nameIndex := 11, descriptorIndex := 12, attributes := #[] }] 49 2 #[] #[{ accessFlags := 25, nameIndex := 66, descriptorIndex := 67, attributes := #[] }, { accessFlags := 26, nameIndex := 46, descriptorIndex := 47, attributes := #[] }])
  fields := #[{ name := "UNSERVABLE_SEGMENT", type := (.object "java/lang/String"), accessFlags := 25, slot := 0, constantValue := 0 }, { name := "NAMEABLE", type := (.object "java/util/regex/Pattern"), accessFlags := 26, slot := 1, constantValue := 0 }]
  methods := #[k8m0, k8m1]
  instanceTypes := #[]
  staticTypes := #[(.object "java/lang/String"), (.object "java/util/regex/Pattern")]
  resolved := Array.replicate 110 none
  statics := none }

def pool9 : Array CpInfo := pool [(2, .class_ 4), (1, u "java/lang/Object"), (0, u "<init>"), (0, u "()V"), (17, .class_ 26), (1, u "jdk/internal/util/Preconditions"), (6, u "checkIndex"), (13, u "checkFromToIndex"), (1, u "checkFromIndexSize"), (5, .class_ 56), (0, u "jdk/internal/util/Preconditions$4"), (57, .class_ 115), (0, u "jdk/internal/util/Preconditions$1"), (7, u "SIOOBE_FORMATTER"), (0, u "Ljava/util/function/BiFunction;"), (0, .class_ 126), (0, u "jdk/internal/util/Preconditions$2"), (3, u "AIOOBE_FORMATTER"), (0, .class_ 132), (0, u "jdk/internal/util/Preconditions$3"), (3, u "IOOBE_FORMATTER"), (41, u "(IILjava/util/function/BiFunction;)I"), (4, u "(IIILjava/util/function/BiFunction;)I")] 10

def k9m0 : Method := { name := "<init>", desc := "()V", sig := { parameters := [], returnType := none }, accessFlags := 1, code := none }
def k9c1 : Code := { maxStack := 3, maxLocals := 3, code := jdk_41_method_11_code, exceptionTable := #[], attributes := #[] }
def k9m1 : Method := { name := "checkIndex", desc := "(IILjava/util/function/BiFunction;)I", sig := { parameters := [.int, .int, (.object "java/util/function/BiFunction")], returnType := some .int }, accessFlags := 9, code := some k9c1 }
def k9c2 : Code := { maxStack := 4, maxLocals := 4, code := jdk_41_method_12_code, exceptionTable := #[], attributes := #[] }
def k9m2 : Method := { name := "checkFromToIndex", desc := "(IIILjava/util/function/BiFunction;)I", sig := { parameters := [.int, .int, .int, (.object "java/util/function/BiFunction")], returnType := some .int }, accessFlags := 9, code := some k9c2 }
def k9c3 : Code := { maxStack := 4, maxLocals := 4, code := jdk_41_method_13_code, exceptionTable := #[], attributes := #[] }
def k9m3 : Method := { name := "checkFromIndexSize", desc := "(IIILjava/util/function/BiFunction;)I", sig := { parameters := [.int, .int, .int, (.object "java/util/function/BiFunction")], returnType := some .int }, accessFlags := 9, code := some k9c3 }
/-- jdk/internal/util/Preconditions -/
def k9 : Class := { plain "jdk/internal/util/Preconditions" (some 0) with
  accessFlags := 33
  interfaces := #[]
  cf := some (fileOf pool9 24 #[.nestMembers #[55, 131, 125, 114]] #[{ accessFlags := 1, nameIndex := 5, descriptorIndex := 6, attributes := #[] }, { accessFlags := 9, nameIndex := 33, descriptorIndex := 178, attributes := #[] }, { accessFlags := 9, nameIndex := 47, descriptorIndex := 183, attributes := #[] }, { accessFlags := 9, nameIndex := 49, descriptorIndex := 183, attributes := #[] }] 33 2 #[] #[{ accessFlags := 25, nameIndex := 123, descriptorIndex := 124, attributes := #[] }, { accessFlags := 25, nameIndex := 130, descriptorIndex := 124, attributes := #[] }, { accessFlags := 25, nameIndex := 136, descriptorIndex := 124, attributes := #[] }])
  fields := #[{ name := "SIOOBE_FORMATTER", type := (.object "java/util/function/BiFunction"), accessFlags := 25, slot := 0, constantValue := 0 }, { name := "AIOOBE_FORMATTER", type := (.object "java/util/function/BiFunction"), accessFlags := 25, slot := 1, constantValue := 0 }, { name := "IOOBE_FORMATTER", type := (.object "java/util/function/BiFunction"), accessFlags := 25, slot := 2, constantValue := 0 }]
  methods := #[k9m0, k9m1, k9m2, k9m3]
  instanceTypes := #[]
  staticTypes := #[(.object "java/util/function/BiFunction"), (.object "java/util/function/BiFunction"), (.object "java/util/function/BiFunction")]
  resolved := Array.replicate 194 none
  statics := some 1 }

def pool10 : Array CpInfo := pool [(3, .class_ 4), (0, u "java/lang/String"), (1, .class_ 8), (1, u "java/lang/Object"), (0, u "<init>"), (0, u "()V"), (0, .methodref 12 13), (0, .class_ 14), (0, .nameAndType 15 16), (0, u "java/lang/StringUTF16"), (0, u "newBytesLength"), (0, u "(I)I"), (3, .integer 1073741823), (23, .fieldref 12 45), (0, .nameAndType 46 47), (0, u "$assertionsDisabled"), (0, u "Z"), (0, .methodref 12 49), (0, .nameAndType 50 51), (0, u "length"), (0, u "([B)I"), (7, .fieldref 12 60), (0, .nameAndType 61 62), (0, u "HI_BYTE_SHIFT"), (0, u "I"), (0, .fieldref 12 64), (0, .nameAndType 65 62), (0, u "LO_BYTE_SHIFT"), (1, .methodref 12 68), (0, .nameAndType 69 70), (0, u "checkIndex"), (0, u "(I[B)V"), (0, .methodref 12 72), (0, .nameAndType 73 74), (0, u "getChar"), (0, u "([BI)C"), (24, u "(II[B)V"), (7, .methodref 12 108), (0, .nameAndType 109 110), (0, u "newBytesFor"), (0, u "(I)[B"), (0, .methodref 12 112), (0, .nameAndType 113 114), (0, u "putChar"), (0, u "([BII)V"), (0, .methodref 12 116), (0, .nameAndType 117 118), (0, u "compress"), (0, u "([CI[BII)I"), (0, .methodref 12 120), (0, .nameAndType 121 122), (0, u "toBytes"), (0, u "([CII)[B"), (0, .methodref 12 124), (0, .nameAndType 117 125), (0, u "([BI[BII)I"), (0, .methodref 127 128), (0, .class_ 129), (0, .nameAndType 130 131), (0, u "java/util/Arrays"), (0, u "copyOfRange"), (0, u "([BII)[B"), (41, .methodref 12 174), (0, .nameAndType 175 99), (0, u "checkBoundsOffCount"), (75, .fieldref 3 252), (0, .nameAndType 253 47), (0, u "COMPACT_STRINGS"), (3, .methodref 12 258), (0, .nameAndType 117 131), (0, .methodref 12 260), (0, .nameAndType 261 262), (0, u "coderFromArrayLen"), (0, u "([BI)B"), (0, .methodref 3 264), (0, .nameAndType 9 265), (0, u "([BB)V"), (15, u "(III)I"), (45, u "newString"), (0, u "([BII)Ljava/lang/String;"), (40, .class_ 371), (1, u "java/lang/StringUTF16$LinesSpliterator"), (20, u "charAt"), (21, .methodref 3 415), (0, .nameAndType 69 416), (0, u "(II)V"), (2, .methodref 3 420), (0, .nameAndType 175 281), (9, u "MAX_LENGTH"), (196, .class_ 628), (0, u "java/lang/StringUTF16$CodePointsSpliterator"), (0, .class_ 630), (0, u "java/lang/StringUTF16$CharsSpliterator")] 4

def k10m0 : Method := { name := "<init>", desc := "()V", sig := { parameters := [], returnType := none }, accessFlags := 0, code := none }
def k10c1 : Code := { maxStack := 1, maxLocals := 1, code := jdk_52_method_2_code, exceptionTable := #[], attributes := #[] }
def k10m1 : Method := { name := "newBytesFor", desc := "(I)[B", sig := { parameters := [.int], returnType := some (.array .byte) }, accessFlags := 9, code := some k10c1 }
def k10c2 : Code := { maxStack := 4, maxLocals := 1, code := jdk_52_method_3_code, exceptionTable := #[], attributes := #[] }
def k10m2 : Method := { name := "newBytesLength", desc := "(I)I", sig := { parameters := [.int], returnType := some .int }, accessFlags := 9, code := some k10c2 }
def k10c3 : Code := { maxStack := 4, maxLocals := 3, code := jdk_52_method_4_code, exceptionTable := #[], attributes := #[] }
def k10m3 : Method := { name := "putChar", desc := "([BII)V", sig := { parameters := [(.array .byte), .int, .int], returnType := none }, accessFlags := 8, code := some k10c3 }
def k10c4 : Code := { maxStack := 3, maxLocals := 2, code := jdk_52_method_5_code, exceptionTable := #[], attributes := #[] }
def k10m4 : Method := { name := "getChar", desc := "([BI)C", sig := { parameters := [(.array .byte), .int], returnType := some .char }, accessFlags := 8, code := some k10c4 }
def k10c5 : Code := { maxStack := 2, maxLocals := 1, code := jdk_52_method_6_code, exceptionTable := #[], attributes := #[] }
def k10m5 : Method := { name := "length", desc := "([B)I", sig := { parameters := [(.array .byte)], returnType := some .int }, accessFlags := 9, code := some k10c5 }
def k10c6 : Code := { maxStack := 4, maxLocals := 5, code := jdk_52_method_14_code, exceptionTable := #[], attributes := #[] }
def k10m6 : Method := { name := "toBytes", desc := "([CII)[B", sig := { parameters := [(.array .char), .int, .int], returnType := some (.array .byte) }, accessFlags := 9, code := some k10c6 }
def k10c7 : Code := { maxStack := 2, maxLocals := 2, code := jdk_52_method_15_code, exceptionTable := #[], attributes := #[] }
def k10m7 : Method := { name := "coderFromArrayLen", desc := "([BI)B", sig := { parameters := [(.array .byte), .int], returnType := some .byte }, accessFlags := 8, code := some k10c7 }
def k10c8 : Code := { maxStack := 5, maxLocals := 6, code := jdk_52_method_16_code, exceptionTable := #[], attributes := #[] }
def k10m8 : Method := { name := "compress", desc := "([CII)[B", sig := { parameters := [(.array .char), .int, .int], returnType := some (.array .byte) }, accessFlags := 9, code := some k10c8 }
def k10c9 : Code := { maxStack := 5, maxLocals := 6, code := jdk_52_method_17_code, exceptionTable := #[], attributes := #[] }
def k10m9 : Method := { name := "compress", desc := "([BII)[B", sig := { parameters := [(.array .byte), .int, .int], returnType := some (.array .byte) }, accessFlags := 9, code := some k10c9 }
def k10c10 : Code := { maxStack := 3, maxLocals := 7, code := jdk_52_method_21_code, exceptionTable := #[], attributes := #[] }
def k10m10 : Method := { name := "compress", desc := "([CI[BII)I", sig := { parameters := [(.array .char), .int, (.array .byte), .int, .int], returnType := some .int }, accessFlags := 9, code := some k10c10 }
def k10c11 : Code := { maxStack := 3, maxLocals := 7, code := jdk_52_method_22_code, exceptionTable := #[], attributes := #[] }
def k10m11 : Method := { name := "compress", desc := "([BI[BII)I", sig := { parameters := [(.array .byte), .int, (.array .byte), .int, .int], returnType := some .int }, accessFlags := 9, code := some k10c11 }
def k10c12 : Code := { maxStack := 6, maxLocals := 5, code := jdk_52_method_69_code, exceptionTable := #[], attributes := #[] }
def k10m12 : Method := { name := "newString", desc := "([BII)Ljava/lang/String;", sig := { parameters := [(.array .byte), .int, .int], returnType := some (.object "java/lang/String") }, accessFlags := 9, code := some k10c12 }
def k10c13 : Code := { maxStack := 2, maxLocals := 2, code := jdk_52_method_83_code, exceptionTable := #[], attributes := #[] }
def k10m13 : Method := { name := "charAt", desc := "([BI)C", sig := { parameters := [(.array .byte), .int], returnType := some .char }, accessFlags := 9, code := some k10c13 }
def k10c14 : Code := { maxStack := 2, maxLocals := 2, code := jdk_52_method_91_code, exceptionTable := #[], attributes := #[] }
def k10m14 : Method := { name := "checkIndex", desc := "(I[B)V", sig := { parameters := [.int, (.array .byte)], returnType := none }, accessFlags := 9, code := some k10c14 }
def k10c15 : Code := { maxStack := 3, maxLocals := 3, code := jdk_52_method_94_code, exceptionTable := #[], attributes := #[] }
def k10m15 : Method := { name := "checkBoundsOffCount", desc := "(II[B)V", sig := { parameters := [.int, .int, (.array .byte)], returnType := none }, accessFlags := 9, code := some k10c15 }
/-- java/lang/StringUTF16 -/
def k10 : Class := { plain "java/lang/StringUTF16" (some 0) with
  accessFlags := 48
  interfaces := #[]
  cf := some (fileOf pool10 12 #[.nestMembers #[627, 629, 369]] #[{ accessFlags := 0, nameIndex := 9, descriptorIndex := 10, attributes := #[] }, { accessFlags := 9, nameIndex := 109, descriptorIndex := 110, attributes := #[] }, { accessFlags := 9, nameIndex := 15, descriptorIndex := 16, attributes := #[] }, { accessFlags := 8, nameIndex := 113, descriptorIndex := 114, attributes := #[] }, { accessFlags := 8, nameIndex := 73, descriptorIndex := 74, attributes := #[] }, { accessFlags := 9, nameIndex := 50, descriptorIndex := 51, attributes := #[] }, { accessFlags := 9, nameIndex := 121, descriptorIndex := 122, attributes := #[] }, { accessFlags := 8, nameIndex := 261, descriptorIndex := 262, attributes := #[] }, { accessFlags := 9, nameIndex := 117, descriptorIndex := 122, attributes := #[] }, { accessFlags := 9, nameIndex := 117, descriptorIndex := 131, attributes := #[] }, { accessFlags := 9, nameIndex := 117, descriptorIndex := 118, attributes := #[] }, { accessFlags := 9, nameIndex := 117, descriptorIndex := 125, attributes := #[] }, { accessFlags := 9, nameIndex := 327, descriptorIndex := 328, attributes := #[] }, { accessFlags := 9, nameIndex := 392, descriptorIndex := 74, attributes := #[] }, { accessFlags := 9, nameIndex := 69, descriptorIndex := 70, attributes := #[] }, { accessFlags := 9, nameIndex := 175, descriptorIndex := 99, attributes := #[] }] 48 6 #[] #[{ accessFlags := 26, nameIndex := 61, descriptorIndex := 62, attributes := #[] }, { accessFlags := 26, nameIndex := 65, descriptorIndex := 62, attributes := #[] }, { accessFlags := 24, nameIndex := 430, descriptorIndex := 62, attributes := #[] }, { accessFlags := 4120, nameIndex := 46, descriptorIndex := 47, attributes := #[] }])
  fields := #[{ name := "HI_BYTE_SHIFT", type := .int, accessFlags := 26, slot := 0, constantValue := 0 }, { name := "LO_BYTE_SHIFT", type := .int, accessFlags := 26, slot := 1, constantValue := 0 }, { name := "MAX_LENGTH", type := .int, accessFlags := 24, slot := 2, constantValue := 0 }, { name := "$assertionsDisabled", type := .boolean, accessFlags := 4120, slot := 3, constantValue := 0 }]
  methods := #[k10m0, k10m1, k10m2, k10m3, k10m4, k10m5, k10m6, k10m7, k10m8, k10m9, k10m10, k10m11, k10m12, k10m13, k10m14, k10m15]
  instanceTypes := #[]
  staticTypes := #[.int, .int, .int, .boolean]
  resolved := Array.replicate 635 none
  statics := some 2 }

def pool11 : Array CpInfo := pool [(1, .class_ 2), (0, u "java/lang/String"), (1, .class_ 6), (1, u "java/lang/Object"), (0, u "<init>"), (0, u "()V"), (0, .methodref 1 10), (0, .nameAndType 11 12), (0, u "checkIndex"), (0, u "(II)V"), (1, .class_ 16), (1, u "java/lang/StringLatin1"), (36, u "([BI)C"), (58, .methodref 1 113), (0, .nameAndType 7 114), (0, u "([BB)V"), (6, u "$assertionsDisabled"), (0, u "Z"), (8, .class_ 133), (1, u "java/util/Arrays"), (17, .string 152), (0, u ""), (43, u "newString"), (0, u "([BII)Ljava/lang/String;"), (23, .class_ 223), (1, u "java/lang/StringLatin1$LinesSpliterator"), (8, .methodref 131 233), (0, .nameAndType 234 235), (0, u "copyOfRange"), (0, u "([BII)[B"), (16, u "charAt"), (137, .class_ 391), (0, u "java/lang/StringLatin1$CharsSpliterator")] 3

def k11m0 : Method := { name := "<init>", desc := "()V", sig := { parameters := [], returnType := none }, accessFlags := 0, code := none }
def k11c1 : Code := { maxStack := 2, maxLocals := 2, code := jdk_43_method_2_code, exceptionTable := #[], attributes := #[] }
def k11m1 : Method := { name := "charAt", desc := "([BI)C", sig := { parameters := [(.array .byte), .int], returnType := some .char }, accessFlags := 9, code := some k11c1 }
def k11c2 : Code := { maxStack := 6, maxLocals := 3, code := jdk_43_method_47_code, exceptionTable := #[], attributes := #[] }
def k11m2 : Method := { name := "newString", desc := "([BII)Ljava/lang/String;", sig := { parameters := [(.array .byte), .int, .int], returnType := some (.object "java/lang/String") }, accessFlags := 9, code := some k11c2 }
/-- java/lang/StringLatin1 -/
def k11 : Class := { plain "java/lang/StringLatin1" (some 0) with
  accessFlags := 48
  interfaces := #[]
  cf := some (fileOf pool11 14 #[.nestMembers #[390, 221]] #[{ accessFlags := 0, nameIndex := 7, descriptorIndex := 8, attributes := #[] }, { accessFlags := 9, nameIndex := 252, descriptorIndex := 53, attributes := #[] }, { accessFlags := 9, nameIndex := 196, descriptorIndex := 197, attributes := #[] }] 48 4 #[] #[{ accessFlags := 4120, nameIndex := 121, descriptorIndex := 122, attributes := #[] }])
  fields := #[{ name := "$assertionsDisabled", type := .boolean, accessFlags := 4120, slot := 0, constantValue := 0 }]
  methods := #[k11m0, k11m1, k11m2]
  instanceTypes := #[]
  staticTypes := #[.boolean]
  resolved := Array.replicate 395 none
  statics := none }

def pool12 : Array CpInfo := pool [(2, .class_ 4), (1, u "java/lang/Object"), (0, u "<init>"), (0, u "()V"), (7, .class_ 16), (1, u "java/util/Arrays"), (57, .class_ 76), (1, u "java/util/Arrays$NaturalOrder"), (36, .class_ 115), (1, u "java/util/Arrays$LegacyMergeSort"), (1, u "Z"), (21, u "copyOfRange"), (10, .methodref 151 152), (0, .class_ 153), (0, .nameAndType 154 155), (0, u "java/lang/System"), (0, u "arraycopy"), (0, u "(Ljava/lang/Object;ILjava/lang/Object;II)V"), (148, .methodref 305 306), (0, .class_ 307), (0, .nameAndType 308 309), (0, u "java/lang/Math"), (0, u "min"), (0, u "(II)I"), (29, .methodref 14 340), (0, .nameAndType 341 342), (0, u "copyOfRangeByte"), (0, u "([BII)[B"), (0, .methodref 14 344), (0, .nameAndType 345 346), (0, u "checkLength"), (0, u "(II)V"), (28, .class_ 376), (0, u "java/util/Arrays$ArrayList"), (68, u "$assertionsDisabled"), (269, u "MIN_ARRAY_SORT_GRAN"), (0, u "I"), (2, u "INSERTIONSORT_THRESHOLD"), (255, .class_ 976), (0, u "java/util/Arrays$ArrayItr")] 52

def k12m0 : Method := { name := "<init>", desc := "()V", sig := { parameters := [], returnType := none }, accessFlags := 2, code := none }
def k12c1 : Code := { maxStack := 4, maxLocals := 2, code := jdk_65_method_131_code, exceptionTable := #[], attributes := #[] }
def k12m1 : Method := { name := "checkLength", desc := "(II)V", sig := { parameters := [.int, .int], returnType := none }, accessFlags := 10, code := some k12c1 }
def k12c2 : Code := { maxStack := 3, maxLocals := 3, code := jdk_65_method_132_code, exceptionTable := #[], attributes := #[] }
def k12m2 : Method := { name := "copyOfRange", desc := "([BII)[B", sig := { parameters := [(.array .byte), .int, .int], returnType := some (.array .byte) }, accessFlags := 9, code := some k12c2 }
def k12c3 : Code := { maxStack := 6, maxLocals := 5, code := jdk_65_method_133_code, exceptionTable := #[], attributes := #[] }
def k12m3 : Method := { name := "copyOfRangeByte", desc := "([BII)[B", sig := { parameters := [(.array .byte), .int, .int], returnType := some (.array .byte) }, accessFlags := 10, code := some k12c3 }
/-- java/util/Arrays -/
def k12 : Class := { plain "java/util/Arrays" (some 0) with
  accessFlags := 49
  interfaces := #[]
  cf := some (fileOf pool12 14 #[.nestMembers #[975, 375, 113, 74]] #[{ accessFlags := 2, nameIndex := 5, descriptorIndex := 6, attributes := #[] }, { accessFlags := 10, nameIndex := 345, descriptorIndex := 346, attributes := #[] }, { accessFlags := 9, nameIndex := 139, descriptorIndex := 342, attributes := #[] }, { accessFlags := 10, nameIndex := 341, descriptorIndex := 342, attributes := #[] }] 49 2 #[] #[{ accessFlags := 26, nameIndex := 715, descriptorIndex := 716, attributes := #[] }, { accessFlags := 26, nameIndex := 719, descriptorIndex := 716, attributes := #[] }, { accessFlags := 4120, nameIndex := 445, descriptorIndex := 117, attributes := #[] }])
  fields := #[{ name := "MIN_ARRAY_SORT_GRAN", type := .int, accessFlags := 26, slot := 0, constantValue := 0 }, { name := "INSERTIONSORT_THRESHOLD", type := .int, accessFlags := 26, slot := 1, constantValue := 0 }, { name := "$assertionsDisabled", type := .boolean, accessFlags := 4120, slot := 2, constantValue := 0 }]
  methods := #[k12m0, k12m1, k12m2, k12m3]
  instanceTypes := #[]
  staticTypes := #[.int, .int, .boolean]
  resolved := Array.replicate 1029 none
  statics := none }

def pool13 : Array CpInfo := pool [(1, .class_ 2), (0, u "java/lang/Math"), (1, .class_ 6), (1, u "java/lang/Object"), (0, u "<init>"), (0, u "()V"), (89, .class_ 100), (1, u "java/lang/Math$RandomNumberGeneratorHolder"), (71, u "negativeZeroFloatBits"), (0, u "J"), (2, u "negativeZeroDoubleBits"), (24, u "min"), (43, u "$assertionsDisabled"), (0, u "Z"), (88, u "(II)I"), (2, u "twoToTheDoubleScaleDown"), (0, u "D"), (4, u "twoToTheDoubleScaleUp"), (9, u "E"), (3, u "PI"), (2, u "TAU"), (2, u "DEGREES_TO_RADIANS"), (0, u "RADIANS_TO_DEGREES")] 94

def k13m0 : Method := { name := "<init>", desc := "()V", sig := { parameters := [], returnType := none }, accessFlags := 2, code := none }
def k13c1 : Code := { maxStack := 2, maxLocals := 2, code := jdk_29_method_69_code, exceptionTable := #[], attributes := #[] }
def k13m1 : Method := { name := "min", desc := "(II)I", sig := { parameters := [.int, .int], returnType := some .int }, accessFlags := 9, code := some k13c1 }
/-- java/lang/Math -/
def k13 : Class := { plain "java/lang/Math" (some 0) with
  accessFlags := 49
  interfaces := #[]
  cf := some (fileOf pool13 1 #[.nestMembers #[98]] #[{ accessFlags := 2, nameIndex := 7, descriptorIndex := 8, attributes := #[] }, { accessFlags := 9, nameIndex := 201, descriptorIndex := 335, attributes := #[] }] 49 4 #[] #[{ accessFlags := 25, nameIndex := 354, descriptorIndex := 339, attributes := #[] }, { accessFlags := 25, nameIndex := 358, descriptorIndex := 339, attributes := #[] }, { accessFlags := 25, nameIndex := 361, descriptorIndex := 339, attributes := #[] }, { accessFlags := 26, nameIndex := 364, descriptorIndex := 339, attributes := #[] }, { accessFlags := 26, nameIndex := 365, descriptorIndex := 339, attributes := #[] }, { accessFlags := 26, nameIndex := 172, descriptorIndex := 173, attributes := #[] }, { accessFlags := 26, nameIndex := 176, descriptorIndex := 173, attributes := #[] }, { accessFlags := 8, nameIndex := 344, descriptorIndex := 339, attributes := #[] }, { accessFlags := 8, nameIndex := 338, descriptorIndex := 339, attributes := #[] }, { accessFlags := 4120, nameIndex := 245, descriptorIndex := 246, attributes := #[] }])
  fields := #[{ name := "E", type := .double, accessFlags := 25, slot := 0, constantValue := 0 }, { name := "PI", type := .double, accessFlags := 25, slot := 1, constantValue := 0 }, { name := "TAU", type := .double, accessFlags := 25, slot := 2, constantValue := 0 }, { name := "DEGREES_TO_RADIANS", type := .double, accessFlags := 26, slot := 3, constantValue := 0 }, { name := "RADIANS_TO_DEGREES", type := .double, accessFlags := 26, slot := 4, constantValue := 0 }, { name := "negativeZeroFloatBits", type := .long, accessFlags := 26, slot := 5, constantValue := 0 }, { name := "negativeZeroDoubleBits", type := .long, accessFlags := 26, slot := 6, constantValue := 0 }, { name := "twoToTheDoubleScaleUp", type := .double, accessFlags := 8, slot := 7, constantValue := 0 }, { name := "twoToTheDoubleScaleDown", type := .double, accessFlags := 8, slot := 8, constantValue := 0 }, { name := "$assertionsDisabled", type := .boolean, accessFlags := 4120, slot := 9, constantValue := 0 }]
  methods := #[k13m0, k13m1]
  instanceTypes := #[]
  staticTypes := #[.double, .double, .double, .double, .double, .long, .long, .double, .double, .boolean]
  resolved := Array.replicate 460 none
  statics := none }

def pool14 : Array CpInfo := pool [(2, .class_ 4), (1, u "java/lang/Object"), (0, u "<init>"), (0, u "()V"), (1, .class_ 10), (1, u "java/lang/System"), (0, u "allowSecurityManager"), (0, u "I"), (16, u "cons"), (0, u "Ljava/io/Console;"), (77, .class_ 110), (1, u "java/lang/System$CallersHolder"), (43, u "initialErrStream"), (0, u "Ljava/io/PrintStream;"), (19, u "security"), (0, u "Ljava/lang/SecurityManager;"), (31, .class_ 209), (0, u "java/lang/System$1"), (7, u "props"), (0, u "Ljava/util/Properties;"), (2, u "lineSeparator"), (0, u "Ljava/lang/String;"), (96, .class_ 321), (1, u "java/lang/System$LoggerFinder"), (5, .class_ 328), (0, u "java/lang/System$Logger"), (67, u "err"), (2, u "out"), (91, u "notSupportedJnuEncoding"), (15, u "in"), (17, u "initialIn"), (0, u "Ljava/io/InputStream;"), (35, u "bootLayer"), (0, u "Ljava/lang/ModuleLayer;"), (99, .class_ 664), (0, u "java/lang/System$2"), (9, u "NEVER"), (2, u "MAYBE"), (49, u "arraycopy"), (0, u "(Ljava/lang/Object;ILjava/lang/Object;II)V"), (72, .class_ 802), (0, u "java/lang/System$Logger$Level")] 31

def k14m0 : Method := { name := "<init>", desc := "()V", sig := { parameters := [], returnType := none }, accessFlags := 2, code := none }
def k14m1 : Method := { name := "arraycopy", desc := "(Ljava/lang/Object;ILjava/lang/Object;II)V", sig := { parameters := [(.object "java/lang/Object"), .int, (.object "java/lang/Object"), .int, .int], returnType := none }, accessFlags := 265, code := none }
/-- java/lang/System -/
def k14 : Class := { plain "java/lang/System" (some 0) with
  accessFlags := 49
  interfaces := #[]
  cf := some (fileOf pool14 8 #[.nestMembers #[319, 327, 801, 108, 663, 208]] #[{ accessFlags := 2, nameIndex := 5, descriptorIndex := 6, attributes := #[] }, { accessFlags := 265, nameIndex := 727, descriptorIndex := 728, attributes := #[] }] 49 2 #[] #[{ accessFlags := 25, nameIndex := 507, descriptorIndex := 526, attributes := #[] }, { accessFlags := 25, nameIndex := 399, descriptorIndex := 155, attributes := #[] }, { accessFlags := 25, nameIndex := 396, descriptorIndex := 155, attributes := #[] }, { accessFlags := 10, nameIndex := 525, descriptorIndex := 526, attributes := #[] }, { accessFlags := 26, nameIndex := 674, descriptorIndex := 12, attributes := #[] }, { accessFlags := 26, nameIndex := 677, descriptorIndex := 12, attributes := #[] }, { accessFlags := 10, nameIndex := 11, descriptorIndex := 12, attributes := #[] }, { accessFlags := 74, nameIndex := 175, descriptorIndex := 176, attributes := #[] }, { accessFlags := 10, nameIndex := 491, descriptorIndex := 222, attributes := #[] }, { accessFlags := 74, nameIndex := 29, descriptorIndex := 30, attributes := #[] }, { accessFlags := 74, nameIndex := 154, descriptorIndex := 155, attributes := #[] }, { accessFlags := 10, nameIndex := 217, descriptorIndex := 218, attributes := #[] }, { accessFlags := 10, nameIndex := 221, descriptorIndex := 222, attributes := #[] }, { accessFlags := 8, nameIndex := 562, descriptorIndex := 563, attributes := #[] }])
  fields := #[{ name := "in", type := (.object "java/io/InputStream"), accessFlags := 25, slot := 0, constantValue := 0 }, { name := "out", type := (.object "java/io/PrintStream"), accessFlags := 25, slot := 1, constantValue := 0 }, { name := "err", type := (.object "java/io/PrintStream"), accessFlags := 25, slot := 2, constantValue := 0 }, { name := "initialIn", type := (.object "java/io/InputStream"), accessFlags := 10, slot := 3, constantValue := 0 }, { name := "NEVER", type := .int, accessFlags := 26, slot := 4, constantValue := 0 }, { name := "MAYBE", type := .int, accessFlags := 26, slot := 5, constantValue := 0 }, { name := "allowSecurityManager", type := .int, accessFlags := 10, slot := 6, constantValue := 0 }, { name := "security", type := (.object "java/lang/SecurityManager"), accessFlags := 74, slot := 7, constantValue := 0 }, { name := "notSupportedJnuEncoding", type := (.object "java/lang/String"), accessFlags := 10, slot := 8, constantValue := 0 }, { name := "cons", type := (.object "java/io/Console"), accessFlags := 74, slot := 9, constantValue := 0 }, { name := "initialErrStream", type := (.object "java/io/PrintStream"), accessFlags := 74, slot := 10, constantValue := 0 }, { name := "props", type := (.object "java/util/Properties"), accessFlags := 10, slot := 11, constantValue := 0 }, { name := "lineSeparator", type := (.object "java/lang/String"), accessFlags := 10, slot := 12, constantValue := 0 }, { name := "bootLayer", type := (.object "java/lang/ModuleLayer"), accessFlags := 8, slot := 13, constantValue := 0 }]
  methods := #[k14m0, k14m1]
  instanceTypes := #[]
  staticTypes := #[(.object "java/io/InputStream"), (.object "java/io/PrintStream"), (.object "java/io/PrintStream"), (.object "java/io/InputStream"), .int, .int, .int, (.object "java/lang/SecurityManager"), (.object "java/lang/String"), (.object "java/io/Console"), (.object "java/io/PrintStream"), (.object "java/util/Properties"), (.object "java/lang/String"), (.object "java/lang/ModuleLayer")]
  resolved := Array.replicate 834 none
  statics := none }

def pool15 : Array CpInfo := pool [(9, u "<init>"), (6, .class_ 18), (1, u "java/lang/Object"), (0, u "()V"), (1, .class_ 23), (1, u "jdk/internal/util/ArraysSupport"), (0, u "LOG2_ARRAY_LONG_INDEX_SCALE"), (0, u "I"), (2, u "U"), (0, u "Ljdk/internal/misc/Unsafe;"), (8, u "BIG_ENDIAN"), (0, u "Z"), (8, u "LOG2_BYTE_BIT_SIZE"), (4, u "LOG2_ARRAY_INT_INDEX_SCALE"), (54, u "JLA"), (0, u "Ljdk/internal/access/JavaLangAccess;"), (11, u "LOG2_ARRAY_BOOLEAN_INDEX_SCALE"), (9, u "LOG2_ARRAY_BYTE_INDEX_SCALE"), (5, u "LOG2_ARRAY_CHAR_INDEX_SCALE"), (5, u "LOG2_ARRAY_SHORT_INDEX_SCALE"), (18, u "LOG2_ARRAY_FLOAT_INDEX_SCALE"), (24, u "LOG2_ARRAY_DOUBLE_INDEX_SCALE"), (89, u "T_BOOLEAN"), (2, u "T_CHAR"), (1, u "T_FLOAT"), (1, u "T_DOUBLE"), (1, u "T_BYTE"), (1, u "T_SHORT"), (1, u "T_INT"), (1, u "T_LONG"), (1, u "SOFT_MAX_ARRAY_LENGTH")] 83

def k15m0 : Method := { name := "<init>", desc := "()V", sig := { parameters := [], returnType := none }, accessFlags := 2, code := none }
/-- jdk/internal/util/ArraysSupport -/
def k15 : Class := { plain "jdk/internal/util/ArraysSupport" (some 0) with
  accessFlags := 33
  interfaces := #[]
  cf := some (fileOf pool15 21 #[] #[{ accessFlags := 2, nameIndex := 9, descriptorIndex := 19, attributes := #[] }] 33 16 #[] #[{ accessFlags := 24, nameIndex := 28, descriptorIndex := 29, attributes := #[] }, { accessFlags := 26, nameIndex := 38, descriptorIndex := 39, attributes := #[] }, { accessFlags := 25, nameIndex := 121, descriptorIndex := 25, attributes := #[] }, { accessFlags := 25, nameIndex := 131, descriptorIndex := 25, attributes := #[] }, { accessFlags := 25, nameIndex := 137, descriptorIndex := 25, attributes := #[] }, { accessFlags := 25, nameIndex := 143, descriptorIndex := 25, attributes := #[] }, { accessFlags := 25, nameIndex := 53, descriptorIndex := 25, attributes := #[] }, { accessFlags := 25, nameIndex := 24, descriptorIndex := 25, attributes := #[] }, { accessFlags := 25, nameIndex := 162, descriptorIndex := 25, attributes := #[] }, { accessFlags := 25, nameIndex := 187, descriptorIndex := 25, attributes := #[] }, { accessFlags := 26, nameIndex := 48, descriptorIndex := 25, attributes := #[] }, { accessFlags := 25, nameIndex := 277, descriptorIndex := 25, attributes := #[] }, { accessFlags := 25, nameIndex := 280, descriptorIndex := 25, attributes := #[] }, { accessFlags := 25, nameIndex := 282, descriptorIndex := 25, attributes := #[] }, { accessFlags := 25, nameIndex := 284, descriptorIndex := 25, attributes := #[] }, { accessFlags := 25, nameIndex := 286, descriptorIndex := 25, attributes := #[] }, { accessFlags := 25, nameIndex := 288, descriptorIndex := 25, attributes := #[] }, { accessFlags := 25, nameIndex := 290, descriptorIndex := 25, attributes := #[] }, { accessFlags := 25, nameIndex := 292, descriptorIndex := 25, attributes := #[] }, { accessFlags := 26, nameIndex := 108, descriptorIndex := 109, attributes := #[] }, { accessFlags := 25, nameIndex := 294, descriptorIndex := 25, attributes := #[] }])
  fields := #[{ name := "U", type := (.object "jdk/internal/misc/Unsafe"), accessFlags := 24, slot := 0, constantValue := 0 }, { name := "BIG_ENDIAN", type := .boolean, accessFlags := 26, slot := 1, constantValue := 0 }, { name := "LOG2_ARRAY_BOOLEAN_INDEX_SCALE", type := .int, accessFlags := 25, slot := 2, constantValue := 0 }, { name := "LOG2_ARRAY_BYTE_INDEX_SCALE", type := .int, accessFlags := 25, slot := 3, constantValue := 0 }, { name := "LOG2_ARRAY_CHAR_INDEX_SCALE", type := .int, accessFlags := 25, slot := 4, constantValue := 0 }, { name := "LOG2_ARRAY_SHORT_INDEX_SCALE", type := .int, accessFlags := 25, slot := 5, constantValue := 0 }, { name := "LOG2_ARRAY_INT_INDEX_SCALE", type := .int, accessFlags := 25, slot := 6, constantValue := 0 }, { name := "LOG2_ARRAY_LONG_INDEX_SCALE", type := .int, accessFlags := 25, slot := 7, constantValue := 0 }, { name := "LOG2_ARRAY_FLOAT_INDEX_SCALE", type := .int, accessFlags := 25, slot := 8, constantValue := 0 }, { name := "LOG2_ARRAY_DOUBLE_INDEX_SCALE", type := .int, accessFlags := 25, slot := 9, constantValue := 0 }, { name := "LOG2_BYTE_BIT_SIZE", type := .int, accessFlags := 26, slot := 10, constantValue := 0 }, { name := "T_BOOLEAN", type := .int, accessFlags := 25, slot := 11, constantValue := 0 }, { name := "T_CHAR", type := .int, accessFlags := 25, slot := 12, constantValue := 0 }, { name := "T_FLOAT", type := .int, accessFlags := 25, slot := 13, constantValue := 0 }, { name := "T_DOUBLE", type := .int, accessFlags := 25, slot := 14, constantValue := 0 }, { name := "T_BYTE", type := .int, accessFlags := 25, slot := 15, constantValue := 0 }, { name := "T_SHORT", type := .int, accessFlags := 25, slot := 16, constantValue := 0 }, { name := "T_INT", type := .int, accessFlags := 25, slot := 17, constantValue := 0 }, { name := "T_LONG", type := .int, accessFlags := 25, slot := 18, constantValue := 0 }, { name := "JLA", type := (.object "jdk/internal/access/JavaLangAccess"), accessFlags := 26, slot := 19, constantValue := 0 }, { name := "SOFT_MAX_ARRAY_LENGTH", type := .int, accessFlags := 25, slot := 20, constantValue := 0 }]
  methods := #[k15m0]
  instanceTypes := #[]
  staticTypes := #[(.object "jdk/internal/misc/Unsafe"), .boolean, .int, .int, .int, .int, .int, .int, .int, .int, .int, .int, .int, .int, .int, .int, .int, .int, .int, (.object "jdk/internal/access/JavaLangAccess"), .int]
  resolved := Array.replicate 378 none
  statics := none }

def pool16 : Array CpInfo := pool [(1, u "java/lang/Cloneable"), (0, .class_ 1), (0, u "java/lang/Object"), (0, .class_ 3)] 3

/-- java/lang/Cloneable -/
def k16 : Class := { plain "java/lang/Cloneable" (some 0) with
  accessFlags := 1537
  interfaces := #[]
  cf := some (fileOf pool16 2 #[] #[] 1537 4 #[] #[])
  fields := #[]
  methods := #[]
  instanceTypes := #[]
  staticTypes := #[]
  resolved := Array.replicate 8 none
  statics := none }

/-- the primitive byte -/
def k17 : Class := { plain "byte" none with kind := .primitive 'B', accessFlags := 0x411 }
/-- [B -/
def k18 : Class := { plain "[B" (some 0) with kind := .array 17 .byte, interfaces := #[16, 2], accessFlags := 1041 }

/-- the primitive char -/
def k19 : Class := { plain "char" none with kind := .primitive 'C', accessFlags := 0x411 }
/-- [C -/
def k20 : Class := { plain "[C" (some 0) with kind := .array 19 .char, interfaces := #[16, 2], accessFlags := 1041 }

/-- the primitive int -/
def k21 : Class := { plain "int" none with kind := .primitive 'I', accessFlags := 0x411 }
/-- [I -/
def k22 : Class := { plain "[I" (some 0) with kind := .array 21 .int, interfaces := #[16, 2], accessFlags := 1041 }

def heap : Heap := #[{ cls := 7, slots := #[.long 0, .int 1, .null, .int 0, .null, .int 0, .int 0], vm := .statics 7 },
  { cls := 9, slots := #[.null, .null, .null], vm := .statics 9 },
  { cls := 10, slots := #[.int 0, .int 8, .int 0, .int 1], vm := .statics 10 }]
def classes : Array Class := #[k0, k1, k2, k3, k4, k5, k6, k7, k8, k9, k10, k11, k12, k13, k14, k15, k16, k17, k18, k19, k20, k21, k22]
def interned : List (Array UInt16 × Addr) := []
def slotsUsed : Nat := 14
def theMethod : MethodId := ⟨1, 1⟩
def args0 : Array Value := #[.int 91, .int 6357090, .int 3080290]
def aboutOver (below : List Frame) : State where
  vm := { classes := classes, interned := interned.toArray }
  heap := heap
  slotsUsed := slotsUsed
  threads := #[{ frames := .invoking theMethod args0 :: below }]
def below0 : List Frame := [.native { method := ⟨0, 0⟩, args := #[] }]
def about1 : State := aboutOver below0
def p0 : Program := .bare "" "" ""
def e0 : Env := launch0.env 0 0 0
theorem w_frames : about1.frames = Frame.invoking theMethod args0 :: below0 := rfl
set_option maxRecDepth 65536 in
theorem w_args : argsFit about1.vm theMethod args0 = true := by decide +kernel
set_option maxRecDepth 65536 in
theorem w_heap : heapFits about1 = true := by decide +kernel
set_option maxRecDepth 65536 in
theorem w_runnable : about1.curStatus? = some .runnable := by decide +kernel
set_option maxRecDepth 65536 in
theorem w_alone : about1.alone = true := by decide +kernel
set_option maxRecDepth 65536 in
theorem w_named : about1.methodNamed? x = some theMethod := by decide +kernel
set_option maxRecDepth 65536 in
theorem w_hears : about1.hears theMethod below0 = true := by decide +kernel
set_option maxRecDepth 65536 in
theorem w_ripe : about1.ripe theMethod args0 below0 = true := by decide +kernel
theorem w_running : about1.status = .running := rfl
set_option maxRecDepth 65536 in
theorem w_room : about1.hasRoom e0.platform room_1 = true :=
  launch0.hasRoom_least _ room_1 (by decide +kernel) (by decide +kernel) (by decide +kernel) (by decide +kernel) (by decide +kernel) (by decide +kernel)
theorem allAtoms_all (ts : List Jvm.Cond) (a : Array Jvm.Value) (st : Jvm.State) : (allAtoms ts).before a st = ts.all (fun c => c.before a st) := by
  induction ts with
  | nil => rfl
  | cons c t ih =>
    show (Jvm.Cond.and c (allAtoms t)).before a st = _
    rw [Jvm.Cond.before_and, ih, List.all_cons]
def words1 : List Jvm.Cond := Jvm.Cond.code x code maxLocals ret :: tables_1
/-- a 'code' word, met by the world's own term for the bytes: nothing is compared byte by byte -/
theorem code_word {y : MethodName} {bytes : ByteArray} {mx : Nat} {rt : Option FieldType} {a : Array Value} {s : State} {m : MethodId} {meth : Method} {c : Code} (h1 : s.methodNamed? y = some m) (h2 : s.vm.method? m = some meth) (h3 : meth.code = some c) (h4 : c.code = bytes)
    (h5 : (c.maxLocals == mx && c.exceptionTable.isEmpty && decide (c.maxStack ≤ mostOperands) && decide (meth.sig.returnType = rt) && !meth.locks && decide (parseMethodDescriptor y.desc = some meth.sig)) = true) : (Jvm.Cond.code y bytes mx rt).before a s = true := by
  simp only [Bool.and_eq_true, beq_iff_eq, Bool.not_eq_true', decide_eq_true_eq] at h5
  obtain ⟨⟨⟨⟨⟨g1, g2⟩, g3⟩, g4⟩, g5⟩, g6⟩ := h5
  simp [Cond.before, Cond.holds, Cond.value, h1, h2, h3, h4, g1, g2, g3, g4, g5, g6]
def isCode : Jvm.Cond → Bool
  | .code _ _ _ _ => true
  | _ => false
theorem all_split {L : List Jvm.Cond} {P : Jvm.Cond → Bool} (h1 : L.all (fun c => isCode c || P c) = true) (h2 : ∀ c ∈ L.filter isCode, P c = true) : L.all P = true := by
  refine List.all_eq_true.mpr fun c hc => ?_
  have h := List.all_eq_true.mp h1 c hc
  rcases Bool.eq_false_or_eq_true (isCode c) with hi | hi
  · exact h2 c (List.mem_filter.mpr ⟨hc, hi⟩)
  · simpa [hi] using h
set_option maxRecDepth 65536 in
theorem w_c0 : (Jvm.Cond.code x code maxLocals ret).before args0 about1 = true := code_word (m := ⟨1, 1⟩) (meth := k1m1) (c := k1c1) (by decide +kernel) rfl rfl rfl (by decide +kernel)
set_option maxRecDepth 65536 in
theorem w_c1 : (Jvm.Cond.code ({ cls := "com/example/ianus/ianus/path/UserPathTrimmedPinLaw", name := "cell", desc := "(III[C)C" } : Jvm.MethodName) method_3_code (4 : Nat) (Option.some Jvm.ClassFile.FieldType.char)).before args0 about1 = true := code_word (m := ⟨1, 2⟩) (meth := k1m2) (c := k1c2) (by decide +kernel) rfl rfl rfl (by decide +kernel)
set_option maxRecDepth 65536 in
theorem w_c2 : (Jvm.Cond.code ({ cls := "com/example/ianus/ianus/path/UserPathTrimmedPinLaw", name := "make", desc := "([CI)Ljava/lang/String;" } : Jvm.MethodName) method_4_code (2 : Nat) (Option.some (Jvm.ClassFile.FieldType.object "java/lang/String"))).before args0 about1 = true := code_word (m := ⟨1, 3⟩) (meth := k1m3) (c := k1c3) (by decide +kernel) rfl rfl rfl (by decide +kernel)
set_option maxRecDepth 65536 in
theorem w_c3 : (Jvm.Cond.code ({ cls := "java/lang/String", name := "<init>", desc := "([C)V" } : Jvm.MethodName) jdk_42_method_3_code (2 : Nat) (Option.none : Option Jvm.ClassFile.FieldType)).before args0 about1 = true := code_word (m := ⟨7, 1⟩) (meth := k7m1) (c := k7c1) (by decide +kernel) rfl rfl rfl (by decide +kernel)
set_option maxRecDepth 65536 in
theorem w_c4 : (Jvm.Cond.code ({ cls := "java/lang/String", name := "<init>", desc := "([CIILjava/lang/Void;)V" } : Jvm.MethodName) jdk_42_method_149_code (6 : Nat) (Option.none : Option Jvm.ClassFile.FieldType)).before args0 about1 = true := code_word (m := ⟨7, 5⟩) (meth := k7m5) (c := k7c5) (by decide +kernel) rfl rfl rfl (by decide +kernel)
set_option maxRecDepth 65536 in
theorem w_c5 : (Jvm.Cond.code ({ cls := "java/lang/Object", name := "<init>", desc := "()V" } : Jvm.MethodName) object_method_1_code (1 : Nat) (Option.none : Option Jvm.ClassFile.FieldType)).before args0 about1 = true := code_word (m := ⟨0, 0⟩) (meth := k0m0) (c := k0c0) (by decide +kernel) rfl rfl rfl (by decide +kernel)
set_option maxRecDepth 65536 in
theorem w_c6 : (Jvm.Cond.code ({ cls := "com/example/ianus/ianus/path/UserPath", name := "trimmed", desc := "(Ljava/lang/String;)Ljava/lang/String;" } : Jvm.MethodName) prog_5_method_3_code (3 : Nat) (Option.some (Jvm.ClassFile.FieldType.object "java/lang/String"))).before args0 about1 = true := code_word (m := ⟨8, 1⟩) (meth := k8m1) (c := k8c1) (by decide +kernel) rfl rfl rfl (by decide +kernel)
set_option maxRecDepth 65536 in
theorem w_c7 : (Jvm.Cond.code ({ cls := "java/lang/String", name := "length", desc := "()I" } : Jvm.MethodName) jdk_42_method_54_code (1 : Nat) (Option.some Jvm.ClassFile.FieldType.int)).before args0 about1 = true := code_word (m := ⟨7, 2⟩) (meth := k7m2) (c := k7c2) (by decide +kernel) rfl rfl rfl (by decide +kernel)
set_option maxRecDepth 65536 in
theorem w_c8 : (Jvm.Cond.code ({ cls := "java/lang/String", name := "coder", desc := "()B" } : Jvm.MethodName) jdk_42_method_152_code (1 : Nat) (Option.some Jvm.ClassFile.FieldType.byte)).before args0 about1 = true := code_word (m := ⟨7, 7⟩) (meth := k7m7) (c := k7c7) (by decide +kernel) rfl rfl rfl (by decide +kernel)
set_option maxRecDepth 65536 in
theorem w_c9 : (Jvm.Cond.code ({ cls := "java/lang/String", name := "substring", desc := "(II)Ljava/lang/String;" } : Jvm.MethodName) jdk_42_method_92_code (5 : Nat) (Option.some (Jvm.ClassFile.FieldType.object "java/lang/String"))).before args0 about1 = true := code_word (m := ⟨7, 4⟩) (meth := k7m4) (c := k7c4) (by decide +kernel) rfl rfl rfl (by decide +kernel)
set_option maxRecDepth 65536 in
theorem w_c10 : (Jvm.Cond.code ({ cls := "java/lang/String", name := "checkBoundsBeginEnd", desc := "(III)V" } : Jvm.MethodName) jdk_42_method_158_code (3 : Nat) (Option.none : Option Jvm.ClassFile.FieldType)).before args0 about1 = true := code_word (m := ⟨7, 11⟩) (meth := k7m11) (c := k7c11) (by decide +kernel) rfl rfl rfl (by decide +kernel)
set_option maxRecDepth 65536 in
theorem w_c11 : (Jvm.Cond.code ({ cls := "jdk/internal/util/Preconditions", name := "checkFromToIndex", desc := "(IIILjava/util/function/BiFunction;)I" } : Jvm.MethodName) jdk_41_method_12_code (4 : Nat) (Option.some Jvm.ClassFile.FieldType.int)).before args0 about1 = true := code_word (m := ⟨9, 2⟩) (meth := k9m2) (c := k9c2) (by decide +kernel) rfl rfl rfl (by decide +kernel)
set_option maxRecDepth 65536 in
theorem w_c12 : (Jvm.Cond.code ({ cls := "java/lang/StringUTF16", name := "compress", desc := "([CII)[B" } : Jvm.MethodName) jdk_52_method_16_code (6 : Nat) (Option.some (Jvm.ClassFile.FieldType.array Jvm.ClassFile.FieldType.byte))).before args0 about1 = true := code_word (m := ⟨10, 8⟩) (meth := k10m8) (c := k10c8) (by decide +kernel) rfl rfl rfl (by decide +kernel)
set_option maxRecDepth 65536 in
theorem w_c13 : (Jvm.Cond.code ({ cls := "java/lang/StringUTF16", name := "compress", desc := "([CI[BII)I" } : Jvm.MethodName) jdk_52_method_21_code (7 : Nat) (Option.some Jvm.ClassFile.FieldType.int)).before args0 about1 = true := code_word (m := ⟨10, 10⟩) (meth := k10m10) (c := k10c10) (by decide +kernel) rfl rfl rfl (by decide +kernel)
set_option maxRecDepth 65536 in
theorem w_c14 : (Jvm.Cond.code ({ cls := "java/lang/StringUTF16", name := "coderFromArrayLen", desc := "([BI)B" } : Jvm.MethodName) jdk_52_method_15_code (2 : Nat) (Option.some Jvm.ClassFile.FieldType.byte)).before args0 about1 = true := code_word (m := ⟨10, 7⟩) (meth := k10m7) (c := k10c7) (by decide +kernel) rfl rfl rfl (by decide +kernel)
set_option maxRecDepth 65536 in
theorem w_c15 : (Jvm.Cond.code ({ cls := "java/lang/String", name := "charAt", desc := "(I)C" } : Jvm.MethodName) jdk_42_method_56_code (2 : Nat) (Option.some Jvm.ClassFile.FieldType.char)).before args0 about1 = true := code_word (m := ⟨7, 3⟩) (meth := k7m3) (c := k7c3) (by decide +kernel) rfl rfl rfl (by decide +kernel)
set_option maxRecDepth 65536 in
theorem w_c16 : (Jvm.Cond.code ({ cls := "java/lang/String", name := "isLatin1", desc := "()Z" } : Jvm.MethodName) jdk_42_method_154_code (1 : Nat) (Option.some Jvm.ClassFile.FieldType.boolean)).before args0 about1 = true := code_word (m := ⟨7, 8⟩) (meth := k7m8) (c := k7c8) (by decide +kernel) rfl rfl rfl (by decide +kernel)
set_option maxRecDepth 65536 in
theorem w_c17 : (Jvm.Cond.code ({ cls := "java/lang/StringLatin1", name := "charAt", desc := "([BI)C" } : Jvm.MethodName) jdk_43_method_2_code (2 : Nat) (Option.some Jvm.ClassFile.FieldType.char)).before args0 about1 = true := code_word (m := ⟨11, 1⟩) (meth := k11m1) (c := k11c1) (by decide +kernel) rfl rfl rfl (by decide +kernel)
set_option maxRecDepth 65536 in
theorem w_c18 : (Jvm.Cond.code ({ cls := "java/lang/String", name := "checkIndex", desc := "(II)V" } : Jvm.MethodName) jdk_42_method_155_code (2 : Nat) (Option.none : Option Jvm.ClassFile.FieldType)).before args0 about1 = true := code_word (m := ⟨7, 9⟩) (meth := k7m9) (c := k7c9) (by decide +kernel) rfl rfl rfl (by decide +kernel)
set_option maxRecDepth 65536 in
theorem w_c19 : (Jvm.Cond.code ({ cls := "jdk/internal/util/Preconditions", name := "checkIndex", desc := "(IILjava/util/function/BiFunction;)I" } : Jvm.MethodName) jdk_41_method_11_code (3 : Nat) (Option.some Jvm.ClassFile.FieldType.int)).before args0 about1 = true := code_word (m := ⟨9, 1⟩) (meth := k9m1) (c := k9c1) (by decide +kernel) rfl rfl rfl (by decide +kernel)
set_option maxRecDepth 65536 in
theorem w_c20 : (Jvm.Cond.code ({ cls := "java/lang/StringLatin1", name := "newString", desc := "([BII)Ljava/lang/String;" } : Jvm.MethodName) jdk_43_method_47_code (3 : Nat) (Option.some (Jvm.ClassFile.FieldType.object "java/lang/String"))).before args0 about1 = true := code_word (m := ⟨11, 2⟩) (meth := k11m2) (c := k11c2) (by decide +kernel) rfl rfl rfl (by decide +kernel)
set_option maxRecDepth 65536 in
theorem w_c21 : (Jvm.Cond.code ({ cls := "java/util/Arrays", name := "copyOfRange", desc := "([BII)[B" } : Jvm.MethodName) jdk_65_method_132_code (3 : Nat) (Option.some (Jvm.ClassFile.FieldType.array Jvm.ClassFile.FieldType.byte))).before args0 about1 = true := code_word (m := ⟨12, 2⟩) (meth := k12m2) (c := k12c2) (by decide +kernel) rfl rfl rfl (by decide +kernel)
set_option maxRecDepth 65536 in
theorem w_c22 : (Jvm.Cond.code ({ cls := "java/util/Arrays", name := "copyOfRangeByte", desc := "([BII)[B" } : Jvm.MethodName) jdk_65_method_133_code (5 : Nat) (Option.some (Jvm.ClassFile.FieldType.array Jvm.ClassFile.FieldType.byte))).before args0 about1 = true := code_word (m := ⟨12, 3⟩) (meth := k12m3) (c := k12c3) (by decide +kernel) rfl rfl rfl (by decide +kernel)
set_option maxRecDepth 65536 in
theorem w_c23 : (Jvm.Cond.code ({ cls := "java/util/Arrays", name := "checkLength", desc := "(II)V" } : Jvm.MethodName) jdk_65_method_131_code (2 : Nat) (Option.none : Option Jvm.ClassFile.FieldType)).before args0 about1 = true := code_word (m := ⟨12, 1⟩) (meth := k12m1) (c := k12c1) (by decide +kernel) rfl rfl rfl (by decide +kernel)
set_option maxRecDepth 65536 in
theorem w_c24 : (Jvm.Cond.code ({ cls := "java/lang/Math", name := "min", desc := "(II)I" } : Jvm.MethodName) jdk_29_method_69_code (2 : Nat) (Option.some Jvm.ClassFile.FieldType.int)).before args0 about1 = true := code_word (m := ⟨13, 1⟩) (meth := k13m1) (c := k13c1) (by decide +kernel) rfl rfl rfl (by decide +kernel)
set_option maxRecDepth 65536 in
theorem w_c25 : (Jvm.Cond.code ({ cls := "java/lang/String", name := "<init>", desc := "([BB)V" } : Jvm.MethodName) jdk_42_method_151_code (3 : Nat) (Option.none : Option Jvm.ClassFile.FieldType)).before args0 about1 = true := code_word (m := ⟨7, 6⟩) (meth := k7m6) (c := k7c6) (by decide +kernel) rfl rfl rfl (by decide +kernel)
set_option maxRecDepth 65536 in
theorem w_c26 : (Jvm.Cond.code ({ cls := "java/lang/StringUTF16", name := "toBytes", desc := "([CII)[B" } : Jvm.MethodName) jdk_52_method_14_code (5 : Nat) (Option.some (Jvm.ClassFile.FieldType.array Jvm.ClassFile.FieldType.byte))).before args0 about1 = true := code_word (m := ⟨10, 6⟩) (meth := k10m6) (c := k10c6) (by decide +kernel) rfl rfl rfl (by decide +kernel)
set_option maxRecDepth 65536 in
theorem w_c27 : (Jvm.Cond.code ({ cls := "java/lang/StringUTF16", name := "newBytesFor", desc := "(I)[B" } : Jvm.MethodName) jdk_52_method_2_code (1 : Nat) (Option.some (Jvm.ClassFile.FieldType.array Jvm.ClassFile.FieldType.byte))).before args0 about1 = true := code_word (m := ⟨10, 1⟩) (meth := k10m1) (c := k10c1) (by decide +kernel) rfl rfl rfl (by decide +kernel)
set_option maxRecDepth 65536 in
theorem w_c28 : (Jvm.Cond.code ({ cls := "java/lang/StringUTF16", name := "newBytesLength", desc := "(I)I" } : Jvm.MethodName) jdk_52_method_3_code (1 : Nat) (Option.some Jvm.ClassFile.FieldType.int)).before args0 about1 = true := code_word (m := ⟨10, 2⟩) (meth := k10m2) (c := k10c2) (by decide +kernel) rfl rfl rfl (by decide +kernel)
set_option maxRecDepth 65536 in
theorem w_c29 : (Jvm.Cond.code ({ cls := "java/lang/StringUTF16", name := "putChar", desc := "([BII)V" } : Jvm.MethodName) jdk_52_method_4_code (3 : Nat) (Option.none : Option Jvm.ClassFile.FieldType)).before args0 about1 = true := code_word (m := ⟨10, 3⟩) (meth := k10m3) (c := k10c3) (by decide +kernel) rfl rfl rfl (by decide +kernel)
set_option maxRecDepth 65536 in
theorem w_c30 : (Jvm.Cond.code ({ cls := "java/lang/StringUTF16", name := "getChar", desc := "([BI)C" } : Jvm.MethodName) jdk_52_method_5_code (2 : Nat) (Option.some Jvm.ClassFile.FieldType.char)).before args0 about1 = true := code_word (m := ⟨10, 4⟩) (meth := k10m4) (c := k10c4) (by decide +kernel) rfl rfl rfl (by decide +kernel)
set_option maxRecDepth 65536 in
theorem w_c31 : (Jvm.Cond.code ({ cls := "java/lang/StringUTF16", name := "charAt", desc := "([BI)C" } : Jvm.MethodName) jdk_52_method_83_code (2 : Nat) (Option.some Jvm.ClassFile.FieldType.char)).before args0 about1 = true := code_word (m := ⟨10, 13⟩) (meth := k10m13) (c := k10c13) (by decide +kernel) rfl rfl rfl (by decide +kernel)
set_option maxRecDepth 65536 in
theorem w_c32 : (Jvm.Cond.code ({ cls := "java/lang/StringUTF16", name := "checkIndex", desc := "(I[B)V" } : Jvm.MethodName) jdk_52_method_91_code (2 : Nat) (Option.none : Option Jvm.ClassFile.FieldType)).before args0 about1 = true := code_word (m := ⟨10, 14⟩) (meth := k10m14) (c := k10c14) (by decide +kernel) rfl rfl rfl (by decide +kernel)
set_option maxRecDepth 65536 in
theorem w_c33 : (Jvm.Cond.code ({ cls := "java/lang/StringUTF16", name := "length", desc := "([B)I" } : Jvm.MethodName) jdk_52_method_6_code (1 : Nat) (Option.some Jvm.ClassFile.FieldType.int)).before args0 about1 = true := code_word (m := ⟨10, 5⟩) (meth := k10m5) (c := k10c5) (by decide +kernel) rfl rfl rfl (by decide +kernel)
set_option maxRecDepth 65536 in
theorem w_c34 : (Jvm.Cond.code ({ cls := "java/lang/StringUTF16", name := "newString", desc := "([BII)Ljava/lang/String;" } : Jvm.MethodName) jdk_52_method_69_code (5 : Nat) (Option.some (Jvm.ClassFile.FieldType.object "java/lang/String"))).before args0 about1 = true := code_word (m := ⟨10, 12⟩) (meth := k10m12) (c := k10c12) (by decide +kernel) rfl rfl rfl (by decide +kernel)
set_option maxRecDepth 65536 in
theorem w_c35 : (Jvm.Cond.code ({ cls := "java/lang/StringUTF16", name := "compress", desc := "([BII)[B" } : Jvm.MethodName) jdk_52_method_17_code (6 : Nat) (Option.some (Jvm.ClassFile.FieldType.array Jvm.ClassFile.FieldType.byte))).before args0 about1 = true := code_word (m := ⟨10, 9⟩) (meth := k10m9) (c := k10c9) (by decide +kernel) rfl rfl rfl (by decide +kernel)
set_option maxRecDepth 65536 in
theorem w_c36 : (Jvm.Cond.code ({ cls := "java/lang/StringUTF16", name := "compress", desc := "([BI[BII)I" } : Jvm.MethodName) jdk_52_method_22_code (7 : Nat) (Option.some Jvm.ClassFile.FieldType.int)).before args0 about1 = true := code_word (m := ⟨10, 11⟩) (meth := k10m11) (c := k10c11) (by decide +kernel) rfl rfl rfl (by decide +kernel)
set_option maxRecDepth 65536 in
theorem w_c37 : (Jvm.Cond.code ({ cls := "java/lang/StringUTF16", name := "checkBoundsOffCount", desc := "(II[B)V" } : Jvm.MethodName) jdk_52_method_94_code (3 : Nat) (Option.none : Option Jvm.ClassFile.FieldType)).before args0 about1 = true := code_word (m := ⟨10, 15⟩) (meth := k10m15) (c := k10c15) (by decide +kernel) rfl rfl rfl (by decide +kernel)
set_option maxRecDepth 65536 in
theorem w_c38 : (Jvm.Cond.code ({ cls := "java/lang/String", name := "checkBoundsOffCount", desc := "(III)I" } : Jvm.MethodName) jdk_42_method_157_code (3 : Nat) (Option.some Jvm.ClassFile.FieldType.int)).before args0 about1 = true := code_word (m := ⟨7, 10⟩) (meth := k7m10) (c := k7c10) (by decide +kernel) rfl rfl rfl (by decide +kernel)
set_option maxRecDepth 65536 in
theorem w_c39 : (Jvm.Cond.code ({ cls := "jdk/internal/util/Preconditions", name := "checkFromIndexSize", desc := "(IIILjava/util/function/BiFunction;)I" } : Jvm.MethodName) jdk_41_method_13_code (4 : Nat) (Option.some Jvm.ClassFile.FieldType.int)).before args0 about1 = true := code_word (m := ⟨9, 3⟩) (meth := k9m3) (c := k9c3) (by decide +kernel) rfl rfl rfl (by decide +kernel)
def codes1 : List Jvm.Cond := [Jvm.Cond.code x code maxLocals ret, Jvm.Cond.code ({ cls := "com/example/ianus/ianus/path/UserPathTrimmedPinLaw", name := "cell", desc := "(III[C)C" } : Jvm.MethodName) method_3_code (4 : Nat) (Option.some Jvm.ClassFile.FieldType.char), Jvm.Cond.code ({ cls := "com/example/ianus/ianus/path/UserPathTrimmedPinLaw", name := "make", desc := "([CI)Ljava/lang/String;" } : Jvm.MethodName) method_4_code (2 : Nat) (Option.some (Jvm.ClassFile.FieldType.object "java/lang/String")), Jvm.Cond.code ({ cls := "java/lang/String", name := "<init>", desc := "([C)V" } : Jvm.MethodName) jdk_42_method_3_code (2 : Nat) (Option.none : Option Jvm.ClassFile.FieldType), Jvm.Cond.code ({ cls := "java/lang/String", name := "<init>", desc := "([CIILjava/lang/Void;)V" } : Jvm.MethodName) jdk_42_method_149_code (6 : Nat) (Option.none : Option Jvm.ClassFile.FieldType), Jvm.Cond.code ({ cls := "java/lang/Object", name := "<init>", desc := "()V" } : Jvm.MethodName) object_method_1_code (1 : Nat) (Option.none : Option Jvm.ClassFile.FieldType), Jvm.Cond.code ({ cls := "com/example/ianus/ianus/path/UserPath", name := "trimmed", desc := "(Ljava/lang/String;)Ljava/lang/String;" } : Jvm.MethodName) prog_5_method_3_code (3 : Nat) (Option.some (Jvm.ClassFile.FieldType.object "java/lang/String")), Jvm.Cond.code ({ cls := "java/lang/String", name := "length", desc := "()I" } : Jvm.MethodName) jdk_42_method_54_code (1 : Nat) (Option.some Jvm.ClassFile.FieldType.int), Jvm.Cond.code ({ cls := "java/lang/String", name := "coder", desc := "()B" } : Jvm.MethodName) jdk_42_method_152_code (1 : Nat) (Option.some Jvm.ClassFile.FieldType.byte), Jvm.Cond.code ({ cls := "java/lang/String", name := "substring", desc := "(II)Ljava/lang/String;" } : Jvm.MethodName) jdk_42_method_92_code (5 : Nat) (Option.some (Jvm.ClassFile.FieldType.object "java/lang/String")), Jvm.Cond.code ({ cls := "java/lang/String", name := "checkBoundsBeginEnd", desc := "(III)V" } : Jvm.MethodName) jdk_42_method_158_code (3 : Nat) (Option.none : Option Jvm.ClassFile.FieldType), Jvm.Cond.code ({ cls := "jdk/internal/util/Preconditions", name := "checkFromToIndex", desc := "(IIILjava/util/function/BiFunction;)I" } : Jvm.MethodName) jdk_41_method_12_code (4 : Nat) (Option.some Jvm.ClassFile.FieldType.int), Jvm.Cond.code ({ cls := "java/lang/StringUTF16", name := "compress", desc := "([CII)[B" } : Jvm.MethodName) jdk_52_method_16_code (6 : Nat) (Option.some (Jvm.ClassFile.FieldType.array Jvm.ClassFile.FieldType.byte)), Jvm.Cond.code ({ cls := "java/lang/StringUTF16", name := "compress", desc := "([CI[BII)I" } : Jvm.MethodName) jdk_52_method_21_code (7 : Nat) (Option.some Jvm.ClassFile.FieldType.int), Jvm.Cond.code ({ cls := "java/lang/StringUTF16", name := "coderFromArrayLen", desc := "([BI)B" } : Jvm.MethodName) jdk_52_method_15_code (2 : Nat) (Option.some Jvm.ClassFile.FieldType.byte), Jvm.Cond.code ({ cls := "java/lang/String", name := "charAt", desc := "(I)C" } : Jvm.MethodName) jdk_42_method_56_code (2 : Nat) (Option.some Jvm.ClassFile.FieldType.char), Jvm.Cond.code ({ cls := "java/lang/String", name := "isLatin1", desc := "()Z" } : Jvm.MethodName) jdk_42_method_154_code (1 : Nat) (Option.some Jvm.ClassFile.FieldType.boolean), Jvm.Cond.code ({ cls := "java/lang/StringLatin1", name := "charAt", desc := "([BI)C" } : Jvm.MethodName) jdk_43_method_2_code (2 : Nat) (Option.some Jvm.ClassFile.FieldType.char), Jvm.Cond.code ({ cls := "java/lang/String", name := "checkIndex", desc := "(II)V" } : Jvm.MethodName) jdk_42_method_155_code (2 : Nat) (Option.none : Option Jvm.ClassFile.FieldType), Jvm.Cond.code ({ cls := "jdk/internal/util/Preconditions", name := "checkIndex", desc := "(IILjava/util/function/BiFunction;)I" } : Jvm.MethodName) jdk_41_method_11_code (3 : Nat) (Option.some Jvm.ClassFile.FieldType.int), Jvm.Cond.code ({ cls := "java/lang/StringLatin1", name := "newString", desc := "([BII)Ljava/lang/String;" } : Jvm.MethodName) jdk_43_method_47_code (3 : Nat) (Option.some (Jvm.ClassFile.FieldType.object "java/lang/String")), Jvm.Cond.code ({ cls := "java/util/Arrays", name := "copyOfRange", desc := "([BII)[B" } : Jvm.MethodName) jdk_65_method_132_code (3 : Nat) (Option.some (Jvm.ClassFile.FieldType.array Jvm.ClassFile.FieldType.byte)), Jvm.Cond.code ({ cls := "java/util/Arrays", name := "copyOfRangeByte", desc := "([BII)[B" } : Jvm.MethodName) jdk_65_method_133_code (5 : Nat) (Option.some (Jvm.ClassFile.FieldType.array Jvm.ClassFile.FieldType.byte)), Jvm.Cond.code ({ cls := "java/util/Arrays", name := "checkLength", desc := "(II)V" } : Jvm.MethodName) jdk_65_method_131_code (2 : Nat) (Option.none : Option Jvm.ClassFile.FieldType), Jvm.Cond.code ({ cls := "java/lang/Math", name := "min", desc := "(II)I" } : Jvm.MethodName) jdk_29_method_69_code (2 : Nat) (Option.some Jvm.ClassFile.FieldType.int), Jvm.Cond.code ({ cls := "java/lang/String", name := "<init>", desc := "([BB)V" } : Jvm.MethodName) jdk_42_method_151_code (3 : Nat) (Option.none : Option Jvm.ClassFile.FieldType), Jvm.Cond.code ({ cls := "java/lang/StringUTF16", name := "toBytes", desc := "([CII)[B" } : Jvm.MethodName) jdk_52_method_14_code (5 : Nat) (Option.some (Jvm.ClassFile.FieldType.array Jvm.ClassFile.FieldType.byte)), Jvm.Cond.code ({ cls := "java/lang/StringUTF16", name := "newBytesFor", desc := "(I)[B" } : Jvm.MethodName) jdk_52_method_2_code (1 : Nat) (Option.some (Jvm.ClassFile.FieldType.array Jvm.ClassFile.FieldType.byte)), Jvm.Cond.code ({ cls := "java/lang/StringUTF16", name := "newBytesLength", desc := "(I)I" } : Jvm.MethodName) jdk_52_method_3_code (1 : Nat) (Option.some Jvm.ClassFile.FieldType.int), Jvm.Cond.code ({ cls := "java/lang/StringUTF16", name := "putChar", desc := "([BII)V" } : Jvm.MethodName) jdk_52_method_4_code (3 : Nat) (Option.none : Option Jvm.ClassFile.FieldType), Jvm.Cond.code ({ cls := "java/lang/StringUTF16", name := "getChar", desc := "([BI)C" } : Jvm.MethodName) jdk_52_method_5_code (2 : Nat) (Option.some Jvm.ClassFile.FieldType.char), Jvm.Cond.code ({ cls := "java/lang/StringUTF16", name := "charAt", desc := "([BI)C" } : Jvm.MethodName) jdk_52_method_83_code (2 : Nat) (Option.some Jvm.ClassFile.FieldType.char), Jvm.Cond.code ({ cls := "java/lang/StringUTF16", name := "checkIndex", desc := "(I[B)V" } : Jvm.MethodName) jdk_52_method_91_code (2 : Nat) (Option.none : Option Jvm.ClassFile.FieldType), Jvm.Cond.code ({ cls := "java/lang/StringUTF16", name := "length", desc := "([B)I" } : Jvm.MethodName) jdk_52_method_6_code (1 : Nat) (Option.some Jvm.ClassFile.FieldType.int), Jvm.Cond.code ({ cls := "java/lang/StringUTF16", name := "newString", desc := "([BII)Ljava/lang/String;" } : Jvm.MethodName) jdk_52_method_69_code (5 : Nat) (Option.some (Jvm.ClassFile.FieldType.object "java/lang/String")), Jvm.Cond.code ({ cls := "java/lang/StringUTF16", name := "compress", desc := "([BII)[B" } : Jvm.MethodName) jdk_52_method_17_code (6 : Nat) (Option.some (Jvm.ClassFile.FieldType.array Jvm.ClassFile.FieldType.byte)), Jvm.Cond.code ({ cls := "java/lang/StringUTF16", name := "compress", desc := "([BI[BII)I" } : Jvm.MethodName) jdk_52_method_22_code (7 : Nat) (Option.some Jvm.ClassFile.FieldType.int), Jvm.Cond.code ({ cls := "java/lang/StringUTF16", name := "checkBoundsOffCount", desc := "(II[B)V" } : Jvm.MethodName) jdk_52_method_94_code (3 : Nat) (Option.none : Option Jvm.ClassFile.FieldType), Jvm.Cond.code ({ cls := "java/lang/String", name := "checkBoundsOffCount", desc := "(III)I" } : Jvm.MethodName) jdk_42_method_157_code (3 : Nat) (Option.some Jvm.ClassFile.FieldType.int), Jvm.Cond.code ({ cls := "jdk/internal/util/Preconditions", name := "checkFromIndexSize", desc := "(IIILjava/util/function/BiFunction;)I" } : Jvm.MethodName) jdk_41_method_13_code (4 : Nat) (Option.some Jvm.ClassFile.FieldType.int)]
set_option maxRecDepth 65536 in
theorem codes_eq : words1.filter isCode = codes1 := rfl
theorem w_codes : ∀ c ∈ words1.filter isCode, c.before args0 about1 = true := by
  rw [codes_eq]
  intro c hc
  simp only [codes1, List.mem_cons, List.not_mem_nil, or_false] at hc
  rcases hc with rfl | rfl | rfl | rfl | rfl | rfl | rfl | rfl | rfl | rfl | rfl | rfl | rfl | rfl | rfl | rfl | rfl | rfl | rfl | rfl | rfl | rfl | rfl | rfl | rfl | rfl | rfl | rfl | rfl | rfl | rfl | rfl | rfl | rfl | rfl | rfl | rfl | rfl | rfl | rfl
  · exact w_c0
  · exact w_c1
  · exact w_c2
  · exact w_c3
  · exact w_c4
  · exact w_c5
  · exact w_c6
  · exact w_c7
  · exact w_c8
  · exact w_c9
  · exact w_c10
  · exact w_c11
  · exact w_c12
  · exact w_c13
  · exact w_c14
  · exact w_c15
  · exact w_c16
  · exact w_c17
  · exact w_c18
  · exact w_c19
  · exact w_c20
  · exact w_c21
  · exact w_c22
  · exact w_c23
  · exact w_c24
  · exact w_c25
  · exact w_c26
  · exact w_c27
  · exact w_c28
  · exact w_c29
  · exact w_c30
  · exact w_c31
  · exact w_c32
  · exact w_c33
  · exact w_c34
  · exact w_c35
  · exact w_c36
  · exact w_c37
  · exact w_c38
  · exact w_c39
set_option maxRecDepth 65536 in
theorem w_t1 : (words1.take 24).all (fun c => isCode c || c.before args0 about1) = true := by decide +kernel
set_option maxRecDepth 65536 in
theorem w_t2 : ((words1.drop 24).take 24).all (fun c => isCode c || c.before args0 about1) = true := by decide +kernel
set_option maxRecDepth 65536 in
theorem w_t3 : (((words1.drop 24).drop 24).take 24).all (fun c => isCode c || c.before args0 about1) = true := by decide +kernel
set_option maxRecDepth 65536 in
theorem w_t4 : ((((words1.drop 24).drop 24).drop 24).take 24).all (fun c => isCode c || c.before args0 about1) = true := by decide +kernel
set_option maxRecDepth 65536 in
theorem w_t5 : (((((words1.drop 24).drop 24).drop 24).drop 24).take 24).all (fun c => isCode c || c.before args0 about1) = true := by decide +kernel
set_option maxRecDepth 65536 in
theorem w_t6 : ((((((words1.drop 24).drop 24).drop 24).drop 24).drop 24).take 24).all (fun c => isCode c || c.before args0 about1) = true := by decide +kernel
set_option maxRecDepth 65536 in
theorem w_t7 : (((((((words1.drop 24).drop 24).drop 24).drop 24).drop 24).drop 24).take 24).all (fun c => isCode c || c.before args0 about1) = true := by decide +kernel
set_option maxRecDepth 65536 in
theorem w_t8 : (((((((words1.drop 24).drop 24).drop 24).drop 24).drop 24).drop 24).drop 24).all (fun c => isCode c || c.before args0 about1) = true := by decide +kernel
theorem w_tables : (allAtoms (Jvm.Cond.code x code maxLocals ret :: tables_1)).before args0 about1 = true := by
  rw [allAtoms_all]
  show words1.all (fun c => c.before args0 about1) = true
  refine all_split ?_ w_codes
  rw [← List.take_append_drop 24 words1, List.all_append, w_t1, ← List.take_append_drop 24 (words1.drop 24), List.all_append, w_t2, ← List.take_append_drop 24 ((words1.drop 24).drop 24), List.all_append, w_t3, ← List.take_append_drop 24 (((words1.drop 24).drop 24).drop 24), List.all_append, w_t4, ← List.take_append_drop 24 ((((words1.drop 24).drop 24).drop 24).drop 24), List.all_append, w_t5, ← List.take_append_drop 24 (((((words1.drop 24).drop 24).drop 24).drop 24).drop 24), List.all_append, w_t6, ← List.take_append_drop 24 ((((((words1.drop 24).drop 24).drop 24).drop 24).drop 24).drop 24), List.all_append, w_t7, w_t8]
  rfl
set_option maxRecDepth 65536 in
theorem w_rest : rest_1_c.before args0 about1 = true := by decide +kernel
set_option maxRecDepth 65536 in
theorem w_case : (Jvm.Cond.and given_1 narrow_1).before args0 about1 = true := by decide +kernel
set_option maxRecDepth 65536 in
theorem w_consts : constsHeld consts_1 about1 := Jvm.Lit.constsHeldB_iff.mp (by decide +kernel)
theorem w_applies : (headSpec (Jvm.Cond.code x code maxLocals ret :: tables_1) room_1).applies x e0.platform about1 = true :=
  (Spec.applies_iff w_frames).mpr ⟨w_running, w_runnable, w_alone, w_named, w_hears, w_ripe, w_room, w_tables⟩
theorem atStart : AtStart classFile x code maxLocals ret World_1 tables_1 room_1 Calls_1 rest_1 Pre_1 launch0 p0 e0 about1 theMethod args0 below0 :=
  ⟨lists_1, trivial, launch0.admits_env _ _ _, launch0.least_env, fairChoices_fair.cas, fairChoices_fair.clock, w_frames, w_args, w_heap, w_applies, ⟨w_consts, trivial⟩, w_rest, w_case⟩
end start1
theorem witness_1 : WitnessClaimed_1 := ⟨start1.p0, start1.e0, start1.about1, start1.theMethod, start1.args0, start1.below0, start1.atStart⟩
end Jvm.Pilot.@@N@@
