import JvmDerived
import JvmDerived.Pilot.@@N@@Statement
import JvmDerived.Pilot.@@N@@Code
set_option linter.unusedVariables false
set_option linter.unusedSimpArgs false
namespace Jvm.Pilot.@@N@@
open Jvm Jvm.ClassFile Sem Op Lib Jvm.Free Jvm.Stand Jvm.LawKit Jvm.RoadKit Bundle Jvm.Pilot.@@N@@.Jvm.D
def own_Kq (s : State) (Q : Option Value → Heap → List Loc → Prop) (cl sl : Nat) (o : Outcome) (U : State) : Prop := ∃ v L, o = .returned v ∧ Q v U.heap L ∧ FrameEnd s o U L cl sl
def OGo (tb : Tables) (e : Env) (below : List Frame) (K : Outcome → State → Prop) (U : State) : Prop := ∃ s₂ o, Steps tb e below U s₂ ∧ s₂.status = .running ∧ Ended s₂ below o ∧ K o s₂
section Own
variable {p : Program} {l : Launch} {e : Env} {R : Room} {s : State} {m : MethodId} {args : Array Value} {below : List Frame} {meth : Method} {c : Code} {T : State} {locs : List Loc} {cells slots : Nat} {tb : Tables} {K : Outcome → State → Prop} {Q : Option Value → Heap → List Loc → Prop} {cl sl : Nat}
theorem OGo.via {U U' : State} (st : ∀ t, Steps tb e below U' t → Steps tb e below U t) (k : OGo tb e below K U') : OGo tb e below K U := by
  obtain ⟨s₂, o, h, r⟩ := k; exact ⟨s₂, o, st _ h, r⟩
theorem OGo.cast {g g' : JFrame} (q : g = g') (k : OGo tb e below K (T.setTop g')) : OGo tb e below K (T.setTop g) := q ▸ k
theorem own_w {Z : State} {a0 : Array Value} (hw : ∀ d ∈ tables_1, d.before a0 Z = true) (i : Nat) {d : Jvm.Cond} (h : tables_1[i]? = some d) : d.before a0 Z = true := hw d (List.mem_of_getElem? h)
theorem own_staKeep0 {Z : State} {h h' : Heap} {C n d : String} {v : Value} (F : Sta Z h C n d v) (K : Keep h h' []) : Sta Z h' C n d v := by
  obtain ⟨cf, i, k, f, st, cell, h1, h2, h3, h4, h5, r⟩ := F; exact ⟨cf, i, k, f, st, cell, h1, h2, h3, h4, K.2.1 _ _ h5 nin0, r⟩
theorem own_irr (x : Int32) : ¬ x < x := Int32.lt_irrefl
theorem own_stepI (X : Stand p l e R s m args below meth c T locs cells slots) (hx : p.tables.exec = Jvm.exec) {pc : Nat} {Ls : Array Slot} {z : Int32} {rest : List Value} (hret : meth.sig.returnType = some .int) (hd : decode c.code pc = .ok (.ireturn, 1)) {fs : List Frame}
    (hl : ∀ (f : JFrame) (acts : List Action), f.method = m → f.locked = none → f.entered = [] → (doReturn e (T.setTop f) acts (some (.int z))).1 = T.setFrames fs) : Steps p.tables e below (T.setTop (mkF m pc Ls (.int z :: rest))) (T.setFrames fs) := by
  have hm' : T.vm.method? m = some meth := X.method'
  have hn : narrow .int (.int z) = .int z := rfl
  show Steps p.tables e below (T.setTop { method := m, pc := pc, locals := Ls, stack := _ :: rest, locked := none }) _
  jvm_step X.here [X.here.top, hx, hd, hm', hret, hn]
  first | (intro acts; rw [hl _ acts rfl rfl rfl]) | rw [hl _ _ rfl rfl rfl]
  exact Steps.refl _
theorem own_retI (X : Stand p l e R s m args below meth c T locs cells slots) (hx : p.tables.exec = Jvm.exec) (hk : meth.locks = false) (hret : meth.sig.returnType = some .int) {pc : Nat} {Ls : Array Slot} {z : Int32} {rest : List Value} (hd : decode c.code pc = .ok (.ireturn, 1)) (hc : cells ≤ cl) (hs : slots ≤ sl) (hQ : Q (some (.int z)) T.heap locs) :
    OGo p.tables e below (own_Kq s Q cl sl) (T.setTop (mkF m pc Ls (.int z :: rest))) := by
  obtain ⟨fs, hr, hrun, hended, hW, hsame⟩ := X.leave (v := some (.int z)) (fun h => by rw [hret] at h; cases h) hk
  exact ⟨_, _, own_stepI X hx hret hd hr, hrun, hended, _, _, rfl, hQ, ⟨_, rfl⟩, hW, hsame.mono hc hs⟩
theorem own_retN {t : FieldType} (ht : t = .boolean ∨ t = .byte ∨ t = .char ∨ t = .short) (X : Stand p l e R s m args below meth c T locs cells slots) (hx : p.tables.exec = Jvm.exec) (hk : meth.locks = false) (hret : meth.sig.returnType = some t) {pc : Nat} {Ls : Array Slot} {z : Int32} {rest : List Value} (hd : decode c.code pc = .ok (.ireturn, 1)) (hc : cells ≤ cl) (hs : slots ≤ sl) (hQ : Q (some (.int (nar t z))) T.heap locs) :
    OGo p.tables e below (own_Kq s Q cl sl) (T.setTop (mkF m pc Ls (.int z :: rest))) := by
  obtain ⟨fs, hr, hrun, hended, hW, hsame⟩ := X.leave (v := some (.int (nar t z))) (fun h => by rw [hret] at h; cases h) hk
  exact ⟨_, _, retN X hx hret ht hd hr, hrun, hended, _, _, rfl, hQ, ⟨_, rfl⟩, hW, hsame.mono hc hs⟩
theorem own_retL (X : Stand p l e R s m args below meth c T locs cells slots) (hx : p.tables.exec = Jvm.exec) (hk : meth.locks = false) (hret : meth.sig.returnType = some .long) {pc : Nat} {Ls : Array Slot} {z : Int64} (hd : decode c.code pc = .ok (.lreturn, 1)) (hc : cells ≤ cl) (hs : slots ≤ sl) (hQ : Q (some (.long z)) T.heap locs) :
    OGo p.tables e below (own_Kq s Q cl sl) (T.setTop (mkF m pc Ls [.long z])) := by
  obtain ⟨fs, hr, hrun, hended, hW, hsame⟩ := X.leave (v := some (.long z)) (fun h => by rw [hret] at h; cases h) hk
  exact ⟨_, _, X.lreturnOut hx hret hd hr, hrun, hended, _, _, rfl, hQ, ⟨_, rfl⟩, hW, hsame.mono hc hs⟩
theorem own_retA {t : FieldType} (X : Stand p l e R s m args below meth c T locs cells slots) (hx : p.tables.exec = Jvm.exec) (hk : meth.locks = false) (hret : meth.sig.returnType = some t) {pc : Nat} {Ls : Array Slot} {w : Value} (hw : w.isRef = true) (ht : t.isReference = true) (hd : decode c.code pc = .ok (.areturn, 1)) (hc : cells ≤ cl) (hs : slots ≤ sl) (hQ : Q (some w) T.heap locs) :
    OGo p.tables e below (own_Kq s Q cl sl) (T.setTop (mkF m pc Ls [w])) := by
  obtain ⟨fs, hr, hrun, hended, hW, hsame⟩ := X.leave (v := some w) (fun h => by rw [hret] at h; cases h) hk
  exact ⟨_, _, X.areturnOut hx hw hret ht hd hr, hrun, hended, _, _, rfl, hQ, ⟨_, rfl⟩, hW, hsame.mono hc hs⟩
theorem own_retV (X : Stand p l e R s m args below meth c T locs cells slots) (hx : p.tables.exec = Jvm.exec) (hk : meth.locks = false) (hret : meth.sig.returnType = none) {pc : Nat} {Ls : Array Slot} (hd : decode c.code pc = .ok (.return_, 1)) (hc : cells ≤ cl) (hs : slots ≤ sl) (hQ : Q none T.heap locs) :
    OGo p.tables e below (own_Kq s Q cl sl) (T.setTop (mkF m pc Ls [])) := by
  obtain ⟨fs, hr, hrun, hended, hW, hsame⟩ := X.leave (v := none) (fun _ => rfl) hk
  exact ⟨_, _, X.returnOut hx hret hd hr, hrun, hended, _, _, rfl, hQ, ⟨_, rfl⟩, hW, hsame.mono hc hs⟩
end Own
theorem own_open {p : Program} {l : Launch} {e : Env} {R : Room} {s : State} {m : MethodId} {args : Array Value} {below : List Frame} {meth : Method} {c : Code} {T : State} {locs : List Loc} {cells slots rc rs : Nat} (X : Stand p l e R s m args below meth c T locs cells slots) {Qp : Option Value → Pt → List Loc → Prop} {S : Option Value → Pt → Prop}
    (h : ∃ (v : Option Value) (vm₁ : Vm) (B : Pt), s.WarmedH vm₁ ∧ Stand p l e R s m args below meth c B.U B.locs B.cells B.slots ∧ (∃ L, Qp v B L ∧ B.locs = locs ++ L ∧ B.cells = cells + rc ∧ B.slots = slots + rs) ∧ S v B) :
    ∃ (v : Option Value) (T' : State) (L : List Loc), Stand p l e R s m args below meth c T' (locs ++ L) (cells + rc) (slots + rs) ∧ Qp v (T', locs ++ L, cells + rc, slots + rs) L ∧ S v (T', locs ++ L, cells + rc, slots + rs) := by
  obtain ⟨v, vm₁, ⟨T', L', k', n'⟩, -, X, ⟨L, hQ, hl, hk, hn⟩, hs⟩ := h
  dsimp only [Pt.U, Pt.locs, Pt.cells, Pt.slots] at X hl hk hn
  subst hl hk hn
  exact ⟨v, T', L, X, hQ, hs⟩
def own_St {p : Program} {l : Launch} {e : Env} {R : Room} {s : State} {m : MethodId} {args : Array Value} {below : List Frame} {meth : Method} {c : Code} {T : State} {locs : List Loc} {cells slots : Nat} (_ : Stand p l e R s m args below meth c T locs cells slots) (n0 : Nat) (T' : State) : Prop := ∃ locs', Stand p l e R s m args below meth c T' locs' cells slots ∧ Fr n0 locs'
def OJn {α : Type} (tb : Tables) (e : Env) (below : List Frame) (P : State → α → Prop) (tgt : α → JFrame) (U : State) : Prop := ∃ T' v, P T' v ∧ ∀ t, Steps tb e below (T'.setTop (tgt v)) t → Steps tb e below U t
theorem OJn.via {α : Type} {tb : Tables} {e : Env} {below : List Frame} {P : State → α → Prop} {tgt : α → JFrame} {U U' : State} (st : ∀ t, Steps tb e below U' t → Steps tb e below U t) (k : OJn tb e below P tgt U') : OJn tb e below P tgt U := by
  obtain ⟨T', v, h, r⟩ := k; exact ⟨T', v, h, fun t q => st _ (r _ q)⟩
theorem own_ib {Z s : State} (h : Z.WarmedH s.vm) : IB Z s.vm [] := ⟨#[], by rw [h.interned_eq]; simp, fun q hq => by simp at hq⟩
def own_KqW (s : State) (Q : Option Value → Heap → List Loc → Prop) (cl sl : Nat) (o : Outcome) (U : State) : Prop := ∃ v L, o = .returned v ∧ Q v U.heap L ∧ ReturnedEndW s o U L cl sl
section OwnW
variable {p : Program} {l : Launch} {e : Env} {R : Room} {s : State} {m : MethodId} {args : Array Value} {below : List Frame} {meth : Method} {c : Code} {T : State} {locs : List Loc} {cells slots : Nat} {tb : Tables} {Q : Option Value → Heap → List Loc → Prop} {cl sl : Nat} {vm₁ : Vm} {n : Nat} {Z : State} {a0 : Array Value} {h : Heap}
theorem own_wide {U : State} (k : OGo tb e below (own_Kq s Q cl sl) U) : OGo tb e below (own_KqW s Q cl sl) U := by
  obtain ⟨s₂, o, h1, h2, h3, v, L, h4, h5, h6⟩ := k
  exact ⟨s₂, o, h1, h2, h3, v, L, h4, h5, ReturnedEndW.of_narrow h6.1 h6.2.1 h6.2.2⟩
theorem own_monoW {o : Outcome} {U : State} {L : List Loc} (h : ReturnedEndW s o U L cells slots) (hc : cells ≤ cl) (hs : slots ≤ sl) : ReturnedEndW s o U L cl sl := ⟨h.1, h.2.1, h.2.2.1, h.2.2.2.mono hc hs⟩
theorem own_retAW {t : FieldType} (X : Stand p l e R (s.setVm vm₁) m args below meth c T locs cells slots) (hS : s.Since vm₁ n) (hn : n ≤ T.heap.size) (hx : p.tables.exec = Jvm.exec) (hk : meth.locks = false) (hret : meth.sig.returnType = some t) {pc : Nat} {Ls : Array Slot} {w : Value} (hw : w.isRef = true) (ht : t.isReference = true) (hd : decode c.code pc = .ok (.areturn, 1)) (hc : cells ≤ cl) (hs : slots ≤ sl) (hQ : Q (some w) T.heap locs) :
    OGo p.tables e below (own_KqW s Q cl sl) (T.setTop (mkF m pc Ls [w])) := by
  obtain ⟨fs, hr, hrun, hended, hE⟩ := X.leaveW hS hn (v := some w) (fun h => by rw [hret] at h; cases h) hk
  exact ⟨_, _, X.areturnOut hx hw hret ht hd hr, hrun, hended, _, _, rfl, hQ, own_monoW hE hc hs⟩
theorem own_retVW (X : Stand p l e R (s.setVm vm₁) m args below meth c T locs cells slots) (hS : s.Since vm₁ n) (hn : n ≤ T.heap.size) (hx : p.tables.exec = Jvm.exec) (hk : meth.locks = false) (hret : meth.sig.returnType = none) {pc : Nat} {Ls : Array Slot} (hd : decode c.code pc = .ok (.return_, 1)) (hc : cells ≤ cl) (hs : slots ≤ sl) (hQ : Q none T.heap locs) :
    OGo p.tables e below (own_KqW s Q cl sl) (T.setTop (mkF m pc Ls [])) := by
  obtain ⟨fs, hr, hrun, hended, hE⟩ := X.leaveW hS hn (v := none) (fun _ => rfl) hk
  exact ⟨_, _, X.returnOut hx hret hd hr, hrun, hended, _, _, rfl, hQ, own_monoW hE hc hs⟩
theorem own_retNW {t : FieldType} (ht : t = .boolean ∨ t = .byte ∨ t = .char ∨ t = .short) (X : Stand p l e R (s.setVm vm₁) m args below meth c T locs cells slots) (hS : s.Since vm₁ n) (hn : n ≤ T.heap.size) (hx : p.tables.exec = Jvm.exec) (hk : meth.locks = false) (hret : meth.sig.returnType = some t) {pc : Nat} {Ls : Array Slot} {z : Int32} {rest : List Value} (hd : decode c.code pc = .ok (.ireturn, 1)) (hc : cells ≤ cl) (hs : slots ≤ sl) (hQ : Q (some (.int (nar t z))) T.heap locs) :
    OGo p.tables e below (own_KqW s Q cl sl) (T.setTop (mkF m pc Ls (.int z :: rest))) := by
  obtain ⟨fs, hr, hrun, hended, hE⟩ := X.leaveW hS hn (v := some (.int (nar t z))) (fun h => by rw [hret] at h; cases h) hk
  exact ⟨_, _, retN X hx hret ht hd hr, hrun, hended, _, _, rfl, hQ, own_monoW hE hc hs⟩
theorem own_backOfSH {y : MethodName} {bytes : ByteArray} {maxL : Nat} {ret : Option FieldType} {rm : Room} {len W : Nat} {as' : Array Value} {Qb : Option Value → Heap → List Loc → Prop}
    (hM : MetFree l y (head1 [Jvm.Cond.code y bytes maxL ret] rm) (fun a U => a = as' ∧ Z.WarmedH U.vm ∧ U.heap = h) (fun _ _ _ _ _ => True) (fun _ U o U' => ∃ v L, o = .returned v ∧ Qb v U'.heap L ∧ ReturnedEndW U o U' L rm.cells rm.slots))
    (hZH : Z.WarmedH s.vm) (wc : (Jvm.Cond.code y bytes maxL ret).before a0 Z = true) (wz : (Jvm.Cond.initialized y.cls).before a0 Z = true) (hf : rm.frames + 1 ≤ R.frames) (hl : W + (maxL + 11) + rm.locals ≤ R.locals) :
    BackS l R p e below s args y len W (fun A a => a = as' ∧ A.U.heap = h ∧ A.cells + rm.cells ≤ R.cells ∧ A.slots + rm.slots ≤ R.slots)
      (fun A _ v B => ∃ L, Qb v B.U.heap L ∧ B.locs = A.locs ++ L ∧ B.cells = A.cells + rm.cells ∧ B.slots = A.slots + rm.slots) := by
  have up : ∀ {A : State}, s.WarmedH A.vm → Z.WarmedH A.vm := fun q => State.WarmedH.trans hZH q
  refine BackS.of_freeW (bytes := bytes) (maxL := maxL) (ret := ret) (E := fun _ _ o t L k n => k = rm.cells ∧ n = rm.slots ∧ ∃ v, o = .returned v ∧ Qb v t.heap L) hM hf hl ?_ ?_ ?_ ?_ ?_
  · intro m meth c A a Y hp
    have hU := (up Y.warmed).wide
    exact ⟨by show (Jvm.Cond.and _ .tt).before a A.U = true; rw [Cond.before_and, mv hU wc]; rfl, mv hU wc, mv hU wz, hp.2.2.1, hp.2.2.2⟩
  · intro m meth c A a g mk Y hp
    exact ⟨hp.1, up Y.warmed, hp.2.1⟩
  · intros; trivial
  · rintro _ _ _ _ ⟨v, L, h1, h2, h3⟩
    exact ⟨L, _, _, h3, rfl, rfl, v, h1, h2⟩
  · rintro m meth c A a g mk v t L k n Y hp _ _ ⟨e1, e2, v', e3, e4⟩
    cases e3; subst e1 e2
    exact ⟨L, e4, rfl, rfl, rfl⟩
theorem own_openS {rc rs : Nat} (X : Stand p l e R s m args below meth c T locs cells slots) {Qp : Option Value → Pt → List Loc → Prop} {S : Option Value → Pt → Prop}
    (h : ∃ (v : Option Value) (vm₁ : Vm) (B : Pt), s.WarmedH vm₁ ∧ Stand p l e R (s.setVm B.U.vm) m args below meth c B.U B.locs B.cells B.slots ∧ s.Since B.U.vm B.U.heap.size ∧ T.heap.size ≤ B.U.heap.size ∧ (∃ L, Qp v B L ∧ B.locs = locs ++ L ∧ B.cells = cells + rc ∧ B.slots = slots + rs) ∧ S v B) :
    ∃ (v : Option Value) (T' : State) (L : List Loc), Stand p l e R (s.setVm T'.vm) m args below meth c T' (locs ++ L) (cells + rc) (slots + rs) ∧ s.Since T'.vm T'.heap.size ∧ Qp v (T', locs ++ L, cells + rc, slots + rs) L ∧ S v (T', locs ++ L, cells + rc, slots + rs) := by
  obtain ⟨v, vm₁, ⟨T', L', k', n'⟩, -, X, hS, -, ⟨L, hQ, hl, hk, hn⟩, hs⟩ := h
  dsimp only [Pt.U, Pt.locs, Pt.cells, Pt.slots] at X hS hl hk hn
  subst hl hk hn
  exact ⟨v, T', L, X, hS, hQ, hs⟩
end OwnW
abbrev own_y0 : MethodName := ⟨"com/example/ianus/ianus/server/LiteralPathFirstSegmentPinLaw", "ch", "(I)C"⟩
abbrev own_y1 : MethodName := ⟨"java/lang/Math", "max", "(II)I"⟩
abbrev own_y2 : MethodName := ⟨"java/lang/Math", "min", "(II)I"⟩
abbrev own_y3 : MethodName := ⟨"java/lang/StringLatin1", "canEncode", "(I)Z"⟩
abbrev own_y4 : MethodName := ⟨"java/lang/String", "coder", "()B"⟩
abbrev own_y5 : MethodName := ⟨"java/lang/String", "isLatin1", "()Z"⟩
abbrev own_y6 : MethodName := ⟨"java/lang/String", "length", "()I"⟩
abbrev own_y7 : MethodName := ⟨"java/lang/StringUTF16", "compress", "([CI[BII)I"⟩
abbrev own_y8 : MethodName := ⟨"java/lang/StringUTF16", "compress", "([CII)[B"⟩
abbrev own_y9 : MethodName := ⟨"java/lang/StringUTF16", "coderFromArrayLen", "([BI)B"⟩
abbrev own_y10 : MethodName := ⟨"java/lang/String", "<init>", "([CIILjava/lang/Void;)V"⟩
abbrev own_y11 : MethodName := ⟨"java/lang/String", "<init>", "([C)V"⟩
abbrev own_y12 : MethodName := ⟨"java/lang/Record", "<init>", "()V"⟩
abbrev own_y13 : MethodName := ⟨"com/example/ianus/ianus/server/LiteralPath", "<init>", "(Ljava/lang/String;)V"⟩
abbrev own_y14 : MethodName := ⟨"jdk/internal/util/Preconditions", "checkFromToIndex", "(IIILjava/util/function/BiFunction;)I"⟩
abbrev own_y15 : MethodName := ⟨"java/lang/String", "checkBoundsBeginEnd", "(III)V"⟩
abbrev own_y16 : MethodName := ⟨"jdk/internal/util/Preconditions", "checkIndex", "(IILjava/util/function/BiFunction;)I"⟩
abbrev own_y17 : MethodName := ⟨"java/lang/String", "checkIndex", "(II)V"⟩
abbrev own_y18 : MethodName := ⟨"java/lang/StringLatin1", "charAt", "([BI)C"⟩
abbrev own_y19 : MethodName := ⟨"java/lang/String", "charAt", "(I)C"⟩
abbrev own_y20 : MethodName := ⟨"java/util/Arrays", "checkLength", "(II)V"⟩
abbrev own_y21 : MethodName := ⟨"java/lang/String", "<init>", "([BB)V"⟩
abbrev own_y22 : MethodName := ⟨"java/lang/StringLatin1", "newString", "([BII)Ljava/lang/String;"⟩
abbrev own_y23 : MethodName := ⟨"java/lang/String", "substring", "(II)Ljava/lang/String;"⟩
abbrev own_y24 : MethodName := ⟨"java/util/Arrays", "copyOfRangeByte", "([BII)[B"⟩
abbrev own_y25 : MethodName := ⟨"java/util/Arrays", "copyOfRange", "([BII)[B"⟩
abbrev own_y26 : MethodName := ⟨"java/lang/StringLatin1", "indexOf", "([BIII)I"⟩
abbrev own_y27 : MethodName := ⟨"java/lang/String", "indexOf", "(II)I"⟩
abbrev own_y28 : MethodName := ⟨"com/example/ianus/ianus/server/LiteralPath", "firstSegment", "()Ljava/lang/String;"⟩
abbrev own_y29 : MethodName := ⟨"java/lang/StringLatin1", "indexOfChar", "([BIII)I"⟩
theorem own_and255 (x : Int32) : ¬ (255 : Int32) < (x &&& 255) ∧ ¬ (x &&& 255) < (0 : Int32) := by
  have h := c_and x 255 (by decide)
  rw [Int32.lt_iff_toInt_lt, Int32.lt_iff_toInt_lt]
  have a : (0 : Int32).toInt = 0 := rfl
  have d : (255 : Int32).toInt = 255 := rfl
  omega
theorem own_len (x : Int32) : (1 : Int32) + (x &&& 3) = 1 ∨ (1 : Int32) + (x &&& 3) = 2 ∨ (1 : Int32) + (x &&& 3) = 3 ∨ (1 : Int32) + (x &&& 3) = 4 := by
  have h := c_and x 3 (by decide)
  have q : (x &&& 3) = 0 ∨ (x &&& 3) = 1 ∨ (x &&& 3) = 2 ∨ (x &&& 3) = 3 := by
    have d : (3 : Int32).toInt = 3 := rfl
    have r : (x &&& 3).toInt = 0 ∨ (x &&& 3).toInt = 1 ∨ (x &&& 3).toInt = 2 ∨ (x &&& 3).toInt = 3 := by omega
    rcases r with r | r | r | r
    · exact Or.inl (Int32.toInt_inj.mp r)
    · exact Or.inr (Or.inl (Int32.toInt_inj.mp r))
    · exact Or.inr (Or.inr (Or.inl (Int32.toInt_inj.mp r)))
    · exact Or.inr (Or.inr (Or.inr (Int32.toInt_inj.mp r)))
  rcases q with q | q | q | q <;> rw [q] <;> decide
theorem own_shr0 (z : Int32) : z >>> ((0 : Int32) &&& 31) = z := Int32.toInt_inj.mp (by rw [c_ishr z 0 0 (by decide)]; simp)
def own_ix (x1 x2 x3 : Int32) : Int32 := if x1 = 47 then 1 else if x2 = 47 then 2 else if x3 = 47 then 3 else -1
def own_ch (y : Int32) : Int32 := nar .char ((y &&& (255 : Int32)).toUInt32.toUInt16.toUInt32.toInt32)
theorem own_ch_n (y : Int32) : nar .char (own_ch y) = own_ch y := by simp only [own_ch, nar, i2c_mask]
theorem own_all : ∀ k : Fin 256, own_ch (((Int32.ofNat k.val).toInt8.toInt32).toInt8.toInt32) = Int32.ofNat k.val ∧ ((((Int32.ofNat k.val).toInt8.toInt32).toInt8.toInt32) = 47 ↔ Int32.ofNat k.val = 47) := by decide +kernel
theorem own_fin {c : Int32} (h : ¬ (255 : Int32) < c) (h0 : ¬ c < 0) : ∃ k : Fin 256, c = Int32.ofNat k.val := by
  rw [Int32.lt_iff_toInt_lt] at h h0
  have a : (0 : Int32).toInt = 0 := rfl
  have d : (255 : Int32).toInt = 255 := rfl
  refine ⟨⟨c.toInt.toNat, by omega⟩, Int32.toInt_inj.mp ?_⟩
  rw [Int32.toInt_ofNat_of_lt (by show c.toInt.toNat < 2147483648; omega)]
  show c.toInt = (c.toInt.toNat : Int)
  omega
theorem own_bk {c : Int32} (h : nar .char c = c ∧ ¬ (255 : Int32) < c ∧ ¬ c < (0 : Int32)) : own_ch ((c.toInt8.toInt32).toInt8.toInt32) = c := by
  obtain ⟨k, rfl⟩ := own_fin h.2.1 h.2.2; exact (own_all k).1
theorem own_b47 {c : Int32} (h : nar .char c = c ∧ ¬ (255 : Int32) < c ∧ ¬ c < (0 : Int32)) : ((c.toInt8.toInt32).toInt8.toInt32) = 47 ↔ c = 47 := by
  obtain ⟨k, rfl⟩ := own_fin h.2.1 h.2.2; exact (own_all k).2
theorem d1_0 : decode method_2_code 0 = .ok (.iload_n 0, 1) := by decide +kernel
theorem d1_1 : decode method_2_code 1 = .ok (.iconst 3, 1) := by decide +kernel
theorem d1_2 : decode method_2_code 2 = .ok (.iand, 1) := by decide +kernel
theorem d1_3 : decode method_2_code 3 = .ok (.ifCond .ne 8, 3) := by decide +kernel
theorem d1_6 : decode method_2_code 6 = .ok (.bipush 47, 2) := by decide +kernel
theorem d1_8 : decode method_2_code 8 = .ok (.goto 11, 3) := by decide +kernel
theorem d1_19 : decode method_2_code 19 = .ok (.ireturn, 1) := by decide +kernel
theorem d1_11 : decode method_2_code 11 = .ok (.iload_n 0, 1) := by decide +kernel
theorem d1_12 : decode method_2_code 12 = .ok (.iconst 2, 1) := by decide +kernel
theorem d1_13 : decode method_2_code 13 = .ok (.iushr, 1) := by decide +kernel
theorem d1_14 : decode method_2_code 14 = .ok (.sipush 255, 3) := by decide +kernel
theorem d1_17 : decode method_2_code 17 = .ok (.iand, 1) := by decide +kernel
theorem d1_18 : decode method_2_code 18 = .ok (.i2c, 1) := by decide +kernel
theorem pn_LiteralPathFirstSegmentPinLaw : plainName "com/example/ianus/ianus/server/LiteralPathFirstSegmentPinLaw" = true := by first | (simp [plainName, overriddenIn]; done) | decide +kernel
theorem ef_rm1 (m : MethodId) (p1 : Int32) : entryFrame m #[(.int p1)] 1 = mkF m 0 #[.val (.int p1)] [] := by
  first | (simp [entryFrame, mkF, argsToLocals, Value.category]; done) | rfl
def Q_rm1 (Z : State) (p1 : Int32) (h0 : Heap) (n0 : Nat) (v : Option Value) (h : Heap) (L : List Loc) : Prop := ∃ d : Int32, v = some (.int d) ∧ Fr n0 L ∧ h = h0 ∧ (nar .char d = d ∧ ¬ (255 : Int32) < d ∧ ¬ d < (0 : Int32))
abbrev R_rm1 : Room := ⟨0, 0, 0, 0⟩
set_option maxRecDepth 65536 in
set_option maxHeartbeats 40000000 in
theorem rm1 (l : Launch) (Z : State) (a0 : Array Value) (hw : ∀ d ∈ tables_1, d.before a0 Z = true) (ws : List Jvm.Cond) (p1 : Int32) (h0 : Heap) (n0 : Nat) (Z0 : n0 ≤ h0.size) :
    MetFree l own_y0 (head1 (Jvm.Cond.code own_y0 method_2_code 1 (some .char) :: ws) R_rm1) (fun a U => a = #[(.int p1)] ∧ Z.Warmed39 U.vm ∧ U.heap = h0) (fun _ _ _ _ _ => True) (fun _ U o U' => ∃ v L, o = .returned v ∧ Q_rm1 Z p1 h0 n0 v U'.heap L ∧ FrameEnd U o U' L R_rm1.cells R_rm1.slots) := by
  refine MetFree.of_bodySF (plainFor_of_name pn_LiteralPathFirstSegmentPinLaw) hisR ?_
  intro p e s m args below meth c s₁ Bd hml0 hP hK
  obtain ⟨rfl, hZ, hh⟩ := hP
  have hx := Bd.exec
  have hby := Bd.bytes
  have hml : c.maxLocals = 1 := hml0
  have hown : s.vm.findClass "com/example/ianus/ianus/server/LiteralPathFirstSegmentPinLaw" = some m.cls := findClass_of_methodNamed Bd.named
  have hnm := (name_of_methodNamed Bd.named Bd.method).1
  have X0 : Stand p l e R_rm1 s m #[(.int p1)] below meth c s₁ [] 0 0 := Stand.of_body Bd
  have e0 : s₁.heap = h0 := by rw [← hh, Bd.state]; rfl
  have N0 := Fr.nil n0
  show OGo p.tables e below (own_Kq s (fun v h L => Q_rm1 Z p1 h0 n0 v h L) R_rm1.cells R_rm1.slots) (s₁.setTop (entryFrame m #[(.int p1)] 1))
  refine OGo.cast (ef_rm1 m p1) ?_
  show OGo _ _ _ _ (s₁.setTop (mkF m 0 #[.val (.int p1)] []))
  refine OGo.via (fun _ k => XS.iloadN X0.here hx rfl (hb hby d1_0) rfl (XS.iconst X0.here hx rfl (hb hby d1_1) (XS.iand X0.here hx rfl (hb hby d1_2) rfl k))) ?_
  by_cases hc3_1 : (p1 &&& (3 : Int32)) = (0 : Int32)
  · refine OGo.via (fun _ k => XS.ifNo X0.here hx rfl (hb hby d1_3) rfl ((if0 _ _).trans (teq hc3_1).2) (XS.bipush X0.here hx rfl (hb hby d1_6) (XS.goto X0.here hx rfl (pc0 := 8) (pc' := 19) rfl (hb hby d1_8) (by decide) (by decide) k))) ?_
    show OGo _ _ _ _ (s₁.setTop (mkF m 19 #[.val (.int p1)] [(.int (47 : Int32))]))
    refine own_retN (t := .char) (by simp) X0 hx Bd.notSynchronized Bd.returns (hb hby d1_19) (by decide) (by decide) ?_
    show Q_rm1 Z _ h0 n0 _ s₁.heap _
    exact ⟨(nar .char (47 : Int32)), rfl, N0, e0, (by decide)⟩
  · refine OGo.via (fun _ k => XS.ifYes X0.here hx rfl (pc0 := 3) (pc' := 11) rfl (hb hby d1_3) rfl ((if0 _ _).trans (feq hc3_1).2) (by decide) (by decide) (XS.iloadN X0.here hx rfl (hb hby d1_11) rfl (XS.iconst X0.here hx rfl (hb hby d1_12) (XS.iushr X0.here hx rfl (hb hby d1_13) rfl (XS.sipush X0.here hx rfl (hb hby d1_14) (XS.iand X0.here hx rfl (hb hby d1_17) rfl (XS.i2c X0.here hx rfl (hb hby d1_18) rfl k))))))) ?_
    show OGo _ _ _ _ (s₁.setTop (mkF m 19 #[.val (.int p1)] [(.int ((((p1.toUInt32 >>> ((2 : Int32) &&& 31).toUInt32).toInt32) &&& (255 : Int32)).toUInt32.toUInt16.toUInt32.toInt32))]))
    refine own_retN (t := .char) (by simp) X0 hx Bd.notSynchronized Bd.returns (hb hby d1_19) (by decide) (by decide) ?_
    show Q_rm1 Z _ h0 n0 _ s₁.heap _
    exact ⟨(nar .char ((((p1.toUInt32 >>> ((2 : Int32) &&& 31).toUInt32).toInt32) &&& (255 : Int32)).toUInt32.toUInt16.toUInt32.toInt32)), rfl, N0, e0, (by simp only [nar, i2c_mask, true_and]; exact own_and255 _)⟩
theorem d17_0 : decode jdk_29_method_65_code 0 = .ok (.iload_n 0, 1) := by decide +kernel
theorem d17_1 : decode jdk_29_method_65_code 1 = .ok (.iload_n 1, 1) := by decide +kernel
theorem d17_2 : decode jdk_29_method_65_code 2 = .ok (.if_icmp .lt 7, 3) := by decide +kernel
theorem d17_9 : decode jdk_29_method_65_code 9 = .ok (.iload_n 1, 1) := by decide +kernel
theorem d17_10 : decode jdk_29_method_65_code 10 = .ok (.ireturn, 1) := by decide +kernel
theorem d17_5 : decode jdk_29_method_65_code 5 = .ok (.iload_n 0, 1) := by decide +kernel
theorem d17_6 : decode jdk_29_method_65_code 6 = .ok (.goto 4, 3) := by decide +kernel
theorem ef_rm17 (m : MethodId) (p1 : Int32) (p2 : Int32) : entryFrame m #[(.int p1), (.int p2)] 2 = mkF m 0 #[.val (.int p1), .val (.int p2)] [] := by
  first | (simp [entryFrame, mkF, argsToLocals, Value.category]; done) | rfl
def Q_rm17 (Z : State) (p1 : Int32) (p2 : Int32) (h0 : Heap) (n0 : Nat) (v : Option Value) (h : Heap) (L : List Loc) : Prop := v = some (.int (if p1 < p2 then p2 else p1)) ∧ Fr n0 L ∧ h = h0
abbrev R_rm17 : Room := ⟨0, 0, 0, 0⟩
set_option maxRecDepth 65536 in
set_option maxHeartbeats 40000000 in
theorem rm17 (l : Launch) (Z : State) (a0 : Array Value) (hw : ∀ d ∈ tables_1, d.before a0 Z = true) (ws : List Jvm.Cond) (p1 : Int32) (p2 : Int32) (h0 : Heap) (n0 : Nat) (Z0 : n0 ≤ h0.size) :
    MetFree l own_y1 (head1 (Jvm.Cond.code own_y1 jdk_29_method_65_code 2 (some .int) :: ws) R_rm17) (fun a U => a = #[(.int p1), (.int p2)] ∧ Z.Warmed39 U.vm ∧ U.heap = h0) (fun _ _ _ _ _ => True) (fun _ U o U' => ∃ v L, o = .returned v ∧ Q_rm17 Z p1 p2 h0 n0 v U'.heap L ∧ FrameEnd U o U' L R_rm17.cells R_rm17.slots) := by
  refine MetFree.of_bodySF (Jvm.Free.JP.mathPlain rfl (by decide +kernel)) hisR ?_
  intro p e s m args below meth c s₁ Bd hml0 hP hK
  obtain ⟨rfl, hZ, hh⟩ := hP
  have hx := Bd.exec
  have hby := Bd.bytes
  have hml : c.maxLocals = 2 := hml0
  have hown : s.vm.findClass "java/lang/Math" = some m.cls := findClass_of_methodNamed Bd.named
  have hnm := (name_of_methodNamed Bd.named Bd.method).1
  have X0 : Stand p l e R_rm17 s m #[(.int p1), (.int p2)] below meth c s₁ [] 0 0 := Stand.of_body Bd
  have e0 : s₁.heap = h0 := by rw [← hh, Bd.state]; rfl
  have N0 := Fr.nil n0
  show OGo p.tables e below (own_Kq s (fun v h L => Q_rm17 Z p1 p2 h0 n0 v h L) R_rm17.cells R_rm17.slots) (s₁.setTop (entryFrame m #[(.int p1), (.int p2)] 2))
  refine OGo.cast (ef_rm17 m p1 p2) ?_
  show OGo _ _ _ _ (s₁.setTop (mkF m 0 #[.val (.int p1), .val (.int p2)] []))
  refine OGo.via (fun _ k => XS.iloadN X0.here hx rfl (hb hby d17_0) rfl (XS.iloadN X0.here hx rfl (hb hby d17_1) rfl k)) ?_
  by_cases hc2_1 : p1 < p2
  · refine OGo.via (fun _ k => XS.icmpYes X0.here hx rfl (pc0 := 2) (pc' := 9) rfl (hb hby d17_2) rfl (tlt hc2_1).1 (by decide) (by decide) (XS.iloadN X0.here hx rfl (hb hby d17_9) rfl k)) ?_
    show OGo _ _ _ _ (s₁.setTop (mkF m 10 #[.val (.int p1), .val (.int p2)] [(.int p2)]))
    refine own_retI X0 hx Bd.notSynchronized Bd.returns (hb hby d17_10) (by decide) (by decide) ?_
    show Q_rm17 Z _ _ h0 n0 _ s₁.heap _
    exact ⟨(by rw [if_pos hc2_1]), N0, e0⟩
  · refine OGo.via (fun _ k => XS.icmpNo X0.here hx rfl (hb hby d17_2) rfl (flt hc2_1).1 (XS.iloadN X0.here hx rfl (hb hby d17_5) rfl (XS.goto X0.here hx rfl (pc0 := 6) (pc' := 10) rfl (hb hby d17_6) (by decide) (by decide) k))) ?_
    show OGo _ _ _ _ (s₁.setTop (mkF m 10 #[.val (.int p1), .val (.int p2)] [(.int p1)]))
    refine own_retI X0 hx Bd.notSynchronized Bd.returns (hb hby d17_10) (by decide) (by decide) ?_
    show Q_rm17 Z _ _ h0 n0 _ s₁.heap _
    exact ⟨(by rw [if_neg hc2_1]), N0, e0⟩
theorem d18_0 : decode jdk_29_method_69_code 0 = .ok (.iload_n 0, 1) := by decide +kernel
theorem d18_1 : decode jdk_29_method_69_code 1 = .ok (.iload_n 1, 1) := by decide +kernel
theorem d18_2 : decode jdk_29_method_69_code 2 = .ok (.if_icmp .gt 7, 3) := by decide +kernel
theorem d18_9 : decode jdk_29_method_69_code 9 = .ok (.iload_n 1, 1) := by decide +kernel
theorem d18_10 : decode jdk_29_method_69_code 10 = .ok (.ireturn, 1) := by decide +kernel
theorem d18_5 : decode jdk_29_method_69_code 5 = .ok (.iload_n 0, 1) := by decide +kernel
theorem d18_6 : decode jdk_29_method_69_code 6 = .ok (.goto 4, 3) := by decide +kernel
theorem ef_rm18 (m : MethodId) (p1 : Int32) (p2 : Int32) : entryFrame m #[(.int p1), (.int p2)] 2 = mkF m 0 #[.val (.int p1), .val (.int p2)] [] := by
  first | (simp [entryFrame, mkF, argsToLocals, Value.category]; done) | rfl
def Q_rm18 (Z : State) (p1 : Int32) (p2 : Int32) (h0 : Heap) (n0 : Nat) (v : Option Value) (h : Heap) (L : List Loc) : Prop := v = some (.int (if p2 < p1 then p2 else p1)) ∧ Fr n0 L ∧ h = h0
abbrev R_rm18 : Room := ⟨0, 0, 0, 0⟩
set_option maxRecDepth 65536 in
set_option maxHeartbeats 40000000 in
theorem rm18 (l : Launch) (Z : State) (a0 : Array Value) (hw : ∀ d ∈ tables_1, d.before a0 Z = true) (ws : List Jvm.Cond) (p1 : Int32) (p2 : Int32) (h0 : Heap) (n0 : Nat) (Z0 : n0 ≤ h0.size) :
    MetFree l own_y2 (head1 (Jvm.Cond.code own_y2 jdk_29_method_69_code 2 (some .int) :: ws) R_rm18) (fun a U => a = #[(.int p1), (.int p2)] ∧ Z.Warmed39 U.vm ∧ U.heap = h0) (fun _ _ _ _ _ => True) (fun _ U o U' => ∃ v L, o = .returned v ∧ Q_rm18 Z p1 p2 h0 n0 v U'.heap L ∧ FrameEnd U o U' L R_rm18.cells R_rm18.slots) := by
  refine MetFree.of_bodySF (Jvm.Free.JP.mathPlain rfl (by decide +kernel)) hisR ?_
  intro p e s m args below meth c s₁ Bd hml0 hP hK
  obtain ⟨rfl, hZ, hh⟩ := hP
  have hx := Bd.exec
  have hby := Bd.bytes
  have hml : c.maxLocals = 2 := hml0
  have hown : s.vm.findClass "java/lang/Math" = some m.cls := findClass_of_methodNamed Bd.named
  have hnm := (name_of_methodNamed Bd.named Bd.method).1
  have X0 : Stand p l e R_rm18 s m #[(.int p1), (.int p2)] below meth c s₁ [] 0 0 := Stand.of_body Bd
  have e0 : s₁.heap = h0 := by rw [← hh, Bd.state]; rfl
  have N0 := Fr.nil n0
  show OGo p.tables e below (own_Kq s (fun v h L => Q_rm18 Z p1 p2 h0 n0 v h L) R_rm18.cells R_rm18.slots) (s₁.setTop (entryFrame m #[(.int p1), (.int p2)] 2))
  refine OGo.cast (ef_rm18 m p1 p2) ?_
  show OGo _ _ _ _ (s₁.setTop (mkF m 0 #[.val (.int p1), .val (.int p2)] []))
  refine OGo.via (fun _ k => XS.iloadN X0.here hx rfl (hb hby d18_0) rfl (XS.iloadN X0.here hx rfl (hb hby d18_1) rfl k)) ?_
  by_cases hc2_1 : p2 < p1
  · refine OGo.via (fun _ k => XS.icmpYes X0.here hx rfl (pc0 := 2) (pc' := 9) rfl (hb hby d18_2) rfl (tlt hc2_1).2.2.1 (by decide) (by decide) (XS.iloadN X0.here hx rfl (hb hby d18_9) rfl k)) ?_
    show OGo _ _ _ _ (s₁.setTop (mkF m 10 #[.val (.int p1), .val (.int p2)] [(.int p2)]))
    refine own_retI X0 hx Bd.notSynchronized Bd.returns (hb hby d18_10) (by decide) (by decide) ?_
    show Q_rm18 Z _ _ h0 n0 _ s₁.heap _
    exact ⟨(by rw [if_pos hc2_1]), N0, e0⟩
  · refine OGo.via (fun _ k => XS.icmpNo X0.here hx rfl (hb hby d18_2) rfl (flt hc2_1).2.2.1 (XS.iloadN X0.here hx rfl (hb hby d18_5) rfl (XS.goto X0.here hx rfl (pc0 := 6) (pc' := 10) rfl (hb hby d18_6) (by decide) (by decide) k))) ?_
    show OGo _ _ _ _ (s₁.setTop (mkF m 10 #[.val (.int p1), .val (.int p2)] [(.int p1)]))
    refine own_retI X0 hx Bd.notSynchronized Bd.returns (hb hby d18_10) (by decide) (by decide) ?_
    show Q_rm18 Z _ _ h0 n0 _ s₁.heap _
    exact ⟨(by rw [if_neg hc2_1]), N0, e0⟩
theorem d16_0 : decode jdk_43_method_4_code 0 = .ok (.iload_n 0, 1) := by decide +kernel
theorem d16_1 : decode jdk_43_method_4_code 1 = .ok (.ifCond .lt 14, 3) := by decide +kernel
theorem d16_4 : decode jdk_43_method_4_code 4 = .ok (.iload_n 0, 1) := by decide +kernel
theorem d16_5 : decode jdk_43_method_4_code 5 = .ok (.sipush 255, 3) := by decide +kernel
theorem d16_8 : decode jdk_43_method_4_code 8 = .ok (.if_icmp .gt 7, 3) := by decide +kernel
theorem d16_11 : decode jdk_43_method_4_code 11 = .ok (.iconst 1, 1) := by decide +kernel
theorem d16_12 : decode jdk_43_method_4_code 12 = .ok (.goto 4, 3) := by decide +kernel
theorem d16_16 : decode jdk_43_method_4_code 16 = .ok (.ireturn, 1) := by decide +kernel
theorem pn_StringLatin1 : plainName "java/lang/StringLatin1" = true := by first | (simp [plainName, overriddenIn]; done) | decide +kernel
theorem ef_rm16 (m : MethodId)  : entryFrame m #[(.int (47 : Int32))] 1 = mkF m 0 #[.val (.int (47 : Int32))] [] := by
  first | (simp [entryFrame, mkF, argsToLocals, Value.category]; done) | rfl
def Q_rm16 (Z : State)  (h0 : Heap) (n0 : Nat) (v : Option Value) (h : Heap) (L : List Loc) : Prop := v = some (.int (1 : Int32)) ∧ Fr n0 L ∧ h = h0
abbrev R_rm16 : Room := ⟨0, 0, 0, 0⟩
set_option maxRecDepth 65536 in
set_option maxHeartbeats 40000000 in
theorem rm16 (l : Launch) (Z : State) (a0 : Array Value) (hw : ∀ d ∈ tables_1, d.before a0 Z = true) (ws : List Jvm.Cond)  (h0 : Heap) (n0 : Nat) (Z0 : n0 ≤ h0.size) :
    MetFree l own_y3 (head1 (Jvm.Cond.code own_y3 jdk_43_method_4_code 1 (some .boolean) :: ws) R_rm16) (fun a U => a = #[(.int (47 : Int32))] ∧ Z.Warmed39 U.vm ∧ U.heap = h0) (fun _ _ _ _ _ => True) (fun _ U o U' => ∃ v L, o = .returned v ∧ Q_rm16 Z  h0 n0 v U'.heap L ∧ FrameEnd U o U' L R_rm16.cells R_rm16.slots) := by
  refine MetFree.of_bodySF (plainFor_of_name pn_StringLatin1) hisR ?_
  intro p e s m args below meth c s₁ Bd hml0 hP hK
  obtain ⟨rfl, hZ, hh⟩ := hP
  have hx := Bd.exec
  have hby := Bd.bytes
  have hml : c.maxLocals = 1 := hml0
  have hown : s.vm.findClass "java/lang/StringLatin1" = some m.cls := findClass_of_methodNamed Bd.named
  have hnm := (name_of_methodNamed Bd.named Bd.method).1
  have X0 : Stand p l e R_rm16 s m #[(.int (47 : Int32))] below meth c s₁ [] 0 0 := Stand.of_body Bd
  have e0 : s₁.heap = h0 := by rw [← hh, Bd.state]; rfl
  have N0 := Fr.nil n0
  show OGo p.tables e below (own_Kq s (fun v h L => Q_rm16 Z  h0 n0 v h L) R_rm16.cells R_rm16.slots) (s₁.setTop (entryFrame m #[(.int (47 : Int32))] 1))
  refine OGo.cast (ef_rm16 m) ?_
  show OGo _ _ _ _ (s₁.setTop (mkF m 0 #[.val (.int (47 : Int32))] []))
  refine OGo.via (fun _ k => XS.iloadN X0.here hx rfl (hb hby d16_0) rfl (XS.ifNo X0.here hx rfl (hb hby d16_1) rfl ((if0 _ _).trans (flt (by decide : ¬ ((47 : Int32) < (0 : Int32)))).1) (XS.iloadN X0.here hx rfl (hb hby d16_4) rfl (XS.sipush X0.here hx rfl (hb hby d16_5) (XS.icmpNo X0.here hx rfl (hb hby d16_8) rfl (flt (by decide : ¬ ((255 : Int32) < (47 : Int32)))).2.2.1 (XS.iconst X0.here hx rfl (hb hby d16_11) (XS.goto X0.here hx rfl (pc0 := 12) (pc' := 16) rfl (hb hby d16_12) (by decide) (by decide) k))))))) ?_
  show OGo _ _ _ _ (s₁.setTop (mkF m 16 #[.val (.int (47 : Int32))] [(.int (1 : Int32))]))
  refine own_retN (t := .boolean) (by simp) X0 hx Bd.notSynchronized Bd.returns (hb hby d16_16) (by decide) (by decide) ?_
  show Q_rm16 Z  h0 n0 _ s₁.heap _
  exact ⟨rfl, N0, e0⟩
theorem d14_0 : decode jdk_42_method_152_code 0 = .ok (.getstatic 38, 3) := by decide +kernel
theorem d14_3 : decode jdk_42_method_152_code 3 = .ok (.ifCond .eq 10, 3) := by decide +kernel
theorem d14_6 : decode jdk_42_method_152_code 6 = .ok (.aload_n 0, 1) := by decide +kernel
theorem d14_7 : decode jdk_42_method_152_code 7 = .ok (.getfield 15, 3) := by decide +kernel
theorem d14_10 : decode jdk_42_method_152_code 10 = .ok (.goto 4, 3) := by decide +kernel
theorem d14_14 : decode jdk_42_method_152_code 14 = .ok (.ireturn, 1) := by decide +kernel
theorem pn_String : plainName "java/lang/String" = true := by first | (simp [plainName, overriddenIn]; done) | decide +kernel
theorem ef_rm14 (m : MethodId) (a1 : Addr) : entryFrame m #[(.ref a1)] 1 = mkF m 0 #[.val (.ref a1)] [] := by
  first | (simp [entryFrame, mkF, argsToLocals, Value.category]; done) | rfl
def Q_rm14 (Z : State) (a1 : Addr) (w : Int32) (vb : Addr) (h0 : Heap) (n0 : Nat) (v : Option Value) (h : Heap) (L : List Loc) : Prop := v = some (.int (0 : Int32)) ∧ Fr n0 L ∧ h = h0
abbrev R_rm14 : Room := ⟨0, 0, 0, 0⟩
set_option maxRecDepth 65536 in
set_option maxHeartbeats 40000000 in
theorem rm14 (l : Launch) (Z : State) (a0 : Array Value) (hw : ∀ d ∈ tables_1, d.before a0 Z = true) (ws : List Jvm.Cond) (a1 : Addr) (w : Int32) (vb : Addr) (h0 : Heap) (n0 : Nat) (Z0 : n0 ≤ h0.size) (E_a1 : Exa Z h0 a1 "java/lang/String") (F_value_a1 : Fld Z h0 a1 "java/lang/String" "value" "[B" (.ref vb)) (F_coder_a1 : Fld Z h0 a1 "java/lang/String" "coder" "B" (.int (0 : Int32))) (S_COMPACT_STRINGS : Sta Z h0 "java/lang/String" "COMPACT_STRINGS" "Z" (.int w)) (hw0 : ¬ w = (0 : Int32)) :
    MetFree l own_y4 (head1 (Jvm.Cond.code own_y4 jdk_42_method_152_code 1 (some .byte) :: ws) R_rm14) (fun a U => a = #[(.ref a1)] ∧ Z.Warmed39 U.vm ∧ U.heap = h0) (fun _ _ _ _ _ => True) (fun _ U o U' => ∃ v L, o = .returned v ∧ Q_rm14 Z a1 w vb h0 n0 v U'.heap L ∧ FrameEnd U o U' L R_rm14.cells R_rm14.slots) := by
  refine MetFree.of_bodySF (plainFor_of_name pn_String) hisR ?_
  intro p e s m args below meth c s₁ Bd hml0 hP hK
  obtain ⟨rfl, hZ, hh⟩ := hP
  have hx := Bd.exec
  have hby := Bd.bytes
  have hml : c.maxLocals = 1 := hml0
  have hown : s.vm.findClass "java/lang/String" = some m.cls := findClass_of_methodNamed Bd.named
  have hnm := (name_of_methodNamed Bd.named Bd.method).1
  have X0 : Stand p l e R_rm14 s m #[(.ref a1)] below meth c s₁ [] 0 0 := Stand.of_body Bd
  have e0 : s₁.heap = h0 := by rw [← hh, Bd.state]; rfl
  have N0 := Fr.nil n0
  show OGo p.tables e below (own_Kq s (fun v h L => Q_rm14 Z a1 w vb h0 n0 v h L) R_rm14.cells R_rm14.slots) (s₁.setTop (entryFrame m #[(.ref a1)] 1))
  refine OGo.cast (ef_rm14 m a1) ?_
  show OGo _ _ _ _ (s₁.setTop (mkF m 0 #[.val (.ref a1)] []))
  obtain ⟨T1, X1, e1, st1⟩ := getS2 X0 hx hZ hown (host := "") (Or.inl (own_w hw 21 rfl)) Via.refl e0 S_COMPACT_STRINGS (g := (mkF m 0 #[.val (.ref a1)] [])) rfl (hb hby d14_0)
  refine OGo.via st1 ?_
  show OGo _ _ _ _ (T1.setTop (mkF m 3 #[.val (.ref a1)] [(.int w)]))
  refine OGo.via (fun _ k => XS.ifNo X1.here hx rfl (hb hby d14_3) rfl ((if0 _ _).trans (feq hw0).1) (XS.aloadN X1.here hx rfl (hb hby d14_6) rfl rfl k)) ?_
  obtain ⟨T2, X2, e2, st2⟩ := getF X1 hx hZ hown (host := "") (Or.inl (own_w hw 33 rfl)) Via.refl e1 F_coder_a1 (g := (mkF m 7 #[.val (.ref a1)] [(.ref a1)])) rfl rfl (hb hby d14_7)
  refine OGo.via st2 ?_
  show OGo _ _ _ _ (T2.setTop (mkF m 10 #[.val (.ref a1)] [(.int (0 : Int32))]))
  refine OGo.via (fun _ k => XS.goto X2.here hx rfl (pc0 := 10) (pc' := 14) rfl (hb hby d14_10) (by decide) (by decide) k) ?_
  show OGo _ _ _ _ (T2.setTop (mkF m 14 #[.val (.ref a1)] [(.int (0 : Int32))]))
  refine own_retN (t := .byte) (by simp) X2 hx Bd.notSynchronized Bd.returns (hb hby d14_14) (by decide) (by decide) ?_
  show Q_rm14 Z _ _ _ h0 n0 _ T2.heap _
  exact ⟨rfl, N0, e2⟩
theorem d12_0 : decode jdk_42_method_154_code 0 = .ok (.getstatic 38, 3) := by decide +kernel
theorem d12_3 : decode jdk_42_method_154_code 3 = .ok (.ifCond .eq 14, 3) := by decide +kernel
theorem d12_6 : decode jdk_42_method_154_code 6 = .ok (.aload_n 0, 1) := by decide +kernel
theorem d12_7 : decode jdk_42_method_154_code 7 = .ok (.getfield 15, 3) := by decide +kernel
theorem d12_10 : decode jdk_42_method_154_code 10 = .ok (.ifCond .ne 7, 3) := by decide +kernel
theorem d12_13 : decode jdk_42_method_154_code 13 = .ok (.iconst 1, 1) := by decide +kernel
theorem d12_14 : decode jdk_42_method_154_code 14 = .ok (.goto 4, 3) := by decide +kernel
theorem d12_18 : decode jdk_42_method_154_code 18 = .ok (.ireturn, 1) := by decide +kernel
theorem ef_rm12 (m : MethodId) (a1 : Addr) : entryFrame m #[(.ref a1)] 1 = mkF m 0 #[.val (.ref a1)] [] := by
  first | (simp [entryFrame, mkF, argsToLocals, Value.category]; done) | rfl
def Q_rm12 (Z : State) (a1 : Addr) (w : Int32) (vb : Addr) (h0 : Heap) (n0 : Nat) (v : Option Value) (h : Heap) (L : List Loc) : Prop := v = some (.int (1 : Int32)) ∧ Fr n0 L ∧ h = h0
abbrev R_rm12 : Room := ⟨0, 0, 0, 0⟩
set_option maxRecDepth 65536 in
set_option maxHeartbeats 40000000 in
theorem rm12 (l : Launch) (Z : State) (a0 : Array Value) (hw : ∀ d ∈ tables_1, d.before a0 Z = true) (ws : List Jvm.Cond) (a1 : Addr) (w : Int32) (vb : Addr) (h0 : Heap) (n0 : Nat) (Z0 : n0 ≤ h0.size) (E_a1 : Exa Z h0 a1 "java/lang/String") (F_value_a1 : Fld Z h0 a1 "java/lang/String" "value" "[B" (.ref vb)) (F_coder_a1 : Fld Z h0 a1 "java/lang/String" "coder" "B" (.int (0 : Int32))) (S_COMPACT_STRINGS : Sta Z h0 "java/lang/String" "COMPACT_STRINGS" "Z" (.int w)) (hw0 : ¬ w = (0 : Int32)) :
    MetFree l own_y5 (head1 (Jvm.Cond.code own_y5 jdk_42_method_154_code 1 (some .boolean) :: ws) R_rm12) (fun a U => a = #[(.ref a1)] ∧ Z.Warmed39 U.vm ∧ U.heap = h0) (fun _ _ _ _ _ => True) (fun _ U o U' => ∃ v L, o = .returned v ∧ Q_rm12 Z a1 w vb h0 n0 v U'.heap L ∧ FrameEnd U o U' L R_rm12.cells R_rm12.slots) := by
  refine MetFree.of_bodySF (plainFor_of_name pn_String) hisR ?_
  intro p e s m args below meth c s₁ Bd hml0 hP hK
  obtain ⟨rfl, hZ, hh⟩ := hP
  have hx := Bd.exec
  have hby := Bd.bytes
  have hml : c.maxLocals = 1 := hml0
  have hown : s.vm.findClass "java/lang/String" = some m.cls := findClass_of_methodNamed Bd.named
  have hnm := (name_of_methodNamed Bd.named Bd.method).1
  have X0 : Stand p l e R_rm12 s m #[(.ref a1)] below meth c s₁ [] 0 0 := Stand.of_body Bd
  have e0 : s₁.heap = h0 := by rw [← hh, Bd.state]; rfl
  have N0 := Fr.nil n0
  show OGo p.tables e below (own_Kq s (fun v h L => Q_rm12 Z a1 w vb h0 n0 v h L) R_rm12.cells R_rm12.slots) (s₁.setTop (entryFrame m #[(.ref a1)] 1))
  refine OGo.cast (ef_rm12 m a1) ?_
  show OGo _ _ _ _ (s₁.setTop (mkF m 0 #[.val (.ref a1)] []))
  obtain ⟨T1, X1, e1, st1⟩ := getS2 X0 hx hZ hown (host := "") (Or.inl (own_w hw 21 rfl)) Via.refl e0 S_COMPACT_STRINGS (g := (mkF m 0 #[.val (.ref a1)] [])) rfl (hb hby d12_0)
  refine OGo.via st1 ?_
  show OGo _ _ _ _ (T1.setTop (mkF m 3 #[.val (.ref a1)] [(.int w)]))
  refine OGo.via (fun _ k => XS.ifNo X1.here hx rfl (hb hby d12_3) rfl ((if0 _ _).trans (feq hw0).1) (XS.aloadN X1.here hx rfl (hb hby d12_6) rfl rfl k)) ?_
  obtain ⟨T2, X2, e2, st2⟩ := getF X1 hx hZ hown (host := "") (Or.inl (own_w hw 33 rfl)) Via.refl e1 F_coder_a1 (g := (mkF m 7 #[.val (.ref a1)] [(.ref a1)])) rfl rfl (hb hby d12_7)
  refine OGo.via st2 ?_
  show OGo _ _ _ _ (T2.setTop (mkF m 10 #[.val (.ref a1)] [(.int (0 : Int32))]))
  refine OGo.via (fun _ k => XS.ifNo X2.here hx rfl (hb hby d12_10) rfl ((if0 _ _).trans (teq (by decide : (0 : Int32) = (0 : Int32))).2) (XS.iconst X2.here hx rfl (hb hby d12_13) (XS.goto X2.here hx rfl (pc0 := 14) (pc' := 18) rfl (hb hby d12_14) (by decide) (by decide) k))) ?_
  show OGo _ _ _ _ (T2.setTop (mkF m 18 #[.val (.ref a1)] [(.int (1 : Int32))]))
  refine own_retN (t := .boolean) (by simp) X2 hx Bd.notSynchronized Bd.returns (hb hby d12_18) (by decide) (by decide) ?_
  show Q_rm12 Z _ _ _ h0 n0 _ T2.heap _
  exact ⟨rfl, N0, e2⟩
theorem d13_0 : decode jdk_42_method_54_code 0 = .ok (.aload_n 0, 1) := by decide +kernel
theorem d13_1 : decode jdk_42_method_54_code 1 = .ok (.getfield 9, 3) := by decide +kernel
theorem d13_4 : decode jdk_42_method_54_code 4 = .ok (.arraylength, 1) := by decide +kernel
theorem d13_5 : decode jdk_42_method_54_code 5 = .ok (.aload_n 0, 1) := by decide +kernel
theorem d13_6 : decode jdk_42_method_54_code 6 = .ok (.invokevirtual 335, 3) := by decide +kernel
theorem pd_0 : parseMethodDescriptor "()B" = some ⟨[], some .byte⟩ := by decide +kernel
theorem d13_9 : decode jdk_42_method_54_code 9 = .ok (.ishr, 1) := by decide +kernel
theorem d13_10 : decode jdk_42_method_54_code 10 = .ok (.ireturn, 1) := by decide +kernel
theorem ef_rm13 (m : MethodId) (a1 : Addr) : entryFrame m #[(.ref a1)] 1 = mkF m 0 #[.val (.ref a1)] [] := by
  first | (simp [entryFrame, mkF, argsToLocals, Value.category]; done) | rfl
def Q_rm13 (Z : State) (a1 : Addr) (w : Int32) (vb : Addr) (kb : ClassId) (vs : List Value) (z : Int32) (h0 : Heap) (n0 : Nat) (v : Option Value) (h : Heap) (L : List Loc) : Prop := v = some (.int z) ∧ Fr n0 L ∧ h = h0
abbrev R_rm13 : Room := ⟨1, 0, 0, 13⟩
set_option maxRecDepth 65536 in
set_option maxHeartbeats 40000000 in
theorem rm13 (l : Launch) (Z : State) (a0 : Array Value) (hw : ∀ d ∈ tables_1, d.before a0 Z = true) (ws : List Jvm.Cond) (a1 : Addr) (w : Int32) (vb : Addr) (kb : ClassId) (vs : List Value) (z : Int32) (h0 : Heap) (n0 : Nat) (Z0 : n0 ≤ h0.size) (E_a1 : Exa Z h0 a1 "java/lang/String") (F_value_a1 : Fld Z h0 a1 "java/lang/String" "value" "[B" (.ref vb)) (F_coder_a1 : Fld Z h0 a1 "java/lang/String" "coder" "B" (.int (0 : Int32))) (V_vb : Arv Z h0 vb kb .byte z vs (.int (0 : Int32))) (S_COMPACT_STRINGS : Sta Z h0 "java/lang/String" "COMPACT_STRINGS" "Z" (.int w)) (hw0 : ¬ w = (0 : Int32)) :
    MetFree l own_y6 (head1 (Jvm.Cond.code own_y6 jdk_42_method_54_code 1 (some .int) :: ws) R_rm13) (fun a U => a = #[(.ref a1)] ∧ Z.Warmed39 U.vm ∧ U.heap = h0) (fun _ _ _ _ _ => True) (fun _ U o U' => ∃ v L, o = .returned v ∧ Q_rm13 Z a1 w vb kb vs z h0 n0 v U'.heap L ∧ FrameEnd U o U' L R_rm13.cells R_rm13.slots) := by
  refine MetFree.of_bodySF (plainFor_of_name pn_String) hisR ?_
  intro p e s m args below meth c s₁ Bd hml0 hP hK
  obtain ⟨rfl, hZ, hh⟩ := hP
  have hx := Bd.exec
  have hby := Bd.bytes
  have hml : c.maxLocals = 1 := hml0
  have hown : s.vm.findClass "java/lang/String" = some m.cls := findClass_of_methodNamed Bd.named
  have hnm := (name_of_methodNamed Bd.named Bd.method).1
  have X0 : Stand p l e R_rm13 s m #[(.ref a1)] below meth c s₁ [] 0 0 := Stand.of_body Bd
  have e0 : s₁.heap = h0 := by rw [← hh, Bd.state]; rfl
  have N0 := Fr.nil n0
  show OGo p.tables e below (own_Kq s (fun v h L => Q_rm13 Z a1 w vb kb vs z h0 n0 v h L) R_rm13.cells R_rm13.slots) (s₁.setTop (entryFrame m #[(.ref a1)] 1))
  refine OGo.cast (ef_rm13 m a1) ?_
  show OGo _ _ _ _ (s₁.setTop (mkF m 0 #[.val (.ref a1)] []))
  refine OGo.via (fun _ k => XS.aloadN X0.here hx rfl (hb hby d13_0) rfl rfl k) ?_
  obtain ⟨T1, X1, e1, st1⟩ := getF X0 hx hZ hown (host := "") (Or.inl (own_w hw 35 rfl)) Via.refl e0 F_value_a1 (g := (mkF m 1 #[.val (.ref a1)] [(.ref a1)])) rfl rfl (hb hby d13_1)
  refine OGo.via st1 ?_
  show OGo _ _ _ _ (T1.setTop (mkF m 4 #[.val (.ref a1)] [(.ref vb)]))
  obtain ⟨cl2, Ar2, q2, Sz2, Ng2, Hs2, Gf2⟩ := id V_vb
  refine OGo.via (X1.arraylength hx (by rw [e1]; exact Ar2.1) (State.isArrayOf_alike hZ.alike Ar2.2.1) (g := (mkF m 4 #[.val (.ref a1)] [(.ref vb)])) rfl rfl (hb hby d13_4)) ?_
  rw [len_of Sz2 Ng2]
  show OGo _ _ _ _ (T1.setTop (mkF m 5 #[.val (.ref a1)] [(.int z)]))
  refine OGo.via (fun _ k => XS.aloadN X1.here hx rfl (hb hby d13_5) rfl rfl k) ?_
  obtain ⟨cq3, kq3, q3a, q3b, q3c⟩ := isOf hZ e1 E_a1
  obtain ⟨_, T3, Lc3, X3, hQ3, st3⟩ := own_open X1 (X1.virtualBack hx (y := own_y4) (z := own_y4) hown (mvT hZ (own_w hw 68 rfl)) (mvT hZ (own_w hw 69 rfl)) (notFace_of_selects (args := #[]) (mvT hZ (own_w hw 71 rfl))) (mvT hZ (own_w hw 71 rfl)) (mvT hZ (own_w hw 70 rfl)) (by decide) (backOf (W := 1) (rm14 l Z a0 hw [] a1 w vb h0 n0 Z0 E_a1 F_value_a1 F_coder_a1 S_COMPACT_STRINGS hw0) hZ (own_w hw 72 rfl) (own_w hw 10 rfl) (by decide) (by decide)) q3a q3c (g := (mkF m 6 #[.val (.ref a1)] [(.ref a1), (.int z)])) rfl (by rw [hml]; rfl) (Steps.refl _) (argsL := []) (rest := [(.int z)]) (lenOf pd_0 rfl) rfl (by show 2 * 0 + _ ≤ _; exact Nat.le_of_eq rfl) (hb hby d13_6) (fun _ _ => ⟨rfl, e1, (by decide : 0 + 0 ≤ _), (by decide : 0 + 0 ≤ _)⟩))
  obtain ⟨rfl, N3q, r3_0⟩ := hQ3
  have N3 := Fr.app N0 N3q
  refine OGo.via (fun _ k => st3.trans k) ?_
  show OGo _ _ _ _ (T3.setTop (mkF m 9 #[.val (.ref a1)] [(.int (0 : Int32)), (.int z)]))
  refine OGo.via (fun _ k => XS.ishr X3.here hx rfl (hb hby d13_9) rfl k) ?_
  show OGo _ _ _ _ (T3.setTop (mkF m 10 #[.val (.ref a1)] [(.int (z >>> ((0 : Int32) &&& 31)))]))
  refine own_retI X3 hx Bd.notSynchronized Bd.returns (hb hby d13_10) (by decide) (by decide) ?_
  show Q_rm13 Z _ _ _ _ _ _ h0 n0 _ T3.heap _
  exact ⟨(by rw [own_shr0]), N3, r3_0⟩
theorem d6_0 : decode jdk_52_method_21_code 0 = .ok (.iconst 0, 1) := by decide +kernel
theorem d6_1 : decode jdk_52_method_21_code 1 = .ok (.istore 5, 2) := by decide +kernel
theorem d6_3 : decode jdk_52_method_21_code 3 = .ok (.iload 5, 2) := by decide +kernel
theorem d6_5 : decode jdk_52_method_21_code 5 = .ok (.iload 4, 2) := by decide +kernel
theorem d6_7 : decode jdk_52_method_21_code 7 = .ok (.if_icmp .ge 37, 3) := by decide +kernel
theorem d6_10 : decode jdk_52_method_21_code 10 = .ok (.aload_n 0, 1) := by decide +kernel
theorem d6_11 : decode jdk_52_method_21_code 11 = .ok (.iload_n 1, 1) := by decide +kernel
theorem d6_12 : decode jdk_52_method_21_code 12 = .ok (.caload, 1) := by decide +kernel
theorem d6_13 : decode jdk_52_method_21_code 13 = .ok (.istore 6, 2) := by decide +kernel
theorem d6_15 : decode jdk_52_method_21_code 15 = .ok (.iload 6, 2) := by decide +kernel
theorem d6_17 : decode jdk_52_method_21_code 17 = .ok (.sipush 255, 3) := by decide +kernel
theorem d6_20 : decode jdk_52_method_21_code 20 = .ok (.if_icmp .le 6, 3) := by decide +kernel
theorem d6_26 : decode jdk_52_method_21_code 26 = .ok (.aload_n 2, 1) := by decide +kernel
theorem d6_27 : decode jdk_52_method_21_code 27 = .ok (.iload_n 3, 1) := by decide +kernel
theorem d6_28 : decode jdk_52_method_21_code 28 = .ok (.iload 6, 2) := by decide +kernel
theorem d6_30 : decode jdk_52_method_21_code 30 = .ok (.i2b, 1) := by decide +kernel
theorem d6_31 : decode jdk_52_method_21_code 31 = .ok (.bastore, 1) := by decide +kernel
theorem d6_32 : decode jdk_52_method_21_code 32 = .ok (.iinc 1 1, 3) := by decide +kernel
theorem d6_35 : decode jdk_52_method_21_code 35 = .ok (.iinc 3 1, 3) := by decide +kernel
theorem d6_38 : decode jdk_52_method_21_code 38 = .ok (.iinc 5 1, 3) := by decide +kernel
theorem d6_41 : decode jdk_52_method_21_code 41 = .ok (.goto (-38), 3) := by decide +kernel
theorem d6_44 : decode jdk_52_method_21_code 44 = .ok (.iload 4, 2) := by decide +kernel
theorem d6_46 : decode jdk_52_method_21_code 46 = .ok (.ireturn, 1) := by decide +kernel
theorem pn_StringUTF16 : plainName "java/lang/StringUTF16" = true := by first | (simp [plainName, overriddenIn]; done) | decide +kernel
theorem ef_rm6_1 (m : MethodId) (a1 : Addr) (a3 : Addr) : entryFrame m #[(.ref a1), (.int (0 : Int32)), (.ref a3), (.int (0 : Int32)), (.int (1 : Int32))] 7 = mkF m 0 #[.val (.ref a1), .val (.int (0 : Int32)), .val (.ref a3), .val (.int (0 : Int32)), .val (.int (1 : Int32)), .unset, .unset] [] := by
  first | (simp [entryFrame, mkF, argsToLocals, Value.category]; done) | rfl
def Q_rm6_1 (Z : State) (a1 : Addr) (a3 : Addr) (k1 : ClassId) (k3 : ClassId) (c0 : Int32) (w : Int32) (fm : Value) (h0 : Heap) (n0 : Nat) (v : Option Value) (h : Heap) (L : List Loc) : Prop := v = some (.int (1 : Int32)) ∧ Fr n0 L ∧ Keep h0 h [a3] ∧ Arv Z h a3 k3 .byte (1 : Int32) [(.int ((c0.toInt8.toInt32).toInt8.toInt32))] (.int (0 : Int32)) ∧ Sta Z h "java/lang/String" "COMPACT_STRINGS" "Z" (.int w) ∧ Sta Z h "jdk/internal/util/Preconditions" "SIOOBE_FORMATTER" "Ljava/util/function/BiFunction;" fm
abbrev R_rm6_1 : Room := ⟨0, 0, 0, 0⟩
set_option maxRecDepth 65536 in
set_option maxHeartbeats 40000000 in
theorem rm6_1 (l : Launch) (Z : State) (a0 : Array Value) (hw : ∀ d ∈ tables_1, d.before a0 Z = true) (ws : List Jvm.Cond) (a1 : Addr) (a3 : Addr) (k1 : ClassId) (k3 : ClassId) (c0 : Int32) (w : Int32) (fm : Value) (h0 : Heap) (n0 : Nat) (Z0 : n0 ≤ h0.size) (S_COMPACT_STRINGS : Sta Z h0 "java/lang/String" "COMPACT_STRINGS" "Z" (.int w)) (S_SIOOBE_FORMATTER : Sta Z h0 "jdk/internal/util/Preconditions" "SIOOBE_FORMATTER" "Ljava/util/function/BiFunction;" fm) (V_a1 : Arv Z h0 a1 k1 .char (1 : Int32) [(.int c0)] (.int (0 : Int32))) (V_a3 : Arv Z h0 a3 k3 .byte (1 : Int32) [(.int (0 : Int32))] (.int (0 : Int32))) (ne_a1_a3 : a1 ≠ a3) (g_a3 : n0 ≤ a3) (hc0 : ¬ (255 : Int32) < c0) :
    MetFree l own_y7 (head1 (Jvm.Cond.code own_y7 jdk_52_method_21_code 7 (some .int) :: ws) R_rm6_1) (fun a U => a = #[(.ref a1), (.int (0 : Int32)), (.ref a3), (.int (0 : Int32)), (.int (1 : Int32))] ∧ Z.Warmed39 U.vm ∧ U.heap = h0) (fun _ _ _ _ _ => True) (fun _ U o U' => ∃ v L, o = .returned v ∧ Q_rm6_1 Z a1 a3 k1 k3 c0 w fm h0 n0 v U'.heap L ∧ FrameEnd U o U' L R_rm6_1.cells R_rm6_1.slots) := by
  refine MetFree.of_bodySF (plainFor_of_name pn_StringUTF16) hisR ?_
  intro p e s m args below meth c s₁ Bd hml0 hP hK
  obtain ⟨rfl, hZ, hh⟩ := hP
  have hx := Bd.exec
  have hby := Bd.bytes
  have hml : c.maxLocals = 7 := hml0
  have hown : s.vm.findClass "java/lang/StringUTF16" = some m.cls := findClass_of_methodNamed Bd.named
  have hnm := (name_of_methodNamed Bd.named Bd.method).1
  have X0 : Stand p l e R_rm6_1 s m #[(.ref a1), (.int (0 : Int32)), (.ref a3), (.int (0 : Int32)), (.int (1 : Int32))] below meth c s₁ [] 0 0 := Stand.of_body Bd
  have e0 : s₁.heap = h0 := by rw [← hh, Bd.state]; rfl
  have N0 := Fr.nil n0
  show OGo p.tables e below (own_Kq s (fun v h L => Q_rm6_1 Z a1 a3 k1 k3 c0 w fm h0 n0 v h L) R_rm6_1.cells R_rm6_1.slots) (s₁.setTop (entryFrame m #[(.ref a1), (.int (0 : Int32)), (.ref a3), (.int (0 : Int32)), (.int (1 : Int32))] 7))
  refine OGo.cast (ef_rm6_1 m a1 a3) ?_
  show OGo _ _ _ _ (s₁.setTop (mkF m 0 #[.val (.ref a1), .val (.int (0 : Int32)), .val (.ref a3), .val (.int (0 : Int32)), .val (.int (1 : Int32)), .unset, .unset] []))
  refine OGo.via (fun _ k => XS.iconst X0.here hx rfl (hb hby d6_0) (XS.istore X0.here hx rfl (hb hby d6_1) rfl (l' := #[.val (.ref a1), .val (.int (0 : Int32)), .val (.ref a3), .val (.int (0 : Int32)), .val (.int (1 : Int32)), .val (.int (0 : Int32)), .unset]) rfl (XS.iload X0.here hx rfl (hb hby d6_3) rfl (XS.iload X0.here hx rfl (hb hby d6_5) rfl (XS.icmpNo X0.here hx rfl (hb hby d6_7) rfl (tlt (by decide : (0 : Int32) < (1 : Int32))).2.1 (XS.aloadN X0.here hx rfl (hb hby d6_10) rfl rfl (XS.iloadN X0.here hx rfl (hb hby d6_11) rfl k))))))) ?_
  obtain ⟨cl1, Ar1, q1, Sz1, Ng1, Hs1, Gf1⟩ := id V_a1
  have hin1 : ¬ ((0 : Int32) < 0 ∨ cl1.slots.size ≤ ((0 : Int32)).toNatClampNeg) := inb_of Sz1 ⟨by decide, by decide⟩
  have hat1 : cl1.slots[((0 : Int32)).toNatClampNeg]? = some (.int c0) := Hs1.at hin1 rfl
  refine OGo.via (X0.caload hx (j := (0 : Int32)) (v := (.int c0)) (by rw [e0]; exact Ar1.1) (State.isArrayOf_alike hZ.alike Ar1.2.1) Ar1.2.2 hin1 hat1 (g := (mkF m 12 #[.val (.ref a1), .val (.int (0 : Int32)), .val (.ref a3), .val (.int (0 : Int32)), .val (.int (1 : Int32)), .val (.int (0 : Int32)), .unset] [(.int (0 : Int32)), (.ref a1)])) rfl rfl (hb hby d6_12)) ?_
  show OGo _ _ _ _ (s₁.setTop (mkF m 13 #[.val (.ref a1), .val (.int (0 : Int32)), .val (.ref a3), .val (.int (0 : Int32)), .val (.int (1 : Int32)), .val (.int (0 : Int32)), .unset] [(.int c0)]))
  refine OGo.via (fun _ k => XS.istore X0.here hx rfl (hb hby d6_13) rfl (l' := #[.val (.ref a1), .val (.int (0 : Int32)), .val (.ref a3), .val (.int (0 : Int32)), .val (.int (1 : Int32)), .val (.int (0 : Int32)), .val (.int c0)]) rfl (XS.iload X0.here hx rfl (hb hby d6_15) rfl (XS.sipush X0.here hx rfl (hb hby d6_17) (XS.icmpYes X0.here hx rfl (pc0 := 20) (pc' := 26) rfl (hb hby d6_20) rfl (flt hc0).2.2.2 (by decide) (by decide) (XS.aloadN X0.here hx rfl (hb hby d6_26) rfl rfl (XS.iloadN X0.here hx rfl (hb hby d6_27) rfl (XS.iload X0.here hx rfl (hb hby d6_28) rfl (XS.i2b X0.here hx rfl (hb hby d6_30) rfl k)))))))) ?_
  show OGo _ _ _ _ (s₁.setTop (mkF m 31 #[.val (.ref a1), .val (.int (0 : Int32)), .val (.ref a3), .val (.int (0 : Int32)), .val (.int (1 : Int32)), .val (.int (0 : Int32)), .val (.int c0)] [(.int (c0.toInt8.toInt32)), (.int (0 : Int32)), (.ref a3)]))
  obtain ⟨cl2, Ar2, q2, Sz2, Ng2, Hs2, Gf2⟩ := id V_a3
  have hin2 : ¬ ((0 : Int32) < 0 ∨ cl2.slots.size ≤ ((0 : Int32)).toNatClampNeg) := inb_of Sz2 ⟨by decide, by decide⟩
  obtain ⟨T2, h2, X2, e2, W2, st2⟩ := stB X0 hx hZ e0 Ar2 (j := (0 : Int32)) hin2 (g := (mkF m 31 #[.val (.ref a1), .val (.int (0 : Int32)), .val (.ref a3), .val (.int (0 : Int32)), .val (.int (1 : Int32)), .val (.int (0 : Int32)), .val (.int c0)] [(.int (c0.toInt8.toInt32)), (.int (0 : Int32)), (.ref a3)])) rfl rfl (hb hby d6_31)
  refine OGo.via st2 ?_
  have V2 : Arv Z h2 a3 k3 .byte (1 : Int32) [(.int ((c0.toInt8.toInt32).toInt8.toInt32))] (.int (0 : Int32)) := Arv.set Ar2 q2 Sz2 Ng2 Hs2 Gf2 (fits_nar_byte _) W2 0 rfl (Nat.le_of_ble_eq_true rfl)
  have K2 : Keep h0 h2 [a3] := (Keep.refl h0 [a3]).wr W2 (Or.inl (List.mem_of_getElem? (i := 0) rfl))
  have N2 := Fr.snoc X2 N0 g_a3
  show OGo _ _ _ _ (T2.setTop (mkF m 32 #[.val (.ref a1), .val (.int (0 : Int32)), .val (.ref a3), .val (.int (0 : Int32)), .val (.int (1 : Int32)), .val (.int (0 : Int32)), .val (.int c0)] []))
  refine OGo.via (fun _ k => XS.iinc X2.here hx rfl (hb hby d6_32) rfl (l' := #[.val (.ref a1), .val (.int ((0 : Int32) + (1 : Int32))), .val (.ref a3), .val (.int (0 : Int32)), .val (.int (1 : Int32)), .val (.int (0 : Int32)), .val (.int c0)]) rfl k) ?_
  show OGo _ _ _ _ (T2.setTop (mkF m 35 #[.val (.ref a1), .val (.int ((0 : Int32) + (1 : Int32))), .val (.ref a3), .val (.int (0 : Int32)), .val (.int (1 : Int32)), .val (.int (0 : Int32)), .val (.int c0)] []))
  rw [show ((0 : Int32) + (1 : Int32)) = (1 : Int32) from by decide]
  refine OGo.via (fun _ k => XS.iinc X2.here hx rfl (hb hby d6_35) rfl (l' := #[.val (.ref a1), .val (.int (1 : Int32)), .val (.ref a3), .val (.int ((0 : Int32) + (1 : Int32))), .val (.int (1 : Int32)), .val (.int (0 : Int32)), .val (.int c0)]) rfl k) ?_
  show OGo _ _ _ _ (T2.setTop (mkF m 38 #[.val (.ref a1), .val (.int (1 : Int32)), .val (.ref a3), .val (.int ((0 : Int32) + (1 : Int32))), .val (.int (1 : Int32)), .val (.int (0 : Int32)), .val (.int c0)] []))
  rw [show ((0 : Int32) + (1 : Int32)) = (1 : Int32) from by decide]
  refine OGo.via (fun _ k => XS.iinc X2.here hx rfl (hb hby d6_38) rfl (l' := #[.val (.ref a1), .val (.int (1 : Int32)), .val (.ref a3), .val (.int (1 : Int32)), .val (.int (1 : Int32)), .val (.int ((0 : Int32) + (1 : Int32))), .val (.int c0)]) rfl k) ?_
  show OGo _ _ _ _ (T2.setTop (mkF m 41 #[.val (.ref a1), .val (.int (1 : Int32)), .val (.ref a3), .val (.int (1 : Int32)), .val (.int (1 : Int32)), .val (.int ((0 : Int32) + (1 : Int32))), .val (.int c0)] []))
  rw [show ((0 : Int32) + (1 : Int32)) = (1 : Int32) from by decide]
  refine OGo.via (fun _ k => XS.goto X2.here hx rfl (pc0 := 41) (pc' := 3) rfl (hb hby d6_41) (by decide) (by decide) (XS.iload X2.here hx rfl (hb hby d6_3) rfl (XS.iload X2.here hx rfl (hb hby d6_5) rfl (XS.icmpYes X2.here hx rfl (pc0 := 7) (pc' := 44) rfl (hb hby d6_7) rfl (flt (by decide : ¬ ((1 : Int32) < (1 : Int32)))).2.1 (by decide) (by decide) (XS.iload X2.here hx rfl (hb hby d6_44) rfl k))))) ?_
  show OGo _ _ _ _ (T2.setTop (mkF m 46 #[.val (.ref a1), .val (.int (1 : Int32)), .val (.ref a3), .val (.int (1 : Int32)), .val (.int (1 : Int32)), .val (.int (1 : Int32)), .val (.int c0)] [(.int (1 : Int32))]))
  have f6 := S_COMPACT_STRINGS.wr W2
  have f7 := S_SIOOBE_FORMATTER.wr W2
  refine own_retI X2 hx Bd.notSynchronized Bd.returns (hb hby d6_46) (by decide) (by decide) ?_
  show Q_rm6_1 Z _ _ _ _ _ _ _ h0 n0 _ T2.heap _
  rw [e2]
  exact ⟨rfl, N2, K2, V2, f6, f7⟩
theorem d5_0 : decode jdk_52_method_16_code 0 = .ok (.iload_n 2, 1) := by decide +kernel
theorem d5_1 : decode jdk_52_method_16_code 1 = .ok (.newarray .byte, 2) := by decide +kernel
theorem d5_3 : decode jdk_52_method_16_code 3 = .ok (.astore_n 3, 1) := by decide +kernel
theorem d5_4 : decode jdk_52_method_16_code 4 = .ok (.aload_n 0, 1) := by decide +kernel
theorem d5_5 : decode jdk_52_method_16_code 5 = .ok (.iload_n 1, 1) := by decide +kernel
theorem d5_6 : decode jdk_52_method_16_code 6 = .ok (.aload_n 3, 1) := by decide +kernel
theorem d5_7 : decode jdk_52_method_16_code 7 = .ok (.iconst 0, 1) := by decide +kernel
theorem d5_8 : decode jdk_52_method_16_code 8 = .ok (.iload_n 2, 1) := by decide +kernel
theorem d5_9 : decode jdk_52_method_16_code 9 = .ok (.invokestatic 115, 3) := by decide +kernel
theorem pd_1 : parseMethodDescriptor "([CI[BII)I" = some ⟨[(.array .char), .int, (.array .byte), .int, .int], some .int⟩ := by decide +kernel
theorem d5_12 : decode jdk_52_method_16_code 12 = .ok (.istore 4, 2) := by decide +kernel
theorem d5_14 : decode jdk_52_method_16_code 14 = .ok (.iload 4, 2) := by decide +kernel
theorem d5_16 : decode jdk_52_method_16_code 16 = .ok (.iload_n 2, 1) := by decide +kernel
theorem d5_17 : decode jdk_52_method_16_code 17 = .ok (.if_icmp .eq 40, 3) := by decide +kernel
theorem d5_57 : decode jdk_52_method_16_code 57 = .ok (.aload_n 3, 1) := by decide +kernel
theorem d5_58 : decode jdk_52_method_16_code 58 = .ok (.areturn, 1) := by decide +kernel
theorem ef_rm5_1 (m : MethodId) (a1 : Addr) : entryFrame m #[(.ref a1), (.int (0 : Int32)), (.int (1 : Int32))] 6 = mkF m 0 #[.val (.ref a1), .val (.int (0 : Int32)), .val (.int (1 : Int32)), .unset, .unset, .unset] [] := by
  first | (simp [entryFrame, mkF, argsToLocals, Value.category]; done) | rfl
def Q_rm5_1 (Z : State) (a1 : Addr) (k1 : ClassId) (w : Int32) (fm : Value) (c0 : Int32) (h0 : Heap) (n0 : Nat) (v : Option Value) (h : Heap) (L : List Loc) : Prop := ∃ vb : Addr, ∃ kb : ClassId, v = some (.ref vb) ∧ Fr n0 L ∧ Keep h0 h [] ∧ h0.size ≤ vb ∧ Arv Z h vb kb .byte (1 : Int32) [(.int ((c0.toInt8.toInt32).toInt8.toInt32))] (.int (0 : Int32)) ∧ Sta Z h "java/lang/String" "COMPACT_STRINGS" "Z" (.int w) ∧ Sta Z h "jdk/internal/util/Preconditions" "SIOOBE_FORMATTER" "Ljava/util/function/BiFunction;" fm
abbrev R_rm5_1 : Room := ⟨1, 1, 1, 18⟩
set_option maxRecDepth 65536 in
set_option maxHeartbeats 40000000 in
theorem rm5_1 (l : Launch) (Z : State) (a0 : Array Value) (hw : ∀ d ∈ tables_1, d.before a0 Z = true) (ws : List Jvm.Cond) (a1 : Addr) (k1 : ClassId) (w : Int32) (fm : Value) (c0 : Int32) (h0 : Heap) (n0 : Nat) (Z0 : n0 ≤ h0.size) (V_a1 : Arv Z h0 a1 k1 .char (1 : Int32) [(.int c0)] (.int (0 : Int32))) (S_COMPACT_STRINGS : Sta Z h0 "java/lang/String" "COMPACT_STRINGS" "Z" (.int w)) (S_SIOOBE_FORMATTER : Sta Z h0 "jdk/internal/util/Preconditions" "SIOOBE_FORMATTER" "Ljava/util/function/BiFunction;" fm) (hc0 : ¬ (255 : Int32) < c0) :
    MetFree l own_y8 (head1 (Jvm.Cond.code own_y8 jdk_52_method_16_code 6 (some (.array .byte)) :: ws) R_rm5_1) (fun a U => a = #[(.ref a1), (.int (0 : Int32)), (.int (1 : Int32))] ∧ Z.Warmed39 U.vm ∧ U.heap = h0) (fun _ _ _ _ _ => True) (fun _ U o U' => ∃ v L, o = .returned v ∧ Q_rm5_1 Z a1 k1 w fm c0 h0 n0 v U'.heap L ∧ FrameEnd U o U' L R_rm5_1.cells R_rm5_1.slots) := by
  refine MetFree.of_bodySF (plainFor_of_name pn_StringUTF16) hisR ?_
  intro p e s m args below meth c s₁ Bd hml0 hP hK
  obtain ⟨rfl, hZ, hh⟩ := hP
  have hx := Bd.exec
  have hby := Bd.bytes
  have hml : c.maxLocals = 6 := hml0
  have hown : s.vm.findClass "java/lang/StringUTF16" = some m.cls := findClass_of_methodNamed Bd.named
  have hnm := (name_of_methodNamed Bd.named Bd.method).1
  have X0 : Stand p l e R_rm5_1 s m #[(.ref a1), (.int (0 : Int32)), (.int (1 : Int32))] below meth c s₁ [] 0 0 := Stand.of_body Bd
  have e0 : s₁.heap = h0 := by rw [← hh, Bd.state]; rfl
  have N0 := Fr.nil n0
  show OGo p.tables e below (own_Kq s (fun v h L => Q_rm5_1 Z a1 k1 w fm c0 h0 n0 v h L) R_rm5_1.cells R_rm5_1.slots) (s₁.setTop (entryFrame m #[(.ref a1), (.int (0 : Int32)), (.int (1 : Int32))] 6))
  refine OGo.cast (ef_rm5_1 m a1) ?_
  show OGo _ _ _ _ (s₁.setTop (mkF m 0 #[.val (.ref a1), .val (.int (0 : Int32)), .val (.int (1 : Int32)), .unset, .unset, .unset] []))
  refine OGo.via (fun _ k => XS.iloadN X0.here hx rfl (hb hby d5_0) rfl k) ?_
  obtain ⟨T1, h1, ka1, X1, e1, E1, A1, Y1, st1⟩ := newPE (ad := "[B") X0 hx hZ (own_w hw 26 rfl) e0 (g := (mkF m 1 #[.val (.ref a1), .val (.int (0 : Int32)), .val (.int (1 : Int32)), .unset, .unset, .unset] [(.int (1 : Int32))])) rfl (hb hby d5_1) rfl (by decide) (cap := 1) (by decide) (by decide) (by decide) (by decide) (by decide)
  obtain ⟨b1, g1⟩ : ∃ z, z = h0.size := ⟨_, rfl⟩
  rw [← g1] at A1 Y1 st1
  refine OGo.via st1 ?_
  have K1 : Keep h0 h1 [] := (Keep.refl h0 []).ext E1
  have lt_a1_b1 : a1 < b1 := Nat.lt_of_lt_of_le V_a1.lt (Nat.le_of_eq g1.symm)
  have sz_b1 : h0.size ≤ b1 := Nat.le_trans (Keep.refl h0 []).1 (Nat.le_of_eq g1.symm)
  have g_b1 : n0 ≤ b1 := Nat.le_trans Z0 sz_b1
  have V1 : Arv Z h1 b1 ka1 .byte (1 : Int32) [(.int (0 : Int32))] (.int (0 : Int32)) := (Arv.new A1 (by decide)).pad (pad_rep [] (.int (0 : Int32)) 1)
  show OGo _ _ _ _ (T1.setTop (mkF m 3 #[.val (.ref a1), .val (.int (0 : Int32)), .val (.int (1 : Int32)), .unset, .unset, .unset] [(.ref b1)]))
  refine OGo.via (fun _ k => XS.astoreN X1.here hx rfl (hb hby d5_3) rfl rfl (l' := #[.val (.ref a1), .val (.int (0 : Int32)), .val (.int (1 : Int32)), .val (.ref b1), .unset, .unset]) rfl (XS.aloadN X1.here hx rfl (hb hby d5_4) rfl rfl (XS.iloadN X1.here hx rfl (hb hby d5_5) rfl (XS.aloadN X1.here hx rfl (hb hby d5_6) rfl rfl (XS.iconst X1.here hx rfl (hb hby d5_7) (XS.iloadN X1.here hx rfl (hb hby d5_8) rfl k)))))) ?_
  have f3 := S_COMPACT_STRINGS.ext E1
  have f4 := S_SIOOBE_FORMATTER.ext E1
  have f5 := V_a1.ext E1
  obtain ⟨_, T2, Lc2, X2, hQ2, st2⟩ := own_open X1 (Jvm.LawKit.callS X1 hx (y := own_y7) hown (mvT hZ (own_w hw 27 rfl)) (mvT hZ (own_w hw 28 rfl)) (mvT hZ (own_w hw 24 rfl)) (mvT hZ (own_w hw 29 rfl)) (by decide) (backOf (W := 0) (rm6_1 l Z a0 hw [] a1 b1 k1 ka1 c0 w fm h1 n0 (Nat.le_trans Z0 K1.1) f3 f4 f5 V1 (Nat.ne_of_lt lt_a1_b1) g_b1 hc0) hZ (own_w hw 29 rfl) (own_w hw 24 rfl) (by decide) (by decide)) (g := (mkF m 9 #[.val (.ref a1), .val (.int (0 : Int32)), .val (.int (1 : Int32)), .val (.ref b1), .unset, .unset] [(.int (1 : Int32)), (.int (0 : Int32)), (.ref b1), (.int (0 : Int32)), (.ref a1)])) rfl (by rw [hml]; rfl) (argsL := [(.ref a1), (.int (0 : Int32)), (.ref b1), (.int (0 : Int32)), (.int (1 : Int32))]) (rest := []) (lenOf pd_1 rfl) rfl (by show 2 * 0 + _ ≤ _; exact Nat.le_of_eq rfl) (hb hby d5_9) (fun _ _ => ⟨rfl, e1, (by decide : 1 + 0 ≤ _), (by decide : 1 + 0 ≤ _)⟩))
  obtain ⟨rfl, N2q, r2_0, r2_1, r2_2, r2_3⟩ := hQ2
  have N2 := Fr.app N0 N2q
  have K2 : Keep h0 T2.heap [] := K1.trans r2_0 (allS (Or.inr sz_b1) all0)
  refine OGo.via st2 ?_
  show OGo _ _ _ _ (T2.setTop (mkF m 12 #[.val (.ref a1), .val (.int (0 : Int32)), .val (.int (1 : Int32)), .val (.ref b1), .unset, .unset] [(.int (1 : Int32))]))
  refine OGo.via (fun _ k => XS.istore X2.here hx rfl (hb hby d5_12) rfl (l' := #[.val (.ref a1), .val (.int (0 : Int32)), .val (.int (1 : Int32)), .val (.ref b1), .val (.int (1 : Int32)), .unset]) rfl (XS.iload X2.here hx rfl (hb hby d5_14) rfl (XS.iloadN X2.here hx rfl (hb hby d5_16) rfl (XS.icmpYes X2.here hx rfl (pc0 := 17) (pc' := 57) rfl (hb hby d5_17) rfl (teq (by decide : (1 : Int32) = (1 : Int32))).1 (by decide) (by decide) (XS.aloadN X2.here hx rfl (hb hby d5_57) rfl rfl k))))) ?_
  show OGo _ _ _ _ (T2.setTop (mkF m 58 #[.val (.ref a1), .val (.int (0 : Int32)), .val (.int (1 : Int32)), .val (.ref b1), .val (.int (1 : Int32)), .unset] [(.ref b1)]))
  refine own_retA X2 hx Bd.notSynchronized Bd.returns rfl rfl (hb hby d5_58) (by decide) (by decide) ?_
  show Q_rm5_1 Z _ _ _ _ _ h0 n0 _ T2.heap _
  exact ⟨b1, ka1, rfl, N2, K2, sz_b1, r2_1, r2_2, r2_3⟩
theorem d7_0 : decode jdk_52_method_15_code 0 = .ok (.iload_n 1, 1) := by decide +kernel
theorem d7_1 : decode jdk_52_method_15_code 1 = .ok (.aload_n 0, 1) := by decide +kernel
theorem d7_2 : decode jdk_52_method_15_code 2 = .ok (.arraylength, 1) := by decide +kernel
theorem d7_3 : decode jdk_52_method_15_code 3 = .ok (.isub, 1) := by decide +kernel
theorem d7_4 : decode jdk_52_method_15_code 4 = .ok (.bipush 31, 2) := by decide +kernel
theorem d7_6 : decode jdk_52_method_15_code 6 = .ok (.iushr, 1) := by decide +kernel
theorem d7_7 : decode jdk_52_method_15_code 7 = .ok (.i2b, 1) := by decide +kernel
theorem d7_8 : decode jdk_52_method_15_code 8 = .ok (.ireturn, 1) := by decide +kernel
theorem ef_rm7_1 (m : MethodId) (a1 : Addr) : entryFrame m #[(.ref a1), (.int (1 : Int32))] 2 = mkF m 0 #[.val (.ref a1), .val (.int (1 : Int32))] [] := by
  first | (simp [entryFrame, mkF, argsToLocals, Value.category]; done) | rfl
def Q_rm7_1 (Z : State) (a1 : Addr) (k1 : ClassId) (vs : List Value) (h0 : Heap) (n0 : Nat) (v : Option Value) (h : Heap) (L : List Loc) : Prop := v = some (.int (0 : Int32)) ∧ Fr n0 L ∧ h = h0
abbrev R_rm7_1 : Room := ⟨0, 0, 0, 0⟩
set_option maxRecDepth 65536 in
set_option maxHeartbeats 40000000 in
theorem rm7_1 (l : Launch) (Z : State) (a0 : Array Value) (hw : ∀ d ∈ tables_1, d.before a0 Z = true) (ws : List Jvm.Cond) (a1 : Addr) (k1 : ClassId) (vs : List Value) (h0 : Heap) (n0 : Nat) (Z0 : n0 ≤ h0.size) (V_a1 : Arv Z h0 a1 k1 .byte (1 : Int32) vs (.int (0 : Int32))) :
    MetFree l own_y9 (head1 (Jvm.Cond.code own_y9 jdk_52_method_15_code 2 (some .byte) :: ws) R_rm7_1) (fun a U => a = #[(.ref a1), (.int (1 : Int32))] ∧ Z.Warmed39 U.vm ∧ U.heap = h0) (fun _ _ _ _ _ => True) (fun _ U o U' => ∃ v L, o = .returned v ∧ Q_rm7_1 Z a1 k1 vs h0 n0 v U'.heap L ∧ FrameEnd U o U' L R_rm7_1.cells R_rm7_1.slots) := by
  refine MetFree.of_bodySF (plainFor_of_name pn_StringUTF16) hisR ?_
  intro p e s m args below meth c s₁ Bd hml0 hP hK
  obtain ⟨rfl, hZ, hh⟩ := hP
  have hx := Bd.exec
  have hby := Bd.bytes
  have hml : c.maxLocals = 2 := hml0
  have hown : s.vm.findClass "java/lang/StringUTF16" = some m.cls := findClass_of_methodNamed Bd.named
  have hnm := (name_of_methodNamed Bd.named Bd.method).1
  have X0 : Stand p l e R_rm7_1 s m #[(.ref a1), (.int (1 : Int32))] below meth c s₁ [] 0 0 := Stand.of_body Bd
  have e0 : s₁.heap = h0 := by rw [← hh, Bd.state]; rfl
  have N0 := Fr.nil n0
  show OGo p.tables e below (own_Kq s (fun v h L => Q_rm7_1 Z a1 k1 vs h0 n0 v h L) R_rm7_1.cells R_rm7_1.slots) (s₁.setTop (entryFrame m #[(.ref a1), (.int (1 : Int32))] 2))
  refine OGo.cast (ef_rm7_1 m a1) ?_
  show OGo _ _ _ _ (s₁.setTop (mkF m 0 #[.val (.ref a1), .val (.int (1 : Int32))] []))
  refine OGo.via (fun _ k => XS.iloadN X0.here hx rfl (hb hby d7_0) rfl (XS.aloadN X0.here hx rfl (hb hby d7_1) rfl rfl k)) ?_
  obtain ⟨cl1, Ar1, q1, Sz1, Ng1, Hs1, Gf1⟩ := id V_a1
  refine OGo.via (X0.arraylength hx (by rw [e0]; exact Ar1.1) (State.isArrayOf_alike hZ.alike Ar1.2.1) (g := (mkF m 2 #[.val (.ref a1), .val (.int (1 : Int32))] [(.ref a1), (.int (1 : Int32))])) rfl rfl (hb hby d7_2)) ?_
  rw [len_of Sz1 Ng1]
  show OGo _ _ _ _ (s₁.setTop (mkF m 3 #[.val (.ref a1), .val (.int (1 : Int32))] [(.int (1 : Int32)), (.int (1 : Int32))]))
  refine OGo.via (fun _ k => XS.isub X0.here hx rfl (hb hby d7_3) rfl k) ?_
  show OGo _ _ _ _ (s₁.setTop (mkF m 4 #[.val (.ref a1), .val (.int (1 : Int32))] [(.int ((1 : Int32) - (1 : Int32)))]))
  rw [show ((1 : Int32) - (1 : Int32)) = (0 : Int32) from by decide]
  refine OGo.via (fun _ k => XS.bipush X0.here hx rfl (hb hby d7_4) (XS.iushr X0.here hx rfl (hb hby d7_6) rfl k)) ?_
  show OGo _ _ _ _ (s₁.setTop (mkF m 7 #[.val (.ref a1), .val (.int (1 : Int32))] [(.int (((0 : Int32).toUInt32 >>> ((31 : Int32) &&& 31).toUInt32).toInt32))]))
  rw [show (((0 : Int32).toUInt32 >>> ((31 : Int32) &&& 31).toUInt32).toInt32) = (0 : Int32) from by decide]
  refine OGo.via (fun _ k => XS.i2b X0.here hx rfl (hb hby d7_7) rfl k) ?_
  show OGo _ _ _ _ (s₁.setTop (mkF m 8 #[.val (.ref a1), .val (.int (1 : Int32))] [(.int ((0 : Int32).toInt8.toInt32))]))
  rw [show ((0 : Int32).toInt8.toInt32) = (0 : Int32) from by decide]
  show OGo _ _ _ _ (s₁.setTop (mkF m 8 #[.val (.ref a1), .val (.int (1 : Int32))] [(.int (0 : Int32))]))
  refine own_retN (t := .byte) (by simp) X0 hx Bd.notSynchronized Bd.returns (hb hby d7_8) (by decide) (by decide) ?_
  show Q_rm7_1 Z _ _ _ h0 n0 _ s₁.heap _
  exact ⟨rfl, N0, e0⟩
theorem d3_0 : decode jdk_42_method_149_code 0 = .ok (.aload_n 0, 1) := by decide +kernel
theorem d3_1 : decode jdk_42_method_149_code 1 = .ok (.invokespecial 1, 3) := by decide +kernel
theorem d3_4 : decode jdk_42_method_149_code 4 = .ok (.iload_n 3, 1) := by decide +kernel
theorem d3_5 : decode jdk_42_method_149_code 5 = .ok (.ifCond .ne 22, 3) := by decide +kernel
theorem d3_27 : decode jdk_42_method_149_code 27 = .ok (.getstatic 38, 3) := by decide +kernel
theorem d3_30 : decode jdk_42_method_149_code 30 = .ok (.ifCond .eq 28, 3) := by decide +kernel
theorem d3_33 : decode jdk_42_method_149_code 33 = .ok (.aload_n 1, 1) := by decide +kernel
theorem d3_34 : decode jdk_42_method_149_code 34 = .ok (.iload_n 2, 1) := by decide +kernel
theorem d3_35 : decode jdk_42_method_149_code 35 = .ok (.iload_n 3, 1) := by decide +kernel
theorem d3_36 : decode jdk_42_method_149_code 36 = .ok (.invokestatic 177, 3) := by decide +kernel
theorem pd_2 : parseMethodDescriptor "([CII)[B" = some ⟨[(.array .char), .int, .int], some (.array .byte)⟩ := by decide +kernel
theorem d3_39 : decode jdk_42_method_149_code 39 = .ok (.astore 5, 2) := by decide +kernel
theorem d3_41 : decode jdk_42_method_149_code 41 = .ok (.aload_n 0, 1) := by decide +kernel
theorem d3_42 : decode jdk_42_method_149_code 42 = .ok (.aload 5, 2) := by decide +kernel
theorem d3_44 : decode jdk_42_method_149_code 44 = .ok (.iload_n 3, 1) := by decide +kernel
theorem d3_45 : decode jdk_42_method_149_code 45 = .ok (.invokestatic 47, 3) := by decide +kernel
theorem pd_3 : parseMethodDescriptor "([BI)B" = some ⟨[(.array .byte), .int], some .byte⟩ := by decide +kernel
theorem d3_48 : decode jdk_42_method_149_code 48 = .ok (.putfield 15, 3) := by decide +kernel
theorem d3_51 : decode jdk_42_method_149_code 51 = .ok (.aload_n 0, 1) := by decide +kernel
theorem d3_52 : decode jdk_42_method_149_code 52 = .ok (.aload 5, 2) := by decide +kernel
theorem d3_54 : decode jdk_42_method_149_code 54 = .ok (.putfield 9, 3) := by decide +kernel
theorem d3_57 : decode jdk_42_method_149_code 57 = .ok (.return_, 1) := by decide +kernel
theorem ef_rm3_1 (m : MethodId) (a1 : Addr) (a2 : Addr) : entryFrame m #[(.ref a1), (.ref a2), (.int (0 : Int32)), (.int (1 : Int32)), .null] 6 = mkF m 0 #[.val (.ref a1), .val (.ref a2), .val (.int (0 : Int32)), .val (.int (1 : Int32)), .val .null, .unset] [] := by
  first | (simp [entryFrame, mkF, argsToLocals, Value.category]; done) | rfl
def Q_rm3_1 (Z : State) (a1 : Addr) (a2 : Addr) (k1 : ClassId) (w : Int32) (fm : Value) (c0 : Int32) (h0 : Heap) (n0 : Nat) (v : Option Value) (h : Heap) (L : List Loc) : Prop := ∃ vb : Addr, ∃ kb : ClassId, v = none ∧ Fr n0 L ∧ Keep h0 h [a1] ∧ h0.size ≤ vb ∧ Exa Z h a1 "java/lang/String" ∧ Fld Z h a1 "java/lang/String" "value" "[B" (.ref vb) ∧ Fld Z h a1 "java/lang/String" "coder" "B" (.int (0 : Int32)) ∧ Arv Z h vb kb .byte (1 : Int32) [(.int ((c0.toInt8.toInt32).toInt8.toInt32))] (.int (0 : Int32)) ∧ Sta Z h "java/lang/String" "COMPACT_STRINGS" "Z" (.int w) ∧ Sta Z h "jdk/internal/util/Preconditions" "SIOOBE_FORMATTER" "Ljava/util/function/BiFunction;" fm
abbrev R_rm3_1 : Room := ⟨2, 1, 1, 35⟩
set_option maxRecDepth 65536 in
set_option maxHeartbeats 40000000 in
theorem rm3_1 (l : Launch) (Z : State) (a0 : Array Value) (hw : ∀ d ∈ tables_1, d.before a0 Z = true) (ws : List Jvm.Cond) (a1 : Addr) (a2 : Addr) (k1 : ClassId) (w : Int32) (fm : Value) (c0 : Int32) (h0 : Heap) (n0 : Nat) (Z0 : n0 ≤ h0.size) (E_a1 : Exa Z h0 a1 "java/lang/String") (F_value_a1 : Fld Z h0 a1 "java/lang/String" "value" "[B" .null) (F_coder_a1 : Fld Z h0 a1 "java/lang/String" "coder" "B" (.int (0 : Int32))) (V_a2 : Arv Z h0 a2 k1 .char (1 : Int32) [(.int c0)] (.int (0 : Int32))) (g_a1 : n0 ≤ a1) (S_COMPACT_STRINGS : Sta Z h0 "java/lang/String" "COMPACT_STRINGS" "Z" (.int w)) (S_SIOOBE_FORMATTER : Sta Z h0 "jdk/internal/util/Preconditions" "SIOOBE_FORMATTER" "Ljava/util/function/BiFunction;" fm) (hw0 : ¬ w = (0 : Int32)) (hc0 : ¬ (255 : Int32) < c0) :
    MetFree l own_y10 (head1 (Jvm.Cond.code own_y10 jdk_42_method_149_code 6 none :: ws) R_rm3_1) (fun a U => a = #[(.ref a1), (.ref a2), (.int (0 : Int32)), (.int (1 : Int32)), .null] ∧ Z.Warmed39 U.vm ∧ U.heap = h0) (fun _ _ _ _ _ => True) (fun _ U o U' => ∃ v L, o = .returned v ∧ Q_rm3_1 Z a1 a2 k1 w fm c0 h0 n0 v U'.heap L ∧ FrameEnd U o U' L R_rm3_1.cells R_rm3_1.slots) := by
  refine MetFree.of_bodySF (plainFor_of_name pn_String) hisR ?_
  intro p e s m args below meth c s₁ Bd hml0 hP hK
  obtain ⟨rfl, hZ, hh⟩ := hP
  have hx := Bd.exec
  have hby := Bd.bytes
  have hml : c.maxLocals = 6 := hml0
  have hown : s.vm.findClass "java/lang/String" = some m.cls := findClass_of_methodNamed Bd.named
  have hnm := (name_of_methodNamed Bd.named Bd.method).1
  have X0 : Stand p l e R_rm3_1 s m #[(.ref a1), (.ref a2), (.int (0 : Int32)), (.int (1 : Int32)), .null] below meth c s₁ [] 0 0 := Stand.of_body Bd
  have e0 : s₁.heap = h0 := by rw [← hh, Bd.state]; rfl
  have N0 := Fr.nil n0
  show OGo p.tables e below (own_Kq s (fun v h L => Q_rm3_1 Z a1 a2 k1 w fm c0 h0 n0 v h L) R_rm3_1.cells R_rm3_1.slots) (s₁.setTop (entryFrame m #[(.ref a1), (.ref a2), (.int (0 : Int32)), (.int (1 : Int32)), .null] 6))
  refine OGo.cast (ef_rm3_1 m a1 a2) ?_
  show OGo _ _ _ _ (s₁.setTop (mkF m 0 #[.val (.ref a1), .val (.ref a2), .val (.int (0 : Int32)), .val (.int (1 : Int32)), .val .null, .unset] []))
  refine OGo.via (fun _ k => XS.aloadN X0.here hx rfl (hb hby d3_0) rfl rfl k) ?_
  obtain ⟨T1, X1, e1, st1⟩ := initO X0 hx hZ hown (own_w hw 18 rfl) (own_w hw 19 rfl) (own_w hw 20 rfl) e0 (g := (mkF m 1 #[.val (.ref a1), .val (.ref a2), .val (.int (0 : Int32)), .val (.int (1 : Int32)), .val .null, .unset] [(.ref a1)])) rfl (by rw [hml]; rfl) rfl (hb hby d3_1) (by decide) (W := 0) (by show 2 * 0 + _ ≤ _; exact Nat.le_of_eq rfl) (by decide)
  refine OGo.via st1 ?_
  show OGo _ _ _ _ (T1.setTop (mkF m 4 #[.val (.ref a1), .val (.ref a2), .val (.int (0 : Int32)), .val (.int (1 : Int32)), .val .null, .unset] []))
  refine OGo.via (fun _ k => XS.iloadN X1.here hx rfl (hb hby d3_4) rfl (XS.ifYes X1.here hx rfl (pc0 := 5) (pc' := 27) rfl (hb hby d3_5) rfl ((if0 _ _).trans (feq (by decide : ¬ ((1 : Int32) = (0 : Int32)))).2) (by decide) (by decide) k)) ?_
  obtain ⟨T2, X2, e2, st2⟩ := getS2 X1 hx hZ hown (host := "") (Or.inl (own_w hw 21 rfl)) Via.refl e1 S_COMPACT_STRINGS (g := (mkF m 27 #[.val (.ref a1), .val (.ref a2), .val (.int (0 : Int32)), .val (.int (1 : Int32)), .val .null, .unset] [])) rfl (hb hby d3_27)
  refine OGo.via st2 ?_
  show OGo _ _ _ _ (T2.setTop (mkF m 30 #[.val (.ref a1), .val (.ref a2), .val (.int (0 : Int32)), .val (.int (1 : Int32)), .val .null, .unset] [(.int w)]))
  refine OGo.via (fun _ k => XS.ifNo X2.here hx rfl (hb hby d3_30) rfl ((if0 _ _).trans (feq hw0).1) (XS.aloadN X2.here hx rfl (hb hby d3_33) rfl rfl (XS.iloadN X2.here hx rfl (hb hby d3_34) rfl (XS.iloadN X2.here hx rfl (hb hby d3_35) rfl k)))) ?_
  obtain ⟨_, T3, Lc3, X3, hQ3, st3⟩ := own_open X2 (Jvm.LawKit.callS X2 hx (y := own_y8) hown (mvT hZ (own_w hw 22 rfl)) (mvT hZ (own_w hw 23 rfl)) (mvT hZ (own_w hw 24 rfl)) (mvT hZ (own_w hw 25 rfl)) (by decide) (backOf (W := 0) (rm5_1 l Z a0 hw [] a2 k1 w fm c0 h0 n0 Z0 V_a2 S_COMPACT_STRINGS S_SIOOBE_FORMATTER hc0) hZ (own_w hw 25 rfl) (own_w hw 24 rfl) (by decide) (by decide)) (g := (mkF m 36 #[.val (.ref a1), .val (.ref a2), .val (.int (0 : Int32)), .val (.int (1 : Int32)), .val .null, .unset] [(.int (1 : Int32)), (.int (0 : Int32)), (.ref a2)])) rfl (by rw [hml]; rfl) (argsL := [(.ref a2), (.int (0 : Int32)), (.int (1 : Int32))]) (rest := []) (lenOf pd_2 rfl) rfl (by show 2 * 0 + _ ≤ _; exact Nat.le_of_eq rfl) (hb hby d3_36) (fun _ _ => ⟨rfl, e2, (by decide : 0 + 1 ≤ _), (by decide : 0 + 1 ≤ _)⟩))
  obtain ⟨vb, kb, rfl, N3q, r3_0, r3_1, r3_2, r3_3, r3_4⟩ := hQ3
  have N3 := Fr.app N0 N3q
  have K3 : Keep h0 T3.heap [a1] := (Keep.refl h0 [a1]).trans r3_0 all0
  have lt_a1_vb : a1 < vb := Nat.lt_of_lt_of_le E_a1.lt r3_1
  have lt_a2_vb : a2 < vb := Nat.lt_of_lt_of_le V_a2.lt r3_1
  have sz_vb : h0.size ≤ vb := Nat.le_trans (Keep.refl h0 [a1]).1 r3_1
  have g_vb : n0 ≤ vb := Nat.le_trans Z0 sz_vb
  refine OGo.via st3 ?_
  show OGo _ _ _ _ (T3.setTop (mkF m 39 #[.val (.ref a1), .val (.ref a2), .val (.int (0 : Int32)), .val (.int (1 : Int32)), .val .null, .unset] [(.ref vb)]))
  refine OGo.via (fun _ k => XS.astore X3.here hx rfl (hb hby d3_39) rfl rfl (l' := #[.val (.ref a1), .val (.ref a2), .val (.int (0 : Int32)), .val (.int (1 : Int32)), .val .null, .val (.ref vb)]) rfl (XS.aloadN X3.here hx rfl (hb hby d3_41) rfl rfl (XS.aload X3.here hx rfl (hb hby d3_42) rfl rfl (XS.iloadN X3.here hx rfl (hb hby d3_44) rfl k)))) ?_
  obtain ⟨_, T4, Lc4, X4, hQ4, st4⟩ := own_open X3 (Jvm.LawKit.callS X3 hx (y := own_y9) hown (mvT hZ (own_w hw 30 rfl)) (mvT hZ (own_w hw 31 rfl)) (mvT hZ (own_w hw 24 rfl)) (mvT hZ (own_w hw 32 rfl)) (by decide) (backOf (W := 1) (rm7_1 l Z a0 hw [] vb kb [(.int ((c0.toInt8.toInt32).toInt8.toInt32))] T3.heap n0 (Nat.le_trans Z0 K3.1) r3_2) hZ (own_w hw 32 rfl) (own_w hw 24 rfl) (by decide) (by decide)) (g := (mkF m 45 #[.val (.ref a1), .val (.ref a2), .val (.int (0 : Int32)), .val (.int (1 : Int32)), .val .null, .val (.ref vb)] [(.int (1 : Int32)), (.ref vb), (.ref a1)])) rfl (by rw [hml]; rfl) (argsL := [(.ref vb), (.int (1 : Int32))]) (rest := [(.ref a1)]) (lenOf pd_3 rfl) rfl (by show 2 * 0 + _ ≤ _; exact Nat.le_of_eq rfl) (hb hby d3_45) (fun _ _ => ⟨rfl, rfl, (by decide : 1 + 0 ≤ _), (by decide : 1 + 0 ≤ _)⟩))
  obtain ⟨rfl, N4q, r4_0⟩ := hQ4
  have N4 := Fr.app N3 N4q
  refine OGo.via st4 ?_
  show OGo _ _ _ _ (T4.setTop (mkF m 48 #[.val (.ref a1), .val (.ref a2), .val (.int (0 : Int32)), .val (.int (1 : Int32)), .val .null, .val (.ref vb)] [(.int (0 : Int32)), (.ref a1)]))
  have f6 := F_coder_a1.keep r3_0 nin0
  have f7 := E_a1.keep r3_0
  obtain ⟨T5, h5, X5, e5, W5, st5⟩ := putFN X4 hx hZ hown (own_w hw 33 rfl) Via.refl r4_0 f6 f7 (Or.inr ⟨(own_w hw 34 rfl), rfl, hnm⟩) (own_w hw 9 rfl) (ty := .byte) (v' := (.int (0 : Int32))) (by decide) rfl (by decide) (g := (mkF m 48 #[.val (.ref a1), .val (.ref a2), .val (.int (0 : Int32)), .val (.int (1 : Int32)), .val .null, .val (.ref vb)] [(.int (0 : Int32)), (.ref a1)])) rfl rfl (hb hby d3_48)
  refine OGo.via st5 ?_
  have Fw5 := f6.same W5
  have K5 : Keep h0 h5 [a1] := K3.wr W5 (Or.inl (List.mem_of_getElem? (i := 0) rfl))
  have N5 := Fr.snoc X5 N4 g_a1
  show OGo _ _ _ _ (T5.setTop (mkF m 51 #[.val (.ref a1), .val (.ref a2), .val (.int (0 : Int32)), .val (.int (1 : Int32)), .val .null, .val (.ref vb)] []))
  refine OGo.via (fun _ k => XS.aloadN X5.here hx rfl (hb hby d3_51) rfl rfl (XS.aload X5.here hx rfl (hb hby d3_52) rfl rfl k)) ?_
  have f9 := F_value_a1.keep r3_0 nin0
  have f10 := f9.other W5 (Or.inr (slot_ne (Or.inr (own_w hw 36 rfl)) (Or.inr (own_w hw 34 rfl)) (by decide) (t := (.array .byte)) (t' := .byte) (by decide) (by decide)))
  have f11 := f7.wr W5
  obtain ⟨T8, h8, X8, e8, W8, st8⟩ := putF X5 hx hZ hown (host := "") (Or.inl (own_w hw 35 rfl)) Via.refl e5 f10 f11 (Or.inr ⟨(own_w hw 36 rfl), rfl, hnm⟩) (own_w hw 9 rfl) (ty := (.array .byte)) (by decide) rfl rfl (g := (mkF m 54 #[.val (.ref a1), .val (.ref a2), .val (.int (0 : Int32)), .val (.int (1 : Int32)), .val .null, .val (.ref vb)] [(.ref vb), (.ref a1)])) rfl rfl (hb hby d3_54)
  refine OGo.via st8 ?_
  have Fw8 := f10.same W8
  have K8 : Keep h0 h8 [a1] := K5.wr W8 (Or.inl (List.mem_of_getElem? (i := 0) rfl))
  have N8 := Fr.snoc X8 N5 g_a1
  show OGo _ _ _ _ (T8.setTop (mkF m 57 #[.val (.ref a1), .val (.ref a2), .val (.int (0 : Int32)), .val (.int (1 : Int32)), .val .null, .val (.ref vb)] []))
  show OGo _ _ _ _ (T8.setTop (mkF m 57 #[.val (.ref a1), .val (.ref a2), .val (.int (0 : Int32)), .val (.int (1 : Int32)), .val .null, .val (.ref vb)] []))
  have f12 := f11.wr W8
  have f13 := Fw5.other W8 (Or.inr (slot_ne (Or.inr (own_w hw 34 rfl)) (Or.inr (own_w hw 36 rfl)) (by decide) (t := .byte) (t' := (.array .byte)) (by decide) (by decide)))
  have f14 := r3_2.other W5 (Nat.ne_of_gt lt_a1_vb)
  have f15 := f14.other W8 (Nat.ne_of_gt lt_a1_vb)
  have f16 := r3_3.wr W5
  have f17 := f16.wr W8
  have f18 := r3_4.wr W5
  have f19 := f18.wr W8
  refine own_retV X8 hx Bd.notSynchronized Bd.returns (hb hby d3_57) (by decide) (by decide) ?_
  show Q_rm3_1 Z _ _ _ _ _ _ h0 n0 _ T8.heap _
  rw [e8]
  exact ⟨vb, kb, rfl, N8, K8, sz_vb, f12, Fw8, f13, f15, f17, f19⟩
theorem d2_0 : decode jdk_42_method_3_code 0 = .ok (.aload_n 0, 1) := by decide +kernel
theorem d2_1 : decode jdk_42_method_3_code 1 = .ok (.aload_n 1, 1) := by decide +kernel
theorem d2_2 : decode jdk_42_method_3_code 2 = .ok (.iconst 0, 1) := by decide +kernel
theorem d2_3 : decode jdk_42_method_3_code 3 = .ok (.aload_n 1, 1) := by decide +kernel
theorem d2_4 : decode jdk_42_method_3_code 4 = .ok (.arraylength, 1) := by decide +kernel
theorem d2_5 : decode jdk_42_method_3_code 5 = .ok (.aconst_null, 1) := by decide +kernel
theorem d2_6 : decode jdk_42_method_3_code 6 = .ok (.invokespecial 27, 3) := by decide +kernel
theorem pd_4 : parseMethodDescriptor "([CIILjava/lang/Void;)V" = some ⟨[(.array .char), .int, .int, (.object "java/lang/Void")], none⟩ := by decide +kernel
theorem d2_9 : decode jdk_42_method_3_code 9 = .ok (.return_, 1) := by decide +kernel
theorem ef_rm2_1 (m : MethodId) (a1 : Addr) (a2 : Addr) : entryFrame m #[(.ref a1), (.ref a2)] 2 = mkF m 0 #[.val (.ref a1), .val (.ref a2)] [] := by
  first | (simp [entryFrame, mkF, argsToLocals, Value.category]; done) | rfl
def Q_rm2_1 (Z : State) (a1 : Addr) (a2 : Addr) (k1 : ClassId) (w : Int32) (fm : Value) (c0 : Int32) (h0 : Heap) (n0 : Nat) (v : Option Value) (h : Heap) (L : List Loc) : Prop := ∃ vb : Addr, ∃ kb : ClassId, v = none ∧ Fr n0 L ∧ Keep h0 h [a1] ∧ h0.size ≤ vb ∧ Exa Z h a1 "java/lang/String" ∧ Fld Z h a1 "java/lang/String" "value" "[B" (.ref vb) ∧ Fld Z h a1 "java/lang/String" "coder" "B" (.int (0 : Int32)) ∧ Arv Z h vb kb .byte (1 : Int32) [(.int ((c0.toInt8.toInt32).toInt8.toInt32))] (.int (0 : Int32)) ∧ Sta Z h "java/lang/String" "COMPACT_STRINGS" "Z" (.int w) ∧ Sta Z h "jdk/internal/util/Preconditions" "SIOOBE_FORMATTER" "Ljava/util/function/BiFunction;" fm
abbrev R_rm2_1 : Room := ⟨3, 1, 1, 52⟩
set_option maxRecDepth 65536 in
set_option maxHeartbeats 40000000 in
theorem rm2_1 (l : Launch) (Z : State) (a0 : Array Value) (hw : ∀ d ∈ tables_1, d.before a0 Z = true) (ws : List Jvm.Cond) (a1 : Addr) (a2 : Addr) (k1 : ClassId) (w : Int32) (fm : Value) (c0 : Int32) (h0 : Heap) (n0 : Nat) (Z0 : n0 ≤ h0.size) (E_a1 : Exa Z h0 a1 "java/lang/String") (F_value_a1 : Fld Z h0 a1 "java/lang/String" "value" "[B" .null) (F_coder_a1 : Fld Z h0 a1 "java/lang/String" "coder" "B" (.int (0 : Int32))) (V_a2 : Arv Z h0 a2 k1 .char (1 : Int32) [(.int c0)] (.int (0 : Int32))) (g_a1 : n0 ≤ a1) (S_COMPACT_STRINGS : Sta Z h0 "java/lang/String" "COMPACT_STRINGS" "Z" (.int w)) (S_SIOOBE_FORMATTER : Sta Z h0 "jdk/internal/util/Preconditions" "SIOOBE_FORMATTER" "Ljava/util/function/BiFunction;" fm) (hw0 : ¬ w = (0 : Int32)) (hc0 : ¬ (255 : Int32) < c0) :
    MetFree l own_y11 (head1 (Jvm.Cond.code own_y11 jdk_42_method_3_code 2 none :: ws) R_rm2_1) (fun a U => a = #[(.ref a1), (.ref a2)] ∧ Z.Warmed39 U.vm ∧ U.heap = h0) (fun _ _ _ _ _ => True) (fun _ U o U' => ∃ v L, o = .returned v ∧ Q_rm2_1 Z a1 a2 k1 w fm c0 h0 n0 v U'.heap L ∧ FrameEnd U o U' L R_rm2_1.cells R_rm2_1.slots) := by
  refine MetFree.of_bodySF (plainFor_of_name pn_String) hisR ?_
  intro p e s m args below meth c s₁ Bd hml0 hP hK
  obtain ⟨rfl, hZ, hh⟩ := hP
  have hx := Bd.exec
  have hby := Bd.bytes
  have hml : c.maxLocals = 2 := hml0
  have hown : s.vm.findClass "java/lang/String" = some m.cls := findClass_of_methodNamed Bd.named
  have hnm := (name_of_methodNamed Bd.named Bd.method).1
  have X0 : Stand p l e R_rm2_1 s m #[(.ref a1), (.ref a2)] below meth c s₁ [] 0 0 := Stand.of_body Bd
  have e0 : s₁.heap = h0 := by rw [← hh, Bd.state]; rfl
  have N0 := Fr.nil n0
  show OGo p.tables e below (own_Kq s (fun v h L => Q_rm2_1 Z a1 a2 k1 w fm c0 h0 n0 v h L) R_rm2_1.cells R_rm2_1.slots) (s₁.setTop (entryFrame m #[(.ref a1), (.ref a2)] 2))
  refine OGo.cast (ef_rm2_1 m a1 a2) ?_
  show OGo _ _ _ _ (s₁.setTop (mkF m 0 #[.val (.ref a1), .val (.ref a2)] []))
  refine OGo.via (fun _ k => XS.aloadN X0.here hx rfl (hb hby d2_0) rfl rfl (XS.aloadN X0.here hx rfl (hb hby d2_1) rfl rfl (XS.iconst X0.here hx rfl (hb hby d2_2) (XS.aloadN X0.here hx rfl (hb hby d2_3) rfl rfl k)))) ?_
  obtain ⟨cl1, Ar1, q1, Sz1, Ng1, Hs1, Gf1⟩ := id V_a2
  refine OGo.via (X0.arraylength hx (by rw [e0]; exact Ar1.1) (State.isArrayOf_alike hZ.alike Ar1.2.1) (g := (mkF m 4 #[.val (.ref a1), .val (.ref a2)] [(.ref a2), (.int (0 : Int32)), (.ref a2), (.ref a1)])) rfl rfl (hb hby d2_4)) ?_
  rw [len_of Sz1 Ng1]
  show OGo _ _ _ _ (s₁.setTop (mkF m 5 #[.val (.ref a1), .val (.ref a2)] [(.int (1 : Int32)), (.int (0 : Int32)), (.ref a2), (.ref a1)]))
  refine OGo.via (fun _ k => XS.aconstNull X0.here hx rfl (hb hby d2_5) k) ?_
  obtain ⟨_, T2, Lc2, X2, hQ2, st2⟩ := own_open X0 (X0.specialBack hx (y := own_y10) rfl hown (mvT hZ (own_w hw 14 rfl)) (mvT hZ (own_w hw 15 rfl)) (mvT hZ (own_w hw 17 rfl)) (by decide) (backOf (W := 0) (rm3_1 l Z a0 hw [] a1 a2 k1 w fm c0 h0 n0 Z0 E_a1 F_value_a1 F_coder_a1 V_a2 g_a1 S_COMPACT_STRINGS S_SIOOBE_FORMATTER hw0 hc0) hZ (own_w hw 17 rfl) (own_w hw 10 rfl) (by decide) (by decide)) (g := (mkF m 6 #[.val (.ref a1), .val (.ref a2)] [.null, (.int (1 : Int32)), (.int (0 : Int32)), (.ref a2), (.ref a1)])) rfl (by rw [hml]; rfl) (Steps.refl _) (a := a1) (argsL := [(.ref a2), (.int (0 : Int32)), (.int (1 : Int32)), .null]) (rest := []) (lenOf pd_4 rfl) rfl (by show 2 * 0 + _ ≤ _; exact Nat.le_of_eq rfl) (hb hby d2_6) (fun _ _ => ⟨rfl, e0, (by decide : 0 + 1 ≤ _), (by decide : 0 + 1 ≤ _)⟩))
  obtain ⟨vb, kb, rfl, N2q, r2_0, r2_1, r2_2, r2_3, r2_4, r2_5, r2_6, r2_7⟩ := hQ2
  have N2 := Fr.app N0 N2q
  have K2 : Keep h0 T2.heap [a1] := (Keep.refl h0 [a1]).trans r2_0 (allS (Or.inl (List.mem_of_getElem? (i := 0) rfl)) all0)
  have lt_a1_vb : a1 < vb := Nat.lt_of_lt_of_le E_a1.lt r2_1
  have lt_a2_vb : a2 < vb := Nat.lt_of_lt_of_le V_a2.lt r2_1
  have sz_vb : h0.size ≤ vb := Nat.le_trans (Keep.refl h0 [a1]).1 r2_1
  have g_vb : n0 ≤ vb := Nat.le_trans Z0 sz_vb
  refine OGo.via (fun _ k => st2.trans k) ?_
  show OGo _ _ _ _ (T2.setTop (mkF m 9 #[.val (.ref a1), .val (.ref a2)] []))
  show OGo _ _ _ _ (T2.setTop (mkF m 9 #[.val (.ref a1), .val (.ref a2)] []))
  refine own_retV X2 hx Bd.notSynchronized Bd.returns (hb hby d2_9) (by decide) (by decide) ?_
  show Q_rm2_1 Z _ _ _ _ _ _ h0 n0 _ T2.heap _
  exact ⟨vb, kb, rfl, N2, K2, sz_vb, r2_2, r2_3, r2_4, r2_5, r2_6, r2_7⟩
theorem ef_rm6_2 (m : MethodId) (a1 : Addr) (a3 : Addr) : entryFrame m #[(.ref a1), (.int (0 : Int32)), (.ref a3), (.int (0 : Int32)), (.int (2 : Int32))] 7 = mkF m 0 #[.val (.ref a1), .val (.int (0 : Int32)), .val (.ref a3), .val (.int (0 : Int32)), .val (.int (2 : Int32)), .unset, .unset] [] := by
  first | (simp [entryFrame, mkF, argsToLocals, Value.category]; done) | rfl
def Q_rm6_2 (Z : State) (a1 : Addr) (a3 : Addr) (k1 : ClassId) (k3 : ClassId) (c0 : Int32) (c1 : Int32) (w : Int32) (fm : Value) (h0 : Heap) (n0 : Nat) (v : Option Value) (h : Heap) (L : List Loc) : Prop := v = some (.int (2 : Int32)) ∧ Fr n0 L ∧ Keep h0 h [a3] ∧ Arv Z h a3 k3 .byte (2 : Int32) [(.int ((c0.toInt8.toInt32).toInt8.toInt32)), (.int ((c1.toInt8.toInt32).toInt8.toInt32))] (.int (0 : Int32)) ∧ Sta Z h "java/lang/String" "COMPACT_STRINGS" "Z" (.int w) ∧ Sta Z h "jdk/internal/util/Preconditions" "SIOOBE_FORMATTER" "Ljava/util/function/BiFunction;" fm
abbrev R_rm6_2 : Room := ⟨0, 0, 0, 0⟩
set_option maxRecDepth 65536 in
set_option maxHeartbeats 40000000 in
theorem rm6_2 (l : Launch) (Z : State) (a0 : Array Value) (hw : ∀ d ∈ tables_1, d.before a0 Z = true) (ws : List Jvm.Cond) (a1 : Addr) (a3 : Addr) (k1 : ClassId) (k3 : ClassId) (c0 : Int32) (c1 : Int32) (w : Int32) (fm : Value) (h0 : Heap) (n0 : Nat) (Z0 : n0 ≤ h0.size) (S_COMPACT_STRINGS : Sta Z h0 "java/lang/String" "COMPACT_STRINGS" "Z" (.int w)) (S_SIOOBE_FORMATTER : Sta Z h0 "jdk/internal/util/Preconditions" "SIOOBE_FORMATTER" "Ljava/util/function/BiFunction;" fm) (V_a1 : Arv Z h0 a1 k1 .char (2 : Int32) [(.int c0), (.int c1)] (.int (0 : Int32))) (V_a3 : Arv Z h0 a3 k3 .byte (2 : Int32) [(.int (0 : Int32)), (.int (0 : Int32))] (.int (0 : Int32))) (ne_a1_a3 : a1 ≠ a3) (g_a3 : n0 ≤ a3) (hc0 : ¬ (255 : Int32) < c0) (hc1 : ¬ (255 : Int32) < c1) :
    MetFree l own_y7 (head1 (Jvm.Cond.code own_y7 jdk_52_method_21_code 7 (some .int) :: ws) R_rm6_2) (fun a U => a = #[(.ref a1), (.int (0 : Int32)), (.ref a3), (.int (0 : Int32)), (.int (2 : Int32))] ∧ Z.Warmed39 U.vm ∧ U.heap = h0) (fun _ _ _ _ _ => True) (fun _ U o U' => ∃ v L, o = .returned v ∧ Q_rm6_2 Z a1 a3 k1 k3 c0 c1 w fm h0 n0 v U'.heap L ∧ FrameEnd U o U' L R_rm6_2.cells R_rm6_2.slots) := by
  refine MetFree.of_bodySF (plainFor_of_name pn_StringUTF16) hisR ?_
  intro p e s m args below meth c s₁ Bd hml0 hP hK
  obtain ⟨rfl, hZ, hh⟩ := hP
  have hx := Bd.exec
  have hby := Bd.bytes
  have hml : c.maxLocals = 7 := hml0
  have hown : s.vm.findClass "java/lang/StringUTF16" = some m.cls := findClass_of_methodNamed Bd.named
  have hnm := (name_of_methodNamed Bd.named Bd.method).1
  have X0 : Stand p l e R_rm6_2 s m #[(.ref a1), (.int (0 : Int32)), (.ref a3), (.int (0 : Int32)), (.int (2 : Int32))] below meth c s₁ [] 0 0 := Stand.of_body Bd
  have e0 : s₁.heap = h0 := by rw [← hh, Bd.state]; rfl
  have N0 := Fr.nil n0
  show OGo p.tables e below (own_Kq s (fun v h L => Q_rm6_2 Z a1 a3 k1 k3 c0 c1 w fm h0 n0 v h L) R_rm6_2.cells R_rm6_2.slots) (s₁.setTop (entryFrame m #[(.ref a1), (.int (0 : Int32)), (.ref a3), (.int (0 : Int32)), (.int (2 : Int32))] 7))
  refine OGo.cast (ef_rm6_2 m a1 a3) ?_
  show OGo _ _ _ _ (s₁.setTop (mkF m 0 #[.val (.ref a1), .val (.int (0 : Int32)), .val (.ref a3), .val (.int (0 : Int32)), .val (.int (2 : Int32)), .unset, .unset] []))
  refine OGo.via (fun _ k => XS.iconst X0.here hx rfl (hb hby d6_0) (XS.istore X0.here hx rfl (hb hby d6_1) rfl (l' := #[.val (.ref a1), .val (.int (0 : Int32)), .val (.ref a3), .val (.int (0 : Int32)), .val (.int (2 : Int32)), .val (.int (0 : Int32)), .unset]) rfl (XS.iload X0.here hx rfl (hb hby d6_3) rfl (XS.iload X0.here hx rfl (hb hby d6_5) rfl (XS.icmpNo X0.here hx rfl (hb hby d6_7) rfl (tlt (by decide : (0 : Int32) < (2 : Int32))).2.1 (XS.aloadN X0.here hx rfl (hb hby d6_10) rfl rfl (XS.iloadN X0.here hx rfl (hb hby d6_11) rfl k))))))) ?_
  obtain ⟨cl1, Ar1, q1, Sz1, Ng1, Hs1, Gf1⟩ := id V_a1
  have hin1 : ¬ ((0 : Int32) < 0 ∨ cl1.slots.size ≤ ((0 : Int32)).toNatClampNeg) := inb_of Sz1 ⟨by decide, by decide⟩
  have hat1 : cl1.slots[((0 : Int32)).toNatClampNeg]? = some (.int c0) := Hs1.at hin1 rfl
  refine OGo.via (X0.caload hx (j := (0 : Int32)) (v := (.int c0)) (by rw [e0]; exact Ar1.1) (State.isArrayOf_alike hZ.alike Ar1.2.1) Ar1.2.2 hin1 hat1 (g := (mkF m 12 #[.val (.ref a1), .val (.int (0 : Int32)), .val (.ref a3), .val (.int (0 : Int32)), .val (.int (2 : Int32)), .val (.int (0 : Int32)), .unset] [(.int (0 : Int32)), (.ref a1)])) rfl rfl (hb hby d6_12)) ?_
  show OGo _ _ _ _ (s₁.setTop (mkF m 13 #[.val (.ref a1), .val (.int (0 : Int32)), .val (.ref a3), .val (.int (0 : Int32)), .val (.int (2 : Int32)), .val (.int (0 : Int32)), .unset] [(.int c0)]))
  refine OGo.via (fun _ k => XS.istore X0.here hx rfl (hb hby d6_13) rfl (l' := #[.val (.ref a1), .val (.int (0 : Int32)), .val (.ref a3), .val (.int (0 : Int32)), .val (.int (2 : Int32)), .val (.int (0 : Int32)), .val (.int c0)]) rfl (XS.iload X0.here hx rfl (hb hby d6_15) rfl (XS.sipush X0.here hx rfl (hb hby d6_17) (XS.icmpYes X0.here hx rfl (pc0 := 20) (pc' := 26) rfl (hb hby d6_20) rfl (flt hc0).2.2.2 (by decide) (by decide) (XS.aloadN X0.here hx rfl (hb hby d6_26) rfl rfl (XS.iloadN X0.here hx rfl (hb hby d6_27) rfl (XS.iload X0.here hx rfl (hb hby d6_28) rfl (XS.i2b X0.here hx rfl (hb hby d6_30) rfl k)))))))) ?_
  show OGo _ _ _ _ (s₁.setTop (mkF m 31 #[.val (.ref a1), .val (.int (0 : Int32)), .val (.ref a3), .val (.int (0 : Int32)), .val (.int (2 : Int32)), .val (.int (0 : Int32)), .val (.int c0)] [(.int (c0.toInt8.toInt32)), (.int (0 : Int32)), (.ref a3)]))
  obtain ⟨cl2, Ar2, q2, Sz2, Ng2, Hs2, Gf2⟩ := id V_a3
  have hin2 : ¬ ((0 : Int32) < 0 ∨ cl2.slots.size ≤ ((0 : Int32)).toNatClampNeg) := inb_of Sz2 ⟨by decide, by decide⟩
  obtain ⟨T2, h2, X2, e2, W2, st2⟩ := stB X0 hx hZ e0 Ar2 (j := (0 : Int32)) hin2 (g := (mkF m 31 #[.val (.ref a1), .val (.int (0 : Int32)), .val (.ref a3), .val (.int (0 : Int32)), .val (.int (2 : Int32)), .val (.int (0 : Int32)), .val (.int c0)] [(.int (c0.toInt8.toInt32)), (.int (0 : Int32)), (.ref a3)])) rfl rfl (hb hby d6_31)
  refine OGo.via st2 ?_
  have V2 : Arv Z h2 a3 k3 .byte (2 : Int32) [(.int ((c0.toInt8.toInt32).toInt8.toInt32)), (.int (0 : Int32))] (.int (0 : Int32)) := Arv.set Ar2 q2 Sz2 Ng2 Hs2 Gf2 (fits_nar_byte _) W2 0 rfl (Nat.le_of_ble_eq_true rfl)
  have K2 : Keep h0 h2 [a3] := (Keep.refl h0 [a3]).wr W2 (Or.inl (List.mem_of_getElem? (i := 0) rfl))
  have N2 := Fr.snoc X2 N0 g_a3
  show OGo _ _ _ _ (T2.setTop (mkF m 32 #[.val (.ref a1), .val (.int (0 : Int32)), .val (.ref a3), .val (.int (0 : Int32)), .val (.int (2 : Int32)), .val (.int (0 : Int32)), .val (.int c0)] []))
  refine OGo.via (fun _ k => XS.iinc X2.here hx rfl (hb hby d6_32) rfl (l' := #[.val (.ref a1), .val (.int ((0 : Int32) + (1 : Int32))), .val (.ref a3), .val (.int (0 : Int32)), .val (.int (2 : Int32)), .val (.int (0 : Int32)), .val (.int c0)]) rfl k) ?_
  show OGo _ _ _ _ (T2.setTop (mkF m 35 #[.val (.ref a1), .val (.int ((0 : Int32) + (1 : Int32))), .val (.ref a3), .val (.int (0 : Int32)), .val (.int (2 : Int32)), .val (.int (0 : Int32)), .val (.int c0)] []))
  rw [show ((0 : Int32) + (1 : Int32)) = (1 : Int32) from by decide]
  refine OGo.via (fun _ k => XS.iinc X2.here hx rfl (hb hby d6_35) rfl (l' := #[.val (.ref a1), .val (.int (1 : Int32)), .val (.ref a3), .val (.int ((0 : Int32) + (1 : Int32))), .val (.int (2 : Int32)), .val (.int (0 : Int32)), .val (.int c0)]) rfl k) ?_
  show OGo _ _ _ _ (T2.setTop (mkF m 38 #[.val (.ref a1), .val (.int (1 : Int32)), .val (.ref a3), .val (.int ((0 : Int32) + (1 : Int32))), .val (.int (2 : Int32)), .val (.int (0 : Int32)), .val (.int c0)] []))
  rw [show ((0 : Int32) + (1 : Int32)) = (1 : Int32) from by decide]
  refine OGo.via (fun _ k => XS.iinc X2.here hx rfl (hb hby d6_38) rfl (l' := #[.val (.ref a1), .val (.int (1 : Int32)), .val (.ref a3), .val (.int (1 : Int32)), .val (.int (2 : Int32)), .val (.int ((0 : Int32) + (1 : Int32))), .val (.int c0)]) rfl k) ?_
  show OGo _ _ _ _ (T2.setTop (mkF m 41 #[.val (.ref a1), .val (.int (1 : Int32)), .val (.ref a3), .val (.int (1 : Int32)), .val (.int (2 : Int32)), .val (.int ((0 : Int32) + (1 : Int32))), .val (.int c0)] []))
  rw [show ((0 : Int32) + (1 : Int32)) = (1 : Int32) from by decide]
  refine OGo.via (fun _ k => XS.goto X2.here hx rfl (pc0 := 41) (pc' := 3) rfl (hb hby d6_41) (by decide) (by decide) (XS.iload X2.here hx rfl (hb hby d6_3) rfl (XS.iload X2.here hx rfl (hb hby d6_5) rfl (XS.icmpNo X2.here hx rfl (hb hby d6_7) rfl (tlt (by decide : (1 : Int32) < (2 : Int32))).2.1 (XS.aloadN X2.here hx rfl (hb hby d6_10) rfl rfl (XS.iloadN X2.here hx rfl (hb hby d6_11) rfl k)))))) ?_
  have f7 := V_a1.other W2 ne_a1_a3
  obtain ⟨cl6, Ar6, q6, Sz6, Ng6, Hs6, Gf6⟩ := id f7
  have hin6 : ¬ ((1 : Int32) < 0 ∨ cl6.slots.size ≤ ((1 : Int32)).toNatClampNeg) := inb_of Sz6 ⟨by decide, by decide⟩
  have hat6 : cl6.slots[((1 : Int32)).toNatClampNeg]? = some (.int c1) := Hs6.at hin6 rfl
  refine OGo.via (X2.caload hx (j := (1 : Int32)) (v := (.int c1)) (by rw [e2]; exact Ar6.1) (State.isArrayOf_alike hZ.alike Ar6.2.1) Ar6.2.2 hin6 hat6 (g := (mkF m 12 #[.val (.ref a1), .val (.int (1 : Int32)), .val (.ref a3), .val (.int (1 : Int32)), .val (.int (2 : Int32)), .val (.int (1 : Int32)), .val (.int c0)] [(.int (1 : Int32)), (.ref a1)])) rfl rfl (hb hby d6_12)) ?_
  show OGo _ _ _ _ (T2.setTop (mkF m 13 #[.val (.ref a1), .val (.int (1 : Int32)), .val (.ref a3), .val (.int (1 : Int32)), .val (.int (2 : Int32)), .val (.int (1 : Int32)), .val (.int c0)] [(.int c1)]))
  refine OGo.via (fun _ k => XS.istore X2.here hx rfl (hb hby d6_13) rfl (l' := #[.val (.ref a1), .val (.int (1 : Int32)), .val (.ref a3), .val (.int (1 : Int32)), .val (.int (2 : Int32)), .val (.int (1 : Int32)), .val (.int c1)]) rfl (XS.iload X2.here hx rfl (hb hby d6_15) rfl (XS.sipush X2.here hx rfl (hb hby d6_17) (XS.icmpYes X2.here hx rfl (pc0 := 20) (pc' := 26) rfl (hb hby d6_20) rfl (flt hc1).2.2.2 (by decide) (by decide) (XS.aloadN X2.here hx rfl (hb hby d6_26) rfl rfl (XS.iloadN X2.here hx rfl (hb hby d6_27) rfl (XS.iload X2.here hx rfl (hb hby d6_28) rfl (XS.i2b X2.here hx rfl (hb hby d6_30) rfl k)))))))) ?_
  show OGo _ _ _ _ (T2.setTop (mkF m 31 #[.val (.ref a1), .val (.int (1 : Int32)), .val (.ref a3), .val (.int (1 : Int32)), .val (.int (2 : Int32)), .val (.int (1 : Int32)), .val (.int c1)] [(.int (c1.toInt8.toInt32)), (.int (1 : Int32)), (.ref a3)]))
  obtain ⟨cl8, Ar8, q8, Sz8, Ng8, Hs8, Gf8⟩ := id V2
  have hin8 : ¬ ((1 : Int32) < 0 ∨ cl8.slots.size ≤ ((1 : Int32)).toNatClampNeg) := inb_of Sz8 ⟨by decide, by decide⟩
  obtain ⟨T8, h8, X8, e8, W8, st8⟩ := stB X2 hx hZ e2 Ar8 (j := (1 : Int32)) hin8 (g := (mkF m 31 #[.val (.ref a1), .val (.int (1 : Int32)), .val (.ref a3), .val (.int (1 : Int32)), .val (.int (2 : Int32)), .val (.int (1 : Int32)), .val (.int c1)] [(.int (c1.toInt8.toInt32)), (.int (1 : Int32)), (.ref a3)])) rfl rfl (hb hby d6_31)
  refine OGo.via st8 ?_
  have V8 : Arv Z h8 a3 k3 .byte (2 : Int32) [(.int ((c0.toInt8.toInt32).toInt8.toInt32)), (.int ((c1.toInt8.toInt32).toInt8.toInt32))] (.int (0 : Int32)) := Arv.set Ar8 q8 Sz8 Ng8 Hs8 Gf8 (fits_nar_byte _) W8 1 rfl (Nat.le_of_ble_eq_true rfl)
  have K8 : Keep h0 h8 [a3] := K2.wr W8 (Or.inl (List.mem_of_getElem? (i := 0) rfl))
  have N8 := Fr.snoc X8 N2 g_a3
  show OGo _ _ _ _ (T8.setTop (mkF m 32 #[.val (.ref a1), .val (.int (1 : Int32)), .val (.ref a3), .val (.int (1 : Int32)), .val (.int (2 : Int32)), .val (.int (1 : Int32)), .val (.int c1)] []))
  refine OGo.via (fun _ k => XS.iinc X8.here hx rfl (hb hby d6_32) rfl (l' := #[.val (.ref a1), .val (.int ((1 : Int32) + (1 : Int32))), .val (.ref a3), .val (.int (1 : Int32)), .val (.int (2 : Int32)), .val (.int (1 : Int32)), .val (.int c1)]) rfl k) ?_
  show OGo _ _ _ _ (T8.setTop (mkF m 35 #[.val (.ref a1), .val (.int ((1 : Int32) + (1 : Int32))), .val (.ref a3), .val (.int (1 : Int32)), .val (.int (2 : Int32)), .val (.int (1 : Int32)), .val (.int c1)] []))
  rw [show ((1 : Int32) + (1 : Int32)) = (2 : Int32) from by decide]
  refine OGo.via (fun _ k => XS.iinc X8.here hx rfl (hb hby d6_35) rfl (l' := #[.val (.ref a1), .val (.int (2 : Int32)), .val (.ref a3), .val (.int ((1 : Int32) + (1 : Int32))), .val (.int (2 : Int32)), .val (.int (1 : Int32)), .val (.int c1)]) rfl k) ?_
  show OGo _ _ _ _ (T8.setTop (mkF m 38 #[.val (.ref a1), .val (.int (2 : Int32)), .val (.ref a3), .val (.int ((1 : Int32) + (1 : Int32))), .val (.int (2 : Int32)), .val (.int (1 : Int32)), .val (.int c1)] []))
  rw [show ((1 : Int32) + (1 : Int32)) = (2 : Int32) from by decide]
  refine OGo.via (fun _ k => XS.iinc X8.here hx rfl (hb hby d6_38) rfl (l' := #[.val (.ref a1), .val (.int (2 : Int32)), .val (.ref a3), .val (.int (2 : Int32)), .val (.int (2 : Int32)), .val (.int ((1 : Int32) + (1 : Int32))), .val (.int c1)]) rfl k) ?_
  show OGo _ _ _ _ (T8.setTop (mkF m 41 #[.val (.ref a1), .val (.int (2 : Int32)), .val (.ref a3), .val (.int (2 : Int32)), .val (.int (2 : Int32)), .val (.int ((1 : Int32) + (1 : Int32))), .val (.int c1)] []))
  rw [show ((1 : Int32) + (1 : Int32)) = (2 : Int32) from by decide]
  refine OGo.via (fun _ k => XS.goto X8.here hx rfl (pc0 := 41) (pc' := 3) rfl (hb hby d6_41) (by decide) (by decide) (XS.iload X8.here hx rfl (hb hby d6_3) rfl (XS.iload X8.here hx rfl (hb hby d6_5) rfl (XS.icmpYes X8.here hx rfl (pc0 := 7) (pc' := 44) rfl (hb hby d6_7) rfl (flt (by decide : ¬ ((2 : Int32) < (2 : Int32)))).2.1 (by decide) (by decide) (XS.iload X8.here hx rfl (hb hby d6_44) rfl k))))) ?_
  show OGo _ _ _ _ (T8.setTop (mkF m 46 #[.val (.ref a1), .val (.int (2 : Int32)), .val (.ref a3), .val (.int (2 : Int32)), .val (.int (2 : Int32)), .val (.int (2 : Int32)), .val (.int c1)] [(.int (2 : Int32))]))
  have f12 := S_COMPACT_STRINGS.wr W2
  have f13 := f12.wr W8
  have f14 := S_SIOOBE_FORMATTER.wr W2
  have f15 := f14.wr W8
  refine own_retI X8 hx Bd.notSynchronized Bd.returns (hb hby d6_46) (by decide) (by decide) ?_
  show Q_rm6_2 Z _ _ _ _ _ _ _ _ h0 n0 _ T8.heap _
  rw [e8]
  exact ⟨rfl, N8, K8, V8, f13, f15⟩
theorem ef_rm5_2 (m : MethodId) (a1 : Addr) : entryFrame m #[(.ref a1), (.int (0 : Int32)), (.int (2 : Int32))] 6 = mkF m 0 #[.val (.ref a1), .val (.int (0 : Int32)), .val (.int (2 : Int32)), .unset, .unset, .unset] [] := by
  first | (simp [entryFrame, mkF, argsToLocals, Value.category]; done) | rfl
def Q_rm5_2 (Z : State) (a1 : Addr) (k1 : ClassId) (w : Int32) (fm : Value) (c0 : Int32) (c1 : Int32) (h0 : Heap) (n0 : Nat) (v : Option Value) (h : Heap) (L : List Loc) : Prop := ∃ vb : Addr, ∃ kb : ClassId, v = some (.ref vb) ∧ Fr n0 L ∧ Keep h0 h [] ∧ h0.size ≤ vb ∧ Arv Z h vb kb .byte (2 : Int32) [(.int ((c0.toInt8.toInt32).toInt8.toInt32)), (.int ((c1.toInt8.toInt32).toInt8.toInt32))] (.int (0 : Int32)) ∧ Sta Z h "java/lang/String" "COMPACT_STRINGS" "Z" (.int w) ∧ Sta Z h "jdk/internal/util/Preconditions" "SIOOBE_FORMATTER" "Ljava/util/function/BiFunction;" fm
abbrev R_rm5_2 : Room := ⟨1, 1, 2, 18⟩
set_option maxRecDepth 65536 in
set_option maxHeartbeats 40000000 in
theorem rm5_2 (l : Launch) (Z : State) (a0 : Array Value) (hw : ∀ d ∈ tables_1, d.before a0 Z = true) (ws : List Jvm.Cond) (a1 : Addr) (k1 : ClassId) (w : Int32) (fm : Value) (c0 : Int32) (c1 : Int32) (h0 : Heap) (n0 : Nat) (Z0 : n0 ≤ h0.size) (V_a1 : Arv Z h0 a1 k1 .char (2 : Int32) [(.int c0), (.int c1)] (.int (0 : Int32))) (S_COMPACT_STRINGS : Sta Z h0 "java/lang/String" "COMPACT_STRINGS" "Z" (.int w)) (S_SIOOBE_FORMATTER : Sta Z h0 "jdk/internal/util/Preconditions" "SIOOBE_FORMATTER" "Ljava/util/function/BiFunction;" fm) (hc0 : ¬ (255 : Int32) < c0) (hc1 : ¬ (255 : Int32) < c1) :
    MetFree l own_y8 (head1 (Jvm.Cond.code own_y8 jdk_52_method_16_code 6 (some (.array .byte)) :: ws) R_rm5_2) (fun a U => a = #[(.ref a1), (.int (0 : Int32)), (.int (2 : Int32))] ∧ Z.Warmed39 U.vm ∧ U.heap = h0) (fun _ _ _ _ _ => True) (fun _ U o U' => ∃ v L, o = .returned v ∧ Q_rm5_2 Z a1 k1 w fm c0 c1 h0 n0 v U'.heap L ∧ FrameEnd U o U' L R_rm5_2.cells R_rm5_2.slots) := by
  refine MetFree.of_bodySF (plainFor_of_name pn_StringUTF16) hisR ?_
  intro p e s m args below meth c s₁ Bd hml0 hP hK
  obtain ⟨rfl, hZ, hh⟩ := hP
  have hx := Bd.exec
  have hby := Bd.bytes
  have hml : c.maxLocals = 6 := hml0
  have hown : s.vm.findClass "java/lang/StringUTF16" = some m.cls := findClass_of_methodNamed Bd.named
  have hnm := (name_of_methodNamed Bd.named Bd.method).1
  have X0 : Stand p l e R_rm5_2 s m #[(.ref a1), (.int (0 : Int32)), (.int (2 : Int32))] below meth c s₁ [] 0 0 := Stand.of_body Bd
  have e0 : s₁.heap = h0 := by rw [← hh, Bd.state]; rfl
  have N0 := Fr.nil n0
  show OGo p.tables e below (own_Kq s (fun v h L => Q_rm5_2 Z a1 k1 w fm c0 c1 h0 n0 v h L) R_rm5_2.cells R_rm5_2.slots) (s₁.setTop (entryFrame m #[(.ref a1), (.int (0 : Int32)), (.int (2 : Int32))] 6))
  refine OGo.cast (ef_rm5_2 m a1) ?_
  show OGo _ _ _ _ (s₁.setTop (mkF m 0 #[.val (.ref a1), .val (.int (0 : Int32)), .val (.int (2 : Int32)), .unset, .unset, .unset] []))
  refine OGo.via (fun _ k => XS.iloadN X0.here hx rfl (hb hby d5_0) rfl k) ?_
  obtain ⟨T1, h1, ka1, X1, e1, E1, A1, Y1, st1⟩ := newPE (ad := "[B") X0 hx hZ (own_w hw 26 rfl) e0 (g := (mkF m 1 #[.val (.ref a1), .val (.int (0 : Int32)), .val (.int (2 : Int32)), .unset, .unset, .unset] [(.int (2 : Int32))])) rfl (hb hby d5_1) rfl (by decide) (cap := 2) (by decide) (by decide) (by decide) (by decide) (by decide)
  obtain ⟨b1, g1⟩ : ∃ z, z = h0.size := ⟨_, rfl⟩
  rw [← g1] at A1 Y1 st1
  refine OGo.via st1 ?_
  have K1 : Keep h0 h1 [] := (Keep.refl h0 []).ext E1
  have lt_a1_b1 : a1 < b1 := Nat.lt_of_lt_of_le V_a1.lt (Nat.le_of_eq g1.symm)
  have sz_b1 : h0.size ≤ b1 := Nat.le_trans (Keep.refl h0 []).1 (Nat.le_of_eq g1.symm)
  have g_b1 : n0 ≤ b1 := Nat.le_trans Z0 sz_b1
  have V1 : Arv Z h1 b1 ka1 .byte (2 : Int32) [(.int (0 : Int32)), (.int (0 : Int32))] (.int (0 : Int32)) := (Arv.new A1 (by decide)).pad (pad_rep [] (.int (0 : Int32)) 2)
  show OGo _ _ _ _ (T1.setTop (mkF m 3 #[.val (.ref a1), .val (.int (0 : Int32)), .val (.int (2 : Int32)), .unset, .unset, .unset] [(.ref b1)]))
  refine OGo.via (fun _ k => XS.astoreN X1.here hx rfl (hb hby d5_3) rfl rfl (l' := #[.val (.ref a1), .val (.int (0 : Int32)), .val (.int (2 : Int32)), .val (.ref b1), .unset, .unset]) rfl (XS.aloadN X1.here hx rfl (hb hby d5_4) rfl rfl (XS.iloadN X1.here hx rfl (hb hby d5_5) rfl (XS.aloadN X1.here hx rfl (hb hby d5_6) rfl rfl (XS.iconst X1.here hx rfl (hb hby d5_7) (XS.iloadN X1.here hx rfl (hb hby d5_8) rfl k)))))) ?_
  have f3 := S_COMPACT_STRINGS.ext E1
  have f4 := S_SIOOBE_FORMATTER.ext E1
  have f5 := V_a1.ext E1
  obtain ⟨_, T2, Lc2, X2, hQ2, st2⟩ := own_open X1 (Jvm.LawKit.callS X1 hx (y := own_y7) hown (mvT hZ (own_w hw 27 rfl)) (mvT hZ (own_w hw 28 rfl)) (mvT hZ (own_w hw 24 rfl)) (mvT hZ (own_w hw 29 rfl)) (by decide) (backOf (W := 0) (rm6_2 l Z a0 hw [] a1 b1 k1 ka1 c0 c1 w fm h1 n0 (Nat.le_trans Z0 K1.1) f3 f4 f5 V1 (Nat.ne_of_lt lt_a1_b1) g_b1 hc0 hc1) hZ (own_w hw 29 rfl) (own_w hw 24 rfl) (by decide) (by decide)) (g := (mkF m 9 #[.val (.ref a1), .val (.int (0 : Int32)), .val (.int (2 : Int32)), .val (.ref b1), .unset, .unset] [(.int (2 : Int32)), (.int (0 : Int32)), (.ref b1), (.int (0 : Int32)), (.ref a1)])) rfl (by rw [hml]; rfl) (argsL := [(.ref a1), (.int (0 : Int32)), (.ref b1), (.int (0 : Int32)), (.int (2 : Int32))]) (rest := []) (lenOf pd_1 rfl) rfl (by show 2 * 0 + _ ≤ _; exact Nat.le_of_eq rfl) (hb hby d5_9) (fun _ _ => ⟨rfl, e1, (by decide : 1 + 0 ≤ _), (by decide : 2 + 0 ≤ _)⟩))
  obtain ⟨rfl, N2q, r2_0, r2_1, r2_2, r2_3⟩ := hQ2
  have N2 := Fr.app N0 N2q
  have K2 : Keep h0 T2.heap [] := K1.trans r2_0 (allS (Or.inr sz_b1) all0)
  refine OGo.via st2 ?_
  show OGo _ _ _ _ (T2.setTop (mkF m 12 #[.val (.ref a1), .val (.int (0 : Int32)), .val (.int (2 : Int32)), .val (.ref b1), .unset, .unset] [(.int (2 : Int32))]))
  refine OGo.via (fun _ k => XS.istore X2.here hx rfl (hb hby d5_12) rfl (l' := #[.val (.ref a1), .val (.int (0 : Int32)), .val (.int (2 : Int32)), .val (.ref b1), .val (.int (2 : Int32)), .unset]) rfl (XS.iload X2.here hx rfl (hb hby d5_14) rfl (XS.iloadN X2.here hx rfl (hb hby d5_16) rfl (XS.icmpYes X2.here hx rfl (pc0 := 17) (pc' := 57) rfl (hb hby d5_17) rfl (teq (by decide : (2 : Int32) = (2 : Int32))).1 (by decide) (by decide) (XS.aloadN X2.here hx rfl (hb hby d5_57) rfl rfl k))))) ?_
  show OGo _ _ _ _ (T2.setTop (mkF m 58 #[.val (.ref a1), .val (.int (0 : Int32)), .val (.int (2 : Int32)), .val (.ref b1), .val (.int (2 : Int32)), .unset] [(.ref b1)]))
  refine own_retA X2 hx Bd.notSynchronized Bd.returns rfl rfl (hb hby d5_58) (by decide) (by decide) ?_
  show Q_rm5_2 Z _ _ _ _ _ _ h0 n0 _ T2.heap _
  exact ⟨b1, ka1, rfl, N2, K2, sz_b1, r2_1, r2_2, r2_3⟩
theorem ef_rm7_2 (m : MethodId) (a1 : Addr) : entryFrame m #[(.ref a1), (.int (2 : Int32))] 2 = mkF m 0 #[.val (.ref a1), .val (.int (2 : Int32))] [] := by
  first | (simp [entryFrame, mkF, argsToLocals, Value.category]; done) | rfl
def Q_rm7_2 (Z : State) (a1 : Addr) (k1 : ClassId) (vs : List Value) (h0 : Heap) (n0 : Nat) (v : Option Value) (h : Heap) (L : List Loc) : Prop := v = some (.int (0 : Int32)) ∧ Fr n0 L ∧ h = h0
abbrev R_rm7_2 : Room := ⟨0, 0, 0, 0⟩
set_option maxRecDepth 65536 in
set_option maxHeartbeats 40000000 in
theorem rm7_2 (l : Launch) (Z : State) (a0 : Array Value) (hw : ∀ d ∈ tables_1, d.before a0 Z = true) (ws : List Jvm.Cond) (a1 : Addr) (k1 : ClassId) (vs : List Value) (h0 : Heap) (n0 : Nat) (Z0 : n0 ≤ h0.size) (V_a1 : Arv Z h0 a1 k1 .byte (2 : Int32) vs (.int (0 : Int32))) :
    MetFree l own_y9 (head1 (Jvm.Cond.code own_y9 jdk_52_method_15_code 2 (some .byte) :: ws) R_rm7_2) (fun a U => a = #[(.ref a1), (.int (2 : Int32))] ∧ Z.Warmed39 U.vm ∧ U.heap = h0) (fun _ _ _ _ _ => True) (fun _ U o U' => ∃ v L, o = .returned v ∧ Q_rm7_2 Z a1 k1 vs h0 n0 v U'.heap L ∧ FrameEnd U o U' L R_rm7_2.cells R_rm7_2.slots) := by
  refine MetFree.of_bodySF (plainFor_of_name pn_StringUTF16) hisR ?_
  intro p e s m args below meth c s₁ Bd hml0 hP hK
  obtain ⟨rfl, hZ, hh⟩ := hP
  have hx := Bd.exec
  have hby := Bd.bytes
  have hml : c.maxLocals = 2 := hml0
  have hown : s.vm.findClass "java/lang/StringUTF16" = some m.cls := findClass_of_methodNamed Bd.named
  have hnm := (name_of_methodNamed Bd.named Bd.method).1
  have X0 : Stand p l e R_rm7_2 s m #[(.ref a1), (.int (2 : Int32))] below meth c s₁ [] 0 0 := Stand.of_body Bd
  have e0 : s₁.heap = h0 := by rw [← hh, Bd.state]; rfl
  have N0 := Fr.nil n0
  show OGo p.tables e below (own_Kq s (fun v h L => Q_rm7_2 Z a1 k1 vs h0 n0 v h L) R_rm7_2.cells R_rm7_2.slots) (s₁.setTop (entryFrame m #[(.ref a1), (.int (2 : Int32))] 2))
  refine OGo.cast (ef_rm7_2 m a1) ?_
  show OGo _ _ _ _ (s₁.setTop (mkF m 0 #[.val (.ref a1), .val (.int (2 : Int32))] []))
  refine OGo.via (fun _ k => XS.iloadN X0.here hx rfl (hb hby d7_0) rfl (XS.aloadN X0.here hx rfl (hb hby d7_1) rfl rfl k)) ?_
  obtain ⟨cl1, Ar1, q1, Sz1, Ng1, Hs1, Gf1⟩ := id V_a1
  refine OGo.via (X0.arraylength hx (by rw [e0]; exact Ar1.1) (State.isArrayOf_alike hZ.alike Ar1.2.1) (g := (mkF m 2 #[.val (.ref a1), .val (.int (2 : Int32))] [(.ref a1), (.int (2 : Int32))])) rfl rfl (hb hby d7_2)) ?_
  rw [len_of Sz1 Ng1]
  show OGo _ _ _ _ (s₁.setTop (mkF m 3 #[.val (.ref a1), .val (.int (2 : Int32))] [(.int (2 : Int32)), (.int (2 : Int32))]))
  refine OGo.via (fun _ k => XS.isub X0.here hx rfl (hb hby d7_3) rfl k) ?_
  show OGo _ _ _ _ (s₁.setTop (mkF m 4 #[.val (.ref a1), .val (.int (2 : Int32))] [(.int ((2 : Int32) - (2 : Int32)))]))
  rw [show ((2 : Int32) - (2 : Int32)) = (0 : Int32) from by decide]
  refine OGo.via (fun _ k => XS.bipush X0.here hx rfl (hb hby d7_4) (XS.iushr X0.here hx rfl (hb hby d7_6) rfl k)) ?_
  show OGo _ _ _ _ (s₁.setTop (mkF m 7 #[.val (.ref a1), .val (.int (2 : Int32))] [(.int (((0 : Int32).toUInt32 >>> ((31 : Int32) &&& 31).toUInt32).toInt32))]))
  rw [show (((0 : Int32).toUInt32 >>> ((31 : Int32) &&& 31).toUInt32).toInt32) = (0 : Int32) from by decide]
  refine OGo.via (fun _ k => XS.i2b X0.here hx rfl (hb hby d7_7) rfl k) ?_
  show OGo _ _ _ _ (s₁.setTop (mkF m 8 #[.val (.ref a1), .val (.int (2 : Int32))] [(.int ((0 : Int32).toInt8.toInt32))]))
  rw [show ((0 : Int32).toInt8.toInt32) = (0 : Int32) from by decide]
  show OGo _ _ _ _ (s₁.setTop (mkF m 8 #[.val (.ref a1), .val (.int (2 : Int32))] [(.int (0 : Int32))]))
  refine own_retN (t := .byte) (by simp) X0 hx Bd.notSynchronized Bd.returns (hb hby d7_8) (by decide) (by decide) ?_
  show Q_rm7_2 Z _ _ _ h0 n0 _ s₁.heap _
  exact ⟨rfl, N0, e0⟩
theorem ef_rm3_2 (m : MethodId) (a1 : Addr) (a2 : Addr) : entryFrame m #[(.ref a1), (.ref a2), (.int (0 : Int32)), (.int (2 : Int32)), .null] 6 = mkF m 0 #[.val (.ref a1), .val (.ref a2), .val (.int (0 : Int32)), .val (.int (2 : Int32)), .val .null, .unset] [] := by
  first | (simp [entryFrame, mkF, argsToLocals, Value.category]; done) | rfl
def Q_rm3_2 (Z : State) (a1 : Addr) (a2 : Addr) (k1 : ClassId) (w : Int32) (fm : Value) (c0 : Int32) (c1 : Int32) (h0 : Heap) (n0 : Nat) (v : Option Value) (h : Heap) (L : List Loc) : Prop := ∃ vb : Addr, ∃ kb : ClassId, v = none ∧ Fr n0 L ∧ Keep h0 h [a1] ∧ h0.size ≤ vb ∧ Exa Z h a1 "java/lang/String" ∧ Fld Z h a1 "java/lang/String" "value" "[B" (.ref vb) ∧ Fld Z h a1 "java/lang/String" "coder" "B" (.int (0 : Int32)) ∧ Arv Z h vb kb .byte (2 : Int32) [(.int ((c0.toInt8.toInt32).toInt8.toInt32)), (.int ((c1.toInt8.toInt32).toInt8.toInt32))] (.int (0 : Int32)) ∧ Sta Z h "java/lang/String" "COMPACT_STRINGS" "Z" (.int w) ∧ Sta Z h "jdk/internal/util/Preconditions" "SIOOBE_FORMATTER" "Ljava/util/function/BiFunction;" fm
abbrev R_rm3_2 : Room := ⟨2, 1, 2, 35⟩
set_option maxRecDepth 65536 in
set_option maxHeartbeats 40000000 in
theorem rm3_2 (l : Launch) (Z : State) (a0 : Array Value) (hw : ∀ d ∈ tables_1, d.before a0 Z = true) (ws : List Jvm.Cond) (a1 : Addr) (a2 : Addr) (k1 : ClassId) (w : Int32) (fm : Value) (c0 : Int32) (c1 : Int32) (h0 : Heap) (n0 : Nat) (Z0 : n0 ≤ h0.size) (E_a1 : Exa Z h0 a1 "java/lang/String") (F_value_a1 : Fld Z h0 a1 "java/lang/String" "value" "[B" .null) (F_coder_a1 : Fld Z h0 a1 "java/lang/String" "coder" "B" (.int (0 : Int32))) (V_a2 : Arv Z h0 a2 k1 .char (2 : Int32) [(.int c0), (.int c1)] (.int (0 : Int32))) (g_a1 : n0 ≤ a1) (S_COMPACT_STRINGS : Sta Z h0 "java/lang/String" "COMPACT_STRINGS" "Z" (.int w)) (S_SIOOBE_FORMATTER : Sta Z h0 "jdk/internal/util/Preconditions" "SIOOBE_FORMATTER" "Ljava/util/function/BiFunction;" fm) (hw0 : ¬ w = (0 : Int32)) (hc0 : ¬ (255 : Int32) < c0) (hc1 : ¬ (255 : Int32) < c1) :
    MetFree l own_y10 (head1 (Jvm.Cond.code own_y10 jdk_42_method_149_code 6 none :: ws) R_rm3_2) (fun a U => a = #[(.ref a1), (.ref a2), (.int (0 : Int32)), (.int (2 : Int32)), .null] ∧ Z.Warmed39 U.vm ∧ U.heap = h0) (fun _ _ _ _ _ => True) (fun _ U o U' => ∃ v L, o = .returned v ∧ Q_rm3_2 Z a1 a2 k1 w fm c0 c1 h0 n0 v U'.heap L ∧ FrameEnd U o U' L R_rm3_2.cells R_rm3_2.slots) := by
  refine MetFree.of_bodySF (plainFor_of_name pn_String) hisR ?_
  intro p e s m args below meth c s₁ Bd hml0 hP hK
  obtain ⟨rfl, hZ, hh⟩ := hP
  have hx := Bd.exec
  have hby := Bd.bytes
  have hml : c.maxLocals = 6 := hml0
  have hown : s.vm.findClass "java/lang/String" = some m.cls := findClass_of_methodNamed Bd.named
  have hnm := (name_of_methodNamed Bd.named Bd.method).1
  have X0 : Stand p l e R_rm3_2 s m #[(.ref a1), (.ref a2), (.int (0 : Int32)), (.int (2 : Int32)), .null] below meth c s₁ [] 0 0 := Stand.of_body Bd
  have e0 : s₁.heap = h0 := by rw [← hh, Bd.state]; rfl
  have N0 := Fr.nil n0
  show OGo p.tables e below (own_Kq s (fun v h L => Q_rm3_2 Z a1 a2 k1 w fm c0 c1 h0 n0 v h L) R_rm3_2.cells R_rm3_2.slots) (s₁.setTop (entryFrame m #[(.ref a1), (.ref a2), (.int (0 : Int32)), (.int (2 : Int32)), .null] 6))
  refine OGo.cast (ef_rm3_2 m a1 a2) ?_
  show OGo _ _ _ _ (s₁.setTop (mkF m 0 #[.val (.ref a1), .val (.ref a2), .val (.int (0 : Int32)), .val (.int (2 : Int32)), .val .null, .unset] []))
  refine OGo.via (fun _ k => XS.aloadN X0.here hx rfl (hb hby d3_0) rfl rfl k) ?_
  obtain ⟨T1, X1, e1, st1⟩ := initO X0 hx hZ hown (own_w hw 18 rfl) (own_w hw 19 rfl) (own_w hw 20 rfl) e0 (g := (mkF m 1 #[.val (.ref a1), .val (.ref a2), .val (.int (0 : Int32)), .val (.int (2 : Int32)), .val .null, .unset] [(.ref a1)])) rfl (by rw [hml]; rfl) rfl (hb hby d3_1) (by decide) (W := 0) (by show 2 * 0 + _ ≤ _; exact Nat.le_of_eq rfl) (by decide)
  refine OGo.via st1 ?_
  show OGo _ _ _ _ (T1.setTop (mkF m 4 #[.val (.ref a1), .val (.ref a2), .val (.int (0 : Int32)), .val (.int (2 : Int32)), .val .null, .unset] []))
  refine OGo.via (fun _ k => XS.iloadN X1.here hx rfl (hb hby d3_4) rfl (XS.ifYes X1.here hx rfl (pc0 := 5) (pc' := 27) rfl (hb hby d3_5) rfl ((if0 _ _).trans (feq (by decide : ¬ ((2 : Int32) = (0 : Int32)))).2) (by decide) (by decide) k)) ?_
  obtain ⟨T2, X2, e2, st2⟩ := getS2 X1 hx hZ hown (host := "") (Or.inl (own_w hw 21 rfl)) Via.refl e1 S_COMPACT_STRINGS (g := (mkF m 27 #[.val (.ref a1), .val (.ref a2), .val (.int (0 : Int32)), .val (.int (2 : Int32)), .val .null, .unset] [])) rfl (hb hby d3_27)
  refine OGo.via st2 ?_
  show OGo _ _ _ _ (T2.setTop (mkF m 30 #[.val (.ref a1), .val (.ref a2), .val (.int (0 : Int32)), .val (.int (2 : Int32)), .val .null, .unset] [(.int w)]))
  refine OGo.via (fun _ k => XS.ifNo X2.here hx rfl (hb hby d3_30) rfl ((if0 _ _).trans (feq hw0).1) (XS.aloadN X2.here hx rfl (hb hby d3_33) rfl rfl (XS.iloadN X2.here hx rfl (hb hby d3_34) rfl (XS.iloadN X2.here hx rfl (hb hby d3_35) rfl k)))) ?_
  obtain ⟨_, T3, Lc3, X3, hQ3, st3⟩ := own_open X2 (Jvm.LawKit.callS X2 hx (y := own_y8) hown (mvT hZ (own_w hw 22 rfl)) (mvT hZ (own_w hw 23 rfl)) (mvT hZ (own_w hw 24 rfl)) (mvT hZ (own_w hw 25 rfl)) (by decide) (backOf (W := 0) (rm5_2 l Z a0 hw [] a2 k1 w fm c0 c1 h0 n0 Z0 V_a2 S_COMPACT_STRINGS S_SIOOBE_FORMATTER hc0 hc1) hZ (own_w hw 25 rfl) (own_w hw 24 rfl) (by decide) (by decide)) (g := (mkF m 36 #[.val (.ref a1), .val (.ref a2), .val (.int (0 : Int32)), .val (.int (2 : Int32)), .val .null, .unset] [(.int (2 : Int32)), (.int (0 : Int32)), (.ref a2)])) rfl (by rw [hml]; rfl) (argsL := [(.ref a2), (.int (0 : Int32)), (.int (2 : Int32))]) (rest := []) (lenOf pd_2 rfl) rfl (by show 2 * 0 + _ ≤ _; exact Nat.le_of_eq rfl) (hb hby d3_36) (fun _ _ => ⟨rfl, e2, (by decide : 0 + 1 ≤ _), (by decide : 0 + 2 ≤ _)⟩))
  obtain ⟨vb, kb, rfl, N3q, r3_0, r3_1, r3_2, r3_3, r3_4⟩ := hQ3
  have N3 := Fr.app N0 N3q
  have K3 : Keep h0 T3.heap [a1] := (Keep.refl h0 [a1]).trans r3_0 all0
  have lt_a1_vb : a1 < vb := Nat.lt_of_lt_of_le E_a1.lt r3_1
  have lt_a2_vb : a2 < vb := Nat.lt_of_lt_of_le V_a2.lt r3_1
  have sz_vb : h0.size ≤ vb := Nat.le_trans (Keep.refl h0 [a1]).1 r3_1
  have g_vb : n0 ≤ vb := Nat.le_trans Z0 sz_vb
  refine OGo.via st3 ?_
  show OGo _ _ _ _ (T3.setTop (mkF m 39 #[.val (.ref a1), .val (.ref a2), .val (.int (0 : Int32)), .val (.int (2 : Int32)), .val .null, .unset] [(.ref vb)]))
  refine OGo.via (fun _ k => XS.astore X3.here hx rfl (hb hby d3_39) rfl rfl (l' := #[.val (.ref a1), .val (.ref a2), .val (.int (0 : Int32)), .val (.int (2 : Int32)), .val .null, .val (.ref vb)]) rfl (XS.aloadN X3.here hx rfl (hb hby d3_41) rfl rfl (XS.aload X3.here hx rfl (hb hby d3_42) rfl rfl (XS.iloadN X3.here hx rfl (hb hby d3_44) rfl k)))) ?_
  obtain ⟨_, T4, Lc4, X4, hQ4, st4⟩ := own_open X3 (Jvm.LawKit.callS X3 hx (y := own_y9) hown (mvT hZ (own_w hw 30 rfl)) (mvT hZ (own_w hw 31 rfl)) (mvT hZ (own_w hw 24 rfl)) (mvT hZ (own_w hw 32 rfl)) (by decide) (backOf (W := 1) (rm7_2 l Z a0 hw [] vb kb [(.int ((c0.toInt8.toInt32).toInt8.toInt32)), (.int ((c1.toInt8.toInt32).toInt8.toInt32))] T3.heap n0 (Nat.le_trans Z0 K3.1) r3_2) hZ (own_w hw 32 rfl) (own_w hw 24 rfl) (by decide) (by decide)) (g := (mkF m 45 #[.val (.ref a1), .val (.ref a2), .val (.int (0 : Int32)), .val (.int (2 : Int32)), .val .null, .val (.ref vb)] [(.int (2 : Int32)), (.ref vb), (.ref a1)])) rfl (by rw [hml]; rfl) (argsL := [(.ref vb), (.int (2 : Int32))]) (rest := [(.ref a1)]) (lenOf pd_3 rfl) rfl (by show 2 * 0 + _ ≤ _; exact Nat.le_of_eq rfl) (hb hby d3_45) (fun _ _ => ⟨rfl, rfl, (by decide : 1 + 0 ≤ _), (by decide : 2 + 0 ≤ _)⟩))
  obtain ⟨rfl, N4q, r4_0⟩ := hQ4
  have N4 := Fr.app N3 N4q
  refine OGo.via st4 ?_
  show OGo _ _ _ _ (T4.setTop (mkF m 48 #[.val (.ref a1), .val (.ref a2), .val (.int (0 : Int32)), .val (.int (2 : Int32)), .val .null, .val (.ref vb)] [(.int (0 : Int32)), (.ref a1)]))
  have f6 := F_coder_a1.keep r3_0 nin0
  have f7 := E_a1.keep r3_0
  obtain ⟨T5, h5, X5, e5, W5, st5⟩ := putFN X4 hx hZ hown (own_w hw 33 rfl) Via.refl r4_0 f6 f7 (Or.inr ⟨(own_w hw 34 rfl), rfl, hnm⟩) (own_w hw 9 rfl) (ty := .byte) (v' := (.int (0 : Int32))) (by decide) rfl (by decide) (g := (mkF m 48 #[.val (.ref a1), .val (.ref a2), .val (.int (0 : Int32)), .val (.int (2 : Int32)), .val .null, .val (.ref vb)] [(.int (0 : Int32)), (.ref a1)])) rfl rfl (hb hby d3_48)
  refine OGo.via st5 ?_
  have Fw5 := f6.same W5
  have K5 : Keep h0 h5 [a1] := K3.wr W5 (Or.inl (List.mem_of_getElem? (i := 0) rfl))
  have N5 := Fr.snoc X5 N4 g_a1
  show OGo _ _ _ _ (T5.setTop (mkF m 51 #[.val (.ref a1), .val (.ref a2), .val (.int (0 : Int32)), .val (.int (2 : Int32)), .val .null, .val (.ref vb)] []))
  refine OGo.via (fun _ k => XS.aloadN X5.here hx rfl (hb hby d3_51) rfl rfl (XS.aload X5.here hx rfl (hb hby d3_52) rfl rfl k)) ?_
  have f9 := F_value_a1.keep r3_0 nin0
  have f10 := f9.other W5 (Or.inr (slot_ne (Or.inr (own_w hw 36 rfl)) (Or.inr (own_w hw 34 rfl)) (by decide) (t := (.array .byte)) (t' := .byte) (by decide) (by decide)))
  have f11 := f7.wr W5
  obtain ⟨T8, h8, X8, e8, W8, st8⟩ := putF X5 hx hZ hown (host := "") (Or.inl (own_w hw 35 rfl)) Via.refl e5 f10 f11 (Or.inr ⟨(own_w hw 36 rfl), rfl, hnm⟩) (own_w hw 9 rfl) (ty := (.array .byte)) (by decide) rfl rfl (g := (mkF m 54 #[.val (.ref a1), .val (.ref a2), .val (.int (0 : Int32)), .val (.int (2 : Int32)), .val .null, .val (.ref vb)] [(.ref vb), (.ref a1)])) rfl rfl (hb hby d3_54)
  refine OGo.via st8 ?_
  have Fw8 := f10.same W8
  have K8 : Keep h0 h8 [a1] := K5.wr W8 (Or.inl (List.mem_of_getElem? (i := 0) rfl))
  have N8 := Fr.snoc X8 N5 g_a1
  show OGo _ _ _ _ (T8.setTop (mkF m 57 #[.val (.ref a1), .val (.ref a2), .val (.int (0 : Int32)), .val (.int (2 : Int32)), .val .null, .val (.ref vb)] []))
  show OGo _ _ _ _ (T8.setTop (mkF m 57 #[.val (.ref a1), .val (.ref a2), .val (.int (0 : Int32)), .val (.int (2 : Int32)), .val .null, .val (.ref vb)] []))
  have f12 := f11.wr W8
  have f13 := Fw5.other W8 (Or.inr (slot_ne (Or.inr (own_w hw 34 rfl)) (Or.inr (own_w hw 36 rfl)) (by decide) (t := .byte) (t' := (.array .byte)) (by decide) (by decide)))
  have f14 := r3_2.other W5 (Nat.ne_of_gt lt_a1_vb)
  have f15 := f14.other W8 (Nat.ne_of_gt lt_a1_vb)
  have f16 := r3_3.wr W5
  have f17 := f16.wr W8
  have f18 := r3_4.wr W5
  have f19 := f18.wr W8
  refine own_retV X8 hx Bd.notSynchronized Bd.returns (hb hby d3_57) (by decide) (by decide) ?_
  show Q_rm3_2 Z _ _ _ _ _ _ _ h0 n0 _ T8.heap _
  rw [e8]
  exact ⟨vb, kb, rfl, N8, K8, sz_vb, f12, Fw8, f13, f15, f17, f19⟩
theorem ef_rm2_2 (m : MethodId) (a1 : Addr) (a2 : Addr) : entryFrame m #[(.ref a1), (.ref a2)] 2 = mkF m 0 #[.val (.ref a1), .val (.ref a2)] [] := by
  first | (simp [entryFrame, mkF, argsToLocals, Value.category]; done) | rfl
def Q_rm2_2 (Z : State) (a1 : Addr) (a2 : Addr) (k1 : ClassId) (w : Int32) (fm : Value) (c0 : Int32) (c1 : Int32) (h0 : Heap) (n0 : Nat) (v : Option Value) (h : Heap) (L : List Loc) : Prop := ∃ vb : Addr, ∃ kb : ClassId, v = none ∧ Fr n0 L ∧ Keep h0 h [a1] ∧ h0.size ≤ vb ∧ Exa Z h a1 "java/lang/String" ∧ Fld Z h a1 "java/lang/String" "value" "[B" (.ref vb) ∧ Fld Z h a1 "java/lang/String" "coder" "B" (.int (0 : Int32)) ∧ Arv Z h vb kb .byte (2 : Int32) [(.int ((c0.toInt8.toInt32).toInt8.toInt32)), (.int ((c1.toInt8.toInt32).toInt8.toInt32))] (.int (0 : Int32)) ∧ Sta Z h "java/lang/String" "COMPACT_STRINGS" "Z" (.int w) ∧ Sta Z h "jdk/internal/util/Preconditions" "SIOOBE_FORMATTER" "Ljava/util/function/BiFunction;" fm
abbrev R_rm2_2 : Room := ⟨3, 1, 2, 52⟩
set_option maxRecDepth 65536 in
set_option maxHeartbeats 40000000 in
theorem rm2_2 (l : Launch) (Z : State) (a0 : Array Value) (hw : ∀ d ∈ tables_1, d.before a0 Z = true) (ws : List Jvm.Cond) (a1 : Addr) (a2 : Addr) (k1 : ClassId) (w : Int32) (fm : Value) (c0 : Int32) (c1 : Int32) (h0 : Heap) (n0 : Nat) (Z0 : n0 ≤ h0.size) (E_a1 : Exa Z h0 a1 "java/lang/String") (F_value_a1 : Fld Z h0 a1 "java/lang/String" "value" "[B" .null) (F_coder_a1 : Fld Z h0 a1 "java/lang/String" "coder" "B" (.int (0 : Int32))) (V_a2 : Arv Z h0 a2 k1 .char (2 : Int32) [(.int c0), (.int c1)] (.int (0 : Int32))) (g_a1 : n0 ≤ a1) (S_COMPACT_STRINGS : Sta Z h0 "java/lang/String" "COMPACT_STRINGS" "Z" (.int w)) (S_SIOOBE_FORMATTER : Sta Z h0 "jdk/internal/util/Preconditions" "SIOOBE_FORMATTER" "Ljava/util/function/BiFunction;" fm) (hw0 : ¬ w = (0 : Int32)) (hc0 : ¬ (255 : Int32) < c0) (hc1 : ¬ (255 : Int32) < c1) :
    MetFree l own_y11 (head1 (Jvm.Cond.code own_y11 jdk_42_method_3_code 2 none :: ws) R_rm2_2) (fun a U => a = #[(.ref a1), (.ref a2)] ∧ Z.Warmed39 U.vm ∧ U.heap = h0) (fun _ _ _ _ _ => True) (fun _ U o U' => ∃ v L, o = .returned v ∧ Q_rm2_2 Z a1 a2 k1 w fm c0 c1 h0 n0 v U'.heap L ∧ FrameEnd U o U' L R_rm2_2.cells R_rm2_2.slots) := by
  refine MetFree.of_bodySF (plainFor_of_name pn_String) hisR ?_
  intro p e s m args below meth c s₁ Bd hml0 hP hK
  obtain ⟨rfl, hZ, hh⟩ := hP
  have hx := Bd.exec
  have hby := Bd.bytes
  have hml : c.maxLocals = 2 := hml0
  have hown : s.vm.findClass "java/lang/String" = some m.cls := findClass_of_methodNamed Bd.named
  have hnm := (name_of_methodNamed Bd.named Bd.method).1
  have X0 : Stand p l e R_rm2_2 s m #[(.ref a1), (.ref a2)] below meth c s₁ [] 0 0 := Stand.of_body Bd
  have e0 : s₁.heap = h0 := by rw [← hh, Bd.state]; rfl
  have N0 := Fr.nil n0
  show OGo p.tables e below (own_Kq s (fun v h L => Q_rm2_2 Z a1 a2 k1 w fm c0 c1 h0 n0 v h L) R_rm2_2.cells R_rm2_2.slots) (s₁.setTop (entryFrame m #[(.ref a1), (.ref a2)] 2))
  refine OGo.cast (ef_rm2_2 m a1 a2) ?_
  show OGo _ _ _ _ (s₁.setTop (mkF m 0 #[.val (.ref a1), .val (.ref a2)] []))
  refine OGo.via (fun _ k => XS.aloadN X0.here hx rfl (hb hby d2_0) rfl rfl (XS.aloadN X0.here hx rfl (hb hby d2_1) rfl rfl (XS.iconst X0.here hx rfl (hb hby d2_2) (XS.aloadN X0.here hx rfl (hb hby d2_3) rfl rfl k)))) ?_
  obtain ⟨cl1, Ar1, q1, Sz1, Ng1, Hs1, Gf1⟩ := id V_a2
  refine OGo.via (X0.arraylength hx (by rw [e0]; exact Ar1.1) (State.isArrayOf_alike hZ.alike Ar1.2.1) (g := (mkF m 4 #[.val (.ref a1), .val (.ref a2)] [(.ref a2), (.int (0 : Int32)), (.ref a2), (.ref a1)])) rfl rfl (hb hby d2_4)) ?_
  rw [len_of Sz1 Ng1]
  show OGo _ _ _ _ (s₁.setTop (mkF m 5 #[.val (.ref a1), .val (.ref a2)] [(.int (2 : Int32)), (.int (0 : Int32)), (.ref a2), (.ref a1)]))
  refine OGo.via (fun _ k => XS.aconstNull X0.here hx rfl (hb hby d2_5) k) ?_
  obtain ⟨_, T2, Lc2, X2, hQ2, st2⟩ := own_open X0 (X0.specialBack hx (y := own_y10) rfl hown (mvT hZ (own_w hw 14 rfl)) (mvT hZ (own_w hw 15 rfl)) (mvT hZ (own_w hw 17 rfl)) (by decide) (backOf (W := 0) (rm3_2 l Z a0 hw [] a1 a2 k1 w fm c0 c1 h0 n0 Z0 E_a1 F_value_a1 F_coder_a1 V_a2 g_a1 S_COMPACT_STRINGS S_SIOOBE_FORMATTER hw0 hc0 hc1) hZ (own_w hw 17 rfl) (own_w hw 10 rfl) (by decide) (by decide)) (g := (mkF m 6 #[.val (.ref a1), .val (.ref a2)] [.null, (.int (2 : Int32)), (.int (0 : Int32)), (.ref a2), (.ref a1)])) rfl (by rw [hml]; rfl) (Steps.refl _) (a := a1) (argsL := [(.ref a2), (.int (0 : Int32)), (.int (2 : Int32)), .null]) (rest := []) (lenOf pd_4 rfl) rfl (by show 2 * 0 + _ ≤ _; exact Nat.le_of_eq rfl) (hb hby d2_6) (fun _ _ => ⟨rfl, e0, (by decide : 0 + 1 ≤ _), (by decide : 0 + 2 ≤ _)⟩))
  obtain ⟨vb, kb, rfl, N2q, r2_0, r2_1, r2_2, r2_3, r2_4, r2_5, r2_6, r2_7⟩ := hQ2
  have N2 := Fr.app N0 N2q
  have K2 : Keep h0 T2.heap [a1] := (Keep.refl h0 [a1]).trans r2_0 (allS (Or.inl (List.mem_of_getElem? (i := 0) rfl)) all0)
  have lt_a1_vb : a1 < vb := Nat.lt_of_lt_of_le E_a1.lt r2_1
  have lt_a2_vb : a2 < vb := Nat.lt_of_lt_of_le V_a2.lt r2_1
  have sz_vb : h0.size ≤ vb := Nat.le_trans (Keep.refl h0 [a1]).1 r2_1
  have g_vb : n0 ≤ vb := Nat.le_trans Z0 sz_vb
  refine OGo.via (fun _ k => st2.trans k) ?_
  show OGo _ _ _ _ (T2.setTop (mkF m 9 #[.val (.ref a1), .val (.ref a2)] []))
  show OGo _ _ _ _ (T2.setTop (mkF m 9 #[.val (.ref a1), .val (.ref a2)] []))
  refine own_retV X2 hx Bd.notSynchronized Bd.returns (hb hby d2_9) (by decide) (by decide) ?_
  show Q_rm2_2 Z _ _ _ _ _ _ _ h0 n0 _ T2.heap _
  exact ⟨vb, kb, rfl, N2, K2, sz_vb, r2_2, r2_3, r2_4, r2_5, r2_6, r2_7⟩
theorem ef_rm6_3 (m : MethodId) (a1 : Addr) (a3 : Addr) : entryFrame m #[(.ref a1), (.int (0 : Int32)), (.ref a3), (.int (0 : Int32)), (.int (3 : Int32))] 7 = mkF m 0 #[.val (.ref a1), .val (.int (0 : Int32)), .val (.ref a3), .val (.int (0 : Int32)), .val (.int (3 : Int32)), .unset, .unset] [] := by
  first | (simp [entryFrame, mkF, argsToLocals, Value.category]; done) | rfl
def Q_rm6_3 (Z : State) (a1 : Addr) (a3 : Addr) (k1 : ClassId) (k3 : ClassId) (c0 : Int32) (c1 : Int32) (c2 : Int32) (w : Int32) (fm : Value) (h0 : Heap) (n0 : Nat) (v : Option Value) (h : Heap) (L : List Loc) : Prop := v = some (.int (3 : Int32)) ∧ Fr n0 L ∧ Keep h0 h [a3] ∧ Arv Z h a3 k3 .byte (3 : Int32) [(.int ((c0.toInt8.toInt32).toInt8.toInt32)), (.int ((c1.toInt8.toInt32).toInt8.toInt32)), (.int ((c2.toInt8.toInt32).toInt8.toInt32))] (.int (0 : Int32)) ∧ Sta Z h "java/lang/String" "COMPACT_STRINGS" "Z" (.int w) ∧ Sta Z h "jdk/internal/util/Preconditions" "SIOOBE_FORMATTER" "Ljava/util/function/BiFunction;" fm
abbrev R_rm6_3 : Room := ⟨0, 0, 0, 0⟩
set_option maxRecDepth 65536 in
set_option maxHeartbeats 40000000 in
theorem rm6_3 (l : Launch) (Z : State) (a0 : Array Value) (hw : ∀ d ∈ tables_1, d.before a0 Z = true) (ws : List Jvm.Cond) (a1 : Addr) (a3 : Addr) (k1 : ClassId) (k3 : ClassId) (c0 : Int32) (c1 : Int32) (c2 : Int32) (w : Int32) (fm : Value) (h0 : Heap) (n0 : Nat) (Z0 : n0 ≤ h0.size) (S_COMPACT_STRINGS : Sta Z h0 "java/lang/String" "COMPACT_STRINGS" "Z" (.int w)) (S_SIOOBE_FORMATTER : Sta Z h0 "jdk/internal/util/Preconditions" "SIOOBE_FORMATTER" "Ljava/util/function/BiFunction;" fm) (V_a1 : Arv Z h0 a1 k1 .char (3 : Int32) [(.int c0), (.int c1), (.int c2)] (.int (0 : Int32))) (V_a3 : Arv Z h0 a3 k3 .byte (3 : Int32) [(.int (0 : Int32)), (.int (0 : Int32)), (.int (0 : Int32))] (.int (0 : Int32))) (ne_a1_a3 : a1 ≠ a3) (g_a3 : n0 ≤ a3) (hc0 : ¬ (255 : Int32) < c0) (hc1 : ¬ (255 : Int32) < c1) (hc2 : ¬ (255 : Int32) < c2) :
    MetFree l own_y7 (head1 (Jvm.Cond.code own_y7 jdk_52_method_21_code 7 (some .int) :: ws) R_rm6_3) (fun a U => a = #[(.ref a1), (.int (0 : Int32)), (.ref a3), (.int (0 : Int32)), (.int (3 : Int32))] ∧ Z.Warmed39 U.vm ∧ U.heap = h0) (fun _ _ _ _ _ => True) (fun _ U o U' => ∃ v L, o = .returned v ∧ Q_rm6_3 Z a1 a3 k1 k3 c0 c1 c2 w fm h0 n0 v U'.heap L ∧ FrameEnd U o U' L R_rm6_3.cells R_rm6_3.slots) := by
  refine MetFree.of_bodySF (plainFor_of_name pn_StringUTF16) hisR ?_
  intro p e s m args below meth c s₁ Bd hml0 hP hK
  obtain ⟨rfl, hZ, hh⟩ := hP
  have hx := Bd.exec
  have hby := Bd.bytes
  have hml : c.maxLocals = 7 := hml0
  have hown : s.vm.findClass "java/lang/StringUTF16" = some m.cls := findClass_of_methodNamed Bd.named
  have hnm := (name_of_methodNamed Bd.named Bd.method).1
  have X0 : Stand p l e R_rm6_3 s m #[(.ref a1), (.int (0 : Int32)), (.ref a3), (.int (0 : Int32)), (.int (3 : Int32))] below meth c s₁ [] 0 0 := Stand.of_body Bd
  have e0 : s₁.heap = h0 := by rw [← hh, Bd.state]; rfl
  have N0 := Fr.nil n0
  show OGo p.tables e below (own_Kq s (fun v h L => Q_rm6_3 Z a1 a3 k1 k3 c0 c1 c2 w fm h0 n0 v h L) R_rm6_3.cells R_rm6_3.slots) (s₁.setTop (entryFrame m #[(.ref a1), (.int (0 : Int32)), (.ref a3), (.int (0 : Int32)), (.int (3 : Int32))] 7))
  refine OGo.cast (ef_rm6_3 m a1 a3) ?_
  show OGo _ _ _ _ (s₁.setTop (mkF m 0 #[.val (.ref a1), .val (.int (0 : Int32)), .val (.ref a3), .val (.int (0 : Int32)), .val (.int (3 : Int32)), .unset, .unset] []))
  refine OGo.via (fun _ k => XS.iconst X0.here hx rfl (hb hby d6_0) (XS.istore X0.here hx rfl (hb hby d6_1) rfl (l' := #[.val (.ref a1), .val (.int (0 : Int32)), .val (.ref a3), .val (.int (0 : Int32)), .val (.int (3 : Int32)), .val (.int (0 : Int32)), .unset]) rfl (XS.iload X0.here hx rfl (hb hby d6_3) rfl (XS.iload X0.here hx rfl (hb hby d6_5) rfl (XS.icmpNo X0.here hx rfl (hb hby d6_7) rfl (tlt (by decide : (0 : Int32) < (3 : Int32))).2.1 (XS.aloadN X0.here hx rfl (hb hby d6_10) rfl rfl (XS.iloadN X0.here hx rfl (hb hby d6_11) rfl k))))))) ?_
  obtain ⟨cl1, Ar1, q1, Sz1, Ng1, Hs1, Gf1⟩ := id V_a1
  have hin1 : ¬ ((0 : Int32) < 0 ∨ cl1.slots.size ≤ ((0 : Int32)).toNatClampNeg) := inb_of Sz1 ⟨by decide, by decide⟩
  have hat1 : cl1.slots[((0 : Int32)).toNatClampNeg]? = some (.int c0) := Hs1.at hin1 rfl
  refine OGo.via (X0.caload hx (j := (0 : Int32)) (v := (.int c0)) (by rw [e0]; exact Ar1.1) (State.isArrayOf_alike hZ.alike Ar1.2.1) Ar1.2.2 hin1 hat1 (g := (mkF m 12 #[.val (.ref a1), .val (.int (0 : Int32)), .val (.ref a3), .val (.int (0 : Int32)), .val (.int (3 : Int32)), .val (.int (0 : Int32)), .unset] [(.int (0 : Int32)), (.ref a1)])) rfl rfl (hb hby d6_12)) ?_
  show OGo _ _ _ _ (s₁.setTop (mkF m 13 #[.val (.ref a1), .val (.int (0 : Int32)), .val (.ref a3), .val (.int (0 : Int32)), .val (.int (3 : Int32)), .val (.int (0 : Int32)), .unset] [(.int c0)]))
  refine OGo.via (fun _ k => XS.istore X0.here hx rfl (hb hby d6_13) rfl (l' := #[.val (.ref a1), .val (.int (0 : Int32)), .val (.ref a3), .val (.int (0 : Int32)), .val (.int (3 : Int32)), .val (.int (0 : Int32)), .val (.int c0)]) rfl (XS.iload X0.here hx rfl (hb hby d6_15) rfl (XS.sipush X0.here hx rfl (hb hby d6_17) (XS.icmpYes X0.here hx rfl (pc0 := 20) (pc' := 26) rfl (hb hby d6_20) rfl (flt hc0).2.2.2 (by decide) (by decide) (XS.aloadN X0.here hx rfl (hb hby d6_26) rfl rfl (XS.iloadN X0.here hx rfl (hb hby d6_27) rfl (XS.iload X0.here hx rfl (hb hby d6_28) rfl (XS.i2b X0.here hx rfl (hb hby d6_30) rfl k)))))))) ?_
  show OGo _ _ _ _ (s₁.setTop (mkF m 31 #[.val (.ref a1), .val (.int (0 : Int32)), .val (.ref a3), .val (.int (0 : Int32)), .val (.int (3 : Int32)), .val (.int (0 : Int32)), .val (.int c0)] [(.int (c0.toInt8.toInt32)), (.int (0 : Int32)), (.ref a3)]))
  obtain ⟨cl2, Ar2, q2, Sz2, Ng2, Hs2, Gf2⟩ := id V_a3
  have hin2 : ¬ ((0 : Int32) < 0 ∨ cl2.slots.size ≤ ((0 : Int32)).toNatClampNeg) := inb_of Sz2 ⟨by decide, by decide⟩
  obtain ⟨T2, h2, X2, e2, W2, st2⟩ := stB X0 hx hZ e0 Ar2 (j := (0 : Int32)) hin2 (g := (mkF m 31 #[.val (.ref a1), .val (.int (0 : Int32)), .val (.ref a3), .val (.int (0 : Int32)), .val (.int (3 : Int32)), .val (.int (0 : Int32)), .val (.int c0)] [(.int (c0.toInt8.toInt32)), (.int (0 : Int32)), (.ref a3)])) rfl rfl (hb hby d6_31)
  refine OGo.via st2 ?_
  have V2 : Arv Z h2 a3 k3 .byte (3 : Int32) [(.int ((c0.toInt8.toInt32).toInt8.toInt32)), (.int (0 : Int32)), (.int (0 : Int32))] (.int (0 : Int32)) := Arv.set Ar2 q2 Sz2 Ng2 Hs2 Gf2 (fits_nar_byte _) W2 0 rfl (Nat.le_of_ble_eq_true rfl)
  have K2 : Keep h0 h2 [a3] := (Keep.refl h0 [a3]).wr W2 (Or.inl (List.mem_of_getElem? (i := 0) rfl))
  have N2 := Fr.snoc X2 N0 g_a3
  show OGo _ _ _ _ (T2.setTop (mkF m 32 #[.val (.ref a1), .val (.int (0 : Int32)), .val (.ref a3), .val (.int (0 : Int32)), .val (.int (3 : Int32)), .val (.int (0 : Int32)), .val (.int c0)] []))
  refine OGo.via (fun _ k => XS.iinc X2.here hx rfl (hb hby d6_32) rfl (l' := #[.val (.ref a1), .val (.int ((0 : Int32) + (1 : Int32))), .val (.ref a3), .val (.int (0 : Int32)), .val (.int (3 : Int32)), .val (.int (0 : Int32)), .val (.int c0)]) rfl k) ?_
  show OGo _ _ _ _ (T2.setTop (mkF m 35 #[.val (.ref a1), .val (.int ((0 : Int32) + (1 : Int32))), .val (.ref a3), .val (.int (0 : Int32)), .val (.int (3 : Int32)), .val (.int (0 : Int32)), .val (.int c0)] []))
  rw [show ((0 : Int32) + (1 : Int32)) = (1 : Int32) from by decide]
  refine OGo.via (fun _ k => XS.iinc X2.here hx rfl (hb hby d6_35) rfl (l' := #[.val (.ref a1), .val (.int (1 : Int32)), .val (.ref a3), .val (.int ((0 : Int32) + (1 : Int32))), .val (.int (3 : Int32)), .val (.int (0 : Int32)), .val (.int c0)]) rfl k) ?_
  show OGo _ _ _ _ (T2.setTop (mkF m 38 #[.val (.ref a1), .val (.int (1 : Int32)), .val (.ref a3), .val (.int ((0 : Int32) + (1 : Int32))), .val (.int (3 : Int32)), .val (.int (0 : Int32)), .val (.int c0)] []))
  rw [show ((0 : Int32) + (1 : Int32)) = (1 : Int32) from by decide]
  refine OGo.via (fun _ k => XS.iinc X2.here hx rfl (hb hby d6_38) rfl (l' := #[.val (.ref a1), .val (.int (1 : Int32)), .val (.ref a3), .val (.int (1 : Int32)), .val (.int (3 : Int32)), .val (.int ((0 : Int32) + (1 : Int32))), .val (.int c0)]) rfl k) ?_
  show OGo _ _ _ _ (T2.setTop (mkF m 41 #[.val (.ref a1), .val (.int (1 : Int32)), .val (.ref a3), .val (.int (1 : Int32)), .val (.int (3 : Int32)), .val (.int ((0 : Int32) + (1 : Int32))), .val (.int c0)] []))
  rw [show ((0 : Int32) + (1 : Int32)) = (1 : Int32) from by decide]
  refine OGo.via (fun _ k => XS.goto X2.here hx rfl (pc0 := 41) (pc' := 3) rfl (hb hby d6_41) (by decide) (by decide) (XS.iload X2.here hx rfl (hb hby d6_3) rfl (XS.iload X2.here hx rfl (hb hby d6_5) rfl (XS.icmpNo X2.here hx rfl (hb hby d6_7) rfl (tlt (by decide : (1 : Int32) < (3 : Int32))).2.1 (XS.aloadN X2.here hx rfl (hb hby d6_10) rfl rfl (XS.iloadN X2.here hx rfl (hb hby d6_11) rfl k)))))) ?_
  have f7 := V_a1.other W2 ne_a1_a3
  obtain ⟨cl6, Ar6, q6, Sz6, Ng6, Hs6, Gf6⟩ := id f7
  have hin6 : ¬ ((1 : Int32) < 0 ∨ cl6.slots.size ≤ ((1 : Int32)).toNatClampNeg) := inb_of Sz6 ⟨by decide, by decide⟩
  have hat6 : cl6.slots[((1 : Int32)).toNatClampNeg]? = some (.int c1) := Hs6.at hin6 rfl
  refine OGo.via (X2.caload hx (j := (1 : Int32)) (v := (.int c1)) (by rw [e2]; exact Ar6.1) (State.isArrayOf_alike hZ.alike Ar6.2.1) Ar6.2.2 hin6 hat6 (g := (mkF m 12 #[.val (.ref a1), .val (.int (1 : Int32)), .val (.ref a3), .val (.int (1 : Int32)), .val (.int (3 : Int32)), .val (.int (1 : Int32)), .val (.int c0)] [(.int (1 : Int32)), (.ref a1)])) rfl rfl (hb hby d6_12)) ?_
  show OGo _ _ _ _ (T2.setTop (mkF m 13 #[.val (.ref a1), .val (.int (1 : Int32)), .val (.ref a3), .val (.int (1 : Int32)), .val (.int (3 : Int32)), .val (.int (1 : Int32)), .val (.int c0)] [(.int c1)]))
  refine OGo.via (fun _ k => XS.istore X2.here hx rfl (hb hby d6_13) rfl (l' := #[.val (.ref a1), .val (.int (1 : Int32)), .val (.ref a3), .val (.int (1 : Int32)), .val (.int (3 : Int32)), .val (.int (1 : Int32)), .val (.int c1)]) rfl (XS.iload X2.here hx rfl (hb hby d6_15) rfl (XS.sipush X2.here hx rfl (hb hby d6_17) (XS.icmpYes X2.here hx rfl (pc0 := 20) (pc' := 26) rfl (hb hby d6_20) rfl (flt hc1).2.2.2 (by decide) (by decide) (XS.aloadN X2.here hx rfl (hb hby d6_26) rfl rfl (XS.iloadN X2.here hx rfl (hb hby d6_27) rfl (XS.iload X2.here hx rfl (hb hby d6_28) rfl (XS.i2b X2.here hx rfl (hb hby d6_30) rfl k)))))))) ?_
  show OGo _ _ _ _ (T2.setTop (mkF m 31 #[.val (.ref a1), .val (.int (1 : Int32)), .val (.ref a3), .val (.int (1 : Int32)), .val (.int (3 : Int32)), .val (.int (1 : Int32)), .val (.int c1)] [(.int (c1.toInt8.toInt32)), (.int (1 : Int32)), (.ref a3)]))
  obtain ⟨cl8, Ar8, q8, Sz8, Ng8, Hs8, Gf8⟩ := id V2
  have hin8 : ¬ ((1 : Int32) < 0 ∨ cl8.slots.size ≤ ((1 : Int32)).toNatClampNeg) := inb_of Sz8 ⟨by decide, by decide⟩
  obtain ⟨T8, h8, X8, e8, W8, st8⟩ := stB X2 hx hZ e2 Ar8 (j := (1 : Int32)) hin8 (g := (mkF m 31 #[.val (.ref a1), .val (.int (1 : Int32)), .val (.ref a3), .val (.int (1 : Int32)), .val (.int (3 : Int32)), .val (.int (1 : Int32)), .val (.int c1)] [(.int (c1.toInt8.toInt32)), (.int (1 : Int32)), (.ref a3)])) rfl rfl (hb hby d6_31)
  refine OGo.via st8 ?_
  have V8 : Arv Z h8 a3 k3 .byte (3 : Int32) [(.int ((c0.toInt8.toInt32).toInt8.toInt32)), (.int ((c1.toInt8.toInt32).toInt8.toInt32)), (.int (0 : Int32))] (.int (0 : Int32)) := Arv.set Ar8 q8 Sz8 Ng8 Hs8 Gf8 (fits_nar_byte _) W8 1 rfl (Nat.le_of_ble_eq_true rfl)
  have K8 : Keep h0 h8 [a3] := K2.wr W8 (Or.inl (List.mem_of_getElem? (i := 0) rfl))
  have N8 := Fr.snoc X8 N2 g_a3
  show OGo _ _ _ _ (T8.setTop (mkF m 32 #[.val (.ref a1), .val (.int (1 : Int32)), .val (.ref a3), .val (.int (1 : Int32)), .val (.int (3 : Int32)), .val (.int (1 : Int32)), .val (.int c1)] []))
  refine OGo.via (fun _ k => XS.iinc X8.here hx rfl (hb hby d6_32) rfl (l' := #[.val (.ref a1), .val (.int ((1 : Int32) + (1 : Int32))), .val (.ref a3), .val (.int (1 : Int32)), .val (.int (3 : Int32)), .val (.int (1 : Int32)), .val (.int c1)]) rfl k) ?_
  show OGo _ _ _ _ (T8.setTop (mkF m 35 #[.val (.ref a1), .val (.int ((1 : Int32) + (1 : Int32))), .val (.ref a3), .val (.int (1 : Int32)), .val (.int (3 : Int32)), .val (.int (1 : Int32)), .val (.int c1)] []))
  rw [show ((1 : Int32) + (1 : Int32)) = (2 : Int32) from by decide]
  refine OGo.via (fun _ k => XS.iinc X8.here hx rfl (hb hby d6_35) rfl (l' := #[.val (.ref a1), .val (.int (2 : Int32)), .val (.ref a3), .val (.int ((1 : Int32) + (1 : Int32))), .val (.int (3 : Int32)), .val (.int (1 : Int32)), .val (.int c1)]) rfl k) ?_
  show OGo _ _ _ _ (T8.setTop (mkF m 38 #[.val (.ref a1), .val (.int (2 : Int32)), .val (.ref a3), .val (.int ((1 : Int32) + (1 : Int32))), .val (.int (3 : Int32)), .val (.int (1 : Int32)), .val (.int c1)] []))
  rw [show ((1 : Int32) + (1 : Int32)) = (2 : Int32) from by decide]
  refine OGo.via (fun _ k => XS.iinc X8.here hx rfl (hb hby d6_38) rfl (l' := #[.val (.ref a1), .val (.int (2 : Int32)), .val (.ref a3), .val (.int (2 : Int32)), .val (.int (3 : Int32)), .val (.int ((1 : Int32) + (1 : Int32))), .val (.int c1)]) rfl k) ?_
  show OGo _ _ _ _ (T8.setTop (mkF m 41 #[.val (.ref a1), .val (.int (2 : Int32)), .val (.ref a3), .val (.int (2 : Int32)), .val (.int (3 : Int32)), .val (.int ((1 : Int32) + (1 : Int32))), .val (.int c1)] []))
  rw [show ((1 : Int32) + (1 : Int32)) = (2 : Int32) from by decide]
  refine OGo.via (fun _ k => XS.goto X8.here hx rfl (pc0 := 41) (pc' := 3) rfl (hb hby d6_41) (by decide) (by decide) (XS.iload X8.here hx rfl (hb hby d6_3) rfl (XS.iload X8.here hx rfl (hb hby d6_5) rfl (XS.icmpNo X8.here hx rfl (hb hby d6_7) rfl (tlt (by decide : (2 : Int32) < (3 : Int32))).2.1 (XS.aloadN X8.here hx rfl (hb hby d6_10) rfl rfl (XS.iloadN X8.here hx rfl (hb hby d6_11) rfl k)))))) ?_
  have f13 := f7.other W8 ne_a1_a3
  obtain ⟨cl12, Ar12, q12, Sz12, Ng12, Hs12, Gf12⟩ := id f13
  have hin12 : ¬ ((2 : Int32) < 0 ∨ cl12.slots.size ≤ ((2 : Int32)).toNatClampNeg) := inb_of Sz12 ⟨by decide, by decide⟩
  have hat12 : cl12.slots[((2 : Int32)).toNatClampNeg]? = some (.int c2) := Hs12.at hin12 rfl
  refine OGo.via (X8.caload hx (j := (2 : Int32)) (v := (.int c2)) (by rw [e8]; exact Ar12.1) (State.isArrayOf_alike hZ.alike Ar12.2.1) Ar12.2.2 hin12 hat12 (g := (mkF m 12 #[.val (.ref a1), .val (.int (2 : Int32)), .val (.ref a3), .val (.int (2 : Int32)), .val (.int (3 : Int32)), .val (.int (2 : Int32)), .val (.int c1)] [(.int (2 : Int32)), (.ref a1)])) rfl rfl (hb hby d6_12)) ?_
  show OGo _ _ _ _ (T8.setTop (mkF m 13 #[.val (.ref a1), .val (.int (2 : Int32)), .val (.ref a3), .val (.int (2 : Int32)), .val (.int (3 : Int32)), .val (.int (2 : Int32)), .val (.int c1)] [(.int c2)]))
  refine OGo.via (fun _ k => XS.istore X8.here hx rfl (hb hby d6_13) rfl (l' := #[.val (.ref a1), .val (.int (2 : Int32)), .val (.ref a3), .val (.int (2 : Int32)), .val (.int (3 : Int32)), .val (.int (2 : Int32)), .val (.int c2)]) rfl (XS.iload X8.here hx rfl (hb hby d6_15) rfl (XS.sipush X8.here hx rfl (hb hby d6_17) (XS.icmpYes X8.here hx rfl (pc0 := 20) (pc' := 26) rfl (hb hby d6_20) rfl (flt hc2).2.2.2 (by decide) (by decide) (XS.aloadN X8.here hx rfl (hb hby d6_26) rfl rfl (XS.iloadN X8.here hx rfl (hb hby d6_27) rfl (XS.iload X8.here hx rfl (hb hby d6_28) rfl (XS.i2b X8.here hx rfl (hb hby d6_30) rfl k)))))))) ?_
  show OGo _ _ _ _ (T8.setTop (mkF m 31 #[.val (.ref a1), .val (.int (2 : Int32)), .val (.ref a3), .val (.int (2 : Int32)), .val (.int (3 : Int32)), .val (.int (2 : Int32)), .val (.int c2)] [(.int (c2.toInt8.toInt32)), (.int (2 : Int32)), (.ref a3)]))
  obtain ⟨cl14, Ar14, q14, Sz14, Ng14, Hs14, Gf14⟩ := id V8
  have hin14 : ¬ ((2 : Int32) < 0 ∨ cl14.slots.size ≤ ((2 : Int32)).toNatClampNeg) := inb_of Sz14 ⟨by decide, by decide⟩
  obtain ⟨T14, h14, X14, e14, W14, st14⟩ := stB X8 hx hZ e8 Ar14 (j := (2 : Int32)) hin14 (g := (mkF m 31 #[.val (.ref a1), .val (.int (2 : Int32)), .val (.ref a3), .val (.int (2 : Int32)), .val (.int (3 : Int32)), .val (.int (2 : Int32)), .val (.int c2)] [(.int (c2.toInt8.toInt32)), (.int (2 : Int32)), (.ref a3)])) rfl rfl (hb hby d6_31)
  refine OGo.via st14 ?_
  have V14 : Arv Z h14 a3 k3 .byte (3 : Int32) [(.int ((c0.toInt8.toInt32).toInt8.toInt32)), (.int ((c1.toInt8.toInt32).toInt8.toInt32)), (.int ((c2.toInt8.toInt32).toInt8.toInt32))] (.int (0 : Int32)) := Arv.set Ar14 q14 Sz14 Ng14 Hs14 Gf14 (fits_nar_byte _) W14 2 rfl (Nat.le_of_ble_eq_true rfl)
  have K14 : Keep h0 h14 [a3] := K8.wr W14 (Or.inl (List.mem_of_getElem? (i := 0) rfl))
  have N14 := Fr.snoc X14 N8 g_a3
  show OGo _ _ _ _ (T14.setTop (mkF m 32 #[.val (.ref a1), .val (.int (2 : Int32)), .val (.ref a3), .val (.int (2 : Int32)), .val (.int (3 : Int32)), .val (.int (2 : Int32)), .val (.int c2)] []))
  refine OGo.via (fun _ k => XS.iinc X14.here hx rfl (hb hby d6_32) rfl (l' := #[.val (.ref a1), .val (.int ((2 : Int32) + (1 : Int32))), .val (.ref a3), .val (.int (2 : Int32)), .val (.int (3 : Int32)), .val (.int (2 : Int32)), .val (.int c2)]) rfl k) ?_
  show OGo _ _ _ _ (T14.setTop (mkF m 35 #[.val (.ref a1), .val (.int ((2 : Int32) + (1 : Int32))), .val (.ref a3), .val (.int (2 : Int32)), .val (.int (3 : Int32)), .val (.int (2 : Int32)), .val (.int c2)] []))
  rw [show ((2 : Int32) + (1 : Int32)) = (3 : Int32) from by decide]
  refine OGo.via (fun _ k => XS.iinc X14.here hx rfl (hb hby d6_35) rfl (l' := #[.val (.ref a1), .val (.int (3 : Int32)), .val (.ref a3), .val (.int ((2 : Int32) + (1 : Int32))), .val (.int (3 : Int32)), .val (.int (2 : Int32)), .val (.int c2)]) rfl k) ?_
  show OGo _ _ _ _ (T14.setTop (mkF m 38 #[.val (.ref a1), .val (.int (3 : Int32)), .val (.ref a3), .val (.int ((2 : Int32) + (1 : Int32))), .val (.int (3 : Int32)), .val (.int (2 : Int32)), .val (.int c2)] []))
  rw [show ((2 : Int32) + (1 : Int32)) = (3 : Int32) from by decide]
  refine OGo.via (fun _ k => XS.iinc X14.here hx rfl (hb hby d6_38) rfl (l' := #[.val (.ref a1), .val (.int (3 : Int32)), .val (.ref a3), .val (.int (3 : Int32)), .val (.int (3 : Int32)), .val (.int ((2 : Int32) + (1 : Int32))), .val (.int c2)]) rfl k) ?_
  show OGo _ _ _ _ (T14.setTop (mkF m 41 #[.val (.ref a1), .val (.int (3 : Int32)), .val (.ref a3), .val (.int (3 : Int32)), .val (.int (3 : Int32)), .val (.int ((2 : Int32) + (1 : Int32))), .val (.int c2)] []))
  rw [show ((2 : Int32) + (1 : Int32)) = (3 : Int32) from by decide]
  refine OGo.via (fun _ k => XS.goto X14.here hx rfl (pc0 := 41) (pc' := 3) rfl (hb hby d6_41) (by decide) (by decide) (XS.iload X14.here hx rfl (hb hby d6_3) rfl (XS.iload X14.here hx rfl (hb hby d6_5) rfl (XS.icmpYes X14.here hx rfl (pc0 := 7) (pc' := 44) rfl (hb hby d6_7) rfl (flt (by decide : ¬ ((3 : Int32) < (3 : Int32)))).2.1 (by decide) (by decide) (XS.iload X14.here hx rfl (hb hby d6_44) rfl k))))) ?_
  show OGo _ _ _ _ (T14.setTop (mkF m 46 #[.val (.ref a1), .val (.int (3 : Int32)), .val (.ref a3), .val (.int (3 : Int32)), .val (.int (3 : Int32)), .val (.int (3 : Int32)), .val (.int c2)] [(.int (3 : Int32))]))
  have f18 := S_COMPACT_STRINGS.wr W2
  have f19 := f18.wr W8
  have f20 := f19.wr W14
  have f21 := S_SIOOBE_FORMATTER.wr W2
  have f22 := f21.wr W8
  have f23 := f22.wr W14
  refine own_retI X14 hx Bd.notSynchronized Bd.returns (hb hby d6_46) (by decide) (by decide) ?_
  show Q_rm6_3 Z _ _ _ _ _ _ _ _ _ h0 n0 _ T14.heap _
  rw [e14]
  exact ⟨rfl, N14, K14, V14, f20, f23⟩
theorem ef_rm5_3 (m : MethodId) (a1 : Addr) : entryFrame m #[(.ref a1), (.int (0 : Int32)), (.int (3 : Int32))] 6 = mkF m 0 #[.val (.ref a1), .val (.int (0 : Int32)), .val (.int (3 : Int32)), .unset, .unset, .unset] [] := by
  first | (simp [entryFrame, mkF, argsToLocals, Value.category]; done) | rfl
def Q_rm5_3 (Z : State) (a1 : Addr) (k1 : ClassId) (w : Int32) (fm : Value) (c0 : Int32) (c1 : Int32) (c2 : Int32) (h0 : Heap) (n0 : Nat) (v : Option Value) (h : Heap) (L : List Loc) : Prop := ∃ vb : Addr, ∃ kb : ClassId, v = some (.ref vb) ∧ Fr n0 L ∧ Keep h0 h [] ∧ h0.size ≤ vb ∧ Arv Z h vb kb .byte (3 : Int32) [(.int ((c0.toInt8.toInt32).toInt8.toInt32)), (.int ((c1.toInt8.toInt32).toInt8.toInt32)), (.int ((c2.toInt8.toInt32).toInt8.toInt32))] (.int (0 : Int32)) ∧ Sta Z h "java/lang/String" "COMPACT_STRINGS" "Z" (.int w) ∧ Sta Z h "jdk/internal/util/Preconditions" "SIOOBE_FORMATTER" "Ljava/util/function/BiFunction;" fm
abbrev R_rm5_3 : Room := ⟨1, 1, 3, 18⟩
set_option maxRecDepth 65536 in
set_option maxHeartbeats 40000000 in
theorem rm5_3 (l : Launch) (Z : State) (a0 : Array Value) (hw : ∀ d ∈ tables_1, d.before a0 Z = true) (ws : List Jvm.Cond) (a1 : Addr) (k1 : ClassId) (w : Int32) (fm : Value) (c0 : Int32) (c1 : Int32) (c2 : Int32) (h0 : Heap) (n0 : Nat) (Z0 : n0 ≤ h0.size) (V_a1 : Arv Z h0 a1 k1 .char (3 : Int32) [(.int c0), (.int c1), (.int c2)] (.int (0 : Int32))) (S_COMPACT_STRINGS : Sta Z h0 "java/lang/String" "COMPACT_STRINGS" "Z" (.int w)) (S_SIOOBE_FORMATTER : Sta Z h0 "jdk/internal/util/Preconditions" "SIOOBE_FORMATTER" "Ljava/util/function/BiFunction;" fm) (hc0 : ¬ (255 : Int32) < c0) (hc1 : ¬ (255 : Int32) < c1) (hc2 : ¬ (255 : Int32) < c2) :
    MetFree l own_y8 (head1 (Jvm.Cond.code own_y8 jdk_52_method_16_code 6 (some (.array .byte)) :: ws) R_rm5_3) (fun a U => a = #[(.ref a1), (.int (0 : Int32)), (.int (3 : Int32))] ∧ Z.Warmed39 U.vm ∧ U.heap = h0) (fun _ _ _ _ _ => True) (fun _ U o U' => ∃ v L, o = .returned v ∧ Q_rm5_3 Z a1 k1 w fm c0 c1 c2 h0 n0 v U'.heap L ∧ FrameEnd U o U' L R_rm5_3.cells R_rm5_3.slots) := by
  refine MetFree.of_bodySF (plainFor_of_name pn_StringUTF16) hisR ?_
  intro p e s m args below meth c s₁ Bd hml0 hP hK
  obtain ⟨rfl, hZ, hh⟩ := hP
  have hx := Bd.exec
  have hby := Bd.bytes
  have hml : c.maxLocals = 6 := hml0
  have hown : s.vm.findClass "java/lang/StringUTF16" = some m.cls := findClass_of_methodNamed Bd.named
  have hnm := (name_of_methodNamed Bd.named Bd.method).1
  have X0 : Stand p l e R_rm5_3 s m #[(.ref a1), (.int (0 : Int32)), (.int (3 : Int32))] below meth c s₁ [] 0 0 := Stand.of_body Bd
  have e0 : s₁.heap = h0 := by rw [← hh, Bd.state]; rfl
  have N0 := Fr.nil n0
  show OGo p.tables e below (own_Kq s (fun v h L => Q_rm5_3 Z a1 k1 w fm c0 c1 c2 h0 n0 v h L) R_rm5_3.cells R_rm5_3.slots) (s₁.setTop (entryFrame m #[(.ref a1), (.int (0 : Int32)), (.int (3 : Int32))] 6))
  refine OGo.cast (ef_rm5_3 m a1) ?_
  show OGo _ _ _ _ (s₁.setTop (mkF m 0 #[.val (.ref a1), .val (.int (0 : Int32)), .val (.int (3 : Int32)), .unset, .unset, .unset] []))
  refine OGo.via (fun _ k => XS.iloadN X0.here hx rfl (hb hby d5_0) rfl k) ?_
  obtain ⟨T1, h1, ka1, X1, e1, E1, A1, Y1, st1⟩ := newPE (ad := "[B") X0 hx hZ (own_w hw 26 rfl) e0 (g := (mkF m 1 #[.val (.ref a1), .val (.int (0 : Int32)), .val (.int (3 : Int32)), .unset, .unset, .unset] [(.int (3 : Int32))])) rfl (hb hby d5_1) rfl (by decide) (cap := 3) (by decide) (by decide) (by decide) (by decide) (by decide)
  obtain ⟨b1, g1⟩ : ∃ z, z = h0.size := ⟨_, rfl⟩
  rw [← g1] at A1 Y1 st1
  refine OGo.via st1 ?_
  have K1 : Keep h0 h1 [] := (Keep.refl h0 []).ext E1
  have lt_a1_b1 : a1 < b1 := Nat.lt_of_lt_of_le V_a1.lt (Nat.le_of_eq g1.symm)
  have sz_b1 : h0.size ≤ b1 := Nat.le_trans (Keep.refl h0 []).1 (Nat.le_of_eq g1.symm)
  have g_b1 : n0 ≤ b1 := Nat.le_trans Z0 sz_b1
  have V1 : Arv Z h1 b1 ka1 .byte (3 : Int32) [(.int (0 : Int32)), (.int (0 : Int32)), (.int (0 : Int32))] (.int (0 : Int32)) := (Arv.new A1 (by decide)).pad (pad_rep [] (.int (0 : Int32)) 3)
  show OGo _ _ _ _ (T1.setTop (mkF m 3 #[.val (.ref a1), .val (.int (0 : Int32)), .val (.int (3 : Int32)), .unset, .unset, .unset] [(.ref b1)]))
  refine OGo.via (fun _ k => XS.astoreN X1.here hx rfl (hb hby d5_3) rfl rfl (l' := #[.val (.ref a1), .val (.int (0 : Int32)), .val (.int (3 : Int32)), .val (.ref b1), .unset, .unset]) rfl (XS.aloadN X1.here hx rfl (hb hby d5_4) rfl rfl (XS.iloadN X1.here hx rfl (hb hby d5_5) rfl (XS.aloadN X1.here hx rfl (hb hby d5_6) rfl rfl (XS.iconst X1.here hx rfl (hb hby d5_7) (XS.iloadN X1.here hx rfl (hb hby d5_8) rfl k)))))) ?_
  have f3 := S_COMPACT_STRINGS.ext E1
  have f4 := S_SIOOBE_FORMATTER.ext E1
  have f5 := V_a1.ext E1
  obtain ⟨_, T2, Lc2, X2, hQ2, st2⟩ := own_open X1 (Jvm.LawKit.callS X1 hx (y := own_y7) hown (mvT hZ (own_w hw 27 rfl)) (mvT hZ (own_w hw 28 rfl)) (mvT hZ (own_w hw 24 rfl)) (mvT hZ (own_w hw 29 rfl)) (by decide) (backOf (W := 0) (rm6_3 l Z a0 hw [] a1 b1 k1 ka1 c0 c1 c2 w fm h1 n0 (Nat.le_trans Z0 K1.1) f3 f4 f5 V1 (Nat.ne_of_lt lt_a1_b1) g_b1 hc0 hc1 hc2) hZ (own_w hw 29 rfl) (own_w hw 24 rfl) (by decide) (by decide)) (g := (mkF m 9 #[.val (.ref a1), .val (.int (0 : Int32)), .val (.int (3 : Int32)), .val (.ref b1), .unset, .unset] [(.int (3 : Int32)), (.int (0 : Int32)), (.ref b1), (.int (0 : Int32)), (.ref a1)])) rfl (by rw [hml]; rfl) (argsL := [(.ref a1), (.int (0 : Int32)), (.ref b1), (.int (0 : Int32)), (.int (3 : Int32))]) (rest := []) (lenOf pd_1 rfl) rfl (by show 2 * 0 + _ ≤ _; exact Nat.le_of_eq rfl) (hb hby d5_9) (fun _ _ => ⟨rfl, e1, (by decide : 1 + 0 ≤ _), (by decide : 3 + 0 ≤ _)⟩))
  obtain ⟨rfl, N2q, r2_0, r2_1, r2_2, r2_3⟩ := hQ2
  have N2 := Fr.app N0 N2q
  have K2 : Keep h0 T2.heap [] := K1.trans r2_0 (allS (Or.inr sz_b1) all0)
  refine OGo.via st2 ?_
  show OGo _ _ _ _ (T2.setTop (mkF m 12 #[.val (.ref a1), .val (.int (0 : Int32)), .val (.int (3 : Int32)), .val (.ref b1), .unset, .unset] [(.int (3 : Int32))]))
  refine OGo.via (fun _ k => XS.istore X2.here hx rfl (hb hby d5_12) rfl (l' := #[.val (.ref a1), .val (.int (0 : Int32)), .val (.int (3 : Int32)), .val (.ref b1), .val (.int (3 : Int32)), .unset]) rfl (XS.iload X2.here hx rfl (hb hby d5_14) rfl (XS.iloadN X2.here hx rfl (hb hby d5_16) rfl (XS.icmpYes X2.here hx rfl (pc0 := 17) (pc' := 57) rfl (hb hby d5_17) rfl (teq (by decide : (3 : Int32) = (3 : Int32))).1 (by decide) (by decide) (XS.aloadN X2.here hx rfl (hb hby d5_57) rfl rfl k))))) ?_
  show OGo _ _ _ _ (T2.setTop (mkF m 58 #[.val (.ref a1), .val (.int (0 : Int32)), .val (.int (3 : Int32)), .val (.ref b1), .val (.int (3 : Int32)), .unset] [(.ref b1)]))
  refine own_retA X2 hx Bd.notSynchronized Bd.returns rfl rfl (hb hby d5_58) (by decide) (by decide) ?_
  show Q_rm5_3 Z _ _ _ _ _ _ _ h0 n0 _ T2.heap _
  exact ⟨b1, ka1, rfl, N2, K2, sz_b1, r2_1, r2_2, r2_3⟩
theorem ef_rm7_3 (m : MethodId) (a1 : Addr) : entryFrame m #[(.ref a1), (.int (3 : Int32))] 2 = mkF m 0 #[.val (.ref a1), .val (.int (3 : Int32))] [] := by
  first | (simp [entryFrame, mkF, argsToLocals, Value.category]; done) | rfl
def Q_rm7_3 (Z : State) (a1 : Addr) (k1 : ClassId) (vs : List Value) (h0 : Heap) (n0 : Nat) (v : Option Value) (h : Heap) (L : List Loc) : Prop := v = some (.int (0 : Int32)) ∧ Fr n0 L ∧ h = h0
abbrev R_rm7_3 : Room := ⟨0, 0, 0, 0⟩
set_option maxRecDepth 65536 in
set_option maxHeartbeats 40000000 in
theorem rm7_3 (l : Launch) (Z : State) (a0 : Array Value) (hw : ∀ d ∈ tables_1, d.before a0 Z = true) (ws : List Jvm.Cond) (a1 : Addr) (k1 : ClassId) (vs : List Value) (h0 : Heap) (n0 : Nat) (Z0 : n0 ≤ h0.size) (V_a1 : Arv Z h0 a1 k1 .byte (3 : Int32) vs (.int (0 : Int32))) :
    MetFree l own_y9 (head1 (Jvm.Cond.code own_y9 jdk_52_method_15_code 2 (some .byte) :: ws) R_rm7_3) (fun a U => a = #[(.ref a1), (.int (3 : Int32))] ∧ Z.Warmed39 U.vm ∧ U.heap = h0) (fun _ _ _ _ _ => True) (fun _ U o U' => ∃ v L, o = .returned v ∧ Q_rm7_3 Z a1 k1 vs h0 n0 v U'.heap L ∧ FrameEnd U o U' L R_rm7_3.cells R_rm7_3.slots) := by
  refine MetFree.of_bodySF (plainFor_of_name pn_StringUTF16) hisR ?_
  intro p e s m args below meth c s₁ Bd hml0 hP hK
  obtain ⟨rfl, hZ, hh⟩ := hP
  have hx := Bd.exec
  have hby := Bd.bytes
  have hml : c.maxLocals = 2 := hml0
  have hown : s.vm.findClass "java/lang/StringUTF16" = some m.cls := findClass_of_methodNamed Bd.named
  have hnm := (name_of_methodNamed Bd.named Bd.method).1
  have X0 : Stand p l e R_rm7_3 s m #[(.ref a1), (.int (3 : Int32))] below meth c s₁ [] 0 0 := Stand.of_body Bd
  have e0 : s₁.heap = h0 := by rw [← hh, Bd.state]; rfl
  have N0 := Fr.nil n0
  show OGo p.tables e below (own_Kq s (fun v h L => Q_rm7_3 Z a1 k1 vs h0 n0 v h L) R_rm7_3.cells R_rm7_3.slots) (s₁.setTop (entryFrame m #[(.ref a1), (.int (3 : Int32))] 2))
  refine OGo.cast (ef_rm7_3 m a1) ?_
  show OGo _ _ _ _ (s₁.setTop (mkF m 0 #[.val (.ref a1), .val (.int (3 : Int32))] []))
  refine OGo.via (fun _ k => XS.iloadN X0.here hx rfl (hb hby d7_0) rfl (XS.aloadN X0.here hx rfl (hb hby d7_1) rfl rfl k)) ?_
  obtain ⟨cl1, Ar1, q1, Sz1, Ng1, Hs1, Gf1⟩ := id V_a1
  refine OGo.via (X0.arraylength hx (by rw [e0]; exact Ar1.1) (State.isArrayOf_alike hZ.alike Ar1.2.1) (g := (mkF m 2 #[.val (.ref a1), .val (.int (3 : Int32))] [(.ref a1), (.int (3 : Int32))])) rfl rfl (hb hby d7_2)) ?_
  rw [len_of Sz1 Ng1]
  show OGo _ _ _ _ (s₁.setTop (mkF m 3 #[.val (.ref a1), .val (.int (3 : Int32))] [(.int (3 : Int32)), (.int (3 : Int32))]))
  refine OGo.via (fun _ k => XS.isub X0.here hx rfl (hb hby d7_3) rfl k) ?_
  show OGo _ _ _ _ (s₁.setTop (mkF m 4 #[.val (.ref a1), .val (.int (3 : Int32))] [(.int ((3 : Int32) - (3 : Int32)))]))
  rw [show ((3 : Int32) - (3 : Int32)) = (0 : Int32) from by decide]
  refine OGo.via (fun _ k => XS.bipush X0.here hx rfl (hb hby d7_4) (XS.iushr X0.here hx rfl (hb hby d7_6) rfl k)) ?_
  show OGo _ _ _ _ (s₁.setTop (mkF m 7 #[.val (.ref a1), .val (.int (3 : Int32))] [(.int (((0 : Int32).toUInt32 >>> ((31 : Int32) &&& 31).toUInt32).toInt32))]))
  rw [show (((0 : Int32).toUInt32 >>> ((31 : Int32) &&& 31).toUInt32).toInt32) = (0 : Int32) from by decide]
  refine OGo.via (fun _ k => XS.i2b X0.here hx rfl (hb hby d7_7) rfl k) ?_
  show OGo _ _ _ _ (s₁.setTop (mkF m 8 #[.val (.ref a1), .val (.int (3 : Int32))] [(.int ((0 : Int32).toInt8.toInt32))]))
  rw [show ((0 : Int32).toInt8.toInt32) = (0 : Int32) from by decide]
  show OGo _ _ _ _ (s₁.setTop (mkF m 8 #[.val (.ref a1), .val (.int (3 : Int32))] [(.int (0 : Int32))]))
  refine own_retN (t := .byte) (by simp) X0 hx Bd.notSynchronized Bd.returns (hb hby d7_8) (by decide) (by decide) ?_
  show Q_rm7_3 Z _ _ _ h0 n0 _ s₁.heap _
  exact ⟨rfl, N0, e0⟩
theorem ef_rm3_3 (m : MethodId) (a1 : Addr) (a2 : Addr) : entryFrame m #[(.ref a1), (.ref a2), (.int (0 : Int32)), (.int (3 : Int32)), .null] 6 = mkF m 0 #[.val (.ref a1), .val (.ref a2), .val (.int (0 : Int32)), .val (.int (3 : Int32)), .val .null, .unset] [] := by
  first | (simp [entryFrame, mkF, argsToLocals, Value.category]; done) | rfl
def Q_rm3_3 (Z : State) (a1 : Addr) (a2 : Addr) (k1 : ClassId) (w : Int32) (fm : Value) (c0 : Int32) (c1 : Int32) (c2 : Int32) (h0 : Heap) (n0 : Nat) (v : Option Value) (h : Heap) (L : List Loc) : Prop := ∃ vb : Addr, ∃ kb : ClassId, v = none ∧ Fr n0 L ∧ Keep h0 h [a1] ∧ h0.size ≤ vb ∧ Exa Z h a1 "java/lang/String" ∧ Fld Z h a1 "java/lang/String" "value" "[B" (.ref vb) ∧ Fld Z h a1 "java/lang/String" "coder" "B" (.int (0 : Int32)) ∧ Arv Z h vb kb .byte (3 : Int32) [(.int ((c0.toInt8.toInt32).toInt8.toInt32)), (.int ((c1.toInt8.toInt32).toInt8.toInt32)), (.int ((c2.toInt8.toInt32).toInt8.toInt32))] (.int (0 : Int32)) ∧ Sta Z h "java/lang/String" "COMPACT_STRINGS" "Z" (.int w) ∧ Sta Z h "jdk/internal/util/Preconditions" "SIOOBE_FORMATTER" "Ljava/util/function/BiFunction;" fm
abbrev R_rm3_3 : Room := ⟨2, 1, 3, 35⟩
set_option maxRecDepth 65536 in
set_option maxHeartbeats 40000000 in
theorem rm3_3 (l : Launch) (Z : State) (a0 : Array Value) (hw : ∀ d ∈ tables_1, d.before a0 Z = true) (ws : List Jvm.Cond) (a1 : Addr) (a2 : Addr) (k1 : ClassId) (w : Int32) (fm : Value) (c0 : Int32) (c1 : Int32) (c2 : Int32) (h0 : Heap) (n0 : Nat) (Z0 : n0 ≤ h0.size) (E_a1 : Exa Z h0 a1 "java/lang/String") (F_value_a1 : Fld Z h0 a1 "java/lang/String" "value" "[B" .null) (F_coder_a1 : Fld Z h0 a1 "java/lang/String" "coder" "B" (.int (0 : Int32))) (V_a2 : Arv Z h0 a2 k1 .char (3 : Int32) [(.int c0), (.int c1), (.int c2)] (.int (0 : Int32))) (g_a1 : n0 ≤ a1) (S_COMPACT_STRINGS : Sta Z h0 "java/lang/String" "COMPACT_STRINGS" "Z" (.int w)) (S_SIOOBE_FORMATTER : Sta Z h0 "jdk/internal/util/Preconditions" "SIOOBE_FORMATTER" "Ljava/util/function/BiFunction;" fm) (hw0 : ¬ w = (0 : Int32)) (hc0 : ¬ (255 : Int32) < c0) (hc1 : ¬ (255 : Int32) < c1) (hc2 : ¬ (255 : Int32) < c2) :
    MetFree l own_y10 (head1 (Jvm.Cond.code own_y10 jdk_42_method_149_code 6 none :: ws) R_rm3_3) (fun a U => a = #[(.ref a1), (.ref a2), (.int (0 : Int32)), (.int (3 : Int32)), .null] ∧ Z.Warmed39 U.vm ∧ U.heap = h0) (fun _ _ _ _ _ => True) (fun _ U o U' => ∃ v L, o = .returned v ∧ Q_rm3_3 Z a1 a2 k1 w fm c0 c1 c2 h0 n0 v U'.heap L ∧ FrameEnd U o U' L R_rm3_3.cells R_rm3_3.slots) := by
  refine MetFree.of_bodySF (plainFor_of_name pn_String) hisR ?_
  intro p e s m args below meth c s₁ Bd hml0 hP hK
  obtain ⟨rfl, hZ, hh⟩ := hP
  have hx := Bd.exec
  have hby := Bd.bytes
  have hml : c.maxLocals = 6 := hml0
  have hown : s.vm.findClass "java/lang/String" = some m.cls := findClass_of_methodNamed Bd.named
  have hnm := (name_of_methodNamed Bd.named Bd.method).1
  have X0 : Stand p l e R_rm3_3 s m #[(.ref a1), (.ref a2), (.int (0 : Int32)), (.int (3 : Int32)), .null] below meth c s₁ [] 0 0 := Stand.of_body Bd
  have e0 : s₁.heap = h0 := by rw [← hh, Bd.state]; rfl
  have N0 := Fr.nil n0
  show OGo p.tables e below (own_Kq s (fun v h L => Q_rm3_3 Z a1 a2 k1 w fm c0 c1 c2 h0 n0 v h L) R_rm3_3.cells R_rm3_3.slots) (s₁.setTop (entryFrame m #[(.ref a1), (.ref a2), (.int (0 : Int32)), (.int (3 : Int32)), .null] 6))
  refine OGo.cast (ef_rm3_3 m a1 a2) ?_
  show OGo _ _ _ _ (s₁.setTop (mkF m 0 #[.val (.ref a1), .val (.ref a2), .val (.int (0 : Int32)), .val (.int (3 : Int32)), .val .null, .unset] []))
  refine OGo.via (fun _ k => XS.aloadN X0.here hx rfl (hb hby d3_0) rfl rfl k) ?_
  obtain ⟨T1, X1, e1, st1⟩ := initO X0 hx hZ hown (own_w hw 18 rfl) (own_w hw 19 rfl) (own_w hw 20 rfl) e0 (g := (mkF m 1 #[.val (.ref a1), .val (.ref a2), .val (.int (0 : Int32)), .val (.int (3 : Int32)), .val .null, .unset] [(.ref a1)])) rfl (by rw [hml]; rfl) rfl (hb hby d3_1) (by decide) (W := 0) (by show 2 * 0 + _ ≤ _; exact Nat.le_of_eq rfl) (by decide)
  refine OGo.via st1 ?_
  show OGo _ _ _ _ (T1.setTop (mkF m 4 #[.val (.ref a1), .val (.ref a2), .val (.int (0 : Int32)), .val (.int (3 : Int32)), .val .null, .unset] []))
  refine OGo.via (fun _ k => XS.iloadN X1.here hx rfl (hb hby d3_4) rfl (XS.ifYes X1.here hx rfl (pc0 := 5) (pc' := 27) rfl (hb hby d3_5) rfl ((if0 _ _).trans (feq (by decide : ¬ ((3 : Int32) = (0 : Int32)))).2) (by decide) (by decide) k)) ?_
  obtain ⟨T2, X2, e2, st2⟩ := getS2 X1 hx hZ hown (host := "") (Or.inl (own_w hw 21 rfl)) Via.refl e1 S_COMPACT_STRINGS (g := (mkF m 27 #[.val (.ref a1), .val (.ref a2), .val (.int (0 : Int32)), .val (.int (3 : Int32)), .val .null, .unset] [])) rfl (hb hby d3_27)
  refine OGo.via st2 ?_
  show OGo _ _ _ _ (T2.setTop (mkF m 30 #[.val (.ref a1), .val (.ref a2), .val (.int (0 : Int32)), .val (.int (3 : Int32)), .val .null, .unset] [(.int w)]))
  refine OGo.via (fun _ k => XS.ifNo X2.here hx rfl (hb hby d3_30) rfl ((if0 _ _).trans (feq hw0).1) (XS.aloadN X2.here hx rfl (hb hby d3_33) rfl rfl (XS.iloadN X2.here hx rfl (hb hby d3_34) rfl (XS.iloadN X2.here hx rfl (hb hby d3_35) rfl k)))) ?_
  obtain ⟨_, T3, Lc3, X3, hQ3, st3⟩ := own_open X2 (Jvm.LawKit.callS X2 hx (y := own_y8) hown (mvT hZ (own_w hw 22 rfl)) (mvT hZ (own_w hw 23 rfl)) (mvT hZ (own_w hw 24 rfl)) (mvT hZ (own_w hw 25 rfl)) (by decide) (backOf (W := 0) (rm5_3 l Z a0 hw [] a2 k1 w fm c0 c1 c2 h0 n0 Z0 V_a2 S_COMPACT_STRINGS S_SIOOBE_FORMATTER hc0 hc1 hc2) hZ (own_w hw 25 rfl) (own_w hw 24 rfl) (by decide) (by decide)) (g := (mkF m 36 #[.val (.ref a1), .val (.ref a2), .val (.int (0 : Int32)), .val (.int (3 : Int32)), .val .null, .unset] [(.int (3 : Int32)), (.int (0 : Int32)), (.ref a2)])) rfl (by rw [hml]; rfl) (argsL := [(.ref a2), (.int (0 : Int32)), (.int (3 : Int32))]) (rest := []) (lenOf pd_2 rfl) rfl (by show 2 * 0 + _ ≤ _; exact Nat.le_of_eq rfl) (hb hby d3_36) (fun _ _ => ⟨rfl, e2, (by decide : 0 + 1 ≤ _), (by decide : 0 + 3 ≤ _)⟩))
  obtain ⟨vb, kb, rfl, N3q, r3_0, r3_1, r3_2, r3_3, r3_4⟩ := hQ3
  have N3 := Fr.app N0 N3q
  have K3 : Keep h0 T3.heap [a1] := (Keep.refl h0 [a1]).trans r3_0 all0
  have lt_a1_vb : a1 < vb := Nat.lt_of_lt_of_le E_a1.lt r3_1
  have lt_a2_vb : a2 < vb := Nat.lt_of_lt_of_le V_a2.lt r3_1
  have sz_vb : h0.size ≤ vb := Nat.le_trans (Keep.refl h0 [a1]).1 r3_1
  have g_vb : n0 ≤ vb := Nat.le_trans Z0 sz_vb
  refine OGo.via st3 ?_
  show OGo _ _ _ _ (T3.setTop (mkF m 39 #[.val (.ref a1), .val (.ref a2), .val (.int (0 : Int32)), .val (.int (3 : Int32)), .val .null, .unset] [(.ref vb)]))
  refine OGo.via (fun _ k => XS.astore X3.here hx rfl (hb hby d3_39) rfl rfl (l' := #[.val (.ref a1), .val (.ref a2), .val (.int (0 : Int32)), .val (.int (3 : Int32)), .val .null, .val (.ref vb)]) rfl (XS.aloadN X3.here hx rfl (hb hby d3_41) rfl rfl (XS.aload X3.here hx rfl (hb hby d3_42) rfl rfl (XS.iloadN X3.here hx rfl (hb hby d3_44) rfl k)))) ?_
  obtain ⟨_, T4, Lc4, X4, hQ4, st4⟩ := own_open X3 (Jvm.LawKit.callS X3 hx (y := own_y9) hown (mvT hZ (own_w hw 30 rfl)) (mvT hZ (own_w hw 31 rfl)) (mvT hZ (own_w hw 24 rfl)) (mvT hZ (own_w hw 32 rfl)) (by decide) (backOf (W := 1) (rm7_3 l Z a0 hw [] vb kb [(.int ((c0.toInt8.toInt32).toInt8.toInt32)), (.int ((c1.toInt8.toInt32).toInt8.toInt32)), (.int ((c2.toInt8.toInt32).toInt8.toInt32))] T3.heap n0 (Nat.le_trans Z0 K3.1) r3_2) hZ (own_w hw 32 rfl) (own_w hw 24 rfl) (by decide) (by decide)) (g := (mkF m 45 #[.val (.ref a1), .val (.ref a2), .val (.int (0 : Int32)), .val (.int (3 : Int32)), .val .null, .val (.ref vb)] [(.int (3 : Int32)), (.ref vb), (.ref a1)])) rfl (by rw [hml]; rfl) (argsL := [(.ref vb), (.int (3 : Int32))]) (rest := [(.ref a1)]) (lenOf pd_3 rfl) rfl (by show 2 * 0 + _ ≤ _; exact Nat.le_of_eq rfl) (hb hby d3_45) (fun _ _ => ⟨rfl, rfl, (by decide : 1 + 0 ≤ _), (by decide : 3 + 0 ≤ _)⟩))
  obtain ⟨rfl, N4q, r4_0⟩ := hQ4
  have N4 := Fr.app N3 N4q
  refine OGo.via st4 ?_
  show OGo _ _ _ _ (T4.setTop (mkF m 48 #[.val (.ref a1), .val (.ref a2), .val (.int (0 : Int32)), .val (.int (3 : Int32)), .val .null, .val (.ref vb)] [(.int (0 : Int32)), (.ref a1)]))
  have f6 := F_coder_a1.keep r3_0 nin0
  have f7 := E_a1.keep r3_0
  obtain ⟨T5, h5, X5, e5, W5, st5⟩ := putFN X4 hx hZ hown (own_w hw 33 rfl) Via.refl r4_0 f6 f7 (Or.inr ⟨(own_w hw 34 rfl), rfl, hnm⟩) (own_w hw 9 rfl) (ty := .byte) (v' := (.int (0 : Int32))) (by decide) rfl (by decide) (g := (mkF m 48 #[.val (.ref a1), .val (.ref a2), .val (.int (0 : Int32)), .val (.int (3 : Int32)), .val .null, .val (.ref vb)] [(.int (0 : Int32)), (.ref a1)])) rfl rfl (hb hby d3_48)
  refine OGo.via st5 ?_
  have Fw5 := f6.same W5
  have K5 : Keep h0 h5 [a1] := K3.wr W5 (Or.inl (List.mem_of_getElem? (i := 0) rfl))
  have N5 := Fr.snoc X5 N4 g_a1
  show OGo _ _ _ _ (T5.setTop (mkF m 51 #[.val (.ref a1), .val (.ref a2), .val (.int (0 : Int32)), .val (.int (3 : Int32)), .val .null, .val (.ref vb)] []))
  refine OGo.via (fun _ k => XS.aloadN X5.here hx rfl (hb hby d3_51) rfl rfl (XS.aload X5.here hx rfl (hb hby d3_52) rfl rfl k)) ?_
  have f9 := F_value_a1.keep r3_0 nin0
  have f10 := f9.other W5 (Or.inr (slot_ne (Or.inr (own_w hw 36 rfl)) (Or.inr (own_w hw 34 rfl)) (by decide) (t := (.array .byte)) (t' := .byte) (by decide) (by decide)))
  have f11 := f7.wr W5
  obtain ⟨T8, h8, X8, e8, W8, st8⟩ := putF X5 hx hZ hown (host := "") (Or.inl (own_w hw 35 rfl)) Via.refl e5 f10 f11 (Or.inr ⟨(own_w hw 36 rfl), rfl, hnm⟩) (own_w hw 9 rfl) (ty := (.array .byte)) (by decide) rfl rfl (g := (mkF m 54 #[.val (.ref a1), .val (.ref a2), .val (.int (0 : Int32)), .val (.int (3 : Int32)), .val .null, .val (.ref vb)] [(.ref vb), (.ref a1)])) rfl rfl (hb hby d3_54)
  refine OGo.via st8 ?_
  have Fw8 := f10.same W8
  have K8 : Keep h0 h8 [a1] := K5.wr W8 (Or.inl (List.mem_of_getElem? (i := 0) rfl))
  have N8 := Fr.snoc X8 N5 g_a1
  show OGo _ _ _ _ (T8.setTop (mkF m 57 #[.val (.ref a1), .val (.ref a2), .val (.int (0 : Int32)), .val (.int (3 : Int32)), .val .null, .val (.ref vb)] []))
  show OGo _ _ _ _ (T8.setTop (mkF m 57 #[.val (.ref a1), .val (.ref a2), .val (.int (0 : Int32)), .val (.int (3 : Int32)), .val .null, .val (.ref vb)] []))
  have f12 := f11.wr W8
  have f13 := Fw5.other W8 (Or.inr (slot_ne (Or.inr (own_w hw 34 rfl)) (Or.inr (own_w hw 36 rfl)) (by decide) (t := .byte) (t' := (.array .byte)) (by decide) (by decide)))
  have f14 := r3_2.other W5 (Nat.ne_of_gt lt_a1_vb)
  have f15 := f14.other W8 (Nat.ne_of_gt lt_a1_vb)
  have f16 := r3_3.wr W5
  have f17 := f16.wr W8
  have f18 := r3_4.wr W5
  have f19 := f18.wr W8
  refine own_retV X8 hx Bd.notSynchronized Bd.returns (hb hby d3_57) (by decide) (by decide) ?_
  show Q_rm3_3 Z _ _ _ _ _ _ _ _ h0 n0 _ T8.heap _
  rw [e8]
  exact ⟨vb, kb, rfl, N8, K8, sz_vb, f12, Fw8, f13, f15, f17, f19⟩
theorem ef_rm2_3 (m : MethodId) (a1 : Addr) (a2 : Addr) : entryFrame m #[(.ref a1), (.ref a2)] 2 = mkF m 0 #[.val (.ref a1), .val (.ref a2)] [] := by
  first | (simp [entryFrame, mkF, argsToLocals, Value.category]; done) | rfl
def Q_rm2_3 (Z : State) (a1 : Addr) (a2 : Addr) (k1 : ClassId) (w : Int32) (fm : Value) (c0 : Int32) (c1 : Int32) (c2 : Int32) (h0 : Heap) (n0 : Nat) (v : Option Value) (h : Heap) (L : List Loc) : Prop := ∃ vb : Addr, ∃ kb : ClassId, v = none ∧ Fr n0 L ∧ Keep h0 h [a1] ∧ h0.size ≤ vb ∧ Exa Z h a1 "java/lang/String" ∧ Fld Z h a1 "java/lang/String" "value" "[B" (.ref vb) ∧ Fld Z h a1 "java/lang/String" "coder" "B" (.int (0 : Int32)) ∧ Arv Z h vb kb .byte (3 : Int32) [(.int ((c0.toInt8.toInt32).toInt8.toInt32)), (.int ((c1.toInt8.toInt32).toInt8.toInt32)), (.int ((c2.toInt8.toInt32).toInt8.toInt32))] (.int (0 : Int32)) ∧ Sta Z h "java/lang/String" "COMPACT_STRINGS" "Z" (.int w) ∧ Sta Z h "jdk/internal/util/Preconditions" "SIOOBE_FORMATTER" "Ljava/util/function/BiFunction;" fm
abbrev R_rm2_3 : Room := ⟨3, 1, 3, 52⟩
set_option maxRecDepth 65536 in
set_option maxHeartbeats 40000000 in
theorem rm2_3 (l : Launch) (Z : State) (a0 : Array Value) (hw : ∀ d ∈ tables_1, d.before a0 Z = true) (ws : List Jvm.Cond) (a1 : Addr) (a2 : Addr) (k1 : ClassId) (w : Int32) (fm : Value) (c0 : Int32) (c1 : Int32) (c2 : Int32) (h0 : Heap) (n0 : Nat) (Z0 : n0 ≤ h0.size) (E_a1 : Exa Z h0 a1 "java/lang/String") (F_value_a1 : Fld Z h0 a1 "java/lang/String" "value" "[B" .null) (F_coder_a1 : Fld Z h0 a1 "java/lang/String" "coder" "B" (.int (0 : Int32))) (V_a2 : Arv Z h0 a2 k1 .char (3 : Int32) [(.int c0), (.int c1), (.int c2)] (.int (0 : Int32))) (g_a1 : n0 ≤ a1) (S_COMPACT_STRINGS : Sta Z h0 "java/lang/String" "COMPACT_STRINGS" "Z" (.int w)) (S_SIOOBE_FORMATTER : Sta Z h0 "jdk/internal/util/Preconditions" "SIOOBE_FORMATTER" "Ljava/util/function/BiFunction;" fm) (hw0 : ¬ w = (0 : Int32)) (hc0 : ¬ (255 : Int32) < c0) (hc1 : ¬ (255 : Int32) < c1) (hc2 : ¬ (255 : Int32) < c2) :
    MetFree l own_y11 (head1 (Jvm.Cond.code own_y11 jdk_42_method_3_code 2 none :: ws) R_rm2_3) (fun a U => a = #[(.ref a1), (.ref a2)] ∧ Z.Warmed39 U.vm ∧ U.heap = h0) (fun _ _ _ _ _ => True) (fun _ U o U' => ∃ v L, o = .returned v ∧ Q_rm2_3 Z a1 a2 k1 w fm c0 c1 c2 h0 n0 v U'.heap L ∧ FrameEnd U o U' L R_rm2_3.cells R_rm2_3.slots) := by
  refine MetFree.of_bodySF (plainFor_of_name pn_String) hisR ?_
  intro p e s m args below meth c s₁ Bd hml0 hP hK
  obtain ⟨rfl, hZ, hh⟩ := hP
  have hx := Bd.exec
  have hby := Bd.bytes
  have hml : c.maxLocals = 2 := hml0
  have hown : s.vm.findClass "java/lang/String" = some m.cls := findClass_of_methodNamed Bd.named
  have hnm := (name_of_methodNamed Bd.named Bd.method).1
  have X0 : Stand p l e R_rm2_3 s m #[(.ref a1), (.ref a2)] below meth c s₁ [] 0 0 := Stand.of_body Bd
  have e0 : s₁.heap = h0 := by rw [← hh, Bd.state]; rfl
  have N0 := Fr.nil n0
  show OGo p.tables e below (own_Kq s (fun v h L => Q_rm2_3 Z a1 a2 k1 w fm c0 c1 c2 h0 n0 v h L) R_rm2_3.cells R_rm2_3.slots) (s₁.setTop (entryFrame m #[(.ref a1), (.ref a2)] 2))
  refine OGo.cast (ef_rm2_3 m a1 a2) ?_
  show OGo _ _ _ _ (s₁.setTop (mkF m 0 #[.val (.ref a1), .val (.ref a2)] []))
  refine OGo.via (fun _ k => XS.aloadN X0.here hx rfl (hb hby d2_0) rfl rfl (XS.aloadN X0.here hx rfl (hb hby d2_1) rfl rfl (XS.iconst X0.here hx rfl (hb hby d2_2) (XS.aloadN X0.here hx rfl (hb hby d2_3) rfl rfl k)))) ?_
  obtain ⟨cl1, Ar1, q1, Sz1, Ng1, Hs1, Gf1⟩ := id V_a2
  refine OGo.via (X0.arraylength hx (by rw [e0]; exact Ar1.1) (State.isArrayOf_alike hZ.alike Ar1.2.1) (g := (mkF m 4 #[.val (.ref a1), .val (.ref a2)] [(.ref a2), (.int (0 : Int32)), (.ref a2), (.ref a1)])) rfl rfl (hb hby d2_4)) ?_
  rw [len_of Sz1 Ng1]
  show OGo _ _ _ _ (s₁.setTop (mkF m 5 #[.val (.ref a1), .val (.ref a2)] [(.int (3 : Int32)), (.int (0 : Int32)), (.ref a2), (.ref a1)]))
  refine OGo.via (fun _ k => XS.aconstNull X0.here hx rfl (hb hby d2_5) k) ?_
  obtain ⟨_, T2, Lc2, X2, hQ2, st2⟩ := own_open X0 (X0.specialBack hx (y := own_y10) rfl hown (mvT hZ (own_w hw 14 rfl)) (mvT hZ (own_w hw 15 rfl)) (mvT hZ (own_w hw 17 rfl)) (by decide) (backOf (W := 0) (rm3_3 l Z a0 hw [] a1 a2 k1 w fm c0 c1 c2 h0 n0 Z0 E_a1 F_value_a1 F_coder_a1 V_a2 g_a1 S_COMPACT_STRINGS S_SIOOBE_FORMATTER hw0 hc0 hc1 hc2) hZ (own_w hw 17 rfl) (own_w hw 10 rfl) (by decide) (by decide)) (g := (mkF m 6 #[.val (.ref a1), .val (.ref a2)] [.null, (.int (3 : Int32)), (.int (0 : Int32)), (.ref a2), (.ref a1)])) rfl (by rw [hml]; rfl) (Steps.refl _) (a := a1) (argsL := [(.ref a2), (.int (0 : Int32)), (.int (3 : Int32)), .null]) (rest := []) (lenOf pd_4 rfl) rfl (by show 2 * 0 + _ ≤ _; exact Nat.le_of_eq rfl) (hb hby d2_6) (fun _ _ => ⟨rfl, e0, (by decide : 0 + 1 ≤ _), (by decide : 0 + 3 ≤ _)⟩))
  obtain ⟨vb, kb, rfl, N2q, r2_0, r2_1, r2_2, r2_3, r2_4, r2_5, r2_6, r2_7⟩ := hQ2
  have N2 := Fr.app N0 N2q
  have K2 : Keep h0 T2.heap [a1] := (Keep.refl h0 [a1]).trans r2_0 (allS (Or.inl (List.mem_of_getElem? (i := 0) rfl)) all0)
  have lt_a1_vb : a1 < vb := Nat.lt_of_lt_of_le E_a1.lt r2_1
  have lt_a2_vb : a2 < vb := Nat.lt_of_lt_of_le V_a2.lt r2_1
  have sz_vb : h0.size ≤ vb := Nat.le_trans (Keep.refl h0 [a1]).1 r2_1
  have g_vb : n0 ≤ vb := Nat.le_trans Z0 sz_vb
  refine OGo.via (fun _ k => st2.trans k) ?_
  show OGo _ _ _ _ (T2.setTop (mkF m 9 #[.val (.ref a1), .val (.ref a2)] []))
  show OGo _ _ _ _ (T2.setTop (mkF m 9 #[.val (.ref a1), .val (.ref a2)] []))
  refine own_retV X2 hx Bd.notSynchronized Bd.returns (hb hby d2_9) (by decide) (by decide) ?_
  show Q_rm2_3 Z _ _ _ _ _ _ _ _ h0 n0 _ T2.heap _
  exact ⟨vb, kb, rfl, N2, K2, sz_vb, r2_2, r2_3, r2_4, r2_5, r2_6, r2_7⟩
theorem ef_rm6_4 (m : MethodId) (a1 : Addr) (a3 : Addr) : entryFrame m #[(.ref a1), (.int (0 : Int32)), (.ref a3), (.int (0 : Int32)), (.int (4 : Int32))] 7 = mkF m 0 #[.val (.ref a1), .val (.int (0 : Int32)), .val (.ref a3), .val (.int (0 : Int32)), .val (.int (4 : Int32)), .unset, .unset] [] := by
  first | (simp [entryFrame, mkF, argsToLocals, Value.category]; done) | rfl
def Q_rm6_4 (Z : State) (a1 : Addr) (a3 : Addr) (k1 : ClassId) (k3 : ClassId) (c0 : Int32) (c1 : Int32) (c2 : Int32) (c3 : Int32) (w : Int32) (fm : Value) (h0 : Heap) (n0 : Nat) (v : Option Value) (h : Heap) (L : List Loc) : Prop := v = some (.int (4 : Int32)) ∧ Fr n0 L ∧ Keep h0 h [a3] ∧ Arv Z h a3 k3 .byte (4 : Int32) [(.int ((c0.toInt8.toInt32).toInt8.toInt32)), (.int ((c1.toInt8.toInt32).toInt8.toInt32)), (.int ((c2.toInt8.toInt32).toInt8.toInt32)), (.int ((c3.toInt8.toInt32).toInt8.toInt32))] (.int (0 : Int32)) ∧ Sta Z h "java/lang/String" "COMPACT_STRINGS" "Z" (.int w) ∧ Sta Z h "jdk/internal/util/Preconditions" "SIOOBE_FORMATTER" "Ljava/util/function/BiFunction;" fm
abbrev R_rm6_4 : Room := ⟨0, 0, 0, 0⟩
set_option maxRecDepth 65536 in
set_option maxHeartbeats 40000000 in
theorem rm6_4 (l : Launch) (Z : State) (a0 : Array Value) (hw : ∀ d ∈ tables_1, d.before a0 Z = true) (ws : List Jvm.Cond) (a1 : Addr) (a3 : Addr) (k1 : ClassId) (k3 : ClassId) (c0 : Int32) (c1 : Int32) (c2 : Int32) (c3 : Int32) (w : Int32) (fm : Value) (h0 : Heap) (n0 : Nat) (Z0 : n0 ≤ h0.size) (S_COMPACT_STRINGS : Sta Z h0 "java/lang/String" "COMPACT_STRINGS" "Z" (.int w)) (S_SIOOBE_FORMATTER : Sta Z h0 "jdk/internal/util/Preconditions" "SIOOBE_FORMATTER" "Ljava/util/function/BiFunction;" fm) (V_a1 : Arv Z h0 a1 k1 .char (4 : Int32) [(.int c0), (.int c1), (.int c2), (.int c3)] (.int (0 : Int32))) (V_a3 : Arv Z h0 a3 k3 .byte (4 : Int32) [(.int (0 : Int32)), (.int (0 : Int32)), (.int (0 : Int32)), (.int (0 : Int32))] (.int (0 : Int32))) (ne_a1_a3 : a1 ≠ a3) (g_a3 : n0 ≤ a3) (hc0 : ¬ (255 : Int32) < c0) (hc1 : ¬ (255 : Int32) < c1) (hc2 : ¬ (255 : Int32) < c2) (hc3 : ¬ (255 : Int32) < c3) :
    MetFree l own_y7 (head1 (Jvm.Cond.code own_y7 jdk_52_method_21_code 7 (some .int) :: ws) R_rm6_4) (fun a U => a = #[(.ref a1), (.int (0 : Int32)), (.ref a3), (.int (0 : Int32)), (.int (4 : Int32))] ∧ Z.Warmed39 U.vm ∧ U.heap = h0) (fun _ _ _ _ _ => True) (fun _ U o U' => ∃ v L, o = .returned v ∧ Q_rm6_4 Z a1 a3 k1 k3 c0 c1 c2 c3 w fm h0 n0 v U'.heap L ∧ FrameEnd U o U' L R_rm6_4.cells R_rm6_4.slots) := by
  refine MetFree.of_bodySF (plainFor_of_name pn_StringUTF16) hisR ?_
  intro p e s m args below meth c s₁ Bd hml0 hP hK
  obtain ⟨rfl, hZ, hh⟩ := hP
  have hx := Bd.exec
  have hby := Bd.bytes
  have hml : c.maxLocals = 7 := hml0
  have hown : s.vm.findClass "java/lang/StringUTF16" = some m.cls := findClass_of_methodNamed Bd.named
  have hnm := (name_of_methodNamed Bd.named Bd.method).1
  have X0 : Stand p l e R_rm6_4 s m #[(.ref a1), (.int (0 : Int32)), (.ref a3), (.int (0 : Int32)), (.int (4 : Int32))] below meth c s₁ [] 0 0 := Stand.of_body Bd
  have e0 : s₁.heap = h0 := by rw [← hh, Bd.state]; rfl
  have N0 := Fr.nil n0
  show OGo p.tables e below (own_Kq s (fun v h L => Q_rm6_4 Z a1 a3 k1 k3 c0 c1 c2 c3 w fm h0 n0 v h L) R_rm6_4.cells R_rm6_4.slots) (s₁.setTop (entryFrame m #[(.ref a1), (.int (0 : Int32)), (.ref a3), (.int (0 : Int32)), (.int (4 : Int32))] 7))
  refine OGo.cast (ef_rm6_4 m a1 a3) ?_
  show OGo _ _ _ _ (s₁.setTop (mkF m 0 #[.val (.ref a1), .val (.int (0 : Int32)), .val (.ref a3), .val (.int (0 : Int32)), .val (.int (4 : Int32)), .unset, .unset] []))
  refine OGo.via (fun _ k => XS.iconst X0.here hx rfl (hb hby d6_0) (XS.istore X0.here hx rfl (hb hby d6_1) rfl (l' := #[.val (.ref a1), .val (.int (0 : Int32)), .val (.ref a3), .val (.int (0 : Int32)), .val (.int (4 : Int32)), .val (.int (0 : Int32)), .unset]) rfl (XS.iload X0.here hx rfl (hb hby d6_3) rfl (XS.iload X0.here hx rfl (hb hby d6_5) rfl (XS.icmpNo X0.here hx rfl (hb hby d6_7) rfl (tlt (by decide : (0 : Int32) < (4 : Int32))).2.1 (XS.aloadN X0.here hx rfl (hb hby d6_10) rfl rfl (XS.iloadN X0.here hx rfl (hb hby d6_11) rfl k))))))) ?_
  obtain ⟨cl1, Ar1, q1, Sz1, Ng1, Hs1, Gf1⟩ := id V_a1
  have hin1 : ¬ ((0 : Int32) < 0 ∨ cl1.slots.size ≤ ((0 : Int32)).toNatClampNeg) := inb_of Sz1 ⟨by decide, by decide⟩
  have hat1 : cl1.slots[((0 : Int32)).toNatClampNeg]? = some (.int c0) := Hs1.at hin1 rfl
  refine OGo.via (X0.caload hx (j := (0 : Int32)) (v := (.int c0)) (by rw [e0]; exact Ar1.1) (State.isArrayOf_alike hZ.alike Ar1.2.1) Ar1.2.2 hin1 hat1 (g := (mkF m 12 #[.val (.ref a1), .val (.int (0 : Int32)), .val (.ref a3), .val (.int (0 : Int32)), .val (.int (4 : Int32)), .val (.int (0 : Int32)), .unset] [(.int (0 : Int32)), (.ref a1)])) rfl rfl (hb hby d6_12)) ?_
  show OGo _ _ _ _ (s₁.setTop (mkF m 13 #[.val (.ref a1), .val (.int (0 : Int32)), .val (.ref a3), .val (.int (0 : Int32)), .val (.int (4 : Int32)), .val (.int (0 : Int32)), .unset] [(.int c0)]))
  refine OGo.via (fun _ k => XS.istore X0.here hx rfl (hb hby d6_13) rfl (l' := #[.val (.ref a1), .val (.int (0 : Int32)), .val (.ref a3), .val (.int (0 : Int32)), .val (.int (4 : Int32)), .val (.int (0 : Int32)), .val (.int c0)]) rfl (XS.iload X0.here hx rfl (hb hby d6_15) rfl (XS.sipush X0.here hx rfl (hb hby d6_17) (XS.icmpYes X0.here hx rfl (pc0 := 20) (pc' := 26) rfl (hb hby d6_20) rfl (flt hc0).2.2.2 (by decide) (by decide) (XS.aloadN X0.here hx rfl (hb hby d6_26) rfl rfl (XS.iloadN X0.here hx rfl (hb hby d6_27) rfl (XS.iload X0.here hx rfl (hb hby d6_28) rfl (XS.i2b X0.here hx rfl (hb hby d6_30) rfl k)))))))) ?_
  show OGo _ _ _ _ (s₁.setTop (mkF m 31 #[.val (.ref a1), .val (.int (0 : Int32)), .val (.ref a3), .val (.int (0 : Int32)), .val (.int (4 : Int32)), .val (.int (0 : Int32)), .val (.int c0)] [(.int (c0.toInt8.toInt32)), (.int (0 : Int32)), (.ref a3)]))
  obtain ⟨cl2, Ar2, q2, Sz2, Ng2, Hs2, Gf2⟩ := id V_a3
  have hin2 : ¬ ((0 : Int32) < 0 ∨ cl2.slots.size ≤ ((0 : Int32)).toNatClampNeg) := inb_of Sz2 ⟨by decide, by decide⟩
  obtain ⟨T2, h2, X2, e2, W2, st2⟩ := stB X0 hx hZ e0 Ar2 (j := (0 : Int32)) hin2 (g := (mkF m 31 #[.val (.ref a1), .val (.int (0 : Int32)), .val (.ref a3), .val (.int (0 : Int32)), .val (.int (4 : Int32)), .val (.int (0 : Int32)), .val (.int c0)] [(.int (c0.toInt8.toInt32)), (.int (0 : Int32)), (.ref a3)])) rfl rfl (hb hby d6_31)
  refine OGo.via st2 ?_
  have V2 : Arv Z h2 a3 k3 .byte (4 : Int32) [(.int ((c0.toInt8.toInt32).toInt8.toInt32)), (.int (0 : Int32)), (.int (0 : Int32)), (.int (0 : Int32))] (.int (0 : Int32)) := Arv.set Ar2 q2 Sz2 Ng2 Hs2 Gf2 (fits_nar_byte _) W2 0 rfl (Nat.le_of_ble_eq_true rfl)
  have K2 : Keep h0 h2 [a3] := (Keep.refl h0 [a3]).wr W2 (Or.inl (List.mem_of_getElem? (i := 0) rfl))
  have N2 := Fr.snoc X2 N0 g_a3
  show OGo _ _ _ _ (T2.setTop (mkF m 32 #[.val (.ref a1), .val (.int (0 : Int32)), .val (.ref a3), .val (.int (0 : Int32)), .val (.int (4 : Int32)), .val (.int (0 : Int32)), .val (.int c0)] []))
  refine OGo.via (fun _ k => XS.iinc X2.here hx rfl (hb hby d6_32) rfl (l' := #[.val (.ref a1), .val (.int ((0 : Int32) + (1 : Int32))), .val (.ref a3), .val (.int (0 : Int32)), .val (.int (4 : Int32)), .val (.int (0 : Int32)), .val (.int c0)]) rfl k) ?_
  show OGo _ _ _ _ (T2.setTop (mkF m 35 #[.val (.ref a1), .val (.int ((0 : Int32) + (1 : Int32))), .val (.ref a3), .val (.int (0 : Int32)), .val (.int (4 : Int32)), .val (.int (0 : Int32)), .val (.int c0)] []))
  rw [show ((0 : Int32) + (1 : Int32)) = (1 : Int32) from by decide]
  refine OGo.via (fun _ k => XS.iinc X2.here hx rfl (hb hby d6_35) rfl (l' := #[.val (.ref a1), .val (.int (1 : Int32)), .val (.ref a3), .val (.int ((0 : Int32) + (1 : Int32))), .val (.int (4 : Int32)), .val (.int (0 : Int32)), .val (.int c0)]) rfl k) ?_
  show OGo _ _ _ _ (T2.setTop (mkF m 38 #[.val (.ref a1), .val (.int (1 : Int32)), .val (.ref a3), .val (.int ((0 : Int32) + (1 : Int32))), .val (.int (4 : Int32)), .val (.int (0 : Int32)), .val (.int c0)] []))
  rw [show ((0 : Int32) + (1 : Int32)) = (1 : Int32) from by decide]
  refine OGo.via (fun _ k => XS.iinc X2.here hx rfl (hb hby d6_38) rfl (l' := #[.val (.ref a1), .val (.int (1 : Int32)), .val (.ref a3), .val (.int (1 : Int32)), .val (.int (4 : Int32)), .val (.int ((0 : Int32) + (1 : Int32))), .val (.int c0)]) rfl k) ?_
  show OGo _ _ _ _ (T2.setTop (mkF m 41 #[.val (.ref a1), .val (.int (1 : Int32)), .val (.ref a3), .val (.int (1 : Int32)), .val (.int (4 : Int32)), .val (.int ((0 : Int32) + (1 : Int32))), .val (.int c0)] []))
  rw [show ((0 : Int32) + (1 : Int32)) = (1 : Int32) from by decide]
  refine OGo.via (fun _ k => XS.goto X2.here hx rfl (pc0 := 41) (pc' := 3) rfl (hb hby d6_41) (by decide) (by decide) (XS.iload X2.here hx rfl (hb hby d6_3) rfl (XS.iload X2.here hx rfl (hb hby d6_5) rfl (XS.icmpNo X2.here hx rfl (hb hby d6_7) rfl (tlt (by decide : (1 : Int32) < (4 : Int32))).2.1 (XS.aloadN X2.here hx rfl (hb hby d6_10) rfl rfl (XS.iloadN X2.here hx rfl (hb hby d6_11) rfl k)))))) ?_
  have f7 := V_a1.other W2 ne_a1_a3
  obtain ⟨cl6, Ar6, q6, Sz6, Ng6, Hs6, Gf6⟩ := id f7
  have hin6 : ¬ ((1 : Int32) < 0 ∨ cl6.slots.size ≤ ((1 : Int32)).toNatClampNeg) := inb_of Sz6 ⟨by decide, by decide⟩
  have hat6 : cl6.slots[((1 : Int32)).toNatClampNeg]? = some (.int c1) := Hs6.at hin6 rfl
  refine OGo.via (X2.caload hx (j := (1 : Int32)) (v := (.int c1)) (by rw [e2]; exact Ar6.1) (State.isArrayOf_alike hZ.alike Ar6.2.1) Ar6.2.2 hin6 hat6 (g := (mkF m 12 #[.val (.ref a1), .val (.int (1 : Int32)), .val (.ref a3), .val (.int (1 : Int32)), .val (.int (4 : Int32)), .val (.int (1 : Int32)), .val (.int c0)] [(.int (1 : Int32)), (.ref a1)])) rfl rfl (hb hby d6_12)) ?_
  show OGo _ _ _ _ (T2.setTop (mkF m 13 #[.val (.ref a1), .val (.int (1 : Int32)), .val (.ref a3), .val (.int (1 : Int32)), .val (.int (4 : Int32)), .val (.int (1 : Int32)), .val (.int c0)] [(.int c1)]))
  refine OGo.via (fun _ k => XS.istore X2.here hx rfl (hb hby d6_13) rfl (l' := #[.val (.ref a1), .val (.int (1 : Int32)), .val (.ref a3), .val (.int (1 : Int32)), .val (.int (4 : Int32)), .val (.int (1 : Int32)), .val (.int c1)]) rfl (XS.iload X2.here hx rfl (hb hby d6_15) rfl (XS.sipush X2.here hx rfl (hb hby d6_17) (XS.icmpYes X2.here hx rfl (pc0 := 20) (pc' := 26) rfl (hb hby d6_20) rfl (flt hc1).2.2.2 (by decide) (by decide) (XS.aloadN X2.here hx rfl (hb hby d6_26) rfl rfl (XS.iloadN X2.here hx rfl (hb hby d6_27) rfl (XS.iload X2.here hx rfl (hb hby d6_28) rfl (XS.i2b X2.here hx rfl (hb hby d6_30) rfl k)))))))) ?_
  show OGo _ _ _ _ (T2.setTop (mkF m 31 #[.val (.ref a1), .val (.int (1 : Int32)), .val (.ref a3), .val (.int (1 : Int32)), .val (.int (4 : Int32)), .val (.int (1 : Int32)), .val (.int c1)] [(.int (c1.toInt8.toInt32)), (.int (1 : Int32)), (.ref a3)]))
  obtain ⟨cl8, Ar8, q8, Sz8, Ng8, Hs8, Gf8⟩ := id V2
  have hin8 : ¬ ((1 : Int32) < 0 ∨ cl8.slots.size ≤ ((1 : Int32)).toNatClampNeg) := inb_of Sz8 ⟨by decide, by decide⟩
  obtain ⟨T8, h8, X8, e8, W8, st8⟩ := stB X2 hx hZ e2 Ar8 (j := (1 : Int32)) hin8 (g := (mkF m 31 #[.val (.ref a1), .val (.int (1 : Int32)), .val (.ref a3), .val (.int (1 : Int32)), .val (.int (4 : Int32)), .val (.int (1 : Int32)), .val (.int c1)] [(.int (c1.toInt8.toInt32)), (.int (1 : Int32)), (.ref a3)])) rfl rfl (hb hby d6_31)
  refine OGo.via st8 ?_
  have V8 : Arv Z h8 a3 k3 .byte (4 : Int32) [(.int ((c0.toInt8.toInt32).toInt8.toInt32)), (.int ((c1.toInt8.toInt32).toInt8.toInt32)), (.int (0 : Int32)), (.int (0 : Int32))] (.int (0 : Int32)) := Arv.set Ar8 q8 Sz8 Ng8 Hs8 Gf8 (fits_nar_byte _) W8 1 rfl (Nat.le_of_ble_eq_true rfl)
  have K8 : Keep h0 h8 [a3] := K2.wr W8 (Or.inl (List.mem_of_getElem? (i := 0) rfl))
  have N8 := Fr.snoc X8 N2 g_a3
  show OGo _ _ _ _ (T8.setTop (mkF m 32 #[.val (.ref a1), .val (.int (1 : Int32)), .val (.ref a3), .val (.int (1 : Int32)), .val (.int (4 : Int32)), .val (.int (1 : Int32)), .val (.int c1)] []))
  refine OGo.via (fun _ k => XS.iinc X8.here hx rfl (hb hby d6_32) rfl (l' := #[.val (.ref a1), .val (.int ((1 : Int32) + (1 : Int32))), .val (.ref a3), .val (.int (1 : Int32)), .val (.int (4 : Int32)), .val (.int (1 : Int32)), .val (.int c1)]) rfl k) ?_
  show OGo _ _ _ _ (T8.setTop (mkF m 35 #[.val (.ref a1), .val (.int ((1 : Int32) + (1 : Int32))), .val (.ref a3), .val (.int (1 : Int32)), .val (.int (4 : Int32)), .val (.int (1 : Int32)), .val (.int c1)] []))
  rw [show ((1 : Int32) + (1 : Int32)) = (2 : Int32) from by decide]
  refine OGo.via (fun _ k => XS.iinc X8.here hx rfl (hb hby d6_35) rfl (l' := #[.val (.ref a1), .val (.int (2 : Int32)), .val (.ref a3), .val (.int ((1 : Int32) + (1 : Int32))), .val (.int (4 : Int32)), .val (.int (1 : Int32)), .val (.int c1)]) rfl k) ?_
  show OGo _ _ _ _ (T8.setTop (mkF m 38 #[.val (.ref a1), .val (.int (2 : Int32)), .val (.ref a3), .val (.int ((1 : Int32) + (1 : Int32))), .val (.int (4 : Int32)), .val (.int (1 : Int32)), .val (.int c1)] []))
  rw [show ((1 : Int32) + (1 : Int32)) = (2 : Int32) from by decide]
  refine OGo.via (fun _ k => XS.iinc X8.here hx rfl (hb hby d6_38) rfl (l' := #[.val (.ref a1), .val (.int (2 : Int32)), .val (.ref a3), .val (.int (2 : Int32)), .val (.int (4 : Int32)), .val (.int ((1 : Int32) + (1 : Int32))), .val (.int c1)]) rfl k) ?_
  show OGo _ _ _ _ (T8.setTop (mkF m 41 #[.val (.ref a1), .val (.int (2 : Int32)), .val (.ref a3), .val (.int (2 : Int32)), .val (.int (4 : Int32)), .val (.int ((1 : Int32) + (1 : Int32))), .val (.int c1)] []))
  rw [show ((1 : Int32) + (1 : Int32)) = (2 : Int32) from by decide]
  refine OGo.via (fun _ k => XS.goto X8.here hx rfl (pc0 := 41) (pc' := 3) rfl (hb hby d6_41) (by decide) (by decide) (XS.iload X8.here hx rfl (hb hby d6_3) rfl (XS.iload X8.here hx rfl (hb hby d6_5) rfl (XS.icmpNo X8.here hx rfl (hb hby d6_7) rfl (tlt (by decide : (2 : Int32) < (4 : Int32))).2.1 (XS.aloadN X8.here hx rfl (hb hby d6_10) rfl rfl (XS.iloadN X8.here hx rfl (hb hby d6_11) rfl k)))))) ?_
  have f13 := f7.other W8 ne_a1_a3
  obtain ⟨cl12, Ar12, q12, Sz12, Ng12, Hs12, Gf12⟩ := id f13
  have hin12 : ¬ ((2 : Int32) < 0 ∨ cl12.slots.size ≤ ((2 : Int32)).toNatClampNeg) := inb_of Sz12 ⟨by decide, by decide⟩
  have hat12 : cl12.slots[((2 : Int32)).toNatClampNeg]? = some (.int c2) := Hs12.at hin12 rfl
  refine OGo.via (X8.caload hx (j := (2 : Int32)) (v := (.int c2)) (by rw [e8]; exact Ar12.1) (State.isArrayOf_alike hZ.alike Ar12.2.1) Ar12.2.2 hin12 hat12 (g := (mkF m 12 #[.val (.ref a1), .val (.int (2 : Int32)), .val (.ref a3), .val (.int (2 : Int32)), .val (.int (4 : Int32)), .val (.int (2 : Int32)), .val (.int c1)] [(.int (2 : Int32)), (.ref a1)])) rfl rfl (hb hby d6_12)) ?_
  show OGo _ _ _ _ (T8.setTop (mkF m 13 #[.val (.ref a1), .val (.int (2 : Int32)), .val (.ref a3), .val (.int (2 : Int32)), .val (.int (4 : Int32)), .val (.int (2 : Int32)), .val (.int c1)] [(.int c2)]))
  refine OGo.via (fun _ k => XS.istore X8.here hx rfl (hb hby d6_13) rfl (l' := #[.val (.ref a1), .val (.int (2 : Int32)), .val (.ref a3), .val (.int (2 : Int32)), .val (.int (4 : Int32)), .val (.int (2 : Int32)), .val (.int c2)]) rfl (XS.iload X8.here hx rfl (hb hby d6_15) rfl (XS.sipush X8.here hx rfl (hb hby d6_17) (XS.icmpYes X8.here hx rfl (pc0 := 20) (pc' := 26) rfl (hb hby d6_20) rfl (flt hc2).2.2.2 (by decide) (by decide) (XS.aloadN X8.here hx rfl (hb hby d6_26) rfl rfl (XS.iloadN X8.here hx rfl (hb hby d6_27) rfl (XS.iload X8.here hx rfl (hb hby d6_28) rfl (XS.i2b X8.here hx rfl (hb hby d6_30) rfl k)))))))) ?_
  show OGo _ _ _ _ (T8.setTop (mkF m 31 #[.val (.ref a1), .val (.int (2 : Int32)), .val (.ref a3), .val (.int (2 : Int32)), .val (.int (4 : Int32)), .val (.int (2 : Int32)), .val (.int c2)] [(.int (c2.toInt8.toInt32)), (.int (2 : Int32)), (.ref a3)]))
  obtain ⟨cl14, Ar14, q14, Sz14, Ng14, Hs14, Gf14⟩ := id V8
  have hin14 : ¬ ((2 : Int32) < 0 ∨ cl14.slots.size ≤ ((2 : Int32)).toNatClampNeg) := inb_of Sz14 ⟨by decide, by decide⟩
  obtain ⟨T14, h14, X14, e14, W14, st14⟩ := stB X8 hx hZ e8 Ar14 (j := (2 : Int32)) hin14 (g := (mkF m 31 #[.val (.ref a1), .val (.int (2 : Int32)), .val (.ref a3), .val (.int (2 : Int32)), .val (.int (4 : Int32)), .val (.int (2 : Int32)), .val (.int c2)] [(.int (c2.toInt8.toInt32)), (.int (2 : Int32)), (.ref a3)])) rfl rfl (hb hby d6_31)
  refine OGo.via st14 ?_
  have V14 : Arv Z h14 a3 k3 .byte (4 : Int32) [(.int ((c0.toInt8.toInt32).toInt8.toInt32)), (.int ((c1.toInt8.toInt32).toInt8.toInt32)), (.int ((c2.toInt8.toInt32).toInt8.toInt32)), (.int (0 : Int32))] (.int (0 : Int32)) := Arv.set Ar14 q14 Sz14 Ng14 Hs14 Gf14 (fits_nar_byte _) W14 2 rfl (Nat.le_of_ble_eq_true rfl)
  have K14 : Keep h0 h14 [a3] := K8.wr W14 (Or.inl (List.mem_of_getElem? (i := 0) rfl))
  have N14 := Fr.snoc X14 N8 g_a3
  show OGo _ _ _ _ (T14.setTop (mkF m 32 #[.val (.ref a1), .val (.int (2 : Int32)), .val (.ref a3), .val (.int (2 : Int32)), .val (.int (4 : Int32)), .val (.int (2 : Int32)), .val (.int c2)] []))
  refine OGo.via (fun _ k => XS.iinc X14.here hx rfl (hb hby d6_32) rfl (l' := #[.val (.ref a1), .val (.int ((2 : Int32) + (1 : Int32))), .val (.ref a3), .val (.int (2 : Int32)), .val (.int (4 : Int32)), .val (.int (2 : Int32)), .val (.int c2)]) rfl k) ?_
  show OGo _ _ _ _ (T14.setTop (mkF m 35 #[.val (.ref a1), .val (.int ((2 : Int32) + (1 : Int32))), .val (.ref a3), .val (.int (2 : Int32)), .val (.int (4 : Int32)), .val (.int (2 : Int32)), .val (.int c2)] []))
  rw [show ((2 : Int32) + (1 : Int32)) = (3 : Int32) from by decide]
  refine OGo.via (fun _ k => XS.iinc X14.here hx rfl (hb hby d6_35) rfl (l' := #[.val (.ref a1), .val (.int (3 : Int32)), .val (.ref a3), .val (.int ((2 : Int32) + (1 : Int32))), .val (.int (4 : Int32)), .val (.int (2 : Int32)), .val (.int c2)]) rfl k) ?_
  show OGo _ _ _ _ (T14.setTop (mkF m 38 #[.val (.ref a1), .val (.int (3 : Int32)), .val (.ref a3), .val (.int ((2 : Int32) + (1 : Int32))), .val (.int (4 : Int32)), .val (.int (2 : Int32)), .val (.int c2)] []))
  rw [show ((2 : Int32) + (1 : Int32)) = (3 : Int32) from by decide]
  refine OGo.via (fun _ k => XS.iinc X14.here hx rfl (hb hby d6_38) rfl (l' := #[.val (.ref a1), .val (.int (3 : Int32)), .val (.ref a3), .val (.int (3 : Int32)), .val (.int (4 : Int32)), .val (.int ((2 : Int32) + (1 : Int32))), .val (.int c2)]) rfl k) ?_
  show OGo _ _ _ _ (T14.setTop (mkF m 41 #[.val (.ref a1), .val (.int (3 : Int32)), .val (.ref a3), .val (.int (3 : Int32)), .val (.int (4 : Int32)), .val (.int ((2 : Int32) + (1 : Int32))), .val (.int c2)] []))
  rw [show ((2 : Int32) + (1 : Int32)) = (3 : Int32) from by decide]
  refine OGo.via (fun _ k => XS.goto X14.here hx rfl (pc0 := 41) (pc' := 3) rfl (hb hby d6_41) (by decide) (by decide) (XS.iload X14.here hx rfl (hb hby d6_3) rfl (XS.iload X14.here hx rfl (hb hby d6_5) rfl (XS.icmpNo X14.here hx rfl (hb hby d6_7) rfl (tlt (by decide : (3 : Int32) < (4 : Int32))).2.1 (XS.aloadN X14.here hx rfl (hb hby d6_10) rfl rfl (XS.iloadN X14.here hx rfl (hb hby d6_11) rfl k)))))) ?_
  have f19 := f13.other W14 ne_a1_a3
  obtain ⟨cl18, Ar18, q18, Sz18, Ng18, Hs18, Gf18⟩ := id f19
  have hin18 : ¬ ((3 : Int32) < 0 ∨ cl18.slots.size ≤ ((3 : Int32)).toNatClampNeg) := inb_of Sz18 ⟨by decide, by decide⟩
  have hat18 : cl18.slots[((3 : Int32)).toNatClampNeg]? = some (.int c3) := Hs18.at hin18 rfl
  refine OGo.via (X14.caload hx (j := (3 : Int32)) (v := (.int c3)) (by rw [e14]; exact Ar18.1) (State.isArrayOf_alike hZ.alike Ar18.2.1) Ar18.2.2 hin18 hat18 (g := (mkF m 12 #[.val (.ref a1), .val (.int (3 : Int32)), .val (.ref a3), .val (.int (3 : Int32)), .val (.int (4 : Int32)), .val (.int (3 : Int32)), .val (.int c2)] [(.int (3 : Int32)), (.ref a1)])) rfl rfl (hb hby d6_12)) ?_
  show OGo _ _ _ _ (T14.setTop (mkF m 13 #[.val (.ref a1), .val (.int (3 : Int32)), .val (.ref a3), .val (.int (3 : Int32)), .val (.int (4 : Int32)), .val (.int (3 : Int32)), .val (.int c2)] [(.int c3)]))
  refine OGo.via (fun _ k => XS.istore X14.here hx rfl (hb hby d6_13) rfl (l' := #[.val (.ref a1), .val (.int (3 : Int32)), .val (.ref a3), .val (.int (3 : Int32)), .val (.int (4 : Int32)), .val (.int (3 : Int32)), .val (.int c3)]) rfl (XS.iload X14.here hx rfl (hb hby d6_15) rfl (XS.sipush X14.here hx rfl (hb hby d6_17) (XS.icmpYes X14.here hx rfl (pc0 := 20) (pc' := 26) rfl (hb hby d6_20) rfl (flt hc3).2.2.2 (by decide) (by decide) (XS.aloadN X14.here hx rfl (hb hby d6_26) rfl rfl (XS.iloadN X14.here hx rfl (hb hby d6_27) rfl (XS.iload X14.here hx rfl (hb hby d6_28) rfl (XS.i2b X14.here hx rfl (hb hby d6_30) rfl k)))))))) ?_
  show OGo _ _ _ _ (T14.setTop (mkF m 31 #[.val (.ref a1), .val (.int (3 : Int32)), .val (.ref a3), .val (.int (3 : Int32)), .val (.int (4 : Int32)), .val (.int (3 : Int32)), .val (.int c3)] [(.int (c3.toInt8.toInt32)), (.int (3 : Int32)), (.ref a3)]))
  obtain ⟨cl20, Ar20, q20, Sz20, Ng20, Hs20, Gf20⟩ := id V14
  have hin20 : ¬ ((3 : Int32) < 0 ∨ cl20.slots.size ≤ ((3 : Int32)).toNatClampNeg) := inb_of Sz20 ⟨by decide, by decide⟩
  obtain ⟨T20, h20, X20, e20, W20, st20⟩ := stB X14 hx hZ e14 Ar20 (j := (3 : Int32)) hin20 (g := (mkF m 31 #[.val (.ref a1), .val (.int (3 : Int32)), .val (.ref a3), .val (.int (3 : Int32)), .val (.int (4 : Int32)), .val (.int (3 : Int32)), .val (.int c3)] [(.int (c3.toInt8.toInt32)), (.int (3 : Int32)), (.ref a3)])) rfl rfl (hb hby d6_31)
  refine OGo.via st20 ?_
  have V20 : Arv Z h20 a3 k3 .byte (4 : Int32) [(.int ((c0.toInt8.toInt32).toInt8.toInt32)), (.int ((c1.toInt8.toInt32).toInt8.toInt32)), (.int ((c2.toInt8.toInt32).toInt8.toInt32)), (.int ((c3.toInt8.toInt32).toInt8.toInt32))] (.int (0 : Int32)) := Arv.set Ar20 q20 Sz20 Ng20 Hs20 Gf20 (fits_nar_byte _) W20 3 rfl (Nat.le_of_ble_eq_true rfl)
  have K20 : Keep h0 h20 [a3] := K14.wr W20 (Or.inl (List.mem_of_getElem? (i := 0) rfl))
  have N20 := Fr.snoc X20 N14 g_a3
  show OGo _ _ _ _ (T20.setTop (mkF m 32 #[.val (.ref a1), .val (.int (3 : Int32)), .val (.ref a3), .val (.int (3 : Int32)), .val (.int (4 : Int32)), .val (.int (3 : Int32)), .val (.int c3)] []))
  refine OGo.via (fun _ k => XS.iinc X20.here hx rfl (hb hby d6_32) rfl (l' := #[.val (.ref a1), .val (.int ((3 : Int32) + (1 : Int32))), .val (.ref a3), .val (.int (3 : Int32)), .val (.int (4 : Int32)), .val (.int (3 : Int32)), .val (.int c3)]) rfl k) ?_
  show OGo _ _ _ _ (T20.setTop (mkF m 35 #[.val (.ref a1), .val (.int ((3 : Int32) + (1 : Int32))), .val (.ref a3), .val (.int (3 : Int32)), .val (.int (4 : Int32)), .val (.int (3 : Int32)), .val (.int c3)] []))
  rw [show ((3 : Int32) + (1 : Int32)) = (4 : Int32) from by decide]
  refine OGo.via (fun _ k => XS.iinc X20.here hx rfl (hb hby d6_35) rfl (l' := #[.val (.ref a1), .val (.int (4 : Int32)), .val (.ref a3), .val (.int ((3 : Int32) + (1 : Int32))), .val (.int (4 : Int32)), .val (.int (3 : Int32)), .val (.int c3)]) rfl k) ?_
  show OGo _ _ _ _ (T20.setTop (mkF m 38 #[.val (.ref a1), .val (.int (4 : Int32)), .val (.ref a3), .val (.int ((3 : Int32) + (1 : Int32))), .val (.int (4 : Int32)), .val (.int (3 : Int32)), .val (.int c3)] []))
  rw [show ((3 : Int32) + (1 : Int32)) = (4 : Int32) from by decide]
  refine OGo.via (fun _ k => XS.iinc X20.here hx rfl (hb hby d6_38) rfl (l' := #[.val (.ref a1), .val (.int (4 : Int32)), .val (.ref a3), .val (.int (4 : Int32)), .val (.int (4 : Int32)), .val (.int ((3 : Int32) + (1 : Int32))), .val (.int c3)]) rfl k) ?_
  show OGo _ _ _ _ (T20.setTop (mkF m 41 #[.val (.ref a1), .val (.int (4 : Int32)), .val (.ref a3), .val (.int (4 : Int32)), .val (.int (4 : Int32)), .val (.int ((3 : Int32) + (1 : Int32))), .val (.int c3)] []))
  rw [show ((3 : Int32) + (1 : Int32)) = (4 : Int32) from by decide]
  refine OGo.via (fun _ k => XS.goto X20.here hx rfl (pc0 := 41) (pc' := 3) rfl (hb hby d6_41) (by decide) (by decide) (XS.iload X20.here hx rfl (hb hby d6_3) rfl (XS.iload X20.here hx rfl (hb hby d6_5) rfl (XS.icmpYes X20.here hx rfl (pc0 := 7) (pc' := 44) rfl (hb hby d6_7) rfl (flt (by decide : ¬ ((4 : Int32) < (4 : Int32)))).2.1 (by decide) (by decide) (XS.iload X20.here hx rfl (hb hby d6_44) rfl k))))) ?_
  show OGo _ _ _ _ (T20.setTop (mkF m 46 #[.val (.ref a1), .val (.int (4 : Int32)), .val (.ref a3), .val (.int (4 : Int32)), .val (.int (4 : Int32)), .val (.int (4 : Int32)), .val (.int c3)] [(.int (4 : Int32))]))
  have f24 := S_COMPACT_STRINGS.wr W2
  have f25 := f24.wr W8
  have f26 := f25.wr W14
  have f27 := f26.wr W20
  have f28 := S_SIOOBE_FORMATTER.wr W2
  have f29 := f28.wr W8
  have f30 := f29.wr W14
  have f31 := f30.wr W20
  refine own_retI X20 hx Bd.notSynchronized Bd.returns (hb hby d6_46) (by decide) (by decide) ?_
  show Q_rm6_4 Z _ _ _ _ _ _ _ _ _ _ h0 n0 _ T20.heap _
  rw [e20]
  exact ⟨rfl, N20, K20, V20, f27, f31⟩
theorem ef_rm5_4 (m : MethodId) (a1 : Addr) : entryFrame m #[(.ref a1), (.int (0 : Int32)), (.int (4 : Int32))] 6 = mkF m 0 #[.val (.ref a1), .val (.int (0 : Int32)), .val (.int (4 : Int32)), .unset, .unset, .unset] [] := by
  first | (simp [entryFrame, mkF, argsToLocals, Value.category]; done) | rfl
def Q_rm5_4 (Z : State) (a1 : Addr) (k1 : ClassId) (w : Int32) (fm : Value) (c0 : Int32) (c1 : Int32) (c2 : Int32) (c3 : Int32) (h0 : Heap) (n0 : Nat) (v : Option Value) (h : Heap) (L : List Loc) : Prop := ∃ vb : Addr, ∃ kb : ClassId, v = some (.ref vb) ∧ Fr n0 L ∧ Keep h0 h [] ∧ h0.size ≤ vb ∧ Arv Z h vb kb .byte (4 : Int32) [(.int ((c0.toInt8.toInt32).toInt8.toInt32)), (.int ((c1.toInt8.toInt32).toInt8.toInt32)), (.int ((c2.toInt8.toInt32).toInt8.toInt32)), (.int ((c3.toInt8.toInt32).toInt8.toInt32))] (.int (0 : Int32)) ∧ Sta Z h "java/lang/String" "COMPACT_STRINGS" "Z" (.int w) ∧ Sta Z h "jdk/internal/util/Preconditions" "SIOOBE_FORMATTER" "Ljava/util/function/BiFunction;" fm
abbrev R_rm5_4 : Room := ⟨1, 1, 4, 18⟩
set_option maxRecDepth 65536 in
set_option maxHeartbeats 40000000 in
theorem rm5_4 (l : Launch) (Z : State) (a0 : Array Value) (hw : ∀ d ∈ tables_1, d.before a0 Z = true) (ws : List Jvm.Cond) (a1 : Addr) (k1 : ClassId) (w : Int32) (fm : Value) (c0 : Int32) (c1 : Int32) (c2 : Int32) (c3 : Int32) (h0 : Heap) (n0 : Nat) (Z0 : n0 ≤ h0.size) (V_a1 : Arv Z h0 a1 k1 .char (4 : Int32) [(.int c0), (.int c1), (.int c2), (.int c3)] (.int (0 : Int32))) (S_COMPACT_STRINGS : Sta Z h0 "java/lang/String" "COMPACT_STRINGS" "Z" (.int w)) (S_SIOOBE_FORMATTER : Sta Z h0 "jdk/internal/util/Preconditions" "SIOOBE_FORMATTER" "Ljava/util/function/BiFunction;" fm) (hc0 : ¬ (255 : Int32) < c0) (hc1 : ¬ (255 : Int32) < c1) (hc2 : ¬ (255 : Int32) < c2) (hc3 : ¬ (255 : Int32) < c3) :
    MetFree l own_y8 (head1 (Jvm.Cond.code own_y8 jdk_52_method_16_code 6 (some (.array .byte)) :: ws) R_rm5_4) (fun a U => a = #[(.ref a1), (.int (0 : Int32)), (.int (4 : Int32))] ∧ Z.Warmed39 U.vm ∧ U.heap = h0) (fun _ _ _ _ _ => True) (fun _ U o U' => ∃ v L, o = .returned v ∧ Q_rm5_4 Z a1 k1 w fm c0 c1 c2 c3 h0 n0 v U'.heap L ∧ FrameEnd U o U' L R_rm5_4.cells R_rm5_4.slots) := by
  refine MetFree.of_bodySF (plainFor_of_name pn_StringUTF16) hisR ?_
  intro p e s m args below meth c s₁ Bd hml0 hP hK
  obtain ⟨rfl, hZ, hh⟩ := hP
  have hx := Bd.exec
  have hby := Bd.bytes
  have hml : c.maxLocals = 6 := hml0
  have hown : s.vm.findClass "java/lang/StringUTF16" = some m.cls := findClass_of_methodNamed Bd.named
  have hnm := (name_of_methodNamed Bd.named Bd.method).1
  have X0 : Stand p l e R_rm5_4 s m #[(.ref a1), (.int (0 : Int32)), (.int (4 : Int32))] below meth c s₁ [] 0 0 := Stand.of_body Bd
  have e0 : s₁.heap = h0 := by rw [← hh, Bd.state]; rfl
  have N0 := Fr.nil n0
  show OGo p.tables e below (own_Kq s (fun v h L => Q_rm5_4 Z a1 k1 w fm c0 c1 c2 c3 h0 n0 v h L) R_rm5_4.cells R_rm5_4.slots) (s₁.setTop (entryFrame m #[(.ref a1), (.int (0 : Int32)), (.int (4 : Int32))] 6))
  refine OGo.cast (ef_rm5_4 m a1) ?_
  show OGo _ _ _ _ (s₁.setTop (mkF m 0 #[.val (.ref a1), .val (.int (0 : Int32)), .val (.int (4 : Int32)), .unset, .unset, .unset] []))
  refine OGo.via (fun _ k => XS.iloadN X0.here hx rfl (hb hby d5_0) rfl k) ?_
  obtain ⟨T1, h1, ka1, X1, e1, E1, A1, Y1, st1⟩ := newPE (ad := "[B") X0 hx hZ (own_w hw 26 rfl) e0 (g := (mkF m 1 #[.val (.ref a1), .val (.int (0 : Int32)), .val (.int (4 : Int32)), .unset, .unset, .unset] [(.int (4 : Int32))])) rfl (hb hby d5_1) rfl (by decide) (cap := 4) (by decide) (by decide) (by decide) (by decide) (by decide)
  obtain ⟨b1, g1⟩ : ∃ z, z = h0.size := ⟨_, rfl⟩
  rw [← g1] at A1 Y1 st1
  refine OGo.via st1 ?_
  have K1 : Keep h0 h1 [] := (Keep.refl h0 []).ext E1
  have lt_a1_b1 : a1 < b1 := Nat.lt_of_lt_of_le V_a1.lt (Nat.le_of_eq g1.symm)
  have sz_b1 : h0.size ≤ b1 := Nat.le_trans (Keep.refl h0 []).1 (Nat.le_of_eq g1.symm)
  have g_b1 : n0 ≤ b1 := Nat.le_trans Z0 sz_b1
  have V1 : Arv Z h1 b1 ka1 .byte (4 : Int32) [(.int (0 : Int32)), (.int (0 : Int32)), (.int (0 : Int32)), (.int (0 : Int32))] (.int (0 : Int32)) := (Arv.new A1 (by decide)).pad (pad_rep [] (.int (0 : Int32)) 4)
  show OGo _ _ _ _ (T1.setTop (mkF m 3 #[.val (.ref a1), .val (.int (0 : Int32)), .val (.int (4 : Int32)), .unset, .unset, .unset] [(.ref b1)]))
  refine OGo.via (fun _ k => XS.astoreN X1.here hx rfl (hb hby d5_3) rfl rfl (l' := #[.val (.ref a1), .val (.int (0 : Int32)), .val (.int (4 : Int32)), .val (.ref b1), .unset, .unset]) rfl (XS.aloadN X1.here hx rfl (hb hby d5_4) rfl rfl (XS.iloadN X1.here hx rfl (hb hby d5_5) rfl (XS.aloadN X1.here hx rfl (hb hby d5_6) rfl rfl (XS.iconst X1.here hx rfl (hb hby d5_7) (XS.iloadN X1.here hx rfl (hb hby d5_8) rfl k)))))) ?_
  have f3 := S_COMPACT_STRINGS.ext E1
  have f4 := S_SIOOBE_FORMATTER.ext E1
  have f5 := V_a1.ext E1
  obtain ⟨_, T2, Lc2, X2, hQ2, st2⟩ := own_open X1 (Jvm.LawKit.callS X1 hx (y := own_y7) hown (mvT hZ (own_w hw 27 rfl)) (mvT hZ (own_w hw 28 rfl)) (mvT hZ (own_w hw 24 rfl)) (mvT hZ (own_w hw 29 rfl)) (by decide) (backOf (W := 0) (rm6_4 l Z a0 hw [] a1 b1 k1 ka1 c0 c1 c2 c3 w fm h1 n0 (Nat.le_trans Z0 K1.1) f3 f4 f5 V1 (Nat.ne_of_lt lt_a1_b1) g_b1 hc0 hc1 hc2 hc3) hZ (own_w hw 29 rfl) (own_w hw 24 rfl) (by decide) (by decide)) (g := (mkF m 9 #[.val (.ref a1), .val (.int (0 : Int32)), .val (.int (4 : Int32)), .val (.ref b1), .unset, .unset] [(.int (4 : Int32)), (.int (0 : Int32)), (.ref b1), (.int (0 : Int32)), (.ref a1)])) rfl (by rw [hml]; rfl) (argsL := [(.ref a1), (.int (0 : Int32)), (.ref b1), (.int (0 : Int32)), (.int (4 : Int32))]) (rest := []) (lenOf pd_1 rfl) rfl (by show 2 * 0 + _ ≤ _; exact Nat.le_of_eq rfl) (hb hby d5_9) (fun _ _ => ⟨rfl, e1, (by decide : 1 + 0 ≤ _), (by decide : 4 + 0 ≤ _)⟩))
  obtain ⟨rfl, N2q, r2_0, r2_1, r2_2, r2_3⟩ := hQ2
  have N2 := Fr.app N0 N2q
  have K2 : Keep h0 T2.heap [] := K1.trans r2_0 (allS (Or.inr sz_b1) all0)
  refine OGo.via st2 ?_
  show OGo _ _ _ _ (T2.setTop (mkF m 12 #[.val (.ref a1), .val (.int (0 : Int32)), .val (.int (4 : Int32)), .val (.ref b1), .unset, .unset] [(.int (4 : Int32))]))
  refine OGo.via (fun _ k => XS.istore X2.here hx rfl (hb hby d5_12) rfl (l' := #[.val (.ref a1), .val (.int (0 : Int32)), .val (.int (4 : Int32)), .val (.ref b1), .val (.int (4 : Int32)), .unset]) rfl (XS.iload X2.here hx rfl (hb hby d5_14) rfl (XS.iloadN X2.here hx rfl (hb hby d5_16) rfl (XS.icmpYes X2.here hx rfl (pc0 := 17) (pc' := 57) rfl (hb hby d5_17) rfl (teq (by decide : (4 : Int32) = (4 : Int32))).1 (by decide) (by decide) (XS.aloadN X2.here hx rfl (hb hby d5_57) rfl rfl k))))) ?_
  show OGo _ _ _ _ (T2.setTop (mkF m 58 #[.val (.ref a1), .val (.int (0 : Int32)), .val (.int (4 : Int32)), .val (.ref b1), .val (.int (4 : Int32)), .unset] [(.ref b1)]))
  refine own_retA X2 hx Bd.notSynchronized Bd.returns rfl rfl (hb hby d5_58) (by decide) (by decide) ?_
  show Q_rm5_4 Z _ _ _ _ _ _ _ _ h0 n0 _ T2.heap _
  exact ⟨b1, ka1, rfl, N2, K2, sz_b1, r2_1, r2_2, r2_3⟩
theorem ef_rm7_4 (m : MethodId) (a1 : Addr) : entryFrame m #[(.ref a1), (.int (4 : Int32))] 2 = mkF m 0 #[.val (.ref a1), .val (.int (4 : Int32))] [] := by
  first | (simp [entryFrame, mkF, argsToLocals, Value.category]; done) | rfl
def Q_rm7_4 (Z : State) (a1 : Addr) (k1 : ClassId) (vs : List Value) (h0 : Heap) (n0 : Nat) (v : Option Value) (h : Heap) (L : List Loc) : Prop := v = some (.int (0 : Int32)) ∧ Fr n0 L ∧ h = h0
abbrev R_rm7_4 : Room := ⟨0, 0, 0, 0⟩
set_option maxRecDepth 65536 in
set_option maxHeartbeats 40000000 in
theorem rm7_4 (l : Launch) (Z : State) (a0 : Array Value) (hw : ∀ d ∈ tables_1, d.before a0 Z = true) (ws : List Jvm.Cond) (a1 : Addr) (k1 : ClassId) (vs : List Value) (h0 : Heap) (n0 : Nat) (Z0 : n0 ≤ h0.size) (V_a1 : Arv Z h0 a1 k1 .byte (4 : Int32) vs (.int (0 : Int32))) :
    MetFree l own_y9 (head1 (Jvm.Cond.code own_y9 jdk_52_method_15_code 2 (some .byte) :: ws) R_rm7_4) (fun a U => a = #[(.ref a1), (.int (4 : Int32))] ∧ Z.Warmed39 U.vm ∧ U.heap = h0) (fun _ _ _ _ _ => True) (fun _ U o U' => ∃ v L, o = .returned v ∧ Q_rm7_4 Z a1 k1 vs h0 n0 v U'.heap L ∧ FrameEnd U o U' L R_rm7_4.cells R_rm7_4.slots) := by
  refine MetFree.of_bodySF (plainFor_of_name pn_StringUTF16) hisR ?_
  intro p e s m args below meth c s₁ Bd hml0 hP hK
  obtain ⟨rfl, hZ, hh⟩ := hP
  have hx := Bd.exec
  have hby := Bd.bytes
  have hml : c.maxLocals = 2 := hml0
  have hown : s.vm.findClass "java/lang/StringUTF16" = some m.cls := findClass_of_methodNamed Bd.named
  have hnm := (name_of_methodNamed Bd.named Bd.method).1
  have X0 : Stand p l e R_rm7_4 s m #[(.ref a1), (.int (4 : Int32))] below meth c s₁ [] 0 0 := Stand.of_body Bd
  have e0 : s₁.heap = h0 := by rw [← hh, Bd.state]; rfl
  have N0 := Fr.nil n0
  show OGo p.tables e below (own_Kq s (fun v h L => Q_rm7_4 Z a1 k1 vs h0 n0 v h L) R_rm7_4.cells R_rm7_4.slots) (s₁.setTop (entryFrame m #[(.ref a1), (.int (4 : Int32))] 2))
  refine OGo.cast (ef_rm7_4 m a1) ?_
  show OGo _ _ _ _ (s₁.setTop (mkF m 0 #[.val (.ref a1), .val (.int (4 : Int32))] []))
  refine OGo.via (fun _ k => XS.iloadN X0.here hx rfl (hb hby d7_0) rfl (XS.aloadN X0.here hx rfl (hb hby d7_1) rfl rfl k)) ?_
  obtain ⟨cl1, Ar1, q1, Sz1, Ng1, Hs1, Gf1⟩ := id V_a1
  refine OGo.via (X0.arraylength hx (by rw [e0]; exact Ar1.1) (State.isArrayOf_alike hZ.alike Ar1.2.1) (g := (mkF m 2 #[.val (.ref a1), .val (.int (4 : Int32))] [(.ref a1), (.int (4 : Int32))])) rfl rfl (hb hby d7_2)) ?_
  rw [len_of Sz1 Ng1]
  show OGo _ _ _ _ (s₁.setTop (mkF m 3 #[.val (.ref a1), .val (.int (4 : Int32))] [(.int (4 : Int32)), (.int (4 : Int32))]))
  refine OGo.via (fun _ k => XS.isub X0.here hx rfl (hb hby d7_3) rfl k) ?_
  show OGo _ _ _ _ (s₁.setTop (mkF m 4 #[.val (.ref a1), .val (.int (4 : Int32))] [(.int ((4 : Int32) - (4 : Int32)))]))
  rw [show ((4 : Int32) - (4 : Int32)) = (0 : Int32) from by decide]
  refine OGo.via (fun _ k => XS.bipush X0.here hx rfl (hb hby d7_4) (XS.iushr X0.here hx rfl (hb hby d7_6) rfl k)) ?_
  show OGo _ _ _ _ (s₁.setTop (mkF m 7 #[.val (.ref a1), .val (.int (4 : Int32))] [(.int (((0 : Int32).toUInt32 >>> ((31 : Int32) &&& 31).toUInt32).toInt32))]))
  rw [show (((0 : Int32).toUInt32 >>> ((31 : Int32) &&& 31).toUInt32).toInt32) = (0 : Int32) from by decide]
  refine OGo.via (fun _ k => XS.i2b X0.here hx rfl (hb hby d7_7) rfl k) ?_
  show OGo _ _ _ _ (s₁.setTop (mkF m 8 #[.val (.ref a1), .val (.int (4 : Int32))] [(.int ((0 : Int32).toInt8.toInt32))]))
  rw [show ((0 : Int32).toInt8.toInt32) = (0 : Int32) from by decide]
  show OGo _ _ _ _ (s₁.setTop (mkF m 8 #[.val (.ref a1), .val (.int (4 : Int32))] [(.int (0 : Int32))]))
  refine own_retN (t := .byte) (by simp) X0 hx Bd.notSynchronized Bd.returns (hb hby d7_8) (by decide) (by decide) ?_
  show Q_rm7_4 Z _ _ _ h0 n0 _ s₁.heap _
  exact ⟨rfl, N0, e0⟩
theorem ef_rm3_4 (m : MethodId) (a1 : Addr) (a2 : Addr) : entryFrame m #[(.ref a1), (.ref a2), (.int (0 : Int32)), (.int (4 : Int32)), .null] 6 = mkF m 0 #[.val (.ref a1), .val (.ref a2), .val (.int (0 : Int32)), .val (.int (4 : Int32)), .val .null, .unset] [] := by
  first | (simp [entryFrame, mkF, argsToLocals, Value.category]; done) | rfl
def Q_rm3_4 (Z : State) (a1 : Addr) (a2 : Addr) (k1 : ClassId) (w : Int32) (fm : Value) (c0 : Int32) (c1 : Int32) (c2 : Int32) (c3 : Int32) (h0 : Heap) (n0 : Nat) (v : Option Value) (h : Heap) (L : List Loc) : Prop := ∃ vb : Addr, ∃ kb : ClassId, v = none ∧ Fr n0 L ∧ Keep h0 h [a1] ∧ h0.size ≤ vb ∧ Exa Z h a1 "java/lang/String" ∧ Fld Z h a1 "java/lang/String" "value" "[B" (.ref vb) ∧ Fld Z h a1 "java/lang/String" "coder" "B" (.int (0 : Int32)) ∧ Arv Z h vb kb .byte (4 : Int32) [(.int ((c0.toInt8.toInt32).toInt8.toInt32)), (.int ((c1.toInt8.toInt32).toInt8.toInt32)), (.int ((c2.toInt8.toInt32).toInt8.toInt32)), (.int ((c3.toInt8.toInt32).toInt8.toInt32))] (.int (0 : Int32)) ∧ Sta Z h "java/lang/String" "COMPACT_STRINGS" "Z" (.int w) ∧ Sta Z h "jdk/internal/util/Preconditions" "SIOOBE_FORMATTER" "Ljava/util/function/BiFunction;" fm
abbrev R_rm3_4 : Room := ⟨2, 1, 4, 35⟩
set_option maxRecDepth 65536 in
set_option maxHeartbeats 40000000 in
theorem rm3_4 (l : Launch) (Z : State) (a0 : Array Value) (hw : ∀ d ∈ tables_1, d.before a0 Z = true) (ws : List Jvm.Cond) (a1 : Addr) (a2 : Addr) (k1 : ClassId) (w : Int32) (fm : Value) (c0 : Int32) (c1 : Int32) (c2 : Int32) (c3 : Int32) (h0 : Heap) (n0 : Nat) (Z0 : n0 ≤ h0.size) (E_a1 : Exa Z h0 a1 "java/lang/String") (F_value_a1 : Fld Z h0 a1 "java/lang/String" "value" "[B" .null) (F_coder_a1 : Fld Z h0 a1 "java/lang/String" "coder" "B" (.int (0 : Int32))) (V_a2 : Arv Z h0 a2 k1 .char (4 : Int32) [(.int c0), (.int c1), (.int c2), (.int c3)] (.int (0 : Int32))) (g_a1 : n0 ≤ a1) (S_COMPACT_STRINGS : Sta Z h0 "java/lang/String" "COMPACT_STRINGS" "Z" (.int w)) (S_SIOOBE_FORMATTER : Sta Z h0 "jdk/internal/util/Preconditions" "SIOOBE_FORMATTER" "Ljava/util/function/BiFunction;" fm) (hw0 : ¬ w = (0 : Int32)) (hc0 : ¬ (255 : Int32) < c0) (hc1 : ¬ (255 : Int32) < c1) (hc2 : ¬ (255 : Int32) < c2) (hc3 : ¬ (255 : Int32) < c3) :
    MetFree l own_y10 (head1 (Jvm.Cond.code own_y10 jdk_42_method_149_code 6 none :: ws) R_rm3_4) (fun a U => a = #[(.ref a1), (.ref a2), (.int (0 : Int32)), (.int (4 : Int32)), .null] ∧ Z.Warmed39 U.vm ∧ U.heap = h0) (fun _ _ _ _ _ => True) (fun _ U o U' => ∃ v L, o = .returned v ∧ Q_rm3_4 Z a1 a2 k1 w fm c0 c1 c2 c3 h0 n0 v U'.heap L ∧ FrameEnd U o U' L R_rm3_4.cells R_rm3_4.slots) := by
  refine MetFree.of_bodySF (plainFor_of_name pn_String) hisR ?_
  intro p e s m args below meth c s₁ Bd hml0 hP hK
  obtain ⟨rfl, hZ, hh⟩ := hP
  have hx := Bd.exec
  have hby := Bd.bytes
  have hml : c.maxLocals = 6 := hml0
  have hown : s.vm.findClass "java/lang/String" = some m.cls := findClass_of_methodNamed Bd.named
  have hnm := (name_of_methodNamed Bd.named Bd.method).1
  have X0 : Stand p l e R_rm3_4 s m #[(.ref a1), (.ref a2), (.int (0 : Int32)), (.int (4 : Int32)), .null] below meth c s₁ [] 0 0 := Stand.of_body Bd
  have e0 : s₁.heap = h0 := by rw [← hh, Bd.state]; rfl
  have N0 := Fr.nil n0
  show OGo p.tables e below (own_Kq s (fun v h L => Q_rm3_4 Z a1 a2 k1 w fm c0 c1 c2 c3 h0 n0 v h L) R_rm3_4.cells R_rm3_4.slots) (s₁.setTop (entryFrame m #[(.ref a1), (.ref a2), (.int (0 : Int32)), (.int (4 : Int32)), .null] 6))
  refine OGo.cast (ef_rm3_4 m a1 a2) ?_
  show OGo _ _ _ _ (s₁.setTop (mkF m 0 #[.val (.ref a1), .val (.ref a2), .val (.int (0 : Int32)), .val (.int (4 : Int32)), .val .null, .unset] []))
  refine OGo.via (fun _ k => XS.aloadN X0.here hx rfl (hb hby d3_0) rfl rfl k) ?_
  obtain ⟨T1, X1, e1, st1⟩ := initO X0 hx hZ hown (own_w hw 18 rfl) (own_w hw 19 rfl) (own_w hw 20 rfl) e0 (g := (mkF m 1 #[.val (.ref a1), .val (.ref a2), .val (.int (0 : Int32)), .val (.int (4 : Int32)), .val .null, .unset] [(.ref a1)])) rfl (by rw [hml]; rfl) rfl (hb hby d3_1) (by decide) (W := 0) (by show 2 * 0 + _ ≤ _; exact Nat.le_of_eq rfl) (by decide)
  refine OGo.via st1 ?_
  show OGo _ _ _ _ (T1.setTop (mkF m 4 #[.val (.ref a1), .val (.ref a2), .val (.int (0 : Int32)), .val (.int (4 : Int32)), .val .null, .unset] []))
  refine OGo.via (fun _ k => XS.iloadN X1.here hx rfl (hb hby d3_4) rfl (XS.ifYes X1.here hx rfl (pc0 := 5) (pc' := 27) rfl (hb hby d3_5) rfl ((if0 _ _).trans (feq (by decide : ¬ ((4 : Int32) = (0 : Int32)))).2) (by decide) (by decide) k)) ?_
  obtain ⟨T2, X2, e2, st2⟩ := getS2 X1 hx hZ hown (host := "") (Or.inl (own_w hw 21 rfl)) Via.refl e1 S_COMPACT_STRINGS (g := (mkF m 27 #[.val (.ref a1), .val (.ref a2), .val (.int (0 : Int32)), .val (.int (4 : Int32)), .val .null, .unset] [])) rfl (hb hby d3_27)
  refine OGo.via st2 ?_
  show OGo _ _ _ _ (T2.setTop (mkF m 30 #[.val (.ref a1), .val (.ref a2), .val (.int (0 : Int32)), .val (.int (4 : Int32)), .val .null, .unset] [(.int w)]))
  refine OGo.via (fun _ k => XS.ifNo X2.here hx rfl (hb hby d3_30) rfl ((if0 _ _).trans (feq hw0).1) (XS.aloadN X2.here hx rfl (hb hby d3_33) rfl rfl (XS.iloadN X2.here hx rfl (hb hby d3_34) rfl (XS.iloadN X2.here hx rfl (hb hby d3_35) rfl k)))) ?_
  obtain ⟨_, T3, Lc3, X3, hQ3, st3⟩ := own_open X2 (Jvm.LawKit.callS X2 hx (y := own_y8) hown (mvT hZ (own_w hw 22 rfl)) (mvT hZ (own_w hw 23 rfl)) (mvT hZ (own_w hw 24 rfl)) (mvT hZ (own_w hw 25 rfl)) (by decide) (backOf (W := 0) (rm5_4 l Z a0 hw [] a2 k1 w fm c0 c1 c2 c3 h0 n0 Z0 V_a2 S_COMPACT_STRINGS S_SIOOBE_FORMATTER hc0 hc1 hc2 hc3) hZ (own_w hw 25 rfl) (own_w hw 24 rfl) (by decide) (by decide)) (g := (mkF m 36 #[.val (.ref a1), .val (.ref a2), .val (.int (0 : Int32)), .val (.int (4 : Int32)), .val .null, .unset] [(.int (4 : Int32)), (.int (0 : Int32)), (.ref a2)])) rfl (by rw [hml]; rfl) (argsL := [(.ref a2), (.int (0 : Int32)), (.int (4 : Int32))]) (rest := []) (lenOf pd_2 rfl) rfl (by show 2 * 0 + _ ≤ _; exact Nat.le_of_eq rfl) (hb hby d3_36) (fun _ _ => ⟨rfl, e2, (by decide : 0 + 1 ≤ _), (by decide : 0 + 4 ≤ _)⟩))
  obtain ⟨vb, kb, rfl, N3q, r3_0, r3_1, r3_2, r3_3, r3_4⟩ := hQ3
  have N3 := Fr.app N0 N3q
  have K3 : Keep h0 T3.heap [a1] := (Keep.refl h0 [a1]).trans r3_0 all0
  have lt_a1_vb : a1 < vb := Nat.lt_of_lt_of_le E_a1.lt r3_1
  have lt_a2_vb : a2 < vb := Nat.lt_of_lt_of_le V_a2.lt r3_1
  have sz_vb : h0.size ≤ vb := Nat.le_trans (Keep.refl h0 [a1]).1 r3_1
  have g_vb : n0 ≤ vb := Nat.le_trans Z0 sz_vb
  refine OGo.via st3 ?_
  show OGo _ _ _ _ (T3.setTop (mkF m 39 #[.val (.ref a1), .val (.ref a2), .val (.int (0 : Int32)), .val (.int (4 : Int32)), .val .null, .unset] [(.ref vb)]))
  refine OGo.via (fun _ k => XS.astore X3.here hx rfl (hb hby d3_39) rfl rfl (l' := #[.val (.ref a1), .val (.ref a2), .val (.int (0 : Int32)), .val (.int (4 : Int32)), .val .null, .val (.ref vb)]) rfl (XS.aloadN X3.here hx rfl (hb hby d3_41) rfl rfl (XS.aload X3.here hx rfl (hb hby d3_42) rfl rfl (XS.iloadN X3.here hx rfl (hb hby d3_44) rfl k)))) ?_
  obtain ⟨_, T4, Lc4, X4, hQ4, st4⟩ := own_open X3 (Jvm.LawKit.callS X3 hx (y := own_y9) hown (mvT hZ (own_w hw 30 rfl)) (mvT hZ (own_w hw 31 rfl)) (mvT hZ (own_w hw 24 rfl)) (mvT hZ (own_w hw 32 rfl)) (by decide) (backOf (W := 1) (rm7_4 l Z a0 hw [] vb kb [(.int ((c0.toInt8.toInt32).toInt8.toInt32)), (.int ((c1.toInt8.toInt32).toInt8.toInt32)), (.int ((c2.toInt8.toInt32).toInt8.toInt32)), (.int ((c3.toInt8.toInt32).toInt8.toInt32))] T3.heap n0 (Nat.le_trans Z0 K3.1) r3_2) hZ (own_w hw 32 rfl) (own_w hw 24 rfl) (by decide) (by decide)) (g := (mkF m 45 #[.val (.ref a1), .val (.ref a2), .val (.int (0 : Int32)), .val (.int (4 : Int32)), .val .null, .val (.ref vb)] [(.int (4 : Int32)), (.ref vb), (.ref a1)])) rfl (by rw [hml]; rfl) (argsL := [(.ref vb), (.int (4 : Int32))]) (rest := [(.ref a1)]) (lenOf pd_3 rfl) rfl (by show 2 * 0 + _ ≤ _; exact Nat.le_of_eq rfl) (hb hby d3_45) (fun _ _ => ⟨rfl, rfl, (by decide : 1 + 0 ≤ _), (by decide : 4 + 0 ≤ _)⟩))
  obtain ⟨rfl, N4q, r4_0⟩ := hQ4
  have N4 := Fr.app N3 N4q
  refine OGo.via st4 ?_
  show OGo _ _ _ _ (T4.setTop (mkF m 48 #[.val (.ref a1), .val (.ref a2), .val (.int (0 : Int32)), .val (.int (4 : Int32)), .val .null, .val (.ref vb)] [(.int (0 : Int32)), (.ref a1)]))
  have f6 := F_coder_a1.keep r3_0 nin0
  have f7 := E_a1.keep r3_0
  obtain ⟨T5, h5, X5, e5, W5, st5⟩ := putFN X4 hx hZ hown (own_w hw 33 rfl) Via.refl r4_0 f6 f7 (Or.inr ⟨(own_w hw 34 rfl), rfl, hnm⟩) (own_w hw 9 rfl) (ty := .byte) (v' := (.int (0 : Int32))) (by decide) rfl (by decide) (g := (mkF m 48 #[.val (.ref a1), .val (.ref a2), .val (.int (0 : Int32)), .val (.int (4 : Int32)), .val .null, .val (.ref vb)] [(.int (0 : Int32)), (.ref a1)])) rfl rfl (hb hby d3_48)
  refine OGo.via st5 ?_
  have Fw5 := f6.same W5
  have K5 : Keep h0 h5 [a1] := K3.wr W5 (Or.inl (List.mem_of_getElem? (i := 0) rfl))
  have N5 := Fr.snoc X5 N4 g_a1
  show OGo _ _ _ _ (T5.setTop (mkF m 51 #[.val (.ref a1), .val (.ref a2), .val (.int (0 : Int32)), .val (.int (4 : Int32)), .val .null, .val (.ref vb)] []))
  refine OGo.via (fun _ k => XS.aloadN X5.here hx rfl (hb hby d3_51) rfl rfl (XS.aload X5.here hx rfl (hb hby d3_52) rfl rfl k)) ?_
  have f9 := F_value_a1.keep r3_0 nin0
  have f10 := f9.other W5 (Or.inr (slot_ne (Or.inr (own_w hw 36 rfl)) (Or.inr (own_w hw 34 rfl)) (by decide) (t := (.array .byte)) (t' := .byte) (by decide) (by decide)))
  have f11 := f7.wr W5
  obtain ⟨T8, h8, X8, e8, W8, st8⟩ := putF X5 hx hZ hown (host := "") (Or.inl (own_w hw 35 rfl)) Via.refl e5 f10 f11 (Or.inr ⟨(own_w hw 36 rfl), rfl, hnm⟩) (own_w hw 9 rfl) (ty := (.array .byte)) (by decide) rfl rfl (g := (mkF m 54 #[.val (.ref a1), .val (.ref a2), .val (.int (0 : Int32)), .val (.int (4 : Int32)), .val .null, .val (.ref vb)] [(.ref vb), (.ref a1)])) rfl rfl (hb hby d3_54)
  refine OGo.via st8 ?_
  have Fw8 := f10.same W8
  have K8 : Keep h0 h8 [a1] := K5.wr W8 (Or.inl (List.mem_of_getElem? (i := 0) rfl))
  have N8 := Fr.snoc X8 N5 g_a1
  show OGo _ _ _ _ (T8.setTop (mkF m 57 #[.val (.ref a1), .val (.ref a2), .val (.int (0 : Int32)), .val (.int (4 : Int32)), .val .null, .val (.ref vb)] []))
  show OGo _ _ _ _ (T8.setTop (mkF m 57 #[.val (.ref a1), .val (.ref a2), .val (.int (0 : Int32)), .val (.int (4 : Int32)), .val .null, .val (.ref vb)] []))
  have f12 := f11.wr W8
  have f13 := Fw5.other W8 (Or.inr (slot_ne (Or.inr (own_w hw 34 rfl)) (Or.inr (own_w hw 36 rfl)) (by decide) (t := .byte) (t' := (.array .byte)) (by decide) (by decide)))
  have f14 := r3_2.other W5 (Nat.ne_of_gt lt_a1_vb)
  have f15 := f14.other W8 (Nat.ne_of_gt lt_a1_vb)
  have f16 := r3_3.wr W5
  have f17 := f16.wr W8
  have f18 := r3_4.wr W5
  have f19 := f18.wr W8
  refine own_retV X8 hx Bd.notSynchronized Bd.returns (hb hby d3_57) (by decide) (by decide) ?_
  show Q_rm3_4 Z _ _ _ _ _ _ _ _ _ h0 n0 _ T8.heap _
  rw [e8]
  exact ⟨vb, kb, rfl, N8, K8, sz_vb, f12, Fw8, f13, f15, f17, f19⟩
theorem ef_rm2_4 (m : MethodId) (a1 : Addr) (a2 : Addr) : entryFrame m #[(.ref a1), (.ref a2)] 2 = mkF m 0 #[.val (.ref a1), .val (.ref a2)] [] := by
  first | (simp [entryFrame, mkF, argsToLocals, Value.category]; done) | rfl
def Q_rm2_4 (Z : State) (a1 : Addr) (a2 : Addr) (k1 : ClassId) (w : Int32) (fm : Value) (c0 : Int32) (c1 : Int32) (c2 : Int32) (c3 : Int32) (h0 : Heap) (n0 : Nat) (v : Option Value) (h : Heap) (L : List Loc) : Prop := ∃ vb : Addr, ∃ kb : ClassId, v = none ∧ Fr n0 L ∧ Keep h0 h [a1] ∧ h0.size ≤ vb ∧ Exa Z h a1 "java/lang/String" ∧ Fld Z h a1 "java/lang/String" "value" "[B" (.ref vb) ∧ Fld Z h a1 "java/lang/String" "coder" "B" (.int (0 : Int32)) ∧ Arv Z h vb kb .byte (4 : Int32) [(.int ((c0.toInt8.toInt32).toInt8.toInt32)), (.int ((c1.toInt8.toInt32).toInt8.toInt32)), (.int ((c2.toInt8.toInt32).toInt8.toInt32)), (.int ((c3.toInt8.toInt32).toInt8.toInt32))] (.int (0 : Int32)) ∧ Sta Z h "java/lang/String" "COMPACT_STRINGS" "Z" (.int w) ∧ Sta Z h "jdk/internal/util/Preconditions" "SIOOBE_FORMATTER" "Ljava/util/function/BiFunction;" fm
abbrev R_rm2_4 : Room := ⟨3, 1, 4, 52⟩
set_option maxRecDepth 65536 in
set_option maxHeartbeats 40000000 in
theorem rm2_4 (l : Launch) (Z : State) (a0 : Array Value) (hw : ∀ d ∈ tables_1, d.before a0 Z = true) (ws : List Jvm.Cond) (a1 : Addr) (a2 : Addr) (k1 : ClassId) (w : Int32) (fm : Value) (c0 : Int32) (c1 : Int32) (c2 : Int32) (c3 : Int32) (h0 : Heap) (n0 : Nat) (Z0 : n0 ≤ h0.size) (E_a1 : Exa Z h0 a1 "java/lang/String") (F_value_a1 : Fld Z h0 a1 "java/lang/String" "value" "[B" .null) (F_coder_a1 : Fld Z h0 a1 "java/lang/String" "coder" "B" (.int (0 : Int32))) (V_a2 : Arv Z h0 a2 k1 .char (4 : Int32) [(.int c0), (.int c1), (.int c2), (.int c3)] (.int (0 : Int32))) (g_a1 : n0 ≤ a1) (S_COMPACT_STRINGS : Sta Z h0 "java/lang/String" "COMPACT_STRINGS" "Z" (.int w)) (S_SIOOBE_FORMATTER : Sta Z h0 "jdk/internal/util/Preconditions" "SIOOBE_FORMATTER" "Ljava/util/function/BiFunction;" fm) (hw0 : ¬ w = (0 : Int32)) (hc0 : ¬ (255 : Int32) < c0) (hc1 : ¬ (255 : Int32) < c1) (hc2 : ¬ (255 : Int32) < c2) (hc3 : ¬ (255 : Int32) < c3) :
    MetFree l own_y11 (head1 (Jvm.Cond.code own_y11 jdk_42_method_3_code 2 none :: ws) R_rm2_4) (fun a U => a = #[(.ref a1), (.ref a2)] ∧ Z.Warmed39 U.vm ∧ U.heap = h0) (fun _ _ _ _ _ => True) (fun _ U o U' => ∃ v L, o = .returned v ∧ Q_rm2_4 Z a1 a2 k1 w fm c0 c1 c2 c3 h0 n0 v U'.heap L ∧ FrameEnd U o U' L R_rm2_4.cells R_rm2_4.slots) := by
  refine MetFree.of_bodySF (plainFor_of_name pn_String) hisR ?_
  intro p e s m args below meth c s₁ Bd hml0 hP hK
  obtain ⟨rfl, hZ, hh⟩ := hP
  have hx := Bd.exec
  have hby := Bd.bytes
  have hml : c.maxLocals = 2 := hml0
  have hown : s.vm.findClass "java/lang/String" = some m.cls := findClass_of_methodNamed Bd.named
  have hnm := (name_of_methodNamed Bd.named Bd.method).1
  have X0 : Stand p l e R_rm2_4 s m #[(.ref a1), (.ref a2)] below meth c s₁ [] 0 0 := Stand.of_body Bd
  have e0 : s₁.heap = h0 := by rw [← hh, Bd.state]; rfl
  have N0 := Fr.nil n0
  show OGo p.tables e below (own_Kq s (fun v h L => Q_rm2_4 Z a1 a2 k1 w fm c0 c1 c2 c3 h0 n0 v h L) R_rm2_4.cells R_rm2_4.slots) (s₁.setTop (entryFrame m #[(.ref a1), (.ref a2)] 2))
  refine OGo.cast (ef_rm2_4 m a1 a2) ?_
  show OGo _ _ _ _ (s₁.setTop (mkF m 0 #[.val (.ref a1), .val (.ref a2)] []))
  refine OGo.via (fun _ k => XS.aloadN X0.here hx rfl (hb hby d2_0) rfl rfl (XS.aloadN X0.here hx rfl (hb hby d2_1) rfl rfl (XS.iconst X0.here hx rfl (hb hby d2_2) (XS.aloadN X0.here hx rfl (hb hby d2_3) rfl rfl k)))) ?_
  obtain ⟨cl1, Ar1, q1, Sz1, Ng1, Hs1, Gf1⟩ := id V_a2
  refine OGo.via (X0.arraylength hx (by rw [e0]; exact Ar1.1) (State.isArrayOf_alike hZ.alike Ar1.2.1) (g := (mkF m 4 #[.val (.ref a1), .val (.ref a2)] [(.ref a2), (.int (0 : Int32)), (.ref a2), (.ref a1)])) rfl rfl (hb hby d2_4)) ?_
  rw [len_of Sz1 Ng1]
  show OGo _ _ _ _ (s₁.setTop (mkF m 5 #[.val (.ref a1), .val (.ref a2)] [(.int (4 : Int32)), (.int (0 : Int32)), (.ref a2), (.ref a1)]))
  refine OGo.via (fun _ k => XS.aconstNull X0.here hx rfl (hb hby d2_5) k) ?_
  obtain ⟨_, T2, Lc2, X2, hQ2, st2⟩ := own_open X0 (X0.specialBack hx (y := own_y10) rfl hown (mvT hZ (own_w hw 14 rfl)) (mvT hZ (own_w hw 15 rfl)) (mvT hZ (own_w hw 17 rfl)) (by decide) (backOf (W := 0) (rm3_4 l Z a0 hw [] a1 a2 k1 w fm c0 c1 c2 c3 h0 n0 Z0 E_a1 F_value_a1 F_coder_a1 V_a2 g_a1 S_COMPACT_STRINGS S_SIOOBE_FORMATTER hw0 hc0 hc1 hc2 hc3) hZ (own_w hw 17 rfl) (own_w hw 10 rfl) (by decide) (by decide)) (g := (mkF m 6 #[.val (.ref a1), .val (.ref a2)] [.null, (.int (4 : Int32)), (.int (0 : Int32)), (.ref a2), (.ref a1)])) rfl (by rw [hml]; rfl) (Steps.refl _) (a := a1) (argsL := [(.ref a2), (.int (0 : Int32)), (.int (4 : Int32)), .null]) (rest := []) (lenOf pd_4 rfl) rfl (by show 2 * 0 + _ ≤ _; exact Nat.le_of_eq rfl) (hb hby d2_6) (fun _ _ => ⟨rfl, e0, (by decide : 0 + 1 ≤ _), (by decide : 0 + 4 ≤ _)⟩))
  obtain ⟨vb, kb, rfl, N2q, r2_0, r2_1, r2_2, r2_3, r2_4, r2_5, r2_6, r2_7⟩ := hQ2
  have N2 := Fr.app N0 N2q
  have K2 : Keep h0 T2.heap [a1] := (Keep.refl h0 [a1]).trans r2_0 (allS (Or.inl (List.mem_of_getElem? (i := 0) rfl)) all0)
  have lt_a1_vb : a1 < vb := Nat.lt_of_lt_of_le E_a1.lt r2_1
  have lt_a2_vb : a2 < vb := Nat.lt_of_lt_of_le V_a2.lt r2_1
  have sz_vb : h0.size ≤ vb := Nat.le_trans (Keep.refl h0 [a1]).1 r2_1
  have g_vb : n0 ≤ vb := Nat.le_trans Z0 sz_vb
  refine OGo.via (fun _ k => st2.trans k) ?_
  show OGo _ _ _ _ (T2.setTop (mkF m 9 #[.val (.ref a1), .val (.ref a2)] []))
  show OGo _ _ _ _ (T2.setTop (mkF m 9 #[.val (.ref a1), .val (.ref a2)] []))
  refine own_retV X2 hx Bd.notSynchronized Bd.returns (hb hby d2_9) (by decide) (by decide) ?_
  show Q_rm2_4 Z _ _ _ _ _ _ _ _ _ h0 n0 _ T2.heap _
  exact ⟨vb, kb, rfl, N2, K2, sz_vb, r2_2, r2_3, r2_4, r2_5, r2_6, r2_7⟩
theorem d9_0 : decode jdk_30_method_1_code 0 = .ok (.aload_n 0, 1) := by decide +kernel
theorem d9_1 : decode jdk_30_method_1_code 1 = .ok (.invokespecial 1, 3) := by decide +kernel
theorem d9_4 : decode jdk_30_method_1_code 4 = .ok (.return_, 1) := by decide +kernel
theorem pn_Record : plainName "java/lang/Record" = true := by first | (simp [plainName, overriddenIn]; done) | decide +kernel
theorem ef_rm9 (m : MethodId) (a1 : Addr) : entryFrame m #[(.ref a1)] 1 = mkF m 0 #[.val (.ref a1)] [] := by
  first | (simp [entryFrame, mkF, argsToLocals, Value.category]; done) | rfl
def Q_rm9 (Z : State) (a1 : Addr) (h0 : Heap) (n0 : Nat) (v : Option Value) (h : Heap) (L : List Loc) : Prop := v = none ∧ Fr n0 L ∧ h = h0
abbrev R_rm9 : Room := ⟨1, 0, 0, 12⟩
set_option maxRecDepth 65536 in
set_option maxHeartbeats 40000000 in
theorem rm9 (l : Launch) (Z : State) (a0 : Array Value) (hw : ∀ d ∈ tables_1, d.before a0 Z = true) (ws : List Jvm.Cond) (a1 : Addr) (h0 : Heap) (n0 : Nat) (Z0 : n0 ≤ h0.size) :
    MetFree l own_y12 (head1 (Jvm.Cond.code own_y12 jdk_30_method_1_code 1 none :: ws) R_rm9) (fun a U => a = #[(.ref a1)] ∧ Z.Warmed39 U.vm ∧ U.heap = h0) (fun _ _ _ _ _ => True) (fun _ U o U' => ∃ v L, o = .returned v ∧ Q_rm9 Z a1 h0 n0 v U'.heap L ∧ FrameEnd U o U' L R_rm9.cells R_rm9.slots) := by
  refine MetFree.of_bodySF (plainFor_of_name pn_Record) hisR ?_
  intro p e s m args below meth c s₁ Bd hml0 hP hK
  obtain ⟨rfl, hZ, hh⟩ := hP
  have hx := Bd.exec
  have hby := Bd.bytes
  have hml : c.maxLocals = 1 := hml0
  have hown : s.vm.findClass "java/lang/Record" = some m.cls := findClass_of_methodNamed Bd.named
  have hnm := (name_of_methodNamed Bd.named Bd.method).1
  have X0 : Stand p l e R_rm9 s m #[(.ref a1)] below meth c s₁ [] 0 0 := Stand.of_body Bd
  have e0 : s₁.heap = h0 := by rw [← hh, Bd.state]; rfl
  have N0 := Fr.nil n0
  show OGo p.tables e below (own_Kq s (fun v h L => Q_rm9 Z a1 h0 n0 v h L) R_rm9.cells R_rm9.slots) (s₁.setTop (entryFrame m #[(.ref a1)] 1))
  refine OGo.cast (ef_rm9 m a1) ?_
  show OGo _ _ _ _ (s₁.setTop (mkF m 0 #[.val (.ref a1)] []))
  refine OGo.via (fun _ k => XS.aloadN X0.here hx rfl (hb hby d9_0) rfl rfl k) ?_
  obtain ⟨T1, X1, e1, st1⟩ := initO X0 hx hZ hown (own_w hw 45 rfl) (own_w hw 19 rfl) (own_w hw 20 rfl) e0 (g := (mkF m 1 #[.val (.ref a1)] [(.ref a1)])) rfl (by rw [hml]; rfl) rfl (hb hby d9_1) (by decide) (W := 0) (by show 2 * 0 + _ ≤ _; exact Nat.le_of_eq rfl) (by decide)
  refine OGo.via st1 ?_
  show OGo _ _ _ _ (T1.setTop (mkF m 4 #[.val (.ref a1)] []))
  show OGo _ _ _ _ (T1.setTop (mkF m 4 #[.val (.ref a1)] []))
  refine own_retV X1 hx Bd.notSynchronized Bd.returns (hb hby d9_4) (by decide) (by decide) ?_
  show Q_rm9 Z _ h0 n0 _ T1.heap _
  exact ⟨rfl, N0, e1⟩
theorem d8_0 : decode prog_15_method_1_code 0 = .ok (.aload_n 0, 1) := by decide +kernel
theorem d8_1 : decode prog_15_method_1_code 1 = .ok (.invokespecial 1, 3) := by decide +kernel
theorem pd_5 : parseMethodDescriptor "()V" = some ⟨[], none⟩ := by decide +kernel
theorem d8_4 : decode prog_15_method_1_code 4 = .ok (.aload_n 0, 1) := by decide +kernel
theorem d8_5 : decode prog_15_method_1_code 5 = .ok (.aload_n 1, 1) := by decide +kernel
theorem d8_6 : decode prog_15_method_1_code 6 = .ok (.putfield 7, 3) := by decide +kernel
theorem d8_9 : decode prog_15_method_1_code 9 = .ok (.return_, 1) := by decide +kernel
theorem pn_LiteralPath : plainName "com/example/ianus/ianus/server/LiteralPath" = true := by first | (simp [plainName, overriddenIn]; done) | decide +kernel
theorem ef_rm8 (m : MethodId) (a1 : Addr) (a2 : Addr) : entryFrame m #[(.ref a1), (.ref a2)] 2 = mkF m 0 #[.val (.ref a1), .val (.ref a2)] [] := by
  first | (simp [entryFrame, mkF, argsToLocals, Value.category]; done) | rfl
def Q_rm8 (Z : State) (a1 : Addr) (a2 : Addr) (w : Int32) (fm : Value) (h0 : Heap) (n0 : Nat) (v : Option Value) (h : Heap) (L : List Loc) : Prop := v = none ∧ Fr n0 L ∧ Keep h0 h [a1] ∧ Fld Z h a1 "com/example/ianus/ianus/server/LiteralPath" "path" "Ljava/lang/String;" (.ref a2) ∧ Sta Z h "java/lang/String" "COMPACT_STRINGS" "Z" (.int w) ∧ Sta Z h "jdk/internal/util/Preconditions" "SIOOBE_FORMATTER" "Ljava/util/function/BiFunction;" fm
abbrev R_rm8 : Room := ⟨2, 0, 0, 24⟩
set_option maxRecDepth 65536 in
set_option maxHeartbeats 40000000 in
theorem rm8 (l : Launch) (Z : State) (a0 : Array Value) (hw : ∀ d ∈ tables_1, d.before a0 Z = true) (ws : List Jvm.Cond) (a1 : Addr) (a2 : Addr) (w : Int32) (fm : Value) (h0 : Heap) (n0 : Nat) (Z0 : n0 ≤ h0.size) (E_a1 : Exa Z h0 a1 "com/example/ianus/ianus/server/LiteralPath") (F_path_a1 : Fld Z h0 a1 "com/example/ianus/ianus/server/LiteralPath" "path" "Ljava/lang/String;" .null) (g_a1 : n0 ≤ a1) (S_COMPACT_STRINGS : Sta Z h0 "java/lang/String" "COMPACT_STRINGS" "Z" (.int w)) (S_SIOOBE_FORMATTER : Sta Z h0 "jdk/internal/util/Preconditions" "SIOOBE_FORMATTER" "Ljava/util/function/BiFunction;" fm) :
    MetFree l own_y13 (head1 (Jvm.Cond.code own_y13 prog_15_method_1_code 2 none :: ws) R_rm8) (fun a U => a = #[(.ref a1), (.ref a2)] ∧ Z.Warmed39 U.vm ∧ U.heap = h0) (fun _ _ _ _ _ => True) (fun _ U o U' => ∃ v L, o = .returned v ∧ Q_rm8 Z a1 a2 w fm h0 n0 v U'.heap L ∧ FrameEnd U o U' L R_rm8.cells R_rm8.slots) := by
  refine MetFree.of_bodySF (plainFor_of_name pn_LiteralPath) hisR ?_
  intro p e s m args below meth c s₁ Bd hml0 hP hK
  obtain ⟨rfl, hZ, hh⟩ := hP
  have hx := Bd.exec
  have hby := Bd.bytes
  have hml : c.maxLocals = 2 := hml0
  have hown : s.vm.findClass "com/example/ianus/ianus/server/LiteralPath" = some m.cls := findClass_of_methodNamed Bd.named
  have hnm := (name_of_methodNamed Bd.named Bd.method).1
  have X0 : Stand p l e R_rm8 s m #[(.ref a1), (.ref a2)] below meth c s₁ [] 0 0 := Stand.of_body Bd
  have e0 : s₁.heap = h0 := by rw [← hh, Bd.state]; rfl
  have N0 := Fr.nil n0
  show OGo p.tables e below (own_Kq s (fun v h L => Q_rm8 Z a1 a2 w fm h0 n0 v h L) R_rm8.cells R_rm8.slots) (s₁.setTop (entryFrame m #[(.ref a1), (.ref a2)] 2))
  refine OGo.cast (ef_rm8 m a1 a2) ?_
  show OGo _ _ _ _ (s₁.setTop (mkF m 0 #[.val (.ref a1), .val (.ref a2)] []))
  refine OGo.via (fun _ k => XS.aloadN X0.here hx rfl (hb hby d8_0) rfl rfl k) ?_
  obtain ⟨_, T1, Lc1, X1, hQ1, st1⟩ := own_open X0 (X0.specialBack hx (y := own_y12) rfl hown (mvT hZ (own_w hw 40 rfl)) (mvT hZ (own_w hw 41 rfl)) (mvT hZ (own_w hw 44 rfl)) (by decide) (backOf (W := 0) (rm9 l Z a0 hw [] a1 h0 n0 Z0) hZ (own_w hw 44 rfl) (own_w hw 43 rfl) (by decide) (by decide)) (g := (mkF m 1 #[.val (.ref a1), .val (.ref a2)] [(.ref a1)])) rfl (by rw [hml]; rfl) (Steps.refl _) (a := a1) (argsL := []) (rest := []) (lenOf pd_5 rfl) rfl (by show 2 * 0 + _ ≤ _; exact Nat.le_of_eq rfl) (hb hby d8_1) (fun _ _ => ⟨rfl, e0, (by decide : 0 + 0 ≤ _), (by decide : 0 + 0 ≤ _)⟩))
  obtain ⟨rfl, N1q, r1_0⟩ := hQ1
  have N1 := Fr.app N0 N1q
  refine OGo.via (fun _ k => st1.trans k) ?_
  show OGo _ _ _ _ (T1.setTop (mkF m 4 #[.val (.ref a1), .val (.ref a2)] []))
  refine OGo.via (fun _ k => XS.aloadN X1.here hx rfl (hb hby d8_4) rfl rfl (XS.aloadN X1.here hx rfl (hb hby d8_5) rfl rfl k)) ?_
  obtain ⟨T2, h2, X2, e2, W2, st2⟩ := putF X1 hx hZ hown (host := "") (Or.inl (own_w hw 46 rfl)) Via.refl r1_0 F_path_a1 E_a1 (Or.inr ⟨(own_w hw 47 rfl), rfl, hnm⟩) (own_w hw 6 rfl) (ty := (.object "java/lang/String")) (by decide) rfl rfl (g := (mkF m 6 #[.val (.ref a1), .val (.ref a2)] [(.ref a2), (.ref a1)])) rfl rfl (hb hby d8_6)
  refine OGo.via st2 ?_
  have Fw2 := F_path_a1.same W2
  have K2 : Keep h0 h2 [a1] := (Keep.refl h0 [a1]).wr W2 (Or.inl (List.mem_of_getElem? (i := 0) rfl))
  have N2 := Fr.snoc X2 N1 g_a1
  show OGo _ _ _ _ (T2.setTop (mkF m 9 #[.val (.ref a1), .val (.ref a2)] []))
  show OGo _ _ _ _ (T2.setTop (mkF m 9 #[.val (.ref a1), .val (.ref a2)] []))
  have f3 := S_COMPACT_STRINGS.wr W2
  have f4 := S_SIOOBE_FORMATTER.wr W2
  refine own_retV X2 hx Bd.notSynchronized Bd.returns (hb hby d8_9) (by decide) (by decide) ?_
  show Q_rm8 Z _ _ _ _ h0 n0 _ T2.heap _
  rw [e2]
  exact ⟨rfl, N2, K2, Fw2, f3, f4⟩
theorem d21_0 : decode jdk_41_method_12_code 0 = .ok (.iload_n 0, 1) := by decide +kernel
theorem d21_1 : decode jdk_41_method_12_code 1 = .ok (.ifCond .lt 13, 3) := by decide +kernel
theorem d21_4 : decode jdk_41_method_12_code 4 = .ok (.iload_n 0, 1) := by decide +kernel
theorem d21_5 : decode jdk_41_method_12_code 5 = .ok (.iload_n 1, 1) := by decide +kernel
theorem d21_6 : decode jdk_41_method_12_code 6 = .ok (.if_icmp .gt 8, 3) := by decide +kernel
theorem d21_9 : decode jdk_41_method_12_code 9 = .ok (.iload_n 1, 1) := by decide +kernel
theorem d21_10 : decode jdk_41_method_12_code 10 = .ok (.iload_n 2, 1) := by decide +kernel
theorem d21_11 : decode jdk_41_method_12_code 11 = .ok (.if_icmp .le 11, 3) := by decide +kernel
theorem d21_22 : decode jdk_41_method_12_code 22 = .ok (.iload_n 0, 1) := by decide +kernel
theorem d21_23 : decode jdk_41_method_12_code 23 = .ok (.ireturn, 1) := by decide +kernel
theorem pn_Preconditions : plainName "jdk/internal/util/Preconditions" = true := by first | (simp [plainName, overriddenIn]; done) | decide +kernel
theorem ef_rm21 (m : MethodId) (p1 : Int32) (p2 : Int32) (p3 : Int32) (fm : Value) (hr_fm : fm.isRef = true) : entryFrame m #[(.int p1), (.int p2), (.int p3), fm] 4 = mkF m 0 #[.val (.int p1), .val (.int p2), .val (.int p3), .val fm] [] := by
  cases fm <;> first | exact Bool.noConfusion hr_fm | skip
  all_goals first | (simp [entryFrame, mkF, argsToLocals, Value.category]; done) | rfl
def Q_rm21 (Z : State) (p1 : Int32) (p2 : Int32) (p3 : Int32) (fm : Value) (h0 : Heap) (n0 : Nat) (v : Option Value) (h : Heap) (L : List Loc) : Prop := v = some (.int p1) ∧ Fr n0 L ∧ h = h0
abbrev R_rm21 : Room := ⟨0, 0, 0, 0⟩
set_option maxRecDepth 65536 in
set_option maxHeartbeats 40000000 in
theorem rm21 (l : Launch) (Z : State) (a0 : Array Value) (hw : ∀ d ∈ tables_1, d.before a0 Z = true) (ws : List Jvm.Cond) (p1 : Int32) (p2 : Int32) (p3 : Int32) (fm : Value) (h0 : Heap) (n0 : Nat) (Z0 : n0 ≤ h0.size) (hb1 : ¬ p1 < (0 : Int32)) (hb2 : ¬ p2 < p1) (hb3 : ¬ p3 < p2) (hr_fm : fm.isRef = true) :
    MetFree l own_y14 (head1 (Jvm.Cond.code own_y14 jdk_41_method_12_code 4 (some .int) :: ws) R_rm21) (fun a U => a = #[(.int p1), (.int p2), (.int p3), fm] ∧ Z.Warmed39 U.vm ∧ U.heap = h0) (fun _ _ _ _ _ => True) (fun _ U o U' => ∃ v L, o = .returned v ∧ Q_rm21 Z p1 p2 p3 fm h0 n0 v U'.heap L ∧ FrameEnd U o U' L R_rm21.cells R_rm21.slots) := by
  refine MetFree.of_bodySF (plainFor_of_name pn_Preconditions) hisR ?_
  intro p e s m args below meth c s₁ Bd hml0 hP hK
  obtain ⟨rfl, hZ, hh⟩ := hP
  have hx := Bd.exec
  have hby := Bd.bytes
  have hml : c.maxLocals = 4 := hml0
  have hown : s.vm.findClass "jdk/internal/util/Preconditions" = some m.cls := findClass_of_methodNamed Bd.named
  have hnm := (name_of_methodNamed Bd.named Bd.method).1
  have X0 : Stand p l e R_rm21 s m #[(.int p1), (.int p2), (.int p3), fm] below meth c s₁ [] 0 0 := Stand.of_body Bd
  have e0 : s₁.heap = h0 := by rw [← hh, Bd.state]; rfl
  have N0 := Fr.nil n0
  show OGo p.tables e below (own_Kq s (fun v h L => Q_rm21 Z p1 p2 p3 fm h0 n0 v h L) R_rm21.cells R_rm21.slots) (s₁.setTop (entryFrame m #[(.int p1), (.int p2), (.int p3), fm] 4))
  refine OGo.cast (ef_rm21 m p1 p2 p3 fm hr_fm) ?_
  show OGo _ _ _ _ (s₁.setTop (mkF m 0 #[.val (.int p1), .val (.int p2), .val (.int p3), .val fm] []))
  refine OGo.via (fun _ k => XS.iloadN X0.here hx rfl (hb hby d21_0) rfl (XS.ifNo X0.here hx rfl (hb hby d21_1) rfl ((if0 _ _).trans (flt hb1).1) (XS.iloadN X0.here hx rfl (hb hby d21_4) rfl (XS.iloadN X0.here hx rfl (hb hby d21_5) rfl (XS.icmpNo X0.here hx rfl (hb hby d21_6) rfl (flt hb2).2.2.1 (XS.iloadN X0.here hx rfl (hb hby d21_9) rfl (XS.iloadN X0.here hx rfl (hb hby d21_10) rfl (XS.icmpYes X0.here hx rfl (pc0 := 11) (pc' := 22) rfl (hb hby d21_11) rfl (flt hb3).2.2.2 (by decide) (by decide) k)))))))) ?_
  show OGo _ _ _ _ (s₁.setTop (mkF m 22 #[.val (.int p1), .val (.int p2), .val (.int p3), .val fm] []))
  refine OGo.via (fun _ k => XS.iloadN X0.here hx rfl (hb hby d21_22) rfl k) ?_
  show OGo _ _ _ _ (s₁.setTop (mkF m 23 #[.val (.int p1), .val (.int p2), .val (.int p3), .val fm] [(.int p1)]))
  refine own_retI X0 hx Bd.notSynchronized Bd.returns (hb hby d21_23) (by decide) (by decide) ?_
  show Q_rm21 Z _ _ _ _ h0 n0 _ s₁.heap _
  exact ⟨rfl, N0, e0⟩
theorem d20_0 : decode jdk_42_method_158_code 0 = .ok (.iload_n 0, 1) := by decide +kernel
theorem d20_1 : decode jdk_42_method_158_code 1 = .ok (.iload_n 1, 1) := by decide +kernel
theorem d20_2 : decode jdk_42_method_158_code 2 = .ok (.iload_n 2, 1) := by decide +kernel
theorem d20_3 : decode jdk_42_method_158_code 3 = .ok (.getstatic 1053, 3) := by decide +kernel
theorem d20_6 : decode jdk_42_method_158_code 6 = .ok (.invokestatic 1062, 3) := by decide +kernel
theorem pd_6 : parseMethodDescriptor "(IIILjava/util/function/BiFunction;)I" = some ⟨[.int, .int, .int, (.object "java/util/function/BiFunction")], some .int⟩ := by decide +kernel
theorem d20_9 : decode jdk_42_method_158_code 9 = .ok (.pop, 1) := by decide +kernel
theorem d20_10 : decode jdk_42_method_158_code 10 = .ok (.return_, 1) := by decide +kernel
theorem ef_rm20 (m : MethodId) (p1 : Int32) (p2 : Int32) (p3 : Int32) : entryFrame m #[(.int p1), (.int p2), (.int p3)] 3 = mkF m 0 #[.val (.int p1), .val (.int p2), .val (.int p3)] [] := by
  first | (simp [entryFrame, mkF, argsToLocals, Value.category]; done) | rfl
def Q_rm20 (Z : State) (p1 : Int32) (p2 : Int32) (p3 : Int32) (fm : Value) (h0 : Heap) (n0 : Nat) (v : Option Value) (h : Heap) (L : List Loc) : Prop := v = none ∧ Fr n0 L ∧ h = h0
abbrev R_rm20 : Room := ⟨1, 0, 0, 15⟩
set_option maxRecDepth 65536 in
set_option maxHeartbeats 40000000 in
theorem rm20 (l : Launch) (Z : State) (a0 : Array Value) (hw : ∀ d ∈ tables_1, d.before a0 Z = true) (ws : List Jvm.Cond) (p1 : Int32) (p2 : Int32) (p3 : Int32) (fm : Value) (h0 : Heap) (n0 : Nat) (Z0 : n0 ≤ h0.size) (S_SIOOBE_FORMATTER : Sta Z h0 "jdk/internal/util/Preconditions" "SIOOBE_FORMATTER" "Ljava/util/function/BiFunction;" fm) (hb1 : ¬ p1 < (0 : Int32)) (hb2 : ¬ p2 < p1) (hb3 : ¬ p3 < p2) (hr_fm : fm.isRef = true) :
    MetFree l own_y15 (head1 (Jvm.Cond.code own_y15 jdk_42_method_158_code 3 none :: ws) R_rm20) (fun a U => a = #[(.int p1), (.int p2), (.int p3)] ∧ Z.Warmed39 U.vm ∧ U.heap = h0) (fun _ _ _ _ _ => True) (fun _ U o U' => ∃ v L, o = .returned v ∧ Q_rm20 Z p1 p2 p3 fm h0 n0 v U'.heap L ∧ FrameEnd U o U' L R_rm20.cells R_rm20.slots) := by
  refine MetFree.of_bodySF (plainFor_of_name pn_String) hisR ?_
  intro p e s m args below meth c s₁ Bd hml0 hP hK
  obtain ⟨rfl, hZ, hh⟩ := hP
  have hx := Bd.exec
  have hby := Bd.bytes
  have hml : c.maxLocals = 3 := hml0
  have hown : s.vm.findClass "java/lang/String" = some m.cls := findClass_of_methodNamed Bd.named
  have hnm := (name_of_methodNamed Bd.named Bd.method).1
  have X0 : Stand p l e R_rm20 s m #[(.int p1), (.int p2), (.int p3)] below meth c s₁ [] 0 0 := Stand.of_body Bd
  have e0 : s₁.heap = h0 := by rw [← hh, Bd.state]; rfl
  have N0 := Fr.nil n0
  show OGo p.tables e below (own_Kq s (fun v h L => Q_rm20 Z p1 p2 p3 fm h0 n0 v h L) R_rm20.cells R_rm20.slots) (s₁.setTop (entryFrame m #[(.int p1), (.int p2), (.int p3)] 3))
  refine OGo.cast (ef_rm20 m p1 p2 p3) ?_
  show OGo _ _ _ _ (s₁.setTop (mkF m 0 #[.val (.int p1), .val (.int p2), .val (.int p3)] []))
  refine OGo.via (fun _ k => XS.iloadN X0.here hx rfl (hb hby d20_0) rfl (XS.iloadN X0.here hx rfl (hb hby d20_1) rfl (XS.iloadN X0.here hx rfl (hb hby d20_2) rfl k))) ?_
  obtain ⟨T1, X1, e1, st1⟩ := getS2 X0 hx hZ hown (host := "") (Or.inl (own_w hw 96 rfl)) Via.refl e0 S_SIOOBE_FORMATTER (g := (mkF m 3 #[.val (.int p1), .val (.int p2), .val (.int p3)] [(.int p3), (.int p2), (.int p1)])) rfl (hb hby d20_3)
  refine OGo.via st1 ?_
  show OGo _ _ _ _ (T1.setTop (mkF m 6 #[.val (.int p1), .val (.int p2), .val (.int p3)] [fm, (.int p3), (.int p2), (.int p1)]))
  obtain ⟨_, T2, Lc2, X2, hQ2, st2⟩ := own_open X1 (Jvm.LawKit.callS X1 hx (y := own_y14) hown (mvT hZ (own_w hw 98 rfl)) (mvT hZ (own_w hw 99 rfl)) (mvT hZ (own_w hw 97 rfl)) (mvT hZ (own_w hw 100 rfl)) (by decide) (backOf (W := 0) (rm21 l Z a0 hw [] p1 p2 p3 fm h0 n0 Z0 hb1 hb2 hb3 hr_fm) hZ (own_w hw 100 rfl) (own_w hw 97 rfl) (by decide) (by decide)) (g := (mkF m 6 #[.val (.int p1), .val (.int p2), .val (.int p3)] [fm, (.int p3), (.int p2), (.int p1)])) rfl (by rw [hml]; rfl) (argsL := [(.int p1), (.int p2), (.int p3), fm]) (rest := []) (lenOf pd_6 rfl) rfl (by show 2 * 0 + _ ≤ _; exact Nat.le_of_eq rfl) (hb hby d20_6) (fun _ _ => ⟨rfl, e1, (by decide : 0 + 0 ≤ _), (by decide : 0 + 0 ≤ _)⟩))
  obtain ⟨rfl, N2q, r2_0⟩ := hQ2
  have N2 := Fr.app N0 N2q
  refine OGo.via st2 ?_
  show OGo _ _ _ _ (T2.setTop (mkF m 9 #[.val (.int p1), .val (.int p2), .val (.int p3)] [(.int p1)]))
  refine OGo.via (fun _ k => XS.pop X2.here hx rfl (hb hby d20_9) rfl rfl k) ?_
  show OGo _ _ _ _ (T2.setTop (mkF m 10 #[.val (.int p1), .val (.int p2), .val (.int p3)] []))
  refine own_retV X2 hx Bd.notSynchronized Bd.returns (hb hby d20_10) (by decide) (by decide) ?_
  show Q_rm20 Z _ _ _ _ h0 n0 _ T2.heap _
  exact ⟨rfl, N2, r2_0⟩
theorem d31_0 : decode jdk_41_method_11_code 0 = .ok (.iload_n 0, 1) := by decide +kernel
theorem d31_1 : decode jdk_41_method_11_code 1 = .ok (.ifCond .lt 8, 3) := by decide +kernel
theorem d31_4 : decode jdk_41_method_11_code 4 = .ok (.iload_n 0, 1) := by decide +kernel
theorem d31_5 : decode jdk_41_method_11_code 5 = .ok (.iload_n 1, 1) := by decide +kernel
theorem d31_6 : decode jdk_41_method_11_code 6 = .ok (.if_icmp .lt 10, 3) := by decide +kernel
theorem d31_16 : decode jdk_41_method_11_code 16 = .ok (.iload_n 0, 1) := by decide +kernel
theorem d31_17 : decode jdk_41_method_11_code 17 = .ok (.ireturn, 1) := by decide +kernel
theorem ef_rm31 (m : MethodId) (p1 : Int32) (p2 : Int32) (fm : Value) (hr_fm : fm.isRef = true) : entryFrame m #[(.int p1), (.int p2), fm] 3 = mkF m 0 #[.val (.int p1), .val (.int p2), .val fm] [] := by
  cases fm <;> first | exact Bool.noConfusion hr_fm | skip
  all_goals first | (simp [entryFrame, mkF, argsToLocals, Value.category]; done) | rfl
def Q_rm31 (Z : State) (p1 : Int32) (p2 : Int32) (fm : Value) (h0 : Heap) (n0 : Nat) (v : Option Value) (h : Heap) (L : List Loc) : Prop := v = some (.int p1) ∧ Fr n0 L ∧ h = h0
abbrev R_rm31 : Room := ⟨0, 0, 0, 0⟩
set_option maxRecDepth 65536 in
set_option maxHeartbeats 40000000 in
theorem rm31 (l : Launch) (Z : State) (a0 : Array Value) (hw : ∀ d ∈ tables_1, d.before a0 Z = true) (ws : List Jvm.Cond) (p1 : Int32) (p2 : Int32) (fm : Value) (h0 : Heap) (n0 : Nat) (Z0 : n0 ≤ h0.size) (hb1 : ¬ p1 < (0 : Int32)) (hb2 : p1 < p2) (hr_fm : fm.isRef = true) :
    MetFree l own_y16 (head1 (Jvm.Cond.code own_y16 jdk_41_method_11_code 3 (some .int) :: ws) R_rm31) (fun a U => a = #[(.int p1), (.int p2), fm] ∧ Z.Warmed39 U.vm ∧ U.heap = h0) (fun _ _ _ _ _ => True) (fun _ U o U' => ∃ v L, o = .returned v ∧ Q_rm31 Z p1 p2 fm h0 n0 v U'.heap L ∧ FrameEnd U o U' L R_rm31.cells R_rm31.slots) := by
  refine MetFree.of_bodySF (plainFor_of_name pn_Preconditions) hisR ?_
  intro p e s m args below meth c s₁ Bd hml0 hP hK
  obtain ⟨rfl, hZ, hh⟩ := hP
  have hx := Bd.exec
  have hby := Bd.bytes
  have hml : c.maxLocals = 3 := hml0
  have hown : s.vm.findClass "jdk/internal/util/Preconditions" = some m.cls := findClass_of_methodNamed Bd.named
  have hnm := (name_of_methodNamed Bd.named Bd.method).1
  have X0 : Stand p l e R_rm31 s m #[(.int p1), (.int p2), fm] below meth c s₁ [] 0 0 := Stand.of_body Bd
  have e0 : s₁.heap = h0 := by rw [← hh, Bd.state]; rfl
  have N0 := Fr.nil n0
  show OGo p.tables e below (own_Kq s (fun v h L => Q_rm31 Z p1 p2 fm h0 n0 v h L) R_rm31.cells R_rm31.slots) (s₁.setTop (entryFrame m #[(.int p1), (.int p2), fm] 3))
  refine OGo.cast (ef_rm31 m p1 p2 fm hr_fm) ?_
  show OGo _ _ _ _ (s₁.setTop (mkF m 0 #[.val (.int p1), .val (.int p2), .val fm] []))
  refine OGo.via (fun _ k => XS.iloadN X0.here hx rfl (hb hby d31_0) rfl (XS.ifNo X0.here hx rfl (hb hby d31_1) rfl ((if0 _ _).trans (flt hb1).1) (XS.iloadN X0.here hx rfl (hb hby d31_4) rfl (XS.iloadN X0.here hx rfl (hb hby d31_5) rfl (XS.icmpYes X0.here hx rfl (pc0 := 6) (pc' := 16) rfl (hb hby d31_6) rfl (tlt hb2).1 (by decide) (by decide) (XS.iloadN X0.here hx rfl (hb hby d31_16) rfl k)))))) ?_
  show OGo _ _ _ _ (s₁.setTop (mkF m 17 #[.val (.int p1), .val (.int p2), .val fm] [(.int p1)]))
  refine own_retI X0 hx Bd.notSynchronized Bd.returns (hb hby d31_17) (by decide) (by decide) ?_
  show Q_rm31 Z _ _ _ h0 n0 _ s₁.heap _
  exact ⟨rfl, N0, e0⟩
theorem d30_0 : decode jdk_42_method_155_code 0 = .ok (.iload_n 0, 1) := by decide +kernel
theorem d30_1 : decode jdk_42_method_155_code 1 = .ok (.iload_n 1, 1) := by decide +kernel
theorem d30_2 : decode jdk_42_method_155_code 2 = .ok (.getstatic 1053, 3) := by decide +kernel
theorem d30_5 : decode jdk_42_method_155_code 5 = .ok (.invokestatic 1059, 3) := by decide +kernel
theorem pd_7 : parseMethodDescriptor "(IILjava/util/function/BiFunction;)I" = some ⟨[.int, .int, (.object "java/util/function/BiFunction")], some .int⟩ := by decide +kernel
theorem d30_8 : decode jdk_42_method_155_code 8 = .ok (.pop, 1) := by decide +kernel
theorem d30_9 : decode jdk_42_method_155_code 9 = .ok (.return_, 1) := by decide +kernel
theorem ef_rm30 (m : MethodId) (p1 : Int32) (p2 : Int32) : entryFrame m #[(.int p1), (.int p2)] 2 = mkF m 0 #[.val (.int p1), .val (.int p2)] [] := by
  first | (simp [entryFrame, mkF, argsToLocals, Value.category]; done) | rfl
def Q_rm30 (Z : State) (p1 : Int32) (p2 : Int32) (fm : Value) (h0 : Heap) (n0 : Nat) (v : Option Value) (h : Heap) (L : List Loc) : Prop := v = none ∧ Fr n0 L ∧ h = h0
abbrev R_rm30 : Room := ⟨1, 0, 0, 14⟩
set_option maxRecDepth 65536 in
set_option maxHeartbeats 40000000 in
theorem rm30 (l : Launch) (Z : State) (a0 : Array Value) (hw : ∀ d ∈ tables_1, d.before a0 Z = true) (ws : List Jvm.Cond) (p1 : Int32) (p2 : Int32) (fm : Value) (h0 : Heap) (n0 : Nat) (Z0 : n0 ≤ h0.size) (S_SIOOBE_FORMATTER : Sta Z h0 "jdk/internal/util/Preconditions" "SIOOBE_FORMATTER" "Ljava/util/function/BiFunction;" fm) (hb1 : ¬ p1 < (0 : Int32)) (hb2 : p1 < p2) (hr_fm : fm.isRef = true) :
    MetFree l own_y17 (head1 (Jvm.Cond.code own_y17 jdk_42_method_155_code 2 none :: ws) R_rm30) (fun a U => a = #[(.int p1), (.int p2)] ∧ Z.Warmed39 U.vm ∧ U.heap = h0) (fun _ _ _ _ _ => True) (fun _ U o U' => ∃ v L, o = .returned v ∧ Q_rm30 Z p1 p2 fm h0 n0 v U'.heap L ∧ FrameEnd U o U' L R_rm30.cells R_rm30.slots) := by
  refine MetFree.of_bodySF (plainFor_of_name pn_String) hisR ?_
  intro p e s m args below meth c s₁ Bd hml0 hP hK
  obtain ⟨rfl, hZ, hh⟩ := hP
  have hx := Bd.exec
  have hby := Bd.bytes
  have hml : c.maxLocals = 2 := hml0
  have hown : s.vm.findClass "java/lang/String" = some m.cls := findClass_of_methodNamed Bd.named
  have hnm := (name_of_methodNamed Bd.named Bd.method).1
  have X0 : Stand p l e R_rm30 s m #[(.int p1), (.int p2)] below meth c s₁ [] 0 0 := Stand.of_body Bd
  have e0 : s₁.heap = h0 := by rw [← hh, Bd.state]; rfl
  have N0 := Fr.nil n0
  show OGo p.tables e below (own_Kq s (fun v h L => Q_rm30 Z p1 p2 fm h0 n0 v h L) R_rm30.cells R_rm30.slots) (s₁.setTop (entryFrame m #[(.int p1), (.int p2)] 2))
  refine OGo.cast (ef_rm30 m p1 p2) ?_
  show OGo _ _ _ _ (s₁.setTop (mkF m 0 #[.val (.int p1), .val (.int p2)] []))
  refine OGo.via (fun _ k => XS.iloadN X0.here hx rfl (hb hby d30_0) rfl (XS.iloadN X0.here hx rfl (hb hby d30_1) rfl k)) ?_
  obtain ⟨T1, X1, e1, st1⟩ := getS2 X0 hx hZ hown (host := "") (Or.inl (own_w hw 96 rfl)) Via.refl e0 S_SIOOBE_FORMATTER (g := (mkF m 2 #[.val (.int p1), .val (.int p2)] [(.int p2), (.int p1)])) rfl (hb hby d30_2)
  refine OGo.via st1 ?_
  show OGo _ _ _ _ (T1.setTop (mkF m 5 #[.val (.int p1), .val (.int p2)] [fm, (.int p2), (.int p1)]))
  obtain ⟨_, T2, Lc2, X2, hQ2, st2⟩ := own_open X1 (Jvm.LawKit.callS X1 hx (y := own_y16) hown (mvT hZ (own_w hw 141 rfl)) (mvT hZ (own_w hw 142 rfl)) (mvT hZ (own_w hw 97 rfl)) (mvT hZ (own_w hw 143 rfl)) (by decide) (backOf (W := 0) (rm31 l Z a0 hw [] p1 p2 fm h0 n0 Z0 hb1 hb2 hr_fm) hZ (own_w hw 143 rfl) (own_w hw 97 rfl) (by decide) (by decide)) (g := (mkF m 5 #[.val (.int p1), .val (.int p2)] [fm, (.int p2), (.int p1)])) rfl (by rw [hml]; rfl) (argsL := [(.int p1), (.int p2), fm]) (rest := []) (lenOf pd_7 rfl) rfl (by show 2 * 0 + _ ≤ _; exact Nat.le_of_eq rfl) (hb hby d30_5) (fun _ _ => ⟨rfl, e1, (by decide : 0 + 0 ≤ _), (by decide : 0 + 0 ≤ _)⟩))
  obtain ⟨rfl, N2q, r2_0⟩ := hQ2
  have N2 := Fr.app N0 N2q
  refine OGo.via st2 ?_
  show OGo _ _ _ _ (T2.setTop (mkF m 8 #[.val (.int p1), .val (.int p2)] [(.int p1)]))
  refine OGo.via (fun _ k => XS.pop X2.here hx rfl (hb hby d30_8) rfl rfl k) ?_
  show OGo _ _ _ _ (T2.setTop (mkF m 9 #[.val (.int p1), .val (.int p2)] []))
  refine own_retV X2 hx Bd.notSynchronized Bd.returns (hb hby d30_9) (by decide) (by decide) ?_
  show Q_rm30 Z _ _ _ h0 n0 _ T2.heap _
  exact ⟨rfl, N2, r2_0⟩
theorem d29_0 : decode jdk_43_method_2_code 0 = .ok (.iload_n 1, 1) := by decide +kernel
theorem d29_1 : decode jdk_43_method_2_code 1 = .ok (.aload_n 0, 1) := by decide +kernel
theorem d29_2 : decode jdk_43_method_2_code 2 = .ok (.arraylength, 1) := by decide +kernel
theorem d29_3 : decode jdk_43_method_2_code 3 = .ok (.invokestatic 9, 3) := by decide +kernel
theorem pd_8 : parseMethodDescriptor "(II)V" = some ⟨[.int, .int], none⟩ := by decide +kernel
theorem d29_6 : decode jdk_43_method_2_code 6 = .ok (.aload_n 0, 1) := by decide +kernel
theorem d29_7 : decode jdk_43_method_2_code 7 = .ok (.iload_n 1, 1) := by decide +kernel
theorem d29_8 : decode jdk_43_method_2_code 8 = .ok (.baload, 1) := by decide +kernel
theorem d29_9 : decode jdk_43_method_2_code 9 = .ok (.sipush 255, 3) := by decide +kernel
theorem d29_12 : decode jdk_43_method_2_code 12 = .ok (.iand, 1) := by decide +kernel
theorem d29_13 : decode jdk_43_method_2_code 13 = .ok (.i2c, 1) := by decide +kernel
theorem d29_14 : decode jdk_43_method_2_code 14 = .ok (.ireturn, 1) := by decide +kernel
theorem ef_rm29 (m : MethodId) (a1 : Addr) (p2 : Int32) : entryFrame m #[(.ref a1), (.int p2)] 2 = mkF m 0 #[.val (.ref a1), .val (.int p2)] [] := by
  first | (simp [entryFrame, mkF, argsToLocals, Value.category]; done) | rfl
def Q_rm29 (Z : State) (a1 : Addr) (p2 : Int32) (k1 : ClassId) (fm : Value) (z : Int32) (vs : List Value) (yv : Int32) (h0 : Heap) (n0 : Nat) (v : Option Value) (h : Heap) (L : List Loc) : Prop := v = some (.int (own_ch yv)) ∧ Fr n0 L ∧ h = h0
abbrev R_rm29 : Room := ⟨2, 0, 0, 27⟩
set_option maxRecDepth 65536 in
set_option maxHeartbeats 40000000 in
theorem rm29 (l : Launch) (Z : State) (a0 : Array Value) (hw : ∀ d ∈ tables_1, d.before a0 Z = true) (ws : List Jvm.Cond) (a1 : Addr) (p2 : Int32) (k1 : ClassId) (fm : Value) (z : Int32) (vs : List Value) (yv : Int32) (h0 : Heap) (n0 : Nat) (Z0 : n0 ≤ h0.size) (V_a1 : Arv Z h0 a1 k1 .byte z vs (.int (0 : Int32))) (S_SIOOBE_FORMATTER : Sta Z h0 "jdk/internal/util/Preconditions" "SIOOBE_FORMATTER" "Ljava/util/function/BiFunction;" fm) (hr_fm : fm.isRef = true) (hb1 : ¬ p2 < (0 : Int32)) (hb2 : p2 < z) (hel : vs.getD p2.toNatClampNeg (.int (0 : Int32)) = .int yv) :
    MetFree l own_y18 (head1 (Jvm.Cond.code own_y18 jdk_43_method_2_code 2 (some .char) :: ws) R_rm29) (fun a U => a = #[(.ref a1), (.int p2)] ∧ Z.Warmed39 U.vm ∧ U.heap = h0) (fun _ _ _ _ _ => True) (fun _ U o U' => ∃ v L, o = .returned v ∧ Q_rm29 Z a1 p2 k1 fm z vs yv h0 n0 v U'.heap L ∧ FrameEnd U o U' L R_rm29.cells R_rm29.slots) := by
  refine MetFree.of_bodySF (plainFor_of_name pn_StringLatin1) hisR ?_
  intro p e s m args below meth c s₁ Bd hml0 hP hK
  obtain ⟨rfl, hZ, hh⟩ := hP
  have hx := Bd.exec
  have hby := Bd.bytes
  have hml : c.maxLocals = 2 := hml0
  have hown : s.vm.findClass "java/lang/StringLatin1" = some m.cls := findClass_of_methodNamed Bd.named
  have hnm := (name_of_methodNamed Bd.named Bd.method).1
  have X0 : Stand p l e R_rm29 s m #[(.ref a1), (.int p2)] below meth c s₁ [] 0 0 := Stand.of_body Bd
  have e0 : s₁.heap = h0 := by rw [← hh, Bd.state]; rfl
  have N0 := Fr.nil n0
  show OGo p.tables e below (own_Kq s (fun v h L => Q_rm29 Z a1 p2 k1 fm z vs yv h0 n0 v h L) R_rm29.cells R_rm29.slots) (s₁.setTop (entryFrame m #[(.ref a1), (.int p2)] 2))
  refine OGo.cast (ef_rm29 m a1 p2) ?_
  show OGo _ _ _ _ (s₁.setTop (mkF m 0 #[.val (.ref a1), .val (.int p2)] []))
  refine OGo.via (fun _ k => XS.iloadN X0.here hx rfl (hb hby d29_0) rfl (XS.aloadN X0.here hx rfl (hb hby d29_1) rfl rfl k)) ?_
  obtain ⟨cl1, Ar1, q1, Sz1, Ng1, Hs1, Gf1⟩ := id V_a1
  refine OGo.via (X0.arraylength hx (by rw [e0]; exact Ar1.1) (State.isArrayOf_alike hZ.alike Ar1.2.1) (g := (mkF m 2 #[.val (.ref a1), .val (.int p2)] [(.ref a1), (.int p2)])) rfl rfl (hb hby d29_2)) ?_
  rw [len_of Sz1 Ng1]
  show OGo _ _ _ _ (s₁.setTop (mkF m 3 #[.val (.ref a1), .val (.int p2)] [(.int z), (.int p2)]))
  obtain ⟨_, T2, Lc2, X2, hQ2, st2⟩ := own_open X0 (Jvm.LawKit.callS X0 hx (y := own_y17) hown (mvT hZ (own_w hw 138 rfl)) (mvT hZ (own_w hw 139 rfl)) (mvT hZ (own_w hw 10 rfl)) (mvT hZ (own_w hw 140 rfl)) (by decide) (backOf (W := 0) (rm30 l Z a0 hw [] p2 z fm h0 n0 Z0 S_SIOOBE_FORMATTER hb1 hb2 hr_fm) hZ (own_w hw 140 rfl) (own_w hw 10 rfl) (by decide) (by decide)) (g := (mkF m 3 #[.val (.ref a1), .val (.int p2)] [(.int z), (.int p2)])) rfl (by rw [hml]; rfl) (argsL := [(.int p2), (.int z)]) (rest := []) (lenOf pd_8 rfl) rfl (by show 2 * 0 + _ ≤ _; exact Nat.le_of_eq rfl) (hb hby d29_3) (fun _ _ => ⟨rfl, e0, (by decide : 0 + 0 ≤ _), (by decide : 0 + 0 ≤ _)⟩))
  obtain ⟨rfl, N2q, r2_0⟩ := hQ2
  have N2 := Fr.app N0 N2q
  refine OGo.via st2 ?_
  show OGo _ _ _ _ (T2.setTop (mkF m 6 #[.val (.ref a1), .val (.int p2)] []))
  refine OGo.via (fun _ k => XS.aloadN X2.here hx rfl (hb hby d29_6) rfl rfl (XS.iloadN X2.here hx rfl (hb hby d29_7) rfl k)) ?_
  obtain ⟨cl3, Ar3, q3, Sz3, Ng3, Hs3, Gf3⟩ := id V_a1
  have hin3 : ¬ (p2 < 0 ∨ cl3.slots.size ≤ (p2).toNatClampNeg) := inb_of Sz3 ⟨hb1, hb2⟩
  have hat3 : cl3.slots[(p2).toNatClampNeg]? = some (.int yv) := Hs3.at hin3 hel
  refine OGo.via (X2.baloadBytes hx (j := p2) (v := (.int yv)) (by rw [r2_0]; exact Ar3.1) (State.isArrayOf_alike hZ.alike Ar3.2.1) Ar3.2.2 hin3 hat3 (g := (mkF m 8 #[.val (.ref a1), .val (.int p2)] [(.int p2), (.ref a1)])) rfl rfl (hb hby d29_8)) ?_
  show OGo _ _ _ _ (T2.setTop (mkF m 9 #[.val (.ref a1), .val (.int p2)] [(.int yv)]))
  refine OGo.via (fun _ k => XS.sipush X2.here hx rfl (hb hby d29_9) (XS.iand X2.here hx rfl (hb hby d29_12) rfl (XS.i2c X2.here hx rfl (hb hby d29_13) rfl k))) ?_
  show OGo _ _ _ _ (T2.setTop (mkF m 14 #[.val (.ref a1), .val (.int p2)] [(.int ((yv &&& (255 : Int32)).toUInt32.toUInt16.toUInt32.toInt32))]))
  refine own_retN (t := .char) (by simp) X2 hx Bd.notSynchronized Bd.returns (hb hby d29_14) (by decide) (by decide) ?_
  show Q_rm29 Z _ _ _ _ _ _ _ h0 n0 _ T2.heap _
  exact ⟨rfl, N2, r2_0⟩
theorem d28_0 : decode jdk_42_method_56_code 0 = .ok (.aload_n 0, 1) := by decide +kernel
theorem d28_1 : decode jdk_42_method_56_code 1 = .ok (.invokevirtual 492, 3) := by decide +kernel
theorem pd_9 : parseMethodDescriptor "()Z" = some ⟨[], some .boolean⟩ := by decide +kernel
theorem d28_4 : decode jdk_42_method_56_code 4 = .ok (.ifCond .eq 12, 3) := by decide +kernel
theorem d28_7 : decode jdk_42_method_56_code 7 = .ok (.aload_n 0, 1) := by decide +kernel
theorem d28_8 : decode jdk_42_method_56_code 8 = .ok (.getfield 9, 3) := by decide +kernel
theorem d28_11 : decode jdk_42_method_56_code 11 = .ok (.iload_n 1, 1) := by decide +kernel
theorem d28_12 : decode jdk_42_method_56_code 12 = .ok (.invokestatic 495, 3) := by decide +kernel
theorem pd_10 : parseMethodDescriptor "([BI)C" = some ⟨[(.array .byte), .int], some .char⟩ := by decide +kernel
theorem d28_15 : decode jdk_42_method_56_code 15 = .ok (.ireturn, 1) := by decide +kernel
theorem ef_rm28 (m : MethodId) (a1 : Addr) (p2 : Int32) : entryFrame m #[(.ref a1), (.int p2)] 2 = mkF m 0 #[.val (.ref a1), .val (.int p2)] [] := by
  first | (simp [entryFrame, mkF, argsToLocals, Value.category]; done) | rfl
def Q_rm28 (Z : State) (a1 : Addr) (p2 : Int32) (w : Int32) (fm : Value) (vb : Addr) (kb : ClassId) (z : Int32) (vs : List Value) (yv : Int32) (h0 : Heap) (n0 : Nat) (v : Option Value) (h : Heap) (L : List Loc) : Prop := v = some (.int (own_ch yv)) ∧ Fr n0 L ∧ h = h0
abbrev R_rm28 : Room := ⟨3, 0, 0, 40⟩
set_option maxRecDepth 65536 in
set_option maxHeartbeats 40000000 in
theorem rm28 (l : Launch) (Z : State) (a0 : Array Value) (hw : ∀ d ∈ tables_1, d.before a0 Z = true) (ws : List Jvm.Cond) (a1 : Addr) (p2 : Int32) (w : Int32) (fm : Value) (vb : Addr) (kb : ClassId) (z : Int32) (vs : List Value) (yv : Int32) (h0 : Heap) (n0 : Nat) (Z0 : n0 ≤ h0.size) (E_a1 : Exa Z h0 a1 "java/lang/String") (F_value_a1 : Fld Z h0 a1 "java/lang/String" "value" "[B" (.ref vb)) (F_coder_a1 : Fld Z h0 a1 "java/lang/String" "coder" "B" (.int (0 : Int32))) (V_vb : Arv Z h0 vb kb .byte z vs (.int (0 : Int32))) (S_COMPACT_STRINGS : Sta Z h0 "java/lang/String" "COMPACT_STRINGS" "Z" (.int w)) (S_SIOOBE_FORMATTER : Sta Z h0 "jdk/internal/util/Preconditions" "SIOOBE_FORMATTER" "Ljava/util/function/BiFunction;" fm) (hw0 : ¬ w = (0 : Int32)) (hr_fm : fm.isRef = true) (hb1 : ¬ p2 < (0 : Int32)) (hb2 : p2 < z) (hel : vs.getD p2.toNatClampNeg (.int (0 : Int32)) = .int yv) :
    MetFree l own_y19 (head1 (Jvm.Cond.code own_y19 jdk_42_method_56_code 2 (some .char) :: ws) R_rm28) (fun a U => a = #[(.ref a1), (.int p2)] ∧ Z.Warmed39 U.vm ∧ U.heap = h0) (fun _ _ _ _ _ => True) (fun _ U o U' => ∃ v L, o = .returned v ∧ Q_rm28 Z a1 p2 w fm vb kb z vs yv h0 n0 v U'.heap L ∧ FrameEnd U o U' L R_rm28.cells R_rm28.slots) := by
  refine MetFree.of_bodySF (plainFor_of_name pn_String) hisR ?_
  intro p e s m args below meth c s₁ Bd hml0 hP hK
  obtain ⟨rfl, hZ, hh⟩ := hP
  have hx := Bd.exec
  have hby := Bd.bytes
  have hml : c.maxLocals = 2 := hml0
  have hown : s.vm.findClass "java/lang/String" = some m.cls := findClass_of_methodNamed Bd.named
  have hnm := (name_of_methodNamed Bd.named Bd.method).1
  have X0 : Stand p l e R_rm28 s m #[(.ref a1), (.int p2)] below meth c s₁ [] 0 0 := Stand.of_body Bd
  have e0 : s₁.heap = h0 := by rw [← hh, Bd.state]; rfl
  have N0 := Fr.nil n0
  show OGo p.tables e below (own_Kq s (fun v h L => Q_rm28 Z a1 p2 w fm vb kb z vs yv h0 n0 v h L) R_rm28.cells R_rm28.slots) (s₁.setTop (entryFrame m #[(.ref a1), (.int p2)] 2))
  refine OGo.cast (ef_rm28 m a1 p2) ?_
  show OGo _ _ _ _ (s₁.setTop (mkF m 0 #[.val (.ref a1), .val (.int p2)] []))
  refine OGo.via (fun _ k => XS.aloadN X0.here hx rfl (hb hby d28_0) rfl rfl k) ?_
  obtain ⟨cq1, kq1, q1a, q1b, q1c⟩ := isOf hZ e0 E_a1
  obtain ⟨_, T1, Lc1, X1, hQ1, st1⟩ := own_open X0 (X0.virtualBack hx (y := own_y5) (z := own_y5) hown (mvT hZ (own_w hw 58 rfl)) (mvT hZ (own_w hw 59 rfl)) (notFace_of_selects (args := #[]) (mvT hZ (own_w hw 61 rfl))) (mvT hZ (own_w hw 61 rfl)) (mvT hZ (own_w hw 60 rfl)) (by decide) (backOf (W := 0) (rm12 l Z a0 hw [] a1 w vb h0 n0 Z0 E_a1 F_value_a1 F_coder_a1 S_COMPACT_STRINGS hw0) hZ (own_w hw 62 rfl) (own_w hw 10 rfl) (by decide) (by decide)) q1a q1c (g := (mkF m 1 #[.val (.ref a1), .val (.int p2)] [(.ref a1)])) rfl (by rw [hml]; rfl) (Steps.refl _) (argsL := []) (rest := []) (lenOf pd_9 rfl) rfl (by show 2 * 0 + _ ≤ _; exact Nat.le_of_eq rfl) (hb hby d28_1) (fun _ _ => ⟨rfl, e0, (by decide : 0 + 0 ≤ _), (by decide : 0 + 0 ≤ _)⟩))
  obtain ⟨rfl, N1q, r1_0⟩ := hQ1
  have N1 := Fr.app N0 N1q
  refine OGo.via (fun _ k => st1.trans k) ?_
  show OGo _ _ _ _ (T1.setTop (mkF m 4 #[.val (.ref a1), .val (.int p2)] [(.int (1 : Int32))]))
  refine OGo.via (fun _ k => XS.ifNo X1.here hx rfl (hb hby d28_4) rfl ((if0 _ _).trans (feq (by decide : ¬ ((1 : Int32) = (0 : Int32)))).1) (XS.aloadN X1.here hx rfl (hb hby d28_7) rfl rfl k)) ?_
  obtain ⟨T2, X2, e2, st2⟩ := getF X1 hx hZ hown (host := "") (Or.inl (own_w hw 35 rfl)) Via.refl r1_0 F_value_a1 (g := (mkF m 8 #[.val (.ref a1), .val (.int p2)] [(.ref a1)])) rfl rfl (hb hby d28_8)
  refine OGo.via st2 ?_
  show OGo _ _ _ _ (T2.setTop (mkF m 11 #[.val (.ref a1), .val (.int p2)] [(.ref vb)]))
  refine OGo.via (fun _ k => XS.iloadN X2.here hx rfl (hb hby d28_11) rfl k) ?_
  obtain ⟨_, T3, Lc3, X3, hQ3, st3⟩ := own_open X2 (Jvm.LawKit.callS X2 hx (y := own_y18) hown (mvT hZ (own_w hw 135 rfl)) (mvT hZ (own_w hw 136 rfl)) (mvT hZ (own_w hw 75 rfl)) (mvT hZ (own_w hw 137 rfl)) (by decide) (backOf (W := 0) (rm29 l Z a0 hw [] vb p2 kb fm z vs yv h0 n0 Z0 V_vb S_SIOOBE_FORMATTER hr_fm hb1 hb2 hel) hZ (own_w hw 137 rfl) (own_w hw 75 rfl) (by decide) (by decide)) (g := (mkF m 12 #[.val (.ref a1), .val (.int p2)] [(.int p2), (.ref vb)])) rfl (by rw [hml]; rfl) (argsL := [(.ref vb), (.int p2)]) (rest := []) (lenOf pd_10 rfl) rfl (by show 2 * 0 + _ ≤ _; exact Nat.le_of_eq rfl) (hb hby d28_12) (fun _ _ => ⟨rfl, e2, (by decide : 0 + 0 ≤ _), (by decide : 0 + 0 ≤ _)⟩))
  obtain ⟨rfl, N3q, r3_0⟩ := hQ3
  have N3 := Fr.app N1 N3q
  refine OGo.via st3 ?_
  show OGo _ _ _ _ (T3.setTop (mkF m 15 #[.val (.ref a1), .val (.int p2)] [(.int (own_ch yv))]))
  show OGo _ _ _ _ (T3.setTop (mkF m 15 #[.val (.ref a1), .val (.int p2)] [(.int (own_ch yv))]))
  refine own_retN (t := .char) (by simp) X3 hx Bd.notSynchronized Bd.returns (hb hby d28_15) (by decide) (by decide) ?_
  show Q_rm28 Z _ _ _ _ _ _ _ _ _ h0 n0 _ T3.heap _
  exact ⟨(by rw [own_ch_n]), N3, r3_0⟩
theorem d26_0 : decode jdk_65_method_131_code 0 = .ok (.iload_n 1, 1) := by decide +kernel
theorem d26_1 : decode jdk_65_method_131_code 1 = .ok (.iload_n 0, 1) := by decide +kernel
theorem d26_2 : decode jdk_65_method_131_code 2 = .ok (.if_icmp .ge 35, 3) := by decide +kernel
theorem d26_37 : decode jdk_65_method_131_code 37 = .ok (.return_, 1) := by decide +kernel
theorem pn_Arrays : plainName "java/util/Arrays" = true := by first | (simp [plainName, overriddenIn]; done) | decide +kernel
theorem ef_rm26 (m : MethodId) (p1 : Int32) (p2 : Int32) : entryFrame m #[(.int p1), (.int p2)] 2 = mkF m 0 #[.val (.int p1), .val (.int p2)] [] := by
  first | (simp [entryFrame, mkF, argsToLocals, Value.category]; done) | rfl
def Q_rm26 (Z : State) (p1 : Int32) (p2 : Int32) (h0 : Heap) (n0 : Nat) (v : Option Value) (h : Heap) (L : List Loc) : Prop := v = none ∧ Fr n0 L ∧ h = h0
abbrev R_rm26 : Room := ⟨0, 0, 0, 0⟩
set_option maxRecDepth 65536 in
set_option maxHeartbeats 40000000 in
theorem rm26 (l : Launch) (Z : State) (a0 : Array Value) (hw : ∀ d ∈ tables_1, d.before a0 Z = true) (ws : List Jvm.Cond) (p1 : Int32) (p2 : Int32) (h0 : Heap) (n0 : Nat) (Z0 : n0 ≤ h0.size) (hb1 : ¬ p2 < p1) :
    MetFree l own_y20 (head1 (Jvm.Cond.code own_y20 jdk_65_method_131_code 2 none :: ws) R_rm26) (fun a U => a = #[(.int p1), (.int p2)] ∧ Z.Warmed39 U.vm ∧ U.heap = h0) (fun _ _ _ _ _ => True) (fun _ U o U' => ∃ v L, o = .returned v ∧ Q_rm26 Z p1 p2 h0 n0 v U'.heap L ∧ FrameEnd U o U' L R_rm26.cells R_rm26.slots) := by
  refine MetFree.of_bodySF (plainFor_of_name pn_Arrays) hisR ?_
  intro p e s m args below meth c s₁ Bd hml0 hP hK
  obtain ⟨rfl, hZ, hh⟩ := hP
  have hx := Bd.exec
  have hby := Bd.bytes
  have hml : c.maxLocals = 2 := hml0
  have hown : s.vm.findClass "java/util/Arrays" = some m.cls := findClass_of_methodNamed Bd.named
  have hnm := (name_of_methodNamed Bd.named Bd.method).1
  have X0 : Stand p l e R_rm26 s m #[(.int p1), (.int p2)] below meth c s₁ [] 0 0 := Stand.of_body Bd
  have e0 : s₁.heap = h0 := by rw [← hh, Bd.state]; rfl
  have N0 := Fr.nil n0
  show OGo p.tables e below (own_Kq s (fun v h L => Q_rm26 Z p1 p2 h0 n0 v h L) R_rm26.cells R_rm26.slots) (s₁.setTop (entryFrame m #[(.int p1), (.int p2)] 2))
  refine OGo.cast (ef_rm26 m p1 p2) ?_
  show OGo _ _ _ _ (s₁.setTop (mkF m 0 #[.val (.int p1), .val (.int p2)] []))
  refine OGo.via (fun _ k => XS.iloadN X0.here hx rfl (hb hby d26_0) rfl (XS.iloadN X0.here hx rfl (hb hby d26_1) rfl (XS.icmpYes X0.here hx rfl (pc0 := 2) (pc' := 37) rfl (hb hby d26_2) rfl (flt hb1).2.1 (by decide) (by decide) k))) ?_
  show OGo _ _ _ _ (s₁.setTop (mkF m 37 #[.val (.int p1), .val (.int p2)] []))
  refine own_retV X0 hx Bd.notSynchronized Bd.returns (hb hby d26_37) (by decide) (by decide) ?_
  show Q_rm26 Z _ _ h0 n0 _ s₁.heap _
  exact ⟨rfl, N0, e0⟩
theorem d27_0 : decode jdk_42_method_151_code 0 = .ok (.aload_n 0, 1) := by decide +kernel
theorem d27_1 : decode jdk_42_method_151_code 1 = .ok (.invokespecial 1, 3) := by decide +kernel
theorem d27_4 : decode jdk_42_method_151_code 4 = .ok (.aload_n 0, 1) := by decide +kernel
theorem d27_5 : decode jdk_42_method_151_code 5 = .ok (.aload_n 1, 1) := by decide +kernel
theorem d27_6 : decode jdk_42_method_151_code 6 = .ok (.putfield 9, 3) := by decide +kernel
theorem d27_9 : decode jdk_42_method_151_code 9 = .ok (.aload_n 0, 1) := by decide +kernel
theorem d27_10 : decode jdk_42_method_151_code 10 = .ok (.iload_n 2, 1) := by decide +kernel
theorem d27_11 : decode jdk_42_method_151_code 11 = .ok (.putfield 15, 3) := by decide +kernel
theorem d27_14 : decode jdk_42_method_151_code 14 = .ok (.return_, 1) := by decide +kernel
theorem ef_rm27 (m : MethodId) (a1 : Addr) (a2 : Addr) : entryFrame m #[(.ref a1), (.ref a2), (.int (0 : Int32))] 3 = mkF m 0 #[.val (.ref a1), .val (.ref a2), .val (.int (0 : Int32))] [] := by
  first | (simp [entryFrame, mkF, argsToLocals, Value.category]; done) | rfl
def Q_rm27 (Z : State) (a1 : Addr) (a2 : Addr) (w : Int32) (fm : Value) (h0 : Heap) (n0 : Nat) (v : Option Value) (h : Heap) (L : List Loc) : Prop := v = none ∧ Fr n0 L ∧ Keep h0 h [a1] ∧ Exa Z h a1 "java/lang/String" ∧ Fld Z h a1 "java/lang/String" "value" "[B" (.ref a2) ∧ Fld Z h a1 "java/lang/String" "coder" "B" (.int (0 : Int32)) ∧ Sta Z h "java/lang/String" "COMPACT_STRINGS" "Z" (.int w) ∧ Sta Z h "jdk/internal/util/Preconditions" "SIOOBE_FORMATTER" "Ljava/util/function/BiFunction;" fm
abbrev R_rm27 : Room := ⟨1, 0, 0, 12⟩
set_option maxRecDepth 65536 in
set_option maxHeartbeats 40000000 in
theorem rm27 (l : Launch) (Z : State) (a0 : Array Value) (hw : ∀ d ∈ tables_1, d.before a0 Z = true) (ws : List Jvm.Cond) (a1 : Addr) (a2 : Addr) (w : Int32) (fm : Value) (h0 : Heap) (n0 : Nat) (Z0 : n0 ≤ h0.size) (E_a1 : Exa Z h0 a1 "java/lang/String") (F_value_a1 : Fld Z h0 a1 "java/lang/String" "value" "[B" .null) (F_coder_a1 : Fld Z h0 a1 "java/lang/String" "coder" "B" (.int (0 : Int32))) (g_a1 : n0 ≤ a1) (S_COMPACT_STRINGS : Sta Z h0 "java/lang/String" "COMPACT_STRINGS" "Z" (.int w)) (S_SIOOBE_FORMATTER : Sta Z h0 "jdk/internal/util/Preconditions" "SIOOBE_FORMATTER" "Ljava/util/function/BiFunction;" fm) :
    MetFree l own_y21 (head1 (Jvm.Cond.code own_y21 jdk_42_method_151_code 3 none :: ws) R_rm27) (fun a U => a = #[(.ref a1), (.ref a2), (.int (0 : Int32))] ∧ Z.Warmed39 U.vm ∧ U.heap = h0) (fun _ _ _ _ _ => True) (fun _ U o U' => ∃ v L, o = .returned v ∧ Q_rm27 Z a1 a2 w fm h0 n0 v U'.heap L ∧ FrameEnd U o U' L R_rm27.cells R_rm27.slots) := by
  refine MetFree.of_bodySF (plainFor_of_name pn_String) hisR ?_
  intro p e s m args below meth c s₁ Bd hml0 hP hK
  obtain ⟨rfl, hZ, hh⟩ := hP
  have hx := Bd.exec
  have hby := Bd.bytes
  have hml : c.maxLocals = 3 := hml0
  have hown : s.vm.findClass "java/lang/String" = some m.cls := findClass_of_methodNamed Bd.named
  have hnm := (name_of_methodNamed Bd.named Bd.method).1
  have X0 : Stand p l e R_rm27 s m #[(.ref a1), (.ref a2), (.int (0 : Int32))] below meth c s₁ [] 0 0 := Stand.of_body Bd
  have e0 : s₁.heap = h0 := by rw [← hh, Bd.state]; rfl
  have N0 := Fr.nil n0
  show OGo p.tables e below (own_Kq s (fun v h L => Q_rm27 Z a1 a2 w fm h0 n0 v h L) R_rm27.cells R_rm27.slots) (s₁.setTop (entryFrame m #[(.ref a1), (.ref a2), (.int (0 : Int32))] 3))
  refine OGo.cast (ef_rm27 m a1 a2) ?_
  show OGo _ _ _ _ (s₁.setTop (mkF m 0 #[.val (.ref a1), .val (.ref a2), .val (.int (0 : Int32))] []))
  refine OGo.via (fun _ k => XS.aloadN X0.here hx rfl (hb hby d27_0) rfl rfl k) ?_
  obtain ⟨T1, X1, e1, st1⟩ := initO X0 hx hZ hown (own_w hw 18 rfl) (own_w hw 19 rfl) (own_w hw 20 rfl) e0 (g := (mkF m 1 #[.val (.ref a1), .val (.ref a2), .val (.int (0 : Int32))] [(.ref a1)])) rfl (by rw [hml]; rfl) rfl (hb hby d27_1) (by decide) (W := 0) (by show 2 * 0 + _ ≤ _; exact Nat.le_of_eq rfl) (by decide)
  refine OGo.via st1 ?_
  show OGo _ _ _ _ (T1.setTop (mkF m 4 #[.val (.ref a1), .val (.ref a2), .val (.int (0 : Int32))] []))
  refine OGo.via (fun _ k => XS.aloadN X1.here hx rfl (hb hby d27_4) rfl rfl (XS.aloadN X1.here hx rfl (hb hby d27_5) rfl rfl k)) ?_
  obtain ⟨T2, h2, X2, e2, W2, st2⟩ := putF X1 hx hZ hown (host := "") (Or.inl (own_w hw 35 rfl)) Via.refl e1 F_value_a1 E_a1 (Or.inr ⟨(own_w hw 36 rfl), rfl, hnm⟩) (own_w hw 9 rfl) (ty := (.array .byte)) (by decide) rfl rfl (g := (mkF m 6 #[.val (.ref a1), .val (.ref a2), .val (.int (0 : Int32))] [(.ref a2), (.ref a1)])) rfl rfl (hb hby d27_6)
  refine OGo.via st2 ?_
  have Fw2 := F_value_a1.same W2
  have K2 : Keep h0 h2 [a1] := (Keep.refl h0 [a1]).wr W2 (Or.inl (List.mem_of_getElem? (i := 0) rfl))
  have N2 := Fr.snoc X2 N0 g_a1
  show OGo _ _ _ _ (T2.setTop (mkF m 9 #[.val (.ref a1), .val (.ref a2), .val (.int (0 : Int32))] []))
  refine OGo.via (fun _ k => XS.aloadN X2.here hx rfl (hb hby d27_9) rfl rfl (XS.iloadN X2.here hx rfl (hb hby d27_10) rfl k)) ?_
  have f4 := F_coder_a1.other W2 (Or.inr (slot_ne (Or.inr (own_w hw 34 rfl)) (Or.inr (own_w hw 36 rfl)) (by decide) (t := .byte) (t' := (.array .byte)) (by decide) (by decide)))
  have f5 := E_a1.wr W2
  obtain ⟨T3, h3, X3, e3, W3, st3⟩ := putFN X2 hx hZ hown (own_w hw 33 rfl) Via.refl e2 f4 f5 (Or.inr ⟨(own_w hw 34 rfl), rfl, hnm⟩) (own_w hw 9 rfl) (ty := .byte) (v' := (.int (0 : Int32))) (by decide) rfl (by decide) (g := (mkF m 11 #[.val (.ref a1), .val (.ref a2), .val (.int (0 : Int32))] [(.int (0 : Int32)), (.ref a1)])) rfl rfl (hb hby d27_11)
  refine OGo.via st3 ?_
  have Fw3 := f4.same W3
  have K3 : Keep h0 h3 [a1] := K2.wr W3 (Or.inl (List.mem_of_getElem? (i := 0) rfl))
  have N3 := Fr.snoc X3 N2 g_a1
  show OGo _ _ _ _ (T3.setTop (mkF m 14 #[.val (.ref a1), .val (.ref a2), .val (.int (0 : Int32))] []))
  show OGo _ _ _ _ (T3.setTop (mkF m 14 #[.val (.ref a1), .val (.ref a2), .val (.int (0 : Int32))] []))
  have f6 := f5.wr W3
  have f7 := Fw2.other W3 (Or.inr (slot_ne (Or.inr (own_w hw 36 rfl)) (Or.inr (own_w hw 34 rfl)) (by decide) (t := (.array .byte)) (t' := .byte) (by decide) (by decide)))
  have f8 := S_COMPACT_STRINGS.wr W2
  have f9 := f8.wr W3
  have f10 := S_SIOOBE_FORMATTER.wr W2
  have f11 := f10.wr W3
  refine own_retV X3 hx Bd.notSynchronized Bd.returns (hb hby d27_14) (by decide) (by decide) ?_
  show Q_rm27 Z _ _ _ _ h0 n0 _ T3.heap _
  rw [e3]
  exact ⟨rfl, N3, K3, f6, f7, Fw3, f9, f11⟩
theorem d22_0 : decode jdk_43_method_47_code 0 = .ok (.iload_n 2, 1) := by decide +kernel
theorem d22_1 : decode jdk_43_method_47_code 1 = .ok (.ifCond .ne 6, 3) := by decide +kernel
theorem d22_4 : decode jdk_43_method_47_code 4 = .ok (.ldc 151, 2) := by decide +kernel
theorem d22_6 : decode jdk_43_method_47_code 6 = .ok (.areturn, 1) := by decide +kernel
theorem ef_rm22_w (m : MethodId) (a1 : Addr) : entryFrame m #[(.ref a1), (.int (1 : Int32)), (.int (0 : Int32))] 3 = mkF m 0 #[.val (.ref a1), .val (.int (1 : Int32)), .val (.int (0 : Int32))] [] := by
  first | (simp [entryFrame, mkF, argsToLocals, Value.category]; done) | rfl
def Q_rm22_w (Z : State) (a1 : Addr) (h0 : Heap) (n0 : Nat) (v : Option Value) (h : Heap) (L : List Loc) : Prop := ∃ rr : Addr, ∃ vb : Addr, ∃ kb : ClassId, v = some (.ref rr) ∧ Fr n0 L ∧ Keep h0 h [] ∧ Exa Z h rr "java/lang/String" ∧ Fld Z h rr "java/lang/String" "value" "[B" (.ref vb) ∧ Fld Z h rr "java/lang/String" "coder" "B" (.int (0 : Int32)) ∧ Arv Z h vb kb .byte (0 : Int32) [] (.int (0 : Int32))
abbrev R_rm22_w : Room := ⟨0, 2, 4, 0⟩
set_option maxRecDepth 65536 in
set_option maxHeartbeats 40000000 in
theorem rm22_w (l : Launch) (Z : State) (a0 : Array Value) (hw : ∀ d ∈ tables_1, d.before a0 Z = true) (ws : List Jvm.Cond) (a1 : Addr) (h0 : Heap) (n0 : Nat) (Z0 : n0 ≤ h0.size) (hold : ∀ (b : Addr) (cl : Cell), Z.heap[b]? = some cl → h0[b]? = some cl) (hhc : Jvm.Lit.constHeld Z "java/lang/StringLatin1" 151) (hcw : Jvm.Lit.compactW.before a0 Z = true) :
    MetFree l own_y22 (head1 (Jvm.Cond.code own_y22 jdk_43_method_47_code 3 (some (.object "java/lang/String")) :: ws) R_rm22_w) (fun a U => a = #[(.ref a1), (.int (1 : Int32)), (.int (0 : Int32))] ∧ Z.WarmedH U.vm ∧ U.heap = h0) (fun _ _ _ _ _ => True) (fun _ U o U' => ∃ v L, o = .returned v ∧ Q_rm22_w Z a1 h0 n0 v U'.heap L ∧ ReturnedEndW U o U' L R_rm22_w.cells R_rm22_w.slots) := by
  refine MetFree.of_bodySF (plainFor_of_name pn_StringLatin1) hisR ?_
  intro p e s m args below meth c s₁ Bd hml0 hP hK
  obtain ⟨rfl, hZH, hh⟩ := hP
  have hZ := hZH.wide
  have hx := Bd.exec
  have hby := Bd.bytes
  have hml : c.maxLocals = 3 := hml0
  have hown : s.vm.findClass "java/lang/StringLatin1" = some m.cls := findClass_of_methodNamed Bd.named
  have hnm := (name_of_methodNamed Bd.named Bd.method).1
  have X0 : Stand p l e R_rm22_w s m #[(.ref a1), (.int (1 : Int32)), (.int (0 : Int32))] below meth c s₁ [] 0 0 := Stand.of_body Bd
  have e0 : s₁.heap = h0 := by rw [← hh, Bd.state]; rfl
  have N0 := Fr.nil n0
  show OGo p.tables e below (own_KqW s (fun v h L => Q_rm22_w Z a1 h0 n0 v h L) R_rm22_w.cells R_rm22_w.slots) (s₁.setTop (entryFrame m #[(.ref a1), (.int (1 : Int32)), (.int (0 : Int32))] 3))
  refine OGo.cast (ef_rm22_w m a1) ?_
  show OGo _ _ _ _ (s₁.setTop (mkF m 0 #[.val (.ref a1), .val (.int (1 : Int32)), .val (.int (0 : Int32))] []))
  refine OGo.via (fun _ k => XS.iloadN X0.here hx rfl (hb hby d22_0) rfl (XS.ifNo X0.here hx rfl (hb hby d22_1) rfl ((if0 _ _).trans (teq (by decide : (0 : Int32) = (0 : Int32))).2) k)) ?_
  have wS : ∀ d ∈ Bundle.stringAtoms, d.before a0 Z = true := by
    intro d hd
    simp only [Bundle.stringAtoms, List.mem_cons, List.not_mem_nil, or_false] at hd
    rcases hd with rfl | rfl | rfl | rfl | rfl | rfl | rfl
    · exact (own_w hw 10 rfl)
    · exact (own_w hw 9 rfl)
    · exact (own_w hw 26 rfl)
    · exact (own_w hw 36 rfl)
    · exact (own_w hw 34 rfl)
    · exact (own_w hw 105 rfl)
    · exact (own_w hw 106 rfl)
  obtain ⟨r1, T1, h1, k1, vb1, kb1, X1, e1, E1, hSi1, hk1, hZ1, hown1, Ex1, Fc1, Fv1, V1, -, -, -, Li1, st1⟩ := ldcSVL (s := s) (vm0 := s.vm) X0 hx hZ hown (own_w hw 104 rfl) wS e0 (k0 := 0) ((State.WarmedH.refl s).since 0) (Nat.zero_le _) (Fr.nil _) (fun b cl q => by rw [hh]; exact hold b cl q) (own_ib hZH) (by simp) hhc hcw (vs := []) (z := 0) ⟨by simp, rfl⟩ (by decide) rfl (g := (mkF m 4 #[.val (.ref a1), .val (.int (1 : Int32)), .val (.int (0 : Int32))] [])) rfl (hb hby d22_4) (n := 0) (by decide) (by decide) (by decide) (by decide)
  refine OGo.via st1 ?_
  have K1 : Keep h0 h1 [] := (Keep.refl h0 []).ext E1
  show OGo _ _ _ _ (T1.setTop (mkF m 6 #[.val (.ref a1), .val (.int (1 : Int32)), .val (.int (0 : Int32))] [(.ref r1)]))
  show OGo _ _ _ _ (T1.setTop (mkF m 6 #[.val (.ref a1), .val (.int (1 : Int32)), .val (.int (0 : Int32))] [(.ref r1)]))
  refine own_retAW X1 hSi1 (Nat.le_trans hk1 (Nat.le_of_eq (congrArg Array.size (Eq.symm e1)))) hx Bd.notSynchronized Bd.returns rfl rfl (hb hby d22_6) (by decide) (by decide) ?_
  show Q_rm22_w Z _ h0 n0 _ T1.heap _
  rw [e1]
  exact ⟨r1, vb1, kb1, rfl, N0, K1, Ex1, Fv1, Fc1, V1⟩
theorem d19_0 : decode jdk_42_method_92_code 0 = .ok (.aload_n 0, 1) := by decide +kernel
theorem d19_1 : decode jdk_42_method_92_code 1 = .ok (.invokevirtual 505, 3) := by decide +kernel
theorem pd_11 : parseMethodDescriptor "()I" = some ⟨[], some .int⟩ := by decide +kernel
theorem d19_4 : decode jdk_42_method_92_code 4 = .ok (.istore_n 3, 1) := by decide +kernel
theorem d19_5 : decode jdk_42_method_92_code 5 = .ok (.iload_n 1, 1) := by decide +kernel
theorem d19_6 : decode jdk_42_method_92_code 6 = .ok (.iload_n 2, 1) := by decide +kernel
theorem d19_7 : decode jdk_42_method_92_code 7 = .ok (.iload_n 3, 1) := by decide +kernel
theorem d19_8 : decode jdk_42_method_92_code 8 = .ok (.invokestatic 521, 3) := by decide +kernel
theorem pd_12 : parseMethodDescriptor "(III)V" = some ⟨[.int, .int, .int], none⟩ := by decide +kernel
theorem d19_11 : decode jdk_42_method_92_code 11 = .ok (.iload_n 1, 1) := by decide +kernel
theorem d19_12 : decode jdk_42_method_92_code 12 = .ok (.ifCond .ne 10, 3) := by decide +kernel
theorem d19_22 : decode jdk_42_method_92_code 22 = .ok (.iload_n 2, 1) := by decide +kernel
theorem d19_23 : decode jdk_42_method_92_code 23 = .ok (.iload_n 1, 1) := by decide +kernel
theorem d19_24 : decode jdk_42_method_92_code 24 = .ok (.isub, 1) := by decide +kernel
theorem d19_25 : decode jdk_42_method_92_code 25 = .ok (.istore 4, 2) := by decide +kernel
theorem d19_27 : decode jdk_42_method_92_code 27 = .ok (.aload_n 0, 1) := by decide +kernel
theorem d19_28 : decode jdk_42_method_92_code 28 = .ok (.invokevirtual 492, 3) := by decide +kernel
theorem d19_31 : decode jdk_42_method_92_code 31 = .ok (.ifCond .eq 16, 3) := by decide +kernel
theorem d19_34 : decode jdk_42_method_92_code 34 = .ok (.aload_n 0, 1) := by decide +kernel
theorem d19_35 : decode jdk_42_method_92_code 35 = .ok (.getfield 9, 3) := by decide +kernel
theorem d19_38 : decode jdk_42_method_92_code 38 = .ok (.iload_n 1, 1) := by decide +kernel
theorem d19_39 : decode jdk_42_method_92_code 39 = .ok (.iload 4, 2) := by decide +kernel
theorem d19_41 : decode jdk_42_method_92_code 41 = .ok (.invokestatic 685, 3) := by decide +kernel
theorem pd_13 : parseMethodDescriptor "([BII)Ljava/lang/String;" = some ⟨[(.array .byte), .int, .int], some (.object "java/lang/String")⟩ := by decide +kernel
theorem d19_44 : decode jdk_42_method_92_code 44 = .ok (.goto 13, 3) := by decide +kernel
theorem d19_57 : decode jdk_42_method_92_code 57 = .ok (.areturn, 1) := by decide +kernel
theorem ef_rm19_1_1 (m : MethodId) (a1 : Addr) : entryFrame m #[(.ref a1), (.int (1 : Int32)), (.int (1 : Int32))] 5 = mkF m 0 #[.val (.ref a1), .val (.int (1 : Int32)), .val (.int (1 : Int32)), .unset, .unset] [] := by
  first | (simp [entryFrame, mkF, argsToLocals, Value.category]; done) | rfl
def Q_rm19_1_1 (Z : State) (a1 : Addr) (w : Int32) (fm : Value) (va : Addr) (k1 : ClassId) (y0 : Int32) (h0 : Heap) (n0 : Nat) (v : Option Value) (h : Heap) (L : List Loc) : Prop := ∃ rr : Addr, ∃ vb : Addr, ∃ kb : ClassId, v = some (.ref rr) ∧ Fr n0 L ∧ Keep h0 h [] ∧ Exa Z h rr "java/lang/String" ∧ Fld Z h rr "java/lang/String" "value" "[B" (.ref vb) ∧ Fld Z h rr "java/lang/String" "coder" "B" (.int (0 : Int32)) ∧ Arv Z h vb kb .byte (0 : Int32) [] (.int (0 : Int32))
abbrev R_rm19_1_1 : Room := ⟨2, 2, 4, 29⟩
set_option maxRecDepth 65536 in
set_option maxHeartbeats 40000000 in
theorem rm19_1_1 (l : Launch) (Z : State) (a0 : Array Value) (hw : ∀ d ∈ tables_1, d.before a0 Z = true) (ws : List Jvm.Cond) (a1 : Addr) (w : Int32) (fm : Value) (va : Addr) (k1 : ClassId) (y0 : Int32) (h0 : Heap) (n0 : Nat) (Z0 : n0 ≤ h0.size) (E_a1 : Exa Z h0 a1 "java/lang/String") (F_value_a1 : Fld Z h0 a1 "java/lang/String" "value" "[B" (.ref va)) (F_coder_a1 : Fld Z h0 a1 "java/lang/String" "coder" "B" (.int (0 : Int32))) (V_va : Arv Z h0 va k1 .byte (1 : Int32) [(.int y0)] (.int (0 : Int32))) (S_COMPACT_STRINGS : Sta Z h0 "java/lang/String" "COMPACT_STRINGS" "Z" (.int w)) (S_SIOOBE_FORMATTER : Sta Z h0 "jdk/internal/util/Preconditions" "SIOOBE_FORMATTER" "Ljava/util/function/BiFunction;" fm) (hw0 : ¬ w = (0 : Int32)) (hr_fm : fm.isRef = true) (hold : ∀ (b : Addr) (cl : Cell), Z.heap[b]? = some cl → h0[b]? = some cl) (hhc : Jvm.Lit.constHeld Z "java/lang/StringLatin1" 151) (hcw : Jvm.Lit.compactW.before a0 Z = true) :
    MetFree l own_y23 (head1 (Jvm.Cond.code own_y23 jdk_42_method_92_code 5 (some (.object "java/lang/String")) :: ws) R_rm19_1_1) (fun a U => a = #[(.ref a1), (.int (1 : Int32)), (.int (1 : Int32))] ∧ Z.WarmedH U.vm ∧ U.heap = h0) (fun _ _ _ _ _ => True) (fun _ U o U' => ∃ v L, o = .returned v ∧ Q_rm19_1_1 Z a1 w fm va k1 y0 h0 n0 v U'.heap L ∧ ReturnedEndW U o U' L R_rm19_1_1.cells R_rm19_1_1.slots) := by
  refine MetFree.of_bodySF (plainFor_of_name pn_String) hisR ?_
  intro p e s m args below meth c s₁ Bd hml0 hP hK
  obtain ⟨rfl, hZH, hh⟩ := hP
  have hZ := hZH.wide
  have hx := Bd.exec
  have hby := Bd.bytes
  have hml : c.maxLocals = 5 := hml0
  have hown : s.vm.findClass "java/lang/String" = some m.cls := findClass_of_methodNamed Bd.named
  have hnm := (name_of_methodNamed Bd.named Bd.method).1
  have X0 : Stand p l e R_rm19_1_1 s m #[(.ref a1), (.int (1 : Int32)), (.int (1 : Int32))] below meth c s₁ [] 0 0 := Stand.of_body Bd
  have e0 : s₁.heap = h0 := by rw [← hh, Bd.state]; rfl
  have N0 := Fr.nil n0
  show OGo p.tables e below (own_KqW s (fun v h L => Q_rm19_1_1 Z a1 w fm va k1 y0 h0 n0 v h L) R_rm19_1_1.cells R_rm19_1_1.slots) (s₁.setTop (entryFrame m #[(.ref a1), (.int (1 : Int32)), (.int (1 : Int32))] 5))
  refine OGo.cast (ef_rm19_1_1 m a1) ?_
  show OGo _ _ _ _ (s₁.setTop (mkF m 0 #[.val (.ref a1), .val (.int (1 : Int32)), .val (.int (1 : Int32)), .unset, .unset] []))
  refine OGo.via (fun _ k => XS.aloadN X0.here hx rfl (hb hby d19_0) rfl rfl k) ?_
  obtain ⟨cq1, kq1, q1a, q1b, q1c⟩ := isOf hZ e0 E_a1
  obtain ⟨_, T1, Lc1, X1, hQ1, st1⟩ := own_open X0 (X0.virtualBack hx (y := own_y6) (z := own_y6) hown (mvT hZ (own_w hw 63 rfl)) (mvT hZ (own_w hw 64 rfl)) (notFace_of_selects (args := #[]) (mvT hZ (own_w hw 66 rfl))) (mvT hZ (own_w hw 66 rfl)) (mvT hZ (own_w hw 65 rfl)) (by decide) (backOf (W := 0) (rm13 l Z a0 hw [] a1 w va k1 [(.int y0)] (1 : Int32) h0 n0 Z0 E_a1 F_value_a1 F_coder_a1 V_va S_COMPACT_STRINGS hw0) hZ (own_w hw 67 rfl) (own_w hw 10 rfl) (by decide) (by decide)) q1a q1c (g := (mkF m 1 #[.val (.ref a1), .val (.int (1 : Int32)), .val (.int (1 : Int32)), .unset, .unset] [(.ref a1)])) rfl (by rw [hml]; rfl) (Steps.refl _) (argsL := []) (rest := []) (lenOf pd_11 rfl) rfl (by show 2 * 0 + _ ≤ _; exact Nat.le_of_eq rfl) (hb hby d19_1) (fun _ _ => ⟨rfl, e0, (by decide : 0 + 0 ≤ _), (by decide : 0 + 0 ≤ _)⟩))
  obtain ⟨rfl, N1q, r1_0⟩ := hQ1
  have N1 := Fr.app N0 N1q
  refine OGo.via (fun _ k => st1.trans k) ?_
  show OGo _ _ _ _ (T1.setTop (mkF m 4 #[.val (.ref a1), .val (.int (1 : Int32)), .val (.int (1 : Int32)), .unset, .unset] [(.int (1 : Int32))]))
  refine OGo.via (fun _ k => XS.istoreN X1.here hx rfl (hb hby d19_4) rfl (l' := #[.val (.ref a1), .val (.int (1 : Int32)), .val (.int (1 : Int32)), .val (.int (1 : Int32)), .unset]) rfl (XS.iloadN X1.here hx rfl (hb hby d19_5) rfl (XS.iloadN X1.here hx rfl (hb hby d19_6) rfl (XS.iloadN X1.here hx rfl (hb hby d19_7) rfl k)))) ?_
  obtain ⟨_, T2, Lc2, X2, hQ2, st2⟩ := own_open X1 (Jvm.LawKit.callS X1 hx (y := own_y15) hown (mvT hZ (own_w hw 93 rfl)) (mvT hZ (own_w hw 94 rfl)) (mvT hZ (own_w hw 10 rfl)) (mvT hZ (own_w hw 95 rfl)) (by decide) (backOf (W := 0) (rm20 l Z a0 hw [] (1 : Int32) (1 : Int32) (1 : Int32) fm h0 n0 Z0 S_SIOOBE_FORMATTER (by decide) (by decide) (by decide) hr_fm) hZ (own_w hw 95 rfl) (own_w hw 10 rfl) (by decide) (by decide)) (g := (mkF m 8 #[.val (.ref a1), .val (.int (1 : Int32)), .val (.int (1 : Int32)), .val (.int (1 : Int32)), .unset] [(.int (1 : Int32)), (.int (1 : Int32)), (.int (1 : Int32))])) rfl (by rw [hml]; rfl) (argsL := [(.int (1 : Int32)), (.int (1 : Int32)), (.int (1 : Int32))]) (rest := []) (lenOf pd_12 rfl) rfl (by show 2 * 0 + _ ≤ _; exact Nat.le_of_eq rfl) (hb hby d19_8) (fun _ _ => ⟨rfl, r1_0, (by decide : 0 + 0 ≤ _), (by decide : 0 + 0 ≤ _)⟩))
  obtain ⟨rfl, N2q, r2_0⟩ := hQ2
  have N2 := Fr.app N1 N2q
  refine OGo.via st2 ?_
  show OGo _ _ _ _ (T2.setTop (mkF m 11 #[.val (.ref a1), .val (.int (1 : Int32)), .val (.int (1 : Int32)), .val (.int (1 : Int32)), .unset] []))
  refine OGo.via (fun _ k => XS.iloadN X2.here hx rfl (hb hby d19_11) rfl (XS.ifYes X2.here hx rfl (pc0 := 12) (pc' := 22) rfl (hb hby d19_12) rfl ((if0 _ _).trans (feq (by decide : ¬ ((1 : Int32) = (0 : Int32)))).2) (by decide) (by decide) (XS.iloadN X2.here hx rfl (hb hby d19_22) rfl (XS.iloadN X2.here hx rfl (hb hby d19_23) rfl (XS.isub X2.here hx rfl (hb hby d19_24) rfl k))))) ?_
  show OGo _ _ _ _ (T2.setTop (mkF m 25 #[.val (.ref a1), .val (.int (1 : Int32)), .val (.int (1 : Int32)), .val (.int (1 : Int32)), .unset] [(.int ((1 : Int32) - (1 : Int32)))]))
  rw [show ((1 : Int32) - (1 : Int32)) = (0 : Int32) from by decide]
  refine OGo.via (fun _ k => XS.istore X2.here hx rfl (hb hby d19_25) rfl (l' := #[.val (.ref a1), .val (.int (1 : Int32)), .val (.int (1 : Int32)), .val (.int (1 : Int32)), .val (.int (0 : Int32))]) rfl (XS.aloadN X2.here hx rfl (hb hby d19_27) rfl rfl k)) ?_
  obtain ⟨cq4, kq4, q4a, q4b, q4c⟩ := isOf hZ r2_0 E_a1
  obtain ⟨_, T4, Lc4, X4, hQ4, st4⟩ := own_open X2 (X2.virtualBack hx (y := own_y5) (z := own_y5) hown (mvT hZ (own_w hw 58 rfl)) (mvT hZ (own_w hw 59 rfl)) (notFace_of_selects (args := #[]) (mvT hZ (own_w hw 61 rfl))) (mvT hZ (own_w hw 61 rfl)) (mvT hZ (own_w hw 60 rfl)) (by decide) (backOf (W := 0) (rm12 l Z a0 hw [] a1 w va h0 n0 Z0 E_a1 F_value_a1 F_coder_a1 S_COMPACT_STRINGS hw0) hZ (own_w hw 62 rfl) (own_w hw 10 rfl) (by decide) (by decide)) q4a q4c (g := (mkF m 28 #[.val (.ref a1), .val (.int (1 : Int32)), .val (.int (1 : Int32)), .val (.int (1 : Int32)), .val (.int (0 : Int32))] [(.ref a1)])) rfl (by rw [hml]; rfl) (Steps.refl _) (argsL := []) (rest := []) (lenOf pd_9 rfl) rfl (by show 2 * 0 + _ ≤ _; exact Nat.le_of_eq rfl) (hb hby d19_28) (fun _ _ => ⟨rfl, r2_0, (by decide : 0 + 0 ≤ _), (by decide : 0 + 0 ≤ _)⟩))
  obtain ⟨rfl, N4q, r4_0⟩ := hQ4
  have N4 := Fr.app N2 N4q
  refine OGo.via (fun _ k => st4.trans k) ?_
  show OGo _ _ _ _ (T4.setTop (mkF m 31 #[.val (.ref a1), .val (.int (1 : Int32)), .val (.int (1 : Int32)), .val (.int (1 : Int32)), .val (.int (0 : Int32))] [(.int (1 : Int32))]))
  refine OGo.via (fun _ k => XS.ifNo X4.here hx rfl (hb hby d19_31) rfl ((if0 _ _).trans (feq (by decide : ¬ ((1 : Int32) = (0 : Int32)))).1) (XS.aloadN X4.here hx rfl (hb hby d19_34) rfl rfl k)) ?_
  obtain ⟨T5, X5, e5, st5⟩ := getF X4 hx hZ hown (host := "") (Or.inl (own_w hw 35 rfl)) Via.refl r4_0 F_value_a1 (g := (mkF m 35 #[.val (.ref a1), .val (.int (1 : Int32)), .val (.int (1 : Int32)), .val (.int (1 : Int32)), .val (.int (0 : Int32))] [(.ref a1)])) rfl rfl (hb hby d19_35)
  refine OGo.via st5 ?_
  show OGo _ _ _ _ (T5.setTop (mkF m 38 #[.val (.ref a1), .val (.int (1 : Int32)), .val (.int (1 : Int32)), .val (.int (1 : Int32)), .val (.int (0 : Int32))] [(.ref va)]))
  refine OGo.via (fun _ k => XS.iloadN X5.here hx rfl (hb hby d19_38) rfl (XS.iload X5.here hx rfl (hb hby d19_39) rfl k)) ?_
  obtain ⟨_, T6, Lc6, X6, hSi6, hQ6, st6⟩ := own_openS X5 (Jvm.RoadKit.callSS X5 hx (y := own_y22) hown (mvT hZ (own_w hw 101 rfl)) (mvT hZ (own_w hw 102 rfl)) (mvT hZ (own_w hw 75 rfl)) (mvT hZ (own_w hw 103 rfl)) (by decide) (own_backOfSH (W := 0) (rm22_w l Z a0 hw [] va h0 n0 Z0 hold hhc hcw) hZH (own_w hw 103 rfl) (own_w hw 75 rfl) (by decide) (by decide)) (g := (mkF m 41 #[.val (.ref a1), .val (.int (1 : Int32)), .val (.int (1 : Int32)), .val (.int (1 : Int32)), .val (.int (0 : Int32))] [(.int (0 : Int32)), (.int (1 : Int32)), (.ref va)])) rfl (by rw [hml]; rfl) (argsL := [(.ref va), (.int (1 : Int32)), (.int (0 : Int32))]) (rest := []) (lenOf pd_13 rfl) rfl (by show 2 * 0 + _ ≤ _; exact Nat.le_of_eq rfl) (hb hby d19_41) (fun _ _ => ⟨rfl, e5, (by decide : 0 + 2 ≤ _), (by decide : 0 + 4 ≤ _)⟩))
  have hZ6 : Z.Warmed39 (s.setVm T6.vm).vm := State.Warmed39.trans hZ hSi6.1
  have hown6 : (s.setVm T6.vm).vm.findClass "java/lang/String" = some m.cls := by rw [show (s.setVm T6.vm).vm = T6.vm from rfl, hSi6.1.alike.findClass]; exact hown
  obtain ⟨rr, vb, kb, rfl, N6q, r6_0, r6_1, r6_2, r6_3, r6_4⟩ := hQ6
  have N6 := Fr.app N4 N6q
  have K6 : Keep h0 T6.heap [] := (Keep.refl h0 []).trans r6_0 all0
  refine OGo.via (fun _ k => st6.trans k) ?_
  show OGo _ _ _ _ (T6.setTop (mkF m 44 #[.val (.ref a1), .val (.int (1 : Int32)), .val (.int (1 : Int32)), .val (.int (1 : Int32)), .val (.int (0 : Int32))] [(.ref rr)]))
  refine OGo.via (fun _ k => XS.goto X6.here hx rfl (pc0 := 44) (pc' := 57) rfl (hb hby d19_44) (by decide) (by decide) k) ?_
  show OGo _ _ _ _ (T6.setTop (mkF m 57 #[.val (.ref a1), .val (.int (1 : Int32)), .val (.int (1 : Int32)), .val (.int (1 : Int32)), .val (.int (0 : Int32))] [(.ref rr)]))
  refine own_retAW X6 hSi6 (Nat.le_refl T6.heap.size) hx Bd.notSynchronized Bd.returns rfl rfl (hb hby d19_57) (by decide) (by decide) ?_
  show Q_rm19_1_1 Z _ _ _ _ _ _ h0 n0 _ T6.heap _
  exact ⟨rr, vb, kb, rfl, N6, K6, r6_1, r6_2, r6_3, r6_4⟩
theorem ef_rm19_2_1 (m : MethodId) (a1 : Addr) : entryFrame m #[(.ref a1), (.int (1 : Int32)), (.int (1 : Int32))] 5 = mkF m 0 #[.val (.ref a1), .val (.int (1 : Int32)), .val (.int (1 : Int32)), .unset, .unset] [] := by
  first | (simp [entryFrame, mkF, argsToLocals, Value.category]; done) | rfl
def Q_rm19_2_1 (Z : State) (a1 : Addr) (w : Int32) (fm : Value) (va : Addr) (k1 : ClassId) (y0 : Int32) (y1 : Int32) (h0 : Heap) (n0 : Nat) (v : Option Value) (h : Heap) (L : List Loc) : Prop := ∃ rr : Addr, ∃ vb : Addr, ∃ kb : ClassId, v = some (.ref rr) ∧ Fr n0 L ∧ Keep h0 h [] ∧ Exa Z h rr "java/lang/String" ∧ Fld Z h rr "java/lang/String" "value" "[B" (.ref vb) ∧ Fld Z h rr "java/lang/String" "coder" "B" (.int (0 : Int32)) ∧ Arv Z h vb kb .byte (0 : Int32) [] (.int (0 : Int32))
abbrev R_rm19_2_1 : Room := ⟨2, 2, 4, 29⟩
set_option maxRecDepth 65536 in
set_option maxHeartbeats 40000000 in
theorem rm19_2_1 (l : Launch) (Z : State) (a0 : Array Value) (hw : ∀ d ∈ tables_1, d.before a0 Z = true) (ws : List Jvm.Cond) (a1 : Addr) (w : Int32) (fm : Value) (va : Addr) (k1 : ClassId) (y0 : Int32) (y1 : Int32) (h0 : Heap) (n0 : Nat) (Z0 : n0 ≤ h0.size) (E_a1 : Exa Z h0 a1 "java/lang/String") (F_value_a1 : Fld Z h0 a1 "java/lang/String" "value" "[B" (.ref va)) (F_coder_a1 : Fld Z h0 a1 "java/lang/String" "coder" "B" (.int (0 : Int32))) (V_va : Arv Z h0 va k1 .byte (2 : Int32) [(.int y0), (.int y1)] (.int (0 : Int32))) (S_COMPACT_STRINGS : Sta Z h0 "java/lang/String" "COMPACT_STRINGS" "Z" (.int w)) (S_SIOOBE_FORMATTER : Sta Z h0 "jdk/internal/util/Preconditions" "SIOOBE_FORMATTER" "Ljava/util/function/BiFunction;" fm) (hw0 : ¬ w = (0 : Int32)) (hr_fm : fm.isRef = true) (hold : ∀ (b : Addr) (cl : Cell), Z.heap[b]? = some cl → h0[b]? = some cl) (hhc : Jvm.Lit.constHeld Z "java/lang/StringLatin1" 151) (hcw : Jvm.Lit.compactW.before a0 Z = true) :
    MetFree l own_y23 (head1 (Jvm.Cond.code own_y23 jdk_42_method_92_code 5 (some (.object "java/lang/String")) :: ws) R_rm19_2_1) (fun a U => a = #[(.ref a1), (.int (1 : Int32)), (.int (1 : Int32))] ∧ Z.WarmedH U.vm ∧ U.heap = h0) (fun _ _ _ _ _ => True) (fun _ U o U' => ∃ v L, o = .returned v ∧ Q_rm19_2_1 Z a1 w fm va k1 y0 y1 h0 n0 v U'.heap L ∧ ReturnedEndW U o U' L R_rm19_2_1.cells R_rm19_2_1.slots) := by
  refine MetFree.of_bodySF (plainFor_of_name pn_String) hisR ?_
  intro p e s m args below meth c s₁ Bd hml0 hP hK
  obtain ⟨rfl, hZH, hh⟩ := hP
  have hZ := hZH.wide
  have hx := Bd.exec
  have hby := Bd.bytes
  have hml : c.maxLocals = 5 := hml0
  have hown : s.vm.findClass "java/lang/String" = some m.cls := findClass_of_methodNamed Bd.named
  have hnm := (name_of_methodNamed Bd.named Bd.method).1
  have X0 : Stand p l e R_rm19_2_1 s m #[(.ref a1), (.int (1 : Int32)), (.int (1 : Int32))] below meth c s₁ [] 0 0 := Stand.of_body Bd
  have e0 : s₁.heap = h0 := by rw [← hh, Bd.state]; rfl
  have N0 := Fr.nil n0
  show OGo p.tables e below (own_KqW s (fun v h L => Q_rm19_2_1 Z a1 w fm va k1 y0 y1 h0 n0 v h L) R_rm19_2_1.cells R_rm19_2_1.slots) (s₁.setTop (entryFrame m #[(.ref a1), (.int (1 : Int32)), (.int (1 : Int32))] 5))
  refine OGo.cast (ef_rm19_2_1 m a1) ?_
  show OGo _ _ _ _ (s₁.setTop (mkF m 0 #[.val (.ref a1), .val (.int (1 : Int32)), .val (.int (1 : Int32)), .unset, .unset] []))
  refine OGo.via (fun _ k => XS.aloadN X0.here hx rfl (hb hby d19_0) rfl rfl k) ?_
  obtain ⟨cq1, kq1, q1a, q1b, q1c⟩ := isOf hZ e0 E_a1
  obtain ⟨_, T1, Lc1, X1, hQ1, st1⟩ := own_open X0 (X0.virtualBack hx (y := own_y6) (z := own_y6) hown (mvT hZ (own_w hw 63 rfl)) (mvT hZ (own_w hw 64 rfl)) (notFace_of_selects (args := #[]) (mvT hZ (own_w hw 66 rfl))) (mvT hZ (own_w hw 66 rfl)) (mvT hZ (own_w hw 65 rfl)) (by decide) (backOf (W := 0) (rm13 l Z a0 hw [] a1 w va k1 [(.int y0), (.int y1)] (2 : Int32) h0 n0 Z0 E_a1 F_value_a1 F_coder_a1 V_va S_COMPACT_STRINGS hw0) hZ (own_w hw 67 rfl) (own_w hw 10 rfl) (by decide) (by decide)) q1a q1c (g := (mkF m 1 #[.val (.ref a1), .val (.int (1 : Int32)), .val (.int (1 : Int32)), .unset, .unset] [(.ref a1)])) rfl (by rw [hml]; rfl) (Steps.refl _) (argsL := []) (rest := []) (lenOf pd_11 rfl) rfl (by show 2 * 0 + _ ≤ _; exact Nat.le_of_eq rfl) (hb hby d19_1) (fun _ _ => ⟨rfl, e0, (by decide : 0 + 0 ≤ _), (by decide : 0 + 0 ≤ _)⟩))
  obtain ⟨rfl, N1q, r1_0⟩ := hQ1
  have N1 := Fr.app N0 N1q
  refine OGo.via (fun _ k => st1.trans k) ?_
  show OGo _ _ _ _ (T1.setTop (mkF m 4 #[.val (.ref a1), .val (.int (1 : Int32)), .val (.int (1 : Int32)), .unset, .unset] [(.int (2 : Int32))]))
  refine OGo.via (fun _ k => XS.istoreN X1.here hx rfl (hb hby d19_4) rfl (l' := #[.val (.ref a1), .val (.int (1 : Int32)), .val (.int (1 : Int32)), .val (.int (2 : Int32)), .unset]) rfl (XS.iloadN X1.here hx rfl (hb hby d19_5) rfl (XS.iloadN X1.here hx rfl (hb hby d19_6) rfl (XS.iloadN X1.here hx rfl (hb hby d19_7) rfl k)))) ?_
  obtain ⟨_, T2, Lc2, X2, hQ2, st2⟩ := own_open X1 (Jvm.LawKit.callS X1 hx (y := own_y15) hown (mvT hZ (own_w hw 93 rfl)) (mvT hZ (own_w hw 94 rfl)) (mvT hZ (own_w hw 10 rfl)) (mvT hZ (own_w hw 95 rfl)) (by decide) (backOf (W := 0) (rm20 l Z a0 hw [] (1 : Int32) (1 : Int32) (2 : Int32) fm h0 n0 Z0 S_SIOOBE_FORMATTER (by decide) (by decide) (by decide) hr_fm) hZ (own_w hw 95 rfl) (own_w hw 10 rfl) (by decide) (by decide)) (g := (mkF m 8 #[.val (.ref a1), .val (.int (1 : Int32)), .val (.int (1 : Int32)), .val (.int (2 : Int32)), .unset] [(.int (2 : Int32)), (.int (1 : Int32)), (.int (1 : Int32))])) rfl (by rw [hml]; rfl) (argsL := [(.int (1 : Int32)), (.int (1 : Int32)), (.int (2 : Int32))]) (rest := []) (lenOf pd_12 rfl) rfl (by show 2 * 0 + _ ≤ _; exact Nat.le_of_eq rfl) (hb hby d19_8) (fun _ _ => ⟨rfl, r1_0, (by decide : 0 + 0 ≤ _), (by decide : 0 + 0 ≤ _)⟩))
  obtain ⟨rfl, N2q, r2_0⟩ := hQ2
  have N2 := Fr.app N1 N2q
  refine OGo.via st2 ?_
  show OGo _ _ _ _ (T2.setTop (mkF m 11 #[.val (.ref a1), .val (.int (1 : Int32)), .val (.int (1 : Int32)), .val (.int (2 : Int32)), .unset] []))
  refine OGo.via (fun _ k => XS.iloadN X2.here hx rfl (hb hby d19_11) rfl (XS.ifYes X2.here hx rfl (pc0 := 12) (pc' := 22) rfl (hb hby d19_12) rfl ((if0 _ _).trans (feq (by decide : ¬ ((1 : Int32) = (0 : Int32)))).2) (by decide) (by decide) (XS.iloadN X2.here hx rfl (hb hby d19_22) rfl (XS.iloadN X2.here hx rfl (hb hby d19_23) rfl (XS.isub X2.here hx rfl (hb hby d19_24) rfl k))))) ?_
  show OGo _ _ _ _ (T2.setTop (mkF m 25 #[.val (.ref a1), .val (.int (1 : Int32)), .val (.int (1 : Int32)), .val (.int (2 : Int32)), .unset] [(.int ((1 : Int32) - (1 : Int32)))]))
  rw [show ((1 : Int32) - (1 : Int32)) = (0 : Int32) from by decide]
  refine OGo.via (fun _ k => XS.istore X2.here hx rfl (hb hby d19_25) rfl (l' := #[.val (.ref a1), .val (.int (1 : Int32)), .val (.int (1 : Int32)), .val (.int (2 : Int32)), .val (.int (0 : Int32))]) rfl (XS.aloadN X2.here hx rfl (hb hby d19_27) rfl rfl k)) ?_
  obtain ⟨cq4, kq4, q4a, q4b, q4c⟩ := isOf hZ r2_0 E_a1
  obtain ⟨_, T4, Lc4, X4, hQ4, st4⟩ := own_open X2 (X2.virtualBack hx (y := own_y5) (z := own_y5) hown (mvT hZ (own_w hw 58 rfl)) (mvT hZ (own_w hw 59 rfl)) (notFace_of_selects (args := #[]) (mvT hZ (own_w hw 61 rfl))) (mvT hZ (own_w hw 61 rfl)) (mvT hZ (own_w hw 60 rfl)) (by decide) (backOf (W := 0) (rm12 l Z a0 hw [] a1 w va h0 n0 Z0 E_a1 F_value_a1 F_coder_a1 S_COMPACT_STRINGS hw0) hZ (own_w hw 62 rfl) (own_w hw 10 rfl) (by decide) (by decide)) q4a q4c (g := (mkF m 28 #[.val (.ref a1), .val (.int (1 : Int32)), .val (.int (1 : Int32)), .val (.int (2 : Int32)), .val (.int (0 : Int32))] [(.ref a1)])) rfl (by rw [hml]; rfl) (Steps.refl _) (argsL := []) (rest := []) (lenOf pd_9 rfl) rfl (by show 2 * 0 + _ ≤ _; exact Nat.le_of_eq rfl) (hb hby d19_28) (fun _ _ => ⟨rfl, r2_0, (by decide : 0 + 0 ≤ _), (by decide : 0 + 0 ≤ _)⟩))
  obtain ⟨rfl, N4q, r4_0⟩ := hQ4
  have N4 := Fr.app N2 N4q
  refine OGo.via (fun _ k => st4.trans k) ?_
  show OGo _ _ _ _ (T4.setTop (mkF m 31 #[.val (.ref a1), .val (.int (1 : Int32)), .val (.int (1 : Int32)), .val (.int (2 : Int32)), .val (.int (0 : Int32))] [(.int (1 : Int32))]))
  refine OGo.via (fun _ k => XS.ifNo X4.here hx rfl (hb hby d19_31) rfl ((if0 _ _).trans (feq (by decide : ¬ ((1 : Int32) = (0 : Int32)))).1) (XS.aloadN X4.here hx rfl (hb hby d19_34) rfl rfl k)) ?_
  obtain ⟨T5, X5, e5, st5⟩ := getF X4 hx hZ hown (host := "") (Or.inl (own_w hw 35 rfl)) Via.refl r4_0 F_value_a1 (g := (mkF m 35 #[.val (.ref a1), .val (.int (1 : Int32)), .val (.int (1 : Int32)), .val (.int (2 : Int32)), .val (.int (0 : Int32))] [(.ref a1)])) rfl rfl (hb hby d19_35)
  refine OGo.via st5 ?_
  show OGo _ _ _ _ (T5.setTop (mkF m 38 #[.val (.ref a1), .val (.int (1 : Int32)), .val (.int (1 : Int32)), .val (.int (2 : Int32)), .val (.int (0 : Int32))] [(.ref va)]))
  refine OGo.via (fun _ k => XS.iloadN X5.here hx rfl (hb hby d19_38) rfl (XS.iload X5.here hx rfl (hb hby d19_39) rfl k)) ?_
  obtain ⟨_, T6, Lc6, X6, hSi6, hQ6, st6⟩ := own_openS X5 (Jvm.RoadKit.callSS X5 hx (y := own_y22) hown (mvT hZ (own_w hw 101 rfl)) (mvT hZ (own_w hw 102 rfl)) (mvT hZ (own_w hw 75 rfl)) (mvT hZ (own_w hw 103 rfl)) (by decide) (own_backOfSH (W := 0) (rm22_w l Z a0 hw [] va h0 n0 Z0 hold hhc hcw) hZH (own_w hw 103 rfl) (own_w hw 75 rfl) (by decide) (by decide)) (g := (mkF m 41 #[.val (.ref a1), .val (.int (1 : Int32)), .val (.int (1 : Int32)), .val (.int (2 : Int32)), .val (.int (0 : Int32))] [(.int (0 : Int32)), (.int (1 : Int32)), (.ref va)])) rfl (by rw [hml]; rfl) (argsL := [(.ref va), (.int (1 : Int32)), (.int (0 : Int32))]) (rest := []) (lenOf pd_13 rfl) rfl (by show 2 * 0 + _ ≤ _; exact Nat.le_of_eq rfl) (hb hby d19_41) (fun _ _ => ⟨rfl, e5, (by decide : 0 + 2 ≤ _), (by decide : 0 + 4 ≤ _)⟩))
  have hZ6 : Z.Warmed39 (s.setVm T6.vm).vm := State.Warmed39.trans hZ hSi6.1
  have hown6 : (s.setVm T6.vm).vm.findClass "java/lang/String" = some m.cls := by rw [show (s.setVm T6.vm).vm = T6.vm from rfl, hSi6.1.alike.findClass]; exact hown
  obtain ⟨rr, vb, kb, rfl, N6q, r6_0, r6_1, r6_2, r6_3, r6_4⟩ := hQ6
  have N6 := Fr.app N4 N6q
  have K6 : Keep h0 T6.heap [] := (Keep.refl h0 []).trans r6_0 all0
  refine OGo.via (fun _ k => st6.trans k) ?_
  show OGo _ _ _ _ (T6.setTop (mkF m 44 #[.val (.ref a1), .val (.int (1 : Int32)), .val (.int (1 : Int32)), .val (.int (2 : Int32)), .val (.int (0 : Int32))] [(.ref rr)]))
  refine OGo.via (fun _ k => XS.goto X6.here hx rfl (pc0 := 44) (pc' := 57) rfl (hb hby d19_44) (by decide) (by decide) k) ?_
  show OGo _ _ _ _ (T6.setTop (mkF m 57 #[.val (.ref a1), .val (.int (1 : Int32)), .val (.int (1 : Int32)), .val (.int (2 : Int32)), .val (.int (0 : Int32))] [(.ref rr)]))
  refine own_retAW X6 hSi6 (Nat.le_refl T6.heap.size) hx Bd.notSynchronized Bd.returns rfl rfl (hb hby d19_57) (by decide) (by decide) ?_
  show Q_rm19_2_1 Z _ _ _ _ _ _ _ h0 n0 _ T6.heap _
  exact ⟨rr, vb, kb, rfl, N6, K6, r6_1, r6_2, r6_3, r6_4⟩
theorem d25_0 : decode jdk_65_method_133_code 0 = .ok (.iload_n 1, 1) := by decide +kernel
theorem d25_1 : decode jdk_65_method_133_code 1 = .ok (.iload_n 2, 1) := by decide +kernel
theorem d25_2 : decode jdk_65_method_133_code 2 = .ok (.invokestatic 343, 3) := by decide +kernel
theorem d25_5 : decode jdk_65_method_133_code 5 = .ok (.iload_n 2, 1) := by decide +kernel
theorem d25_6 : decode jdk_65_method_133_code 6 = .ok (.iload_n 1, 1) := by decide +kernel
theorem d25_7 : decode jdk_65_method_133_code 7 = .ok (.isub, 1) := by decide +kernel
theorem d25_8 : decode jdk_65_method_133_code 8 = .ok (.istore_n 3, 1) := by decide +kernel
theorem d25_9 : decode jdk_65_method_133_code 9 = .ok (.iload_n 3, 1) := by decide +kernel
theorem d25_10 : decode jdk_65_method_133_code 10 = .ok (.newarray .byte, 2) := by decide +kernel
theorem d25_12 : decode jdk_65_method_133_code 12 = .ok (.astore 4, 2) := by decide +kernel
theorem d25_14 : decode jdk_65_method_133_code 14 = .ok (.aload_n 0, 1) := by decide +kernel
theorem d25_15 : decode jdk_65_method_133_code 15 = .ok (.iload_n 1, 1) := by decide +kernel
theorem d25_16 : decode jdk_65_method_133_code 16 = .ok (.aload 4, 2) := by decide +kernel
theorem d25_18 : decode jdk_65_method_133_code 18 = .ok (.iconst 0, 1) := by decide +kernel
theorem d25_19 : decode jdk_65_method_133_code 19 = .ok (.aload_n 0, 1) := by decide +kernel
theorem d25_20 : decode jdk_65_method_133_code 20 = .ok (.arraylength, 1) := by decide +kernel
theorem d25_21 : decode jdk_65_method_133_code 21 = .ok (.iload_n 1, 1) := by decide +kernel
theorem d25_22 : decode jdk_65_method_133_code 22 = .ok (.isub, 1) := by decide +kernel
theorem d25_23 : decode jdk_65_method_133_code 23 = .ok (.iload_n 3, 1) := by decide +kernel
theorem d25_24 : decode jdk_65_method_133_code 24 = .ok (.invokestatic 304, 3) := by decide +kernel
theorem pd_14 : parseMethodDescriptor "(II)I" = some ⟨[.int, .int], some .int⟩ := by decide +kernel
theorem d25_27 : decode jdk_65_method_133_code 27 = .ok (.invokestatic 150, 3) := by decide +kernel
theorem d25_30 : decode jdk_65_method_133_code 30 = .ok (.aload 4, 2) := by decide +kernel
theorem d25_32 : decode jdk_65_method_133_code 32 = .ok (.areturn, 1) := by decide +kernel
theorem ef_rm25_2_2 (m : MethodId) (a1 : Addr) : entryFrame m #[(.ref a1), (.int (1 : Int32)), (.int (2 : Int32))] 5 = mkF m 0 #[.val (.ref a1), .val (.int (1 : Int32)), .val (.int (2 : Int32)), .unset, .unset] [] := by
  first | (simp [entryFrame, mkF, argsToLocals, Value.category]; done) | rfl
def Q_rm25_2_2 (Z : State) (a1 : Addr) (k1 : ClassId) (y0 : Int32) (y1 : Int32) (h0 : Heap) (n0 : Nat) (v : Option Value) (h : Heap) (L : List Loc) : Prop := ∃ vb : Addr, ∃ kb : ClassId, v = some (.ref vb) ∧ Fr n0 L ∧ Keep h0 h [] ∧ h0.size ≤ vb ∧ Arv Z h vb kb .byte (1 : Int32) [(.int y1)] (.int (0 : Int32))
abbrev R_rm25_2_2 : Room := ⟨1, 1, 1, 18⟩
set_option maxRecDepth 65536 in
set_option maxHeartbeats 40000000 in
theorem rm25_2_2 (l : Launch) (Z : State) (a0 : Array Value) (hw : ∀ d ∈ tables_1, d.before a0 Z = true) (ws : List Jvm.Cond) (a1 : Addr) (k1 : ClassId) (y0 : Int32) (y1 : Int32) (h0 : Heap) (n0 : Nat) (Z0 : n0 ≤ h0.size) (V_a1 : Arv Z h0 a1 k1 .byte (2 : Int32) [(.int y0), (.int y1)] (.int (0 : Int32))) :
    MetFree l own_y24 (head1 (Jvm.Cond.code own_y24 jdk_65_method_133_code 5 (some (.array .byte)) :: ws) R_rm25_2_2) (fun a U => a = #[(.ref a1), (.int (1 : Int32)), (.int (2 : Int32))] ∧ Z.Warmed39 U.vm ∧ U.heap = h0) (fun _ _ _ _ _ => True) (fun _ U o U' => ∃ v L, o = .returned v ∧ Q_rm25_2_2 Z a1 k1 y0 y1 h0 n0 v U'.heap L ∧ FrameEnd U o U' L R_rm25_2_2.cells R_rm25_2_2.slots) := by
  refine MetFree.of_bodySF (plainFor_of_name pn_Arrays) hisR ?_
  intro p e s m args below meth c s₁ Bd hml0 hP hK
  obtain ⟨rfl, hZ, hh⟩ := hP
  have hx := Bd.exec
  have hby := Bd.bytes
  have hml : c.maxLocals = 5 := hml0
  have hown : s.vm.findClass "java/util/Arrays" = some m.cls := findClass_of_methodNamed Bd.named
  have hnm := (name_of_methodNamed Bd.named Bd.method).1
  have X0 : Stand p l e R_rm25_2_2 s m #[(.ref a1), (.int (1 : Int32)), (.int (2 : Int32))] below meth c s₁ [] 0 0 := Stand.of_body Bd
  have e0 : s₁.heap = h0 := by rw [← hh, Bd.state]; rfl
  have N0 := Fr.nil n0
  show OGo p.tables e below (own_Kq s (fun v h L => Q_rm25_2_2 Z a1 k1 y0 y1 h0 n0 v h L) R_rm25_2_2.cells R_rm25_2_2.slots) (s₁.setTop (entryFrame m #[(.ref a1), (.int (1 : Int32)), (.int (2 : Int32))] 5))
  refine OGo.cast (ef_rm25_2_2 m a1) ?_
  show OGo _ _ _ _ (s₁.setTop (mkF m 0 #[.val (.ref a1), .val (.int (1 : Int32)), .val (.int (2 : Int32)), .unset, .unset] []))
  refine OGo.via (fun _ k => XS.iloadN X0.here hx rfl (hb hby d25_0) rfl (XS.iloadN X0.here hx rfl (hb hby d25_1) rfl k)) ?_
  obtain ⟨_, T1, Lc1, X1, hQ1, st1⟩ := own_open X0 (Jvm.LawKit.callS X0 hx (y := own_y20) hown (mvT hZ (own_w hw 119 rfl)) (mvT hZ (own_w hw 120 rfl)) (mvT hZ (own_w hw 114 rfl)) (mvT hZ (own_w hw 121 rfl)) (by decide) (backOf (W := 0) (rm26 l Z a0 hw [] (1 : Int32) (2 : Int32) h0 n0 Z0 (by decide)) hZ (own_w hw 121 rfl) (own_w hw 114 rfl) (by decide) (by decide)) (g := (mkF m 2 #[.val (.ref a1), .val (.int (1 : Int32)), .val (.int (2 : Int32)), .unset, .unset] [(.int (2 : Int32)), (.int (1 : Int32))])) rfl (by rw [hml]; rfl) (argsL := [(.int (1 : Int32)), (.int (2 : Int32))]) (rest := []) (lenOf pd_8 rfl) rfl (by show 2 * 0 + _ ≤ _; exact Nat.le_of_eq rfl) (hb hby d25_2) (fun _ _ => ⟨rfl, e0, (by decide : 0 + 0 ≤ _), (by decide : 0 + 0 ≤ _)⟩))
  obtain ⟨rfl, N1q, r1_0⟩ := hQ1
  have N1 := Fr.app N0 N1q
  refine OGo.via st1 ?_
  show OGo _ _ _ _ (T1.setTop (mkF m 5 #[.val (.ref a1), .val (.int (1 : Int32)), .val (.int (2 : Int32)), .unset, .unset] []))
  refine OGo.via (fun _ k => XS.iloadN X1.here hx rfl (hb hby d25_5) rfl (XS.iloadN X1.here hx rfl (hb hby d25_6) rfl (XS.isub X1.here hx rfl (hb hby d25_7) rfl k))) ?_
  show OGo _ _ _ _ (T1.setTop (mkF m 8 #[.val (.ref a1), .val (.int (1 : Int32)), .val (.int (2 : Int32)), .unset, .unset] [(.int ((2 : Int32) - (1 : Int32)))]))
  rw [show ((2 : Int32) - (1 : Int32)) = (1 : Int32) from by decide]
  refine OGo.via (fun _ k => XS.istoreN X1.here hx rfl (hb hby d25_8) rfl (l' := #[.val (.ref a1), .val (.int (1 : Int32)), .val (.int (2 : Int32)), .val (.int (1 : Int32)), .unset]) rfl (XS.iloadN X1.here hx rfl (hb hby d25_9) rfl k)) ?_
  obtain ⟨T3, h3, ka3, X3, e3, E3, A3, Y3, st3⟩ := newPE (ad := "[B") X1 hx hZ (own_w hw 26 rfl) r1_0 (g := (mkF m 10 #[.val (.ref a1), .val (.int (1 : Int32)), .val (.int (2 : Int32)), .val (.int (1 : Int32)), .unset] [(.int (1 : Int32))])) rfl (hb hby d25_10) rfl (by decide) (cap := 1) (by decide) (by decide) (by decide) (by decide) (by decide)
  obtain ⟨b3, g3⟩ : ∃ z, z = h0.size := ⟨_, rfl⟩
  rw [← g3] at A3 Y3 st3
  refine OGo.via st3 ?_
  have K3 : Keep h0 h3 [] := (Keep.refl h0 []).ext E3
  have lt_a1_b3 : a1 < b3 := Nat.lt_of_lt_of_le V_a1.lt (Nat.le_of_eq g3.symm)
  have sz_b3 : h0.size ≤ b3 := Nat.le_trans (Keep.refl h0 []).1 (Nat.le_of_eq g3.symm)
  have g_b3 : n0 ≤ b3 := Nat.le_trans Z0 sz_b3
  have V3 : Arv Z h3 b3 ka3 .byte (1 : Int32) [(.int (0 : Int32))] (.int (0 : Int32)) := (Arv.new A3 (by decide)).pad (pad_rep [] (.int (0 : Int32)) 1)
  show OGo _ _ _ _ (T3.setTop (mkF m 12 #[.val (.ref a1), .val (.int (1 : Int32)), .val (.int (2 : Int32)), .val (.int (1 : Int32)), .unset] [(.ref b3)]))
  refine OGo.via (fun _ k => XS.astore X3.here hx rfl (hb hby d25_12) rfl rfl (l' := #[.val (.ref a1), .val (.int (1 : Int32)), .val (.int (2 : Int32)), .val (.int (1 : Int32)), .val (.ref b3)]) rfl (XS.aloadN X3.here hx rfl (hb hby d25_14) rfl rfl (XS.iloadN X3.here hx rfl (hb hby d25_15) rfl (XS.aload X3.here hx rfl (hb hby d25_16) rfl rfl (XS.iconst X3.here hx rfl (hb hby d25_18) (XS.aloadN X3.here hx rfl (hb hby d25_19) rfl rfl k)))))) ?_
  have f5 := V_a1.ext E3
  obtain ⟨cl4, Ar4, q4, Sz4, Ng4, Hs4, Gf4⟩ := id f5
  refine OGo.via (X3.arraylength hx (by rw [e3]; exact Ar4.1) (State.isArrayOf_alike hZ.alike Ar4.2.1) (g := (mkF m 20 #[.val (.ref a1), .val (.int (1 : Int32)), .val (.int (2 : Int32)), .val (.int (1 : Int32)), .val (.ref b3)] [(.ref a1), (.int (0 : Int32)), (.ref b3), (.int (1 : Int32)), (.ref a1)])) rfl rfl (hb hby d25_20)) ?_
  rw [len_of Sz4 Ng4]
  show OGo _ _ _ _ (T3.setTop (mkF m 21 #[.val (.ref a1), .val (.int (1 : Int32)), .val (.int (2 : Int32)), .val (.int (1 : Int32)), .val (.ref b3)] [(.int (2 : Int32)), (.int (0 : Int32)), (.ref b3), (.int (1 : Int32)), (.ref a1)]))
  refine OGo.via (fun _ k => XS.iloadN X3.here hx rfl (hb hby d25_21) rfl (XS.isub X3.here hx rfl (hb hby d25_22) rfl k)) ?_
  show OGo _ _ _ _ (T3.setTop (mkF m 23 #[.val (.ref a1), .val (.int (1 : Int32)), .val (.int (2 : Int32)), .val (.int (1 : Int32)), .val (.ref b3)] [(.int ((2 : Int32) - (1 : Int32))), (.int (0 : Int32)), (.ref b3), (.int (1 : Int32)), (.ref a1)]))
  rw [show ((2 : Int32) - (1 : Int32)) = (1 : Int32) from by decide]
  refine OGo.via (fun _ k => XS.iloadN X3.here hx rfl (hb hby d25_23) rfl k) ?_
  obtain ⟨_, T7, Lc7, X7, hQ7, st7⟩ := own_open X3 (Jvm.LawKit.callS X3 hx (y := own_y2) hown (mvT hZ (own_w hw 122 rfl)) (mvT hZ (own_w hw 85 rfl)) (mvT hZ (own_w hw 82 rfl)) (mvT hZ (own_w hw 86 rfl)) (by decide) (backOf (W := 4) (rm18 l Z a0 hw [] (1 : Int32) (1 : Int32) h3 n0 (Nat.le_trans Z0 K3.1)) hZ (own_w hw 86 rfl) (own_w hw 82 rfl) (by decide) (by decide)) (g := (mkF m 24 #[.val (.ref a1), .val (.int (1 : Int32)), .val (.int (2 : Int32)), .val (.int (1 : Int32)), .val (.ref b3)] [(.int (1 : Int32)), (.int (1 : Int32)), (.int (0 : Int32)), (.ref b3), (.int (1 : Int32)), (.ref a1)])) rfl (by rw [hml]; rfl) (argsL := [(.int (1 : Int32)), (.int (1 : Int32))]) (rest := [(.int (0 : Int32)), (.ref b3), (.int (1 : Int32)), (.ref a1)]) (lenOf pd_14 rfl) rfl (by show 2 * 0 + _ ≤ _; exact Nat.le_of_eq rfl) (hb hby d25_24) (fun _ _ => ⟨rfl, e3, (by decide : 1 + 0 ≤ _), (by decide : 1 + 0 ≤ _)⟩))
  obtain ⟨rfl, N7q, r7_0⟩ := hQ7
  have N7 := Fr.app N1 N7q
  refine OGo.via st7 ?_
  show OGo _ _ _ _ (T7.setTop (mkF m 27 #[.val (.ref a1), .val (.int (1 : Int32)), .val (.int (2 : Int32)), .val (.int (1 : Int32)), .val (.ref b3)] [(.int (if (1 : Int32) < (1 : Int32) then (1 : Int32) else (1 : Int32))), (.int (0 : Int32)), (.ref b3), (.int (1 : Int32)), (.ref a1)]))
  rw [show (if (1 : Int32) < (1 : Int32) then (1 : Int32) else (1 : Int32)) = (1 : Int32) from by decide]
  show OGo _ _ _ _ (T7.setTop (mkF m 27 #[.val (.ref a1), .val (.int (1 : Int32)), .val (.int (2 : Int32)), .val (.int (1 : Int32)), .val (.ref b3)] [(.int (1 : Int32)), (.int (0 : Int32)), (.ref b3), (.int (1 : Int32)), (.ref a1)]))
  obtain ⟨T8, h8, Lc8, X8, e8, N8, Kp8, V8, st8⟩ := cpA X7 hx hZ hown (own_w hw 123 rfl) (own_w hw 126 rfl) (own_w hw 124 rfl) (own_w hw 125 rfl) r7_0 (us := [(.int y1)]) f5 V3 (Or.inl ⟨rfl, rfl⟩) (by decide) (by decide) (by decide) (by decide) (by decide) rfl (Nat.le_of_ble_eq_true rfl) N7 g_b3 (g := (mkF m 27 #[.val (.ref a1), .val (.int (1 : Int32)), .val (.int (2 : Int32)), .val (.int (1 : Int32)), .val (.ref b3)] [(.int (1 : Int32)), (.int (0 : Int32)), (.ref b3), (.int (1 : Int32)), (.ref a1)])) rfl (by rw [hml]; rfl) rfl (hb hby d25_27) (by decide) (W := 0) (by show 2 * 0 + _ ≤ _; exact Nat.le_of_eq rfl) (by decide)
  refine OGo.via st8 ?_
  have Vc8 : Arv Z h8 b3 ka3 .byte (1 : Int32) [(.int y1)] (.int (0 : Int32)) := V8
  have K8 : Keep h0 h8 [] := K3.trans Kp8 (allS (Or.inr sz_b3) all0)
  show OGo _ _ _ _ (T8.setTop (mkF m 30 #[.val (.ref a1), .val (.int (1 : Int32)), .val (.int (2 : Int32)), .val (.int (1 : Int32)), .val (.ref b3)] []))
  refine OGo.via (fun _ k => XS.aload X8.here hx rfl (hb hby d25_30) rfl rfl k) ?_
  show OGo _ _ _ _ (T8.setTop (mkF m 32 #[.val (.ref a1), .val (.int (1 : Int32)), .val (.int (2 : Int32)), .val (.int (1 : Int32)), .val (.ref b3)] [(.ref b3)]))
  refine own_retA X8 hx Bd.notSynchronized Bd.returns rfl rfl (hb hby d25_32) (by decide) (by decide) ?_
  show Q_rm25_2_2 Z _ _ _ _ h0 n0 _ T8.heap _
  rw [e8]
  exact ⟨b3, ka3, rfl, N8, K8, sz_b3, Vc8⟩
theorem d24_0 : decode jdk_65_method_132_code 0 = .ok (.iload_n 1, 1) := by decide +kernel
theorem d24_1 : decode jdk_65_method_132_code 1 = .ok (.ifCond .ne 9, 3) := by decide +kernel
theorem d24_10 : decode jdk_65_method_132_code 10 = .ok (.aload_n 0, 1) := by decide +kernel
theorem d24_11 : decode jdk_65_method_132_code 11 = .ok (.iload_n 1, 1) := by decide +kernel
theorem d24_12 : decode jdk_65_method_132_code 12 = .ok (.iload_n 2, 1) := by decide +kernel
theorem d24_13 : decode jdk_65_method_132_code 13 = .ok (.invokestatic 339, 3) := by decide +kernel
theorem pd_15 : parseMethodDescriptor "([BII)[B" = some ⟨[(.array .byte), .int, .int], some (.array .byte)⟩ := by decide +kernel
theorem d24_16 : decode jdk_65_method_132_code 16 = .ok (.areturn, 1) := by decide +kernel
theorem ef_rm24_2_2 (m : MethodId) (a1 : Addr) : entryFrame m #[(.ref a1), (.int (1 : Int32)), (.int (2 : Int32))] 3 = mkF m 0 #[.val (.ref a1), .val (.int (1 : Int32)), .val (.int (2 : Int32))] [] := by
  first | (simp [entryFrame, mkF, argsToLocals, Value.category]; done) | rfl
def Q_rm24_2_2 (Z : State) (a1 : Addr) (k1 : ClassId) (y0 : Int32) (y1 : Int32) (h0 : Heap) (n0 : Nat) (v : Option Value) (h : Heap) (L : List Loc) : Prop := ∃ vb : Addr, ∃ kb : ClassId, v = some (.ref vb) ∧ Fr n0 L ∧ Keep h0 h [] ∧ h0.size ≤ vb ∧ Arv Z h vb kb .byte (1 : Int32) [(.int y1)] (.int (0 : Int32))
abbrev R_rm24_2_2 : Room := ⟨2, 1, 1, 34⟩
set_option maxRecDepth 65536 in
set_option maxHeartbeats 40000000 in
theorem rm24_2_2 (l : Launch) (Z : State) (a0 : Array Value) (hw : ∀ d ∈ tables_1, d.before a0 Z = true) (ws : List Jvm.Cond) (a1 : Addr) (k1 : ClassId) (y0 : Int32) (y1 : Int32) (h0 : Heap) (n0 : Nat) (Z0 : n0 ≤ h0.size) (V_a1 : Arv Z h0 a1 k1 .byte (2 : Int32) [(.int y0), (.int y1)] (.int (0 : Int32))) :
    MetFree l own_y25 (head1 (Jvm.Cond.code own_y25 jdk_65_method_132_code 3 (some (.array .byte)) :: ws) R_rm24_2_2) (fun a U => a = #[(.ref a1), (.int (1 : Int32)), (.int (2 : Int32))] ∧ Z.Warmed39 U.vm ∧ U.heap = h0) (fun _ _ _ _ _ => True) (fun _ U o U' => ∃ v L, o = .returned v ∧ Q_rm24_2_2 Z a1 k1 y0 y1 h0 n0 v U'.heap L ∧ FrameEnd U o U' L R_rm24_2_2.cells R_rm24_2_2.slots) := by
  refine MetFree.of_bodySF (plainFor_of_name pn_Arrays) hisR ?_
  intro p e s m args below meth c s₁ Bd hml0 hP hK
  obtain ⟨rfl, hZ, hh⟩ := hP
  have hx := Bd.exec
  have hby := Bd.bytes
  have hml : c.maxLocals = 3 := hml0
  have hown : s.vm.findClass "java/util/Arrays" = some m.cls := findClass_of_methodNamed Bd.named
  have hnm := (name_of_methodNamed Bd.named Bd.method).1
  have X0 : Stand p l e R_rm24_2_2 s m #[(.ref a1), (.int (1 : Int32)), (.int (2 : Int32))] below meth c s₁ [] 0 0 := Stand.of_body Bd
  have e0 : s₁.heap = h0 := by rw [← hh, Bd.state]; rfl
  have N0 := Fr.nil n0
  show OGo p.tables e below (own_Kq s (fun v h L => Q_rm24_2_2 Z a1 k1 y0 y1 h0 n0 v h L) R_rm24_2_2.cells R_rm24_2_2.slots) (s₁.setTop (entryFrame m #[(.ref a1), (.int (1 : Int32)), (.int (2 : Int32))] 3))
  refine OGo.cast (ef_rm24_2_2 m a1) ?_
  show OGo _ _ _ _ (s₁.setTop (mkF m 0 #[.val (.ref a1), .val (.int (1 : Int32)), .val (.int (2 : Int32))] []))
  refine OGo.via (fun _ k => XS.iloadN X0.here hx rfl (hb hby d24_0) rfl (XS.ifYes X0.here hx rfl (pc0 := 1) (pc' := 10) rfl (hb hby d24_1) rfl ((if0 _ _).trans (feq (by decide : ¬ ((1 : Int32) = (0 : Int32)))).2) (by decide) (by decide) (XS.aloadN X0.here hx rfl (hb hby d24_10) rfl rfl (XS.iloadN X0.here hx rfl (hb hby d24_11) rfl (XS.iloadN X0.here hx rfl (hb hby d24_12) rfl k))))) ?_
  obtain ⟨_, T1, Lc1, X1, hQ1, st1⟩ := own_open X0 (Jvm.LawKit.callS X0 hx (y := own_y24) hown (mvT hZ (own_w hw 116 rfl)) (mvT hZ (own_w hw 117 rfl)) (mvT hZ (own_w hw 114 rfl)) (mvT hZ (own_w hw 118 rfl)) (by decide) (backOf (W := 0) (rm25_2_2 l Z a0 hw [] a1 k1 y0 y1 h0 n0 Z0 V_a1) hZ (own_w hw 118 rfl) (own_w hw 114 rfl) (by decide) (by decide)) (g := (mkF m 13 #[.val (.ref a1), .val (.int (1 : Int32)), .val (.int (2 : Int32))] [(.int (2 : Int32)), (.int (1 : Int32)), (.ref a1)])) rfl (by rw [hml]; rfl) (argsL := [(.ref a1), (.int (1 : Int32)), (.int (2 : Int32))]) (rest := []) (lenOf pd_15 rfl) rfl (by show 2 * 0 + _ ≤ _; exact Nat.le_of_eq rfl) (hb hby d24_13) (fun _ _ => ⟨rfl, e0, (by decide : 0 + 1 ≤ _), (by decide : 0 + 1 ≤ _)⟩))
  obtain ⟨vb, kb, rfl, N1q, r1_0, r1_1, r1_2⟩ := hQ1
  have N1 := Fr.app N0 N1q
  have K1 : Keep h0 T1.heap [] := (Keep.refl h0 []).trans r1_0 all0
  have lt_a1_vb : a1 < vb := Nat.lt_of_lt_of_le V_a1.lt r1_1
  have sz_vb : h0.size ≤ vb := Nat.le_trans (Keep.refl h0 []).1 r1_1
  have g_vb : n0 ≤ vb := Nat.le_trans Z0 sz_vb
  refine OGo.via st1 ?_
  show OGo _ _ _ _ (T1.setTop (mkF m 16 #[.val (.ref a1), .val (.int (1 : Int32)), .val (.int (2 : Int32))] [(.ref vb)]))
  show OGo _ _ _ _ (T1.setTop (mkF m 16 #[.val (.ref a1), .val (.int (1 : Int32)), .val (.int (2 : Int32))] [(.ref vb)]))
  refine own_retA X1 hx Bd.notSynchronized Bd.returns rfl rfl (hb hby d24_16) (by decide) (by decide) ?_
  show Q_rm24_2_2 Z _ _ _ _ h0 n0 _ T1.heap _
  exact ⟨vb, kb, rfl, N1, K1, sz_vb, r1_2⟩
theorem d22_7 : decode jdk_43_method_47_code 7 = .ok (.new 1, 3) := by decide +kernel
theorem d22_10 : decode jdk_43_method_47_code 10 = .ok (.dup, 1) := by decide +kernel
theorem d22_11 : decode jdk_43_method_47_code 11 = .ok (.aload_n 0, 1) := by decide +kernel
theorem d22_12 : decode jdk_43_method_47_code 12 = .ok (.iload_n 1, 1) := by decide +kernel
theorem d22_13 : decode jdk_43_method_47_code 13 = .ok (.iload_n 1, 1) := by decide +kernel
theorem d22_14 : decode jdk_43_method_47_code 14 = .ok (.iload_n 2, 1) := by decide +kernel
theorem d22_15 : decode jdk_43_method_47_code 15 = .ok (.iadd, 1) := by decide +kernel
theorem d22_16 : decode jdk_43_method_47_code 16 = .ok (.invokestatic 232, 3) := by decide +kernel
theorem d22_19 : decode jdk_43_method_47_code 19 = .ok (.iconst 0, 1) := by decide +kernel
theorem d22_20 : decode jdk_43_method_47_code 20 = .ok (.invokespecial 112, 3) := by decide +kernel
theorem pd_16 : parseMethodDescriptor "([BB)V" = some ⟨[(.array .byte), .byte], none⟩ := by decide +kernel
theorem d22_23 : decode jdk_43_method_47_code 23 = .ok (.areturn, 1) := by decide +kernel
theorem ef_rm22_2_2 (m : MethodId) (a1 : Addr) : entryFrame m #[(.ref a1), (.int (1 : Int32)), (.int (1 : Int32))] 3 = mkF m 0 #[.val (.ref a1), .val (.int (1 : Int32)), .val (.int (1 : Int32))] [] := by
  first | (simp [entryFrame, mkF, argsToLocals, Value.category]; done) | rfl
def Q_rm22_2_2 (Z : State) (a1 : Addr) (k1 : ClassId) (y0 : Int32) (y1 : Int32) (w : Int32) (fm : Value) (h0 : Heap) (n0 : Nat) (v : Option Value) (h : Heap) (L : List Loc) : Prop := ∃ rr : Addr, ∃ vb : Addr, ∃ kb : ClassId, v = some (.ref rr) ∧ Fr n0 L ∧ Keep h0 h [] ∧ Exa Z h rr "java/lang/String" ∧ Fld Z h rr "java/lang/String" "value" "[B" (.ref vb) ∧ Fld Z h rr "java/lang/String" "coder" "B" (.int (0 : Int32)) ∧ Arv Z h vb kb .byte (1 : Int32) [(.int y1)] (.int (0 : Int32))
abbrev R_rm22_2_2 : Room := ⟨3, 2, 5, 50⟩
set_option maxRecDepth 65536 in
set_option maxHeartbeats 40000000 in
theorem rm22_2_2 (l : Launch) (Z : State) (a0 : Array Value) (hw : ∀ d ∈ tables_1, d.before a0 Z = true) (ws : List Jvm.Cond) (a1 : Addr) (k1 : ClassId) (y0 : Int32) (y1 : Int32) (w : Int32) (fm : Value) (h0 : Heap) (n0 : Nat) (Z0 : n0 ≤ h0.size) (V_a1 : Arv Z h0 a1 k1 .byte (2 : Int32) [(.int y0), (.int y1)] (.int (0 : Int32))) (S_COMPACT_STRINGS : Sta Z h0 "java/lang/String" "COMPACT_STRINGS" "Z" (.int w)) (S_SIOOBE_FORMATTER : Sta Z h0 "jdk/internal/util/Preconditions" "SIOOBE_FORMATTER" "Ljava/util/function/BiFunction;" fm) :
    MetFree l own_y22 (head1 (Jvm.Cond.code own_y22 jdk_43_method_47_code 3 (some (.object "java/lang/String")) :: ws) R_rm22_2_2) (fun a U => a = #[(.ref a1), (.int (1 : Int32)), (.int (1 : Int32))] ∧ Z.Warmed39 U.vm ∧ U.heap = h0) (fun _ _ _ _ _ => True) (fun _ U o U' => ∃ v L, o = .returned v ∧ Q_rm22_2_2 Z a1 k1 y0 y1 w fm h0 n0 v U'.heap L ∧ FrameEnd U o U' L R_rm22_2_2.cells R_rm22_2_2.slots) := by
  refine MetFree.of_bodySF (plainFor_of_name pn_StringLatin1) hisR ?_
  intro p e s m args below meth c s₁ Bd hml0 hP hK
  obtain ⟨rfl, hZ, hh⟩ := hP
  have hx := Bd.exec
  have hby := Bd.bytes
  have hml : c.maxLocals = 3 := hml0
  have hown : s.vm.findClass "java/lang/StringLatin1" = some m.cls := findClass_of_methodNamed Bd.named
  have hnm := (name_of_methodNamed Bd.named Bd.method).1
  have X0 : Stand p l e R_rm22_2_2 s m #[(.ref a1), (.int (1 : Int32)), (.int (1 : Int32))] below meth c s₁ [] 0 0 := Stand.of_body Bd
  have e0 : s₁.heap = h0 := by rw [← hh, Bd.state]; rfl
  have N0 := Fr.nil n0
  show OGo p.tables e below (own_Kq s (fun v h L => Q_rm22_2_2 Z a1 k1 y0 y1 w fm h0 n0 v h L) R_rm22_2_2.cells R_rm22_2_2.slots) (s₁.setTop (entryFrame m #[(.ref a1), (.int (1 : Int32)), (.int (1 : Int32))] 3))
  refine OGo.cast (ef_rm22_2_2 m a1) ?_
  show OGo _ _ _ _ (s₁.setTop (mkF m 0 #[.val (.ref a1), .val (.int (1 : Int32)), .val (.int (1 : Int32))] []))
  refine OGo.via (fun _ k => XS.iloadN X0.here hx rfl (hb hby d22_0) rfl (XS.ifYes X0.here hx rfl (pc0 := 1) (pc' := 7) rfl (hb hby d22_1) rfl ((if0 _ _).trans (feq (by decide : ¬ ((1 : Int32) = (0 : Int32)))).2) (by decide) (by decide) k)) ?_
  obtain ⟨T1, h1, X1, e1, E1, A1, D1, -, st1⟩ := newO X0 hx hZ hown (own_w hw 111 rfl) (own_w hw 9 rfl) (own_w hw 10 rfl) e0 (g := (mkF m 7 #[.val (.ref a1), .val (.int (1 : Int32)), .val (.int (1 : Int32))] [])) rfl (hb hby d22_7) (by decide) (by decide)
  obtain ⟨b1, g1⟩ : ∃ z, z = h0.size := ⟨_, rfl⟩
  rw [← g1] at A1 D1 st1
  refine OGo.via st1 ?_
  have K1 : Keep h0 h1 [] := (Keep.refl h0 []).ext E1
  have lt_a1_b1 : a1 < b1 := Nat.lt_of_lt_of_le V_a1.lt (Nat.le_of_eq g1.symm)
  have sz_b1 : h0.size ≤ b1 := Nat.le_trans (Keep.refl h0 []).1 (Nat.le_of_eq g1.symm)
  have g_b1 : n0 ≤ b1 := Nat.le_trans Z0 sz_b1
  have F1_coder : Fld Z h1 b1 "java/lang/String" "coder" "B" (.int (0 : Int32)) := D1 (Or.inr (own_w hw 34 rfl)) (ty := .byte) (by decide)
  have F1_value : Fld Z h1 b1 "java/lang/String" "value" "[B" .null := D1 (Or.inr (own_w hw 36 rfl)) (ty := (.array .byte)) (by decide)
  show OGo _ _ _ _ (T1.setTop (mkF m 10 #[.val (.ref a1), .val (.int (1 : Int32)), .val (.int (1 : Int32))] [(.ref b1)]))
  refine OGo.via (fun _ k => XS.dup X1.here hx rfl (hb hby d22_10) rfl rfl (XS.aloadN X1.here hx rfl (hb hby d22_11) rfl rfl (XS.iloadN X1.here hx rfl (hb hby d22_12) rfl (XS.iloadN X1.here hx rfl (hb hby d22_13) rfl (XS.iloadN X1.here hx rfl (hb hby d22_14) rfl (XS.iadd X1.here hx rfl (hb hby d22_15) rfl k)))))) ?_
  show OGo _ _ _ _ (T1.setTop (mkF m 16 #[.val (.ref a1), .val (.int (1 : Int32)), .val (.int (1 : Int32))] [(.int ((1 : Int32) + (1 : Int32))), (.int (1 : Int32)), (.ref a1), (.ref b1), (.ref b1)]))
  rw [show ((1 : Int32) + (1 : Int32)) = (2 : Int32) from by decide]
  have f4 := V_a1.ext E1
  obtain ⟨_, T3, Lc3, X3, hQ3, st3⟩ := own_open X1 (Jvm.LawKit.callS X1 hx (y := own_y25) hown (mvT hZ (own_w hw 112 rfl)) (mvT hZ (own_w hw 113 rfl)) (mvT hZ (own_w hw 114 rfl)) (mvT hZ (own_w hw 115 rfl)) (by decide) (backOf (W := 2) (rm24_2_2 l Z a0 hw [] a1 k1 y0 y1 h1 n0 (Nat.le_trans Z0 K1.1) f4) hZ (own_w hw 115 rfl) (own_w hw 114 rfl) (by decide) (by decide)) (g := (mkF m 16 #[.val (.ref a1), .val (.int (1 : Int32)), .val (.int (1 : Int32))] [(.int (2 : Int32)), (.int (1 : Int32)), (.ref a1), (.ref b1), (.ref b1)])) rfl (by rw [hml]; rfl) (argsL := [(.ref a1), (.int (1 : Int32)), (.int (2 : Int32))]) (rest := [(.ref b1), (.ref b1)]) (lenOf pd_15 rfl) rfl (by show 2 * 0 + _ ≤ _; exact Nat.le_of_eq rfl) (hb hby d22_16) (fun _ _ => ⟨rfl, e1, (by decide : 1 + 1 ≤ _), (by decide : 4 + 1 ≤ _)⟩))
  obtain ⟨vb, kb, rfl, N3q, r3_0, r3_1, r3_2⟩ := hQ3
  have N3 := Fr.app N0 N3q
  have K3 : Keep h0 T3.heap [] := K1.trans r3_0 all0
  have lt_a1_vb : a1 < vb := Nat.lt_of_lt_of_le f4.lt r3_1
  have lt_b1_vb : b1 < vb := Nat.lt_of_lt_of_le A1.lt r3_1
  have sz_vb : h0.size ≤ vb := Nat.le_trans K1.1 r3_1
  have g_vb : n0 ≤ vb := Nat.le_trans Z0 sz_vb
  refine OGo.via st3 ?_
  show OGo _ _ _ _ (T3.setTop (mkF m 19 #[.val (.ref a1), .val (.int (1 : Int32)), .val (.int (1 : Int32))] [(.ref vb), (.ref b1), (.ref b1)]))
  refine OGo.via (fun _ k => XS.iconst X3.here hx rfl (hb hby d22_19) k) ?_
  have f6 := A1.keep r3_0
  have f7 := F1_value.keep r3_0 nin0
  have f8 := F1_coder.keep r3_0 nin0
  have f9 := own_staKeep0 S_COMPACT_STRINGS K3
  have f10 := own_staKeep0 S_SIOOBE_FORMATTER K3
  obtain ⟨_, T5, Lc5, X5, hQ5, st5⟩ := own_open X3 (X3.specialBack hx (y := own_y21) rfl hown (mvT hZ (own_w hw 127 rfl)) (mvT hZ (own_w hw 128 rfl)) (mvT hZ (own_w hw 129 rfl)) (by decide) (backOf (W := 1) (rm27 l Z a0 hw [] b1 vb w fm T3.heap n0 (Nat.le_trans Z0 K3.1) f6 f7 f8 g_b1 f9 f10) hZ (own_w hw 129 rfl) (own_w hw 10 rfl) (by decide) (by decide)) (g := (mkF m 20 #[.val (.ref a1), .val (.int (1 : Int32)), .val (.int (1 : Int32))] [(.int (0 : Int32)), (.ref vb), (.ref b1), (.ref b1)])) rfl (by rw [hml]; rfl) (Steps.refl _) (a := b1) (argsL := [(.ref vb), (.int (0 : Int32))]) (rest := [(.ref b1)]) (lenOf pd_16 rfl) rfl (by show 2 * 0 + _ ≤ _; exact Nat.le_of_eq rfl) (hb hby d22_20) (fun _ _ => ⟨rfl, rfl, (by decide : 2 + 0 ≤ _), (by decide : 5 + 0 ≤ _)⟩))
  obtain ⟨rfl, N5q, r5_0, r5_1, r5_2, r5_3, r5_4, r5_5⟩ := hQ5
  have N5 := Fr.app N3 N5q
  have K5 : Keep h0 T5.heap [] := K3.trans r5_0 (allS (Or.inr sz_b1) all0)
  refine OGo.via (fun _ k => st5.trans k) ?_
  show OGo _ _ _ _ (T5.setTop (mkF m 23 #[.val (.ref a1), .val (.int (1 : Int32)), .val (.int (1 : Int32))] [(.ref b1)]))
  show OGo _ _ _ _ (T5.setTop (mkF m 23 #[.val (.ref a1), .val (.int (1 : Int32)), .val (.int (1 : Int32))] [(.ref b1)]))
  have f11 := r3_2.keep r5_0 (ninS (Nat.ne_of_gt lt_b1_vb) nin0)
  refine own_retA X5 hx Bd.notSynchronized Bd.returns rfl rfl (hb hby d22_23) (by decide) (by decide) ?_
  show Q_rm22_2_2 Z _ _ _ _ _ _ h0 n0 _ T5.heap _
  exact ⟨b1, vb, kb, rfl, N5, K5, r5_1, r5_2, r5_3, f11⟩
theorem ef_rm19_2_2 (m : MethodId) (a1 : Addr) : entryFrame m #[(.ref a1), (.int (1 : Int32)), (.int (2 : Int32))] 5 = mkF m 0 #[.val (.ref a1), .val (.int (1 : Int32)), .val (.int (2 : Int32)), .unset, .unset] [] := by
  first | (simp [entryFrame, mkF, argsToLocals, Value.category]; done) | rfl
def Q_rm19_2_2 (Z : State) (a1 : Addr) (w : Int32) (fm : Value) (va : Addr) (k1 : ClassId) (y0 : Int32) (y1 : Int32) (h0 : Heap) (n0 : Nat) (v : Option Value) (h : Heap) (L : List Loc) : Prop := ∃ rr : Addr, ∃ vb : Addr, ∃ kb : ClassId, v = some (.ref rr) ∧ Fr n0 L ∧ Keep h0 h [] ∧ Exa Z h rr "java/lang/String" ∧ Fld Z h rr "java/lang/String" "value" "[B" (.ref vb) ∧ Fld Z h rr "java/lang/String" "coder" "B" (.int (0 : Int32)) ∧ Arv Z h vb kb .byte (1 : Int32) [(.int y1)] (.int (0 : Int32))
abbrev R_rm19_2_2 : Room := ⟨4, 2, 5, 64⟩
set_option maxRecDepth 65536 in
set_option maxHeartbeats 40000000 in
theorem rm19_2_2 (l : Launch) (Z : State) (a0 : Array Value) (hw : ∀ d ∈ tables_1, d.before a0 Z = true) (ws : List Jvm.Cond) (a1 : Addr) (w : Int32) (fm : Value) (va : Addr) (k1 : ClassId) (y0 : Int32) (y1 : Int32) (h0 : Heap) (n0 : Nat) (Z0 : n0 ≤ h0.size) (E_a1 : Exa Z h0 a1 "java/lang/String") (F_value_a1 : Fld Z h0 a1 "java/lang/String" "value" "[B" (.ref va)) (F_coder_a1 : Fld Z h0 a1 "java/lang/String" "coder" "B" (.int (0 : Int32))) (V_va : Arv Z h0 va k1 .byte (2 : Int32) [(.int y0), (.int y1)] (.int (0 : Int32))) (S_COMPACT_STRINGS : Sta Z h0 "java/lang/String" "COMPACT_STRINGS" "Z" (.int w)) (S_SIOOBE_FORMATTER : Sta Z h0 "jdk/internal/util/Preconditions" "SIOOBE_FORMATTER" "Ljava/util/function/BiFunction;" fm) (hw0 : ¬ w = (0 : Int32)) (hr_fm : fm.isRef = true) :
    MetFree l own_y23 (head1 (Jvm.Cond.code own_y23 jdk_42_method_92_code 5 (some (.object "java/lang/String")) :: ws) R_rm19_2_2) (fun a U => a = #[(.ref a1), (.int (1 : Int32)), (.int (2 : Int32))] ∧ Z.Warmed39 U.vm ∧ U.heap = h0) (fun _ _ _ _ _ => True) (fun _ U o U' => ∃ v L, o = .returned v ∧ Q_rm19_2_2 Z a1 w fm va k1 y0 y1 h0 n0 v U'.heap L ∧ FrameEnd U o U' L R_rm19_2_2.cells R_rm19_2_2.slots) := by
  refine MetFree.of_bodySF (plainFor_of_name pn_String) hisR ?_
  intro p e s m args below meth c s₁ Bd hml0 hP hK
  obtain ⟨rfl, hZ, hh⟩ := hP
  have hx := Bd.exec
  have hby := Bd.bytes
  have hml : c.maxLocals = 5 := hml0
  have hown : s.vm.findClass "java/lang/String" = some m.cls := findClass_of_methodNamed Bd.named
  have hnm := (name_of_methodNamed Bd.named Bd.method).1
  have X0 : Stand p l e R_rm19_2_2 s m #[(.ref a1), (.int (1 : Int32)), (.int (2 : Int32))] below meth c s₁ [] 0 0 := Stand.of_body Bd
  have e0 : s₁.heap = h0 := by rw [← hh, Bd.state]; rfl
  have N0 := Fr.nil n0
  show OGo p.tables e below (own_Kq s (fun v h L => Q_rm19_2_2 Z a1 w fm va k1 y0 y1 h0 n0 v h L) R_rm19_2_2.cells R_rm19_2_2.slots) (s₁.setTop (entryFrame m #[(.ref a1), (.int (1 : Int32)), (.int (2 : Int32))] 5))
  refine OGo.cast (ef_rm19_2_2 m a1) ?_
  show OGo _ _ _ _ (s₁.setTop (mkF m 0 #[.val (.ref a1), .val (.int (1 : Int32)), .val (.int (2 : Int32)), .unset, .unset] []))
  refine OGo.via (fun _ k => XS.aloadN X0.here hx rfl (hb hby d19_0) rfl rfl k) ?_
  obtain ⟨cq1, kq1, q1a, q1b, q1c⟩ := isOf hZ e0 E_a1
  obtain ⟨_, T1, Lc1, X1, hQ1, st1⟩ := own_open X0 (X0.virtualBack hx (y := own_y6) (z := own_y6) hown (mvT hZ (own_w hw 63 rfl)) (mvT hZ (own_w hw 64 rfl)) (notFace_of_selects (args := #[]) (mvT hZ (own_w hw 66 rfl))) (mvT hZ (own_w hw 66 rfl)) (mvT hZ (own_w hw 65 rfl)) (by decide) (backOf (W := 0) (rm13 l Z a0 hw [] a1 w va k1 [(.int y0), (.int y1)] (2 : Int32) h0 n0 Z0 E_a1 F_value_a1 F_coder_a1 V_va S_COMPACT_STRINGS hw0) hZ (own_w hw 67 rfl) (own_w hw 10 rfl) (by decide) (by decide)) q1a q1c (g := (mkF m 1 #[.val (.ref a1), .val (.int (1 : Int32)), .val (.int (2 : Int32)), .unset, .unset] [(.ref a1)])) rfl (by rw [hml]; rfl) (Steps.refl _) (argsL := []) (rest := []) (lenOf pd_11 rfl) rfl (by show 2 * 0 + _ ≤ _; exact Nat.le_of_eq rfl) (hb hby d19_1) (fun _ _ => ⟨rfl, e0, (by decide : 0 + 0 ≤ _), (by decide : 0 + 0 ≤ _)⟩))
  obtain ⟨rfl, N1q, r1_0⟩ := hQ1
  have N1 := Fr.app N0 N1q
  refine OGo.via (fun _ k => st1.trans k) ?_
  show OGo _ _ _ _ (T1.setTop (mkF m 4 #[.val (.ref a1), .val (.int (1 : Int32)), .val (.int (2 : Int32)), .unset, .unset] [(.int (2 : Int32))]))
  refine OGo.via (fun _ k => XS.istoreN X1.here hx rfl (hb hby d19_4) rfl (l' := #[.val (.ref a1), .val (.int (1 : Int32)), .val (.int (2 : Int32)), .val (.int (2 : Int32)), .unset]) rfl (XS.iloadN X1.here hx rfl (hb hby d19_5) rfl (XS.iloadN X1.here hx rfl (hb hby d19_6) rfl (XS.iloadN X1.here hx rfl (hb hby d19_7) rfl k)))) ?_
  obtain ⟨_, T2, Lc2, X2, hQ2, st2⟩ := own_open X1 (Jvm.LawKit.callS X1 hx (y := own_y15) hown (mvT hZ (own_w hw 93 rfl)) (mvT hZ (own_w hw 94 rfl)) (mvT hZ (own_w hw 10 rfl)) (mvT hZ (own_w hw 95 rfl)) (by decide) (backOf (W := 0) (rm20 l Z a0 hw [] (1 : Int32) (2 : Int32) (2 : Int32) fm h0 n0 Z0 S_SIOOBE_FORMATTER (by decide) (by decide) (by decide) hr_fm) hZ (own_w hw 95 rfl) (own_w hw 10 rfl) (by decide) (by decide)) (g := (mkF m 8 #[.val (.ref a1), .val (.int (1 : Int32)), .val (.int (2 : Int32)), .val (.int (2 : Int32)), .unset] [(.int (2 : Int32)), (.int (2 : Int32)), (.int (1 : Int32))])) rfl (by rw [hml]; rfl) (argsL := [(.int (1 : Int32)), (.int (2 : Int32)), (.int (2 : Int32))]) (rest := []) (lenOf pd_12 rfl) rfl (by show 2 * 0 + _ ≤ _; exact Nat.le_of_eq rfl) (hb hby d19_8) (fun _ _ => ⟨rfl, r1_0, (by decide : 0 + 0 ≤ _), (by decide : 0 + 0 ≤ _)⟩))
  obtain ⟨rfl, N2q, r2_0⟩ := hQ2
  have N2 := Fr.app N1 N2q
  refine OGo.via st2 ?_
  show OGo _ _ _ _ (T2.setTop (mkF m 11 #[.val (.ref a1), .val (.int (1 : Int32)), .val (.int (2 : Int32)), .val (.int (2 : Int32)), .unset] []))
  refine OGo.via (fun _ k => XS.iloadN X2.here hx rfl (hb hby d19_11) rfl (XS.ifYes X2.here hx rfl (pc0 := 12) (pc' := 22) rfl (hb hby d19_12) rfl ((if0 _ _).trans (feq (by decide : ¬ ((1 : Int32) = (0 : Int32)))).2) (by decide) (by decide) (XS.iloadN X2.here hx rfl (hb hby d19_22) rfl (XS.iloadN X2.here hx rfl (hb hby d19_23) rfl (XS.isub X2.here hx rfl (hb hby d19_24) rfl k))))) ?_
  show OGo _ _ _ _ (T2.setTop (mkF m 25 #[.val (.ref a1), .val (.int (1 : Int32)), .val (.int (2 : Int32)), .val (.int (2 : Int32)), .unset] [(.int ((2 : Int32) - (1 : Int32)))]))
  rw [show ((2 : Int32) - (1 : Int32)) = (1 : Int32) from by decide]
  refine OGo.via (fun _ k => XS.istore X2.here hx rfl (hb hby d19_25) rfl (l' := #[.val (.ref a1), .val (.int (1 : Int32)), .val (.int (2 : Int32)), .val (.int (2 : Int32)), .val (.int (1 : Int32))]) rfl (XS.aloadN X2.here hx rfl (hb hby d19_27) rfl rfl k)) ?_
  obtain ⟨cq4, kq4, q4a, q4b, q4c⟩ := isOf hZ r2_0 E_a1
  obtain ⟨_, T4, Lc4, X4, hQ4, st4⟩ := own_open X2 (X2.virtualBack hx (y := own_y5) (z := own_y5) hown (mvT hZ (own_w hw 58 rfl)) (mvT hZ (own_w hw 59 rfl)) (notFace_of_selects (args := #[]) (mvT hZ (own_w hw 61 rfl))) (mvT hZ (own_w hw 61 rfl)) (mvT hZ (own_w hw 60 rfl)) (by decide) (backOf (W := 0) (rm12 l Z a0 hw [] a1 w va h0 n0 Z0 E_a1 F_value_a1 F_coder_a1 S_COMPACT_STRINGS hw0) hZ (own_w hw 62 rfl) (own_w hw 10 rfl) (by decide) (by decide)) q4a q4c (g := (mkF m 28 #[.val (.ref a1), .val (.int (1 : Int32)), .val (.int (2 : Int32)), .val (.int (2 : Int32)), .val (.int (1 : Int32))] [(.ref a1)])) rfl (by rw [hml]; rfl) (Steps.refl _) (argsL := []) (rest := []) (lenOf pd_9 rfl) rfl (by show 2 * 0 + _ ≤ _; exact Nat.le_of_eq rfl) (hb hby d19_28) (fun _ _ => ⟨rfl, r2_0, (by decide : 0 + 0 ≤ _), (by decide : 0 + 0 ≤ _)⟩))
  obtain ⟨rfl, N4q, r4_0⟩ := hQ4
  have N4 := Fr.app N2 N4q
  refine OGo.via (fun _ k => st4.trans k) ?_
  show OGo _ _ _ _ (T4.setTop (mkF m 31 #[.val (.ref a1), .val (.int (1 : Int32)), .val (.int (2 : Int32)), .val (.int (2 : Int32)), .val (.int (1 : Int32))] [(.int (1 : Int32))]))
  refine OGo.via (fun _ k => XS.ifNo X4.here hx rfl (hb hby d19_31) rfl ((if0 _ _).trans (feq (by decide : ¬ ((1 : Int32) = (0 : Int32)))).1) (XS.aloadN X4.here hx rfl (hb hby d19_34) rfl rfl k)) ?_
  obtain ⟨T5, X5, e5, st5⟩ := getF X4 hx hZ hown (host := "") (Or.inl (own_w hw 35 rfl)) Via.refl r4_0 F_value_a1 (g := (mkF m 35 #[.val (.ref a1), .val (.int (1 : Int32)), .val (.int (2 : Int32)), .val (.int (2 : Int32)), .val (.int (1 : Int32))] [(.ref a1)])) rfl rfl (hb hby d19_35)
  refine OGo.via st5 ?_
  show OGo _ _ _ _ (T5.setTop (mkF m 38 #[.val (.ref a1), .val (.int (1 : Int32)), .val (.int (2 : Int32)), .val (.int (2 : Int32)), .val (.int (1 : Int32))] [(.ref va)]))
  refine OGo.via (fun _ k => XS.iloadN X5.here hx rfl (hb hby d19_38) rfl (XS.iload X5.here hx rfl (hb hby d19_39) rfl k)) ?_
  obtain ⟨_, T6, Lc6, X6, hQ6, st6⟩ := own_open X5 (Jvm.LawKit.callS X5 hx (y := own_y22) hown (mvT hZ (own_w hw 101 rfl)) (mvT hZ (own_w hw 102 rfl)) (mvT hZ (own_w hw 75 rfl)) (mvT hZ (own_w hw 103 rfl)) (by decide) (backOf (W := 0) (rm22_2_2 l Z a0 hw [] va k1 y0 y1 w fm h0 n0 Z0 V_va S_COMPACT_STRINGS S_SIOOBE_FORMATTER) hZ (own_w hw 103 rfl) (own_w hw 75 rfl) (by decide) (by decide)) (g := (mkF m 41 #[.val (.ref a1), .val (.int (1 : Int32)), .val (.int (2 : Int32)), .val (.int (2 : Int32)), .val (.int (1 : Int32))] [(.int (1 : Int32)), (.int (1 : Int32)), (.ref va)])) rfl (by rw [hml]; rfl) (argsL := [(.ref va), (.int (1 : Int32)), (.int (1 : Int32))]) (rest := []) (lenOf pd_13 rfl) rfl (by show 2 * 0 + _ ≤ _; exact Nat.le_of_eq rfl) (hb hby d19_41) (fun _ _ => ⟨rfl, e5, (by decide : 0 + 2 ≤ _), (by decide : 0 + 5 ≤ _)⟩))
  obtain ⟨rr, vb, kb, rfl, N6q, r6_0, r6_1, r6_2, r6_3, r6_4⟩ := hQ6
  have N6 := Fr.app N4 N6q
  have K6 : Keep h0 T6.heap [] := (Keep.refl h0 []).trans r6_0 all0
  refine OGo.via st6 ?_
  show OGo _ _ _ _ (T6.setTop (mkF m 44 #[.val (.ref a1), .val (.int (1 : Int32)), .val (.int (2 : Int32)), .val (.int (2 : Int32)), .val (.int (1 : Int32))] [(.ref rr)]))
  refine OGo.via (fun _ k => XS.goto X6.here hx rfl (pc0 := 44) (pc' := 57) rfl (hb hby d19_44) (by decide) (by decide) k) ?_
  show OGo _ _ _ _ (T6.setTop (mkF m 57 #[.val (.ref a1), .val (.int (1 : Int32)), .val (.int (2 : Int32)), .val (.int (2 : Int32)), .val (.int (1 : Int32))] [(.ref rr)]))
  refine own_retA X6 hx Bd.notSynchronized Bd.returns rfl rfl (hb hby d19_57) (by decide) (by decide) ?_
  show Q_rm19_2_2 Z _ _ _ _ _ _ _ h0 n0 _ T6.heap _
  exact ⟨rr, vb, kb, rfl, N6, K6, r6_1, r6_2, r6_3, r6_4⟩
theorem ef_rm19_3_1 (m : MethodId) (a1 : Addr) : entryFrame m #[(.ref a1), (.int (1 : Int32)), (.int (1 : Int32))] 5 = mkF m 0 #[.val (.ref a1), .val (.int (1 : Int32)), .val (.int (1 : Int32)), .unset, .unset] [] := by
  first | (simp [entryFrame, mkF, argsToLocals, Value.category]; done) | rfl
def Q_rm19_3_1 (Z : State) (a1 : Addr) (w : Int32) (fm : Value) (va : Addr) (k1 : ClassId) (y0 : Int32) (y1 : Int32) (y2 : Int32) (h0 : Heap) (n0 : Nat) (v : Option Value) (h : Heap) (L : List Loc) : Prop := ∃ rr : Addr, ∃ vb : Addr, ∃ kb : ClassId, v = some (.ref rr) ∧ Fr n0 L ∧ Keep h0 h [] ∧ Exa Z h rr "java/lang/String" ∧ Fld Z h rr "java/lang/String" "value" "[B" (.ref vb) ∧ Fld Z h rr "java/lang/String" "coder" "B" (.int (0 : Int32)) ∧ Arv Z h vb kb .byte (0 : Int32) [] (.int (0 : Int32))
abbrev R_rm19_3_1 : Room := ⟨2, 2, 4, 29⟩
set_option maxRecDepth 65536 in
set_option maxHeartbeats 40000000 in
theorem rm19_3_1 (l : Launch) (Z : State) (a0 : Array Value) (hw : ∀ d ∈ tables_1, d.before a0 Z = true) (ws : List Jvm.Cond) (a1 : Addr) (w : Int32) (fm : Value) (va : Addr) (k1 : ClassId) (y0 : Int32) (y1 : Int32) (y2 : Int32) (h0 : Heap) (n0 : Nat) (Z0 : n0 ≤ h0.size) (E_a1 : Exa Z h0 a1 "java/lang/String") (F_value_a1 : Fld Z h0 a1 "java/lang/String" "value" "[B" (.ref va)) (F_coder_a1 : Fld Z h0 a1 "java/lang/String" "coder" "B" (.int (0 : Int32))) (V_va : Arv Z h0 va k1 .byte (3 : Int32) [(.int y0), (.int y1), (.int y2)] (.int (0 : Int32))) (S_COMPACT_STRINGS : Sta Z h0 "java/lang/String" "COMPACT_STRINGS" "Z" (.int w)) (S_SIOOBE_FORMATTER : Sta Z h0 "jdk/internal/util/Preconditions" "SIOOBE_FORMATTER" "Ljava/util/function/BiFunction;" fm) (hw0 : ¬ w = (0 : Int32)) (hr_fm : fm.isRef = true) (hold : ∀ (b : Addr) (cl : Cell), Z.heap[b]? = some cl → h0[b]? = some cl) (hhc : Jvm.Lit.constHeld Z "java/lang/StringLatin1" 151) (hcw : Jvm.Lit.compactW.before a0 Z = true) :
    MetFree l own_y23 (head1 (Jvm.Cond.code own_y23 jdk_42_method_92_code 5 (some (.object "java/lang/String")) :: ws) R_rm19_3_1) (fun a U => a = #[(.ref a1), (.int (1 : Int32)), (.int (1 : Int32))] ∧ Z.WarmedH U.vm ∧ U.heap = h0) (fun _ _ _ _ _ => True) (fun _ U o U' => ∃ v L, o = .returned v ∧ Q_rm19_3_1 Z a1 w fm va k1 y0 y1 y2 h0 n0 v U'.heap L ∧ ReturnedEndW U o U' L R_rm19_3_1.cells R_rm19_3_1.slots) := by
  refine MetFree.of_bodySF (plainFor_of_name pn_String) hisR ?_
  intro p e s m args below meth c s₁ Bd hml0 hP hK
  obtain ⟨rfl, hZH, hh⟩ := hP
  have hZ := hZH.wide
  have hx := Bd.exec
  have hby := Bd.bytes
  have hml : c.maxLocals = 5 := hml0
  have hown : s.vm.findClass "java/lang/String" = some m.cls := findClass_of_methodNamed Bd.named
  have hnm := (name_of_methodNamed Bd.named Bd.method).1
  have X0 : Stand p l e R_rm19_3_1 s m #[(.ref a1), (.int (1 : Int32)), (.int (1 : Int32))] below meth c s₁ [] 0 0 := Stand.of_body Bd
  have e0 : s₁.heap = h0 := by rw [← hh, Bd.state]; rfl
  have N0 := Fr.nil n0
  show OGo p.tables e below (own_KqW s (fun v h L => Q_rm19_3_1 Z a1 w fm va k1 y0 y1 y2 h0 n0 v h L) R_rm19_3_1.cells R_rm19_3_1.slots) (s₁.setTop (entryFrame m #[(.ref a1), (.int (1 : Int32)), (.int (1 : Int32))] 5))
  refine OGo.cast (ef_rm19_3_1 m a1) ?_
  show OGo _ _ _ _ (s₁.setTop (mkF m 0 #[.val (.ref a1), .val (.int (1 : Int32)), .val (.int (1 : Int32)), .unset, .unset] []))
  refine OGo.via (fun _ k => XS.aloadN X0.here hx rfl (hb hby d19_0) rfl rfl k) ?_
  obtain ⟨cq1, kq1, q1a, q1b, q1c⟩ := isOf hZ e0 E_a1
  obtain ⟨_, T1, Lc1, X1, hQ1, st1⟩ := own_open X0 (X0.virtualBack hx (y := own_y6) (z := own_y6) hown (mvT hZ (own_w hw 63 rfl)) (mvT hZ (own_w hw 64 rfl)) (notFace_of_selects (args := #[]) (mvT hZ (own_w hw 66 rfl))) (mvT hZ (own_w hw 66 rfl)) (mvT hZ (own_w hw 65 rfl)) (by decide) (backOf (W := 0) (rm13 l Z a0 hw [] a1 w va k1 [(.int y0), (.int y1), (.int y2)] (3 : Int32) h0 n0 Z0 E_a1 F_value_a1 F_coder_a1 V_va S_COMPACT_STRINGS hw0) hZ (own_w hw 67 rfl) (own_w hw 10 rfl) (by decide) (by decide)) q1a q1c (g := (mkF m 1 #[.val (.ref a1), .val (.int (1 : Int32)), .val (.int (1 : Int32)), .unset, .unset] [(.ref a1)])) rfl (by rw [hml]; rfl) (Steps.refl _) (argsL := []) (rest := []) (lenOf pd_11 rfl) rfl (by show 2 * 0 + _ ≤ _; exact Nat.le_of_eq rfl) (hb hby d19_1) (fun _ _ => ⟨rfl, e0, (by decide : 0 + 0 ≤ _), (by decide : 0 + 0 ≤ _)⟩))
  obtain ⟨rfl, N1q, r1_0⟩ := hQ1
  have N1 := Fr.app N0 N1q
  refine OGo.via (fun _ k => st1.trans k) ?_
  show OGo _ _ _ _ (T1.setTop (mkF m 4 #[.val (.ref a1), .val (.int (1 : Int32)), .val (.int (1 : Int32)), .unset, .unset] [(.int (3 : Int32))]))
  refine OGo.via (fun _ k => XS.istoreN X1.here hx rfl (hb hby d19_4) rfl (l' := #[.val (.ref a1), .val (.int (1 : Int32)), .val (.int (1 : Int32)), .val (.int (3 : Int32)), .unset]) rfl (XS.iloadN X1.here hx rfl (hb hby d19_5) rfl (XS.iloadN X1.here hx rfl (hb hby d19_6) rfl (XS.iloadN X1.here hx rfl (hb hby d19_7) rfl k)))) ?_
  obtain ⟨_, T2, Lc2, X2, hQ2, st2⟩ := own_open X1 (Jvm.LawKit.callS X1 hx (y := own_y15) hown (mvT hZ (own_w hw 93 rfl)) (mvT hZ (own_w hw 94 rfl)) (mvT hZ (own_w hw 10 rfl)) (mvT hZ (own_w hw 95 rfl)) (by decide) (backOf (W := 0) (rm20 l Z a0 hw [] (1 : Int32) (1 : Int32) (3 : Int32) fm h0 n0 Z0 S_SIOOBE_FORMATTER (by decide) (by decide) (by decide) hr_fm) hZ (own_w hw 95 rfl) (own_w hw 10 rfl) (by decide) (by decide)) (g := (mkF m 8 #[.val (.ref a1), .val (.int (1 : Int32)), .val (.int (1 : Int32)), .val (.int (3 : Int32)), .unset] [(.int (3 : Int32)), (.int (1 : Int32)), (.int (1 : Int32))])) rfl (by rw [hml]; rfl) (argsL := [(.int (1 : Int32)), (.int (1 : Int32)), (.int (3 : Int32))]) (rest := []) (lenOf pd_12 rfl) rfl (by show 2 * 0 + _ ≤ _; exact Nat.le_of_eq rfl) (hb hby d19_8) (fun _ _ => ⟨rfl, r1_0, (by decide : 0 + 0 ≤ _), (by decide : 0 + 0 ≤ _)⟩))
  obtain ⟨rfl, N2q, r2_0⟩ := hQ2
  have N2 := Fr.app N1 N2q
  refine OGo.via st2 ?_
  show OGo _ _ _ _ (T2.setTop (mkF m 11 #[.val (.ref a1), .val (.int (1 : Int32)), .val (.int (1 : Int32)), .val (.int (3 : Int32)), .unset] []))
  refine OGo.via (fun _ k => XS.iloadN X2.here hx rfl (hb hby d19_11) rfl (XS.ifYes X2.here hx rfl (pc0 := 12) (pc' := 22) rfl (hb hby d19_12) rfl ((if0 _ _).trans (feq (by decide : ¬ ((1 : Int32) = (0 : Int32)))).2) (by decide) (by decide) (XS.iloadN X2.here hx rfl (hb hby d19_22) rfl (XS.iloadN X2.here hx rfl (hb hby d19_23) rfl (XS.isub X2.here hx rfl (hb hby d19_24) rfl k))))) ?_
  show OGo _ _ _ _ (T2.setTop (mkF m 25 #[.val (.ref a1), .val (.int (1 : Int32)), .val (.int (1 : Int32)), .val (.int (3 : Int32)), .unset] [(.int ((1 : Int32) - (1 : Int32)))]))
  rw [show ((1 : Int32) - (1 : Int32)) = (0 : Int32) from by decide]
  refine OGo.via (fun _ k => XS.istore X2.here hx rfl (hb hby d19_25) rfl (l' := #[.val (.ref a1), .val (.int (1 : Int32)), .val (.int (1 : Int32)), .val (.int (3 : Int32)), .val (.int (0 : Int32))]) rfl (XS.aloadN X2.here hx rfl (hb hby d19_27) rfl rfl k)) ?_
  obtain ⟨cq4, kq4, q4a, q4b, q4c⟩ := isOf hZ r2_0 E_a1
  obtain ⟨_, T4, Lc4, X4, hQ4, st4⟩ := own_open X2 (X2.virtualBack hx (y := own_y5) (z := own_y5) hown (mvT hZ (own_w hw 58 rfl)) (mvT hZ (own_w hw 59 rfl)) (notFace_of_selects (args := #[]) (mvT hZ (own_w hw 61 rfl))) (mvT hZ (own_w hw 61 rfl)) (mvT hZ (own_w hw 60 rfl)) (by decide) (backOf (W := 0) (rm12 l Z a0 hw [] a1 w va h0 n0 Z0 E_a1 F_value_a1 F_coder_a1 S_COMPACT_STRINGS hw0) hZ (own_w hw 62 rfl) (own_w hw 10 rfl) (by decide) (by decide)) q4a q4c (g := (mkF m 28 #[.val (.ref a1), .val (.int (1 : Int32)), .val (.int (1 : Int32)), .val (.int (3 : Int32)), .val (.int (0 : Int32))] [(.ref a1)])) rfl (by rw [hml]; rfl) (Steps.refl _) (argsL := []) (rest := []) (lenOf pd_9 rfl) rfl (by show 2 * 0 + _ ≤ _; exact Nat.le_of_eq rfl) (hb hby d19_28) (fun _ _ => ⟨rfl, r2_0, (by decide : 0 + 0 ≤ _), (by decide : 0 + 0 ≤ _)⟩))
  obtain ⟨rfl, N4q, r4_0⟩ := hQ4
  have N4 := Fr.app N2 N4q
  refine OGo.via (fun _ k => st4.trans k) ?_
  show OGo _ _ _ _ (T4.setTop (mkF m 31 #[.val (.ref a1), .val (.int (1 : Int32)), .val (.int (1 : Int32)), .val (.int (3 : Int32)), .val (.int (0 : Int32))] [(.int (1 : Int32))]))
  refine OGo.via (fun _ k => XS.ifNo X4.here hx rfl (hb hby d19_31) rfl ((if0 _ _).trans (feq (by decide : ¬ ((1 : Int32) = (0 : Int32)))).1) (XS.aloadN X4.here hx rfl (hb hby d19_34) rfl rfl k)) ?_
  obtain ⟨T5, X5, e5, st5⟩ := getF X4 hx hZ hown (host := "") (Or.inl (own_w hw 35 rfl)) Via.refl r4_0 F_value_a1 (g := (mkF m 35 #[.val (.ref a1), .val (.int (1 : Int32)), .val (.int (1 : Int32)), .val (.int (3 : Int32)), .val (.int (0 : Int32))] [(.ref a1)])) rfl rfl (hb hby d19_35)
  refine OGo.via st5 ?_
  show OGo _ _ _ _ (T5.setTop (mkF m 38 #[.val (.ref a1), .val (.int (1 : Int32)), .val (.int (1 : Int32)), .val (.int (3 : Int32)), .val (.int (0 : Int32))] [(.ref va)]))
  refine OGo.via (fun _ k => XS.iloadN X5.here hx rfl (hb hby d19_38) rfl (XS.iload X5.here hx rfl (hb hby d19_39) rfl k)) ?_
  obtain ⟨_, T6, Lc6, X6, hSi6, hQ6, st6⟩ := own_openS X5 (Jvm.RoadKit.callSS X5 hx (y := own_y22) hown (mvT hZ (own_w hw 101 rfl)) (mvT hZ (own_w hw 102 rfl)) (mvT hZ (own_w hw 75 rfl)) (mvT hZ (own_w hw 103 rfl)) (by decide) (own_backOfSH (W := 0) (rm22_w l Z a0 hw [] va h0 n0 Z0 hold hhc hcw) hZH (own_w hw 103 rfl) (own_w hw 75 rfl) (by decide) (by decide)) (g := (mkF m 41 #[.val (.ref a1), .val (.int (1 : Int32)), .val (.int (1 : Int32)), .val (.int (3 : Int32)), .val (.int (0 : Int32))] [(.int (0 : Int32)), (.int (1 : Int32)), (.ref va)])) rfl (by rw [hml]; rfl) (argsL := [(.ref va), (.int (1 : Int32)), (.int (0 : Int32))]) (rest := []) (lenOf pd_13 rfl) rfl (by show 2 * 0 + _ ≤ _; exact Nat.le_of_eq rfl) (hb hby d19_41) (fun _ _ => ⟨rfl, e5, (by decide : 0 + 2 ≤ _), (by decide : 0 + 4 ≤ _)⟩))
  have hZ6 : Z.Warmed39 (s.setVm T6.vm).vm := State.Warmed39.trans hZ hSi6.1
  have hown6 : (s.setVm T6.vm).vm.findClass "java/lang/String" = some m.cls := by rw [show (s.setVm T6.vm).vm = T6.vm from rfl, hSi6.1.alike.findClass]; exact hown
  obtain ⟨rr, vb, kb, rfl, N6q, r6_0, r6_1, r6_2, r6_3, r6_4⟩ := hQ6
  have N6 := Fr.app N4 N6q
  have K6 : Keep h0 T6.heap [] := (Keep.refl h0 []).trans r6_0 all0
  refine OGo.via (fun _ k => st6.trans k) ?_
  show OGo _ _ _ _ (T6.setTop (mkF m 44 #[.val (.ref a1), .val (.int (1 : Int32)), .val (.int (1 : Int32)), .val (.int (3 : Int32)), .val (.int (0 : Int32))] [(.ref rr)]))
  refine OGo.via (fun _ k => XS.goto X6.here hx rfl (pc0 := 44) (pc' := 57) rfl (hb hby d19_44) (by decide) (by decide) k) ?_
  show OGo _ _ _ _ (T6.setTop (mkF m 57 #[.val (.ref a1), .val (.int (1 : Int32)), .val (.int (1 : Int32)), .val (.int (3 : Int32)), .val (.int (0 : Int32))] [(.ref rr)]))
  refine own_retAW X6 hSi6 (Nat.le_refl T6.heap.size) hx Bd.notSynchronized Bd.returns rfl rfl (hb hby d19_57) (by decide) (by decide) ?_
  show Q_rm19_3_1 Z _ _ _ _ _ _ _ _ h0 n0 _ T6.heap _
  exact ⟨rr, vb, kb, rfl, N6, K6, r6_1, r6_2, r6_3, r6_4⟩
theorem ef_rm25_3_2 (m : MethodId) (a1 : Addr) : entryFrame m #[(.ref a1), (.int (1 : Int32)), (.int (2 : Int32))] 5 = mkF m 0 #[.val (.ref a1), .val (.int (1 : Int32)), .val (.int (2 : Int32)), .unset, .unset] [] := by
  first | (simp [entryFrame, mkF, argsToLocals, Value.category]; done) | rfl
def Q_rm25_3_2 (Z : State) (a1 : Addr) (k1 : ClassId) (y0 : Int32) (y1 : Int32) (y2 : Int32) (h0 : Heap) (n0 : Nat) (v : Option Value) (h : Heap) (L : List Loc) : Prop := ∃ vb : Addr, ∃ kb : ClassId, v = some (.ref vb) ∧ Fr n0 L ∧ Keep h0 h [] ∧ h0.size ≤ vb ∧ Arv Z h vb kb .byte (1 : Int32) [(.int y1)] (.int (0 : Int32))
abbrev R_rm25_3_2 : Room := ⟨1, 1, 1, 18⟩
set_option maxRecDepth 65536 in
set_option maxHeartbeats 40000000 in
theorem rm25_3_2 (l : Launch) (Z : State) (a0 : Array Value) (hw : ∀ d ∈ tables_1, d.before a0 Z = true) (ws : List Jvm.Cond) (a1 : Addr) (k1 : ClassId) (y0 : Int32) (y1 : Int32) (y2 : Int32) (h0 : Heap) (n0 : Nat) (Z0 : n0 ≤ h0.size) (V_a1 : Arv Z h0 a1 k1 .byte (3 : Int32) [(.int y0), (.int y1), (.int y2)] (.int (0 : Int32))) :
    MetFree l own_y24 (head1 (Jvm.Cond.code own_y24 jdk_65_method_133_code 5 (some (.array .byte)) :: ws) R_rm25_3_2) (fun a U => a = #[(.ref a1), (.int (1 : Int32)), (.int (2 : Int32))] ∧ Z.Warmed39 U.vm ∧ U.heap = h0) (fun _ _ _ _ _ => True) (fun _ U o U' => ∃ v L, o = .returned v ∧ Q_rm25_3_2 Z a1 k1 y0 y1 y2 h0 n0 v U'.heap L ∧ FrameEnd U o U' L R_rm25_3_2.cells R_rm25_3_2.slots) := by
  refine MetFree.of_bodySF (plainFor_of_name pn_Arrays) hisR ?_
  intro p e s m args below meth c s₁ Bd hml0 hP hK
  obtain ⟨rfl, hZ, hh⟩ := hP
  have hx := Bd.exec
  have hby := Bd.bytes
  have hml : c.maxLocals = 5 := hml0
  have hown : s.vm.findClass "java/util/Arrays" = some m.cls := findClass_of_methodNamed Bd.named
  have hnm := (name_of_methodNamed Bd.named Bd.method).1
  have X0 : Stand p l e R_rm25_3_2 s m #[(.ref a1), (.int (1 : Int32)), (.int (2 : Int32))] below meth c s₁ [] 0 0 := Stand.of_body Bd
  have e0 : s₁.heap = h0 := by rw [← hh, Bd.state]; rfl
  have N0 := Fr.nil n0
  show OGo p.tables e below (own_Kq s (fun v h L => Q_rm25_3_2 Z a1 k1 y0 y1 y2 h0 n0 v h L) R_rm25_3_2.cells R_rm25_3_2.slots) (s₁.setTop (entryFrame m #[(.ref a1), (.int (1 : Int32)), (.int (2 : Int32))] 5))
  refine OGo.cast (ef_rm25_3_2 m a1) ?_
  show OGo _ _ _ _ (s₁.setTop (mkF m 0 #[.val (.ref a1), .val (.int (1 : Int32)), .val (.int (2 : Int32)), .unset, .unset] []))
  refine OGo.via (fun _ k => XS.iloadN X0.here hx rfl (hb hby d25_0) rfl (XS.iloadN X0.here hx rfl (hb hby d25_1) rfl k)) ?_
  obtain ⟨_, T1, Lc1, X1, hQ1, st1⟩ := own_open X0 (Jvm.LawKit.callS X0 hx (y := own_y20) hown (mvT hZ (own_w hw 119 rfl)) (mvT hZ (own_w hw 120 rfl)) (mvT hZ (own_w hw 114 rfl)) (mvT hZ (own_w hw 121 rfl)) (by decide) (backOf (W := 0) (rm26 l Z a0 hw [] (1 : Int32) (2 : Int32) h0 n0 Z0 (by decide)) hZ (own_w hw 121 rfl) (own_w hw 114 rfl) (by decide) (by decide)) (g := (mkF m 2 #[.val (.ref a1), .val (.int (1 : Int32)), .val (.int (2 : Int32)), .unset, .unset] [(.int (2 : Int32)), (.int (1 : Int32))])) rfl (by rw [hml]; rfl) (argsL := [(.int (1 : Int32)), (.int (2 : Int32))]) (rest := []) (lenOf pd_8 rfl) rfl (by show 2 * 0 + _ ≤ _; exact Nat.le_of_eq rfl) (hb hby d25_2) (fun _ _ => ⟨rfl, e0, (by decide : 0 + 0 ≤ _), (by decide : 0 + 0 ≤ _)⟩))
  obtain ⟨rfl, N1q, r1_0⟩ := hQ1
  have N1 := Fr.app N0 N1q
  refine OGo.via st1 ?_
  show OGo _ _ _ _ (T1.setTop (mkF m 5 #[.val (.ref a1), .val (.int (1 : Int32)), .val (.int (2 : Int32)), .unset, .unset] []))
  refine OGo.via (fun _ k => XS.iloadN X1.here hx rfl (hb hby d25_5) rfl (XS.iloadN X1.here hx rfl (hb hby d25_6) rfl (XS.isub X1.here hx rfl (hb hby d25_7) rfl k))) ?_
  show OGo _ _ _ _ (T1.setTop (mkF m 8 #[.val (.ref a1), .val (.int (1 : Int32)), .val (.int (2 : Int32)), .unset, .unset] [(.int ((2 : Int32) - (1 : Int32)))]))
  rw [show ((2 : Int32) - (1 : Int32)) = (1 : Int32) from by decide]
  refine OGo.via (fun _ k => XS.istoreN X1.here hx rfl (hb hby d25_8) rfl (l' := #[.val (.ref a1), .val (.int (1 : Int32)), .val (.int (2 : Int32)), .val (.int (1 : Int32)), .unset]) rfl (XS.iloadN X1.here hx rfl (hb hby d25_9) rfl k)) ?_
  obtain ⟨T3, h3, ka3, X3, e3, E3, A3, Y3, st3⟩ := newPE (ad := "[B") X1 hx hZ (own_w hw 26 rfl) r1_0 (g := (mkF m 10 #[.val (.ref a1), .val (.int (1 : Int32)), .val (.int (2 : Int32)), .val (.int (1 : Int32)), .unset] [(.int (1 : Int32))])) rfl (hb hby d25_10) rfl (by decide) (cap := 1) (by decide) (by decide) (by decide) (by decide) (by decide)
  obtain ⟨b3, g3⟩ : ∃ z, z = h0.size := ⟨_, rfl⟩
  rw [← g3] at A3 Y3 st3
  refine OGo.via st3 ?_
  have K3 : Keep h0 h3 [] := (Keep.refl h0 []).ext E3
  have lt_a1_b3 : a1 < b3 := Nat.lt_of_lt_of_le V_a1.lt (Nat.le_of_eq g3.symm)
  have sz_b3 : h0.size ≤ b3 := Nat.le_trans (Keep.refl h0 []).1 (Nat.le_of_eq g3.symm)
  have g_b3 : n0 ≤ b3 := Nat.le_trans Z0 sz_b3
  have V3 : Arv Z h3 b3 ka3 .byte (1 : Int32) [(.int (0 : Int32))] (.int (0 : Int32)) := (Arv.new A3 (by decide)).pad (pad_rep [] (.int (0 : Int32)) 1)
  show OGo _ _ _ _ (T3.setTop (mkF m 12 #[.val (.ref a1), .val (.int (1 : Int32)), .val (.int (2 : Int32)), .val (.int (1 : Int32)), .unset] [(.ref b3)]))
  refine OGo.via (fun _ k => XS.astore X3.here hx rfl (hb hby d25_12) rfl rfl (l' := #[.val (.ref a1), .val (.int (1 : Int32)), .val (.int (2 : Int32)), .val (.int (1 : Int32)), .val (.ref b3)]) rfl (XS.aloadN X3.here hx rfl (hb hby d25_14) rfl rfl (XS.iloadN X3.here hx rfl (hb hby d25_15) rfl (XS.aload X3.here hx rfl (hb hby d25_16) rfl rfl (XS.iconst X3.here hx rfl (hb hby d25_18) (XS.aloadN X3.here hx rfl (hb hby d25_19) rfl rfl k)))))) ?_
  have f5 := V_a1.ext E3
  obtain ⟨cl4, Ar4, q4, Sz4, Ng4, Hs4, Gf4⟩ := id f5
  refine OGo.via (X3.arraylength hx (by rw [e3]; exact Ar4.1) (State.isArrayOf_alike hZ.alike Ar4.2.1) (g := (mkF m 20 #[.val (.ref a1), .val (.int (1 : Int32)), .val (.int (2 : Int32)), .val (.int (1 : Int32)), .val (.ref b3)] [(.ref a1), (.int (0 : Int32)), (.ref b3), (.int (1 : Int32)), (.ref a1)])) rfl rfl (hb hby d25_20)) ?_
  rw [len_of Sz4 Ng4]
  show OGo _ _ _ _ (T3.setTop (mkF m 21 #[.val (.ref a1), .val (.int (1 : Int32)), .val (.int (2 : Int32)), .val (.int (1 : Int32)), .val (.ref b3)] [(.int (3 : Int32)), (.int (0 : Int32)), (.ref b3), (.int (1 : Int32)), (.ref a1)]))
  refine OGo.via (fun _ k => XS.iloadN X3.here hx rfl (hb hby d25_21) rfl (XS.isub X3.here hx rfl (hb hby d25_22) rfl k)) ?_
  show OGo _ _ _ _ (T3.setTop (mkF m 23 #[.val (.ref a1), .val (.int (1 : Int32)), .val (.int (2 : Int32)), .val (.int (1 : Int32)), .val (.ref b3)] [(.int ((3 : Int32) - (1 : Int32))), (.int (0 : Int32)), (.ref b3), (.int (1 : Int32)), (.ref a1)]))
  rw [show ((3 : Int32) - (1 : Int32)) = (2 : Int32) from by decide]
  refine OGo.via (fun _ k => XS.iloadN X3.here hx rfl (hb hby d25_23) rfl k) ?_
  obtain ⟨_, T7, Lc7, X7, hQ7, st7⟩ := own_open X3 (Jvm.LawKit.callS X3 hx (y := own_y2) hown (mvT hZ (own_w hw 122 rfl)) (mvT hZ (own_w hw 85 rfl)) (mvT hZ (own_w hw 82 rfl)) (mvT hZ (own_w hw 86 rfl)) (by decide) (backOf (W := 4) (rm18 l Z a0 hw [] (2 : Int32) (1 : Int32) h3 n0 (Nat.le_trans Z0 K3.1)) hZ (own_w hw 86 rfl) (own_w hw 82 rfl) (by decide) (by decide)) (g := (mkF m 24 #[.val (.ref a1), .val (.int (1 : Int32)), .val (.int (2 : Int32)), .val (.int (1 : Int32)), .val (.ref b3)] [(.int (1 : Int32)), (.int (2 : Int32)), (.int (0 : Int32)), (.ref b3), (.int (1 : Int32)), (.ref a1)])) rfl (by rw [hml]; rfl) (argsL := [(.int (2 : Int32)), (.int (1 : Int32))]) (rest := [(.int (0 : Int32)), (.ref b3), (.int (1 : Int32)), (.ref a1)]) (lenOf pd_14 rfl) rfl (by show 2 * 0 + _ ≤ _; exact Nat.le_of_eq rfl) (hb hby d25_24) (fun _ _ => ⟨rfl, e3, (by decide : 1 + 0 ≤ _), (by decide : 1 + 0 ≤ _)⟩))
  obtain ⟨rfl, N7q, r7_0⟩ := hQ7
  have N7 := Fr.app N1 N7q
  refine OGo.via st7 ?_
  show OGo _ _ _ _ (T7.setTop (mkF m 27 #[.val (.ref a1), .val (.int (1 : Int32)), .val (.int (2 : Int32)), .val (.int (1 : Int32)), .val (.ref b3)] [(.int (if (1 : Int32) < (2 : Int32) then (1 : Int32) else (2 : Int32))), (.int (0 : Int32)), (.ref b3), (.int (1 : Int32)), (.ref a1)]))
  rw [show (if (1 : Int32) < (2 : Int32) then (1 : Int32) else (2 : Int32)) = (1 : Int32) from by decide]
  show OGo _ _ _ _ (T7.setTop (mkF m 27 #[.val (.ref a1), .val (.int (1 : Int32)), .val (.int (2 : Int32)), .val (.int (1 : Int32)), .val (.ref b3)] [(.int (1 : Int32)), (.int (0 : Int32)), (.ref b3), (.int (1 : Int32)), (.ref a1)]))
  obtain ⟨T8, h8, Lc8, X8, e8, N8, Kp8, V8, st8⟩ := cpA X7 hx hZ hown (own_w hw 123 rfl) (own_w hw 126 rfl) (own_w hw 124 rfl) (own_w hw 125 rfl) r7_0 (us := [(.int y1)]) f5 V3 (Or.inl ⟨rfl, rfl⟩) (by decide) (by decide) (by decide) (by decide) (by decide) rfl (Nat.le_of_ble_eq_true rfl) N7 g_b3 (g := (mkF m 27 #[.val (.ref a1), .val (.int (1 : Int32)), .val (.int (2 : Int32)), .val (.int (1 : Int32)), .val (.ref b3)] [(.int (1 : Int32)), (.int (0 : Int32)), (.ref b3), (.int (1 : Int32)), (.ref a1)])) rfl (by rw [hml]; rfl) rfl (hb hby d25_27) (by decide) (W := 0) (by show 2 * 0 + _ ≤ _; exact Nat.le_of_eq rfl) (by decide)
  refine OGo.via st8 ?_
  have Vc8 : Arv Z h8 b3 ka3 .byte (1 : Int32) [(.int y1)] (.int (0 : Int32)) := V8
  have K8 : Keep h0 h8 [] := K3.trans Kp8 (allS (Or.inr sz_b3) all0)
  show OGo _ _ _ _ (T8.setTop (mkF m 30 #[.val (.ref a1), .val (.int (1 : Int32)), .val (.int (2 : Int32)), .val (.int (1 : Int32)), .val (.ref b3)] []))
  refine OGo.via (fun _ k => XS.aload X8.here hx rfl (hb hby d25_30) rfl rfl k) ?_
  show OGo _ _ _ _ (T8.setTop (mkF m 32 #[.val (.ref a1), .val (.int (1 : Int32)), .val (.int (2 : Int32)), .val (.int (1 : Int32)), .val (.ref b3)] [(.ref b3)]))
  refine own_retA X8 hx Bd.notSynchronized Bd.returns rfl rfl (hb hby d25_32) (by decide) (by decide) ?_
  show Q_rm25_3_2 Z _ _ _ _ _ h0 n0 _ T8.heap _
  rw [e8]
  exact ⟨b3, ka3, rfl, N8, K8, sz_b3, Vc8⟩
theorem ef_rm24_3_2 (m : MethodId) (a1 : Addr) : entryFrame m #[(.ref a1), (.int (1 : Int32)), (.int (2 : Int32))] 3 = mkF m 0 #[.val (.ref a1), .val (.int (1 : Int32)), .val (.int (2 : Int32))] [] := by
  first | (simp [entryFrame, mkF, argsToLocals, Value.category]; done) | rfl
def Q_rm24_3_2 (Z : State) (a1 : Addr) (k1 : ClassId) (y0 : Int32) (y1 : Int32) (y2 : Int32) (h0 : Heap) (n0 : Nat) (v : Option Value) (h : Heap) (L : List Loc) : Prop := ∃ vb : Addr, ∃ kb : ClassId, v = some (.ref vb) ∧ Fr n0 L ∧ Keep h0 h [] ∧ h0.size ≤ vb ∧ Arv Z h vb kb .byte (1 : Int32) [(.int y1)] (.int (0 : Int32))
abbrev R_rm24_3_2 : Room := ⟨2, 1, 1, 34⟩
set_option maxRecDepth 65536 in
set_option maxHeartbeats 40000000 in
theorem rm24_3_2 (l : Launch) (Z : State) (a0 : Array Value) (hw : ∀ d ∈ tables_1, d.before a0 Z = true) (ws : List Jvm.Cond) (a1 : Addr) (k1 : ClassId) (y0 : Int32) (y1 : Int32) (y2 : Int32) (h0 : Heap) (n0 : Nat) (Z0 : n0 ≤ h0.size) (V_a1 : Arv Z h0 a1 k1 .byte (3 : Int32) [(.int y0), (.int y1), (.int y2)] (.int (0 : Int32))) :
    MetFree l own_y25 (head1 (Jvm.Cond.code own_y25 jdk_65_method_132_code 3 (some (.array .byte)) :: ws) R_rm24_3_2) (fun a U => a = #[(.ref a1), (.int (1 : Int32)), (.int (2 : Int32))] ∧ Z.Warmed39 U.vm ∧ U.heap = h0) (fun _ _ _ _ _ => True) (fun _ U o U' => ∃ v L, o = .returned v ∧ Q_rm24_3_2 Z a1 k1 y0 y1 y2 h0 n0 v U'.heap L ∧ FrameEnd U o U' L R_rm24_3_2.cells R_rm24_3_2.slots) := by
  refine MetFree.of_bodySF (plainFor_of_name pn_Arrays) hisR ?_
  intro p e s m args below meth c s₁ Bd hml0 hP hK
  obtain ⟨rfl, hZ, hh⟩ := hP
  have hx := Bd.exec
  have hby := Bd.bytes
  have hml : c.maxLocals = 3 := hml0
  have hown : s.vm.findClass "java/util/Arrays" = some m.cls := findClass_of_methodNamed Bd.named
  have hnm := (name_of_methodNamed Bd.named Bd.method).1
  have X0 : Stand p l e R_rm24_3_2 s m #[(.ref a1), (.int (1 : Int32)), (.int (2 : Int32))] below meth c s₁ [] 0 0 := Stand.of_body Bd
  have e0 : s₁.heap = h0 := by rw [← hh, Bd.state]; rfl
  have N0 := Fr.nil n0
  show OGo p.tables e below (own_Kq s (fun v h L => Q_rm24_3_2 Z a1 k1 y0 y1 y2 h0 n0 v h L) R_rm24_3_2.cells R_rm24_3_2.slots) (s₁.setTop (entryFrame m #[(.ref a1), (.int (1 : Int32)), (.int (2 : Int32))] 3))
  refine OGo.cast (ef_rm24_3_2 m a1) ?_
  show OGo _ _ _ _ (s₁.setTop (mkF m 0 #[.val (.ref a1), .val (.int (1 : Int32)), .val (.int (2 : Int32))] []))
  refine OGo.via (fun _ k => XS.iloadN X0.here hx rfl (hb hby d24_0) rfl (XS.ifYes X0.here hx rfl (pc0 := 1) (pc' := 10) rfl (hb hby d24_1) rfl ((if0 _ _).trans (feq (by decide : ¬ ((1 : Int32) = (0 : Int32)))).2) (by decide) (by decide) (XS.aloadN X0.here hx rfl (hb hby d24_10) rfl rfl (XS.iloadN X0.here hx rfl (hb hby d24_11) rfl (XS.iloadN X0.here hx rfl (hb hby d24_12) rfl k))))) ?_
  obtain ⟨_, T1, Lc1, X1, hQ1, st1⟩ := own_open X0 (Jvm.LawKit.callS X0 hx (y := own_y24) hown (mvT hZ (own_w hw 116 rfl)) (mvT hZ (own_w hw 117 rfl)) (mvT hZ (own_w hw 114 rfl)) (mvT hZ (own_w hw 118 rfl)) (by decide) (backOf (W := 0) (rm25_3_2 l Z a0 hw [] a1 k1 y0 y1 y2 h0 n0 Z0 V_a1) hZ (own_w hw 118 rfl) (own_w hw 114 rfl) (by decide) (by decide)) (g := (mkF m 13 #[.val (.ref a1), .val (.int (1 : Int32)), .val (.int (2 : Int32))] [(.int (2 : Int32)), (.int (1 : Int32)), (.ref a1)])) rfl (by rw [hml]; rfl) (argsL := [(.ref a1), (.int (1 : Int32)), (.int (2 : Int32))]) (rest := []) (lenOf pd_15 rfl) rfl (by show 2 * 0 + _ ≤ _; exact Nat.le_of_eq rfl) (hb hby d24_13) (fun _ _ => ⟨rfl, e0, (by decide : 0 + 1 ≤ _), (by decide : 0 + 1 ≤ _)⟩))
  obtain ⟨vb, kb, rfl, N1q, r1_0, r1_1, r1_2⟩ := hQ1
  have N1 := Fr.app N0 N1q
  have K1 : Keep h0 T1.heap [] := (Keep.refl h0 []).trans r1_0 all0
  have lt_a1_vb : a1 < vb := Nat.lt_of_lt_of_le V_a1.lt r1_1
  have sz_vb : h0.size ≤ vb := Nat.le_trans (Keep.refl h0 []).1 r1_1
  have g_vb : n0 ≤ vb := Nat.le_trans Z0 sz_vb
  refine OGo.via st1 ?_
  show OGo _ _ _ _ (T1.setTop (mkF m 16 #[.val (.ref a1), .val (.int (1 : Int32)), .val (.int (2 : Int32))] [(.ref vb)]))
  show OGo _ _ _ _ (T1.setTop (mkF m 16 #[.val (.ref a1), .val (.int (1 : Int32)), .val (.int (2 : Int32))] [(.ref vb)]))
  refine own_retA X1 hx Bd.notSynchronized Bd.returns rfl rfl (hb hby d24_16) (by decide) (by decide) ?_
  show Q_rm24_3_2 Z _ _ _ _ _ h0 n0 _ T1.heap _
  exact ⟨vb, kb, rfl, N1, K1, sz_vb, r1_2⟩
theorem ef_rm22_3_2 (m : MethodId) (a1 : Addr) : entryFrame m #[(.ref a1), (.int (1 : Int32)), (.int (1 : Int32))] 3 = mkF m 0 #[.val (.ref a1), .val (.int (1 : Int32)), .val (.int (1 : Int32))] [] := by
  first | (simp [entryFrame, mkF, argsToLocals, Value.category]; done) | rfl
def Q_rm22_3_2 (Z : State) (a1 : Addr) (k1 : ClassId) (y0 : Int32) (y1 : Int32) (y2 : Int32) (w : Int32) (fm : Value) (h0 : Heap) (n0 : Nat) (v : Option Value) (h : Heap) (L : List Loc) : Prop := ∃ rr : Addr, ∃ vb : Addr, ∃ kb : ClassId, v = some (.ref rr) ∧ Fr n0 L ∧ Keep h0 h [] ∧ Exa Z h rr "java/lang/String" ∧ Fld Z h rr "java/lang/String" "value" "[B" (.ref vb) ∧ Fld Z h rr "java/lang/String" "coder" "B" (.int (0 : Int32)) ∧ Arv Z h vb kb .byte (1 : Int32) [(.int y1)] (.int (0 : Int32))
abbrev R_rm22_3_2 : Room := ⟨3, 2, 5, 50⟩
set_option maxRecDepth 65536 in
set_option maxHeartbeats 40000000 in
theorem rm22_3_2 (l : Launch) (Z : State) (a0 : Array Value) (hw : ∀ d ∈ tables_1, d.before a0 Z = true) (ws : List Jvm.Cond) (a1 : Addr) (k1 : ClassId) (y0 : Int32) (y1 : Int32) (y2 : Int32) (w : Int32) (fm : Value) (h0 : Heap) (n0 : Nat) (Z0 : n0 ≤ h0.size) (V_a1 : Arv Z h0 a1 k1 .byte (3 : Int32) [(.int y0), (.int y1), (.int y2)] (.int (0 : Int32))) (S_COMPACT_STRINGS : Sta Z h0 "java/lang/String" "COMPACT_STRINGS" "Z" (.int w)) (S_SIOOBE_FORMATTER : Sta Z h0 "jdk/internal/util/Preconditions" "SIOOBE_FORMATTER" "Ljava/util/function/BiFunction;" fm) :
    MetFree l own_y22 (head1 (Jvm.Cond.code own_y22 jdk_43_method_47_code 3 (some (.object "java/lang/String")) :: ws) R_rm22_3_2) (fun a U => a = #[(.ref a1), (.int (1 : Int32)), (.int (1 : Int32))] ∧ Z.Warmed39 U.vm ∧ U.heap = h0) (fun _ _ _ _ _ => True) (fun _ U o U' => ∃ v L, o = .returned v ∧ Q_rm22_3_2 Z a1 k1 y0 y1 y2 w fm h0 n0 v U'.heap L ∧ FrameEnd U o U' L R_rm22_3_2.cells R_rm22_3_2.slots) := by
  refine MetFree.of_bodySF (plainFor_of_name pn_StringLatin1) hisR ?_
  intro p e s m args below meth c s₁ Bd hml0 hP hK
  obtain ⟨rfl, hZ, hh⟩ := hP
  have hx := Bd.exec
  have hby := Bd.bytes
  have hml : c.maxLocals = 3 := hml0
  have hown : s.vm.findClass "java/lang/StringLatin1" = some m.cls := findClass_of_methodNamed Bd.named
  have hnm := (name_of_methodNamed Bd.named Bd.method).1
  have X0 : Stand p l e R_rm22_3_2 s m #[(.ref a1), (.int (1 : Int32)), (.int (1 : Int32))] below meth c s₁ [] 0 0 := Stand.of_body Bd
  have e0 : s₁.heap = h0 := by rw [← hh, Bd.state]; rfl
  have N0 := Fr.nil n0
  show OGo p.tables e below (own_Kq s (fun v h L => Q_rm22_3_2 Z a1 k1 y0 y1 y2 w fm h0 n0 v h L) R_rm22_3_2.cells R_rm22_3_2.slots) (s₁.setTop (entryFrame m #[(.ref a1), (.int (1 : Int32)), (.int (1 : Int32))] 3))
  refine OGo.cast (ef_rm22_3_2 m a1) ?_
  show OGo _ _ _ _ (s₁.setTop (mkF m 0 #[.val (.ref a1), .val (.int (1 : Int32)), .val (.int (1 : Int32))] []))
  refine OGo.via (fun _ k => XS.iloadN X0.here hx rfl (hb hby d22_0) rfl (XS.ifYes X0.here hx rfl (pc0 := 1) (pc' := 7) rfl (hb hby d22_1) rfl ((if0 _ _).trans (feq (by decide : ¬ ((1 : Int32) = (0 : Int32)))).2) (by decide) (by decide) k)) ?_
  obtain ⟨T1, h1, X1, e1, E1, A1, D1, -, st1⟩ := newO X0 hx hZ hown (own_w hw 111 rfl) (own_w hw 9 rfl) (own_w hw 10 rfl) e0 (g := (mkF m 7 #[.val (.ref a1), .val (.int (1 : Int32)), .val (.int (1 : Int32))] [])) rfl (hb hby d22_7) (by decide) (by decide)
  obtain ⟨b1, g1⟩ : ∃ z, z = h0.size := ⟨_, rfl⟩
  rw [← g1] at A1 D1 st1
  refine OGo.via st1 ?_
  have K1 : Keep h0 h1 [] := (Keep.refl h0 []).ext E1
  have lt_a1_b1 : a1 < b1 := Nat.lt_of_lt_of_le V_a1.lt (Nat.le_of_eq g1.symm)
  have sz_b1 : h0.size ≤ b1 := Nat.le_trans (Keep.refl h0 []).1 (Nat.le_of_eq g1.symm)
  have g_b1 : n0 ≤ b1 := Nat.le_trans Z0 sz_b1
  have F1_coder : Fld Z h1 b1 "java/lang/String" "coder" "B" (.int (0 : Int32)) := D1 (Or.inr (own_w hw 34 rfl)) (ty := .byte) (by decide)
  have F1_value : Fld Z h1 b1 "java/lang/String" "value" "[B" .null := D1 (Or.inr (own_w hw 36 rfl)) (ty := (.array .byte)) (by decide)
  show OGo _ _ _ _ (T1.setTop (mkF m 10 #[.val (.ref a1), .val (.int (1 : Int32)), .val (.int (1 : Int32))] [(.ref b1)]))
  refine OGo.via (fun _ k => XS.dup X1.here hx rfl (hb hby d22_10) rfl rfl (XS.aloadN X1.here hx rfl (hb hby d22_11) rfl rfl (XS.iloadN X1.here hx rfl (hb hby d22_12) rfl (XS.iloadN X1.here hx rfl (hb hby d22_13) rfl (XS.iloadN X1.here hx rfl (hb hby d22_14) rfl (XS.iadd X1.here hx rfl (hb hby d22_15) rfl k)))))) ?_
  show OGo _ _ _ _ (T1.setTop (mkF m 16 #[.val (.ref a1), .val (.int (1 : Int32)), .val (.int (1 : Int32))] [(.int ((1 : Int32) + (1 : Int32))), (.int (1 : Int32)), (.ref a1), (.ref b1), (.ref b1)]))
  rw [show ((1 : Int32) + (1 : Int32)) = (2 : Int32) from by decide]
  have f4 := V_a1.ext E1
  obtain ⟨_, T3, Lc3, X3, hQ3, st3⟩ := own_open X1 (Jvm.LawKit.callS X1 hx (y := own_y25) hown (mvT hZ (own_w hw 112 rfl)) (mvT hZ (own_w hw 113 rfl)) (mvT hZ (own_w hw 114 rfl)) (mvT hZ (own_w hw 115 rfl)) (by decide) (backOf (W := 2) (rm24_3_2 l Z a0 hw [] a1 k1 y0 y1 y2 h1 n0 (Nat.le_trans Z0 K1.1) f4) hZ (own_w hw 115 rfl) (own_w hw 114 rfl) (by decide) (by decide)) (g := (mkF m 16 #[.val (.ref a1), .val (.int (1 : Int32)), .val (.int (1 : Int32))] [(.int (2 : Int32)), (.int (1 : Int32)), (.ref a1), (.ref b1), (.ref b1)])) rfl (by rw [hml]; rfl) (argsL := [(.ref a1), (.int (1 : Int32)), (.int (2 : Int32))]) (rest := [(.ref b1), (.ref b1)]) (lenOf pd_15 rfl) rfl (by show 2 * 0 + _ ≤ _; exact Nat.le_of_eq rfl) (hb hby d22_16) (fun _ _ => ⟨rfl, e1, (by decide : 1 + 1 ≤ _), (by decide : 4 + 1 ≤ _)⟩))
  obtain ⟨vb, kb, rfl, N3q, r3_0, r3_1, r3_2⟩ := hQ3
  have N3 := Fr.app N0 N3q
  have K3 : Keep h0 T3.heap [] := K1.trans r3_0 all0
  have lt_a1_vb : a1 < vb := Nat.lt_of_lt_of_le f4.lt r3_1
  have lt_b1_vb : b1 < vb := Nat.lt_of_lt_of_le A1.lt r3_1
  have sz_vb : h0.size ≤ vb := Nat.le_trans K1.1 r3_1
  have g_vb : n0 ≤ vb := Nat.le_trans Z0 sz_vb
  refine OGo.via st3 ?_
  show OGo _ _ _ _ (T3.setTop (mkF m 19 #[.val (.ref a1), .val (.int (1 : Int32)), .val (.int (1 : Int32))] [(.ref vb), (.ref b1), (.ref b1)]))
  refine OGo.via (fun _ k => XS.iconst X3.here hx rfl (hb hby d22_19) k) ?_
  have f6 := A1.keep r3_0
  have f7 := F1_value.keep r3_0 nin0
  have f8 := F1_coder.keep r3_0 nin0
  have f9 := own_staKeep0 S_COMPACT_STRINGS K3
  have f10 := own_staKeep0 S_SIOOBE_FORMATTER K3
  obtain ⟨_, T5, Lc5, X5, hQ5, st5⟩ := own_open X3 (X3.specialBack hx (y := own_y21) rfl hown (mvT hZ (own_w hw 127 rfl)) (mvT hZ (own_w hw 128 rfl)) (mvT hZ (own_w hw 129 rfl)) (by decide) (backOf (W := 1) (rm27 l Z a0 hw [] b1 vb w fm T3.heap n0 (Nat.le_trans Z0 K3.1) f6 f7 f8 g_b1 f9 f10) hZ (own_w hw 129 rfl) (own_w hw 10 rfl) (by decide) (by decide)) (g := (mkF m 20 #[.val (.ref a1), .val (.int (1 : Int32)), .val (.int (1 : Int32))] [(.int (0 : Int32)), (.ref vb), (.ref b1), (.ref b1)])) rfl (by rw [hml]; rfl) (Steps.refl _) (a := b1) (argsL := [(.ref vb), (.int (0 : Int32))]) (rest := [(.ref b1)]) (lenOf pd_16 rfl) rfl (by show 2 * 0 + _ ≤ _; exact Nat.le_of_eq rfl) (hb hby d22_20) (fun _ _ => ⟨rfl, rfl, (by decide : 2 + 0 ≤ _), (by decide : 5 + 0 ≤ _)⟩))
  obtain ⟨rfl, N5q, r5_0, r5_1, r5_2, r5_3, r5_4, r5_5⟩ := hQ5
  have N5 := Fr.app N3 N5q
  have K5 : Keep h0 T5.heap [] := K3.trans r5_0 (allS (Or.inr sz_b1) all0)
  refine OGo.via (fun _ k => st5.trans k) ?_
  show OGo _ _ _ _ (T5.setTop (mkF m 23 #[.val (.ref a1), .val (.int (1 : Int32)), .val (.int (1 : Int32))] [(.ref b1)]))
  show OGo _ _ _ _ (T5.setTop (mkF m 23 #[.val (.ref a1), .val (.int (1 : Int32)), .val (.int (1 : Int32))] [(.ref b1)]))
  have f11 := r3_2.keep r5_0 (ninS (Nat.ne_of_gt lt_b1_vb) nin0)
  refine own_retA X5 hx Bd.notSynchronized Bd.returns rfl rfl (hb hby d22_23) (by decide) (by decide) ?_
  show Q_rm22_3_2 Z _ _ _ _ _ _ _ h0 n0 _ T5.heap _
  exact ⟨b1, vb, kb, rfl, N5, K5, r5_1, r5_2, r5_3, f11⟩
theorem ef_rm19_3_2 (m : MethodId) (a1 : Addr) : entryFrame m #[(.ref a1), (.int (1 : Int32)), (.int (2 : Int32))] 5 = mkF m 0 #[.val (.ref a1), .val (.int (1 : Int32)), .val (.int (2 : Int32)), .unset, .unset] [] := by
  first | (simp [entryFrame, mkF, argsToLocals, Value.category]; done) | rfl
def Q_rm19_3_2 (Z : State) (a1 : Addr) (w : Int32) (fm : Value) (va : Addr) (k1 : ClassId) (y0 : Int32) (y1 : Int32) (y2 : Int32) (h0 : Heap) (n0 : Nat) (v : Option Value) (h : Heap) (L : List Loc) : Prop := ∃ rr : Addr, ∃ vb : Addr, ∃ kb : ClassId, v = some (.ref rr) ∧ Fr n0 L ∧ Keep h0 h [] ∧ Exa Z h rr "java/lang/String" ∧ Fld Z h rr "java/lang/String" "value" "[B" (.ref vb) ∧ Fld Z h rr "java/lang/String" "coder" "B" (.int (0 : Int32)) ∧ Arv Z h vb kb .byte (1 : Int32) [(.int y1)] (.int (0 : Int32))
abbrev R_rm19_3_2 : Room := ⟨4, 2, 5, 64⟩
set_option maxRecDepth 65536 in
set_option maxHeartbeats 40000000 in
theorem rm19_3_2 (l : Launch) (Z : State) (a0 : Array Value) (hw : ∀ d ∈ tables_1, d.before a0 Z = true) (ws : List Jvm.Cond) (a1 : Addr) (w : Int32) (fm : Value) (va : Addr) (k1 : ClassId) (y0 : Int32) (y1 : Int32) (y2 : Int32) (h0 : Heap) (n0 : Nat) (Z0 : n0 ≤ h0.size) (E_a1 : Exa Z h0 a1 "java/lang/String") (F_value_a1 : Fld Z h0 a1 "java/lang/String" "value" "[B" (.ref va)) (F_coder_a1 : Fld Z h0 a1 "java/lang/String" "coder" "B" (.int (0 : Int32))) (V_va : Arv Z h0 va k1 .byte (3 : Int32) [(.int y0), (.int y1), (.int y2)] (.int (0 : Int32))) (S_COMPACT_STRINGS : Sta Z h0 "java/lang/String" "COMPACT_STRINGS" "Z" (.int w)) (S_SIOOBE_FORMATTER : Sta Z h0 "jdk/internal/util/Preconditions" "SIOOBE_FORMATTER" "Ljava/util/function/BiFunction;" fm) (hw0 : ¬ w = (0 : Int32)) (hr_fm : fm.isRef = true) :
    MetFree l own_y23 (head1 (Jvm.Cond.code own_y23 jdk_42_method_92_code 5 (some (.object "java/lang/String")) :: ws) R_rm19_3_2) (fun a U => a = #[(.ref a1), (.int (1 : Int32)), (.int (2 : Int32))] ∧ Z.Warmed39 U.vm ∧ U.heap = h0) (fun _ _ _ _ _ => True) (fun _ U o U' => ∃ v L, o = .returned v ∧ Q_rm19_3_2 Z a1 w fm va k1 y0 y1 y2 h0 n0 v U'.heap L ∧ FrameEnd U o U' L R_rm19_3_2.cells R_rm19_3_2.slots) := by
  refine MetFree.of_bodySF (plainFor_of_name pn_String) hisR ?_
  intro p e s m args below meth c s₁ Bd hml0 hP hK
  obtain ⟨rfl, hZ, hh⟩ := hP
  have hx := Bd.exec
  have hby := Bd.bytes
  have hml : c.maxLocals = 5 := hml0
  have hown : s.vm.findClass "java/lang/String" = some m.cls := findClass_of_methodNamed Bd.named
  have hnm := (name_of_methodNamed Bd.named Bd.method).1
  have X0 : Stand p l e R_rm19_3_2 s m #[(.ref a1), (.int (1 : Int32)), (.int (2 : Int32))] below meth c s₁ [] 0 0 := Stand.of_body Bd
  have e0 : s₁.heap = h0 := by rw [← hh, Bd.state]; rfl
  have N0 := Fr.nil n0
  show OGo p.tables e below (own_Kq s (fun v h L => Q_rm19_3_2 Z a1 w fm va k1 y0 y1 y2 h0 n0 v h L) R_rm19_3_2.cells R_rm19_3_2.slots) (s₁.setTop (entryFrame m #[(.ref a1), (.int (1 : Int32)), (.int (2 : Int32))] 5))
  refine OGo.cast (ef_rm19_3_2 m a1) ?_
  show OGo _ _ _ _ (s₁.setTop (mkF m 0 #[.val (.ref a1), .val (.int (1 : Int32)), .val (.int (2 : Int32)), .unset, .unset] []))
  refine OGo.via (fun _ k => XS.aloadN X0.here hx rfl (hb hby d19_0) rfl rfl k) ?_
  obtain ⟨cq1, kq1, q1a, q1b, q1c⟩ := isOf hZ e0 E_a1
  obtain ⟨_, T1, Lc1, X1, hQ1, st1⟩ := own_open X0 (X0.virtualBack hx (y := own_y6) (z := own_y6) hown (mvT hZ (own_w hw 63 rfl)) (mvT hZ (own_w hw 64 rfl)) (notFace_of_selects (args := #[]) (mvT hZ (own_w hw 66 rfl))) (mvT hZ (own_w hw 66 rfl)) (mvT hZ (own_w hw 65 rfl)) (by decide) (backOf (W := 0) (rm13 l Z a0 hw [] a1 w va k1 [(.int y0), (.int y1), (.int y2)] (3 : Int32) h0 n0 Z0 E_a1 F_value_a1 F_coder_a1 V_va S_COMPACT_STRINGS hw0) hZ (own_w hw 67 rfl) (own_w hw 10 rfl) (by decide) (by decide)) q1a q1c (g := (mkF m 1 #[.val (.ref a1), .val (.int (1 : Int32)), .val (.int (2 : Int32)), .unset, .unset] [(.ref a1)])) rfl (by rw [hml]; rfl) (Steps.refl _) (argsL := []) (rest := []) (lenOf pd_11 rfl) rfl (by show 2 * 0 + _ ≤ _; exact Nat.le_of_eq rfl) (hb hby d19_1) (fun _ _ => ⟨rfl, e0, (by decide : 0 + 0 ≤ _), (by decide : 0 + 0 ≤ _)⟩))
  obtain ⟨rfl, N1q, r1_0⟩ := hQ1
  have N1 := Fr.app N0 N1q
  refine OGo.via (fun _ k => st1.trans k) ?_
  show OGo _ _ _ _ (T1.setTop (mkF m 4 #[.val (.ref a1), .val (.int (1 : Int32)), .val (.int (2 : Int32)), .unset, .unset] [(.int (3 : Int32))]))
  refine OGo.via (fun _ k => XS.istoreN X1.here hx rfl (hb hby d19_4) rfl (l' := #[.val (.ref a1), .val (.int (1 : Int32)), .val (.int (2 : Int32)), .val (.int (3 : Int32)), .unset]) rfl (XS.iloadN X1.here hx rfl (hb hby d19_5) rfl (XS.iloadN X1.here hx rfl (hb hby d19_6) rfl (XS.iloadN X1.here hx rfl (hb hby d19_7) rfl k)))) ?_
  obtain ⟨_, T2, Lc2, X2, hQ2, st2⟩ := own_open X1 (Jvm.LawKit.callS X1 hx (y := own_y15) hown (mvT hZ (own_w hw 93 rfl)) (mvT hZ (own_w hw 94 rfl)) (mvT hZ (own_w hw 10 rfl)) (mvT hZ (own_w hw 95 rfl)) (by decide) (backOf (W := 0) (rm20 l Z a0 hw [] (1 : Int32) (2 : Int32) (3 : Int32) fm h0 n0 Z0 S_SIOOBE_FORMATTER (by decide) (by decide) (by decide) hr_fm) hZ (own_w hw 95 rfl) (own_w hw 10 rfl) (by decide) (by decide)) (g := (mkF m 8 #[.val (.ref a1), .val (.int (1 : Int32)), .val (.int (2 : Int32)), .val (.int (3 : Int32)), .unset] [(.int (3 : Int32)), (.int (2 : Int32)), (.int (1 : Int32))])) rfl (by rw [hml]; rfl) (argsL := [(.int (1 : Int32)), (.int (2 : Int32)), (.int (3 : Int32))]) (rest := []) (lenOf pd_12 rfl) rfl (by show 2 * 0 + _ ≤ _; exact Nat.le_of_eq rfl) (hb hby d19_8) (fun _ _ => ⟨rfl, r1_0, (by decide : 0 + 0 ≤ _), (by decide : 0 + 0 ≤ _)⟩))
  obtain ⟨rfl, N2q, r2_0⟩ := hQ2
  have N2 := Fr.app N1 N2q
  refine OGo.via st2 ?_
  show OGo _ _ _ _ (T2.setTop (mkF m 11 #[.val (.ref a1), .val (.int (1 : Int32)), .val (.int (2 : Int32)), .val (.int (3 : Int32)), .unset] []))
  refine OGo.via (fun _ k => XS.iloadN X2.here hx rfl (hb hby d19_11) rfl (XS.ifYes X2.here hx rfl (pc0 := 12) (pc' := 22) rfl (hb hby d19_12) rfl ((if0 _ _).trans (feq (by decide : ¬ ((1 : Int32) = (0 : Int32)))).2) (by decide) (by decide) (XS.iloadN X2.here hx rfl (hb hby d19_22) rfl (XS.iloadN X2.here hx rfl (hb hby d19_23) rfl (XS.isub X2.here hx rfl (hb hby d19_24) rfl k))))) ?_
  show OGo _ _ _ _ (T2.setTop (mkF m 25 #[.val (.ref a1), .val (.int (1 : Int32)), .val (.int (2 : Int32)), .val (.int (3 : Int32)), .unset] [(.int ((2 : Int32) - (1 : Int32)))]))
  rw [show ((2 : Int32) - (1 : Int32)) = (1 : Int32) from by decide]
  refine OGo.via (fun _ k => XS.istore X2.here hx rfl (hb hby d19_25) rfl (l' := #[.val (.ref a1), .val (.int (1 : Int32)), .val (.int (2 : Int32)), .val (.int (3 : Int32)), .val (.int (1 : Int32))]) rfl (XS.aloadN X2.here hx rfl (hb hby d19_27) rfl rfl k)) ?_
  obtain ⟨cq4, kq4, q4a, q4b, q4c⟩ := isOf hZ r2_0 E_a1
  obtain ⟨_, T4, Lc4, X4, hQ4, st4⟩ := own_open X2 (X2.virtualBack hx (y := own_y5) (z := own_y5) hown (mvT hZ (own_w hw 58 rfl)) (mvT hZ (own_w hw 59 rfl)) (notFace_of_selects (args := #[]) (mvT hZ (own_w hw 61 rfl))) (mvT hZ (own_w hw 61 rfl)) (mvT hZ (own_w hw 60 rfl)) (by decide) (backOf (W := 0) (rm12 l Z a0 hw [] a1 w va h0 n0 Z0 E_a1 F_value_a1 F_coder_a1 S_COMPACT_STRINGS hw0) hZ (own_w hw 62 rfl) (own_w hw 10 rfl) (by decide) (by decide)) q4a q4c (g := (mkF m 28 #[.val (.ref a1), .val (.int (1 : Int32)), .val (.int (2 : Int32)), .val (.int (3 : Int32)), .val (.int (1 : Int32))] [(.ref a1)])) rfl (by rw [hml]; rfl) (Steps.refl _) (argsL := []) (rest := []) (lenOf pd_9 rfl) rfl (by show 2 * 0 + _ ≤ _; exact Nat.le_of_eq rfl) (hb hby d19_28) (fun _ _ => ⟨rfl, r2_0, (by decide : 0 + 0 ≤ _), (by decide : 0 + 0 ≤ _)⟩))
  obtain ⟨rfl, N4q, r4_0⟩ := hQ4
  have N4 := Fr.app N2 N4q
  refine OGo.via (fun _ k => st4.trans k) ?_
  show OGo _ _ _ _ (T4.setTop (mkF m 31 #[.val (.ref a1), .val (.int (1 : Int32)), .val (.int (2 : Int32)), .val (.int (3 : Int32)), .val (.int (1 : Int32))] [(.int (1 : Int32))]))
  refine OGo.via (fun _ k => XS.ifNo X4.here hx rfl (hb hby d19_31) rfl ((if0 _ _).trans (feq (by decide : ¬ ((1 : Int32) = (0 : Int32)))).1) (XS.aloadN X4.here hx rfl (hb hby d19_34) rfl rfl k)) ?_
  obtain ⟨T5, X5, e5, st5⟩ := getF X4 hx hZ hown (host := "") (Or.inl (own_w hw 35 rfl)) Via.refl r4_0 F_value_a1 (g := (mkF m 35 #[.val (.ref a1), .val (.int (1 : Int32)), .val (.int (2 : Int32)), .val (.int (3 : Int32)), .val (.int (1 : Int32))] [(.ref a1)])) rfl rfl (hb hby d19_35)
  refine OGo.via st5 ?_
  show OGo _ _ _ _ (T5.setTop (mkF m 38 #[.val (.ref a1), .val (.int (1 : Int32)), .val (.int (2 : Int32)), .val (.int (3 : Int32)), .val (.int (1 : Int32))] [(.ref va)]))
  refine OGo.via (fun _ k => XS.iloadN X5.here hx rfl (hb hby d19_38) rfl (XS.iload X5.here hx rfl (hb hby d19_39) rfl k)) ?_
  obtain ⟨_, T6, Lc6, X6, hQ6, st6⟩ := own_open X5 (Jvm.LawKit.callS X5 hx (y := own_y22) hown (mvT hZ (own_w hw 101 rfl)) (mvT hZ (own_w hw 102 rfl)) (mvT hZ (own_w hw 75 rfl)) (mvT hZ (own_w hw 103 rfl)) (by decide) (backOf (W := 0) (rm22_3_2 l Z a0 hw [] va k1 y0 y1 y2 w fm h0 n0 Z0 V_va S_COMPACT_STRINGS S_SIOOBE_FORMATTER) hZ (own_w hw 103 rfl) (own_w hw 75 rfl) (by decide) (by decide)) (g := (mkF m 41 #[.val (.ref a1), .val (.int (1 : Int32)), .val (.int (2 : Int32)), .val (.int (3 : Int32)), .val (.int (1 : Int32))] [(.int (1 : Int32)), (.int (1 : Int32)), (.ref va)])) rfl (by rw [hml]; rfl) (argsL := [(.ref va), (.int (1 : Int32)), (.int (1 : Int32))]) (rest := []) (lenOf pd_13 rfl) rfl (by show 2 * 0 + _ ≤ _; exact Nat.le_of_eq rfl) (hb hby d19_41) (fun _ _ => ⟨rfl, e5, (by decide : 0 + 2 ≤ _), (by decide : 0 + 5 ≤ _)⟩))
  obtain ⟨rr, vb, kb, rfl, N6q, r6_0, r6_1, r6_2, r6_3, r6_4⟩ := hQ6
  have N6 := Fr.app N4 N6q
  have K6 : Keep h0 T6.heap [] := (Keep.refl h0 []).trans r6_0 all0
  refine OGo.via st6 ?_
  show OGo _ _ _ _ (T6.setTop (mkF m 44 #[.val (.ref a1), .val (.int (1 : Int32)), .val (.int (2 : Int32)), .val (.int (3 : Int32)), .val (.int (1 : Int32))] [(.ref rr)]))
  refine OGo.via (fun _ k => XS.goto X6.here hx rfl (pc0 := 44) (pc' := 57) rfl (hb hby d19_44) (by decide) (by decide) k) ?_
  show OGo _ _ _ _ (T6.setTop (mkF m 57 #[.val (.ref a1), .val (.int (1 : Int32)), .val (.int (2 : Int32)), .val (.int (3 : Int32)), .val (.int (1 : Int32))] [(.ref rr)]))
  refine own_retA X6 hx Bd.notSynchronized Bd.returns rfl rfl (hb hby d19_57) (by decide) (by decide) ?_
  show Q_rm19_3_2 Z _ _ _ _ _ _ _ _ h0 n0 _ T6.heap _
  exact ⟨rr, vb, kb, rfl, N6, K6, r6_1, r6_2, r6_3, r6_4⟩
theorem ef_rm25_3_3 (m : MethodId) (a1 : Addr) : entryFrame m #[(.ref a1), (.int (1 : Int32)), (.int (3 : Int32))] 5 = mkF m 0 #[.val (.ref a1), .val (.int (1 : Int32)), .val (.int (3 : Int32)), .unset, .unset] [] := by
  first | (simp [entryFrame, mkF, argsToLocals, Value.category]; done) | rfl
def Q_rm25_3_3 (Z : State) (a1 : Addr) (k1 : ClassId) (y0 : Int32) (y1 : Int32) (y2 : Int32) (h0 : Heap) (n0 : Nat) (v : Option Value) (h : Heap) (L : List Loc) : Prop := ∃ vb : Addr, ∃ kb : ClassId, v = some (.ref vb) ∧ Fr n0 L ∧ Keep h0 h [] ∧ h0.size ≤ vb ∧ Arv Z h vb kb .byte (2 : Int32) [(.int y1), (.int y2)] (.int (0 : Int32))
abbrev R_rm25_3_3 : Room := ⟨1, 1, 2, 18⟩
set_option maxRecDepth 65536 in
set_option maxHeartbeats 40000000 in
theorem rm25_3_3 (l : Launch) (Z : State) (a0 : Array Value) (hw : ∀ d ∈ tables_1, d.before a0 Z = true) (ws : List Jvm.Cond) (a1 : Addr) (k1 : ClassId) (y0 : Int32) (y1 : Int32) (y2 : Int32) (h0 : Heap) (n0 : Nat) (Z0 : n0 ≤ h0.size) (V_a1 : Arv Z h0 a1 k1 .byte (3 : Int32) [(.int y0), (.int y1), (.int y2)] (.int (0 : Int32))) :
    MetFree l own_y24 (head1 (Jvm.Cond.code own_y24 jdk_65_method_133_code 5 (some (.array .byte)) :: ws) R_rm25_3_3) (fun a U => a = #[(.ref a1), (.int (1 : Int32)), (.int (3 : Int32))] ∧ Z.Warmed39 U.vm ∧ U.heap = h0) (fun _ _ _ _ _ => True) (fun _ U o U' => ∃ v L, o = .returned v ∧ Q_rm25_3_3 Z a1 k1 y0 y1 y2 h0 n0 v U'.heap L ∧ FrameEnd U o U' L R_rm25_3_3.cells R_rm25_3_3.slots) := by
  refine MetFree.of_bodySF (plainFor_of_name pn_Arrays) hisR ?_
  intro p e s m args below meth c s₁ Bd hml0 hP hK
  obtain ⟨rfl, hZ, hh⟩ := hP
  have hx := Bd.exec
  have hby := Bd.bytes
  have hml : c.maxLocals = 5 := hml0
  have hown : s.vm.findClass "java/util/Arrays" = some m.cls := findClass_of_methodNamed Bd.named
  have hnm := (name_of_methodNamed Bd.named Bd.method).1
  have X0 : Stand p l e R_rm25_3_3 s m #[(.ref a1), (.int (1 : Int32)), (.int (3 : Int32))] below meth c s₁ [] 0 0 := Stand.of_body Bd
  have e0 : s₁.heap = h0 := by rw [← hh, Bd.state]; rfl
  have N0 := Fr.nil n0
  show OGo p.tables e below (own_Kq s (fun v h L => Q_rm25_3_3 Z a1 k1 y0 y1 y2 h0 n0 v h L) R_rm25_3_3.cells R_rm25_3_3.slots) (s₁.setTop (entryFrame m #[(.ref a1), (.int (1 : Int32)), (.int (3 : Int32))] 5))
  refine OGo.cast (ef_rm25_3_3 m a1) ?_
  show OGo _ _ _ _ (s₁.setTop (mkF m 0 #[.val (.ref a1), .val (.int (1 : Int32)), .val (.int (3 : Int32)), .unset, .unset] []))
  refine OGo.via (fun _ k => XS.iloadN X0.here hx rfl (hb hby d25_0) rfl (XS.iloadN X0.here hx rfl (hb hby d25_1) rfl k)) ?_
  obtain ⟨_, T1, Lc1, X1, hQ1, st1⟩ := own_open X0 (Jvm.LawKit.callS X0 hx (y := own_y20) hown (mvT hZ (own_w hw 119 rfl)) (mvT hZ (own_w hw 120 rfl)) (mvT hZ (own_w hw 114 rfl)) (mvT hZ (own_w hw 121 rfl)) (by decide) (backOf (W := 0) (rm26 l Z a0 hw [] (1 : Int32) (3 : Int32) h0 n0 Z0 (by decide)) hZ (own_w hw 121 rfl) (own_w hw 114 rfl) (by decide) (by decide)) (g := (mkF m 2 #[.val (.ref a1), .val (.int (1 : Int32)), .val (.int (3 : Int32)), .unset, .unset] [(.int (3 : Int32)), (.int (1 : Int32))])) rfl (by rw [hml]; rfl) (argsL := [(.int (1 : Int32)), (.int (3 : Int32))]) (rest := []) (lenOf pd_8 rfl) rfl (by show 2 * 0 + _ ≤ _; exact Nat.le_of_eq rfl) (hb hby d25_2) (fun _ _ => ⟨rfl, e0, (by decide : 0 + 0 ≤ _), (by decide : 0 + 0 ≤ _)⟩))
  obtain ⟨rfl, N1q, r1_0⟩ := hQ1
  have N1 := Fr.app N0 N1q
  refine OGo.via st1 ?_
  show OGo _ _ _ _ (T1.setTop (mkF m 5 #[.val (.ref a1), .val (.int (1 : Int32)), .val (.int (3 : Int32)), .unset, .unset] []))
  refine OGo.via (fun _ k => XS.iloadN X1.here hx rfl (hb hby d25_5) rfl (XS.iloadN X1.here hx rfl (hb hby d25_6) rfl (XS.isub X1.here hx rfl (hb hby d25_7) rfl k))) ?_
  show OGo _ _ _ _ (T1.setTop (mkF m 8 #[.val (.ref a1), .val (.int (1 : Int32)), .val (.int (3 : Int32)), .unset, .unset] [(.int ((3 : Int32) - (1 : Int32)))]))
  rw [show ((3 : Int32) - (1 : Int32)) = (2 : Int32) from by decide]
  refine OGo.via (fun _ k => XS.istoreN X1.here hx rfl (hb hby d25_8) rfl (l' := #[.val (.ref a1), .val (.int (1 : Int32)), .val (.int (3 : Int32)), .val (.int (2 : Int32)), .unset]) rfl (XS.iloadN X1.here hx rfl (hb hby d25_9) rfl k)) ?_
  obtain ⟨T3, h3, ka3, X3, e3, E3, A3, Y3, st3⟩ := newPE (ad := "[B") X1 hx hZ (own_w hw 26 rfl) r1_0 (g := (mkF m 10 #[.val (.ref a1), .val (.int (1 : Int32)), .val (.int (3 : Int32)), .val (.int (2 : Int32)), .unset] [(.int (2 : Int32))])) rfl (hb hby d25_10) rfl (by decide) (cap := 2) (by decide) (by decide) (by decide) (by decide) (by decide)
  obtain ⟨b3, g3⟩ : ∃ z, z = h0.size := ⟨_, rfl⟩
  rw [← g3] at A3 Y3 st3
  refine OGo.via st3 ?_
  have K3 : Keep h0 h3 [] := (Keep.refl h0 []).ext E3
  have lt_a1_b3 : a1 < b3 := Nat.lt_of_lt_of_le V_a1.lt (Nat.le_of_eq g3.symm)
  have sz_b3 : h0.size ≤ b3 := Nat.le_trans (Keep.refl h0 []).1 (Nat.le_of_eq g3.symm)
  have g_b3 : n0 ≤ b3 := Nat.le_trans Z0 sz_b3
  have V3 : Arv Z h3 b3 ka3 .byte (2 : Int32) [(.int (0 : Int32)), (.int (0 : Int32))] (.int (0 : Int32)) := (Arv.new A3 (by decide)).pad (pad_rep [] (.int (0 : Int32)) 2)
  show OGo _ _ _ _ (T3.setTop (mkF m 12 #[.val (.ref a1), .val (.int (1 : Int32)), .val (.int (3 : Int32)), .val (.int (2 : Int32)), .unset] [(.ref b3)]))
  refine OGo.via (fun _ k => XS.astore X3.here hx rfl (hb hby d25_12) rfl rfl (l' := #[.val (.ref a1), .val (.int (1 : Int32)), .val (.int (3 : Int32)), .val (.int (2 : Int32)), .val (.ref b3)]) rfl (XS.aloadN X3.here hx rfl (hb hby d25_14) rfl rfl (XS.iloadN X3.here hx rfl (hb hby d25_15) rfl (XS.aload X3.here hx rfl (hb hby d25_16) rfl rfl (XS.iconst X3.here hx rfl (hb hby d25_18) (XS.aloadN X3.here hx rfl (hb hby d25_19) rfl rfl k)))))) ?_
  have f5 := V_a1.ext E3
  obtain ⟨cl4, Ar4, q4, Sz4, Ng4, Hs4, Gf4⟩ := id f5
  refine OGo.via (X3.arraylength hx (by rw [e3]; exact Ar4.1) (State.isArrayOf_alike hZ.alike Ar4.2.1) (g := (mkF m 20 #[.val (.ref a1), .val (.int (1 : Int32)), .val (.int (3 : Int32)), .val (.int (2 : Int32)), .val (.ref b3)] [(.ref a1), (.int (0 : Int32)), (.ref b3), (.int (1 : Int32)), (.ref a1)])) rfl rfl (hb hby d25_20)) ?_
  rw [len_of Sz4 Ng4]
  show OGo _ _ _ _ (T3.setTop (mkF m 21 #[.val (.ref a1), .val (.int (1 : Int32)), .val (.int (3 : Int32)), .val (.int (2 : Int32)), .val (.ref b3)] [(.int (3 : Int32)), (.int (0 : Int32)), (.ref b3), (.int (1 : Int32)), (.ref a1)]))
  refine OGo.via (fun _ k => XS.iloadN X3.here hx rfl (hb hby d25_21) rfl (XS.isub X3.here hx rfl (hb hby d25_22) rfl k)) ?_
  show OGo _ _ _ _ (T3.setTop (mkF m 23 #[.val (.ref a1), .val (.int (1 : Int32)), .val (.int (3 : Int32)), .val (.int (2 : Int32)), .val (.ref b3)] [(.int ((3 : Int32) - (1 : Int32))), (.int (0 : Int32)), (.ref b3), (.int (1 : Int32)), (.ref a1)]))
  rw [show ((3 : Int32) - (1 : Int32)) = (2 : Int32) from by decide]
  refine OGo.via (fun _ k => XS.iloadN X3.here hx rfl (hb hby d25_23) rfl k) ?_
  obtain ⟨_, T7, Lc7, X7, hQ7, st7⟩ := own_open X3 (Jvm.LawKit.callS X3 hx (y := own_y2) hown (mvT hZ (own_w hw 122 rfl)) (mvT hZ (own_w hw 85 rfl)) (mvT hZ (own_w hw 82 rfl)) (mvT hZ (own_w hw 86 rfl)) (by decide) (backOf (W := 4) (rm18 l Z a0 hw [] (2 : Int32) (2 : Int32) h3 n0 (Nat.le_trans Z0 K3.1)) hZ (own_w hw 86 rfl) (own_w hw 82 rfl) (by decide) (by decide)) (g := (mkF m 24 #[.val (.ref a1), .val (.int (1 : Int32)), .val (.int (3 : Int32)), .val (.int (2 : Int32)), .val (.ref b3)] [(.int (2 : Int32)), (.int (2 : Int32)), (.int (0 : Int32)), (.ref b3), (.int (1 : Int32)), (.ref a1)])) rfl (by rw [hml]; rfl) (argsL := [(.int (2 : Int32)), (.int (2 : Int32))]) (rest := [(.int (0 : Int32)), (.ref b3), (.int (1 : Int32)), (.ref a1)]) (lenOf pd_14 rfl) rfl (by show 2 * 0 + _ ≤ _; exact Nat.le_of_eq rfl) (hb hby d25_24) (fun _ _ => ⟨rfl, e3, (by decide : 1 + 0 ≤ _), (by decide : 2 + 0 ≤ _)⟩))
  obtain ⟨rfl, N7q, r7_0⟩ := hQ7
  have N7 := Fr.app N1 N7q
  refine OGo.via st7 ?_
  show OGo _ _ _ _ (T7.setTop (mkF m 27 #[.val (.ref a1), .val (.int (1 : Int32)), .val (.int (3 : Int32)), .val (.int (2 : Int32)), .val (.ref b3)] [(.int (if (2 : Int32) < (2 : Int32) then (2 : Int32) else (2 : Int32))), (.int (0 : Int32)), (.ref b3), (.int (1 : Int32)), (.ref a1)]))
  rw [show (if (2 : Int32) < (2 : Int32) then (2 : Int32) else (2 : Int32)) = (2 : Int32) from by decide]
  show OGo _ _ _ _ (T7.setTop (mkF m 27 #[.val (.ref a1), .val (.int (1 : Int32)), .val (.int (3 : Int32)), .val (.int (2 : Int32)), .val (.ref b3)] [(.int (2 : Int32)), (.int (0 : Int32)), (.ref b3), (.int (1 : Int32)), (.ref a1)]))
  obtain ⟨T8, h8, Lc8, X8, e8, N8, Kp8, V8, st8⟩ := cpA X7 hx hZ hown (own_w hw 123 rfl) (own_w hw 126 rfl) (own_w hw 124 rfl) (own_w hw 125 rfl) r7_0 (us := [(.int y1), (.int y2)]) f5 V3 (Or.inl ⟨rfl, rfl⟩) (by decide) (by decide) (by decide) (by decide) (by decide) rfl (Nat.le_of_ble_eq_true rfl) N7 g_b3 (g := (mkF m 27 #[.val (.ref a1), .val (.int (1 : Int32)), .val (.int (3 : Int32)), .val (.int (2 : Int32)), .val (.ref b3)] [(.int (2 : Int32)), (.int (0 : Int32)), (.ref b3), (.int (1 : Int32)), (.ref a1)])) rfl (by rw [hml]; rfl) rfl (hb hby d25_27) (by decide) (W := 0) (by show 2 * 0 + _ ≤ _; exact Nat.le_of_eq rfl) (by decide)
  refine OGo.via st8 ?_
  have Vc8 : Arv Z h8 b3 ka3 .byte (2 : Int32) [(.int y1), (.int y2)] (.int (0 : Int32)) := V8
  have K8 : Keep h0 h8 [] := K3.trans Kp8 (allS (Or.inr sz_b3) all0)
  show OGo _ _ _ _ (T8.setTop (mkF m 30 #[.val (.ref a1), .val (.int (1 : Int32)), .val (.int (3 : Int32)), .val (.int (2 : Int32)), .val (.ref b3)] []))
  refine OGo.via (fun _ k => XS.aload X8.here hx rfl (hb hby d25_30) rfl rfl k) ?_
  show OGo _ _ _ _ (T8.setTop (mkF m 32 #[.val (.ref a1), .val (.int (1 : Int32)), .val (.int (3 : Int32)), .val (.int (2 : Int32)), .val (.ref b3)] [(.ref b3)]))
  refine own_retA X8 hx Bd.notSynchronized Bd.returns rfl rfl (hb hby d25_32) (by decide) (by decide) ?_
  show Q_rm25_3_3 Z _ _ _ _ _ h0 n0 _ T8.heap _
  rw [e8]
  exact ⟨b3, ka3, rfl, N8, K8, sz_b3, Vc8⟩
theorem ef_rm24_3_3 (m : MethodId) (a1 : Addr) : entryFrame m #[(.ref a1), (.int (1 : Int32)), (.int (3 : Int32))] 3 = mkF m 0 #[.val (.ref a1), .val (.int (1 : Int32)), .val (.int (3 : Int32))] [] := by
  first | (simp [entryFrame, mkF, argsToLocals, Value.category]; done) | rfl
def Q_rm24_3_3 (Z : State) (a1 : Addr) (k1 : ClassId) (y0 : Int32) (y1 : Int32) (y2 : Int32) (h0 : Heap) (n0 : Nat) (v : Option Value) (h : Heap) (L : List Loc) : Prop := ∃ vb : Addr, ∃ kb : ClassId, v = some (.ref vb) ∧ Fr n0 L ∧ Keep h0 h [] ∧ h0.size ≤ vb ∧ Arv Z h vb kb .byte (2 : Int32) [(.int y1), (.int y2)] (.int (0 : Int32))
abbrev R_rm24_3_3 : Room := ⟨2, 1, 2, 34⟩
set_option maxRecDepth 65536 in
set_option maxHeartbeats 40000000 in
theorem rm24_3_3 (l : Launch) (Z : State) (a0 : Array Value) (hw : ∀ d ∈ tables_1, d.before a0 Z = true) (ws : List Jvm.Cond) (a1 : Addr) (k1 : ClassId) (y0 : Int32) (y1 : Int32) (y2 : Int32) (h0 : Heap) (n0 : Nat) (Z0 : n0 ≤ h0.size) (V_a1 : Arv Z h0 a1 k1 .byte (3 : Int32) [(.int y0), (.int y1), (.int y2)] (.int (0 : Int32))) :
    MetFree l own_y25 (head1 (Jvm.Cond.code own_y25 jdk_65_method_132_code 3 (some (.array .byte)) :: ws) R_rm24_3_3) (fun a U => a = #[(.ref a1), (.int (1 : Int32)), (.int (3 : Int32))] ∧ Z.Warmed39 U.vm ∧ U.heap = h0) (fun _ _ _ _ _ => True) (fun _ U o U' => ∃ v L, o = .returned v ∧ Q_rm24_3_3 Z a1 k1 y0 y1 y2 h0 n0 v U'.heap L ∧ FrameEnd U o U' L R_rm24_3_3.cells R_rm24_3_3.slots) := by
  refine MetFree.of_bodySF (plainFor_of_name pn_Arrays) hisR ?_
  intro p e s m args below meth c s₁ Bd hml0 hP hK
  obtain ⟨rfl, hZ, hh⟩ := hP
  have hx := Bd.exec
  have hby := Bd.bytes
  have hml : c.maxLocals = 3 := hml0
  have hown : s.vm.findClass "java/util/Arrays" = some m.cls := findClass_of_methodNamed Bd.named
  have hnm := (name_of_methodNamed Bd.named Bd.method).1
  have X0 : Stand p l e R_rm24_3_3 s m #[(.ref a1), (.int (1 : Int32)), (.int (3 : Int32))] below meth c s₁ [] 0 0 := Stand.of_body Bd
  have e0 : s₁.heap = h0 := by rw [← hh, Bd.state]; rfl
  have N0 := Fr.nil n0
  show OGo p.tables e below (own_Kq s (fun v h L => Q_rm24_3_3 Z a1 k1 y0 y1 y2 h0 n0 v h L) R_rm24_3_3.cells R_rm24_3_3.slots) (s₁.setTop (entryFrame m #[(.ref a1), (.int (1 : Int32)), (.int (3 : Int32))] 3))
  refine OGo.cast (ef_rm24_3_3 m a1) ?_
  show OGo _ _ _ _ (s₁.setTop (mkF m 0 #[.val (.ref a1), .val (.int (1 : Int32)), .val (.int (3 : Int32))] []))
  refine OGo.via (fun _ k => XS.iloadN X0.here hx rfl (hb hby d24_0) rfl (XS.ifYes X0.here hx rfl (pc0 := 1) (pc' := 10) rfl (hb hby d24_1) rfl ((if0 _ _).trans (feq (by decide : ¬ ((1 : Int32) = (0 : Int32)))).2) (by decide) (by decide) (XS.aloadN X0.here hx rfl (hb hby d24_10) rfl rfl (XS.iloadN X0.here hx rfl (hb hby d24_11) rfl (XS.iloadN X0.here hx rfl (hb hby d24_12) rfl k))))) ?_
  obtain ⟨_, T1, Lc1, X1, hQ1, st1⟩ := own_open X0 (Jvm.LawKit.callS X0 hx (y := own_y24) hown (mvT hZ (own_w hw 116 rfl)) (mvT hZ (own_w hw 117 rfl)) (mvT hZ (own_w hw 114 rfl)) (mvT hZ (own_w hw 118 rfl)) (by decide) (backOf (W := 0) (rm25_3_3 l Z a0 hw [] a1 k1 y0 y1 y2 h0 n0 Z0 V_a1) hZ (own_w hw 118 rfl) (own_w hw 114 rfl) (by decide) (by decide)) (g := (mkF m 13 #[.val (.ref a1), .val (.int (1 : Int32)), .val (.int (3 : Int32))] [(.int (3 : Int32)), (.int (1 : Int32)), (.ref a1)])) rfl (by rw [hml]; rfl) (argsL := [(.ref a1), (.int (1 : Int32)), (.int (3 : Int32))]) (rest := []) (lenOf pd_15 rfl) rfl (by show 2 * 0 + _ ≤ _; exact Nat.le_of_eq rfl) (hb hby d24_13) (fun _ _ => ⟨rfl, e0, (by decide : 0 + 1 ≤ _), (by decide : 0 + 2 ≤ _)⟩))
  obtain ⟨vb, kb, rfl, N1q, r1_0, r1_1, r1_2⟩ := hQ1
  have N1 := Fr.app N0 N1q
  have K1 : Keep h0 T1.heap [] := (Keep.refl h0 []).trans r1_0 all0
  have lt_a1_vb : a1 < vb := Nat.lt_of_lt_of_le V_a1.lt r1_1
  have sz_vb : h0.size ≤ vb := Nat.le_trans (Keep.refl h0 []).1 r1_1
  have g_vb : n0 ≤ vb := Nat.le_trans Z0 sz_vb
  refine OGo.via st1 ?_
  show OGo _ _ _ _ (T1.setTop (mkF m 16 #[.val (.ref a1), .val (.int (1 : Int32)), .val (.int (3 : Int32))] [(.ref vb)]))
  show OGo _ _ _ _ (T1.setTop (mkF m 16 #[.val (.ref a1), .val (.int (1 : Int32)), .val (.int (3 : Int32))] [(.ref vb)]))
  refine own_retA X1 hx Bd.notSynchronized Bd.returns rfl rfl (hb hby d24_16) (by decide) (by decide) ?_
  show Q_rm24_3_3 Z _ _ _ _ _ h0 n0 _ T1.heap _
  exact ⟨vb, kb, rfl, N1, K1, sz_vb, r1_2⟩
theorem ef_rm22_3_3 (m : MethodId) (a1 : Addr) : entryFrame m #[(.ref a1), (.int (1 : Int32)), (.int (2 : Int32))] 3 = mkF m 0 #[.val (.ref a1), .val (.int (1 : Int32)), .val (.int (2 : Int32))] [] := by
  first | (simp [entryFrame, mkF, argsToLocals, Value.category]; done) | rfl
def Q_rm22_3_3 (Z : State) (a1 : Addr) (k1 : ClassId) (y0 : Int32) (y1 : Int32) (y2 : Int32) (w : Int32) (fm : Value) (h0 : Heap) (n0 : Nat) (v : Option Value) (h : Heap) (L : List Loc) : Prop := ∃ rr : Addr, ∃ vb : Addr, ∃ kb : ClassId, v = some (.ref rr) ∧ Fr n0 L ∧ Keep h0 h [] ∧ Exa Z h rr "java/lang/String" ∧ Fld Z h rr "java/lang/String" "value" "[B" (.ref vb) ∧ Fld Z h rr "java/lang/String" "coder" "B" (.int (0 : Int32)) ∧ Arv Z h vb kb .byte (2 : Int32) [(.int y1), (.int y2)] (.int (0 : Int32))
abbrev R_rm22_3_3 : Room := ⟨3, 2, 6, 50⟩
set_option maxRecDepth 65536 in
set_option maxHeartbeats 40000000 in
theorem rm22_3_3 (l : Launch) (Z : State) (a0 : Array Value) (hw : ∀ d ∈ tables_1, d.before a0 Z = true) (ws : List Jvm.Cond) (a1 : Addr) (k1 : ClassId) (y0 : Int32) (y1 : Int32) (y2 : Int32) (w : Int32) (fm : Value) (h0 : Heap) (n0 : Nat) (Z0 : n0 ≤ h0.size) (V_a1 : Arv Z h0 a1 k1 .byte (3 : Int32) [(.int y0), (.int y1), (.int y2)] (.int (0 : Int32))) (S_COMPACT_STRINGS : Sta Z h0 "java/lang/String" "COMPACT_STRINGS" "Z" (.int w)) (S_SIOOBE_FORMATTER : Sta Z h0 "jdk/internal/util/Preconditions" "SIOOBE_FORMATTER" "Ljava/util/function/BiFunction;" fm) :
    MetFree l own_y22 (head1 (Jvm.Cond.code own_y22 jdk_43_method_47_code 3 (some (.object "java/lang/String")) :: ws) R_rm22_3_3) (fun a U => a = #[(.ref a1), (.int (1 : Int32)), (.int (2 : Int32))] ∧ Z.Warmed39 U.vm ∧ U.heap = h0) (fun _ _ _ _ _ => True) (fun _ U o U' => ∃ v L, o = .returned v ∧ Q_rm22_3_3 Z a1 k1 y0 y1 y2 w fm h0 n0 v U'.heap L ∧ FrameEnd U o U' L R_rm22_3_3.cells R_rm22_3_3.slots) := by
  refine MetFree.of_bodySF (plainFor_of_name pn_StringLatin1) hisR ?_
  intro p e s m args below meth c s₁ Bd hml0 hP hK
  obtain ⟨rfl, hZ, hh⟩ := hP
  have hx := Bd.exec
  have hby := Bd.bytes
  have hml : c.maxLocals = 3 := hml0
  have hown : s.vm.findClass "java/lang/StringLatin1" = some m.cls := findClass_of_methodNamed Bd.named
  have hnm := (name_of_methodNamed Bd.named Bd.method).1
  have X0 : Stand p l e R_rm22_3_3 s m #[(.ref a1), (.int (1 : Int32)), (.int (2 : Int32))] below meth c s₁ [] 0 0 := Stand.of_body Bd
  have e0 : s₁.heap = h0 := by rw [← hh, Bd.state]; rfl
  have N0 := Fr.nil n0
  show OGo p.tables e below (own_Kq s (fun v h L => Q_rm22_3_3 Z a1 k1 y0 y1 y2 w fm h0 n0 v h L) R_rm22_3_3.cells R_rm22_3_3.slots) (s₁.setTop (entryFrame m #[(.ref a1), (.int (1 : Int32)), (.int (2 : Int32))] 3))
  refine OGo.cast (ef_rm22_3_3 m a1) ?_
  show OGo _ _ _ _ (s₁.setTop (mkF m 0 #[.val (.ref a1), .val (.int (1 : Int32)), .val (.int (2 : Int32))] []))
  refine OGo.via (fun _ k => XS.iloadN X0.here hx rfl (hb hby d22_0) rfl (XS.ifYes X0.here hx rfl (pc0 := 1) (pc' := 7) rfl (hb hby d22_1) rfl ((if0 _ _).trans (feq (by decide : ¬ ((2 : Int32) = (0 : Int32)))).2) (by decide) (by decide) k)) ?_
  obtain ⟨T1, h1, X1, e1, E1, A1, D1, -, st1⟩ := newO X0 hx hZ hown (own_w hw 111 rfl) (own_w hw 9 rfl) (own_w hw 10 rfl) e0 (g := (mkF m 7 #[.val (.ref a1), .val (.int (1 : Int32)), .val (.int (2 : Int32))] [])) rfl (hb hby d22_7) (by decide) (by decide)
  obtain ⟨b1, g1⟩ : ∃ z, z = h0.size := ⟨_, rfl⟩
  rw [← g1] at A1 D1 st1
  refine OGo.via st1 ?_
  have K1 : Keep h0 h1 [] := (Keep.refl h0 []).ext E1
  have lt_a1_b1 : a1 < b1 := Nat.lt_of_lt_of_le V_a1.lt (Nat.le_of_eq g1.symm)
  have sz_b1 : h0.size ≤ b1 := Nat.le_trans (Keep.refl h0 []).1 (Nat.le_of_eq g1.symm)
  have g_b1 : n0 ≤ b1 := Nat.le_trans Z0 sz_b1
  have F1_coder : Fld Z h1 b1 "java/lang/String" "coder" "B" (.int (0 : Int32)) := D1 (Or.inr (own_w hw 34 rfl)) (ty := .byte) (by decide)
  have F1_value : Fld Z h1 b1 "java/lang/String" "value" "[B" .null := D1 (Or.inr (own_w hw 36 rfl)) (ty := (.array .byte)) (by decide)
  show OGo _ _ _ _ (T1.setTop (mkF m 10 #[.val (.ref a1), .val (.int (1 : Int32)), .val (.int (2 : Int32))] [(.ref b1)]))
  refine OGo.via (fun _ k => XS.dup X1.here hx rfl (hb hby d22_10) rfl rfl (XS.aloadN X1.here hx rfl (hb hby d22_11) rfl rfl (XS.iloadN X1.here hx rfl (hb hby d22_12) rfl (XS.iloadN X1.here hx rfl (hb hby d22_13) rfl (XS.iloadN X1.here hx rfl (hb hby d22_14) rfl (XS.iadd X1.here hx rfl (hb hby d22_15) rfl k)))))) ?_
  show OGo _ _ _ _ (T1.setTop (mkF m 16 #[.val (.ref a1), .val (.int (1 : Int32)), .val (.int (2 : Int32))] [(.int ((1 : Int32) + (2 : Int32))), (.int (1 : Int32)), (.ref a1), (.ref b1), (.ref b1)]))
  rw [show ((1 : Int32) + (2 : Int32)) = (3 : Int32) from by decide]
  have f4 := V_a1.ext E1
  obtain ⟨_, T3, Lc3, X3, hQ3, st3⟩ := own_open X1 (Jvm.LawKit.callS X1 hx (y := own_y25) hown (mvT hZ (own_w hw 112 rfl)) (mvT hZ (own_w hw 113 rfl)) (mvT hZ (own_w hw 114 rfl)) (mvT hZ (own_w hw 115 rfl)) (by decide) (backOf (W := 2) (rm24_3_3 l Z a0 hw [] a1 k1 y0 y1 y2 h1 n0 (Nat.le_trans Z0 K1.1) f4) hZ (own_w hw 115 rfl) (own_w hw 114 rfl) (by decide) (by decide)) (g := (mkF m 16 #[.val (.ref a1), .val (.int (1 : Int32)), .val (.int (2 : Int32))] [(.int (3 : Int32)), (.int (1 : Int32)), (.ref a1), (.ref b1), (.ref b1)])) rfl (by rw [hml]; rfl) (argsL := [(.ref a1), (.int (1 : Int32)), (.int (3 : Int32))]) (rest := [(.ref b1), (.ref b1)]) (lenOf pd_15 rfl) rfl (by show 2 * 0 + _ ≤ _; exact Nat.le_of_eq rfl) (hb hby d22_16) (fun _ _ => ⟨rfl, e1, (by decide : 1 + 1 ≤ _), (by decide : 4 + 2 ≤ _)⟩))
  obtain ⟨vb, kb, rfl, N3q, r3_0, r3_1, r3_2⟩ := hQ3
  have N3 := Fr.app N0 N3q
  have K3 : Keep h0 T3.heap [] := K1.trans r3_0 all0
  have lt_a1_vb : a1 < vb := Nat.lt_of_lt_of_le f4.lt r3_1
  have lt_b1_vb : b1 < vb := Nat.lt_of_lt_of_le A1.lt r3_1
  have sz_vb : h0.size ≤ vb := Nat.le_trans K1.1 r3_1
  have g_vb : n0 ≤ vb := Nat.le_trans Z0 sz_vb
  refine OGo.via st3 ?_
  show OGo _ _ _ _ (T3.setTop (mkF m 19 #[.val (.ref a1), .val (.int (1 : Int32)), .val (.int (2 : Int32))] [(.ref vb), (.ref b1), (.ref b1)]))
  refine OGo.via (fun _ k => XS.iconst X3.here hx rfl (hb hby d22_19) k) ?_
  have f6 := A1.keep r3_0
  have f7 := F1_value.keep r3_0 nin0
  have f8 := F1_coder.keep r3_0 nin0
  have f9 := own_staKeep0 S_COMPACT_STRINGS K3
  have f10 := own_staKeep0 S_SIOOBE_FORMATTER K3
  obtain ⟨_, T5, Lc5, X5, hQ5, st5⟩ := own_open X3 (X3.specialBack hx (y := own_y21) rfl hown (mvT hZ (own_w hw 127 rfl)) (mvT hZ (own_w hw 128 rfl)) (mvT hZ (own_w hw 129 rfl)) (by decide) (backOf (W := 1) (rm27 l Z a0 hw [] b1 vb w fm T3.heap n0 (Nat.le_trans Z0 K3.1) f6 f7 f8 g_b1 f9 f10) hZ (own_w hw 129 rfl) (own_w hw 10 rfl) (by decide) (by decide)) (g := (mkF m 20 #[.val (.ref a1), .val (.int (1 : Int32)), .val (.int (2 : Int32))] [(.int (0 : Int32)), (.ref vb), (.ref b1), (.ref b1)])) rfl (by rw [hml]; rfl) (Steps.refl _) (a := b1) (argsL := [(.ref vb), (.int (0 : Int32))]) (rest := [(.ref b1)]) (lenOf pd_16 rfl) rfl (by show 2 * 0 + _ ≤ _; exact Nat.le_of_eq rfl) (hb hby d22_20) (fun _ _ => ⟨rfl, rfl, (by decide : 2 + 0 ≤ _), (by decide : 6 + 0 ≤ _)⟩))
  obtain ⟨rfl, N5q, r5_0, r5_1, r5_2, r5_3, r5_4, r5_5⟩ := hQ5
  have N5 := Fr.app N3 N5q
  have K5 : Keep h0 T5.heap [] := K3.trans r5_0 (allS (Or.inr sz_b1) all0)
  refine OGo.via (fun _ k => st5.trans k) ?_
  show OGo _ _ _ _ (T5.setTop (mkF m 23 #[.val (.ref a1), .val (.int (1 : Int32)), .val (.int (2 : Int32))] [(.ref b1)]))
  show OGo _ _ _ _ (T5.setTop (mkF m 23 #[.val (.ref a1), .val (.int (1 : Int32)), .val (.int (2 : Int32))] [(.ref b1)]))
  have f11 := r3_2.keep r5_0 (ninS (Nat.ne_of_gt lt_b1_vb) nin0)
  refine own_retA X5 hx Bd.notSynchronized Bd.returns rfl rfl (hb hby d22_23) (by decide) (by decide) ?_
  show Q_rm22_3_3 Z _ _ _ _ _ _ _ h0 n0 _ T5.heap _
  exact ⟨b1, vb, kb, rfl, N5, K5, r5_1, r5_2, r5_3, f11⟩
theorem ef_rm19_3_3 (m : MethodId) (a1 : Addr) : entryFrame m #[(.ref a1), (.int (1 : Int32)), (.int (3 : Int32))] 5 = mkF m 0 #[.val (.ref a1), .val (.int (1 : Int32)), .val (.int (3 : Int32)), .unset, .unset] [] := by
  first | (simp [entryFrame, mkF, argsToLocals, Value.category]; done) | rfl
def Q_rm19_3_3 (Z : State) (a1 : Addr) (w : Int32) (fm : Value) (va : Addr) (k1 : ClassId) (y0 : Int32) (y1 : Int32) (y2 : Int32) (h0 : Heap) (n0 : Nat) (v : Option Value) (h : Heap) (L : List Loc) : Prop := ∃ rr : Addr, ∃ vb : Addr, ∃ kb : ClassId, v = some (.ref rr) ∧ Fr n0 L ∧ Keep h0 h [] ∧ Exa Z h rr "java/lang/String" ∧ Fld Z h rr "java/lang/String" "value" "[B" (.ref vb) ∧ Fld Z h rr "java/lang/String" "coder" "B" (.int (0 : Int32)) ∧ Arv Z h vb kb .byte (2 : Int32) [(.int y1), (.int y2)] (.int (0 : Int32))
abbrev R_rm19_3_3 : Room := ⟨4, 2, 6, 64⟩
set_option maxRecDepth 65536 in
set_option maxHeartbeats 40000000 in
theorem rm19_3_3 (l : Launch) (Z : State) (a0 : Array Value) (hw : ∀ d ∈ tables_1, d.before a0 Z = true) (ws : List Jvm.Cond) (a1 : Addr) (w : Int32) (fm : Value) (va : Addr) (k1 : ClassId) (y0 : Int32) (y1 : Int32) (y2 : Int32) (h0 : Heap) (n0 : Nat) (Z0 : n0 ≤ h0.size) (E_a1 : Exa Z h0 a1 "java/lang/String") (F_value_a1 : Fld Z h0 a1 "java/lang/String" "value" "[B" (.ref va)) (F_coder_a1 : Fld Z h0 a1 "java/lang/String" "coder" "B" (.int (0 : Int32))) (V_va : Arv Z h0 va k1 .byte (3 : Int32) [(.int y0), (.int y1), (.int y2)] (.int (0 : Int32))) (S_COMPACT_STRINGS : Sta Z h0 "java/lang/String" "COMPACT_STRINGS" "Z" (.int w)) (S_SIOOBE_FORMATTER : Sta Z h0 "jdk/internal/util/Preconditions" "SIOOBE_FORMATTER" "Ljava/util/function/BiFunction;" fm) (hw0 : ¬ w = (0 : Int32)) (hr_fm : fm.isRef = true) :
    MetFree l own_y23 (head1 (Jvm.Cond.code own_y23 jdk_42_method_92_code 5 (some (.object "java/lang/String")) :: ws) R_rm19_3_3) (fun a U => a = #[(.ref a1), (.int (1 : Int32)), (.int (3 : Int32))] ∧ Z.Warmed39 U.vm ∧ U.heap = h0) (fun _ _ _ _ _ => True) (fun _ U o U' => ∃ v L, o = .returned v ∧ Q_rm19_3_3 Z a1 w fm va k1 y0 y1 y2 h0 n0 v U'.heap L ∧ FrameEnd U o U' L R_rm19_3_3.cells R_rm19_3_3.slots) := by
  refine MetFree.of_bodySF (plainFor_of_name pn_String) hisR ?_
  intro p e s m args below meth c s₁ Bd hml0 hP hK
  obtain ⟨rfl, hZ, hh⟩ := hP
  have hx := Bd.exec
  have hby := Bd.bytes
  have hml : c.maxLocals = 5 := hml0
  have hown : s.vm.findClass "java/lang/String" = some m.cls := findClass_of_methodNamed Bd.named
  have hnm := (name_of_methodNamed Bd.named Bd.method).1
  have X0 : Stand p l e R_rm19_3_3 s m #[(.ref a1), (.int (1 : Int32)), (.int (3 : Int32))] below meth c s₁ [] 0 0 := Stand.of_body Bd
  have e0 : s₁.heap = h0 := by rw [← hh, Bd.state]; rfl
  have N0 := Fr.nil n0
  show OGo p.tables e below (own_Kq s (fun v h L => Q_rm19_3_3 Z a1 w fm va k1 y0 y1 y2 h0 n0 v h L) R_rm19_3_3.cells R_rm19_3_3.slots) (s₁.setTop (entryFrame m #[(.ref a1), (.int (1 : Int32)), (.int (3 : Int32))] 5))
  refine OGo.cast (ef_rm19_3_3 m a1) ?_
  show OGo _ _ _ _ (s₁.setTop (mkF m 0 #[.val (.ref a1), .val (.int (1 : Int32)), .val (.int (3 : Int32)), .unset, .unset] []))
  refine OGo.via (fun _ k => XS.aloadN X0.here hx rfl (hb hby d19_0) rfl rfl k) ?_
  obtain ⟨cq1, kq1, q1a, q1b, q1c⟩ := isOf hZ e0 E_a1
  obtain ⟨_, T1, Lc1, X1, hQ1, st1⟩ := own_open X0 (X0.virtualBack hx (y := own_y6) (z := own_y6) hown (mvT hZ (own_w hw 63 rfl)) (mvT hZ (own_w hw 64 rfl)) (notFace_of_selects (args := #[]) (mvT hZ (own_w hw 66 rfl))) (mvT hZ (own_w hw 66 rfl)) (mvT hZ (own_w hw 65 rfl)) (by decide) (backOf (W := 0) (rm13 l Z a0 hw [] a1 w va k1 [(.int y0), (.int y1), (.int y2)] (3 : Int32) h0 n0 Z0 E_a1 F_value_a1 F_coder_a1 V_va S_COMPACT_STRINGS hw0) hZ (own_w hw 67 rfl) (own_w hw 10 rfl) (by decide) (by decide)) q1a q1c (g := (mkF m 1 #[.val (.ref a1), .val (.int (1 : Int32)), .val (.int (3 : Int32)), .unset, .unset] [(.ref a1)])) rfl (by rw [hml]; rfl) (Steps.refl _) (argsL := []) (rest := []) (lenOf pd_11 rfl) rfl (by show 2 * 0 + _ ≤ _; exact Nat.le_of_eq rfl) (hb hby d19_1) (fun _ _ => ⟨rfl, e0, (by decide : 0 + 0 ≤ _), (by decide : 0 + 0 ≤ _)⟩))
  obtain ⟨rfl, N1q, r1_0⟩ := hQ1
  have N1 := Fr.app N0 N1q
  refine OGo.via (fun _ k => st1.trans k) ?_
  show OGo _ _ _ _ (T1.setTop (mkF m 4 #[.val (.ref a1), .val (.int (1 : Int32)), .val (.int (3 : Int32)), .unset, .unset] [(.int (3 : Int32))]))
  refine OGo.via (fun _ k => XS.istoreN X1.here hx rfl (hb hby d19_4) rfl (l' := #[.val (.ref a1), .val (.int (1 : Int32)), .val (.int (3 : Int32)), .val (.int (3 : Int32)), .unset]) rfl (XS.iloadN X1.here hx rfl (hb hby d19_5) rfl (XS.iloadN X1.here hx rfl (hb hby d19_6) rfl (XS.iloadN X1.here hx rfl (hb hby d19_7) rfl k)))) ?_
  obtain ⟨_, T2, Lc2, X2, hQ2, st2⟩ := own_open X1 (Jvm.LawKit.callS X1 hx (y := own_y15) hown (mvT hZ (own_w hw 93 rfl)) (mvT hZ (own_w hw 94 rfl)) (mvT hZ (own_w hw 10 rfl)) (mvT hZ (own_w hw 95 rfl)) (by decide) (backOf (W := 0) (rm20 l Z a0 hw [] (1 : Int32) (3 : Int32) (3 : Int32) fm h0 n0 Z0 S_SIOOBE_FORMATTER (by decide) (by decide) (by decide) hr_fm) hZ (own_w hw 95 rfl) (own_w hw 10 rfl) (by decide) (by decide)) (g := (mkF m 8 #[.val (.ref a1), .val (.int (1 : Int32)), .val (.int (3 : Int32)), .val (.int (3 : Int32)), .unset] [(.int (3 : Int32)), (.int (3 : Int32)), (.int (1 : Int32))])) rfl (by rw [hml]; rfl) (argsL := [(.int (1 : Int32)), (.int (3 : Int32)), (.int (3 : Int32))]) (rest := []) (lenOf pd_12 rfl) rfl (by show 2 * 0 + _ ≤ _; exact Nat.le_of_eq rfl) (hb hby d19_8) (fun _ _ => ⟨rfl, r1_0, (by decide : 0 + 0 ≤ _), (by decide : 0 + 0 ≤ _)⟩))
  obtain ⟨rfl, N2q, r2_0⟩ := hQ2
  have N2 := Fr.app N1 N2q
  refine OGo.via st2 ?_
  show OGo _ _ _ _ (T2.setTop (mkF m 11 #[.val (.ref a1), .val (.int (1 : Int32)), .val (.int (3 : Int32)), .val (.int (3 : Int32)), .unset] []))
  refine OGo.via (fun _ k => XS.iloadN X2.here hx rfl (hb hby d19_11) rfl (XS.ifYes X2.here hx rfl (pc0 := 12) (pc' := 22) rfl (hb hby d19_12) rfl ((if0 _ _).trans (feq (by decide : ¬ ((1 : Int32) = (0 : Int32)))).2) (by decide) (by decide) (XS.iloadN X2.here hx rfl (hb hby d19_22) rfl (XS.iloadN X2.here hx rfl (hb hby d19_23) rfl (XS.isub X2.here hx rfl (hb hby d19_24) rfl k))))) ?_
  show OGo _ _ _ _ (T2.setTop (mkF m 25 #[.val (.ref a1), .val (.int (1 : Int32)), .val (.int (3 : Int32)), .val (.int (3 : Int32)), .unset] [(.int ((3 : Int32) - (1 : Int32)))]))
  rw [show ((3 : Int32) - (1 : Int32)) = (2 : Int32) from by decide]
  refine OGo.via (fun _ k => XS.istore X2.here hx rfl (hb hby d19_25) rfl (l' := #[.val (.ref a1), .val (.int (1 : Int32)), .val (.int (3 : Int32)), .val (.int (3 : Int32)), .val (.int (2 : Int32))]) rfl (XS.aloadN X2.here hx rfl (hb hby d19_27) rfl rfl k)) ?_
  obtain ⟨cq4, kq4, q4a, q4b, q4c⟩ := isOf hZ r2_0 E_a1
  obtain ⟨_, T4, Lc4, X4, hQ4, st4⟩ := own_open X2 (X2.virtualBack hx (y := own_y5) (z := own_y5) hown (mvT hZ (own_w hw 58 rfl)) (mvT hZ (own_w hw 59 rfl)) (notFace_of_selects (args := #[]) (mvT hZ (own_w hw 61 rfl))) (mvT hZ (own_w hw 61 rfl)) (mvT hZ (own_w hw 60 rfl)) (by decide) (backOf (W := 0) (rm12 l Z a0 hw [] a1 w va h0 n0 Z0 E_a1 F_value_a1 F_coder_a1 S_COMPACT_STRINGS hw0) hZ (own_w hw 62 rfl) (own_w hw 10 rfl) (by decide) (by decide)) q4a q4c (g := (mkF m 28 #[.val (.ref a1), .val (.int (1 : Int32)), .val (.int (3 : Int32)), .val (.int (3 : Int32)), .val (.int (2 : Int32))] [(.ref a1)])) rfl (by rw [hml]; rfl) (Steps.refl _) (argsL := []) (rest := []) (lenOf pd_9 rfl) rfl (by show 2 * 0 + _ ≤ _; exact Nat.le_of_eq rfl) (hb hby d19_28) (fun _ _ => ⟨rfl, r2_0, (by decide : 0 + 0 ≤ _), (by decide : 0 + 0 ≤ _)⟩))
  obtain ⟨rfl, N4q, r4_0⟩ := hQ4
  have N4 := Fr.app N2 N4q
  refine OGo.via (fun _ k => st4.trans k) ?_
  show OGo _ _ _ _ (T4.setTop (mkF m 31 #[.val (.ref a1), .val (.int (1 : Int32)), .val (.int (3 : Int32)), .val (.int (3 : Int32)), .val (.int (2 : Int32))] [(.int (1 : Int32))]))
  refine OGo.via (fun _ k => XS.ifNo X4.here hx rfl (hb hby d19_31) rfl ((if0 _ _).trans (feq (by decide : ¬ ((1 : Int32) = (0 : Int32)))).1) (XS.aloadN X4.here hx rfl (hb hby d19_34) rfl rfl k)) ?_
  obtain ⟨T5, X5, e5, st5⟩ := getF X4 hx hZ hown (host := "") (Or.inl (own_w hw 35 rfl)) Via.refl r4_0 F_value_a1 (g := (mkF m 35 #[.val (.ref a1), .val (.int (1 : Int32)), .val (.int (3 : Int32)), .val (.int (3 : Int32)), .val (.int (2 : Int32))] [(.ref a1)])) rfl rfl (hb hby d19_35)
  refine OGo.via st5 ?_
  show OGo _ _ _ _ (T5.setTop (mkF m 38 #[.val (.ref a1), .val (.int (1 : Int32)), .val (.int (3 : Int32)), .val (.int (3 : Int32)), .val (.int (2 : Int32))] [(.ref va)]))
  refine OGo.via (fun _ k => XS.iloadN X5.here hx rfl (hb hby d19_38) rfl (XS.iload X5.here hx rfl (hb hby d19_39) rfl k)) ?_
  obtain ⟨_, T6, Lc6, X6, hQ6, st6⟩ := own_open X5 (Jvm.LawKit.callS X5 hx (y := own_y22) hown (mvT hZ (own_w hw 101 rfl)) (mvT hZ (own_w hw 102 rfl)) (mvT hZ (own_w hw 75 rfl)) (mvT hZ (own_w hw 103 rfl)) (by decide) (backOf (W := 0) (rm22_3_3 l Z a0 hw [] va k1 y0 y1 y2 w fm h0 n0 Z0 V_va S_COMPACT_STRINGS S_SIOOBE_FORMATTER) hZ (own_w hw 103 rfl) (own_w hw 75 rfl) (by decide) (by decide)) (g := (mkF m 41 #[.val (.ref a1), .val (.int (1 : Int32)), .val (.int (3 : Int32)), .val (.int (3 : Int32)), .val (.int (2 : Int32))] [(.int (2 : Int32)), (.int (1 : Int32)), (.ref va)])) rfl (by rw [hml]; rfl) (argsL := [(.ref va), (.int (1 : Int32)), (.int (2 : Int32))]) (rest := []) (lenOf pd_13 rfl) rfl (by show 2 * 0 + _ ≤ _; exact Nat.le_of_eq rfl) (hb hby d19_41) (fun _ _ => ⟨rfl, e5, (by decide : 0 + 2 ≤ _), (by decide : 0 + 6 ≤ _)⟩))
  obtain ⟨rr, vb, kb, rfl, N6q, r6_0, r6_1, r6_2, r6_3, r6_4⟩ := hQ6
  have N6 := Fr.app N4 N6q
  have K6 : Keep h0 T6.heap [] := (Keep.refl h0 []).trans r6_0 all0
  refine OGo.via st6 ?_
  show OGo _ _ _ _ (T6.setTop (mkF m 44 #[.val (.ref a1), .val (.int (1 : Int32)), .val (.int (3 : Int32)), .val (.int (3 : Int32)), .val (.int (2 : Int32))] [(.ref rr)]))
  refine OGo.via (fun _ k => XS.goto X6.here hx rfl (pc0 := 44) (pc' := 57) rfl (hb hby d19_44) (by decide) (by decide) k) ?_
  show OGo _ _ _ _ (T6.setTop (mkF m 57 #[.val (.ref a1), .val (.int (1 : Int32)), .val (.int (3 : Int32)), .val (.int (3 : Int32)), .val (.int (2 : Int32))] [(.ref rr)]))
  refine own_retA X6 hx Bd.notSynchronized Bd.returns rfl rfl (hb hby d19_57) (by decide) (by decide) ?_
  show Q_rm19_3_3 Z _ _ _ _ _ _ _ _ h0 n0 _ T6.heap _
  exact ⟨rr, vb, kb, rfl, N6, K6, r6_1, r6_2, r6_3, r6_4⟩
theorem ef_rm19_4_1 (m : MethodId) (a1 : Addr) : entryFrame m #[(.ref a1), (.int (1 : Int32)), (.int (1 : Int32))] 5 = mkF m 0 #[.val (.ref a1), .val (.int (1 : Int32)), .val (.int (1 : Int32)), .unset, .unset] [] := by
  first | (simp [entryFrame, mkF, argsToLocals, Value.category]; done) | rfl
def Q_rm19_4_1 (Z : State) (a1 : Addr) (w : Int32) (fm : Value) (va : Addr) (k1 : ClassId) (y0 : Int32) (y1 : Int32) (y2 : Int32) (y3 : Int32) (h0 : Heap) (n0 : Nat) (v : Option Value) (h : Heap) (L : List Loc) : Prop := ∃ rr : Addr, ∃ vb : Addr, ∃ kb : ClassId, v = some (.ref rr) ∧ Fr n0 L ∧ Keep h0 h [] ∧ Exa Z h rr "java/lang/String" ∧ Fld Z h rr "java/lang/String" "value" "[B" (.ref vb) ∧ Fld Z h rr "java/lang/String" "coder" "B" (.int (0 : Int32)) ∧ Arv Z h vb kb .byte (0 : Int32) [] (.int (0 : Int32))
abbrev R_rm19_4_1 : Room := ⟨2, 2, 4, 29⟩
set_option maxRecDepth 65536 in
set_option maxHeartbeats 40000000 in
theorem rm19_4_1 (l : Launch) (Z : State) (a0 : Array Value) (hw : ∀ d ∈ tables_1, d.before a0 Z = true) (ws : List Jvm.Cond) (a1 : Addr) (w : Int32) (fm : Value) (va : Addr) (k1 : ClassId) (y0 : Int32) (y1 : Int32) (y2 : Int32) (y3 : Int32) (h0 : Heap) (n0 : Nat) (Z0 : n0 ≤ h0.size) (E_a1 : Exa Z h0 a1 "java/lang/String") (F_value_a1 : Fld Z h0 a1 "java/lang/String" "value" "[B" (.ref va)) (F_coder_a1 : Fld Z h0 a1 "java/lang/String" "coder" "B" (.int (0 : Int32))) (V_va : Arv Z h0 va k1 .byte (4 : Int32) [(.int y0), (.int y1), (.int y2), (.int y3)] (.int (0 : Int32))) (S_COMPACT_STRINGS : Sta Z h0 "java/lang/String" "COMPACT_STRINGS" "Z" (.int w)) (S_SIOOBE_FORMATTER : Sta Z h0 "jdk/internal/util/Preconditions" "SIOOBE_FORMATTER" "Ljava/util/function/BiFunction;" fm) (hw0 : ¬ w = (0 : Int32)) (hr_fm : fm.isRef = true) (hold : ∀ (b : Addr) (cl : Cell), Z.heap[b]? = some cl → h0[b]? = some cl) (hhc : Jvm.Lit.constHeld Z "java/lang/StringLatin1" 151) (hcw : Jvm.Lit.compactW.before a0 Z = true) :
    MetFree l own_y23 (head1 (Jvm.Cond.code own_y23 jdk_42_method_92_code 5 (some (.object "java/lang/String")) :: ws) R_rm19_4_1) (fun a U => a = #[(.ref a1), (.int (1 : Int32)), (.int (1 : Int32))] ∧ Z.WarmedH U.vm ∧ U.heap = h0) (fun _ _ _ _ _ => True) (fun _ U o U' => ∃ v L, o = .returned v ∧ Q_rm19_4_1 Z a1 w fm va k1 y0 y1 y2 y3 h0 n0 v U'.heap L ∧ ReturnedEndW U o U' L R_rm19_4_1.cells R_rm19_4_1.slots) := by
  refine MetFree.of_bodySF (plainFor_of_name pn_String) hisR ?_
  intro p e s m args below meth c s₁ Bd hml0 hP hK
  obtain ⟨rfl, hZH, hh⟩ := hP
  have hZ := hZH.wide
  have hx := Bd.exec
  have hby := Bd.bytes
  have hml : c.maxLocals = 5 := hml0
  have hown : s.vm.findClass "java/lang/String" = some m.cls := findClass_of_methodNamed Bd.named
  have hnm := (name_of_methodNamed Bd.named Bd.method).1
  have X0 : Stand p l e R_rm19_4_1 s m #[(.ref a1), (.int (1 : Int32)), (.int (1 : Int32))] below meth c s₁ [] 0 0 := Stand.of_body Bd
  have e0 : s₁.heap = h0 := by rw [← hh, Bd.state]; rfl
  have N0 := Fr.nil n0
  show OGo p.tables e below (own_KqW s (fun v h L => Q_rm19_4_1 Z a1 w fm va k1 y0 y1 y2 y3 h0 n0 v h L) R_rm19_4_1.cells R_rm19_4_1.slots) (s₁.setTop (entryFrame m #[(.ref a1), (.int (1 : Int32)), (.int (1 : Int32))] 5))
  refine OGo.cast (ef_rm19_4_1 m a1) ?_
  show OGo _ _ _ _ (s₁.setTop (mkF m 0 #[.val (.ref a1), .val (.int (1 : Int32)), .val (.int (1 : Int32)), .unset, .unset] []))
  refine OGo.via (fun _ k => XS.aloadN X0.here hx rfl (hb hby d19_0) rfl rfl k) ?_
  obtain ⟨cq1, kq1, q1a, q1b, q1c⟩ := isOf hZ e0 E_a1
  obtain ⟨_, T1, Lc1, X1, hQ1, st1⟩ := own_open X0 (X0.virtualBack hx (y := own_y6) (z := own_y6) hown (mvT hZ (own_w hw 63 rfl)) (mvT hZ (own_w hw 64 rfl)) (notFace_of_selects (args := #[]) (mvT hZ (own_w hw 66 rfl))) (mvT hZ (own_w hw 66 rfl)) (mvT hZ (own_w hw 65 rfl)) (by decide) (backOf (W := 0) (rm13 l Z a0 hw [] a1 w va k1 [(.int y0), (.int y1), (.int y2), (.int y3)] (4 : Int32) h0 n0 Z0 E_a1 F_value_a1 F_coder_a1 V_va S_COMPACT_STRINGS hw0) hZ (own_w hw 67 rfl) (own_w hw 10 rfl) (by decide) (by decide)) q1a q1c (g := (mkF m 1 #[.val (.ref a1), .val (.int (1 : Int32)), .val (.int (1 : Int32)), .unset, .unset] [(.ref a1)])) rfl (by rw [hml]; rfl) (Steps.refl _) (argsL := []) (rest := []) (lenOf pd_11 rfl) rfl (by show 2 * 0 + _ ≤ _; exact Nat.le_of_eq rfl) (hb hby d19_1) (fun _ _ => ⟨rfl, e0, (by decide : 0 + 0 ≤ _), (by decide : 0 + 0 ≤ _)⟩))
  obtain ⟨rfl, N1q, r1_0⟩ := hQ1
  have N1 := Fr.app N0 N1q
  refine OGo.via (fun _ k => st1.trans k) ?_
  show OGo _ _ _ _ (T1.setTop (mkF m 4 #[.val (.ref a1), .val (.int (1 : Int32)), .val (.int (1 : Int32)), .unset, .unset] [(.int (4 : Int32))]))
  refine OGo.via (fun _ k => XS.istoreN X1.here hx rfl (hb hby d19_4) rfl (l' := #[.val (.ref a1), .val (.int (1 : Int32)), .val (.int (1 : Int32)), .val (.int (4 : Int32)), .unset]) rfl (XS.iloadN X1.here hx rfl (hb hby d19_5) rfl (XS.iloadN X1.here hx rfl (hb hby d19_6) rfl (XS.iloadN X1.here hx rfl (hb hby d19_7) rfl k)))) ?_
  obtain ⟨_, T2, Lc2, X2, hQ2, st2⟩ := own_open X1 (Jvm.LawKit.callS X1 hx (y := own_y15) hown (mvT hZ (own_w hw 93 rfl)) (mvT hZ (own_w hw 94 rfl)) (mvT hZ (own_w hw 10 rfl)) (mvT hZ (own_w hw 95 rfl)) (by decide) (backOf (W := 0) (rm20 l Z a0 hw [] (1 : Int32) (1 : Int32) (4 : Int32) fm h0 n0 Z0 S_SIOOBE_FORMATTER (by decide) (by decide) (by decide) hr_fm) hZ (own_w hw 95 rfl) (own_w hw 10 rfl) (by decide) (by decide)) (g := (mkF m 8 #[.val (.ref a1), .val (.int (1 : Int32)), .val (.int (1 : Int32)), .val (.int (4 : Int32)), .unset] [(.int (4 : Int32)), (.int (1 : Int32)), (.int (1 : Int32))])) rfl (by rw [hml]; rfl) (argsL := [(.int (1 : Int32)), (.int (1 : Int32)), (.int (4 : Int32))]) (rest := []) (lenOf pd_12 rfl) rfl (by show 2 * 0 + _ ≤ _; exact Nat.le_of_eq rfl) (hb hby d19_8) (fun _ _ => ⟨rfl, r1_0, (by decide : 0 + 0 ≤ _), (by decide : 0 + 0 ≤ _)⟩))
  obtain ⟨rfl, N2q, r2_0⟩ := hQ2
  have N2 := Fr.app N1 N2q
  refine OGo.via st2 ?_
  show OGo _ _ _ _ (T2.setTop (mkF m 11 #[.val (.ref a1), .val (.int (1 : Int32)), .val (.int (1 : Int32)), .val (.int (4 : Int32)), .unset] []))
  refine OGo.via (fun _ k => XS.iloadN X2.here hx rfl (hb hby d19_11) rfl (XS.ifYes X2.here hx rfl (pc0 := 12) (pc' := 22) rfl (hb hby d19_12) rfl ((if0 _ _).trans (feq (by decide : ¬ ((1 : Int32) = (0 : Int32)))).2) (by decide) (by decide) (XS.iloadN X2.here hx rfl (hb hby d19_22) rfl (XS.iloadN X2.here hx rfl (hb hby d19_23) rfl (XS.isub X2.here hx rfl (hb hby d19_24) rfl k))))) ?_
  show OGo _ _ _ _ (T2.setTop (mkF m 25 #[.val (.ref a1), .val (.int (1 : Int32)), .val (.int (1 : Int32)), .val (.int (4 : Int32)), .unset] [(.int ((1 : Int32) - (1 : Int32)))]))
  rw [show ((1 : Int32) - (1 : Int32)) = (0 : Int32) from by decide]
  refine OGo.via (fun _ k => XS.istore X2.here hx rfl (hb hby d19_25) rfl (l' := #[.val (.ref a1), .val (.int (1 : Int32)), .val (.int (1 : Int32)), .val (.int (4 : Int32)), .val (.int (0 : Int32))]) rfl (XS.aloadN X2.here hx rfl (hb hby d19_27) rfl rfl k)) ?_
  obtain ⟨cq4, kq4, q4a, q4b, q4c⟩ := isOf hZ r2_0 E_a1
  obtain ⟨_, T4, Lc4, X4, hQ4, st4⟩ := own_open X2 (X2.virtualBack hx (y := own_y5) (z := own_y5) hown (mvT hZ (own_w hw 58 rfl)) (mvT hZ (own_w hw 59 rfl)) (notFace_of_selects (args := #[]) (mvT hZ (own_w hw 61 rfl))) (mvT hZ (own_w hw 61 rfl)) (mvT hZ (own_w hw 60 rfl)) (by decide) (backOf (W := 0) (rm12 l Z a0 hw [] a1 w va h0 n0 Z0 E_a1 F_value_a1 F_coder_a1 S_COMPACT_STRINGS hw0) hZ (own_w hw 62 rfl) (own_w hw 10 rfl) (by decide) (by decide)) q4a q4c (g := (mkF m 28 #[.val (.ref a1), .val (.int (1 : Int32)), .val (.int (1 : Int32)), .val (.int (4 : Int32)), .val (.int (0 : Int32))] [(.ref a1)])) rfl (by rw [hml]; rfl) (Steps.refl _) (argsL := []) (rest := []) (lenOf pd_9 rfl) rfl (by show 2 * 0 + _ ≤ _; exact Nat.le_of_eq rfl) (hb hby d19_28) (fun _ _ => ⟨rfl, r2_0, (by decide : 0 + 0 ≤ _), (by decide : 0 + 0 ≤ _)⟩))
  obtain ⟨rfl, N4q, r4_0⟩ := hQ4
  have N4 := Fr.app N2 N4q
  refine OGo.via (fun _ k => st4.trans k) ?_
  show OGo _ _ _ _ (T4.setTop (mkF m 31 #[.val (.ref a1), .val (.int (1 : Int32)), .val (.int (1 : Int32)), .val (.int (4 : Int32)), .val (.int (0 : Int32))] [(.int (1 : Int32))]))
  refine OGo.via (fun _ k => XS.ifNo X4.here hx rfl (hb hby d19_31) rfl ((if0 _ _).trans (feq (by decide : ¬ ((1 : Int32) = (0 : Int32)))).1) (XS.aloadN X4.here hx rfl (hb hby d19_34) rfl rfl k)) ?_
  obtain ⟨T5, X5, e5, st5⟩ := getF X4 hx hZ hown (host := "") (Or.inl (own_w hw 35 rfl)) Via.refl r4_0 F_value_a1 (g := (mkF m 35 #[.val (.ref a1), .val (.int (1 : Int32)), .val (.int (1 : Int32)), .val (.int (4 : Int32)), .val (.int (0 : Int32))] [(.ref a1)])) rfl rfl (hb hby d19_35)
  refine OGo.via st5 ?_
  show OGo _ _ _ _ (T5.setTop (mkF m 38 #[.val (.ref a1), .val (.int (1 : Int32)), .val (.int (1 : Int32)), .val (.int (4 : Int32)), .val (.int (0 : Int32))] [(.ref va)]))
  refine OGo.via (fun _ k => XS.iloadN X5.here hx rfl (hb hby d19_38) rfl (XS.iload X5.here hx rfl (hb hby d19_39) rfl k)) ?_
  obtain ⟨_, T6, Lc6, X6, hSi6, hQ6, st6⟩ := own_openS X5 (Jvm.RoadKit.callSS X5 hx (y := own_y22) hown (mvT hZ (own_w hw 101 rfl)) (mvT hZ (own_w hw 102 rfl)) (mvT hZ (own_w hw 75 rfl)) (mvT hZ (own_w hw 103 rfl)) (by decide) (own_backOfSH (W := 0) (rm22_w l Z a0 hw [] va h0 n0 Z0 hold hhc hcw) hZH (own_w hw 103 rfl) (own_w hw 75 rfl) (by decide) (by decide)) (g := (mkF m 41 #[.val (.ref a1), .val (.int (1 : Int32)), .val (.int (1 : Int32)), .val (.int (4 : Int32)), .val (.int (0 : Int32))] [(.int (0 : Int32)), (.int (1 : Int32)), (.ref va)])) rfl (by rw [hml]; rfl) (argsL := [(.ref va), (.int (1 : Int32)), (.int (0 : Int32))]) (rest := []) (lenOf pd_13 rfl) rfl (by show 2 * 0 + _ ≤ _; exact Nat.le_of_eq rfl) (hb hby d19_41) (fun _ _ => ⟨rfl, e5, (by decide : 0 + 2 ≤ _), (by decide : 0 + 4 ≤ _)⟩))
  have hZ6 : Z.Warmed39 (s.setVm T6.vm).vm := State.Warmed39.trans hZ hSi6.1
  have hown6 : (s.setVm T6.vm).vm.findClass "java/lang/String" = some m.cls := by rw [show (s.setVm T6.vm).vm = T6.vm from rfl, hSi6.1.alike.findClass]; exact hown
  obtain ⟨rr, vb, kb, rfl, N6q, r6_0, r6_1, r6_2, r6_3, r6_4⟩ := hQ6
  have N6 := Fr.app N4 N6q
  have K6 : Keep h0 T6.heap [] := (Keep.refl h0 []).trans r6_0 all0
  refine OGo.via (fun _ k => st6.trans k) ?_
  show OGo _ _ _ _ (T6.setTop (mkF m 44 #[.val (.ref a1), .val (.int (1 : Int32)), .val (.int (1 : Int32)), .val (.int (4 : Int32)), .val (.int (0 : Int32))] [(.ref rr)]))
  refine OGo.via (fun _ k => XS.goto X6.here hx rfl (pc0 := 44) (pc' := 57) rfl (hb hby d19_44) (by decide) (by decide) k) ?_
  show OGo _ _ _ _ (T6.setTop (mkF m 57 #[.val (.ref a1), .val (.int (1 : Int32)), .val (.int (1 : Int32)), .val (.int (4 : Int32)), .val (.int (0 : Int32))] [(.ref rr)]))
  refine own_retAW X6 hSi6 (Nat.le_refl T6.heap.size) hx Bd.notSynchronized Bd.returns rfl rfl (hb hby d19_57) (by decide) (by decide) ?_
  show Q_rm19_4_1 Z _ _ _ _ _ _ _ _ _ h0 n0 _ T6.heap _
  exact ⟨rr, vb, kb, rfl, N6, K6, r6_1, r6_2, r6_3, r6_4⟩
theorem ef_rm25_4_2 (m : MethodId) (a1 : Addr) : entryFrame m #[(.ref a1), (.int (1 : Int32)), (.int (2 : Int32))] 5 = mkF m 0 #[.val (.ref a1), .val (.int (1 : Int32)), .val (.int (2 : Int32)), .unset, .unset] [] := by
  first | (simp [entryFrame, mkF, argsToLocals, Value.category]; done) | rfl
def Q_rm25_4_2 (Z : State) (a1 : Addr) (k1 : ClassId) (y0 : Int32) (y1 : Int32) (y2 : Int32) (y3 : Int32) (h0 : Heap) (n0 : Nat) (v : Option Value) (h : Heap) (L : List Loc) : Prop := ∃ vb : Addr, ∃ kb : ClassId, v = some (.ref vb) ∧ Fr n0 L ∧ Keep h0 h [] ∧ h0.size ≤ vb ∧ Arv Z h vb kb .byte (1 : Int32) [(.int y1)] (.int (0 : Int32))
abbrev R_rm25_4_2 : Room := ⟨1, 1, 1, 18⟩
set_option maxRecDepth 65536 in
set_option maxHeartbeats 40000000 in
theorem rm25_4_2 (l : Launch) (Z : State) (a0 : Array Value) (hw : ∀ d ∈ tables_1, d.before a0 Z = true) (ws : List Jvm.Cond) (a1 : Addr) (k1 : ClassId) (y0 : Int32) (y1 : Int32) (y2 : Int32) (y3 : Int32) (h0 : Heap) (n0 : Nat) (Z0 : n0 ≤ h0.size) (V_a1 : Arv Z h0 a1 k1 .byte (4 : Int32) [(.int y0), (.int y1), (.int y2), (.int y3)] (.int (0 : Int32))) :
    MetFree l own_y24 (head1 (Jvm.Cond.code own_y24 jdk_65_method_133_code 5 (some (.array .byte)) :: ws) R_rm25_4_2) (fun a U => a = #[(.ref a1), (.int (1 : Int32)), (.int (2 : Int32))] ∧ Z.Warmed39 U.vm ∧ U.heap = h0) (fun _ _ _ _ _ => True) (fun _ U o U' => ∃ v L, o = .returned v ∧ Q_rm25_4_2 Z a1 k1 y0 y1 y2 y3 h0 n0 v U'.heap L ∧ FrameEnd U o U' L R_rm25_4_2.cells R_rm25_4_2.slots) := by
  refine MetFree.of_bodySF (plainFor_of_name pn_Arrays) hisR ?_
  intro p e s m args below meth c s₁ Bd hml0 hP hK
  obtain ⟨rfl, hZ, hh⟩ := hP
  have hx := Bd.exec
  have hby := Bd.bytes
  have hml : c.maxLocals = 5 := hml0
  have hown : s.vm.findClass "java/util/Arrays" = some m.cls := findClass_of_methodNamed Bd.named
  have hnm := (name_of_methodNamed Bd.named Bd.method).1
  have X0 : Stand p l e R_rm25_4_2 s m #[(.ref a1), (.int (1 : Int32)), (.int (2 : Int32))] below meth c s₁ [] 0 0 := Stand.of_body Bd
  have e0 : s₁.heap = h0 := by rw [← hh, Bd.state]; rfl
  have N0 := Fr.nil n0
  show OGo p.tables e below (own_Kq s (fun v h L => Q_rm25_4_2 Z a1 k1 y0 y1 y2 y3 h0 n0 v h L) R_rm25_4_2.cells R_rm25_4_2.slots) (s₁.setTop (entryFrame m #[(.ref a1), (.int (1 : Int32)), (.int (2 : Int32))] 5))
  refine OGo.cast (ef_rm25_4_2 m a1) ?_
  show OGo _ _ _ _ (s₁.setTop (mkF m 0 #[.val (.ref a1), .val (.int (1 : Int32)), .val (.int (2 : Int32)), .unset, .unset] []))
  refine OGo.via (fun _ k => XS.iloadN X0.here hx rfl (hb hby d25_0) rfl (XS.iloadN X0.here hx rfl (hb hby d25_1) rfl k)) ?_
  obtain ⟨_, T1, Lc1, X1, hQ1, st1⟩ := own_open X0 (Jvm.LawKit.callS X0 hx (y := own_y20) hown (mvT hZ (own_w hw 119 rfl)) (mvT hZ (own_w hw 120 rfl)) (mvT hZ (own_w hw 114 rfl)) (mvT hZ (own_w hw 121 rfl)) (by decide) (backOf (W := 0) (rm26 l Z a0 hw [] (1 : Int32) (2 : Int32) h0 n0 Z0 (by decide)) hZ (own_w hw 121 rfl) (own_w hw 114 rfl) (by decide) (by decide)) (g := (mkF m 2 #[.val (.ref a1), .val (.int (1 : Int32)), .val (.int (2 : Int32)), .unset, .unset] [(.int (2 : Int32)), (.int (1 : Int32))])) rfl (by rw [hml]; rfl) (argsL := [(.int (1 : Int32)), (.int (2 : Int32))]) (rest := []) (lenOf pd_8 rfl) rfl (by show 2 * 0 + _ ≤ _; exact Nat.le_of_eq rfl) (hb hby d25_2) (fun _ _ => ⟨rfl, e0, (by decide : 0 + 0 ≤ _), (by decide : 0 + 0 ≤ _)⟩))
  obtain ⟨rfl, N1q, r1_0⟩ := hQ1
  have N1 := Fr.app N0 N1q
  refine OGo.via st1 ?_
  show OGo _ _ _ _ (T1.setTop (mkF m 5 #[.val (.ref a1), .val (.int (1 : Int32)), .val (.int (2 : Int32)), .unset, .unset] []))
  refine OGo.via (fun _ k => XS.iloadN X1.here hx rfl (hb hby d25_5) rfl (XS.iloadN X1.here hx rfl (hb hby d25_6) rfl (XS.isub X1.here hx rfl (hb hby d25_7) rfl k))) ?_
  show OGo _ _ _ _ (T1.setTop (mkF m 8 #[.val (.ref a1), .val (.int (1 : Int32)), .val (.int (2 : Int32)), .unset, .unset] [(.int ((2 : Int32) - (1 : Int32)))]))
  rw [show ((2 : Int32) - (1 : Int32)) = (1 : Int32) from by decide]
  refine OGo.via (fun _ k => XS.istoreN X1.here hx rfl (hb hby d25_8) rfl (l' := #[.val (.ref a1), .val (.int (1 : Int32)), .val (.int (2 : Int32)), .val (.int (1 : Int32)), .unset]) rfl (XS.iloadN X1.here hx rfl (hb hby d25_9) rfl k)) ?_
  obtain ⟨T3, h3, ka3, X3, e3, E3, A3, Y3, st3⟩ := newPE (ad := "[B") X1 hx hZ (own_w hw 26 rfl) r1_0 (g := (mkF m 10 #[.val (.ref a1), .val (.int (1 : Int32)), .val (.int (2 : Int32)), .val (.int (1 : Int32)), .unset] [(.int (1 : Int32))])) rfl (hb hby d25_10) rfl (by decide) (cap := 1) (by decide) (by decide) (by decide) (by decide) (by decide)
  obtain ⟨b3, g3⟩ : ∃ z, z = h0.size := ⟨_, rfl⟩
  rw [← g3] at A3 Y3 st3
  refine OGo.via st3 ?_
  have K3 : Keep h0 h3 [] := (Keep.refl h0 []).ext E3
  have lt_a1_b3 : a1 < b3 := Nat.lt_of_lt_of_le V_a1.lt (Nat.le_of_eq g3.symm)
  have sz_b3 : h0.size ≤ b3 := Nat.le_trans (Keep.refl h0 []).1 (Nat.le_of_eq g3.symm)
  have g_b3 : n0 ≤ b3 := Nat.le_trans Z0 sz_b3
  have V3 : Arv Z h3 b3 ka3 .byte (1 : Int32) [(.int (0 : Int32))] (.int (0 : Int32)) := (Arv.new A3 (by decide)).pad (pad_rep [] (.int (0 : Int32)) 1)
  show OGo _ _ _ _ (T3.setTop (mkF m 12 #[.val (.ref a1), .val (.int (1 : Int32)), .val (.int (2 : Int32)), .val (.int (1 : Int32)), .unset] [(.ref b3)]))
  refine OGo.via (fun _ k => XS.astore X3.here hx rfl (hb hby d25_12) rfl rfl (l' := #[.val (.ref a1), .val (.int (1 : Int32)), .val (.int (2 : Int32)), .val (.int (1 : Int32)), .val (.ref b3)]) rfl (XS.aloadN X3.here hx rfl (hb hby d25_14) rfl rfl (XS.iloadN X3.here hx rfl (hb hby d25_15) rfl (XS.aload X3.here hx rfl (hb hby d25_16) rfl rfl (XS.iconst X3.here hx rfl (hb hby d25_18) (XS.aloadN X3.here hx rfl (hb hby d25_19) rfl rfl k)))))) ?_
  have f5 := V_a1.ext E3
  obtain ⟨cl4, Ar4, q4, Sz4, Ng4, Hs4, Gf4⟩ := id f5
  refine OGo.via (X3.arraylength hx (by rw [e3]; exact Ar4.1) (State.isArrayOf_alike hZ.alike Ar4.2.1) (g := (mkF m 20 #[.val (.ref a1), .val (.int (1 : Int32)), .val (.int (2 : Int32)), .val (.int (1 : Int32)), .val (.ref b3)] [(.ref a1), (.int (0 : Int32)), (.ref b3), (.int (1 : Int32)), (.ref a1)])) rfl rfl (hb hby d25_20)) ?_
  rw [len_of Sz4 Ng4]
  show OGo _ _ _ _ (T3.setTop (mkF m 21 #[.val (.ref a1), .val (.int (1 : Int32)), .val (.int (2 : Int32)), .val (.int (1 : Int32)), .val (.ref b3)] [(.int (4 : Int32)), (.int (0 : Int32)), (.ref b3), (.int (1 : Int32)), (.ref a1)]))
  refine OGo.via (fun _ k => XS.iloadN X3.here hx rfl (hb hby d25_21) rfl (XS.isub X3.here hx rfl (hb hby d25_22) rfl k)) ?_
  show OGo _ _ _ _ (T3.setTop (mkF m 23 #[.val (.ref a1), .val (.int (1 : Int32)), .val (.int (2 : Int32)), .val (.int (1 : Int32)), .val (.ref b3)] [(.int ((4 : Int32) - (1 : Int32))), (.int (0 : Int32)), (.ref b3), (.int (1 : Int32)), (.ref a1)]))
  rw [show ((4 : Int32) - (1 : Int32)) = (3 : Int32) from by decide]
  refine OGo.via (fun _ k => XS.iloadN X3.here hx rfl (hb hby d25_23) rfl k) ?_
  obtain ⟨_, T7, Lc7, X7, hQ7, st7⟩ := own_open X3 (Jvm.LawKit.callS X3 hx (y := own_y2) hown (mvT hZ (own_w hw 122 rfl)) (mvT hZ (own_w hw 85 rfl)) (mvT hZ (own_w hw 82 rfl)) (mvT hZ (own_w hw 86 rfl)) (by decide) (backOf (W := 4) (rm18 l Z a0 hw [] (3 : Int32) (1 : Int32) h3 n0 (Nat.le_trans Z0 K3.1)) hZ (own_w hw 86 rfl) (own_w hw 82 rfl) (by decide) (by decide)) (g := (mkF m 24 #[.val (.ref a1), .val (.int (1 : Int32)), .val (.int (2 : Int32)), .val (.int (1 : Int32)), .val (.ref b3)] [(.int (1 : Int32)), (.int (3 : Int32)), (.int (0 : Int32)), (.ref b3), (.int (1 : Int32)), (.ref a1)])) rfl (by rw [hml]; rfl) (argsL := [(.int (3 : Int32)), (.int (1 : Int32))]) (rest := [(.int (0 : Int32)), (.ref b3), (.int (1 : Int32)), (.ref a1)]) (lenOf pd_14 rfl) rfl (by show 2 * 0 + _ ≤ _; exact Nat.le_of_eq rfl) (hb hby d25_24) (fun _ _ => ⟨rfl, e3, (by decide : 1 + 0 ≤ _), (by decide : 1 + 0 ≤ _)⟩))
  obtain ⟨rfl, N7q, r7_0⟩ := hQ7
  have N7 := Fr.app N1 N7q
  refine OGo.via st7 ?_
  show OGo _ _ _ _ (T7.setTop (mkF m 27 #[.val (.ref a1), .val (.int (1 : Int32)), .val (.int (2 : Int32)), .val (.int (1 : Int32)), .val (.ref b3)] [(.int (if (1 : Int32) < (3 : Int32) then (1 : Int32) else (3 : Int32))), (.int (0 : Int32)), (.ref b3), (.int (1 : Int32)), (.ref a1)]))
  rw [show (if (1 : Int32) < (3 : Int32) then (1 : Int32) else (3 : Int32)) = (1 : Int32) from by decide]
  show OGo _ _ _ _ (T7.setTop (mkF m 27 #[.val (.ref a1), .val (.int (1 : Int32)), .val (.int (2 : Int32)), .val (.int (1 : Int32)), .val (.ref b3)] [(.int (1 : Int32)), (.int (0 : Int32)), (.ref b3), (.int (1 : Int32)), (.ref a1)]))
  obtain ⟨T8, h8, Lc8, X8, e8, N8, Kp8, V8, st8⟩ := cpA X7 hx hZ hown (own_w hw 123 rfl) (own_w hw 126 rfl) (own_w hw 124 rfl) (own_w hw 125 rfl) r7_0 (us := [(.int y1)]) f5 V3 (Or.inl ⟨rfl, rfl⟩) (by decide) (by decide) (by decide) (by decide) (by decide) rfl (Nat.le_of_ble_eq_true rfl) N7 g_b3 (g := (mkF m 27 #[.val (.ref a1), .val (.int (1 : Int32)), .val (.int (2 : Int32)), .val (.int (1 : Int32)), .val (.ref b3)] [(.int (1 : Int32)), (.int (0 : Int32)), (.ref b3), (.int (1 : Int32)), (.ref a1)])) rfl (by rw [hml]; rfl) rfl (hb hby d25_27) (by decide) (W := 0) (by show 2 * 0 + _ ≤ _; exact Nat.le_of_eq rfl) (by decide)
  refine OGo.via st8 ?_
  have Vc8 : Arv Z h8 b3 ka3 .byte (1 : Int32) [(.int y1)] (.int (0 : Int32)) := V8
  have K8 : Keep h0 h8 [] := K3.trans Kp8 (allS (Or.inr sz_b3) all0)
  show OGo _ _ _ _ (T8.setTop (mkF m 30 #[.val (.ref a1), .val (.int (1 : Int32)), .val (.int (2 : Int32)), .val (.int (1 : Int32)), .val (.ref b3)] []))
  refine OGo.via (fun _ k => XS.aload X8.here hx rfl (hb hby d25_30) rfl rfl k) ?_
  show OGo _ _ _ _ (T8.setTop (mkF m 32 #[.val (.ref a1), .val (.int (1 : Int32)), .val (.int (2 : Int32)), .val (.int (1 : Int32)), .val (.ref b3)] [(.ref b3)]))
  refine own_retA X8 hx Bd.notSynchronized Bd.returns rfl rfl (hb hby d25_32) (by decide) (by decide) ?_
  show Q_rm25_4_2 Z _ _ _ _ _ _ h0 n0 _ T8.heap _
  rw [e8]
  exact ⟨b3, ka3, rfl, N8, K8, sz_b3, Vc8⟩
theorem ef_rm24_4_2 (m : MethodId) (a1 : Addr) : entryFrame m #[(.ref a1), (.int (1 : Int32)), (.int (2 : Int32))] 3 = mkF m 0 #[.val (.ref a1), .val (.int (1 : Int32)), .val (.int (2 : Int32))] [] := by
  first | (simp [entryFrame, mkF, argsToLocals, Value.category]; done) | rfl
def Q_rm24_4_2 (Z : State) (a1 : Addr) (k1 : ClassId) (y0 : Int32) (y1 : Int32) (y2 : Int32) (y3 : Int32) (h0 : Heap) (n0 : Nat) (v : Option Value) (h : Heap) (L : List Loc) : Prop := ∃ vb : Addr, ∃ kb : ClassId, v = some (.ref vb) ∧ Fr n0 L ∧ Keep h0 h [] ∧ h0.size ≤ vb ∧ Arv Z h vb kb .byte (1 : Int32) [(.int y1)] (.int (0 : Int32))
abbrev R_rm24_4_2 : Room := ⟨2, 1, 1, 34⟩
set_option maxRecDepth 65536 in
set_option maxHeartbeats 40000000 in
theorem rm24_4_2 (l : Launch) (Z : State) (a0 : Array Value) (hw : ∀ d ∈ tables_1, d.before a0 Z = true) (ws : List Jvm.Cond) (a1 : Addr) (k1 : ClassId) (y0 : Int32) (y1 : Int32) (y2 : Int32) (y3 : Int32) (h0 : Heap) (n0 : Nat) (Z0 : n0 ≤ h0.size) (V_a1 : Arv Z h0 a1 k1 .byte (4 : Int32) [(.int y0), (.int y1), (.int y2), (.int y3)] (.int (0 : Int32))) :
    MetFree l own_y25 (head1 (Jvm.Cond.code own_y25 jdk_65_method_132_code 3 (some (.array .byte)) :: ws) R_rm24_4_2) (fun a U => a = #[(.ref a1), (.int (1 : Int32)), (.int (2 : Int32))] ∧ Z.Warmed39 U.vm ∧ U.heap = h0) (fun _ _ _ _ _ => True) (fun _ U o U' => ∃ v L, o = .returned v ∧ Q_rm24_4_2 Z a1 k1 y0 y1 y2 y3 h0 n0 v U'.heap L ∧ FrameEnd U o U' L R_rm24_4_2.cells R_rm24_4_2.slots) := by
  refine MetFree.of_bodySF (plainFor_of_name pn_Arrays) hisR ?_
  intro p e s m args below meth c s₁ Bd hml0 hP hK
  obtain ⟨rfl, hZ, hh⟩ := hP
  have hx := Bd.exec
  have hby := Bd.bytes
  have hml : c.maxLocals = 3 := hml0
  have hown : s.vm.findClass "java/util/Arrays" = some m.cls := findClass_of_methodNamed Bd.named
  have hnm := (name_of_methodNamed Bd.named Bd.method).1
  have X0 : Stand p l e R_rm24_4_2 s m #[(.ref a1), (.int (1 : Int32)), (.int (2 : Int32))] below meth c s₁ [] 0 0 := Stand.of_body Bd
  have e0 : s₁.heap = h0 := by rw [← hh, Bd.state]; rfl
  have N0 := Fr.nil n0
  show OGo p.tables e below (own_Kq s (fun v h L => Q_rm24_4_2 Z a1 k1 y0 y1 y2 y3 h0 n0 v h L) R_rm24_4_2.cells R_rm24_4_2.slots) (s₁.setTop (entryFrame m #[(.ref a1), (.int (1 : Int32)), (.int (2 : Int32))] 3))
  refine OGo.cast (ef_rm24_4_2 m a1) ?_
  show OGo _ _ _ _ (s₁.setTop (mkF m 0 #[.val (.ref a1), .val (.int (1 : Int32)), .val (.int (2 : Int32))] []))
  refine OGo.via (fun _ k => XS.iloadN X0.here hx rfl (hb hby d24_0) rfl (XS.ifYes X0.here hx rfl (pc0 := 1) (pc' := 10) rfl (hb hby d24_1) rfl ((if0 _ _).trans (feq (by decide : ¬ ((1 : Int32) = (0 : Int32)))).2) (by decide) (by decide) (XS.aloadN X0.here hx rfl (hb hby d24_10) rfl rfl (XS.iloadN X0.here hx rfl (hb hby d24_11) rfl (XS.iloadN X0.here hx rfl (hb hby d24_12) rfl k))))) ?_
  obtain ⟨_, T1, Lc1, X1, hQ1, st1⟩ := own_open X0 (Jvm.LawKit.callS X0 hx (y := own_y24) hown (mvT hZ (own_w hw 116 rfl)) (mvT hZ (own_w hw 117 rfl)) (mvT hZ (own_w hw 114 rfl)) (mvT hZ (own_w hw 118 rfl)) (by decide) (backOf (W := 0) (rm25_4_2 l Z a0 hw [] a1 k1 y0 y1 y2 y3 h0 n0 Z0 V_a1) hZ (own_w hw 118 rfl) (own_w hw 114 rfl) (by decide) (by decide)) (g := (mkF m 13 #[.val (.ref a1), .val (.int (1 : Int32)), .val (.int (2 : Int32))] [(.int (2 : Int32)), (.int (1 : Int32)), (.ref a1)])) rfl (by rw [hml]; rfl) (argsL := [(.ref a1), (.int (1 : Int32)), (.int (2 : Int32))]) (rest := []) (lenOf pd_15 rfl) rfl (by show 2 * 0 + _ ≤ _; exact Nat.le_of_eq rfl) (hb hby d24_13) (fun _ _ => ⟨rfl, e0, (by decide : 0 + 1 ≤ _), (by decide : 0 + 1 ≤ _)⟩))
  obtain ⟨vb, kb, rfl, N1q, r1_0, r1_1, r1_2⟩ := hQ1
  have N1 := Fr.app N0 N1q
  have K1 : Keep h0 T1.heap [] := (Keep.refl h0 []).trans r1_0 all0
  have lt_a1_vb : a1 < vb := Nat.lt_of_lt_of_le V_a1.lt r1_1
  have sz_vb : h0.size ≤ vb := Nat.le_trans (Keep.refl h0 []).1 r1_1
  have g_vb : n0 ≤ vb := Nat.le_trans Z0 sz_vb
  refine OGo.via st1 ?_
  show OGo _ _ _ _ (T1.setTop (mkF m 16 #[.val (.ref a1), .val (.int (1 : Int32)), .val (.int (2 : Int32))] [(.ref vb)]))
  show OGo _ _ _ _ (T1.setTop (mkF m 16 #[.val (.ref a1), .val (.int (1 : Int32)), .val (.int (2 : Int32))] [(.ref vb)]))
  refine own_retA X1 hx Bd.notSynchronized Bd.returns rfl rfl (hb hby d24_16) (by decide) (by decide) ?_
  show Q_rm24_4_2 Z _ _ _ _ _ _ h0 n0 _ T1.heap _
  exact ⟨vb, kb, rfl, N1, K1, sz_vb, r1_2⟩
theorem ef_rm22_4_2 (m : MethodId) (a1 : Addr) : entryFrame m #[(.ref a1), (.int (1 : Int32)), (.int (1 : Int32))] 3 = mkF m 0 #[.val (.ref a1), .val (.int (1 : Int32)), .val (.int (1 : Int32))] [] := by
  first | (simp [entryFrame, mkF, argsToLocals, Value.category]; done) | rfl
def Q_rm22_4_2 (Z : State) (a1 : Addr) (k1 : ClassId) (y0 : Int32) (y1 : Int32) (y2 : Int32) (y3 : Int32) (w : Int32) (fm : Value) (h0 : Heap) (n0 : Nat) (v : Option Value) (h : Heap) (L : List Loc) : Prop := ∃ rr : Addr, ∃ vb : Addr, ∃ kb : ClassId, v = some (.ref rr) ∧ Fr n0 L ∧ Keep h0 h [] ∧ Exa Z h rr "java/lang/String" ∧ Fld Z h rr "java/lang/String" "value" "[B" (.ref vb) ∧ Fld Z h rr "java/lang/String" "coder" "B" (.int (0 : Int32)) ∧ Arv Z h vb kb .byte (1 : Int32) [(.int y1)] (.int (0 : Int32))
abbrev R_rm22_4_2 : Room := ⟨3, 2, 5, 50⟩
set_option maxRecDepth 65536 in
set_option maxHeartbeats 40000000 in
theorem rm22_4_2 (l : Launch) (Z : State) (a0 : Array Value) (hw : ∀ d ∈ tables_1, d.before a0 Z = true) (ws : List Jvm.Cond) (a1 : Addr) (k1 : ClassId) (y0 : Int32) (y1 : Int32) (y2 : Int32) (y3 : Int32) (w : Int32) (fm : Value) (h0 : Heap) (n0 : Nat) (Z0 : n0 ≤ h0.size) (V_a1 : Arv Z h0 a1 k1 .byte (4 : Int32) [(.int y0), (.int y1), (.int y2), (.int y3)] (.int (0 : Int32))) (S_COMPACT_STRINGS : Sta Z h0 "java/lang/String" "COMPACT_STRINGS" "Z" (.int w)) (S_SIOOBE_FORMATTER : Sta Z h0 "jdk/internal/util/Preconditions" "SIOOBE_FORMATTER" "Ljava/util/function/BiFunction;" fm) :
    MetFree l own_y22 (head1 (Jvm.Cond.code own_y22 jdk_43_method_47_code 3 (some (.object "java/lang/String")) :: ws) R_rm22_4_2) (fun a U => a = #[(.ref a1), (.int (1 : Int32)), (.int (1 : Int32))] ∧ Z.Warmed39 U.vm ∧ U.heap = h0) (fun _ _ _ _ _ => True) (fun _ U o U' => ∃ v L, o = .returned v ∧ Q_rm22_4_2 Z a1 k1 y0 y1 y2 y3 w fm h0 n0 v U'.heap L ∧ FrameEnd U o U' L R_rm22_4_2.cells R_rm22_4_2.slots) := by
  refine MetFree.of_bodySF (plainFor_of_name pn_StringLatin1) hisR ?_
  intro p e s m args below meth c s₁ Bd hml0 hP hK
  obtain ⟨rfl, hZ, hh⟩ := hP
  have hx := Bd.exec
  have hby := Bd.bytes
  have hml : c.maxLocals = 3 := hml0
  have hown : s.vm.findClass "java/lang/StringLatin1" = some m.cls := findClass_of_methodNamed Bd.named
  have hnm := (name_of_methodNamed Bd.named Bd.method).1
  have X0 : Stand p l e R_rm22_4_2 s m #[(.ref a1), (.int (1 : Int32)), (.int (1 : Int32))] below meth c s₁ [] 0 0 := Stand.of_body Bd
  have e0 : s₁.heap = h0 := by rw [← hh, Bd.state]; rfl
  have N0 := Fr.nil n0
  show OGo p.tables e below (own_Kq s (fun v h L => Q_rm22_4_2 Z a1 k1 y0 y1 y2 y3 w fm h0 n0 v h L) R_rm22_4_2.cells R_rm22_4_2.slots) (s₁.setTop (entryFrame m #[(.ref a1), (.int (1 : Int32)), (.int (1 : Int32))] 3))
  refine OGo.cast (ef_rm22_4_2 m a1) ?_
  show OGo _ _ _ _ (s₁.setTop (mkF m 0 #[.val (.ref a1), .val (.int (1 : Int32)), .val (.int (1 : Int32))] []))
  refine OGo.via (fun _ k => XS.iloadN X0.here hx rfl (hb hby d22_0) rfl (XS.ifYes X0.here hx rfl (pc0 := 1) (pc' := 7) rfl (hb hby d22_1) rfl ((if0 _ _).trans (feq (by decide : ¬ ((1 : Int32) = (0 : Int32)))).2) (by decide) (by decide) k)) ?_
  obtain ⟨T1, h1, X1, e1, E1, A1, D1, -, st1⟩ := newO X0 hx hZ hown (own_w hw 111 rfl) (own_w hw 9 rfl) (own_w hw 10 rfl) e0 (g := (mkF m 7 #[.val (.ref a1), .val (.int (1 : Int32)), .val (.int (1 : Int32))] [])) rfl (hb hby d22_7) (by decide) (by decide)
  obtain ⟨b1, g1⟩ : ∃ z, z = h0.size := ⟨_, rfl⟩
  rw [← g1] at A1 D1 st1
  refine OGo.via st1 ?_
  have K1 : Keep h0 h1 [] := (Keep.refl h0 []).ext E1
  have lt_a1_b1 : a1 < b1 := Nat.lt_of_lt_of_le V_a1.lt (Nat.le_of_eq g1.symm)
  have sz_b1 : h0.size ≤ b1 := Nat.le_trans (Keep.refl h0 []).1 (Nat.le_of_eq g1.symm)
  have g_b1 : n0 ≤ b1 := Nat.le_trans Z0 sz_b1
  have F1_coder : Fld Z h1 b1 "java/lang/String" "coder" "B" (.int (0 : Int32)) := D1 (Or.inr (own_w hw 34 rfl)) (ty := .byte) (by decide)
  have F1_value : Fld Z h1 b1 "java/lang/String" "value" "[B" .null := D1 (Or.inr (own_w hw 36 rfl)) (ty := (.array .byte)) (by decide)
  show OGo _ _ _ _ (T1.setTop (mkF m 10 #[.val (.ref a1), .val (.int (1 : Int32)), .val (.int (1 : Int32))] [(.ref b1)]))
  refine OGo.via (fun _ k => XS.dup X1.here hx rfl (hb hby d22_10) rfl rfl (XS.aloadN X1.here hx rfl (hb hby d22_11) rfl rfl (XS.iloadN X1.here hx rfl (hb hby d22_12) rfl (XS.iloadN X1.here hx rfl (hb hby d22_13) rfl (XS.iloadN X1.here hx rfl (hb hby d22_14) rfl (XS.iadd X1.here hx rfl (hb hby d22_15) rfl k)))))) ?_
  show OGo _ _ _ _ (T1.setTop (mkF m 16 #[.val (.ref a1), .val (.int (1 : Int32)), .val (.int (1 : Int32))] [(.int ((1 : Int32) + (1 : Int32))), (.int (1 : Int32)), (.ref a1), (.ref b1), (.ref b1)]))
  rw [show ((1 : Int32) + (1 : Int32)) = (2 : Int32) from by decide]
  have f4 := V_a1.ext E1
  obtain ⟨_, T3, Lc3, X3, hQ3, st3⟩ := own_open X1 (Jvm.LawKit.callS X1 hx (y := own_y25) hown (mvT hZ (own_w hw 112 rfl)) (mvT hZ (own_w hw 113 rfl)) (mvT hZ (own_w hw 114 rfl)) (mvT hZ (own_w hw 115 rfl)) (by decide) (backOf (W := 2) (rm24_4_2 l Z a0 hw [] a1 k1 y0 y1 y2 y3 h1 n0 (Nat.le_trans Z0 K1.1) f4) hZ (own_w hw 115 rfl) (own_w hw 114 rfl) (by decide) (by decide)) (g := (mkF m 16 #[.val (.ref a1), .val (.int (1 : Int32)), .val (.int (1 : Int32))] [(.int (2 : Int32)), (.int (1 : Int32)), (.ref a1), (.ref b1), (.ref b1)])) rfl (by rw [hml]; rfl) (argsL := [(.ref a1), (.int (1 : Int32)), (.int (2 : Int32))]) (rest := [(.ref b1), (.ref b1)]) (lenOf pd_15 rfl) rfl (by show 2 * 0 + _ ≤ _; exact Nat.le_of_eq rfl) (hb hby d22_16) (fun _ _ => ⟨rfl, e1, (by decide : 1 + 1 ≤ _), (by decide : 4 + 1 ≤ _)⟩))
  obtain ⟨vb, kb, rfl, N3q, r3_0, r3_1, r3_2⟩ := hQ3
  have N3 := Fr.app N0 N3q
  have K3 : Keep h0 T3.heap [] := K1.trans r3_0 all0
  have lt_a1_vb : a1 < vb := Nat.lt_of_lt_of_le f4.lt r3_1
  have lt_b1_vb : b1 < vb := Nat.lt_of_lt_of_le A1.lt r3_1
  have sz_vb : h0.size ≤ vb := Nat.le_trans K1.1 r3_1
  have g_vb : n0 ≤ vb := Nat.le_trans Z0 sz_vb
  refine OGo.via st3 ?_
  show OGo _ _ _ _ (T3.setTop (mkF m 19 #[.val (.ref a1), .val (.int (1 : Int32)), .val (.int (1 : Int32))] [(.ref vb), (.ref b1), (.ref b1)]))
  refine OGo.via (fun _ k => XS.iconst X3.here hx rfl (hb hby d22_19) k) ?_
  have f6 := A1.keep r3_0
  have f7 := F1_value.keep r3_0 nin0
  have f8 := F1_coder.keep r3_0 nin0
  have f9 := own_staKeep0 S_COMPACT_STRINGS K3
  have f10 := own_staKeep0 S_SIOOBE_FORMATTER K3
  obtain ⟨_, T5, Lc5, X5, hQ5, st5⟩ := own_open X3 (X3.specialBack hx (y := own_y21) rfl hown (mvT hZ (own_w hw 127 rfl)) (mvT hZ (own_w hw 128 rfl)) (mvT hZ (own_w hw 129 rfl)) (by decide) (backOf (W := 1) (rm27 l Z a0 hw [] b1 vb w fm T3.heap n0 (Nat.le_trans Z0 K3.1) f6 f7 f8 g_b1 f9 f10) hZ (own_w hw 129 rfl) (own_w hw 10 rfl) (by decide) (by decide)) (g := (mkF m 20 #[.val (.ref a1), .val (.int (1 : Int32)), .val (.int (1 : Int32))] [(.int (0 : Int32)), (.ref vb), (.ref b1), (.ref b1)])) rfl (by rw [hml]; rfl) (Steps.refl _) (a := b1) (argsL := [(.ref vb), (.int (0 : Int32))]) (rest := [(.ref b1)]) (lenOf pd_16 rfl) rfl (by show 2 * 0 + _ ≤ _; exact Nat.le_of_eq rfl) (hb hby d22_20) (fun _ _ => ⟨rfl, rfl, (by decide : 2 + 0 ≤ _), (by decide : 5 + 0 ≤ _)⟩))
  obtain ⟨rfl, N5q, r5_0, r5_1, r5_2, r5_3, r5_4, r5_5⟩ := hQ5
  have N5 := Fr.app N3 N5q
  have K5 : Keep h0 T5.heap [] := K3.trans r5_0 (allS (Or.inr sz_b1) all0)
  refine OGo.via (fun _ k => st5.trans k) ?_
  show OGo _ _ _ _ (T5.setTop (mkF m 23 #[.val (.ref a1), .val (.int (1 : Int32)), .val (.int (1 : Int32))] [(.ref b1)]))
  show OGo _ _ _ _ (T5.setTop (mkF m 23 #[.val (.ref a1), .val (.int (1 : Int32)), .val (.int (1 : Int32))] [(.ref b1)]))
  have f11 := r3_2.keep r5_0 (ninS (Nat.ne_of_gt lt_b1_vb) nin0)
  refine own_retA X5 hx Bd.notSynchronized Bd.returns rfl rfl (hb hby d22_23) (by decide) (by decide) ?_
  show Q_rm22_4_2 Z _ _ _ _ _ _ _ _ h0 n0 _ T5.heap _
  exact ⟨b1, vb, kb, rfl, N5, K5, r5_1, r5_2, r5_3, f11⟩
theorem ef_rm19_4_2 (m : MethodId) (a1 : Addr) : entryFrame m #[(.ref a1), (.int (1 : Int32)), (.int (2 : Int32))] 5 = mkF m 0 #[.val (.ref a1), .val (.int (1 : Int32)), .val (.int (2 : Int32)), .unset, .unset] [] := by
  first | (simp [entryFrame, mkF, argsToLocals, Value.category]; done) | rfl
def Q_rm19_4_2 (Z : State) (a1 : Addr) (w : Int32) (fm : Value) (va : Addr) (k1 : ClassId) (y0 : Int32) (y1 : Int32) (y2 : Int32) (y3 : Int32) (h0 : Heap) (n0 : Nat) (v : Option Value) (h : Heap) (L : List Loc) : Prop := ∃ rr : Addr, ∃ vb : Addr, ∃ kb : ClassId, v = some (.ref rr) ∧ Fr n0 L ∧ Keep h0 h [] ∧ Exa Z h rr "java/lang/String" ∧ Fld Z h rr "java/lang/String" "value" "[B" (.ref vb) ∧ Fld Z h rr "java/lang/String" "coder" "B" (.int (0 : Int32)) ∧ Arv Z h vb kb .byte (1 : Int32) [(.int y1)] (.int (0 : Int32))
abbrev R_rm19_4_2 : Room := ⟨4, 2, 5, 64⟩
set_option maxRecDepth 65536 in
set_option maxHeartbeats 40000000 in
theorem rm19_4_2 (l : Launch) (Z : State) (a0 : Array Value) (hw : ∀ d ∈ tables_1, d.before a0 Z = true) (ws : List Jvm.Cond) (a1 : Addr) (w : Int32) (fm : Value) (va : Addr) (k1 : ClassId) (y0 : Int32) (y1 : Int32) (y2 : Int32) (y3 : Int32) (h0 : Heap) (n0 : Nat) (Z0 : n0 ≤ h0.size) (E_a1 : Exa Z h0 a1 "java/lang/String") (F_value_a1 : Fld Z h0 a1 "java/lang/String" "value" "[B" (.ref va)) (F_coder_a1 : Fld Z h0 a1 "java/lang/String" "coder" "B" (.int (0 : Int32))) (V_va : Arv Z h0 va k1 .byte (4 : Int32) [(.int y0), (.int y1), (.int y2), (.int y3)] (.int (0 : Int32))) (S_COMPACT_STRINGS : Sta Z h0 "java/lang/String" "COMPACT_STRINGS" "Z" (.int w)) (S_SIOOBE_FORMATTER : Sta Z h0 "jdk/internal/util/Preconditions" "SIOOBE_FORMATTER" "Ljava/util/function/BiFunction;" fm) (hw0 : ¬ w = (0 : Int32)) (hr_fm : fm.isRef = true) :
    MetFree l own_y23 (head1 (Jvm.Cond.code own_y23 jdk_42_method_92_code 5 (some (.object "java/lang/String")) :: ws) R_rm19_4_2) (fun a U => a = #[(.ref a1), (.int (1 : Int32)), (.int (2 : Int32))] ∧ Z.Warmed39 U.vm ∧ U.heap = h0) (fun _ _ _ _ _ => True) (fun _ U o U' => ∃ v L, o = .returned v ∧ Q_rm19_4_2 Z a1 w fm va k1 y0 y1 y2 y3 h0 n0 v U'.heap L ∧ FrameEnd U o U' L R_rm19_4_2.cells R_rm19_4_2.slots) := by
  refine MetFree.of_bodySF (plainFor_of_name pn_String) hisR ?_
  intro p e s m args below meth c s₁ Bd hml0 hP hK
  obtain ⟨rfl, hZ, hh⟩ := hP
  have hx := Bd.exec
  have hby := Bd.bytes
  have hml : c.maxLocals = 5 := hml0
  have hown : s.vm.findClass "java/lang/String" = some m.cls := findClass_of_methodNamed Bd.named
  have hnm := (name_of_methodNamed Bd.named Bd.method).1
  have X0 : Stand p l e R_rm19_4_2 s m #[(.ref a1), (.int (1 : Int32)), (.int (2 : Int32))] below meth c s₁ [] 0 0 := Stand.of_body Bd
  have e0 : s₁.heap = h0 := by rw [← hh, Bd.state]; rfl
  have N0 := Fr.nil n0
  show OGo p.tables e below (own_Kq s (fun v h L => Q_rm19_4_2 Z a1 w fm va k1 y0 y1 y2 y3 h0 n0 v h L) R_rm19_4_2.cells R_rm19_4_2.slots) (s₁.setTop (entryFrame m #[(.ref a1), (.int (1 : Int32)), (.int (2 : Int32))] 5))
  refine OGo.cast (ef_rm19_4_2 m a1) ?_
  show OGo _ _ _ _ (s₁.setTop (mkF m 0 #[.val (.ref a1), .val (.int (1 : Int32)), .val (.int (2 : Int32)), .unset, .unset] []))
  refine OGo.via (fun _ k => XS.aloadN X0.here hx rfl (hb hby d19_0) rfl rfl k) ?_
  obtain ⟨cq1, kq1, q1a, q1b, q1c⟩ := isOf hZ e0 E_a1
  obtain ⟨_, T1, Lc1, X1, hQ1, st1⟩ := own_open X0 (X0.virtualBack hx (y := own_y6) (z := own_y6) hown (mvT hZ (own_w hw 63 rfl)) (mvT hZ (own_w hw 64 rfl)) (notFace_of_selects (args := #[]) (mvT hZ (own_w hw 66 rfl))) (mvT hZ (own_w hw 66 rfl)) (mvT hZ (own_w hw 65 rfl)) (by decide) (backOf (W := 0) (rm13 l Z a0 hw [] a1 w va k1 [(.int y0), (.int y1), (.int y2), (.int y3)] (4 : Int32) h0 n0 Z0 E_a1 F_value_a1 F_coder_a1 V_va S_COMPACT_STRINGS hw0) hZ (own_w hw 67 rfl) (own_w hw 10 rfl) (by decide) (by decide)) q1a q1c (g := (mkF m 1 #[.val (.ref a1), .val (.int (1 : Int32)), .val (.int (2 : Int32)), .unset, .unset] [(.ref a1)])) rfl (by rw [hml]; rfl) (Steps.refl _) (argsL := []) (rest := []) (lenOf pd_11 rfl) rfl (by show 2 * 0 + _ ≤ _; exact Nat.le_of_eq rfl) (hb hby d19_1) (fun _ _ => ⟨rfl, e0, (by decide : 0 + 0 ≤ _), (by decide : 0 + 0 ≤ _)⟩))
  obtain ⟨rfl, N1q, r1_0⟩ := hQ1
  have N1 := Fr.app N0 N1q
  refine OGo.via (fun _ k => st1.trans k) ?_
  show OGo _ _ _ _ (T1.setTop (mkF m 4 #[.val (.ref a1), .val (.int (1 : Int32)), .val (.int (2 : Int32)), .unset, .unset] [(.int (4 : Int32))]))
  refine OGo.via (fun _ k => XS.istoreN X1.here hx rfl (hb hby d19_4) rfl (l' := #[.val (.ref a1), .val (.int (1 : Int32)), .val (.int (2 : Int32)), .val (.int (4 : Int32)), .unset]) rfl (XS.iloadN X1.here hx rfl (hb hby d19_5) rfl (XS.iloadN X1.here hx rfl (hb hby d19_6) rfl (XS.iloadN X1.here hx rfl (hb hby d19_7) rfl k)))) ?_
  obtain ⟨_, T2, Lc2, X2, hQ2, st2⟩ := own_open X1 (Jvm.LawKit.callS X1 hx (y := own_y15) hown (mvT hZ (own_w hw 93 rfl)) (mvT hZ (own_w hw 94 rfl)) (mvT hZ (own_w hw 10 rfl)) (mvT hZ (own_w hw 95 rfl)) (by decide) (backOf (W := 0) (rm20 l Z a0 hw [] (1 : Int32) (2 : Int32) (4 : Int32) fm h0 n0 Z0 S_SIOOBE_FORMATTER (by decide) (by decide) (by decide) hr_fm) hZ (own_w hw 95 rfl) (own_w hw 10 rfl) (by decide) (by decide)) (g := (mkF m 8 #[.val (.ref a1), .val (.int (1 : Int32)), .val (.int (2 : Int32)), .val (.int (4 : Int32)), .unset] [(.int (4 : Int32)), (.int (2 : Int32)), (.int (1 : Int32))])) rfl (by rw [hml]; rfl) (argsL := [(.int (1 : Int32)), (.int (2 : Int32)), (.int (4 : Int32))]) (rest := []) (lenOf pd_12 rfl) rfl (by show 2 * 0 + _ ≤ _; exact Nat.le_of_eq rfl) (hb hby d19_8) (fun _ _ => ⟨rfl, r1_0, (by decide : 0 + 0 ≤ _), (by decide : 0 + 0 ≤ _)⟩))
  obtain ⟨rfl, N2q, r2_0⟩ := hQ2
  have N2 := Fr.app N1 N2q
  refine OGo.via st2 ?_
  show OGo _ _ _ _ (T2.setTop (mkF m 11 #[.val (.ref a1), .val (.int (1 : Int32)), .val (.int (2 : Int32)), .val (.int (4 : Int32)), .unset] []))
  refine OGo.via (fun _ k => XS.iloadN X2.here hx rfl (hb hby d19_11) rfl (XS.ifYes X2.here hx rfl (pc0 := 12) (pc' := 22) rfl (hb hby d19_12) rfl ((if0 _ _).trans (feq (by decide : ¬ ((1 : Int32) = (0 : Int32)))).2) (by decide) (by decide) (XS.iloadN X2.here hx rfl (hb hby d19_22) rfl (XS.iloadN X2.here hx rfl (hb hby d19_23) rfl (XS.isub X2.here hx rfl (hb hby d19_24) rfl k))))) ?_
  show OGo _ _ _ _ (T2.setTop (mkF m 25 #[.val (.ref a1), .val (.int (1 : Int32)), .val (.int (2 : Int32)), .val (.int (4 : Int32)), .unset] [(.int ((2 : Int32) - (1 : Int32)))]))
  rw [show ((2 : Int32) - (1 : Int32)) = (1 : Int32) from by decide]
  refine OGo.via (fun _ k => XS.istore X2.here hx rfl (hb hby d19_25) rfl (l' := #[.val (.ref a1), .val (.int (1 : Int32)), .val (.int (2 : Int32)), .val (.int (4 : Int32)), .val (.int (1 : Int32))]) rfl (XS.aloadN X2.here hx rfl (hb hby d19_27) rfl rfl k)) ?_
  obtain ⟨cq4, kq4, q4a, q4b, q4c⟩ := isOf hZ r2_0 E_a1
  obtain ⟨_, T4, Lc4, X4, hQ4, st4⟩ := own_open X2 (X2.virtualBack hx (y := own_y5) (z := own_y5) hown (mvT hZ (own_w hw 58 rfl)) (mvT hZ (own_w hw 59 rfl)) (notFace_of_selects (args := #[]) (mvT hZ (own_w hw 61 rfl))) (mvT hZ (own_w hw 61 rfl)) (mvT hZ (own_w hw 60 rfl)) (by decide) (backOf (W := 0) (rm12 l Z a0 hw [] a1 w va h0 n0 Z0 E_a1 F_value_a1 F_coder_a1 S_COMPACT_STRINGS hw0) hZ (own_w hw 62 rfl) (own_w hw 10 rfl) (by decide) (by decide)) q4a q4c (g := (mkF m 28 #[.val (.ref a1), .val (.int (1 : Int32)), .val (.int (2 : Int32)), .val (.int (4 : Int32)), .val (.int (1 : Int32))] [(.ref a1)])) rfl (by rw [hml]; rfl) (Steps.refl _) (argsL := []) (rest := []) (lenOf pd_9 rfl) rfl (by show 2 * 0 + _ ≤ _; exact Nat.le_of_eq rfl) (hb hby d19_28) (fun _ _ => ⟨rfl, r2_0, (by decide : 0 + 0 ≤ _), (by decide : 0 + 0 ≤ _)⟩))
  obtain ⟨rfl, N4q, r4_0⟩ := hQ4
  have N4 := Fr.app N2 N4q
  refine OGo.via (fun _ k => st4.trans k) ?_
  show OGo _ _ _ _ (T4.setTop (mkF m 31 #[.val (.ref a1), .val (.int (1 : Int32)), .val (.int (2 : Int32)), .val (.int (4 : Int32)), .val (.int (1 : Int32))] [(.int (1 : Int32))]))
  refine OGo.via (fun _ k => XS.ifNo X4.here hx rfl (hb hby d19_31) rfl ((if0 _ _).trans (feq (by decide : ¬ ((1 : Int32) = (0 : Int32)))).1) (XS.aloadN X4.here hx rfl (hb hby d19_34) rfl rfl k)) ?_
  obtain ⟨T5, X5, e5, st5⟩ := getF X4 hx hZ hown (host := "") (Or.inl (own_w hw 35 rfl)) Via.refl r4_0 F_value_a1 (g := (mkF m 35 #[.val (.ref a1), .val (.int (1 : Int32)), .val (.int (2 : Int32)), .val (.int (4 : Int32)), .val (.int (1 : Int32))] [(.ref a1)])) rfl rfl (hb hby d19_35)
  refine OGo.via st5 ?_
  show OGo _ _ _ _ (T5.setTop (mkF m 38 #[.val (.ref a1), .val (.int (1 : Int32)), .val (.int (2 : Int32)), .val (.int (4 : Int32)), .val (.int (1 : Int32))] [(.ref va)]))
  refine OGo.via (fun _ k => XS.iloadN X5.here hx rfl (hb hby d19_38) rfl (XS.iload X5.here hx rfl (hb hby d19_39) rfl k)) ?_
  obtain ⟨_, T6, Lc6, X6, hQ6, st6⟩ := own_open X5 (Jvm.LawKit.callS X5 hx (y := own_y22) hown (mvT hZ (own_w hw 101 rfl)) (mvT hZ (own_w hw 102 rfl)) (mvT hZ (own_w hw 75 rfl)) (mvT hZ (own_w hw 103 rfl)) (by decide) (backOf (W := 0) (rm22_4_2 l Z a0 hw [] va k1 y0 y1 y2 y3 w fm h0 n0 Z0 V_va S_COMPACT_STRINGS S_SIOOBE_FORMATTER) hZ (own_w hw 103 rfl) (own_w hw 75 rfl) (by decide) (by decide)) (g := (mkF m 41 #[.val (.ref a1), .val (.int (1 : Int32)), .val (.int (2 : Int32)), .val (.int (4 : Int32)), .val (.int (1 : Int32))] [(.int (1 : Int32)), (.int (1 : Int32)), (.ref va)])) rfl (by rw [hml]; rfl) (argsL := [(.ref va), (.int (1 : Int32)), (.int (1 : Int32))]) (rest := []) (lenOf pd_13 rfl) rfl (by show 2 * 0 + _ ≤ _; exact Nat.le_of_eq rfl) (hb hby d19_41) (fun _ _ => ⟨rfl, e5, (by decide : 0 + 2 ≤ _), (by decide : 0 + 5 ≤ _)⟩))
  obtain ⟨rr, vb, kb, rfl, N6q, r6_0, r6_1, r6_2, r6_3, r6_4⟩ := hQ6
  have N6 := Fr.app N4 N6q
  have K6 : Keep h0 T6.heap [] := (Keep.refl h0 []).trans r6_0 all0
  refine OGo.via st6 ?_
  show OGo _ _ _ _ (T6.setTop (mkF m 44 #[.val (.ref a1), .val (.int (1 : Int32)), .val (.int (2 : Int32)), .val (.int (4 : Int32)), .val (.int (1 : Int32))] [(.ref rr)]))
  refine OGo.via (fun _ k => XS.goto X6.here hx rfl (pc0 := 44) (pc' := 57) rfl (hb hby d19_44) (by decide) (by decide) k) ?_
  show OGo _ _ _ _ (T6.setTop (mkF m 57 #[.val (.ref a1), .val (.int (1 : Int32)), .val (.int (2 : Int32)), .val (.int (4 : Int32)), .val (.int (1 : Int32))] [(.ref rr)]))
  refine own_retA X6 hx Bd.notSynchronized Bd.returns rfl rfl (hb hby d19_57) (by decide) (by decide) ?_
  show Q_rm19_4_2 Z _ _ _ _ _ _ _ _ _ h0 n0 _ T6.heap _
  exact ⟨rr, vb, kb, rfl, N6, K6, r6_1, r6_2, r6_3, r6_4⟩
theorem ef_rm25_4_3 (m : MethodId) (a1 : Addr) : entryFrame m #[(.ref a1), (.int (1 : Int32)), (.int (3 : Int32))] 5 = mkF m 0 #[.val (.ref a1), .val (.int (1 : Int32)), .val (.int (3 : Int32)), .unset, .unset] [] := by
  first | (simp [entryFrame, mkF, argsToLocals, Value.category]; done) | rfl
def Q_rm25_4_3 (Z : State) (a1 : Addr) (k1 : ClassId) (y0 : Int32) (y1 : Int32) (y2 : Int32) (y3 : Int32) (h0 : Heap) (n0 : Nat) (v : Option Value) (h : Heap) (L : List Loc) : Prop := ∃ vb : Addr, ∃ kb : ClassId, v = some (.ref vb) ∧ Fr n0 L ∧ Keep h0 h [] ∧ h0.size ≤ vb ∧ Arv Z h vb kb .byte (2 : Int32) [(.int y1), (.int y2)] (.int (0 : Int32))
abbrev R_rm25_4_3 : Room := ⟨1, 1, 2, 18⟩
set_option maxRecDepth 65536 in
set_option maxHeartbeats 40000000 in
theorem rm25_4_3 (l : Launch) (Z : State) (a0 : Array Value) (hw : ∀ d ∈ tables_1, d.before a0 Z = true) (ws : List Jvm.Cond) (a1 : Addr) (k1 : ClassId) (y0 : Int32) (y1 : Int32) (y2 : Int32) (y3 : Int32) (h0 : Heap) (n0 : Nat) (Z0 : n0 ≤ h0.size) (V_a1 : Arv Z h0 a1 k1 .byte (4 : Int32) [(.int y0), (.int y1), (.int y2), (.int y3)] (.int (0 : Int32))) :
    MetFree l own_y24 (head1 (Jvm.Cond.code own_y24 jdk_65_method_133_code 5 (some (.array .byte)) :: ws) R_rm25_4_3) (fun a U => a = #[(.ref a1), (.int (1 : Int32)), (.int (3 : Int32))] ∧ Z.Warmed39 U.vm ∧ U.heap = h0) (fun _ _ _ _ _ => True) (fun _ U o U' => ∃ v L, o = .returned v ∧ Q_rm25_4_3 Z a1 k1 y0 y1 y2 y3 h0 n0 v U'.heap L ∧ FrameEnd U o U' L R_rm25_4_3.cells R_rm25_4_3.slots) := by
  refine MetFree.of_bodySF (plainFor_of_name pn_Arrays) hisR ?_
  intro p e s m args below meth c s₁ Bd hml0 hP hK
  obtain ⟨rfl, hZ, hh⟩ := hP
  have hx := Bd.exec
  have hby := Bd.bytes
  have hml : c.maxLocals = 5 := hml0
  have hown : s.vm.findClass "java/util/Arrays" = some m.cls := findClass_of_methodNamed Bd.named
  have hnm := (name_of_methodNamed Bd.named Bd.method).1
  have X0 : Stand p l e R_rm25_4_3 s m #[(.ref a1), (.int (1 : Int32)), (.int (3 : Int32))] below meth c s₁ [] 0 0 := Stand.of_body Bd
  have e0 : s₁.heap = h0 := by rw [← hh, Bd.state]; rfl
  have N0 := Fr.nil n0
  show OGo p.tables e below (own_Kq s (fun v h L => Q_rm25_4_3 Z a1 k1 y0 y1 y2 y3 h0 n0 v h L) R_rm25_4_3.cells R_rm25_4_3.slots) (s₁.setTop (entryFrame m #[(.ref a1), (.int (1 : Int32)), (.int (3 : Int32))] 5))
  refine OGo.cast (ef_rm25_4_3 m a1) ?_
  show OGo _ _ _ _ (s₁.setTop (mkF m 0 #[.val (.ref a1), .val (.int (1 : Int32)), .val (.int (3 : Int32)), .unset, .unset] []))
  refine OGo.via (fun _ k => XS.iloadN X0.here hx rfl (hb hby d25_0) rfl (XS.iloadN X0.here hx rfl (hb hby d25_1) rfl k)) ?_
  obtain ⟨_, T1, Lc1, X1, hQ1, st1⟩ := own_open X0 (Jvm.LawKit.callS X0 hx (y := own_y20) hown (mvT hZ (own_w hw 119 rfl)) (mvT hZ (own_w hw 120 rfl)) (mvT hZ (own_w hw 114 rfl)) (mvT hZ (own_w hw 121 rfl)) (by decide) (backOf (W := 0) (rm26 l Z a0 hw [] (1 : Int32) (3 : Int32) h0 n0 Z0 (by decide)) hZ (own_w hw 121 rfl) (own_w hw 114 rfl) (by decide) (by decide)) (g := (mkF m 2 #[.val (.ref a1), .val (.int (1 : Int32)), .val (.int (3 : Int32)), .unset, .unset] [(.int (3 : Int32)), (.int (1 : Int32))])) rfl (by rw [hml]; rfl) (argsL := [(.int (1 : Int32)), (.int (3 : Int32))]) (rest := []) (lenOf pd_8 rfl) rfl (by show 2 * 0 + _ ≤ _; exact Nat.le_of_eq rfl) (hb hby d25_2) (fun _ _ => ⟨rfl, e0, (by decide : 0 + 0 ≤ _), (by decide : 0 + 0 ≤ _)⟩))
  obtain ⟨rfl, N1q, r1_0⟩ := hQ1
  have N1 := Fr.app N0 N1q
  refine OGo.via st1 ?_
  show OGo _ _ _ _ (T1.setTop (mkF m 5 #[.val (.ref a1), .val (.int (1 : Int32)), .val (.int (3 : Int32)), .unset, .unset] []))
  refine OGo.via (fun _ k => XS.iloadN X1.here hx rfl (hb hby d25_5) rfl (XS.iloadN X1.here hx rfl (hb hby d25_6) rfl (XS.isub X1.here hx rfl (hb hby d25_7) rfl k))) ?_
  show OGo _ _ _ _ (T1.setTop (mkF m 8 #[.val (.ref a1), .val (.int (1 : Int32)), .val (.int (3 : Int32)), .unset, .unset] [(.int ((3 : Int32) - (1 : Int32)))]))
  rw [show ((3 : Int32) - (1 : Int32)) = (2 : Int32) from by decide]
  refine OGo.via (fun _ k => XS.istoreN X1.here hx rfl (hb hby d25_8) rfl (l' := #[.val (.ref a1), .val (.int (1 : Int32)), .val (.int (3 : Int32)), .val (.int (2 : Int32)), .unset]) rfl (XS.iloadN X1.here hx rfl (hb hby d25_9) rfl k)) ?_
  obtain ⟨T3, h3, ka3, X3, e3, E3, A3, Y3, st3⟩ := newPE (ad := "[B") X1 hx hZ (own_w hw 26 rfl) r1_0 (g := (mkF m 10 #[.val (.ref a1), .val (.int (1 : Int32)), .val (.int (3 : Int32)), .val (.int (2 : Int32)), .unset] [(.int (2 : Int32))])) rfl (hb hby d25_10) rfl (by decide) (cap := 2) (by decide) (by decide) (by decide) (by decide) (by decide)
  obtain ⟨b3, g3⟩ : ∃ z, z = h0.size := ⟨_, rfl⟩
  rw [← g3] at A3 Y3 st3
  refine OGo.via st3 ?_
  have K3 : Keep h0 h3 [] := (Keep.refl h0 []).ext E3
  have lt_a1_b3 : a1 < b3 := Nat.lt_of_lt_of_le V_a1.lt (Nat.le_of_eq g3.symm)
  have sz_b3 : h0.size ≤ b3 := Nat.le_trans (Keep.refl h0 []).1 (Nat.le_of_eq g3.symm)
  have g_b3 : n0 ≤ b3 := Nat.le_trans Z0 sz_b3
  have V3 : Arv Z h3 b3 ka3 .byte (2 : Int32) [(.int (0 : Int32)), (.int (0 : Int32))] (.int (0 : Int32)) := (Arv.new A3 (by decide)).pad (pad_rep [] (.int (0 : Int32)) 2)
  show OGo _ _ _ _ (T3.setTop (mkF m 12 #[.val (.ref a1), .val (.int (1 : Int32)), .val (.int (3 : Int32)), .val (.int (2 : Int32)), .unset] [(.ref b3)]))
  refine OGo.via (fun _ k => XS.astore X3.here hx rfl (hb hby d25_12) rfl rfl (l' := #[.val (.ref a1), .val (.int (1 : Int32)), .val (.int (3 : Int32)), .val (.int (2 : Int32)), .val (.ref b3)]) rfl (XS.aloadN X3.here hx rfl (hb hby d25_14) rfl rfl (XS.iloadN X3.here hx rfl (hb hby d25_15) rfl (XS.aload X3.here hx rfl (hb hby d25_16) rfl rfl (XS.iconst X3.here hx rfl (hb hby d25_18) (XS.aloadN X3.here hx rfl (hb hby d25_19) rfl rfl k)))))) ?_
  have f5 := V_a1.ext E3
  obtain ⟨cl4, Ar4, q4, Sz4, Ng4, Hs4, Gf4⟩ := id f5
  refine OGo.via (X3.arraylength hx (by rw [e3]; exact Ar4.1) (State.isArrayOf_alike hZ.alike Ar4.2.1) (g := (mkF m 20 #[.val (.ref a1), .val (.int (1 : Int32)), .val (.int (3 : Int32)), .val (.int (2 : Int32)), .val (.ref b3)] [(.ref a1), (.int (0 : Int32)), (.ref b3), (.int (1 : Int32)), (.ref a1)])) rfl rfl (hb hby d25_20)) ?_
  rw [len_of Sz4 Ng4]
  show OGo _ _ _ _ (T3.setTop (mkF m 21 #[.val (.ref a1), .val (.int (1 : Int32)), .val (.int (3 : Int32)), .val (.int (2 : Int32)), .val (.ref b3)] [(.int (4 : Int32)), (.int (0 : Int32)), (.ref b3), (.int (1 : Int32)), (.ref a1)]))
  refine OGo.via (fun _ k => XS.iloadN X3.here hx rfl (hb hby d25_21) rfl (XS.isub X3.here hx rfl (hb hby d25_22) rfl k)) ?_
  show OGo _ _ _ _ (T3.setTop (mkF m 23 #[.val (.ref a1), .val (.int (1 : Int32)), .val (.int (3 : Int32)), .val (.int (2 : Int32)), .val (.ref b3)] [(.int ((4 : Int32) - (1 : Int32))), (.int (0 : Int32)), (.ref b3), (.int (1 : Int32)), (.ref a1)]))
  rw [show ((4 : Int32) - (1 : Int32)) = (3 : Int32) from by decide]
  refine OGo.via (fun _ k => XS.iloadN X3.here hx rfl (hb hby d25_23) rfl k) ?_
  obtain ⟨_, T7, Lc7, X7, hQ7, st7⟩ := own_open X3 (Jvm.LawKit.callS X3 hx (y := own_y2) hown (mvT hZ (own_w hw 122 rfl)) (mvT hZ (own_w hw 85 rfl)) (mvT hZ (own_w hw 82 rfl)) (mvT hZ (own_w hw 86 rfl)) (by decide) (backOf (W := 4) (rm18 l Z a0 hw [] (3 : Int32) (2 : Int32) h3 n0 (Nat.le_trans Z0 K3.1)) hZ (own_w hw 86 rfl) (own_w hw 82 rfl) (by decide) (by decide)) (g := (mkF m 24 #[.val (.ref a1), .val (.int (1 : Int32)), .val (.int (3 : Int32)), .val (.int (2 : Int32)), .val (.ref b3)] [(.int (2 : Int32)), (.int (3 : Int32)), (.int (0 : Int32)), (.ref b3), (.int (1 : Int32)), (.ref a1)])) rfl (by rw [hml]; rfl) (argsL := [(.int (3 : Int32)), (.int (2 : Int32))]) (rest := [(.int (0 : Int32)), (.ref b3), (.int (1 : Int32)), (.ref a1)]) (lenOf pd_14 rfl) rfl (by show 2 * 0 + _ ≤ _; exact Nat.le_of_eq rfl) (hb hby d25_24) (fun _ _ => ⟨rfl, e3, (by decide : 1 + 0 ≤ _), (by decide : 2 + 0 ≤ _)⟩))
  obtain ⟨rfl, N7q, r7_0⟩ := hQ7
  have N7 := Fr.app N1 N7q
  refine OGo.via st7 ?_
  show OGo _ _ _ _ (T7.setTop (mkF m 27 #[.val (.ref a1), .val (.int (1 : Int32)), .val (.int (3 : Int32)), .val (.int (2 : Int32)), .val (.ref b3)] [(.int (if (2 : Int32) < (3 : Int32) then (2 : Int32) else (3 : Int32))), (.int (0 : Int32)), (.ref b3), (.int (1 : Int32)), (.ref a1)]))
  rw [show (if (2 : Int32) < (3 : Int32) then (2 : Int32) else (3 : Int32)) = (2 : Int32) from by decide]
  show OGo _ _ _ _ (T7.setTop (mkF m 27 #[.val (.ref a1), .val (.int (1 : Int32)), .val (.int (3 : Int32)), .val (.int (2 : Int32)), .val (.ref b3)] [(.int (2 : Int32)), (.int (0 : Int32)), (.ref b3), (.int (1 : Int32)), (.ref a1)]))
  obtain ⟨T8, h8, Lc8, X8, e8, N8, Kp8, V8, st8⟩ := cpA X7 hx hZ hown (own_w hw 123 rfl) (own_w hw 126 rfl) (own_w hw 124 rfl) (own_w hw 125 rfl) r7_0 (us := [(.int y1), (.int y2)]) f5 V3 (Or.inl ⟨rfl, rfl⟩) (by decide) (by decide) (by decide) (by decide) (by decide) rfl (Nat.le_of_ble_eq_true rfl) N7 g_b3 (g := (mkF m 27 #[.val (.ref a1), .val (.int (1 : Int32)), .val (.int (3 : Int32)), .val (.int (2 : Int32)), .val (.ref b3)] [(.int (2 : Int32)), (.int (0 : Int32)), (.ref b3), (.int (1 : Int32)), (.ref a1)])) rfl (by rw [hml]; rfl) rfl (hb hby d25_27) (by decide) (W := 0) (by show 2 * 0 + _ ≤ _; exact Nat.le_of_eq rfl) (by decide)
  refine OGo.via st8 ?_
  have Vc8 : Arv Z h8 b3 ka3 .byte (2 : Int32) [(.int y1), (.int y2)] (.int (0 : Int32)) := V8
  have K8 : Keep h0 h8 [] := K3.trans Kp8 (allS (Or.inr sz_b3) all0)
  show OGo _ _ _ _ (T8.setTop (mkF m 30 #[.val (.ref a1), .val (.int (1 : Int32)), .val (.int (3 : Int32)), .val (.int (2 : Int32)), .val (.ref b3)] []))
  refine OGo.via (fun _ k => XS.aload X8.here hx rfl (hb hby d25_30) rfl rfl k) ?_
  show OGo _ _ _ _ (T8.setTop (mkF m 32 #[.val (.ref a1), .val (.int (1 : Int32)), .val (.int (3 : Int32)), .val (.int (2 : Int32)), .val (.ref b3)] [(.ref b3)]))
  refine own_retA X8 hx Bd.notSynchronized Bd.returns rfl rfl (hb hby d25_32) (by decide) (by decide) ?_
  show Q_rm25_4_3 Z _ _ _ _ _ _ h0 n0 _ T8.heap _
  rw [e8]
  exact ⟨b3, ka3, rfl, N8, K8, sz_b3, Vc8⟩
theorem ef_rm24_4_3 (m : MethodId) (a1 : Addr) : entryFrame m #[(.ref a1), (.int (1 : Int32)), (.int (3 : Int32))] 3 = mkF m 0 #[.val (.ref a1), .val (.int (1 : Int32)), .val (.int (3 : Int32))] [] := by
  first | (simp [entryFrame, mkF, argsToLocals, Value.category]; done) | rfl
def Q_rm24_4_3 (Z : State) (a1 : Addr) (k1 : ClassId) (y0 : Int32) (y1 : Int32) (y2 : Int32) (y3 : Int32) (h0 : Heap) (n0 : Nat) (v : Option Value) (h : Heap) (L : List Loc) : Prop := ∃ vb : Addr, ∃ kb : ClassId, v = some (.ref vb) ∧ Fr n0 L ∧ Keep h0 h [] ∧ h0.size ≤ vb ∧ Arv Z h vb kb .byte (2 : Int32) [(.int y1), (.int y2)] (.int (0 : Int32))
abbrev R_rm24_4_3 : Room := ⟨2, 1, 2, 34⟩
set_option maxRecDepth 65536 in
set_option maxHeartbeats 40000000 in
theorem rm24_4_3 (l : Launch) (Z : State) (a0 : Array Value) (hw : ∀ d ∈ tables_1, d.before a0 Z = true) (ws : List Jvm.Cond) (a1 : Addr) (k1 : ClassId) (y0 : Int32) (y1 : Int32) (y2 : Int32) (y3 : Int32) (h0 : Heap) (n0 : Nat) (Z0 : n0 ≤ h0.size) (V_a1 : Arv Z h0 a1 k1 .byte (4 : Int32) [(.int y0), (.int y1), (.int y2), (.int y3)] (.int (0 : Int32))) :
    MetFree l own_y25 (head1 (Jvm.Cond.code own_y25 jdk_65_method_132_code 3 (some (.array .byte)) :: ws) R_rm24_4_3) (fun a U => a = #[(.ref a1), (.int (1 : Int32)), (.int (3 : Int32))] ∧ Z.Warmed39 U.vm ∧ U.heap = h0) (fun _ _ _ _ _ => True) (fun _ U o U' => ∃ v L, o = .returned v ∧ Q_rm24_4_3 Z a1 k1 y0 y1 y2 y3 h0 n0 v U'.heap L ∧ FrameEnd U o U' L R_rm24_4_3.cells R_rm24_4_3.slots) := by
  refine MetFree.of_bodySF (plainFor_of_name pn_Arrays) hisR ?_
  intro p e s m args below meth c s₁ Bd hml0 hP hK
  obtain ⟨rfl, hZ, hh⟩ := hP
  have hx := Bd.exec
  have hby := Bd.bytes
  have hml : c.maxLocals = 3 := hml0
  have hown : s.vm.findClass "java/util/Arrays" = some m.cls := findClass_of_methodNamed Bd.named
  have hnm := (name_of_methodNamed Bd.named Bd.method).1
  have X0 : Stand p l e R_rm24_4_3 s m #[(.ref a1), (.int (1 : Int32)), (.int (3 : Int32))] below meth c s₁ [] 0 0 := Stand.of_body Bd
  have e0 : s₁.heap = h0 := by rw [← hh, Bd.state]; rfl
  have N0 := Fr.nil n0
  show OGo p.tables e below (own_Kq s (fun v h L => Q_rm24_4_3 Z a1 k1 y0 y1 y2 y3 h0 n0 v h L) R_rm24_4_3.cells R_rm24_4_3.slots) (s₁.setTop (entryFrame m #[(.ref a1), (.int (1 : Int32)), (.int (3 : Int32))] 3))
  refine OGo.cast (ef_rm24_4_3 m a1) ?_
  show OGo _ _ _ _ (s₁.setTop (mkF m 0 #[.val (.ref a1), .val (.int (1 : Int32)), .val (.int (3 : Int32))] []))
  refine OGo.via (fun _ k => XS.iloadN X0.here hx rfl (hb hby d24_0) rfl (XS.ifYes X0.here hx rfl (pc0 := 1) (pc' := 10) rfl (hb hby d24_1) rfl ((if0 _ _).trans (feq (by decide : ¬ ((1 : Int32) = (0 : Int32)))).2) (by decide) (by decide) (XS.aloadN X0.here hx rfl (hb hby d24_10) rfl rfl (XS.iloadN X0.here hx rfl (hb hby d24_11) rfl (XS.iloadN X0.here hx rfl (hb hby d24_12) rfl k))))) ?_
  obtain ⟨_, T1, Lc1, X1, hQ1, st1⟩ := own_open X0 (Jvm.LawKit.callS X0 hx (y := own_y24) hown (mvT hZ (own_w hw 116 rfl)) (mvT hZ (own_w hw 117 rfl)) (mvT hZ (own_w hw 114 rfl)) (mvT hZ (own_w hw 118 rfl)) (by decide) (backOf (W := 0) (rm25_4_3 l Z a0 hw [] a1 k1 y0 y1 y2 y3 h0 n0 Z0 V_a1) hZ (own_w hw 118 rfl) (own_w hw 114 rfl) (by decide) (by decide)) (g := (mkF m 13 #[.val (.ref a1), .val (.int (1 : Int32)), .val (.int (3 : Int32))] [(.int (3 : Int32)), (.int (1 : Int32)), (.ref a1)])) rfl (by rw [hml]; rfl) (argsL := [(.ref a1), (.int (1 : Int32)), (.int (3 : Int32))]) (rest := []) (lenOf pd_15 rfl) rfl (by show 2 * 0 + _ ≤ _; exact Nat.le_of_eq rfl) (hb hby d24_13) (fun _ _ => ⟨rfl, e0, (by decide : 0 + 1 ≤ _), (by decide : 0 + 2 ≤ _)⟩))
  obtain ⟨vb, kb, rfl, N1q, r1_0, r1_1, r1_2⟩ := hQ1
  have N1 := Fr.app N0 N1q
  have K1 : Keep h0 T1.heap [] := (Keep.refl h0 []).trans r1_0 all0
  have lt_a1_vb : a1 < vb := Nat.lt_of_lt_of_le V_a1.lt r1_1
  have sz_vb : h0.size ≤ vb := Nat.le_trans (Keep.refl h0 []).1 r1_1
  have g_vb : n0 ≤ vb := Nat.le_trans Z0 sz_vb
  refine OGo.via st1 ?_
  show OGo _ _ _ _ (T1.setTop (mkF m 16 #[.val (.ref a1), .val (.int (1 : Int32)), .val (.int (3 : Int32))] [(.ref vb)]))
  show OGo _ _ _ _ (T1.setTop (mkF m 16 #[.val (.ref a1), .val (.int (1 : Int32)), .val (.int (3 : Int32))] [(.ref vb)]))
  refine own_retA X1 hx Bd.notSynchronized Bd.returns rfl rfl (hb hby d24_16) (by decide) (by decide) ?_
  show Q_rm24_4_3 Z _ _ _ _ _ _ h0 n0 _ T1.heap _
  exact ⟨vb, kb, rfl, N1, K1, sz_vb, r1_2⟩
theorem ef_rm22_4_3 (m : MethodId) (a1 : Addr) : entryFrame m #[(.ref a1), (.int (1 : Int32)), (.int (2 : Int32))] 3 = mkF m 0 #[.val (.ref a1), .val (.int (1 : Int32)), .val (.int (2 : Int32))] [] := by
  first | (simp [entryFrame, mkF, argsToLocals, Value.category]; done) | rfl
def Q_rm22_4_3 (Z : State) (a1 : Addr) (k1 : ClassId) (y0 : Int32) (y1 : Int32) (y2 : Int32) (y3 : Int32) (w : Int32) (fm : Value) (h0 : Heap) (n0 : Nat) (v : Option Value) (h : Heap) (L : List Loc) : Prop := ∃ rr : Addr, ∃ vb : Addr, ∃ kb : ClassId, v = some (.ref rr) ∧ Fr n0 L ∧ Keep h0 h [] ∧ Exa Z h rr "java/lang/String" ∧ Fld Z h rr "java/lang/String" "value" "[B" (.ref vb) ∧ Fld Z h rr "java/lang/String" "coder" "B" (.int (0 : Int32)) ∧ Arv Z h vb kb .byte (2 : Int32) [(.int y1), (.int y2)] (.int (0 : Int32))
abbrev R_rm22_4_3 : Room := ⟨3, 2, 6, 50⟩
set_option maxRecDepth 65536 in
set_option maxHeartbeats 40000000 in
theorem rm22_4_3 (l : Launch) (Z : State) (a0 : Array Value) (hw : ∀ d ∈ tables_1, d.before a0 Z = true) (ws : List Jvm.Cond) (a1 : Addr) (k1 : ClassId) (y0 : Int32) (y1 : Int32) (y2 : Int32) (y3 : Int32) (w : Int32) (fm : Value) (h0 : Heap) (n0 : Nat) (Z0 : n0 ≤ h0.size) (V_a1 : Arv Z h0 a1 k1 .byte (4 : Int32) [(.int y0), (.int y1), (.int y2), (.int y3)] (.int (0 : Int32))) (S_COMPACT_STRINGS : Sta Z h0 "java/lang/String" "COMPACT_STRINGS" "Z" (.int w)) (S_SIOOBE_FORMATTER : Sta Z h0 "jdk/internal/util/Preconditions" "SIOOBE_FORMATTER" "Ljava/util/function/BiFunction;" fm) :
    MetFree l own_y22 (head1 (Jvm.Cond.code own_y22 jdk_43_method_47_code 3 (some (.object "java/lang/String")) :: ws) R_rm22_4_3) (fun a U => a = #[(.ref a1), (.int (1 : Int32)), (.int (2 : Int32))] ∧ Z.Warmed39 U.vm ∧ U.heap = h0) (fun _ _ _ _ _ => True) (fun _ U o U' => ∃ v L, o = .returned v ∧ Q_rm22_4_3 Z a1 k1 y0 y1 y2 y3 w fm h0 n0 v U'.heap L ∧ FrameEnd U o U' L R_rm22_4_3.cells R_rm22_4_3.slots) := by
  refine MetFree.of_bodySF (plainFor_of_name pn_StringLatin1) hisR ?_
  intro p e s m args below meth c s₁ Bd hml0 hP hK
  obtain ⟨rfl, hZ, hh⟩ := hP
  have hx := Bd.exec
  have hby := Bd.bytes
  have hml : c.maxLocals = 3 := hml0
  have hown : s.vm.findClass "java/lang/StringLatin1" = some m.cls := findClass_of_methodNamed Bd.named
  have hnm := (name_of_methodNamed Bd.named Bd.method).1
  have X0 : Stand p l e R_rm22_4_3 s m #[(.ref a1), (.int (1 : Int32)), (.int (2 : Int32))] below meth c s₁ [] 0 0 := Stand.of_body Bd
  have e0 : s₁.heap = h0 := by rw [← hh, Bd.state]; rfl
  have N0 := Fr.nil n0
  show OGo p.tables e below (own_Kq s (fun v h L => Q_rm22_4_3 Z a1 k1 y0 y1 y2 y3 w fm h0 n0 v h L) R_rm22_4_3.cells R_rm22_4_3.slots) (s₁.setTop (entryFrame m #[(.ref a1), (.int (1 : Int32)), (.int (2 : Int32))] 3))
  refine OGo.cast (ef_rm22_4_3 m a1) ?_
  show OGo _ _ _ _ (s₁.setTop (mkF m 0 #[.val (.ref a1), .val (.int (1 : Int32)), .val (.int (2 : Int32))] []))
  refine OGo.via (fun _ k => XS.iloadN X0.here hx rfl (hb hby d22_0) rfl (XS.ifYes X0.here hx rfl (pc0 := 1) (pc' := 7) rfl (hb hby d22_1) rfl ((if0 _ _).trans (feq (by decide : ¬ ((2 : Int32) = (0 : Int32)))).2) (by decide) (by decide) k)) ?_
  obtain ⟨T1, h1, X1, e1, E1, A1, D1, -, st1⟩ := newO X0 hx hZ hown (own_w hw 111 rfl) (own_w hw 9 rfl) (own_w hw 10 rfl) e0 (g := (mkF m 7 #[.val (.ref a1), .val (.int (1 : Int32)), .val (.int (2 : Int32))] [])) rfl (hb hby d22_7) (by decide) (by decide)
  obtain ⟨b1, g1⟩ : ∃ z, z = h0.size := ⟨_, rfl⟩
  rw [← g1] at A1 D1 st1
  refine OGo.via st1 ?_
  have K1 : Keep h0 h1 [] := (Keep.refl h0 []).ext E1
  have lt_a1_b1 : a1 < b1 := Nat.lt_of_lt_of_le V_a1.lt (Nat.le_of_eq g1.symm)
  have sz_b1 : h0.size ≤ b1 := Nat.le_trans (Keep.refl h0 []).1 (Nat.le_of_eq g1.symm)
  have g_b1 : n0 ≤ b1 := Nat.le_trans Z0 sz_b1
  have F1_coder : Fld Z h1 b1 "java/lang/String" "coder" "B" (.int (0 : Int32)) := D1 (Or.inr (own_w hw 34 rfl)) (ty := .byte) (by decide)
  have F1_value : Fld Z h1 b1 "java/lang/String" "value" "[B" .null := D1 (Or.inr (own_w hw 36 rfl)) (ty := (.array .byte)) (by decide)
  show OGo _ _ _ _ (T1.setTop (mkF m 10 #[.val (.ref a1), .val (.int (1 : Int32)), .val (.int (2 : Int32))] [(.ref b1)]))
  refine OGo.via (fun _ k => XS.dup X1.here hx rfl (hb hby d22_10) rfl rfl (XS.aloadN X1.here hx rfl (hb hby d22_11) rfl rfl (XS.iloadN X1.here hx rfl (hb hby d22_12) rfl (XS.iloadN X1.here hx rfl (hb hby d22_13) rfl (XS.iloadN X1.here hx rfl (hb hby d22_14) rfl (XS.iadd X1.here hx rfl (hb hby d22_15) rfl k)))))) ?_
  show OGo _ _ _ _ (T1.setTop (mkF m 16 #[.val (.ref a1), .val (.int (1 : Int32)), .val (.int (2 : Int32))] [(.int ((1 : Int32) + (2 : Int32))), (.int (1 : Int32)), (.ref a1), (.ref b1), (.ref b1)]))
  rw [show ((1 : Int32) + (2 : Int32)) = (3 : Int32) from by decide]
  have f4 := V_a1.ext E1
  obtain ⟨_, T3, Lc3, X3, hQ3, st3⟩ := own_open X1 (Jvm.LawKit.callS X1 hx (y := own_y25) hown (mvT hZ (own_w hw 112 rfl)) (mvT hZ (own_w hw 113 rfl)) (mvT hZ (own_w hw 114 rfl)) (mvT hZ (own_w hw 115 rfl)) (by decide) (backOf (W := 2) (rm24_4_3 l Z a0 hw [] a1 k1 y0 y1 y2 y3 h1 n0 (Nat.le_trans Z0 K1.1) f4) hZ (own_w hw 115 rfl) (own_w hw 114 rfl) (by decide) (by decide)) (g := (mkF m 16 #[.val (.ref a1), .val (.int (1 : Int32)), .val (.int (2 : Int32))] [(.int (3 : Int32)), (.int (1 : Int32)), (.ref a1), (.ref b1), (.ref b1)])) rfl (by rw [hml]; rfl) (argsL := [(.ref a1), (.int (1 : Int32)), (.int (3 : Int32))]) (rest := [(.ref b1), (.ref b1)]) (lenOf pd_15 rfl) rfl (by show 2 * 0 + _ ≤ _; exact Nat.le_of_eq rfl) (hb hby d22_16) (fun _ _ => ⟨rfl, e1, (by decide : 1 + 1 ≤ _), (by decide : 4 + 2 ≤ _)⟩))
  obtain ⟨vb, kb, rfl, N3q, r3_0, r3_1, r3_2⟩ := hQ3
  have N3 := Fr.app N0 N3q
  have K3 : Keep h0 T3.heap [] := K1.trans r3_0 all0
  have lt_a1_vb : a1 < vb := Nat.lt_of_lt_of_le f4.lt r3_1
  have lt_b1_vb : b1 < vb := Nat.lt_of_lt_of_le A1.lt r3_1
  have sz_vb : h0.size ≤ vb := Nat.le_trans K1.1 r3_1
  have g_vb : n0 ≤ vb := Nat.le_trans Z0 sz_vb
  refine OGo.via st3 ?_
  show OGo _ _ _ _ (T3.setTop (mkF m 19 #[.val (.ref a1), .val (.int (1 : Int32)), .val (.int (2 : Int32))] [(.ref vb), (.ref b1), (.ref b1)]))
  refine OGo.via (fun _ k => XS.iconst X3.here hx rfl (hb hby d22_19) k) ?_
  have f6 := A1.keep r3_0
  have f7 := F1_value.keep r3_0 nin0
  have f8 := F1_coder.keep r3_0 nin0
  have f9 := own_staKeep0 S_COMPACT_STRINGS K3
  have f10 := own_staKeep0 S_SIOOBE_FORMATTER K3
  obtain ⟨_, T5, Lc5, X5, hQ5, st5⟩ := own_open X3 (X3.specialBack hx (y := own_y21) rfl hown (mvT hZ (own_w hw 127 rfl)) (mvT hZ (own_w hw 128 rfl)) (mvT hZ (own_w hw 129 rfl)) (by decide) (backOf (W := 1) (rm27 l Z a0 hw [] b1 vb w fm T3.heap n0 (Nat.le_trans Z0 K3.1) f6 f7 f8 g_b1 f9 f10) hZ (own_w hw 129 rfl) (own_w hw 10 rfl) (by decide) (by decide)) (g := (mkF m 20 #[.val (.ref a1), .val (.int (1 : Int32)), .val (.int (2 : Int32))] [(.int (0 : Int32)), (.ref vb), (.ref b1), (.ref b1)])) rfl (by rw [hml]; rfl) (Steps.refl _) (a := b1) (argsL := [(.ref vb), (.int (0 : Int32))]) (rest := [(.ref b1)]) (lenOf pd_16 rfl) rfl (by show 2 * 0 + _ ≤ _; exact Nat.le_of_eq rfl) (hb hby d22_20) (fun _ _ => ⟨rfl, rfl, (by decide : 2 + 0 ≤ _), (by decide : 6 + 0 ≤ _)⟩))
  obtain ⟨rfl, N5q, r5_0, r5_1, r5_2, r5_3, r5_4, r5_5⟩ := hQ5
  have N5 := Fr.app N3 N5q
  have K5 : Keep h0 T5.heap [] := K3.trans r5_0 (allS (Or.inr sz_b1) all0)
  refine OGo.via (fun _ k => st5.trans k) ?_
  show OGo _ _ _ _ (T5.setTop (mkF m 23 #[.val (.ref a1), .val (.int (1 : Int32)), .val (.int (2 : Int32))] [(.ref b1)]))
  show OGo _ _ _ _ (T5.setTop (mkF m 23 #[.val (.ref a1), .val (.int (1 : Int32)), .val (.int (2 : Int32))] [(.ref b1)]))
  have f11 := r3_2.keep r5_0 (ninS (Nat.ne_of_gt lt_b1_vb) nin0)
  refine own_retA X5 hx Bd.notSynchronized Bd.returns rfl rfl (hb hby d22_23) (by decide) (by decide) ?_
  show Q_rm22_4_3 Z _ _ _ _ _ _ _ _ h0 n0 _ T5.heap _
  exact ⟨b1, vb, kb, rfl, N5, K5, r5_1, r5_2, r5_3, f11⟩
theorem ef_rm19_4_3 (m : MethodId) (a1 : Addr) : entryFrame m #[(.ref a1), (.int (1 : Int32)), (.int (3 : Int32))] 5 = mkF m 0 #[.val (.ref a1), .val (.int (1 : Int32)), .val (.int (3 : Int32)), .unset, .unset] [] := by
  first | (simp [entryFrame, mkF, argsToLocals, Value.category]; done) | rfl
def Q_rm19_4_3 (Z : State) (a1 : Addr) (w : Int32) (fm : Value) (va : Addr) (k1 : ClassId) (y0 : Int32) (y1 : Int32) (y2 : Int32) (y3 : Int32) (h0 : Heap) (n0 : Nat) (v : Option Value) (h : Heap) (L : List Loc) : Prop := ∃ rr : Addr, ∃ vb : Addr, ∃ kb : ClassId, v = some (.ref rr) ∧ Fr n0 L ∧ Keep h0 h [] ∧ Exa Z h rr "java/lang/String" ∧ Fld Z h rr "java/lang/String" "value" "[B" (.ref vb) ∧ Fld Z h rr "java/lang/String" "coder" "B" (.int (0 : Int32)) ∧ Arv Z h vb kb .byte (2 : Int32) [(.int y1), (.int y2)] (.int (0 : Int32))
abbrev R_rm19_4_3 : Room := ⟨4, 2, 6, 64⟩
set_option maxRecDepth 65536 in
set_option maxHeartbeats 40000000 in
theorem rm19_4_3 (l : Launch) (Z : State) (a0 : Array Value) (hw : ∀ d ∈ tables_1, d.before a0 Z = true) (ws : List Jvm.Cond) (a1 : Addr) (w : Int32) (fm : Value) (va : Addr) (k1 : ClassId) (y0 : Int32) (y1 : Int32) (y2 : Int32) (y3 : Int32) (h0 : Heap) (n0 : Nat) (Z0 : n0 ≤ h0.size) (E_a1 : Exa Z h0 a1 "java/lang/String") (F_value_a1 : Fld Z h0 a1 "java/lang/String" "value" "[B" (.ref va)) (F_coder_a1 : Fld Z h0 a1 "java/lang/String" "coder" "B" (.int (0 : Int32))) (V_va : Arv Z h0 va k1 .byte (4 : Int32) [(.int y0), (.int y1), (.int y2), (.int y3)] (.int (0 : Int32))) (S_COMPACT_STRINGS : Sta Z h0 "java/lang/String" "COMPACT_STRINGS" "Z" (.int w)) (S_SIOOBE_FORMATTER : Sta Z h0 "jdk/internal/util/Preconditions" "SIOOBE_FORMATTER" "Ljava/util/function/BiFunction;" fm) (hw0 : ¬ w = (0 : Int32)) (hr_fm : fm.isRef = true) :
    MetFree l own_y23 (head1 (Jvm.Cond.code own_y23 jdk_42_method_92_code 5 (some (.object "java/lang/String")) :: ws) R_rm19_4_3) (fun a U => a = #[(.ref a1), (.int (1 : Int32)), (.int (3 : Int32))] ∧ Z.Warmed39 U.vm ∧ U.heap = h0) (fun _ _ _ _ _ => True) (fun _ U o U' => ∃ v L, o = .returned v ∧ Q_rm19_4_3 Z a1 w fm va k1 y0 y1 y2 y3 h0 n0 v U'.heap L ∧ FrameEnd U o U' L R_rm19_4_3.cells R_rm19_4_3.slots) := by
  refine MetFree.of_bodySF (plainFor_of_name pn_String) hisR ?_
  intro p e s m args below meth c s₁ Bd hml0 hP hK
  obtain ⟨rfl, hZ, hh⟩ := hP
  have hx := Bd.exec
  have hby := Bd.bytes
  have hml : c.maxLocals = 5 := hml0
  have hown : s.vm.findClass "java/lang/String" = some m.cls := findClass_of_methodNamed Bd.named
  have hnm := (name_of_methodNamed Bd.named Bd.method).1
  have X0 : Stand p l e R_rm19_4_3 s m #[(.ref a1), (.int (1 : Int32)), (.int (3 : Int32))] below meth c s₁ [] 0 0 := Stand.of_body Bd
  have e0 : s₁.heap = h0 := by rw [← hh, Bd.state]; rfl
  have N0 := Fr.nil n0
  show OGo p.tables e below (own_Kq s (fun v h L => Q_rm19_4_3 Z a1 w fm va k1 y0 y1 y2 y3 h0 n0 v h L) R_rm19_4_3.cells R_rm19_4_3.slots) (s₁.setTop (entryFrame m #[(.ref a1), (.int (1 : Int32)), (.int (3 : Int32))] 5))
  refine OGo.cast (ef_rm19_4_3 m a1) ?_
  show OGo _ _ _ _ (s₁.setTop (mkF m 0 #[.val (.ref a1), .val (.int (1 : Int32)), .val (.int (3 : Int32)), .unset, .unset] []))
  refine OGo.via (fun _ k => XS.aloadN X0.here hx rfl (hb hby d19_0) rfl rfl k) ?_
  obtain ⟨cq1, kq1, q1a, q1b, q1c⟩ := isOf hZ e0 E_a1
  obtain ⟨_, T1, Lc1, X1, hQ1, st1⟩ := own_open X0 (X0.virtualBack hx (y := own_y6) (z := own_y6) hown (mvT hZ (own_w hw 63 rfl)) (mvT hZ (own_w hw 64 rfl)) (notFace_of_selects (args := #[]) (mvT hZ (own_w hw 66 rfl))) (mvT hZ (own_w hw 66 rfl)) (mvT hZ (own_w hw 65 rfl)) (by decide) (backOf (W := 0) (rm13 l Z a0 hw [] a1 w va k1 [(.int y0), (.int y1), (.int y2), (.int y3)] (4 : Int32) h0 n0 Z0 E_a1 F_value_a1 F_coder_a1 V_va S_COMPACT_STRINGS hw0) hZ (own_w hw 67 rfl) (own_w hw 10 rfl) (by decide) (by decide)) q1a q1c (g := (mkF m 1 #[.val (.ref a1), .val (.int (1 : Int32)), .val (.int (3 : Int32)), .unset, .unset] [(.ref a1)])) rfl (by rw [hml]; rfl) (Steps.refl _) (argsL := []) (rest := []) (lenOf pd_11 rfl) rfl (by show 2 * 0 + _ ≤ _; exact Nat.le_of_eq rfl) (hb hby d19_1) (fun _ _ => ⟨rfl, e0, (by decide : 0 + 0 ≤ _), (by decide : 0 + 0 ≤ _)⟩))
  obtain ⟨rfl, N1q, r1_0⟩ := hQ1
  have N1 := Fr.app N0 N1q
  refine OGo.via (fun _ k => st1.trans k) ?_
  show OGo _ _ _ _ (T1.setTop (mkF m 4 #[.val (.ref a1), .val (.int (1 : Int32)), .val (.int (3 : Int32)), .unset, .unset] [(.int (4 : Int32))]))
  refine OGo.via (fun _ k => XS.istoreN X1.here hx rfl (hb hby d19_4) rfl (l' := #[.val (.ref a1), .val (.int (1 : Int32)), .val (.int (3 : Int32)), .val (.int (4 : Int32)), .unset]) rfl (XS.iloadN X1.here hx rfl (hb hby d19_5) rfl (XS.iloadN X1.here hx rfl (hb hby d19_6) rfl (XS.iloadN X1.here hx rfl (hb hby d19_7) rfl k)))) ?_
  obtain ⟨_, T2, Lc2, X2, hQ2, st2⟩ := own_open X1 (Jvm.LawKit.callS X1 hx (y := own_y15) hown (mvT hZ (own_w hw 93 rfl)) (mvT hZ (own_w hw 94 rfl)) (mvT hZ (own_w hw 10 rfl)) (mvT hZ (own_w hw 95 rfl)) (by decide) (backOf (W := 0) (rm20 l Z a0 hw [] (1 : Int32) (3 : Int32) (4 : Int32) fm h0 n0 Z0 S_SIOOBE_FORMATTER (by decide) (by decide) (by decide) hr_fm) hZ (own_w hw 95 rfl) (own_w hw 10 rfl) (by decide) (by decide)) (g := (mkF m 8 #[.val (.ref a1), .val (.int (1 : Int32)), .val (.int (3 : Int32)), .val (.int (4 : Int32)), .unset] [(.int (4 : Int32)), (.int (3 : Int32)), (.int (1 : Int32))])) rfl (by rw [hml]; rfl) (argsL := [(.int (1 : Int32)), (.int (3 : Int32)), (.int (4 : Int32))]) (rest := []) (lenOf pd_12 rfl) rfl (by show 2 * 0 + _ ≤ _; exact Nat.le_of_eq rfl) (hb hby d19_8) (fun _ _ => ⟨rfl, r1_0, (by decide : 0 + 0 ≤ _), (by decide : 0 + 0 ≤ _)⟩))
  obtain ⟨rfl, N2q, r2_0⟩ := hQ2
  have N2 := Fr.app N1 N2q
  refine OGo.via st2 ?_
  show OGo _ _ _ _ (T2.setTop (mkF m 11 #[.val (.ref a1), .val (.int (1 : Int32)), .val (.int (3 : Int32)), .val (.int (4 : Int32)), .unset] []))
  refine OGo.via (fun _ k => XS.iloadN X2.here hx rfl (hb hby d19_11) rfl (XS.ifYes X2.here hx rfl (pc0 := 12) (pc' := 22) rfl (hb hby d19_12) rfl ((if0 _ _).trans (feq (by decide : ¬ ((1 : Int32) = (0 : Int32)))).2) (by decide) (by decide) (XS.iloadN X2.here hx rfl (hb hby d19_22) rfl (XS.iloadN X2.here hx rfl (hb hby d19_23) rfl (XS.isub X2.here hx rfl (hb hby d19_24) rfl k))))) ?_
  show OGo _ _ _ _ (T2.setTop (mkF m 25 #[.val (.ref a1), .val (.int (1 : Int32)), .val (.int (3 : Int32)), .val (.int (4 : Int32)), .unset] [(.int ((3 : Int32) - (1 : Int32)))]))
  rw [show ((3 : Int32) - (1 : Int32)) = (2 : Int32) from by decide]
  refine OGo.via (fun _ k => XS.istore X2.here hx rfl (hb hby d19_25) rfl (l' := #[.val (.ref a1), .val (.int (1 : Int32)), .val (.int (3 : Int32)), .val (.int (4 : Int32)), .val (.int (2 : Int32))]) rfl (XS.aloadN X2.here hx rfl (hb hby d19_27) rfl rfl k)) ?_
  obtain ⟨cq4, kq4, q4a, q4b, q4c⟩ := isOf hZ r2_0 E_a1
  obtain ⟨_, T4, Lc4, X4, hQ4, st4⟩ := own_open X2 (X2.virtualBack hx (y := own_y5) (z := own_y5) hown (mvT hZ (own_w hw 58 rfl)) (mvT hZ (own_w hw 59 rfl)) (notFace_of_selects (args := #[]) (mvT hZ (own_w hw 61 rfl))) (mvT hZ (own_w hw 61 rfl)) (mvT hZ (own_w hw 60 rfl)) (by decide) (backOf (W := 0) (rm12 l Z a0 hw [] a1 w va h0 n0 Z0 E_a1 F_value_a1 F_coder_a1 S_COMPACT_STRINGS hw0) hZ (own_w hw 62 rfl) (own_w hw 10 rfl) (by decide) (by decide)) q4a q4c (g := (mkF m 28 #[.val (.ref a1), .val (.int (1 : Int32)), .val (.int (3 : Int32)), .val (.int (4 : Int32)), .val (.int (2 : Int32))] [(.ref a1)])) rfl (by rw [hml]; rfl) (Steps.refl _) (argsL := []) (rest := []) (lenOf pd_9 rfl) rfl (by show 2 * 0 + _ ≤ _; exact Nat.le_of_eq rfl) (hb hby d19_28) (fun _ _ => ⟨rfl, r2_0, (by decide : 0 + 0 ≤ _), (by decide : 0 + 0 ≤ _)⟩))
  obtain ⟨rfl, N4q, r4_0⟩ := hQ4
  have N4 := Fr.app N2 N4q
  refine OGo.via (fun _ k => st4.trans k) ?_
  show OGo _ _ _ _ (T4.setTop (mkF m 31 #[.val (.ref a1), .val (.int (1 : Int32)), .val (.int (3 : Int32)), .val (.int (4 : Int32)), .val (.int (2 : Int32))] [(.int (1 : Int32))]))
  refine OGo.via (fun _ k => XS.ifNo X4.here hx rfl (hb hby d19_31) rfl ((if0 _ _).trans (feq (by decide : ¬ ((1 : Int32) = (0 : Int32)))).1) (XS.aloadN X4.here hx rfl (hb hby d19_34) rfl rfl k)) ?_
  obtain ⟨T5, X5, e5, st5⟩ := getF X4 hx hZ hown (host := "") (Or.inl (own_w hw 35 rfl)) Via.refl r4_0 F_value_a1 (g := (mkF m 35 #[.val (.ref a1), .val (.int (1 : Int32)), .val (.int (3 : Int32)), .val (.int (4 : Int32)), .val (.int (2 : Int32))] [(.ref a1)])) rfl rfl (hb hby d19_35)
  refine OGo.via st5 ?_
  show OGo _ _ _ _ (T5.setTop (mkF m 38 #[.val (.ref a1), .val (.int (1 : Int32)), .val (.int (3 : Int32)), .val (.int (4 : Int32)), .val (.int (2 : Int32))] [(.ref va)]))
  refine OGo.via (fun _ k => XS.iloadN X5.here hx rfl (hb hby d19_38) rfl (XS.iload X5.here hx rfl (hb hby d19_39) rfl k)) ?_
  obtain ⟨_, T6, Lc6, X6, hQ6, st6⟩ := own_open X5 (Jvm.LawKit.callS X5 hx (y := own_y22) hown (mvT hZ (own_w hw 101 rfl)) (mvT hZ (own_w hw 102 rfl)) (mvT hZ (own_w hw 75 rfl)) (mvT hZ (own_w hw 103 rfl)) (by decide) (backOf (W := 0) (rm22_4_3 l Z a0 hw [] va k1 y0 y1 y2 y3 w fm h0 n0 Z0 V_va S_COMPACT_STRINGS S_SIOOBE_FORMATTER) hZ (own_w hw 103 rfl) (own_w hw 75 rfl) (by decide) (by decide)) (g := (mkF m 41 #[.val (.ref a1), .val (.int (1 : Int32)), .val (.int (3 : Int32)), .val (.int (4 : Int32)), .val (.int (2 : Int32))] [(.int (2 : Int32)), (.int (1 : Int32)), (.ref va)])) rfl (by rw [hml]; rfl) (argsL := [(.ref va), (.int (1 : Int32)), (.int (2 : Int32))]) (rest := []) (lenOf pd_13 rfl) rfl (by show 2 * 0 + _ ≤ _; exact Nat.le_of_eq rfl) (hb hby d19_41) (fun _ _ => ⟨rfl, e5, (by decide : 0 + 2 ≤ _), (by decide : 0 + 6 ≤ _)⟩))
  obtain ⟨rr, vb, kb, rfl, N6q, r6_0, r6_1, r6_2, r6_3, r6_4⟩ := hQ6
  have N6 := Fr.app N4 N6q
  have K6 : Keep h0 T6.heap [] := (Keep.refl h0 []).trans r6_0 all0
  refine OGo.via st6 ?_
  show OGo _ _ _ _ (T6.setTop (mkF m 44 #[.val (.ref a1), .val (.int (1 : Int32)), .val (.int (3 : Int32)), .val (.int (4 : Int32)), .val (.int (2 : Int32))] [(.ref rr)]))
  refine OGo.via (fun _ k => XS.goto X6.here hx rfl (pc0 := 44) (pc' := 57) rfl (hb hby d19_44) (by decide) (by decide) k) ?_
  show OGo _ _ _ _ (T6.setTop (mkF m 57 #[.val (.ref a1), .val (.int (1 : Int32)), .val (.int (3 : Int32)), .val (.int (4 : Int32)), .val (.int (2 : Int32))] [(.ref rr)]))
  refine own_retA X6 hx Bd.notSynchronized Bd.returns rfl rfl (hb hby d19_57) (by decide) (by decide) ?_
  show Q_rm19_4_3 Z _ _ _ _ _ _ _ _ _ h0 n0 _ T6.heap _
  exact ⟨rr, vb, kb, rfl, N6, K6, r6_1, r6_2, r6_3, r6_4⟩
theorem ef_rm25_4_4 (m : MethodId) (a1 : Addr) : entryFrame m #[(.ref a1), (.int (1 : Int32)), (.int (4 : Int32))] 5 = mkF m 0 #[.val (.ref a1), .val (.int (1 : Int32)), .val (.int (4 : Int32)), .unset, .unset] [] := by
  first | (simp [entryFrame, mkF, argsToLocals, Value.category]; done) | rfl
def Q_rm25_4_4 (Z : State) (a1 : Addr) (k1 : ClassId) (y0 : Int32) (y1 : Int32) (y2 : Int32) (y3 : Int32) (h0 : Heap) (n0 : Nat) (v : Option Value) (h : Heap) (L : List Loc) : Prop := ∃ vb : Addr, ∃ kb : ClassId, v = some (.ref vb) ∧ Fr n0 L ∧ Keep h0 h [] ∧ h0.size ≤ vb ∧ Arv Z h vb kb .byte (3 : Int32) [(.int y1), (.int y2), (.int y3)] (.int (0 : Int32))
abbrev R_rm25_4_4 : Room := ⟨1, 1, 3, 18⟩
set_option maxRecDepth 65536 in
set_option maxHeartbeats 40000000 in
theorem rm25_4_4 (l : Launch) (Z : State) (a0 : Array Value) (hw : ∀ d ∈ tables_1, d.before a0 Z = true) (ws : List Jvm.Cond) (a1 : Addr) (k1 : ClassId) (y0 : Int32) (y1 : Int32) (y2 : Int32) (y3 : Int32) (h0 : Heap) (n0 : Nat) (Z0 : n0 ≤ h0.size) (V_a1 : Arv Z h0 a1 k1 .byte (4 : Int32) [(.int y0), (.int y1), (.int y2), (.int y3)] (.int (0 : Int32))) :
    MetFree l own_y24 (head1 (Jvm.Cond.code own_y24 jdk_65_method_133_code 5 (some (.array .byte)) :: ws) R_rm25_4_4) (fun a U => a = #[(.ref a1), (.int (1 : Int32)), (.int (4 : Int32))] ∧ Z.Warmed39 U.vm ∧ U.heap = h0) (fun _ _ _ _ _ => True) (fun _ U o U' => ∃ v L, o = .returned v ∧ Q_rm25_4_4 Z a1 k1 y0 y1 y2 y3 h0 n0 v U'.heap L ∧ FrameEnd U o U' L R_rm25_4_4.cells R_rm25_4_4.slots) := by
  refine MetFree.of_bodySF (plainFor_of_name pn_Arrays) hisR ?_
  intro p e s m args below meth c s₁ Bd hml0 hP hK
  obtain ⟨rfl, hZ, hh⟩ := hP
  have hx := Bd.exec
  have hby := Bd.bytes
  have hml : c.maxLocals = 5 := hml0
  have hown : s.vm.findClass "java/util/Arrays" = some m.cls := findClass_of_methodNamed Bd.named
  have hnm := (name_of_methodNamed Bd.named Bd.method).1
  have X0 : Stand p l e R_rm25_4_4 s m #[(.ref a1), (.int (1 : Int32)), (.int (4 : Int32))] below meth c s₁ [] 0 0 := Stand.of_body Bd
  have e0 : s₁.heap = h0 := by rw [← hh, Bd.state]; rfl
  have N0 := Fr.nil n0
  show OGo p.tables e below (own_Kq s (fun v h L => Q_rm25_4_4 Z a1 k1 y0 y1 y2 y3 h0 n0 v h L) R_rm25_4_4.cells R_rm25_4_4.slots) (s₁.setTop (entryFrame m #[(.ref a1), (.int (1 : Int32)), (.int (4 : Int32))] 5))
  refine OGo.cast (ef_rm25_4_4 m a1) ?_
  show OGo _ _ _ _ (s₁.setTop (mkF m 0 #[.val (.ref a1), .val (.int (1 : Int32)), .val (.int (4 : Int32)), .unset, .unset] []))
  refine OGo.via (fun _ k => XS.iloadN X0.here hx rfl (hb hby d25_0) rfl (XS.iloadN X0.here hx rfl (hb hby d25_1) rfl k)) ?_
  obtain ⟨_, T1, Lc1, X1, hQ1, st1⟩ := own_open X0 (Jvm.LawKit.callS X0 hx (y := own_y20) hown (mvT hZ (own_w hw 119 rfl)) (mvT hZ (own_w hw 120 rfl)) (mvT hZ (own_w hw 114 rfl)) (mvT hZ (own_w hw 121 rfl)) (by decide) (backOf (W := 0) (rm26 l Z a0 hw [] (1 : Int32) (4 : Int32) h0 n0 Z0 (by decide)) hZ (own_w hw 121 rfl) (own_w hw 114 rfl) (by decide) (by decide)) (g := (mkF m 2 #[.val (.ref a1), .val (.int (1 : Int32)), .val (.int (4 : Int32)), .unset, .unset] [(.int (4 : Int32)), (.int (1 : Int32))])) rfl (by rw [hml]; rfl) (argsL := [(.int (1 : Int32)), (.int (4 : Int32))]) (rest := []) (lenOf pd_8 rfl) rfl (by show 2 * 0 + _ ≤ _; exact Nat.le_of_eq rfl) (hb hby d25_2) (fun _ _ => ⟨rfl, e0, (by decide : 0 + 0 ≤ _), (by decide : 0 + 0 ≤ _)⟩))
  obtain ⟨rfl, N1q, r1_0⟩ := hQ1
  have N1 := Fr.app N0 N1q
  refine OGo.via st1 ?_
  show OGo _ _ _ _ (T1.setTop (mkF m 5 #[.val (.ref a1), .val (.int (1 : Int32)), .val (.int (4 : Int32)), .unset, .unset] []))
  refine OGo.via (fun _ k => XS.iloadN X1.here hx rfl (hb hby d25_5) rfl (XS.iloadN X1.here hx rfl (hb hby d25_6) rfl (XS.isub X1.here hx rfl (hb hby d25_7) rfl k))) ?_
  show OGo _ _ _ _ (T1.setTop (mkF m 8 #[.val (.ref a1), .val (.int (1 : Int32)), .val (.int (4 : Int32)), .unset, .unset] [(.int ((4 : Int32) - (1 : Int32)))]))
  rw [show ((4 : Int32) - (1 : Int32)) = (3 : Int32) from by decide]
  refine OGo.via (fun _ k => XS.istoreN X1.here hx rfl (hb hby d25_8) rfl (l' := #[.val (.ref a1), .val (.int (1 : Int32)), .val (.int (4 : Int32)), .val (.int (3 : Int32)), .unset]) rfl (XS.iloadN X1.here hx rfl (hb hby d25_9) rfl k)) ?_
  obtain ⟨T3, h3, ka3, X3, e3, E3, A3, Y3, st3⟩ := newPE (ad := "[B") X1 hx hZ (own_w hw 26 rfl) r1_0 (g := (mkF m 10 #[.val (.ref a1), .val (.int (1 : Int32)), .val (.int (4 : Int32)), .val (.int (3 : Int32)), .unset] [(.int (3 : Int32))])) rfl (hb hby d25_10) rfl (by decide) (cap := 3) (by decide) (by decide) (by decide) (by decide) (by decide)
  obtain ⟨b3, g3⟩ : ∃ z, z = h0.size := ⟨_, rfl⟩
  rw [← g3] at A3 Y3 st3
  refine OGo.via st3 ?_
  have K3 : Keep h0 h3 [] := (Keep.refl h0 []).ext E3
  have lt_a1_b3 : a1 < b3 := Nat.lt_of_lt_of_le V_a1.lt (Nat.le_of_eq g3.symm)
  have sz_b3 : h0.size ≤ b3 := Nat.le_trans (Keep.refl h0 []).1 (Nat.le_of_eq g3.symm)
  have g_b3 : n0 ≤ b3 := Nat.le_trans Z0 sz_b3
  have V3 : Arv Z h3 b3 ka3 .byte (3 : Int32) [(.int (0 : Int32)), (.int (0 : Int32)), (.int (0 : Int32))] (.int (0 : Int32)) := (Arv.new A3 (by decide)).pad (pad_rep [] (.int (0 : Int32)) 3)
  show OGo _ _ _ _ (T3.setTop (mkF m 12 #[.val (.ref a1), .val (.int (1 : Int32)), .val (.int (4 : Int32)), .val (.int (3 : Int32)), .unset] [(.ref b3)]))
  refine OGo.via (fun _ k => XS.astore X3.here hx rfl (hb hby d25_12) rfl rfl (l' := #[.val (.ref a1), .val (.int (1 : Int32)), .val (.int (4 : Int32)), .val (.int (3 : Int32)), .val (.ref b3)]) rfl (XS.aloadN X3.here hx rfl (hb hby d25_14) rfl rfl (XS.iloadN X3.here hx rfl (hb hby d25_15) rfl (XS.aload X3.here hx rfl (hb hby d25_16) rfl rfl (XS.iconst X3.here hx rfl (hb hby d25_18) (XS.aloadN X3.here hx rfl (hb hby d25_19) rfl rfl k)))))) ?_
  have f5 := V_a1.ext E3
  obtain ⟨cl4, Ar4, q4, Sz4, Ng4, Hs4, Gf4⟩ := id f5
  refine OGo.via (X3.arraylength hx (by rw [e3]; exact Ar4.1) (State.isArrayOf_alike hZ.alike Ar4.2.1) (g := (mkF m 20 #[.val (.ref a1), .val (.int (1 : Int32)), .val (.int (4 : Int32)), .val (.int (3 : Int32)), .val (.ref b3)] [(.ref a1), (.int (0 : Int32)), (.ref b3), (.int (1 : Int32)), (.ref a1)])) rfl rfl (hb hby d25_20)) ?_
  rw [len_of Sz4 Ng4]
  show OGo _ _ _ _ (T3.setTop (mkF m 21 #[.val (.ref a1), .val (.int (1 : Int32)), .val (.int (4 : Int32)), .val (.int (3 : Int32)), .val (.ref b3)] [(.int (4 : Int32)), (.int (0 : Int32)), (.ref b3), (.int (1 : Int32)), (.ref a1)]))
  refine OGo.via (fun _ k => XS.iloadN X3.here hx rfl (hb hby d25_21) rfl (XS.isub X3.here hx rfl (hb hby d25_22) rfl k)) ?_
  show OGo _ _ _ _ (T3.setTop (mkF m 23 #[.val (.ref a1), .val (.int (1 : Int32)), .val (.int (4 : Int32)), .val (.int (3 : Int32)), .val (.ref b3)] [(.int ((4 : Int32) - (1 : Int32))), (.int (0 : Int32)), (.ref b3), (.int (1 : Int32)), (.ref a1)]))
  rw [show ((4 : Int32) - (1 : Int32)) = (3 : Int32) from by decide]
  refine OGo.via (fun _ k => XS.iloadN X3.here hx rfl (hb hby d25_23) rfl k) ?_
  obtain ⟨_, T7, Lc7, X7, hQ7, st7⟩ := own_open X3 (Jvm.LawKit.callS X3 hx (y := own_y2) hown (mvT hZ (own_w hw 122 rfl)) (mvT hZ (own_w hw 85 rfl)) (mvT hZ (own_w hw 82 rfl)) (mvT hZ (own_w hw 86 rfl)) (by decide) (backOf (W := 4) (rm18 l Z a0 hw [] (3 : Int32) (3 : Int32) h3 n0 (Nat.le_trans Z0 K3.1)) hZ (own_w hw 86 rfl) (own_w hw 82 rfl) (by decide) (by decide)) (g := (mkF m 24 #[.val (.ref a1), .val (.int (1 : Int32)), .val (.int (4 : Int32)), .val (.int (3 : Int32)), .val (.ref b3)] [(.int (3 : Int32)), (.int (3 : Int32)), (.int (0 : Int32)), (.ref b3), (.int (1 : Int32)), (.ref a1)])) rfl (by rw [hml]; rfl) (argsL := [(.int (3 : Int32)), (.int (3 : Int32))]) (rest := [(.int (0 : Int32)), (.ref b3), (.int (1 : Int32)), (.ref a1)]) (lenOf pd_14 rfl) rfl (by show 2 * 0 + _ ≤ _; exact Nat.le_of_eq rfl) (hb hby d25_24) (fun _ _ => ⟨rfl, e3, (by decide : 1 + 0 ≤ _), (by decide : 3 + 0 ≤ _)⟩))
  obtain ⟨rfl, N7q, r7_0⟩ := hQ7
  have N7 := Fr.app N1 N7q
  refine OGo.via st7 ?_
  show OGo _ _ _ _ (T7.setTop (mkF m 27 #[.val (.ref a1), .val (.int (1 : Int32)), .val (.int (4 : Int32)), .val (.int (3 : Int32)), .val (.ref b3)] [(.int (if (3 : Int32) < (3 : Int32) then (3 : Int32) else (3 : Int32))), (.int (0 : Int32)), (.ref b3), (.int (1 : Int32)), (.ref a1)]))
  rw [show (if (3 : Int32) < (3 : Int32) then (3 : Int32) else (3 : Int32)) = (3 : Int32) from by decide]
  show OGo _ _ _ _ (T7.setTop (mkF m 27 #[.val (.ref a1), .val (.int (1 : Int32)), .val (.int (4 : Int32)), .val (.int (3 : Int32)), .val (.ref b3)] [(.int (3 : Int32)), (.int (0 : Int32)), (.ref b3), (.int (1 : Int32)), (.ref a1)]))
  obtain ⟨T8, h8, Lc8, X8, e8, N8, Kp8, V8, st8⟩ := cpA X7 hx hZ hown (own_w hw 123 rfl) (own_w hw 126 rfl) (own_w hw 124 rfl) (own_w hw 125 rfl) r7_0 (us := [(.int y1), (.int y2), (.int y3)]) f5 V3 (Or.inl ⟨rfl, rfl⟩) (by decide) (by decide) (by decide) (by decide) (by decide) rfl (Nat.le_of_ble_eq_true rfl) N7 g_b3 (g := (mkF m 27 #[.val (.ref a1), .val (.int (1 : Int32)), .val (.int (4 : Int32)), .val (.int (3 : Int32)), .val (.ref b3)] [(.int (3 : Int32)), (.int (0 : Int32)), (.ref b3), (.int (1 : Int32)), (.ref a1)])) rfl (by rw [hml]; rfl) rfl (hb hby d25_27) (by decide) (W := 0) (by show 2 * 0 + _ ≤ _; exact Nat.le_of_eq rfl) (by decide)
  refine OGo.via st8 ?_
  have Vc8 : Arv Z h8 b3 ka3 .byte (3 : Int32) [(.int y1), (.int y2), (.int y3)] (.int (0 : Int32)) := V8
  have K8 : Keep h0 h8 [] := K3.trans Kp8 (allS (Or.inr sz_b3) all0)
  show OGo _ _ _ _ (T8.setTop (mkF m 30 #[.val (.ref a1), .val (.int (1 : Int32)), .val (.int (4 : Int32)), .val (.int (3 : Int32)), .val (.ref b3)] []))
  refine OGo.via (fun _ k => XS.aload X8.here hx rfl (hb hby d25_30) rfl rfl k) ?_
  show OGo _ _ _ _ (T8.setTop (mkF m 32 #[.val (.ref a1), .val (.int (1 : Int32)), .val (.int (4 : Int32)), .val (.int (3 : Int32)), .val (.ref b3)] [(.ref b3)]))
  refine own_retA X8 hx Bd.notSynchronized Bd.returns rfl rfl (hb hby d25_32) (by decide) (by decide) ?_
  show Q_rm25_4_4 Z _ _ _ _ _ _ h0 n0 _ T8.heap _
  rw [e8]
  exact ⟨b3, ka3, rfl, N8, K8, sz_b3, Vc8⟩
theorem ef_rm24_4_4 (m : MethodId) (a1 : Addr) : entryFrame m #[(.ref a1), (.int (1 : Int32)), (.int (4 : Int32))] 3 = mkF m 0 #[.val (.ref a1), .val (.int (1 : Int32)), .val (.int (4 : Int32))] [] := by
  first | (simp [entryFrame, mkF, argsToLocals, Value.category]; done) | rfl
def Q_rm24_4_4 (Z : State) (a1 : Addr) (k1 : ClassId) (y0 : Int32) (y1 : Int32) (y2 : Int32) (y3 : Int32) (h0 : Heap) (n0 : Nat) (v : Option Value) (h : Heap) (L : List Loc) : Prop := ∃ vb : Addr, ∃ kb : ClassId, v = some (.ref vb) ∧ Fr n0 L ∧ Keep h0 h [] ∧ h0.size ≤ vb ∧ Arv Z h vb kb .byte (3 : Int32) [(.int y1), (.int y2), (.int y3)] (.int (0 : Int32))
abbrev R_rm24_4_4 : Room := ⟨2, 1, 3, 34⟩
set_option maxRecDepth 65536 in
set_option maxHeartbeats 40000000 in
theorem rm24_4_4 (l : Launch) (Z : State) (a0 : Array Value) (hw : ∀ d ∈ tables_1, d.before a0 Z = true) (ws : List Jvm.Cond) (a1 : Addr) (k1 : ClassId) (y0 : Int32) (y1 : Int32) (y2 : Int32) (y3 : Int32) (h0 : Heap) (n0 : Nat) (Z0 : n0 ≤ h0.size) (V_a1 : Arv Z h0 a1 k1 .byte (4 : Int32) [(.int y0), (.int y1), (.int y2), (.int y3)] (.int (0 : Int32))) :
    MetFree l own_y25 (head1 (Jvm.Cond.code own_y25 jdk_65_method_132_code 3 (some (.array .byte)) :: ws) R_rm24_4_4) (fun a U => a = #[(.ref a1), (.int (1 : Int32)), (.int (4 : Int32))] ∧ Z.Warmed39 U.vm ∧ U.heap = h0) (fun _ _ _ _ _ => True) (fun _ U o U' => ∃ v L, o = .returned v ∧ Q_rm24_4_4 Z a1 k1 y0 y1 y2 y3 h0 n0 v U'.heap L ∧ FrameEnd U o U' L R_rm24_4_4.cells R_rm24_4_4.slots) := by
  refine MetFree.of_bodySF (plainFor_of_name pn_Arrays) hisR ?_
  intro p e s m args below meth c s₁ Bd hml0 hP hK
  obtain ⟨rfl, hZ, hh⟩ := hP
  have hx := Bd.exec
  have hby := Bd.bytes
  have hml : c.maxLocals = 3 := hml0
  have hown : s.vm.findClass "java/util/Arrays" = some m.cls := findClass_of_methodNamed Bd.named
  have hnm := (name_of_methodNamed Bd.named Bd.method).1
  have X0 : Stand p l e R_rm24_4_4 s m #[(.ref a1), (.int (1 : Int32)), (.int (4 : Int32))] below meth c s₁ [] 0 0 := Stand.of_body Bd
  have e0 : s₁.heap = h0 := by rw [← hh, Bd.state]; rfl
  have N0 := Fr.nil n0
  show OGo p.tables e below (own_Kq s (fun v h L => Q_rm24_4_4 Z a1 k1 y0 y1 y2 y3 h0 n0 v h L) R_rm24_4_4.cells R_rm24_4_4.slots) (s₁.setTop (entryFrame m #[(.ref a1), (.int (1 : Int32)), (.int (4 : Int32))] 3))
  refine OGo.cast (ef_rm24_4_4 m a1) ?_
  show OGo _ _ _ _ (s₁.setTop (mkF m 0 #[.val (.ref a1), .val (.int (1 : Int32)), .val (.int (4 : Int32))] []))
  refine OGo.via (fun _ k => XS.iloadN X0.here hx rfl (hb hby d24_0) rfl (XS.ifYes X0.here hx rfl (pc0 := 1) (pc' := 10) rfl (hb hby d24_1) rfl ((if0 _ _).trans (feq (by decide : ¬ ((1 : Int32) = (0 : Int32)))).2) (by decide) (by decide) (XS.aloadN X0.here hx rfl (hb hby d24_10) rfl rfl (XS.iloadN X0.here hx rfl (hb hby d24_11) rfl (XS.iloadN X0.here hx rfl (hb hby d24_12) rfl k))))) ?_
  obtain ⟨_, T1, Lc1, X1, hQ1, st1⟩ := own_open X0 (Jvm.LawKit.callS X0 hx (y := own_y24) hown (mvT hZ (own_w hw 116 rfl)) (mvT hZ (own_w hw 117 rfl)) (mvT hZ (own_w hw 114 rfl)) (mvT hZ (own_w hw 118 rfl)) (by decide) (backOf (W := 0) (rm25_4_4 l Z a0 hw [] a1 k1 y0 y1 y2 y3 h0 n0 Z0 V_a1) hZ (own_w hw 118 rfl) (own_w hw 114 rfl) (by decide) (by decide)) (g := (mkF m 13 #[.val (.ref a1), .val (.int (1 : Int32)), .val (.int (4 : Int32))] [(.int (4 : Int32)), (.int (1 : Int32)), (.ref a1)])) rfl (by rw [hml]; rfl) (argsL := [(.ref a1), (.int (1 : Int32)), (.int (4 : Int32))]) (rest := []) (lenOf pd_15 rfl) rfl (by show 2 * 0 + _ ≤ _; exact Nat.le_of_eq rfl) (hb hby d24_13) (fun _ _ => ⟨rfl, e0, (by decide : 0 + 1 ≤ _), (by decide : 0 + 3 ≤ _)⟩))
  obtain ⟨vb, kb, rfl, N1q, r1_0, r1_1, r1_2⟩ := hQ1
  have N1 := Fr.app N0 N1q
  have K1 : Keep h0 T1.heap [] := (Keep.refl h0 []).trans r1_0 all0
  have lt_a1_vb : a1 < vb := Nat.lt_of_lt_of_le V_a1.lt r1_1
  have sz_vb : h0.size ≤ vb := Nat.le_trans (Keep.refl h0 []).1 r1_1
  have g_vb : n0 ≤ vb := Nat.le_trans Z0 sz_vb
  refine OGo.via st1 ?_
  show OGo _ _ _ _ (T1.setTop (mkF m 16 #[.val (.ref a1), .val (.int (1 : Int32)), .val (.int (4 : Int32))] [(.ref vb)]))
  show OGo _ _ _ _ (T1.setTop (mkF m 16 #[.val (.ref a1), .val (.int (1 : Int32)), .val (.int (4 : Int32))] [(.ref vb)]))
  refine own_retA X1 hx Bd.notSynchronized Bd.returns rfl rfl (hb hby d24_16) (by decide) (by decide) ?_
  show Q_rm24_4_4 Z _ _ _ _ _ _ h0 n0 _ T1.heap _
  exact ⟨vb, kb, rfl, N1, K1, sz_vb, r1_2⟩
theorem ef_rm22_4_4 (m : MethodId) (a1 : Addr) : entryFrame m #[(.ref a1), (.int (1 : Int32)), (.int (3 : Int32))] 3 = mkF m 0 #[.val (.ref a1), .val (.int (1 : Int32)), .val (.int (3 : Int32))] [] := by
  first | (simp [entryFrame, mkF, argsToLocals, Value.category]; done) | rfl
def Q_rm22_4_4 (Z : State) (a1 : Addr) (k1 : ClassId) (y0 : Int32) (y1 : Int32) (y2 : Int32) (y3 : Int32) (w : Int32) (fm : Value) (h0 : Heap) (n0 : Nat) (v : Option Value) (h : Heap) (L : List Loc) : Prop := ∃ rr : Addr, ∃ vb : Addr, ∃ kb : ClassId, v = some (.ref rr) ∧ Fr n0 L ∧ Keep h0 h [] ∧ Exa Z h rr "java/lang/String" ∧ Fld Z h rr "java/lang/String" "value" "[B" (.ref vb) ∧ Fld Z h rr "java/lang/String" "coder" "B" (.int (0 : Int32)) ∧ Arv Z h vb kb .byte (3 : Int32) [(.int y1), (.int y2), (.int y3)] (.int (0 : Int32))
abbrev R_rm22_4_4 : Room := ⟨3, 2, 7, 50⟩
set_option maxRecDepth 65536 in
set_option maxHeartbeats 40000000 in
theorem rm22_4_4 (l : Launch) (Z : State) (a0 : Array Value) (hw : ∀ d ∈ tables_1, d.before a0 Z = true) (ws : List Jvm.Cond) (a1 : Addr) (k1 : ClassId) (y0 : Int32) (y1 : Int32) (y2 : Int32) (y3 : Int32) (w : Int32) (fm : Value) (h0 : Heap) (n0 : Nat) (Z0 : n0 ≤ h0.size) (V_a1 : Arv Z h0 a1 k1 .byte (4 : Int32) [(.int y0), (.int y1), (.int y2), (.int y3)] (.int (0 : Int32))) (S_COMPACT_STRINGS : Sta Z h0 "java/lang/String" "COMPACT_STRINGS" "Z" (.int w)) (S_SIOOBE_FORMATTER : Sta Z h0 "jdk/internal/util/Preconditions" "SIOOBE_FORMATTER" "Ljava/util/function/BiFunction;" fm) :
    MetFree l own_y22 (head1 (Jvm.Cond.code own_y22 jdk_43_method_47_code 3 (some (.object "java/lang/String")) :: ws) R_rm22_4_4) (fun a U => a = #[(.ref a1), (.int (1 : Int32)), (.int (3 : Int32))] ∧ Z.Warmed39 U.vm ∧ U.heap = h0) (fun _ _ _ _ _ => True) (fun _ U o U' => ∃ v L, o = .returned v ∧ Q_rm22_4_4 Z a1 k1 y0 y1 y2 y3 w fm h0 n0 v U'.heap L ∧ FrameEnd U o U' L R_rm22_4_4.cells R_rm22_4_4.slots) := by
  refine MetFree.of_bodySF (plainFor_of_name pn_StringLatin1) hisR ?_
  intro p e s m args below meth c s₁ Bd hml0 hP hK
  obtain ⟨rfl, hZ, hh⟩ := hP
  have hx := Bd.exec
  have hby := Bd.bytes
  have hml : c.maxLocals = 3 := hml0
  have hown : s.vm.findClass "java/lang/StringLatin1" = some m.cls := findClass_of_methodNamed Bd.named
  have hnm := (name_of_methodNamed Bd.named Bd.method).1
  have X0 : Stand p l e R_rm22_4_4 s m #[(.ref a1), (.int (1 : Int32)), (.int (3 : Int32))] below meth c s₁ [] 0 0 := Stand.of_body Bd
  have e0 : s₁.heap = h0 := by rw [← hh, Bd.state]; rfl
  have N0 := Fr.nil n0
  show OGo p.tables e below (own_Kq s (fun v h L => Q_rm22_4_4 Z a1 k1 y0 y1 y2 y3 w fm h0 n0 v h L) R_rm22_4_4.cells R_rm22_4_4.slots) (s₁.setTop (entryFrame m #[(.ref a1), (.int (1 : Int32)), (.int (3 : Int32))] 3))
  refine OGo.cast (ef_rm22_4_4 m a1) ?_
  show OGo _ _ _ _ (s₁.setTop (mkF m 0 #[.val (.ref a1), .val (.int (1 : Int32)), .val (.int (3 : Int32))] []))
  refine OGo.via (fun _ k => XS.iloadN X0.here hx rfl (hb hby d22_0) rfl (XS.ifYes X0.here hx rfl (pc0 := 1) (pc' := 7) rfl (hb hby d22_1) rfl ((if0 _ _).trans (feq (by decide : ¬ ((3 : Int32) = (0 : Int32)))).2) (by decide) (by decide) k)) ?_
  obtain ⟨T1, h1, X1, e1, E1, A1, D1, -, st1⟩ := newO X0 hx hZ hown (own_w hw 111 rfl) (own_w hw 9 rfl) (own_w hw 10 rfl) e0 (g := (mkF m 7 #[.val (.ref a1), .val (.int (1 : Int32)), .val (.int (3 : Int32))] [])) rfl (hb hby d22_7) (by decide) (by decide)
  obtain ⟨b1, g1⟩ : ∃ z, z = h0.size := ⟨_, rfl⟩
  rw [← g1] at A1 D1 st1
  refine OGo.via st1 ?_
  have K1 : Keep h0 h1 [] := (Keep.refl h0 []).ext E1
  have lt_a1_b1 : a1 < b1 := Nat.lt_of_lt_of_le V_a1.lt (Nat.le_of_eq g1.symm)
  have sz_b1 : h0.size ≤ b1 := Nat.le_trans (Keep.refl h0 []).1 (Nat.le_of_eq g1.symm)
  have g_b1 : n0 ≤ b1 := Nat.le_trans Z0 sz_b1
  have F1_coder : Fld Z h1 b1 "java/lang/String" "coder" "B" (.int (0 : Int32)) := D1 (Or.inr (own_w hw 34 rfl)) (ty := .byte) (by decide)
  have F1_value : Fld Z h1 b1 "java/lang/String" "value" "[B" .null := D1 (Or.inr (own_w hw 36 rfl)) (ty := (.array .byte)) (by decide)
  show OGo _ _ _ _ (T1.setTop (mkF m 10 #[.val (.ref a1), .val (.int (1 : Int32)), .val (.int (3 : Int32))] [(.ref b1)]))
  refine OGo.via (fun _ k => XS.dup X1.here hx rfl (hb hby d22_10) rfl rfl (XS.aloadN X1.here hx rfl (hb hby d22_11) rfl rfl (XS.iloadN X1.here hx rfl (hb hby d22_12) rfl (XS.iloadN X1.here hx rfl (hb hby d22_13) rfl (XS.iloadN X1.here hx rfl (hb hby d22_14) rfl (XS.iadd X1.here hx rfl (hb hby d22_15) rfl k)))))) ?_
  show OGo _ _ _ _ (T1.setTop (mkF m 16 #[.val (.ref a1), .val (.int (1 : Int32)), .val (.int (3 : Int32))] [(.int ((1 : Int32) + (3 : Int32))), (.int (1 : Int32)), (.ref a1), (.ref b1), (.ref b1)]))
  rw [show ((1 : Int32) + (3 : Int32)) = (4 : Int32) from by decide]
  have f4 := V_a1.ext E1
  obtain ⟨_, T3, Lc3, X3, hQ3, st3⟩ := own_open X1 (Jvm.LawKit.callS X1 hx (y := own_y25) hown (mvT hZ (own_w hw 112 rfl)) (mvT hZ (own_w hw 113 rfl)) (mvT hZ (own_w hw 114 rfl)) (mvT hZ (own_w hw 115 rfl)) (by decide) (backOf (W := 2) (rm24_4_4 l Z a0 hw [] a1 k1 y0 y1 y2 y3 h1 n0 (Nat.le_trans Z0 K1.1) f4) hZ (own_w hw 115 rfl) (own_w hw 114 rfl) (by decide) (by decide)) (g := (mkF m 16 #[.val (.ref a1), .val (.int (1 : Int32)), .val (.int (3 : Int32))] [(.int (4 : Int32)), (.int (1 : Int32)), (.ref a1), (.ref b1), (.ref b1)])) rfl (by rw [hml]; rfl) (argsL := [(.ref a1), (.int (1 : Int32)), (.int (4 : Int32))]) (rest := [(.ref b1), (.ref b1)]) (lenOf pd_15 rfl) rfl (by show 2 * 0 + _ ≤ _; exact Nat.le_of_eq rfl) (hb hby d22_16) (fun _ _ => ⟨rfl, e1, (by decide : 1 + 1 ≤ _), (by decide : 4 + 3 ≤ _)⟩))
  obtain ⟨vb, kb, rfl, N3q, r3_0, r3_1, r3_2⟩ := hQ3
  have N3 := Fr.app N0 N3q
  have K3 : Keep h0 T3.heap [] := K1.trans r3_0 all0
  have lt_a1_vb : a1 < vb := Nat.lt_of_lt_of_le f4.lt r3_1
  have lt_b1_vb : b1 < vb := Nat.lt_of_lt_of_le A1.lt r3_1
  have sz_vb : h0.size ≤ vb := Nat.le_trans K1.1 r3_1
  have g_vb : n0 ≤ vb := Nat.le_trans Z0 sz_vb
  refine OGo.via st3 ?_
  show OGo _ _ _ _ (T3.setTop (mkF m 19 #[.val (.ref a1), .val (.int (1 : Int32)), .val (.int (3 : Int32))] [(.ref vb), (.ref b1), (.ref b1)]))
  refine OGo.via (fun _ k => XS.iconst X3.here hx rfl (hb hby d22_19) k) ?_
  have f6 := A1.keep r3_0
  have f7 := F1_value.keep r3_0 nin0
  have f8 := F1_coder.keep r3_0 nin0
  have f9 := own_staKeep0 S_COMPACT_STRINGS K3
  have f10 := own_staKeep0 S_SIOOBE_FORMATTER K3
  obtain ⟨_, T5, Lc5, X5, hQ5, st5⟩ := own_open X3 (X3.specialBack hx (y := own_y21) rfl hown (mvT hZ (own_w hw 127 rfl)) (mvT hZ (own_w hw 128 rfl)) (mvT hZ (own_w hw 129 rfl)) (by decide) (backOf (W := 1) (rm27 l Z a0 hw [] b1 vb w fm T3.heap n0 (Nat.le_trans Z0 K3.1) f6 f7 f8 g_b1 f9 f10) hZ (own_w hw 129 rfl) (own_w hw 10 rfl) (by decide) (by decide)) (g := (mkF m 20 #[.val (.ref a1), .val (.int (1 : Int32)), .val (.int (3 : Int32))] [(.int (0 : Int32)), (.ref vb), (.ref b1), (.ref b1)])) rfl (by rw [hml]; rfl) (Steps.refl _) (a := b1) (argsL := [(.ref vb), (.int (0 : Int32))]) (rest := [(.ref b1)]) (lenOf pd_16 rfl) rfl (by show 2 * 0 + _ ≤ _; exact Nat.le_of_eq rfl) (hb hby d22_20) (fun _ _ => ⟨rfl, rfl, (by decide : 2 + 0 ≤ _), (by decide : 7 + 0 ≤ _)⟩))
  obtain ⟨rfl, N5q, r5_0, r5_1, r5_2, r5_3, r5_4, r5_5⟩ := hQ5
  have N5 := Fr.app N3 N5q
  have K5 : Keep h0 T5.heap [] := K3.trans r5_0 (allS (Or.inr sz_b1) all0)
  refine OGo.via (fun _ k => st5.trans k) ?_
  show OGo _ _ _ _ (T5.setTop (mkF m 23 #[.val (.ref a1), .val (.int (1 : Int32)), .val (.int (3 : Int32))] [(.ref b1)]))
  show OGo _ _ _ _ (T5.setTop (mkF m 23 #[.val (.ref a1), .val (.int (1 : Int32)), .val (.int (3 : Int32))] [(.ref b1)]))
  have f11 := r3_2.keep r5_0 (ninS (Nat.ne_of_gt lt_b1_vb) nin0)
  refine own_retA X5 hx Bd.notSynchronized Bd.returns rfl rfl (hb hby d22_23) (by decide) (by decide) ?_
  show Q_rm22_4_4 Z _ _ _ _ _ _ _ _ h0 n0 _ T5.heap _
  exact ⟨b1, vb, kb, rfl, N5, K5, r5_1, r5_2, r5_3, f11⟩
theorem ef_rm19_4_4 (m : MethodId) (a1 : Addr) : entryFrame m #[(.ref a1), (.int (1 : Int32)), (.int (4 : Int32))] 5 = mkF m 0 #[.val (.ref a1), .val (.int (1 : Int32)), .val (.int (4 : Int32)), .unset, .unset] [] := by
  first | (simp [entryFrame, mkF, argsToLocals, Value.category]; done) | rfl
def Q_rm19_4_4 (Z : State) (a1 : Addr) (w : Int32) (fm : Value) (va : Addr) (k1 : ClassId) (y0 : Int32) (y1 : Int32) (y2 : Int32) (y3 : Int32) (h0 : Heap) (n0 : Nat) (v : Option Value) (h : Heap) (L : List Loc) : Prop := ∃ rr : Addr, ∃ vb : Addr, ∃ kb : ClassId, v = some (.ref rr) ∧ Fr n0 L ∧ Keep h0 h [] ∧ Exa Z h rr "java/lang/String" ∧ Fld Z h rr "java/lang/String" "value" "[B" (.ref vb) ∧ Fld Z h rr "java/lang/String" "coder" "B" (.int (0 : Int32)) ∧ Arv Z h vb kb .byte (3 : Int32) [(.int y1), (.int y2), (.int y3)] (.int (0 : Int32))
abbrev R_rm19_4_4 : Room := ⟨4, 2, 7, 64⟩
set_option maxRecDepth 65536 in
set_option maxHeartbeats 40000000 in
theorem rm19_4_4 (l : Launch) (Z : State) (a0 : Array Value) (hw : ∀ d ∈ tables_1, d.before a0 Z = true) (ws : List Jvm.Cond) (a1 : Addr) (w : Int32) (fm : Value) (va : Addr) (k1 : ClassId) (y0 : Int32) (y1 : Int32) (y2 : Int32) (y3 : Int32) (h0 : Heap) (n0 : Nat) (Z0 : n0 ≤ h0.size) (E_a1 : Exa Z h0 a1 "java/lang/String") (F_value_a1 : Fld Z h0 a1 "java/lang/String" "value" "[B" (.ref va)) (F_coder_a1 : Fld Z h0 a1 "java/lang/String" "coder" "B" (.int (0 : Int32))) (V_va : Arv Z h0 va k1 .byte (4 : Int32) [(.int y0), (.int y1), (.int y2), (.int y3)] (.int (0 : Int32))) (S_COMPACT_STRINGS : Sta Z h0 "java/lang/String" "COMPACT_STRINGS" "Z" (.int w)) (S_SIOOBE_FORMATTER : Sta Z h0 "jdk/internal/util/Preconditions" "SIOOBE_FORMATTER" "Ljava/util/function/BiFunction;" fm) (hw0 : ¬ w = (0 : Int32)) (hr_fm : fm.isRef = true) :
    MetFree l own_y23 (head1 (Jvm.Cond.code own_y23 jdk_42_method_92_code 5 (some (.object "java/lang/String")) :: ws) R_rm19_4_4) (fun a U => a = #[(.ref a1), (.int (1 : Int32)), (.int (4 : Int32))] ∧ Z.Warmed39 U.vm ∧ U.heap = h0) (fun _ _ _ _ _ => True) (fun _ U o U' => ∃ v L, o = .returned v ∧ Q_rm19_4_4 Z a1 w fm va k1 y0 y1 y2 y3 h0 n0 v U'.heap L ∧ FrameEnd U o U' L R_rm19_4_4.cells R_rm19_4_4.slots) := by
  refine MetFree.of_bodySF (plainFor_of_name pn_String) hisR ?_
  intro p e s m args below meth c s₁ Bd hml0 hP hK
  obtain ⟨rfl, hZ, hh⟩ := hP
  have hx := Bd.exec
  have hby := Bd.bytes
  have hml : c.maxLocals = 5 := hml0
  have hown : s.vm.findClass "java/lang/String" = some m.cls := findClass_of_methodNamed Bd.named
  have hnm := (name_of_methodNamed Bd.named Bd.method).1
  have X0 : Stand p l e R_rm19_4_4 s m #[(.ref a1), (.int (1 : Int32)), (.int (4 : Int32))] below meth c s₁ [] 0 0 := Stand.of_body Bd
  have e0 : s₁.heap = h0 := by rw [← hh, Bd.state]; rfl
  have N0 := Fr.nil n0
  show OGo p.tables e below (own_Kq s (fun v h L => Q_rm19_4_4 Z a1 w fm va k1 y0 y1 y2 y3 h0 n0 v h L) R_rm19_4_4.cells R_rm19_4_4.slots) (s₁.setTop (entryFrame m #[(.ref a1), (.int (1 : Int32)), (.int (4 : Int32))] 5))
  refine OGo.cast (ef_rm19_4_4 m a1) ?_
  show OGo _ _ _ _ (s₁.setTop (mkF m 0 #[.val (.ref a1), .val (.int (1 : Int32)), .val (.int (4 : Int32)), .unset, .unset] []))
  refine OGo.via (fun _ k => XS.aloadN X0.here hx rfl (hb hby d19_0) rfl rfl k) ?_
  obtain ⟨cq1, kq1, q1a, q1b, q1c⟩ := isOf hZ e0 E_a1
  obtain ⟨_, T1, Lc1, X1, hQ1, st1⟩ := own_open X0 (X0.virtualBack hx (y := own_y6) (z := own_y6) hown (mvT hZ (own_w hw 63 rfl)) (mvT hZ (own_w hw 64 rfl)) (notFace_of_selects (args := #[]) (mvT hZ (own_w hw 66 rfl))) (mvT hZ (own_w hw 66 rfl)) (mvT hZ (own_w hw 65 rfl)) (by decide) (backOf (W := 0) (rm13 l Z a0 hw [] a1 w va k1 [(.int y0), (.int y1), (.int y2), (.int y3)] (4 : Int32) h0 n0 Z0 E_a1 F_value_a1 F_coder_a1 V_va S_COMPACT_STRINGS hw0) hZ (own_w hw 67 rfl) (own_w hw 10 rfl) (by decide) (by decide)) q1a q1c (g := (mkF m 1 #[.val (.ref a1), .val (.int (1 : Int32)), .val (.int (4 : Int32)), .unset, .unset] [(.ref a1)])) rfl (by rw [hml]; rfl) (Steps.refl _) (argsL := []) (rest := []) (lenOf pd_11 rfl) rfl (by show 2 * 0 + _ ≤ _; exact Nat.le_of_eq rfl) (hb hby d19_1) (fun _ _ => ⟨rfl, e0, (by decide : 0 + 0 ≤ _), (by decide : 0 + 0 ≤ _)⟩))
  obtain ⟨rfl, N1q, r1_0⟩ := hQ1
  have N1 := Fr.app N0 N1q
  refine OGo.via (fun _ k => st1.trans k) ?_
  show OGo _ _ _ _ (T1.setTop (mkF m 4 #[.val (.ref a1), .val (.int (1 : Int32)), .val (.int (4 : Int32)), .unset, .unset] [(.int (4 : Int32))]))
  refine OGo.via (fun _ k => XS.istoreN X1.here hx rfl (hb hby d19_4) rfl (l' := #[.val (.ref a1), .val (.int (1 : Int32)), .val (.int (4 : Int32)), .val (.int (4 : Int32)), .unset]) rfl (XS.iloadN X1.here hx rfl (hb hby d19_5) rfl (XS.iloadN X1.here hx rfl (hb hby d19_6) rfl (XS.iloadN X1.here hx rfl (hb hby d19_7) rfl k)))) ?_
  obtain ⟨_, T2, Lc2, X2, hQ2, st2⟩ := own_open X1 (Jvm.LawKit.callS X1 hx (y := own_y15) hown (mvT hZ (own_w hw 93 rfl)) (mvT hZ (own_w hw 94 rfl)) (mvT hZ (own_w hw 10 rfl)) (mvT hZ (own_w hw 95 rfl)) (by decide) (backOf (W := 0) (rm20 l Z a0 hw [] (1 : Int32) (4 : Int32) (4 : Int32) fm h0 n0 Z0 S_SIOOBE_FORMATTER (by decide) (by decide) (by decide) hr_fm) hZ (own_w hw 95 rfl) (own_w hw 10 rfl) (by decide) (by decide)) (g := (mkF m 8 #[.val (.ref a1), .val (.int (1 : Int32)), .val (.int (4 : Int32)), .val (.int (4 : Int32)), .unset] [(.int (4 : Int32)), (.int (4 : Int32)), (.int (1 : Int32))])) rfl (by rw [hml]; rfl) (argsL := [(.int (1 : Int32)), (.int (4 : Int32)), (.int (4 : Int32))]) (rest := []) (lenOf pd_12 rfl) rfl (by show 2 * 0 + _ ≤ _; exact Nat.le_of_eq rfl) (hb hby d19_8) (fun _ _ => ⟨rfl, r1_0, (by decide : 0 + 0 ≤ _), (by decide : 0 + 0 ≤ _)⟩))
  obtain ⟨rfl, N2q, r2_0⟩ := hQ2
  have N2 := Fr.app N1 N2q
  refine OGo.via st2 ?_
  show OGo _ _ _ _ (T2.setTop (mkF m 11 #[.val (.ref a1), .val (.int (1 : Int32)), .val (.int (4 : Int32)), .val (.int (4 : Int32)), .unset] []))
  refine OGo.via (fun _ k => XS.iloadN X2.here hx rfl (hb hby d19_11) rfl (XS.ifYes X2.here hx rfl (pc0 := 12) (pc' := 22) rfl (hb hby d19_12) rfl ((if0 _ _).trans (feq (by decide : ¬ ((1 : Int32) = (0 : Int32)))).2) (by decide) (by decide) (XS.iloadN X2.here hx rfl (hb hby d19_22) rfl (XS.iloadN X2.here hx rfl (hb hby d19_23) rfl (XS.isub X2.here hx rfl (hb hby d19_24) rfl k))))) ?_
  show OGo _ _ _ _ (T2.setTop (mkF m 25 #[.val (.ref a1), .val (.int (1 : Int32)), .val (.int (4 : Int32)), .val (.int (4 : Int32)), .unset] [(.int ((4 : Int32) - (1 : Int32)))]))
  rw [show ((4 : Int32) - (1 : Int32)) = (3 : Int32) from by decide]
  refine OGo.via (fun _ k => XS.istore X2.here hx rfl (hb hby d19_25) rfl (l' := #[.val (.ref a1), .val (.int (1 : Int32)), .val (.int (4 : Int32)), .val (.int (4 : Int32)), .val (.int (3 : Int32))]) rfl (XS.aloadN X2.here hx rfl (hb hby d19_27) rfl rfl k)) ?_
  obtain ⟨cq4, kq4, q4a, q4b, q4c⟩ := isOf hZ r2_0 E_a1
  obtain ⟨_, T4, Lc4, X4, hQ4, st4⟩ := own_open X2 (X2.virtualBack hx (y := own_y5) (z := own_y5) hown (mvT hZ (own_w hw 58 rfl)) (mvT hZ (own_w hw 59 rfl)) (notFace_of_selects (args := #[]) (mvT hZ (own_w hw 61 rfl))) (mvT hZ (own_w hw 61 rfl)) (mvT hZ (own_w hw 60 rfl)) (by decide) (backOf (W := 0) (rm12 l Z a0 hw [] a1 w va h0 n0 Z0 E_a1 F_value_a1 F_coder_a1 S_COMPACT_STRINGS hw0) hZ (own_w hw 62 rfl) (own_w hw 10 rfl) (by decide) (by decide)) q4a q4c (g := (mkF m 28 #[.val (.ref a1), .val (.int (1 : Int32)), .val (.int (4 : Int32)), .val (.int (4 : Int32)), .val (.int (3 : Int32))] [(.ref a1)])) rfl (by rw [hml]; rfl) (Steps.refl _) (argsL := []) (rest := []) (lenOf pd_9 rfl) rfl (by show 2 * 0 + _ ≤ _; exact Nat.le_of_eq rfl) (hb hby d19_28) (fun _ _ => ⟨rfl, r2_0, (by decide : 0 + 0 ≤ _), (by decide : 0 + 0 ≤ _)⟩))
  obtain ⟨rfl, N4q, r4_0⟩ := hQ4
  have N4 := Fr.app N2 N4q
  refine OGo.via (fun _ k => st4.trans k) ?_
  show OGo _ _ _ _ (T4.setTop (mkF m 31 #[.val (.ref a1), .val (.int (1 : Int32)), .val (.int (4 : Int32)), .val (.int (4 : Int32)), .val (.int (3 : Int32))] [(.int (1 : Int32))]))
  refine OGo.via (fun _ k => XS.ifNo X4.here hx rfl (hb hby d19_31) rfl ((if0 _ _).trans (feq (by decide : ¬ ((1 : Int32) = (0 : Int32)))).1) (XS.aloadN X4.here hx rfl (hb hby d19_34) rfl rfl k)) ?_
  obtain ⟨T5, X5, e5, st5⟩ := getF X4 hx hZ hown (host := "") (Or.inl (own_w hw 35 rfl)) Via.refl r4_0 F_value_a1 (g := (mkF m 35 #[.val (.ref a1), .val (.int (1 : Int32)), .val (.int (4 : Int32)), .val (.int (4 : Int32)), .val (.int (3 : Int32))] [(.ref a1)])) rfl rfl (hb hby d19_35)
  refine OGo.via st5 ?_
  show OGo _ _ _ _ (T5.setTop (mkF m 38 #[.val (.ref a1), .val (.int (1 : Int32)), .val (.int (4 : Int32)), .val (.int (4 : Int32)), .val (.int (3 : Int32))] [(.ref va)]))
  refine OGo.via (fun _ k => XS.iloadN X5.here hx rfl (hb hby d19_38) rfl (XS.iload X5.here hx rfl (hb hby d19_39) rfl k)) ?_
  obtain ⟨_, T6, Lc6, X6, hQ6, st6⟩ := own_open X5 (Jvm.LawKit.callS X5 hx (y := own_y22) hown (mvT hZ (own_w hw 101 rfl)) (mvT hZ (own_w hw 102 rfl)) (mvT hZ (own_w hw 75 rfl)) (mvT hZ (own_w hw 103 rfl)) (by decide) (backOf (W := 0) (rm22_4_4 l Z a0 hw [] va k1 y0 y1 y2 y3 w fm h0 n0 Z0 V_va S_COMPACT_STRINGS S_SIOOBE_FORMATTER) hZ (own_w hw 103 rfl) (own_w hw 75 rfl) (by decide) (by decide)) (g := (mkF m 41 #[.val (.ref a1), .val (.int (1 : Int32)), .val (.int (4 : Int32)), .val (.int (4 : Int32)), .val (.int (3 : Int32))] [(.int (3 : Int32)), (.int (1 : Int32)), (.ref va)])) rfl (by rw [hml]; rfl) (argsL := [(.ref va), (.int (1 : Int32)), (.int (3 : Int32))]) (rest := []) (lenOf pd_13 rfl) rfl (by show 2 * 0 + _ ≤ _; exact Nat.le_of_eq rfl) (hb hby d19_41) (fun _ _ => ⟨rfl, e5, (by decide : 0 + 2 ≤ _), (by decide : 0 + 7 ≤ _)⟩))
  obtain ⟨rr, vb, kb, rfl, N6q, r6_0, r6_1, r6_2, r6_3, r6_4⟩ := hQ6
  have N6 := Fr.app N4 N6q
  have K6 : Keep h0 T6.heap [] := (Keep.refl h0 []).trans r6_0 all0
  refine OGo.via st6 ?_
  show OGo _ _ _ _ (T6.setTop (mkF m 44 #[.val (.ref a1), .val (.int (1 : Int32)), .val (.int (4 : Int32)), .val (.int (4 : Int32)), .val (.int (3 : Int32))] [(.ref rr)]))
  refine OGo.via (fun _ k => XS.goto X6.here hx rfl (pc0 := 44) (pc' := 57) rfl (hb hby d19_44) (by decide) (by decide) k) ?_
  show OGo _ _ _ _ (T6.setTop (mkF m 57 #[.val (.ref a1), .val (.int (1 : Int32)), .val (.int (4 : Int32)), .val (.int (4 : Int32)), .val (.int (3 : Int32))] [(.ref rr)]))
  refine own_retA X6 hx Bd.notSynchronized Bd.returns rfl rfl (hb hby d19_57) (by decide) (by decide) ?_
  show Q_rm19_4_4 Z _ _ _ _ _ _ _ _ _ h0 n0 _ T6.heap _
  exact ⟨rr, vb, kb, rfl, N6, K6, r6_1, r6_2, r6_3, r6_4⟩
theorem d15_0 : decode jdk_43_method_22_code 0 = .ok (.iload_n 1, 1) := by decide +kernel
theorem d15_1 : decode jdk_43_method_22_code 1 = .ok (.invokestatic 88, 3) := by decide +kernel
theorem pd_17 : parseMethodDescriptor "(I)Z" = some ⟨[.int], some .boolean⟩ := by decide +kernel
theorem d15_4 : decode jdk_43_method_22_code 4 = .ok (.ifCond .ne 5, 3) := by decide +kernel
theorem d15_9 : decode jdk_43_method_22_code 9 = .ok (.iload_n 2, 1) := by decide +kernel
theorem d15_10 : decode jdk_43_method_22_code 10 = .ok (.iconst 0, 1) := by decide +kernel
theorem d15_11 : decode jdk_43_method_22_code 11 = .ok (.invokestatic 92, 3) := by decide +kernel
theorem d15_14 : decode jdk_43_method_22_code 14 = .ok (.istore_n 2, 1) := by decide +kernel
theorem d15_15 : decode jdk_43_method_22_code 15 = .ok (.iload_n 3, 1) := by decide +kernel
theorem d15_16 : decode jdk_43_method_22_code 16 = .ok (.aload_n 0, 1) := by decide +kernel
theorem d15_17 : decode jdk_43_method_22_code 17 = .ok (.arraylength, 1) := by decide +kernel
theorem d15_18 : decode jdk_43_method_22_code 18 = .ok (.invokestatic 38, 3) := by decide +kernel
theorem d15_21 : decode jdk_43_method_22_code 21 = .ok (.istore_n 3, 1) := by decide +kernel
theorem d15_22 : decode jdk_43_method_22_code 22 = .ok (.iload_n 2, 1) := by decide +kernel
theorem d15_23 : decode jdk_43_method_22_code 23 = .ok (.iload_n 3, 1) := by decide +kernel
theorem d15_24 : decode jdk_43_method_22_code 24 = .ok (.if_icmp .lt 5, 3) := by decide +kernel
theorem d15_27 : decode jdk_43_method_22_code 27 = .ok (.iconst (-1), 1) := by decide +kernel
theorem d15_28 : decode jdk_43_method_22_code 28 = .ok (.ireturn, 1) := by decide +kernel
theorem ef_rm15_1 (m : MethodId) (a1 : Addr) : entryFrame m #[(.ref a1), (.int (47 : Int32)), (.int (1 : Int32)), (.int (1 : Int32))] 4 = mkF m 0 #[.val (.ref a1), .val (.int (47 : Int32)), .val (.int (1 : Int32)), .val (.int (1 : Int32))] [] := by
  first | (simp [entryFrame, mkF, argsToLocals, Value.category]; done) | rfl
def Q_rm15_1 (Z : State) (a1 : Addr) (k1 : ClassId) (y0 : Int32) (h0 : Heap) (n0 : Nat) (v : Option Value) (h : Heap) (L : List Loc) : Prop := v = some (.int (own_ix (0 : Int32) (0 : Int32) (0 : Int32))) ∧ Fr n0 L ∧ h = h0
abbrev R_rm15_1 : Room := ⟨1, 0, 0, 13⟩
set_option maxRecDepth 65536 in
set_option maxHeartbeats 40000000 in
theorem rm15_1 (l : Launch) (Z : State) (a0 : Array Value) (hw : ∀ d ∈ tables_1, d.before a0 Z = true) (ws : List Jvm.Cond) (a1 : Addr) (k1 : ClassId) (y0 : Int32) (h0 : Heap) (n0 : Nat) (Z0 : n0 ≤ h0.size) (V_a1 : Arv Z h0 a1 k1 .byte (1 : Int32) [(.int y0)] (.int (0 : Int32))) :
    MetFree l own_y26 (head1 (Jvm.Cond.code own_y26 jdk_43_method_22_code 4 (some .int) :: ws) R_rm15_1) (fun a U => a = #[(.ref a1), (.int (47 : Int32)), (.int (1 : Int32)), (.int (1 : Int32))] ∧ Z.Warmed39 U.vm ∧ U.heap = h0) (fun _ _ _ _ _ => True) (fun _ U o U' => ∃ v L, o = .returned v ∧ Q_rm15_1 Z a1 k1 y0 h0 n0 v U'.heap L ∧ FrameEnd U o U' L R_rm15_1.cells R_rm15_1.slots) := by
  refine MetFree.of_bodySF (plainFor_of_name pn_StringLatin1) hisR ?_
  intro p e s m args below meth c s₁ Bd hml0 hP hK
  obtain ⟨rfl, hZ, hh⟩ := hP
  have hx := Bd.exec
  have hby := Bd.bytes
  have hml : c.maxLocals = 4 := hml0
  have hown : s.vm.findClass "java/lang/StringLatin1" = some m.cls := findClass_of_methodNamed Bd.named
  have hnm := (name_of_methodNamed Bd.named Bd.method).1
  have X0 : Stand p l e R_rm15_1 s m #[(.ref a1), (.int (47 : Int32)), (.int (1 : Int32)), (.int (1 : Int32))] below meth c s₁ [] 0 0 := Stand.of_body Bd
  have e0 : s₁.heap = h0 := by rw [← hh, Bd.state]; rfl
  have N0 := Fr.nil n0
  show OGo p.tables e below (own_Kq s (fun v h L => Q_rm15_1 Z a1 k1 y0 h0 n0 v h L) R_rm15_1.cells R_rm15_1.slots) (s₁.setTop (entryFrame m #[(.ref a1), (.int (47 : Int32)), (.int (1 : Int32)), (.int (1 : Int32))] 4))
  refine OGo.cast (ef_rm15_1 m a1) ?_
  show OGo _ _ _ _ (s₁.setTop (mkF m 0 #[.val (.ref a1), .val (.int (47 : Int32)), .val (.int (1 : Int32)), .val (.int (1 : Int32))] []))
  refine OGo.via (fun _ k => XS.iloadN X0.here hx rfl (hb hby d15_0) rfl k) ?_
  obtain ⟨_, T1, Lc1, X1, hQ1, st1⟩ := own_open X0 (Jvm.LawKit.callS X0 hx (y := own_y3) hown (mvT hZ (own_w hw 77 rfl)) (mvT hZ (own_w hw 78 rfl)) (mvT hZ (own_w hw 75 rfl)) (mvT hZ (own_w hw 79 rfl)) (by decide) (backOf (W := 0) (rm16 l Z a0 hw []  h0 n0 Z0) hZ (own_w hw 79 rfl) (own_w hw 75 rfl) (by decide) (by decide)) (g := (mkF m 1 #[.val (.ref a1), .val (.int (47 : Int32)), .val (.int (1 : Int32)), .val (.int (1 : Int32))] [(.int (47 : Int32))])) rfl (by rw [hml]; rfl) (argsL := [(.int (47 : Int32))]) (rest := []) (lenOf pd_17 rfl) rfl (by show 2 * 0 + _ ≤ _; exact Nat.le_of_eq rfl) (hb hby d15_1) (fun _ _ => ⟨rfl, e0, (by decide : 0 + 0 ≤ _), (by decide : 0 + 0 ≤ _)⟩))
  obtain ⟨rfl, N1q, r1_0⟩ := hQ1
  have N1 := Fr.app N0 N1q
  refine OGo.via st1 ?_
  show OGo _ _ _ _ (T1.setTop (mkF m 4 #[.val (.ref a1), .val (.int (47 : Int32)), .val (.int (1 : Int32)), .val (.int (1 : Int32))] [(.int (1 : Int32))]))
  refine OGo.via (fun _ k => XS.ifYes X1.here hx rfl (pc0 := 4) (pc' := 9) rfl (hb hby d15_4) rfl ((if0 _ _).trans (feq (by decide : ¬ ((1 : Int32) = (0 : Int32)))).2) (by decide) (by decide) (XS.iloadN X1.here hx rfl (hb hby d15_9) rfl (XS.iconst X1.here hx rfl (hb hby d15_10) k))) ?_
  obtain ⟨_, T2, Lc2, X2, hQ2, st2⟩ := own_open X1 (Jvm.LawKit.callS X1 hx (y := own_y1) hown (mvT hZ (own_w hw 80 rfl)) (mvT hZ (own_w hw 81 rfl)) (mvT hZ (own_w hw 82 rfl)) (mvT hZ (own_w hw 83 rfl)) (by decide) (backOf (W := 0) (rm17 l Z a0 hw [] (1 : Int32) (0 : Int32) h0 n0 Z0) hZ (own_w hw 83 rfl) (own_w hw 82 rfl) (by decide) (by decide)) (g := (mkF m 11 #[.val (.ref a1), .val (.int (47 : Int32)), .val (.int (1 : Int32)), .val (.int (1 : Int32))] [(.int (0 : Int32)), (.int (1 : Int32))])) rfl (by rw [hml]; rfl) (argsL := [(.int (1 : Int32)), (.int (0 : Int32))]) (rest := []) (lenOf pd_14 rfl) rfl (by show 2 * 0 + _ ≤ _; exact Nat.le_of_eq rfl) (hb hby d15_11) (fun _ _ => ⟨rfl, r1_0, (by decide : 0 + 0 ≤ _), (by decide : 0 + 0 ≤ _)⟩))
  obtain ⟨rfl, N2q, r2_0⟩ := hQ2
  have N2 := Fr.app N1 N2q
  refine OGo.via st2 ?_
  show OGo _ _ _ _ (T2.setTop (mkF m 14 #[.val (.ref a1), .val (.int (47 : Int32)), .val (.int (1 : Int32)), .val (.int (1 : Int32))] [(.int (if (1 : Int32) < (0 : Int32) then (0 : Int32) else (1 : Int32)))]))
  rw [show (if (1 : Int32) < (0 : Int32) then (0 : Int32) else (1 : Int32)) = (1 : Int32) from by decide]
  show OGo _ _ _ _ (T2.setTop (mkF m 14 #[.val (.ref a1), .val (.int (47 : Int32)), .val (.int (1 : Int32)), .val (.int (1 : Int32))] [(.int (1 : Int32))]))
  refine OGo.via (fun _ k => XS.istoreN X2.here hx rfl (hb hby d15_14) rfl (l' := #[.val (.ref a1), .val (.int (47 : Int32)), .val (.int (1 : Int32)), .val (.int (1 : Int32))]) rfl (XS.iloadN X2.here hx rfl (hb hby d15_15) rfl (XS.aloadN X2.here hx rfl (hb hby d15_16) rfl rfl k))) ?_
  obtain ⟨cl3, Ar3, q3, Sz3, Ng3, Hs3, Gf3⟩ := id V_a1
  refine OGo.via (X2.arraylength hx (by rw [r2_0]; exact Ar3.1) (State.isArrayOf_alike hZ.alike Ar3.2.1) (g := (mkF m 17 #[.val (.ref a1), .val (.int (47 : Int32)), .val (.int (1 : Int32)), .val (.int (1 : Int32))] [(.ref a1), (.int (1 : Int32))])) rfl rfl (hb hby d15_17)) ?_
  rw [len_of Sz3 Ng3]
  show OGo _ _ _ _ (T2.setTop (mkF m 18 #[.val (.ref a1), .val (.int (47 : Int32)), .val (.int (1 : Int32)), .val (.int (1 : Int32))] [(.int (1 : Int32)), (.int (1 : Int32))]))
  obtain ⟨_, T4, Lc4, X4, hQ4, st4⟩ := own_open X2 (Jvm.LawKit.callS X2 hx (y := own_y2) hown (mvT hZ (own_w hw 84 rfl)) (mvT hZ (own_w hw 85 rfl)) (mvT hZ (own_w hw 82 rfl)) (mvT hZ (own_w hw 86 rfl)) (by decide) (backOf (W := 0) (rm18 l Z a0 hw [] (1 : Int32) (1 : Int32) h0 n0 Z0) hZ (own_w hw 86 rfl) (own_w hw 82 rfl) (by decide) (by decide)) (g := (mkF m 18 #[.val (.ref a1), .val (.int (47 : Int32)), .val (.int (1 : Int32)), .val (.int (1 : Int32))] [(.int (1 : Int32)), (.int (1 : Int32))])) rfl (by rw [hml]; rfl) (argsL := [(.int (1 : Int32)), (.int (1 : Int32))]) (rest := []) (lenOf pd_14 rfl) rfl (by show 2 * 0 + _ ≤ _; exact Nat.le_of_eq rfl) (hb hby d15_18) (fun _ _ => ⟨rfl, r2_0, (by decide : 0 + 0 ≤ _), (by decide : 0 + 0 ≤ _)⟩))
  obtain ⟨rfl, N4q, r4_0⟩ := hQ4
  have N4 := Fr.app N2 N4q
  refine OGo.via st4 ?_
  show OGo _ _ _ _ (T4.setTop (mkF m 21 #[.val (.ref a1), .val (.int (47 : Int32)), .val (.int (1 : Int32)), .val (.int (1 : Int32))] [(.int (if (1 : Int32) < (1 : Int32) then (1 : Int32) else (1 : Int32)))]))
  rw [show (if (1 : Int32) < (1 : Int32) then (1 : Int32) else (1 : Int32)) = (1 : Int32) from by decide]
  show OGo _ _ _ _ (T4.setTop (mkF m 21 #[.val (.ref a1), .val (.int (47 : Int32)), .val (.int (1 : Int32)), .val (.int (1 : Int32))] [(.int (1 : Int32))]))
  refine OGo.via (fun _ k => XS.istoreN X4.here hx rfl (hb hby d15_21) rfl (l' := #[.val (.ref a1), .val (.int (47 : Int32)), .val (.int (1 : Int32)), .val (.int (1 : Int32))]) rfl (XS.iloadN X4.here hx rfl (hb hby d15_22) rfl (XS.iloadN X4.here hx rfl (hb hby d15_23) rfl (XS.icmpNo X4.here hx rfl (hb hby d15_24) rfl (flt (by decide : ¬ ((1 : Int32) < (1 : Int32)))).1 (XS.iconst X4.here hx rfl (hb hby d15_27) k))))) ?_
  show OGo _ _ _ _ (T4.setTop (mkF m 28 #[.val (.ref a1), .val (.int (47 : Int32)), .val (.int (1 : Int32)), .val (.int (1 : Int32))] [(.int (-1 : Int32))]))
  refine own_retI X4 hx Bd.notSynchronized Bd.returns (hb hby d15_28) (by decide) (by decide) ?_
  show Q_rm15_1 Z _ _ _ h0 n0 _ T4.heap _
  exact ⟨(by decide), N4, r4_0⟩
theorem d11_0 : decode jdk_42_method_80_code 0 = .ok (.aload_n 0, 1) := by decide +kernel
theorem d11_1 : decode jdk_42_method_80_code 1 = .ok (.invokevirtual 492, 3) := by decide +kernel
theorem d11_4 : decode jdk_42_method_80_code 4 = .ok (.ifCond .eq 19, 3) := by decide +kernel
theorem d11_7 : decode jdk_42_method_80_code 7 = .ok (.aload_n 0, 1) := by decide +kernel
theorem d11_8 : decode jdk_42_method_80_code 8 = .ok (.getfield 9, 3) := by decide +kernel
theorem d11_11 : decode jdk_42_method_80_code 11 = .ok (.iload_n 1, 1) := by decide +kernel
theorem d11_12 : decode jdk_42_method_80_code 12 = .ok (.iload_n 2, 1) := by decide +kernel
theorem d11_13 : decode jdk_42_method_80_code 13 = .ok (.aload_n 0, 1) := by decide +kernel
theorem d11_14 : decode jdk_42_method_80_code 14 = .ok (.invokevirtual 505, 3) := by decide +kernel
theorem d11_17 : decode jdk_42_method_80_code 17 = .ok (.invokestatic 637, 3) := by decide +kernel
theorem pd_18 : parseMethodDescriptor "([BIII)I" = some ⟨[(.array .byte), .int, .int, .int], some .int⟩ := by decide +kernel
theorem d11_20 : decode jdk_42_method_80_code 20 = .ok (.goto 16, 3) := by decide +kernel
theorem d11_36 : decode jdk_42_method_80_code 36 = .ok (.ireturn, 1) := by decide +kernel
theorem ef_rm11_1 (m : MethodId) (a1 : Addr) : entryFrame m #[(.ref a1), (.int (47 : Int32)), (.int (1 : Int32))] 3 = mkF m 0 #[.val (.ref a1), .val (.int (47 : Int32)), .val (.int (1 : Int32))] [] := by
  first | (simp [entryFrame, mkF, argsToLocals, Value.category]; done) | rfl
def Q_rm11_1 (Z : State) (a1 : Addr) (w : Int32) (fm : Value) (va : Addr) (k1 : ClassId) (y0 : Int32) (h0 : Heap) (n0 : Nat) (v : Option Value) (h : Heap) (L : List Loc) : Prop := v = some (.int (own_ix (0 : Int32) (0 : Int32) (0 : Int32))) ∧ Fr n0 L ∧ h = h0
abbrev R_rm11_1 : Room := ⟨2, 0, 0, 28⟩
set_option maxRecDepth 65536 in
set_option maxHeartbeats 40000000 in
theorem rm11_1 (l : Launch) (Z : State) (a0 : Array Value) (hw : ∀ d ∈ tables_1, d.before a0 Z = true) (ws : List Jvm.Cond) (a1 : Addr) (w : Int32) (fm : Value) (va : Addr) (k1 : ClassId) (y0 : Int32) (h0 : Heap) (n0 : Nat) (Z0 : n0 ≤ h0.size) (E_a1 : Exa Z h0 a1 "java/lang/String") (F_value_a1 : Fld Z h0 a1 "java/lang/String" "value" "[B" (.ref va)) (F_coder_a1 : Fld Z h0 a1 "java/lang/String" "coder" "B" (.int (0 : Int32))) (V_va : Arv Z h0 va k1 .byte (1 : Int32) [(.int y0)] (.int (0 : Int32))) (S_COMPACT_STRINGS : Sta Z h0 "java/lang/String" "COMPACT_STRINGS" "Z" (.int w)) (S_SIOOBE_FORMATTER : Sta Z h0 "jdk/internal/util/Preconditions" "SIOOBE_FORMATTER" "Ljava/util/function/BiFunction;" fm) (hw0 : ¬ w = (0 : Int32)) :
    MetFree l own_y27 (head1 (Jvm.Cond.code own_y27 jdk_42_method_80_code 3 (some .int) :: ws) R_rm11_1) (fun a U => a = #[(.ref a1), (.int (47 : Int32)), (.int (1 : Int32))] ∧ Z.Warmed39 U.vm ∧ U.heap = h0) (fun _ _ _ _ _ => True) (fun _ U o U' => ∃ v L, o = .returned v ∧ Q_rm11_1 Z a1 w fm va k1 y0 h0 n0 v U'.heap L ∧ FrameEnd U o U' L R_rm11_1.cells R_rm11_1.slots) := by
  refine MetFree.of_bodySF (plainFor_of_name pn_String) hisR ?_
  intro p e s m args below meth c s₁ Bd hml0 hP hK
  obtain ⟨rfl, hZ, hh⟩ := hP
  have hx := Bd.exec
  have hby := Bd.bytes
  have hml : c.maxLocals = 3 := hml0
  have hown : s.vm.findClass "java/lang/String" = some m.cls := findClass_of_methodNamed Bd.named
  have hnm := (name_of_methodNamed Bd.named Bd.method).1
  have X0 : Stand p l e R_rm11_1 s m #[(.ref a1), (.int (47 : Int32)), (.int (1 : Int32))] below meth c s₁ [] 0 0 := Stand.of_body Bd
  have e0 : s₁.heap = h0 := by rw [← hh, Bd.state]; rfl
  have N0 := Fr.nil n0
  show OGo p.tables e below (own_Kq s (fun v h L => Q_rm11_1 Z a1 w fm va k1 y0 h0 n0 v h L) R_rm11_1.cells R_rm11_1.slots) (s₁.setTop (entryFrame m #[(.ref a1), (.int (47 : Int32)), (.int (1 : Int32))] 3))
  refine OGo.cast (ef_rm11_1 m a1) ?_
  show OGo _ _ _ _ (s₁.setTop (mkF m 0 #[.val (.ref a1), .val (.int (47 : Int32)), .val (.int (1 : Int32))] []))
  refine OGo.via (fun _ k => XS.aloadN X0.here hx rfl (hb hby d11_0) rfl rfl k) ?_
  obtain ⟨cq1, kq1, q1a, q1b, q1c⟩ := isOf hZ e0 E_a1
  obtain ⟨_, T1, Lc1, X1, hQ1, st1⟩ := own_open X0 (X0.virtualBack hx (y := own_y5) (z := own_y5) hown (mvT hZ (own_w hw 58 rfl)) (mvT hZ (own_w hw 59 rfl)) (notFace_of_selects (args := #[]) (mvT hZ (own_w hw 61 rfl))) (mvT hZ (own_w hw 61 rfl)) (mvT hZ (own_w hw 60 rfl)) (by decide) (backOf (W := 0) (rm12 l Z a0 hw [] a1 w va h0 n0 Z0 E_a1 F_value_a1 F_coder_a1 S_COMPACT_STRINGS hw0) hZ (own_w hw 62 rfl) (own_w hw 10 rfl) (by decide) (by decide)) q1a q1c (g := (mkF m 1 #[.val (.ref a1), .val (.int (47 : Int32)), .val (.int (1 : Int32))] [(.ref a1)])) rfl (by rw [hml]; rfl) (Steps.refl _) (argsL := []) (rest := []) (lenOf pd_9 rfl) rfl (by show 2 * 0 + _ ≤ _; exact Nat.le_of_eq rfl) (hb hby d11_1) (fun _ _ => ⟨rfl, e0, (by decide : 0 + 0 ≤ _), (by decide : 0 + 0 ≤ _)⟩))
  obtain ⟨rfl, N1q, r1_0⟩ := hQ1
  have N1 := Fr.app N0 N1q
  refine OGo.via (fun _ k => st1.trans k) ?_
  show OGo _ _ _ _ (T1.setTop (mkF m 4 #[.val (.ref a1), .val (.int (47 : Int32)), .val (.int (1 : Int32))] [(.int (1 : Int32))]))
  refine OGo.via (fun _ k => XS.ifNo X1.here hx rfl (hb hby d11_4) rfl ((if0 _ _).trans (feq (by decide : ¬ ((1 : Int32) = (0 : Int32)))).1) (XS.aloadN X1.here hx rfl (hb hby d11_7) rfl rfl k)) ?_
  obtain ⟨T2, X2, e2, st2⟩ := getF X1 hx hZ hown (host := "") (Or.inl (own_w hw 35 rfl)) Via.refl r1_0 F_value_a1 (g := (mkF m 8 #[.val (.ref a1), .val (.int (47 : Int32)), .val (.int (1 : Int32))] [(.ref a1)])) rfl rfl (hb hby d11_8)
  refine OGo.via st2 ?_
  show OGo _ _ _ _ (T2.setTop (mkF m 11 #[.val (.ref a1), .val (.int (47 : Int32)), .val (.int (1 : Int32))] [(.ref va)]))
  refine OGo.via (fun _ k => XS.iloadN X2.here hx rfl (hb hby d11_11) rfl (XS.iloadN X2.here hx rfl (hb hby d11_12) rfl (XS.aloadN X2.here hx rfl (hb hby d11_13) rfl rfl k))) ?_
  obtain ⟨cq3, kq3, q3a, q3b, q3c⟩ := isOf hZ e2 E_a1
  obtain ⟨_, T3, Lc3, X3, hQ3, st3⟩ := own_open X2 (X2.virtualBack hx (y := own_y6) (z := own_y6) hown (mvT hZ (own_w hw 63 rfl)) (mvT hZ (own_w hw 64 rfl)) (notFace_of_selects (args := #[]) (mvT hZ (own_w hw 66 rfl))) (mvT hZ (own_w hw 66 rfl)) (mvT hZ (own_w hw 65 rfl)) (by decide) (backOf (W := 3) (rm13 l Z a0 hw [] a1 w va k1 [(.int y0)] (1 : Int32) h0 n0 Z0 E_a1 F_value_a1 F_coder_a1 V_va S_COMPACT_STRINGS hw0) hZ (own_w hw 67 rfl) (own_w hw 10 rfl) (by decide) (by decide)) q3a q3c (g := (mkF m 14 #[.val (.ref a1), .val (.int (47 : Int32)), .val (.int (1 : Int32))] [(.ref a1), (.int (1 : Int32)), (.int (47 : Int32)), (.ref va)])) rfl (by rw [hml]; rfl) (Steps.refl _) (argsL := []) (rest := [(.int (1 : Int32)), (.int (47 : Int32)), (.ref va)]) (lenOf pd_11 rfl) rfl (by show 2 * 0 + _ ≤ _; exact Nat.le_of_eq rfl) (hb hby d11_14) (fun _ _ => ⟨rfl, e2, (by decide : 0 + 0 ≤ _), (by decide : 0 + 0 ≤ _)⟩))
  obtain ⟨rfl, N3q, r3_0⟩ := hQ3
  have N3 := Fr.app N1 N3q
  refine OGo.via (fun _ k => st3.trans k) ?_
  show OGo _ _ _ _ (T3.setTop (mkF m 17 #[.val (.ref a1), .val (.int (47 : Int32)), .val (.int (1 : Int32))] [(.int (1 : Int32)), (.int (1 : Int32)), (.int (47 : Int32)), (.ref va)]))
  obtain ⟨_, T4, Lc4, X4, hQ4, st4⟩ := own_open X3 (Jvm.LawKit.callS X3 hx (y := own_y26) hown (mvT hZ (own_w hw 73 rfl)) (mvT hZ (own_w hw 74 rfl)) (mvT hZ (own_w hw 75 rfl)) (mvT hZ (own_w hw 76 rfl)) (by decide) (backOf (W := 0) (rm15_1 l Z a0 hw [] va k1 y0 h0 n0 Z0 V_va) hZ (own_w hw 76 rfl) (own_w hw 75 rfl) (by decide) (by decide)) (g := (mkF m 17 #[.val (.ref a1), .val (.int (47 : Int32)), .val (.int (1 : Int32))] [(.int (1 : Int32)), (.int (1 : Int32)), (.int (47 : Int32)), (.ref va)])) rfl (by rw [hml]; rfl) (argsL := [(.ref va), (.int (47 : Int32)), (.int (1 : Int32)), (.int (1 : Int32))]) (rest := []) (lenOf pd_18 rfl) rfl (by show 2 * 0 + _ ≤ _; exact Nat.le_of_eq rfl) (hb hby d11_17) (fun _ _ => ⟨rfl, r3_0, (by decide : 0 + 0 ≤ _), (by decide : 0 + 0 ≤ _)⟩))
  obtain ⟨rfl, N4q, r4_0⟩ := hQ4
  have N4 := Fr.app N3 N4q
  refine OGo.via st4 ?_
  show OGo _ _ _ _ (T4.setTop (mkF m 20 #[.val (.ref a1), .val (.int (47 : Int32)), .val (.int (1 : Int32))] [(.int (own_ix (0 : Int32) (0 : Int32) (0 : Int32)))]))
  refine OGo.via (fun _ k => XS.goto X4.here hx rfl (pc0 := 20) (pc' := 36) rfl (hb hby d11_20) (by decide) (by decide) k) ?_
  show OGo _ _ _ _ (T4.setTop (mkF m 36 #[.val (.ref a1), .val (.int (47 : Int32)), .val (.int (1 : Int32))] [(.int (own_ix (0 : Int32) (0 : Int32) (0 : Int32)))]))
  refine own_retI X4 hx Bd.notSynchronized Bd.returns (hb hby d11_36) (by decide) (by decide) ?_
  show Q_rm11_1 Z _ _ _ _ _ _ h0 n0 _ T4.heap _
  exact ⟨rfl, N4, r4_0⟩
theorem d10_0 : decode prog_15_method_3_code 0 = .ok (.aload_n 0, 1) := by decide +kernel
theorem d10_1 : decode prog_15_method_3_code 1 = .ok (.getfield 7, 3) := by decide +kernel
theorem d10_4 : decode prog_15_method_3_code 4 = .ok (.bipush 47, 2) := by decide +kernel
theorem d10_6 : decode prog_15_method_3_code 6 = .ok (.iconst 1, 1) := by decide +kernel
theorem d10_7 : decode prog_15_method_3_code 7 = .ok (.invokevirtual 55, 3) := by decide +kernel
theorem d10_10 : decode prog_15_method_3_code 10 = .ok (.istore_n 1, 1) := by decide +kernel
theorem d10_11 : decode prog_15_method_3_code 11 = .ok (.aload_n 0, 1) := by decide +kernel
theorem d10_12 : decode prog_15_method_3_code 12 = .ok (.getfield 7, 3) := by decide +kernel
theorem d10_15 : decode prog_15_method_3_code 15 = .ok (.iconst 1, 1) := by decide +kernel
theorem d10_16 : decode prog_15_method_3_code 16 = .ok (.iload_n 1, 1) := by decide +kernel
theorem d10_17 : decode prog_15_method_3_code 17 = .ok (.ifCond .ge 13, 3) := by decide +kernel
theorem d10_20 : decode prog_15_method_3_code 20 = .ok (.aload_n 0, 1) := by decide +kernel
theorem d10_21 : decode prog_15_method_3_code 21 = .ok (.getfield 7, 3) := by decide +kernel
theorem d10_24 : decode prog_15_method_3_code 24 = .ok (.invokevirtual 21, 3) := by decide +kernel
theorem d10_27 : decode prog_15_method_3_code 27 = .ok (.goto 4, 3) := by decide +kernel
theorem d10_31 : decode prog_15_method_3_code 31 = .ok (.invokevirtual 28, 3) := by decide +kernel
theorem pd_19 : parseMethodDescriptor "(II)Ljava/lang/String;" = some ⟨[.int, .int], some (.object "java/lang/String")⟩ := by decide +kernel
theorem d10_34 : decode prog_15_method_3_code 34 = .ok (.areturn, 1) := by decide +kernel
theorem ef_rm10_1_1 (m : MethodId) (a1 : Addr) : entryFrame m #[(.ref a1)] 2 = mkF m 0 #[.val (.ref a1), .unset] [] := by
  first | (simp [entryFrame, mkF, argsToLocals, Value.category]; done) | rfl
def Q_rm10_1_1 (Z : State) (a1 : Addr) (w : Int32) (fm : Value) (va : Addr) (k1 : ClassId) (y0 : Int32) (sa : Addr) (h0 : Heap) (n0 : Nat) (v : Option Value) (h : Heap) (L : List Loc) : Prop := ∃ rr : Addr, ∃ vb : Addr, ∃ kb : ClassId, v = some (.ref rr) ∧ Fr n0 L ∧ Keep h0 h [] ∧ Exa Z h rr "java/lang/String" ∧ Fld Z h rr "java/lang/String" "value" "[B" (.ref vb) ∧ Fld Z h rr "java/lang/String" "coder" "B" (.int (0 : Int32)) ∧ Arv Z h vb kb .byte (0 : Int32) [] (.int (0 : Int32))
abbrev R_rm10_1_1 : Room := ⟨3, 2, 4, 45⟩
set_option maxRecDepth 65536 in
set_option maxHeartbeats 40000000 in
theorem rm10_1_1 (l : Launch) (Z : State) (a0 : Array Value) (hw : ∀ d ∈ tables_1, d.before a0 Z = true) (ws : List Jvm.Cond) (a1 : Addr) (w : Int32) (fm : Value) (va : Addr) (k1 : ClassId) (y0 : Int32) (sa : Addr) (h0 : Heap) (n0 : Nat) (Z0 : n0 ≤ h0.size) (E_a1 : Exa Z h0 a1 "com/example/ianus/ianus/server/LiteralPath") (F_path_a1 : Fld Z h0 a1 "com/example/ianus/ianus/server/LiteralPath" "path" "Ljava/lang/String;" (.ref sa)) (E_sa : Exa Z h0 sa "java/lang/String") (F_value_sa : Fld Z h0 sa "java/lang/String" "value" "[B" (.ref va)) (F_coder_sa : Fld Z h0 sa "java/lang/String" "coder" "B" (.int (0 : Int32))) (V_va : Arv Z h0 va k1 .byte (1 : Int32) [(.int y0)] (.int (0 : Int32))) (S_COMPACT_STRINGS : Sta Z h0 "java/lang/String" "COMPACT_STRINGS" "Z" (.int w)) (S_SIOOBE_FORMATTER : Sta Z h0 "jdk/internal/util/Preconditions" "SIOOBE_FORMATTER" "Ljava/util/function/BiFunction;" fm) (hw0 : ¬ w = (0 : Int32)) (hr_fm : fm.isRef = true) (hold : ∀ (b : Addr) (cl : Cell), Z.heap[b]? = some cl → h0[b]? = some cl) (hhc : Jvm.Lit.constHeld Z "java/lang/StringLatin1" 151) (hcw : Jvm.Lit.compactW.before a0 Z = true) :
    MetFree l own_y28 (head1 (Jvm.Cond.code own_y28 prog_15_method_3_code 2 (some (.object "java/lang/String")) :: ws) R_rm10_1_1) (fun a U => a = #[(.ref a1)] ∧ Z.WarmedH U.vm ∧ U.heap = h0) (fun _ _ _ _ _ => True) (fun _ U o U' => ∃ v L, o = .returned v ∧ Q_rm10_1_1 Z a1 w fm va k1 y0 sa h0 n0 v U'.heap L ∧ ReturnedEndW U o U' L R_rm10_1_1.cells R_rm10_1_1.slots) := by
  refine MetFree.of_bodySF (plainFor_of_name pn_LiteralPath) hisR ?_
  intro p e s m args below meth c s₁ Bd hml0 hP hK
  obtain ⟨rfl, hZH, hh⟩ := hP
  have hZ := hZH.wide
  have hx := Bd.exec
  have hby := Bd.bytes
  have hml : c.maxLocals = 2 := hml0
  have hown : s.vm.findClass "com/example/ianus/ianus/server/LiteralPath" = some m.cls := findClass_of_methodNamed Bd.named
  have hnm := (name_of_methodNamed Bd.named Bd.method).1
  have X0 : Stand p l e R_rm10_1_1 s m #[(.ref a1)] below meth c s₁ [] 0 0 := Stand.of_body Bd
  have e0 : s₁.heap = h0 := by rw [← hh, Bd.state]; rfl
  have N0 := Fr.nil n0
  show OGo p.tables e below (own_KqW s (fun v h L => Q_rm10_1_1 Z a1 w fm va k1 y0 sa h0 n0 v h L) R_rm10_1_1.cells R_rm10_1_1.slots) (s₁.setTop (entryFrame m #[(.ref a1)] 2))
  refine OGo.cast (ef_rm10_1_1 m a1) ?_
  show OGo _ _ _ _ (s₁.setTop (mkF m 0 #[.val (.ref a1), .unset] []))
  refine OGo.via (fun _ k => XS.aloadN X0.here hx rfl (hb hby d10_0) rfl rfl k) ?_
  obtain ⟨T1, X1, e1, st1⟩ := getF X0 hx hZ hown (host := "") (Or.inl (own_w hw 46 rfl)) Via.refl e0 F_path_a1 (g := (mkF m 1 #[.val (.ref a1), .unset] [(.ref a1)])) rfl rfl (hb hby d10_1)
  refine OGo.via st1 ?_
  show OGo _ _ _ _ (T1.setTop (mkF m 4 #[.val (.ref a1), .unset] [(.ref sa)]))
  refine OGo.via (fun _ k => XS.bipush X1.here hx rfl (hb hby d10_4) (XS.iconst X1.here hx rfl (hb hby d10_6) k)) ?_
  obtain ⟨cq2, kq2, q2a, q2b, q2c⟩ := isOf hZ e1 E_sa
  obtain ⟨_, T2, Lc2, X2, hQ2, st2⟩ := own_open X1 (X1.virtualBack hx (y := own_y27) (z := own_y27) hown (mvT hZ (own_w hw 53 rfl)) (mvT hZ (own_w hw 54 rfl)) (notFace_of_selects (args := #[]) (mvT hZ (own_w hw 56 rfl))) (mvT hZ (own_w hw 56 rfl)) (mvT hZ (own_w hw 55 rfl)) (by decide) (backOf (W := 0) (rm11_1 l Z a0 hw [] sa w fm va k1 y0 h0 n0 Z0 E_sa F_value_sa F_coder_sa V_va S_COMPACT_STRINGS S_SIOOBE_FORMATTER hw0) hZ (own_w hw 57 rfl) (own_w hw 10 rfl) (by decide) (by decide)) q2a q2c (g := (mkF m 7 #[.val (.ref a1), .unset] [(.int (1 : Int32)), (.int (47 : Int32)), (.ref sa)])) rfl (by rw [hml]; rfl) (Steps.refl _) (argsL := [(.int (47 : Int32)), (.int (1 : Int32))]) (rest := []) (lenOf pd_14 rfl) rfl (by show 2 * 0 + _ ≤ _; exact Nat.le_of_eq rfl) (hb hby d10_7) (fun _ _ => ⟨rfl, e1, (by decide : 0 + 0 ≤ _), (by decide : 0 + 0 ≤ _)⟩))
  obtain ⟨rfl, N2q, r2_0⟩ := hQ2
  have N2 := Fr.app N0 N2q
  refine OGo.via (fun _ k => st2.trans k) ?_
  show OGo _ _ _ _ (T2.setTop (mkF m 10 #[.val (.ref a1), .unset] [(.int (own_ix (0 : Int32) (0 : Int32) (0 : Int32)))]))
  rw [show (own_ix (0 : Int32) (0 : Int32) (0 : Int32)) = (-1 : Int32) from by rw [own_ix, if_neg (by decide), if_neg (by decide), if_neg (by decide)]]
  show OGo _ _ _ _ (T2.setTop (mkF m 10 #[.val (.ref a1), .unset] [(.int (-1 : Int32))]))
  refine OGo.via (fun _ k => XS.istoreN X2.here hx rfl (hb hby d10_10) rfl (l' := #[.val (.ref a1), .val (.int (-1 : Int32))]) rfl (XS.aloadN X2.here hx rfl (hb hby d10_11) rfl rfl k)) ?_
  obtain ⟨T3, X3, e3, st3⟩ := getF X2 hx hZ hown (host := "") (Or.inl (own_w hw 46 rfl)) Via.refl r2_0 F_path_a1 (g := (mkF m 12 #[.val (.ref a1), .val (.int (-1 : Int32))] [(.ref a1)])) rfl rfl (hb hby d10_12)
  refine OGo.via st3 ?_
  show OGo _ _ _ _ (T3.setTop (mkF m 15 #[.val (.ref a1), .val (.int (-1 : Int32))] [(.ref sa)]))
  refine OGo.via (fun _ k => XS.iconst X3.here hx rfl (hb hby d10_15) (XS.iloadN X3.here hx rfl (hb hby d10_16) rfl (XS.ifNo X3.here hx rfl (hb hby d10_17) rfl ((if0 _ _).trans (tlt (by decide : (-1 : Int32) < (0 : Int32))).2.1) (XS.aloadN X3.here hx rfl (hb hby d10_20) rfl rfl k)))) ?_
  obtain ⟨T4, X4, e4, st4⟩ := getF X3 hx hZ hown (host := "") (Or.inl (own_w hw 46 rfl)) Via.refl e3 F_path_a1 (g := (mkF m 21 #[.val (.ref a1), .val (.int (-1 : Int32))] [(.ref a1), (.int (1 : Int32)), (.ref sa)])) rfl rfl (hb hby d10_21)
  refine OGo.via st4 ?_
  show OGo _ _ _ _ (T4.setTop (mkF m 24 #[.val (.ref a1), .val (.int (-1 : Int32))] [(.ref sa), (.int (1 : Int32)), (.ref sa)]))
  obtain ⟨cq5, kq5, q5a, q5b, q5c⟩ := isOf hZ e4 E_sa
  obtain ⟨_, T5, Lc5, X5, hQ5, st5⟩ := own_open X4 (X4.virtualBack hx (y := own_y6) (z := own_y6) hown (mvT hZ (own_w hw 87 rfl)) (mvT hZ (own_w hw 64 rfl)) (notFace_of_selects (args := #[]) (mvT hZ (own_w hw 66 rfl))) (mvT hZ (own_w hw 66 rfl)) (mvT hZ (own_w hw 65 rfl)) (by decide) (backOf (W := 2) (rm13 l Z a0 hw [] sa w va k1 [(.int y0)] (1 : Int32) h0 n0 Z0 E_sa F_value_sa F_coder_sa V_va S_COMPACT_STRINGS hw0) hZ (own_w hw 67 rfl) (own_w hw 10 rfl) (by decide) (by decide)) q5a q5c (g := (mkF m 24 #[.val (.ref a1), .val (.int (-1 : Int32))] [(.ref sa), (.int (1 : Int32)), (.ref sa)])) rfl (by rw [hml]; rfl) (Steps.refl _) (argsL := []) (rest := [(.int (1 : Int32)), (.ref sa)]) (lenOf pd_11 rfl) rfl (by show 2 * 0 + _ ≤ _; exact Nat.le_of_eq rfl) (hb hby d10_24) (fun _ _ => ⟨rfl, e4, (by decide : 0 + 0 ≤ _), (by decide : 0 + 0 ≤ _)⟩))
  obtain ⟨rfl, N5q, r5_0⟩ := hQ5
  have N5 := Fr.app N2 N5q
  refine OGo.via (fun _ k => st5.trans k) ?_
  show OGo _ _ _ _ (T5.setTop (mkF m 27 #[.val (.ref a1), .val (.int (-1 : Int32))] [(.int (1 : Int32)), (.int (1 : Int32)), (.ref sa)]))
  refine OGo.via (fun _ k => XS.goto X5.here hx rfl (pc0 := 27) (pc' := 31) rfl (hb hby d10_27) (by decide) (by decide) k) ?_
  obtain ⟨cq6, kq6, q6a, q6b, q6c⟩ := isOf hZ r5_0 E_sa
  obtain ⟨_, T6, Lc6, X6, hSi6, hQ6, st6⟩ := own_openS X5 (X5.virtualBackS hx (y := own_y23) (z := own_y23) hown (mvT hZ (own_w hw 88 rfl)) (mvT hZ (own_w hw 89 rfl)) (notFace_of_selects (args := #[]) (mvT hZ (own_w hw 91 rfl))) (mvT hZ (own_w hw 91 rfl)) (mvT hZ (own_w hw 90 rfl)) (by decide) (own_backOfSH (W := 0) (rm19_1_1 l Z a0 hw [] sa w fm va k1 y0 h0 n0 Z0 E_sa F_value_sa F_coder_sa V_va S_COMPACT_STRINGS S_SIOOBE_FORMATTER hw0 hr_fm hold hhc hcw) hZH (own_w hw 92 rfl) (own_w hw 10 rfl) (by decide) (by decide)) q6a q6c (g := (mkF m 31 #[.val (.ref a1), .val (.int (-1 : Int32))] [(.int (1 : Int32)), (.int (1 : Int32)), (.ref sa)])) rfl (by rw [hml]; rfl) (Steps.refl _) (argsL := [(.int (1 : Int32)), (.int (1 : Int32))]) (rest := []) (lenOf pd_19 rfl) rfl (by show 2 * 0 + _ ≤ _; exact Nat.le_of_eq rfl) (hb hby d10_31) (fun _ _ => ⟨rfl, r5_0, (by decide : 0 + 2 ≤ _), (by decide : 0 + 4 ≤ _)⟩))
  have hZ6 : Z.Warmed39 (s.setVm T6.vm).vm := State.Warmed39.trans hZ hSi6.1
  have hown6 : (s.setVm T6.vm).vm.findClass "com/example/ianus/ianus/server/LiteralPath" = some m.cls := by rw [show (s.setVm T6.vm).vm = T6.vm from rfl, hSi6.1.alike.findClass]; exact hown
  obtain ⟨rr, vb, kb, rfl, N6q, r6_0, r6_1, r6_2, r6_3, r6_4⟩ := hQ6
  have N6 := Fr.app N5 N6q
  have K6 : Keep h0 T6.heap [] := (Keep.refl h0 []).trans r6_0 all0
  refine OGo.via (fun _ k => st6.trans k) ?_
  show OGo _ _ _ _ (T6.setTop (mkF m 34 #[.val (.ref a1), .val (.int (-1 : Int32))] [(.ref rr)]))
  show OGo _ _ _ _ (T6.setTop (mkF m 34 #[.val (.ref a1), .val (.int (-1 : Int32))] [(.ref rr)]))
  refine own_retAW X6 hSi6 (Nat.le_refl T6.heap.size) hx Bd.notSynchronized Bd.returns rfl rfl (hb hby d10_34) (by decide) (by decide) ?_
  show Q_rm10_1_1 Z _ _ _ _ _ _ _ h0 n0 _ T6.heap _
  exact ⟨rr, vb, kb, rfl, N6, K6, r6_1, r6_2, r6_3, r6_4⟩
theorem d23_0 : decode jdk_43_method_23_code 0 = .ok (.iload_n 1, 1) := by decide +kernel
theorem d23_1 : decode jdk_43_method_23_code 1 = .ok (.i2b, 1) := by decide +kernel
theorem d23_2 : decode jdk_43_method_23_code 2 = .ok (.istore 4, 2) := by decide +kernel
theorem d23_4 : decode jdk_43_method_23_code 4 = .ok (.iload_n 2, 1) := by decide +kernel
theorem d23_5 : decode jdk_43_method_23_code 5 = .ok (.istore 5, 2) := by decide +kernel
theorem d23_7 : decode jdk_43_method_23_code 7 = .ok (.iload 5, 2) := by decide +kernel
theorem d23_9 : decode jdk_43_method_23_code 9 = .ok (.iload_n 3, 1) := by decide +kernel
theorem d23_10 : decode jdk_43_method_23_code 10 = .ok (.if_icmp .ge 21, 3) := by decide +kernel
theorem d23_13 : decode jdk_43_method_23_code 13 = .ok (.aload_n 0, 1) := by decide +kernel
theorem d23_14 : decode jdk_43_method_23_code 14 = .ok (.iload 5, 2) := by decide +kernel
theorem d23_16 : decode jdk_43_method_23_code 16 = .ok (.baload, 1) := by decide +kernel
theorem d23_17 : decode jdk_43_method_23_code 17 = .ok (.iload 4, 2) := by decide +kernel
theorem d23_19 : decode jdk_43_method_23_code 19 = .ok (.if_icmp .ne 6, 3) := by decide +kernel
theorem d23_22 : decode jdk_43_method_23_code 22 = .ok (.iload 5, 2) := by decide +kernel
theorem d23_24 : decode jdk_43_method_23_code 24 = .ok (.ireturn, 1) := by decide +kernel
theorem d23_25 : decode jdk_43_method_23_code 25 = .ok (.iinc 5 1, 3) := by decide +kernel
theorem d23_28 : decode jdk_43_method_23_code 28 = .ok (.goto (-21), 3) := by decide +kernel
theorem d23_31 : decode jdk_43_method_23_code 31 = .ok (.iconst (-1), 1) := by decide +kernel
theorem d23_32 : decode jdk_43_method_23_code 32 = .ok (.ireturn, 1) := by decide +kernel
theorem ef_rm23_2 (m : MethodId) (a1 : Addr) : entryFrame m #[(.ref a1), (.int (47 : Int32)), (.int (1 : Int32)), (.int (2 : Int32))] 6 = mkF m 0 #[.val (.ref a1), .val (.int (47 : Int32)), .val (.int (1 : Int32)), .val (.int (2 : Int32)), .unset, .unset] [] := by
  first | (simp [entryFrame, mkF, argsToLocals, Value.category]; done) | rfl
def Q_rm23_2 (Z : State) (a1 : Addr) (k1 : ClassId) (y0 : Int32) (y1 : Int32) (h0 : Heap) (n0 : Nat) (v : Option Value) (h : Heap) (L : List Loc) : Prop := v = some (.int (own_ix y1 (0 : Int32) (0 : Int32))) ∧ Fr n0 L ∧ h = h0
abbrev R_rm23_2 : Room := ⟨0, 0, 0, 0⟩
set_option maxRecDepth 65536 in
set_option maxHeartbeats 40000000 in
theorem rm23_2 (l : Launch) (Z : State) (a0 : Array Value) (hw : ∀ d ∈ tables_1, d.before a0 Z = true) (ws : List Jvm.Cond) (a1 : Addr) (k1 : ClassId) (y0 : Int32) (y1 : Int32) (h0 : Heap) (n0 : Nat) (Z0 : n0 ≤ h0.size) (V_a1 : Arv Z h0 a1 k1 .byte (2 : Int32) [(.int y0), (.int y1)] (.int (0 : Int32))) :
    MetFree l own_y29 (head1 (Jvm.Cond.code own_y29 jdk_43_method_23_code 6 (some .int) :: ws) R_rm23_2) (fun a U => a = #[(.ref a1), (.int (47 : Int32)), (.int (1 : Int32)), (.int (2 : Int32))] ∧ Z.Warmed39 U.vm ∧ U.heap = h0) (fun _ _ _ _ _ => True) (fun _ U o U' => ∃ v L, o = .returned v ∧ Q_rm23_2 Z a1 k1 y0 y1 h0 n0 v U'.heap L ∧ FrameEnd U o U' L R_rm23_2.cells R_rm23_2.slots) := by
  refine MetFree.of_bodySF (plainFor_of_name pn_StringLatin1) hisR ?_
  intro p e s m args below meth c s₁ Bd hml0 hP hK
  obtain ⟨rfl, hZ, hh⟩ := hP
  have hx := Bd.exec
  have hby := Bd.bytes
  have hml : c.maxLocals = 6 := hml0
  have hown : s.vm.findClass "java/lang/StringLatin1" = some m.cls := findClass_of_methodNamed Bd.named
  have hnm := (name_of_methodNamed Bd.named Bd.method).1
  have X0 : Stand p l e R_rm23_2 s m #[(.ref a1), (.int (47 : Int32)), (.int (1 : Int32)), (.int (2 : Int32))] below meth c s₁ [] 0 0 := Stand.of_body Bd
  have e0 : s₁.heap = h0 := by rw [← hh, Bd.state]; rfl
  have N0 := Fr.nil n0
  show OGo p.tables e below (own_Kq s (fun v h L => Q_rm23_2 Z a1 k1 y0 y1 h0 n0 v h L) R_rm23_2.cells R_rm23_2.slots) (s₁.setTop (entryFrame m #[(.ref a1), (.int (47 : Int32)), (.int (1 : Int32)), (.int (2 : Int32))] 6))
  refine OGo.cast (ef_rm23_2 m a1) ?_
  show OGo _ _ _ _ (s₁.setTop (mkF m 0 #[.val (.ref a1), .val (.int (47 : Int32)), .val (.int (1 : Int32)), .val (.int (2 : Int32)), .unset, .unset] []))
  refine OGo.via (fun _ k => XS.iloadN X0.here hx rfl (hb hby d23_0) rfl (XS.i2b X0.here hx rfl (hb hby d23_1) rfl k)) ?_
  show OGo _ _ _ _ (s₁.setTop (mkF m 2 #[.val (.ref a1), .val (.int (47 : Int32)), .val (.int (1 : Int32)), .val (.int (2 : Int32)), .unset, .unset] [(.int ((47 : Int32).toInt8.toInt32))]))
  rw [show ((47 : Int32).toInt8.toInt32) = (47 : Int32) from by decide]
  refine OGo.via (fun _ k => XS.istore X0.here hx rfl (hb hby d23_2) rfl (l' := #[.val (.ref a1), .val (.int (47 : Int32)), .val (.int (1 : Int32)), .val (.int (2 : Int32)), .val (.int (47 : Int32)), .unset]) rfl (XS.iloadN X0.here hx rfl (hb hby d23_4) rfl (XS.istore X0.here hx rfl (hb hby d23_5) rfl (l' := #[.val (.ref a1), .val (.int (47 : Int32)), .val (.int (1 : Int32)), .val (.int (2 : Int32)), .val (.int (47 : Int32)), .val (.int (1 : Int32))]) rfl (XS.iload X0.here hx rfl (hb hby d23_7) rfl (XS.iloadN X0.here hx rfl (hb hby d23_9) rfl (XS.icmpNo X0.here hx rfl (hb hby d23_10) rfl (tlt (by decide : (1 : Int32) < (2 : Int32))).2.1 (XS.aloadN X0.here hx rfl (hb hby d23_13) rfl rfl (XS.iload X0.here hx rfl (hb hby d23_14) rfl k)))))))) ?_
  show OGo _ _ _ _ (s₁.setTop (mkF m 16 #[.val (.ref a1), .val (.int (47 : Int32)), .val (.int (1 : Int32)), .val (.int (2 : Int32)), .val (.int (47 : Int32)), .val (.int (1 : Int32))] [(.int (1 : Int32)), (.ref a1)]))
  obtain ⟨cl2, Ar2, q2, Sz2, Ng2, Hs2, Gf2⟩ := id V_a1
  have hin2 : ¬ ((1 : Int32) < 0 ∨ cl2.slots.size ≤ ((1 : Int32)).toNatClampNeg) := inb_of Sz2 ⟨by decide, by decide⟩
  have hat2 : cl2.slots[((1 : Int32)).toNatClampNeg]? = some (.int y1) := Hs2.at hin2 rfl
  refine OGo.via (X0.baloadBytes hx (j := (1 : Int32)) (v := (.int y1)) (by rw [e0]; exact Ar2.1) (State.isArrayOf_alike hZ.alike Ar2.2.1) Ar2.2.2 hin2 hat2 (g := (mkF m 16 #[.val (.ref a1), .val (.int (47 : Int32)), .val (.int (1 : Int32)), .val (.int (2 : Int32)), .val (.int (47 : Int32)), .val (.int (1 : Int32))] [(.int (1 : Int32)), (.ref a1)])) rfl rfl (hb hby d23_16)) ?_
  show OGo _ _ _ _ (s₁.setTop (mkF m 17 #[.val (.ref a1), .val (.int (47 : Int32)), .val (.int (1 : Int32)), .val (.int (2 : Int32)), .val (.int (47 : Int32)), .val (.int (1 : Int32))] [(.int y1)]))
  refine OGo.via (fun _ k => XS.iload X0.here hx rfl (hb hby d23_17) rfl k) ?_
  by_cases hc19_3 : y1 = (47 : Int32)
  · refine OGo.via (fun _ k => XS.icmpNo X0.here hx rfl (hb hby d23_19) rfl (teq hc19_3).2 (XS.iload X0.here hx rfl (hb hby d23_22) rfl k)) ?_
    show OGo _ _ _ _ (s₁.setTop (mkF m 24 #[.val (.ref a1), .val (.int (47 : Int32)), .val (.int (1 : Int32)), .val (.int (2 : Int32)), .val (.int (47 : Int32)), .val (.int (1 : Int32))] [(.int (1 : Int32))]))
    refine own_retI X0 hx Bd.notSynchronized Bd.returns (hb hby d23_24) (by decide) (by decide) ?_
    show Q_rm23_2 Z _ _ _ _ h0 n0 _ s₁.heap _
    exact ⟨(by rw [own_ix, if_pos hc19_3]), N0, e0⟩
  · refine OGo.via (fun _ k => XS.icmpYes X0.here hx rfl (pc0 := 19) (pc' := 25) rfl (hb hby d23_19) rfl (feq hc19_3).2 (by decide) (by decide) (XS.iinc X0.here hx rfl (hb hby d23_25) rfl (l' := #[.val (.ref a1), .val (.int (47 : Int32)), .val (.int (1 : Int32)), .val (.int (2 : Int32)), .val (.int (47 : Int32)), .val (.int ((1 : Int32) + (1 : Int32)))]) rfl k)) ?_
    show OGo _ _ _ _ (s₁.setTop (mkF m 28 #[.val (.ref a1), .val (.int (47 : Int32)), .val (.int (1 : Int32)), .val (.int (2 : Int32)), .val (.int (47 : Int32)), .val (.int ((1 : Int32) + (1 : Int32)))] []))
    rw [show ((1 : Int32) + (1 : Int32)) = (2 : Int32) from by decide]
    refine OGo.via (fun _ k => XS.goto X0.here hx rfl (pc0 := 28) (pc' := 7) rfl (hb hby d23_28) (by decide) (by decide) (XS.iload X0.here hx rfl (hb hby d23_7) rfl (XS.iloadN X0.here hx rfl (hb hby d23_9) rfl (XS.icmpYes X0.here hx rfl (pc0 := 10) (pc' := 31) rfl (hb hby d23_10) rfl (flt (by decide : ¬ ((2 : Int32) < (2 : Int32)))).2.1 (by decide) (by decide) (XS.iconst X0.here hx rfl (hb hby d23_31) k))))) ?_
    show OGo _ _ _ _ (s₁.setTop (mkF m 32 #[.val (.ref a1), .val (.int (47 : Int32)), .val (.int (1 : Int32)), .val (.int (2 : Int32)), .val (.int (47 : Int32)), .val (.int (2 : Int32))] [(.int (-1 : Int32))]))
    refine own_retI X0 hx Bd.notSynchronized Bd.returns (hb hby d23_32) (by decide) (by decide) ?_
    show Q_rm23_2 Z _ _ _ _ h0 n0 _ s₁.heap _
    exact ⟨(by rw [own_ix, if_neg hc19_3, if_neg (by decide), if_neg (by decide)]), N0, e0⟩
theorem d15_29 : decode jdk_43_method_22_code 29 = .ok (.aload_n 0, 1) := by decide +kernel
theorem d15_30 : decode jdk_43_method_22_code 30 = .ok (.iload_n 1, 1) := by decide +kernel
theorem d15_31 : decode jdk_43_method_22_code 31 = .ok (.iload_n 2, 1) := by decide +kernel
theorem d15_32 : decode jdk_43_method_22_code 32 = .ok (.iload_n 3, 1) := by decide +kernel
theorem d15_33 : decode jdk_43_method_22_code 33 = .ok (.invokestatic 95, 3) := by decide +kernel
theorem d15_36 : decode jdk_43_method_22_code 36 = .ok (.ireturn, 1) := by decide +kernel
theorem ef_rm15_2 (m : MethodId) (a1 : Addr) : entryFrame m #[(.ref a1), (.int (47 : Int32)), (.int (1 : Int32)), (.int (2 : Int32))] 4 = mkF m 0 #[.val (.ref a1), .val (.int (47 : Int32)), .val (.int (1 : Int32)), .val (.int (2 : Int32))] [] := by
  first | (simp [entryFrame, mkF, argsToLocals, Value.category]; done) | rfl
def Q_rm15_2 (Z : State) (a1 : Addr) (k1 : ClassId) (y0 : Int32) (y1 : Int32) (h0 : Heap) (n0 : Nat) (v : Option Value) (h : Heap) (L : List Loc) : Prop := v = some (.int (own_ix y1 (0 : Int32) (0 : Int32))) ∧ Fr n0 L ∧ h = h0
abbrev R_rm15_2 : Room := ⟨1, 0, 0, 17⟩
set_option maxRecDepth 65536 in
set_option maxHeartbeats 40000000 in
theorem rm15_2 (l : Launch) (Z : State) (a0 : Array Value) (hw : ∀ d ∈ tables_1, d.before a0 Z = true) (ws : List Jvm.Cond) (a1 : Addr) (k1 : ClassId) (y0 : Int32) (y1 : Int32) (h0 : Heap) (n0 : Nat) (Z0 : n0 ≤ h0.size) (V_a1 : Arv Z h0 a1 k1 .byte (2 : Int32) [(.int y0), (.int y1)] (.int (0 : Int32))) :
    MetFree l own_y26 (head1 (Jvm.Cond.code own_y26 jdk_43_method_22_code 4 (some .int) :: ws) R_rm15_2) (fun a U => a = #[(.ref a1), (.int (47 : Int32)), (.int (1 : Int32)), (.int (2 : Int32))] ∧ Z.Warmed39 U.vm ∧ U.heap = h0) (fun _ _ _ _ _ => True) (fun _ U o U' => ∃ v L, o = .returned v ∧ Q_rm15_2 Z a1 k1 y0 y1 h0 n0 v U'.heap L ∧ FrameEnd U o U' L R_rm15_2.cells R_rm15_2.slots) := by
  refine MetFree.of_bodySF (plainFor_of_name pn_StringLatin1) hisR ?_
  intro p e s m args below meth c s₁ Bd hml0 hP hK
  obtain ⟨rfl, hZ, hh⟩ := hP
  have hx := Bd.exec
  have hby := Bd.bytes
  have hml : c.maxLocals = 4 := hml0
  have hown : s.vm.findClass "java/lang/StringLatin1" = some m.cls := findClass_of_methodNamed Bd.named
  have hnm := (name_of_methodNamed Bd.named Bd.method).1
  have X0 : Stand p l e R_rm15_2 s m #[(.ref a1), (.int (47 : Int32)), (.int (1 : Int32)), (.int (2 : Int32))] below meth c s₁ [] 0 0 := Stand.of_body Bd
  have e0 : s₁.heap = h0 := by rw [← hh, Bd.state]; rfl
  have N0 := Fr.nil n0
  show OGo p.tables e below (own_Kq s (fun v h L => Q_rm15_2 Z a1 k1 y0 y1 h0 n0 v h L) R_rm15_2.cells R_rm15_2.slots) (s₁.setTop (entryFrame m #[(.ref a1), (.int (47 : Int32)), (.int (1 : Int32)), (.int (2 : Int32))] 4))
  refine OGo.cast (ef_rm15_2 m a1) ?_
  show OGo _ _ _ _ (s₁.setTop (mkF m 0 #[.val (.ref a1), .val (.int (47 : Int32)), .val (.int (1 : Int32)), .val (.int (2 : Int32))] []))
  refine OGo.via (fun _ k => XS.iloadN X0.here hx rfl (hb hby d15_0) rfl k) ?_
  obtain ⟨_, T1, Lc1, X1, hQ1, st1⟩ := own_open X0 (Jvm.LawKit.callS X0 hx (y := own_y3) hown (mvT hZ (own_w hw 77 rfl)) (mvT hZ (own_w hw 78 rfl)) (mvT hZ (own_w hw 75 rfl)) (mvT hZ (own_w hw 79 rfl)) (by decide) (backOf (W := 0) (rm16 l Z a0 hw []  h0 n0 Z0) hZ (own_w hw 79 rfl) (own_w hw 75 rfl) (by decide) (by decide)) (g := (mkF m 1 #[.val (.ref a1), .val (.int (47 : Int32)), .val (.int (1 : Int32)), .val (.int (2 : Int32))] [(.int (47 : Int32))])) rfl (by rw [hml]; rfl) (argsL := [(.int (47 : Int32))]) (rest := []) (lenOf pd_17 rfl) rfl (by show 2 * 0 + _ ≤ _; exact Nat.le_of_eq rfl) (hb hby d15_1) (fun _ _ => ⟨rfl, e0, (by decide : 0 + 0 ≤ _), (by decide : 0 + 0 ≤ _)⟩))
  obtain ⟨rfl, N1q, r1_0⟩ := hQ1
  have N1 := Fr.app N0 N1q
  refine OGo.via st1 ?_
  show OGo _ _ _ _ (T1.setTop (mkF m 4 #[.val (.ref a1), .val (.int (47 : Int32)), .val (.int (1 : Int32)), .val (.int (2 : Int32))] [(.int (1 : Int32))]))
  refine OGo.via (fun _ k => XS.ifYes X1.here hx rfl (pc0 := 4) (pc' := 9) rfl (hb hby d15_4) rfl ((if0 _ _).trans (feq (by decide : ¬ ((1 : Int32) = (0 : Int32)))).2) (by decide) (by decide) (XS.iloadN X1.here hx rfl (hb hby d15_9) rfl (XS.iconst X1.here hx rfl (hb hby d15_10) k))) ?_
  obtain ⟨_, T2, Lc2, X2, hQ2, st2⟩ := own_open X1 (Jvm.LawKit.callS X1 hx (y := own_y1) hown (mvT hZ (own_w hw 80 rfl)) (mvT hZ (own_w hw 81 rfl)) (mvT hZ (own_w hw 82 rfl)) (mvT hZ (own_w hw 83 rfl)) (by decide) (backOf (W := 0) (rm17 l Z a0 hw [] (1 : Int32) (0 : Int32) h0 n0 Z0) hZ (own_w hw 83 rfl) (own_w hw 82 rfl) (by decide) (by decide)) (g := (mkF m 11 #[.val (.ref a1), .val (.int (47 : Int32)), .val (.int (1 : Int32)), .val (.int (2 : Int32))] [(.int (0 : Int32)), (.int (1 : Int32))])) rfl (by rw [hml]; rfl) (argsL := [(.int (1 : Int32)), (.int (0 : Int32))]) (rest := []) (lenOf pd_14 rfl) rfl (by show 2 * 0 + _ ≤ _; exact Nat.le_of_eq rfl) (hb hby d15_11) (fun _ _ => ⟨rfl, r1_0, (by decide : 0 + 0 ≤ _), (by decide : 0 + 0 ≤ _)⟩))
  obtain ⟨rfl, N2q, r2_0⟩ := hQ2
  have N2 := Fr.app N1 N2q
  refine OGo.via st2 ?_
  show OGo _ _ _ _ (T2.setTop (mkF m 14 #[.val (.ref a1), .val (.int (47 : Int32)), .val (.int (1 : Int32)), .val (.int (2 : Int32))] [(.int (if (1 : Int32) < (0 : Int32) then (0 : Int32) else (1 : Int32)))]))
  rw [show (if (1 : Int32) < (0 : Int32) then (0 : Int32) else (1 : Int32)) = (1 : Int32) from by decide]
  show OGo _ _ _ _ (T2.setTop (mkF m 14 #[.val (.ref a1), .val (.int (47 : Int32)), .val (.int (1 : Int32)), .val (.int (2 : Int32))] [(.int (1 : Int32))]))
  refine OGo.via (fun _ k => XS.istoreN X2.here hx rfl (hb hby d15_14) rfl (l' := #[.val (.ref a1), .val (.int (47 : Int32)), .val (.int (1 : Int32)), .val (.int (2 : Int32))]) rfl (XS.iloadN X2.here hx rfl (hb hby d15_15) rfl (XS.aloadN X2.here hx rfl (hb hby d15_16) rfl rfl k))) ?_
  obtain ⟨cl3, Ar3, q3, Sz3, Ng3, Hs3, Gf3⟩ := id V_a1
  refine OGo.via (X2.arraylength hx (by rw [r2_0]; exact Ar3.1) (State.isArrayOf_alike hZ.alike Ar3.2.1) (g := (mkF m 17 #[.val (.ref a1), .val (.int (47 : Int32)), .val (.int (1 : Int32)), .val (.int (2 : Int32))] [(.ref a1), (.int (2 : Int32))])) rfl rfl (hb hby d15_17)) ?_
  rw [len_of Sz3 Ng3]
  show OGo _ _ _ _ (T2.setTop (mkF m 18 #[.val (.ref a1), .val (.int (47 : Int32)), .val (.int (1 : Int32)), .val (.int (2 : Int32))] [(.int (2 : Int32)), (.int (2 : Int32))]))
  obtain ⟨_, T4, Lc4, X4, hQ4, st4⟩ := own_open X2 (Jvm.LawKit.callS X2 hx (y := own_y2) hown (mvT hZ (own_w hw 84 rfl)) (mvT hZ (own_w hw 85 rfl)) (mvT hZ (own_w hw 82 rfl)) (mvT hZ (own_w hw 86 rfl)) (by decide) (backOf (W := 0) (rm18 l Z a0 hw [] (2 : Int32) (2 : Int32) h0 n0 Z0) hZ (own_w hw 86 rfl) (own_w hw 82 rfl) (by decide) (by decide)) (g := (mkF m 18 #[.val (.ref a1), .val (.int (47 : Int32)), .val (.int (1 : Int32)), .val (.int (2 : Int32))] [(.int (2 : Int32)), (.int (2 : Int32))])) rfl (by rw [hml]; rfl) (argsL := [(.int (2 : Int32)), (.int (2 : Int32))]) (rest := []) (lenOf pd_14 rfl) rfl (by show 2 * 0 + _ ≤ _; exact Nat.le_of_eq rfl) (hb hby d15_18) (fun _ _ => ⟨rfl, r2_0, (by decide : 0 + 0 ≤ _), (by decide : 0 + 0 ≤ _)⟩))
  obtain ⟨rfl, N4q, r4_0⟩ := hQ4
  have N4 := Fr.app N2 N4q
  refine OGo.via st4 ?_
  show OGo _ _ _ _ (T4.setTop (mkF m 21 #[.val (.ref a1), .val (.int (47 : Int32)), .val (.int (1 : Int32)), .val (.int (2 : Int32))] [(.int (if (2 : Int32) < (2 : Int32) then (2 : Int32) else (2 : Int32)))]))
  rw [show (if (2 : Int32) < (2 : Int32) then (2 : Int32) else (2 : Int32)) = (2 : Int32) from by decide]
  show OGo _ _ _ _ (T4.setTop (mkF m 21 #[.val (.ref a1), .val (.int (47 : Int32)), .val (.int (1 : Int32)), .val (.int (2 : Int32))] [(.int (2 : Int32))]))
  refine OGo.via (fun _ k => XS.istoreN X4.here hx rfl (hb hby d15_21) rfl (l' := #[.val (.ref a1), .val (.int (47 : Int32)), .val (.int (1 : Int32)), .val (.int (2 : Int32))]) rfl (XS.iloadN X4.here hx rfl (hb hby d15_22) rfl (XS.iloadN X4.here hx rfl (hb hby d15_23) rfl (XS.icmpYes X4.here hx rfl (pc0 := 24) (pc' := 29) rfl (hb hby d15_24) rfl (tlt (by decide : (1 : Int32) < (2 : Int32))).1 (by decide) (by decide) (XS.aloadN X4.here hx rfl (hb hby d15_29) rfl rfl (XS.iloadN X4.here hx rfl (hb hby d15_30) rfl (XS.iloadN X4.here hx rfl (hb hby d15_31) rfl (XS.iloadN X4.here hx rfl (hb hby d15_32) rfl k)))))))) ?_
  show OGo _ _ _ _ (T4.setTop (mkF m 33 #[.val (.ref a1), .val (.int (47 : Int32)), .val (.int (1 : Int32)), .val (.int (2 : Int32))] [(.int (2 : Int32)), (.int (1 : Int32)), (.int (47 : Int32)), (.ref a1)]))
  obtain ⟨_, T5, Lc5, X5, hQ5, st5⟩ := own_open X4 (Jvm.LawKit.callS X4 hx (y := own_y29) hown (mvT hZ (own_w hw 108 rfl)) (mvT hZ (own_w hw 109 rfl)) (mvT hZ (own_w hw 75 rfl)) (mvT hZ (own_w hw 110 rfl)) (by decide) (backOf (W := 0) (rm23_2 l Z a0 hw [] a1 k1 y0 y1 h0 n0 Z0 V_a1) hZ (own_w hw 110 rfl) (own_w hw 75 rfl) (by decide) (by decide)) (g := (mkF m 33 #[.val (.ref a1), .val (.int (47 : Int32)), .val (.int (1 : Int32)), .val (.int (2 : Int32))] [(.int (2 : Int32)), (.int (1 : Int32)), (.int (47 : Int32)), (.ref a1)])) rfl (by rw [hml]; rfl) (argsL := [(.ref a1), (.int (47 : Int32)), (.int (1 : Int32)), (.int (2 : Int32))]) (rest := []) (lenOf pd_18 rfl) rfl (by show 2 * 0 + _ ≤ _; exact Nat.le_of_eq rfl) (hb hby d15_33) (fun _ _ => ⟨rfl, r4_0, (by decide : 0 + 0 ≤ _), (by decide : 0 + 0 ≤ _)⟩))
  obtain ⟨rfl, N5q, r5_0⟩ := hQ5
  have N5 := Fr.app N4 N5q
  refine OGo.via st5 ?_
  show OGo _ _ _ _ (T5.setTop (mkF m 36 #[.val (.ref a1), .val (.int (47 : Int32)), .val (.int (1 : Int32)), .val (.int (2 : Int32))] [(.int (own_ix y1 (0 : Int32) (0 : Int32)))]))
  show OGo _ _ _ _ (T5.setTop (mkF m 36 #[.val (.ref a1), .val (.int (47 : Int32)), .val (.int (1 : Int32)), .val (.int (2 : Int32))] [(.int (own_ix y1 (0 : Int32) (0 : Int32)))]))
  refine own_retI X5 hx Bd.notSynchronized Bd.returns (hb hby d15_36) (by decide) (by decide) ?_
  show Q_rm15_2 Z _ _ _ _ h0 n0 _ T5.heap _
  exact ⟨rfl, N5, r5_0⟩
theorem ef_rm11_2 (m : MethodId) (a1 : Addr) : entryFrame m #[(.ref a1), (.int (47 : Int32)), (.int (1 : Int32))] 3 = mkF m 0 #[.val (.ref a1), .val (.int (47 : Int32)), .val (.int (1 : Int32))] [] := by
  first | (simp [entryFrame, mkF, argsToLocals, Value.category]; done) | rfl
def Q_rm11_2 (Z : State) (a1 : Addr) (w : Int32) (fm : Value) (va : Addr) (k1 : ClassId) (y0 : Int32) (y1 : Int32) (h0 : Heap) (n0 : Nat) (v : Option Value) (h : Heap) (L : List Loc) : Prop := v = some (.int (own_ix y1 (0 : Int32) (0 : Int32))) ∧ Fr n0 L ∧ h = h0
abbrev R_rm11_2 : Room := ⟨2, 0, 0, 32⟩
set_option maxRecDepth 65536 in
set_option maxHeartbeats 40000000 in
theorem rm11_2 (l : Launch) (Z : State) (a0 : Array Value) (hw : ∀ d ∈ tables_1, d.before a0 Z = true) (ws : List Jvm.Cond) (a1 : Addr) (w : Int32) (fm : Value) (va : Addr) (k1 : ClassId) (y0 : Int32) (y1 : Int32) (h0 : Heap) (n0 : Nat) (Z0 : n0 ≤ h0.size) (E_a1 : Exa Z h0 a1 "java/lang/String") (F_value_a1 : Fld Z h0 a1 "java/lang/String" "value" "[B" (.ref va)) (F_coder_a1 : Fld Z h0 a1 "java/lang/String" "coder" "B" (.int (0 : Int32))) (V_va : Arv Z h0 va k1 .byte (2 : Int32) [(.int y0), (.int y1)] (.int (0 : Int32))) (S_COMPACT_STRINGS : Sta Z h0 "java/lang/String" "COMPACT_STRINGS" "Z" (.int w)) (S_SIOOBE_FORMATTER : Sta Z h0 "jdk/internal/util/Preconditions" "SIOOBE_FORMATTER" "Ljava/util/function/BiFunction;" fm) (hw0 : ¬ w = (0 : Int32)) :
    MetFree l own_y27 (head1 (Jvm.Cond.code own_y27 jdk_42_method_80_code 3 (some .int) :: ws) R_rm11_2) (fun a U => a = #[(.ref a1), (.int (47 : Int32)), (.int (1 : Int32))] ∧ Z.Warmed39 U.vm ∧ U.heap = h0) (fun _ _ _ _ _ => True) (fun _ U o U' => ∃ v L, o = .returned v ∧ Q_rm11_2 Z a1 w fm va k1 y0 y1 h0 n0 v U'.heap L ∧ FrameEnd U o U' L R_rm11_2.cells R_rm11_2.slots) := by
  refine MetFree.of_bodySF (plainFor_of_name pn_String) hisR ?_
  intro p e s m args below meth c s₁ Bd hml0 hP hK
  obtain ⟨rfl, hZ, hh⟩ := hP
  have hx := Bd.exec
  have hby := Bd.bytes
  have hml : c.maxLocals = 3 := hml0
  have hown : s.vm.findClass "java/lang/String" = some m.cls := findClass_of_methodNamed Bd.named
  have hnm := (name_of_methodNamed Bd.named Bd.method).1
  have X0 : Stand p l e R_rm11_2 s m #[(.ref a1), (.int (47 : Int32)), (.int (1 : Int32))] below meth c s₁ [] 0 0 := Stand.of_body Bd
  have e0 : s₁.heap = h0 := by rw [← hh, Bd.state]; rfl
  have N0 := Fr.nil n0
  show OGo p.tables e below (own_Kq s (fun v h L => Q_rm11_2 Z a1 w fm va k1 y0 y1 h0 n0 v h L) R_rm11_2.cells R_rm11_2.slots) (s₁.setTop (entryFrame m #[(.ref a1), (.int (47 : Int32)), (.int (1 : Int32))] 3))
  refine OGo.cast (ef_rm11_2 m a1) ?_
  show OGo _ _ _ _ (s₁.setTop (mkF m 0 #[.val (.ref a1), .val (.int (47 : Int32)), .val (.int (1 : Int32))] []))
  refine OGo.via (fun _ k => XS.aloadN X0.here hx rfl (hb hby d11_0) rfl rfl k) ?_
  obtain ⟨cq1, kq1, q1a, q1b, q1c⟩ := isOf hZ e0 E_a1
  obtain ⟨_, T1, Lc1, X1, hQ1, st1⟩ := own_open X0 (X0.virtualBack hx (y := own_y5) (z := own_y5) hown (mvT hZ (own_w hw 58 rfl)) (mvT hZ (own_w hw 59 rfl)) (notFace_of_selects (args := #[]) (mvT hZ (own_w hw 61 rfl))) (mvT hZ (own_w hw 61 rfl)) (mvT hZ (own_w hw 60 rfl)) (by decide) (backOf (W := 0) (rm12 l Z a0 hw [] a1 w va h0 n0 Z0 E_a1 F_value_a1 F_coder_a1 S_COMPACT_STRINGS hw0) hZ (own_w hw 62 rfl) (own_w hw 10 rfl) (by decide) (by decide)) q1a q1c (g := (mkF m 1 #[.val (.ref a1), .val (.int (47 : Int32)), .val (.int (1 : Int32))] [(.ref a1)])) rfl (by rw [hml]; rfl) (Steps.refl _) (argsL := []) (rest := []) (lenOf pd_9 rfl) rfl (by show 2 * 0 + _ ≤ _; exact Nat.le_of_eq rfl) (hb hby d11_1) (fun _ _ => ⟨rfl, e0, (by decide : 0 + 0 ≤ _), (by decide : 0 + 0 ≤ _)⟩))
  obtain ⟨rfl, N1q, r1_0⟩ := hQ1
  have N1 := Fr.app N0 N1q
  refine OGo.via (fun _ k => st1.trans k) ?_
  show OGo _ _ _ _ (T1.setTop (mkF m 4 #[.val (.ref a1), .val (.int (47 : Int32)), .val (.int (1 : Int32))] [(.int (1 : Int32))]))
  refine OGo.via (fun _ k => XS.ifNo X1.here hx rfl (hb hby d11_4) rfl ((if0 _ _).trans (feq (by decide : ¬ ((1 : Int32) = (0 : Int32)))).1) (XS.aloadN X1.here hx rfl (hb hby d11_7) rfl rfl k)) ?_
  obtain ⟨T2, X2, e2, st2⟩ := getF X1 hx hZ hown (host := "") (Or.inl (own_w hw 35 rfl)) Via.refl r1_0 F_value_a1 (g := (mkF m 8 #[.val (.ref a1), .val (.int (47 : Int32)), .val (.int (1 : Int32))] [(.ref a1)])) rfl rfl (hb hby d11_8)
  refine OGo.via st2 ?_
  show OGo _ _ _ _ (T2.setTop (mkF m 11 #[.val (.ref a1), .val (.int (47 : Int32)), .val (.int (1 : Int32))] [(.ref va)]))
  refine OGo.via (fun _ k => XS.iloadN X2.here hx rfl (hb hby d11_11) rfl (XS.iloadN X2.here hx rfl (hb hby d11_12) rfl (XS.aloadN X2.here hx rfl (hb hby d11_13) rfl rfl k))) ?_
  obtain ⟨cq3, kq3, q3a, q3b, q3c⟩ := isOf hZ e2 E_a1
  obtain ⟨_, T3, Lc3, X3, hQ3, st3⟩ := own_open X2 (X2.virtualBack hx (y := own_y6) (z := own_y6) hown (mvT hZ (own_w hw 63 rfl)) (mvT hZ (own_w hw 64 rfl)) (notFace_of_selects (args := #[]) (mvT hZ (own_w hw 66 rfl))) (mvT hZ (own_w hw 66 rfl)) (mvT hZ (own_w hw 65 rfl)) (by decide) (backOf (W := 3) (rm13 l Z a0 hw [] a1 w va k1 [(.int y0), (.int y1)] (2 : Int32) h0 n0 Z0 E_a1 F_value_a1 F_coder_a1 V_va S_COMPACT_STRINGS hw0) hZ (own_w hw 67 rfl) (own_w hw 10 rfl) (by decide) (by decide)) q3a q3c (g := (mkF m 14 #[.val (.ref a1), .val (.int (47 : Int32)), .val (.int (1 : Int32))] [(.ref a1), (.int (1 : Int32)), (.int (47 : Int32)), (.ref va)])) rfl (by rw [hml]; rfl) (Steps.refl _) (argsL := []) (rest := [(.int (1 : Int32)), (.int (47 : Int32)), (.ref va)]) (lenOf pd_11 rfl) rfl (by show 2 * 0 + _ ≤ _; exact Nat.le_of_eq rfl) (hb hby d11_14) (fun _ _ => ⟨rfl, e2, (by decide : 0 + 0 ≤ _), (by decide : 0 + 0 ≤ _)⟩))
  obtain ⟨rfl, N3q, r3_0⟩ := hQ3
  have N3 := Fr.app N1 N3q
  refine OGo.via (fun _ k => st3.trans k) ?_
  show OGo _ _ _ _ (T3.setTop (mkF m 17 #[.val (.ref a1), .val (.int (47 : Int32)), .val (.int (1 : Int32))] [(.int (2 : Int32)), (.int (1 : Int32)), (.int (47 : Int32)), (.ref va)]))
  obtain ⟨_, T4, Lc4, X4, hQ4, st4⟩ := own_open X3 (Jvm.LawKit.callS X3 hx (y := own_y26) hown (mvT hZ (own_w hw 73 rfl)) (mvT hZ (own_w hw 74 rfl)) (mvT hZ (own_w hw 75 rfl)) (mvT hZ (own_w hw 76 rfl)) (by decide) (backOf (W := 0) (rm15_2 l Z a0 hw [] va k1 y0 y1 h0 n0 Z0 V_va) hZ (own_w hw 76 rfl) (own_w hw 75 rfl) (by decide) (by decide)) (g := (mkF m 17 #[.val (.ref a1), .val (.int (47 : Int32)), .val (.int (1 : Int32))] [(.int (2 : Int32)), (.int (1 : Int32)), (.int (47 : Int32)), (.ref va)])) rfl (by rw [hml]; rfl) (argsL := [(.ref va), (.int (47 : Int32)), (.int (1 : Int32)), (.int (2 : Int32))]) (rest := []) (lenOf pd_18 rfl) rfl (by show 2 * 0 + _ ≤ _; exact Nat.le_of_eq rfl) (hb hby d11_17) (fun _ _ => ⟨rfl, r3_0, (by decide : 0 + 0 ≤ _), (by decide : 0 + 0 ≤ _)⟩))
  obtain ⟨rfl, N4q, r4_0⟩ := hQ4
  have N4 := Fr.app N3 N4q
  refine OGo.via st4 ?_
  show OGo _ _ _ _ (T4.setTop (mkF m 20 #[.val (.ref a1), .val (.int (47 : Int32)), .val (.int (1 : Int32))] [(.int (own_ix y1 (0 : Int32) (0 : Int32)))]))
  refine OGo.via (fun _ k => XS.goto X4.here hx rfl (pc0 := 20) (pc' := 36) rfl (hb hby d11_20) (by decide) (by decide) k) ?_
  show OGo _ _ _ _ (T4.setTop (mkF m 36 #[.val (.ref a1), .val (.int (47 : Int32)), .val (.int (1 : Int32))] [(.int (own_ix y1 (0 : Int32) (0 : Int32)))]))
  refine own_retI X4 hx Bd.notSynchronized Bd.returns (hb hby d11_36) (by decide) (by decide) ?_
  show Q_rm11_2 Z _ _ _ _ _ _ _ h0 n0 _ T4.heap _
  exact ⟨rfl, N4, r4_0⟩
theorem d10_30 : decode prog_15_method_3_code 30 = .ok (.iload_n 1, 1) := by decide +kernel
theorem ef_rm10_2_1 (m : MethodId) (a1 : Addr) : entryFrame m #[(.ref a1)] 2 = mkF m 0 #[.val (.ref a1), .unset] [] := by
  first | (simp [entryFrame, mkF, argsToLocals, Value.category]; done) | rfl
def Q_rm10_2_1 (Z : State) (a1 : Addr) (w : Int32) (fm : Value) (va : Addr) (k1 : ClassId) (y0 : Int32) (y1 : Int32) (sa : Addr) (h0 : Heap) (n0 : Nat) (v : Option Value) (h : Heap) (L : List Loc) : Prop := ∃ rr : Addr, ∃ vb : Addr, ∃ kb : ClassId, v = some (.ref rr) ∧ Fr n0 L ∧ Keep h0 h [] ∧ Exa Z h rr "java/lang/String" ∧ Fld Z h rr "java/lang/String" "value" "[B" (.ref vb) ∧ Fld Z h rr "java/lang/String" "coder" "B" (.int (0 : Int32)) ∧ Arv Z h vb kb .byte (0 : Int32) [] (.int (0 : Int32))
abbrev R_rm10_2_1 : Room := ⟨3, 2, 4, 46⟩
set_option maxRecDepth 65536 in
set_option maxHeartbeats 40000000 in
theorem rm10_2_1 (l : Launch) (Z : State) (a0 : Array Value) (hw : ∀ d ∈ tables_1, d.before a0 Z = true) (ws : List Jvm.Cond) (a1 : Addr) (w : Int32) (fm : Value) (va : Addr) (k1 : ClassId) (y0 : Int32) (y1 : Int32) (sa : Addr) (h0 : Heap) (n0 : Nat) (Z0 : n0 ≤ h0.size) (E_a1 : Exa Z h0 a1 "com/example/ianus/ianus/server/LiteralPath") (F_path_a1 : Fld Z h0 a1 "com/example/ianus/ianus/server/LiteralPath" "path" "Ljava/lang/String;" (.ref sa)) (E_sa : Exa Z h0 sa "java/lang/String") (F_value_sa : Fld Z h0 sa "java/lang/String" "value" "[B" (.ref va)) (F_coder_sa : Fld Z h0 sa "java/lang/String" "coder" "B" (.int (0 : Int32))) (V_va : Arv Z h0 va k1 .byte (2 : Int32) [(.int y0), (.int y1)] (.int (0 : Int32))) (S_COMPACT_STRINGS : Sta Z h0 "java/lang/String" "COMPACT_STRINGS" "Z" (.int w)) (S_SIOOBE_FORMATTER : Sta Z h0 "jdk/internal/util/Preconditions" "SIOOBE_FORMATTER" "Ljava/util/function/BiFunction;" fm) (hw0 : ¬ w = (0 : Int32)) (hr_fm : fm.isRef = true) (hy1 : y1 = (47 : Int32)) (hold : ∀ (b : Addr) (cl : Cell), Z.heap[b]? = some cl → h0[b]? = some cl) (hhc : Jvm.Lit.constHeld Z "java/lang/StringLatin1" 151) (hcw : Jvm.Lit.compactW.before a0 Z = true) :
    MetFree l own_y28 (head1 (Jvm.Cond.code own_y28 prog_15_method_3_code 2 (some (.object "java/lang/String")) :: ws) R_rm10_2_1) (fun a U => a = #[(.ref a1)] ∧ Z.WarmedH U.vm ∧ U.heap = h0) (fun _ _ _ _ _ => True) (fun _ U o U' => ∃ v L, o = .returned v ∧ Q_rm10_2_1 Z a1 w fm va k1 y0 y1 sa h0 n0 v U'.heap L ∧ ReturnedEndW U o U' L R_rm10_2_1.cells R_rm10_2_1.slots) := by
  refine MetFree.of_bodySF (plainFor_of_name pn_LiteralPath) hisR ?_
  intro p e s m args below meth c s₁ Bd hml0 hP hK
  obtain ⟨rfl, hZH, hh⟩ := hP
  have hZ := hZH.wide
  have hx := Bd.exec
  have hby := Bd.bytes
  have hml : c.maxLocals = 2 := hml0
  have hown : s.vm.findClass "com/example/ianus/ianus/server/LiteralPath" = some m.cls := findClass_of_methodNamed Bd.named
  have hnm := (name_of_methodNamed Bd.named Bd.method).1
  have X0 : Stand p l e R_rm10_2_1 s m #[(.ref a1)] below meth c s₁ [] 0 0 := Stand.of_body Bd
  have e0 : s₁.heap = h0 := by rw [← hh, Bd.state]; rfl
  have N0 := Fr.nil n0
  show OGo p.tables e below (own_KqW s (fun v h L => Q_rm10_2_1 Z a1 w fm va k1 y0 y1 sa h0 n0 v h L) R_rm10_2_1.cells R_rm10_2_1.slots) (s₁.setTop (entryFrame m #[(.ref a1)] 2))
  refine OGo.cast (ef_rm10_2_1 m a1) ?_
  show OGo _ _ _ _ (s₁.setTop (mkF m 0 #[.val (.ref a1), .unset] []))
  refine OGo.via (fun _ k => XS.aloadN X0.here hx rfl (hb hby d10_0) rfl rfl k) ?_
  obtain ⟨T1, X1, e1, st1⟩ := getF X0 hx hZ hown (host := "") (Or.inl (own_w hw 46 rfl)) Via.refl e0 F_path_a1 (g := (mkF m 1 #[.val (.ref a1), .unset] [(.ref a1)])) rfl rfl (hb hby d10_1)
  refine OGo.via st1 ?_
  show OGo _ _ _ _ (T1.setTop (mkF m 4 #[.val (.ref a1), .unset] [(.ref sa)]))
  refine OGo.via (fun _ k => XS.bipush X1.here hx rfl (hb hby d10_4) (XS.iconst X1.here hx rfl (hb hby d10_6) k)) ?_
  obtain ⟨cq2, kq2, q2a, q2b, q2c⟩ := isOf hZ e1 E_sa
  obtain ⟨_, T2, Lc2, X2, hQ2, st2⟩ := own_open X1 (X1.virtualBack hx (y := own_y27) (z := own_y27) hown (mvT hZ (own_w hw 53 rfl)) (mvT hZ (own_w hw 54 rfl)) (notFace_of_selects (args := #[]) (mvT hZ (own_w hw 56 rfl))) (mvT hZ (own_w hw 56 rfl)) (mvT hZ (own_w hw 55 rfl)) (by decide) (backOf (W := 0) (rm11_2 l Z a0 hw [] sa w fm va k1 y0 y1 h0 n0 Z0 E_sa F_value_sa F_coder_sa V_va S_COMPACT_STRINGS S_SIOOBE_FORMATTER hw0) hZ (own_w hw 57 rfl) (own_w hw 10 rfl) (by decide) (by decide)) q2a q2c (g := (mkF m 7 #[.val (.ref a1), .unset] [(.int (1 : Int32)), (.int (47 : Int32)), (.ref sa)])) rfl (by rw [hml]; rfl) (Steps.refl _) (argsL := [(.int (47 : Int32)), (.int (1 : Int32))]) (rest := []) (lenOf pd_14 rfl) rfl (by show 2 * 0 + _ ≤ _; exact Nat.le_of_eq rfl) (hb hby d10_7) (fun _ _ => ⟨rfl, e1, (by decide : 0 + 0 ≤ _), (by decide : 0 + 0 ≤ _)⟩))
  obtain ⟨rfl, N2q, r2_0⟩ := hQ2
  have N2 := Fr.app N0 N2q
  refine OGo.via (fun _ k => st2.trans k) ?_
  show OGo _ _ _ _ (T2.setTop (mkF m 10 #[.val (.ref a1), .unset] [(.int (own_ix y1 (0 : Int32) (0 : Int32)))]))
  rw [show (own_ix y1 (0 : Int32) (0 : Int32)) = (1 : Int32) from by rw [own_ix, if_pos hy1]]
  show OGo _ _ _ _ (T2.setTop (mkF m 10 #[.val (.ref a1), .unset] [(.int (1 : Int32))]))
  refine OGo.via (fun _ k => XS.istoreN X2.here hx rfl (hb hby d10_10) rfl (l' := #[.val (.ref a1), .val (.int (1 : Int32))]) rfl (XS.aloadN X2.here hx rfl (hb hby d10_11) rfl rfl k)) ?_
  obtain ⟨T3, X3, e3, st3⟩ := getF X2 hx hZ hown (host := "") (Or.inl (own_w hw 46 rfl)) Via.refl r2_0 F_path_a1 (g := (mkF m 12 #[.val (.ref a1), .val (.int (1 : Int32))] [(.ref a1)])) rfl rfl (hb hby d10_12)
  refine OGo.via st3 ?_
  show OGo _ _ _ _ (T3.setTop (mkF m 15 #[.val (.ref a1), .val (.int (1 : Int32))] [(.ref sa)]))
  refine OGo.via (fun _ k => XS.iconst X3.here hx rfl (hb hby d10_15) (XS.iloadN X3.here hx rfl (hb hby d10_16) rfl (XS.ifYes X3.here hx rfl (pc0 := 17) (pc' := 30) rfl (hb hby d10_17) rfl ((if0 _ _).trans (flt (by decide : ¬ ((1 : Int32) < (0 : Int32)))).2.1) (by decide) (by decide) (XS.iloadN X3.here hx rfl (hb hby d10_30) rfl k)))) ?_
  obtain ⟨cq4, kq4, q4a, q4b, q4c⟩ := isOf hZ e3 E_sa
  obtain ⟨_, T4, Lc4, X4, hSi4, hQ4, st4⟩ := own_openS X3 (X3.virtualBackS hx (y := own_y23) (z := own_y23) hown (mvT hZ (own_w hw 88 rfl)) (mvT hZ (own_w hw 89 rfl)) (notFace_of_selects (args := #[]) (mvT hZ (own_w hw 91 rfl))) (mvT hZ (own_w hw 91 rfl)) (mvT hZ (own_w hw 90 rfl)) (by decide) (own_backOfSH (W := 0) (rm19_2_1 l Z a0 hw [] sa w fm va k1 y0 y1 h0 n0 Z0 E_sa F_value_sa F_coder_sa V_va S_COMPACT_STRINGS S_SIOOBE_FORMATTER hw0 hr_fm hold hhc hcw) hZH (own_w hw 92 rfl) (own_w hw 10 rfl) (by decide) (by decide)) q4a q4c (g := (mkF m 31 #[.val (.ref a1), .val (.int (1 : Int32))] [(.int (1 : Int32)), (.int (1 : Int32)), (.ref sa)])) rfl (by rw [hml]; rfl) (Steps.refl _) (argsL := [(.int (1 : Int32)), (.int (1 : Int32))]) (rest := []) (lenOf pd_19 rfl) rfl (by show 2 * 0 + _ ≤ _; exact Nat.le_of_eq rfl) (hb hby d10_31) (fun _ _ => ⟨rfl, e3, (by decide : 0 + 2 ≤ _), (by decide : 0 + 4 ≤ _)⟩))
  have hZ4 : Z.Warmed39 (s.setVm T4.vm).vm := State.Warmed39.trans hZ hSi4.1
  have hown4 : (s.setVm T4.vm).vm.findClass "com/example/ianus/ianus/server/LiteralPath" = some m.cls := by rw [show (s.setVm T4.vm).vm = T4.vm from rfl, hSi4.1.alike.findClass]; exact hown
  obtain ⟨rr, vb, kb, rfl, N4q, r4_0, r4_1, r4_2, r4_3, r4_4⟩ := hQ4
  have N4 := Fr.app N2 N4q
  have K4 : Keep h0 T4.heap [] := (Keep.refl h0 []).trans r4_0 all0
  refine OGo.via (fun _ k => st4.trans k) ?_
  show OGo _ _ _ _ (T4.setTop (mkF m 34 #[.val (.ref a1), .val (.int (1 : Int32))] [(.ref rr)]))
  show OGo _ _ _ _ (T4.setTop (mkF m 34 #[.val (.ref a1), .val (.int (1 : Int32))] [(.ref rr)]))
  refine own_retAW X4 hSi4 (Nat.le_refl T4.heap.size) hx Bd.notSynchronized Bd.returns rfl rfl (hb hby d10_34) (by decide) (by decide) ?_
  show Q_rm10_2_1 Z _ _ _ _ _ _ _ _ h0 n0 _ T4.heap _
  exact ⟨rr, vb, kb, rfl, N4, K4, r4_1, r4_2, r4_3, r4_4⟩
theorem ef_rm10_2_2 (m : MethodId) (a1 : Addr) : entryFrame m #[(.ref a1)] 2 = mkF m 0 #[.val (.ref a1), .unset] [] := by
  first | (simp [entryFrame, mkF, argsToLocals, Value.category]; done) | rfl
def Q_rm10_2_2 (Z : State) (a1 : Addr) (w : Int32) (fm : Value) (va : Addr) (k1 : ClassId) (y0 : Int32) (y1 : Int32) (sa : Addr) (h0 : Heap) (n0 : Nat) (v : Option Value) (h : Heap) (L : List Loc) : Prop := ∃ rr : Addr, ∃ vb : Addr, ∃ kb : ClassId, v = some (.ref rr) ∧ Fr n0 L ∧ Keep h0 h [] ∧ Exa Z h rr "java/lang/String" ∧ Fld Z h rr "java/lang/String" "value" "[B" (.ref vb) ∧ Fld Z h rr "java/lang/String" "coder" "B" (.int (0 : Int32)) ∧ Arv Z h vb kb .byte (1 : Int32) [(.int y1)] (.int (0 : Int32))
abbrev R_rm10_2_2 : Room := ⟨5, 2, 5, 80⟩
set_option maxRecDepth 65536 in
set_option maxHeartbeats 40000000 in
theorem rm10_2_2 (l : Launch) (Z : State) (a0 : Array Value) (hw : ∀ d ∈ tables_1, d.before a0 Z = true) (ws : List Jvm.Cond) (a1 : Addr) (w : Int32) (fm : Value) (va : Addr) (k1 : ClassId) (y0 : Int32) (y1 : Int32) (sa : Addr) (h0 : Heap) (n0 : Nat) (Z0 : n0 ≤ h0.size) (E_a1 : Exa Z h0 a1 "com/example/ianus/ianus/server/LiteralPath") (F_path_a1 : Fld Z h0 a1 "com/example/ianus/ianus/server/LiteralPath" "path" "Ljava/lang/String;" (.ref sa)) (E_sa : Exa Z h0 sa "java/lang/String") (F_value_sa : Fld Z h0 sa "java/lang/String" "value" "[B" (.ref va)) (F_coder_sa : Fld Z h0 sa "java/lang/String" "coder" "B" (.int (0 : Int32))) (V_va : Arv Z h0 va k1 .byte (2 : Int32) [(.int y0), (.int y1)] (.int (0 : Int32))) (S_COMPACT_STRINGS : Sta Z h0 "java/lang/String" "COMPACT_STRINGS" "Z" (.int w)) (S_SIOOBE_FORMATTER : Sta Z h0 "jdk/internal/util/Preconditions" "SIOOBE_FORMATTER" "Ljava/util/function/BiFunction;" fm) (hw0 : ¬ w = (0 : Int32)) (hr_fm : fm.isRef = true) (hy1 : ¬ y1 = (47 : Int32)) :
    MetFree l own_y28 (head1 (Jvm.Cond.code own_y28 prog_15_method_3_code 2 (some (.object "java/lang/String")) :: ws) R_rm10_2_2) (fun a U => a = #[(.ref a1)] ∧ Z.Warmed39 U.vm ∧ U.heap = h0) (fun _ _ _ _ _ => True) (fun _ U o U' => ∃ v L, o = .returned v ∧ Q_rm10_2_2 Z a1 w fm va k1 y0 y1 sa h0 n0 v U'.heap L ∧ FrameEnd U o U' L R_rm10_2_2.cells R_rm10_2_2.slots) := by
  refine MetFree.of_bodySF (plainFor_of_name pn_LiteralPath) hisR ?_
  intro p e s m args below meth c s₁ Bd hml0 hP hK
  obtain ⟨rfl, hZ, hh⟩ := hP
  have hx := Bd.exec
  have hby := Bd.bytes
  have hml : c.maxLocals = 2 := hml0
  have hown : s.vm.findClass "com/example/ianus/ianus/server/LiteralPath" = some m.cls := findClass_of_methodNamed Bd.named
  have hnm := (name_of_methodNamed Bd.named Bd.method).1
  have X0 : Stand p l e R_rm10_2_2 s m #[(.ref a1)] below meth c s₁ [] 0 0 := Stand.of_body Bd
  have e0 : s₁.heap = h0 := by rw [← hh, Bd.state]; rfl
  have N0 := Fr.nil n0
  show OGo p.tables e below (own_Kq s (fun v h L => Q_rm10_2_2 Z a1 w fm va k1 y0 y1 sa h0 n0 v h L) R_rm10_2_2.cells R_rm10_2_2.slots) (s₁.setTop (entryFrame m #[(.ref a1)] 2))
  refine OGo.cast (ef_rm10_2_2 m a1) ?_
  show OGo _ _ _ _ (s₁.setTop (mkF m 0 #[.val (.ref a1), .unset] []))
  refine OGo.via (fun _ k => XS.aloadN X0.here hx rfl (hb hby d10_0) rfl rfl k) ?_
  obtain ⟨T1, X1, e1, st1⟩ := getF X0 hx hZ hown (host := "") (Or.inl (own_w hw 46 rfl)) Via.refl e0 F_path_a1 (g := (mkF m 1 #[.val (.ref a1), .unset] [(.ref a1)])) rfl rfl (hb hby d10_1)
  refine OGo.via st1 ?_
  show OGo _ _ _ _ (T1.setTop (mkF m 4 #[.val (.ref a1), .unset] [(.ref sa)]))
  refine OGo.via (fun _ k => XS.bipush X1.here hx rfl (hb hby d10_4) (XS.iconst X1.here hx rfl (hb hby d10_6) k)) ?_
  obtain ⟨cq2, kq2, q2a, q2b, q2c⟩ := isOf hZ e1 E_sa
  obtain ⟨_, T2, Lc2, X2, hQ2, st2⟩ := own_open X1 (X1.virtualBack hx (y := own_y27) (z := own_y27) hown (mvT hZ (own_w hw 53 rfl)) (mvT hZ (own_w hw 54 rfl)) (notFace_of_selects (args := #[]) (mvT hZ (own_w hw 56 rfl))) (mvT hZ (own_w hw 56 rfl)) (mvT hZ (own_w hw 55 rfl)) (by decide) (backOf (W := 0) (rm11_2 l Z a0 hw [] sa w fm va k1 y0 y1 h0 n0 Z0 E_sa F_value_sa F_coder_sa V_va S_COMPACT_STRINGS S_SIOOBE_FORMATTER hw0) hZ (own_w hw 57 rfl) (own_w hw 10 rfl) (by decide) (by decide)) q2a q2c (g := (mkF m 7 #[.val (.ref a1), .unset] [(.int (1 : Int32)), (.int (47 : Int32)), (.ref sa)])) rfl (by rw [hml]; rfl) (Steps.refl _) (argsL := [(.int (47 : Int32)), (.int (1 : Int32))]) (rest := []) (lenOf pd_14 rfl) rfl (by show 2 * 0 + _ ≤ _; exact Nat.le_of_eq rfl) (hb hby d10_7) (fun _ _ => ⟨rfl, e1, (by decide : 0 + 0 ≤ _), (by decide : 0 + 0 ≤ _)⟩))
  obtain ⟨rfl, N2q, r2_0⟩ := hQ2
  have N2 := Fr.app N0 N2q
  refine OGo.via (fun _ k => st2.trans k) ?_
  show OGo _ _ _ _ (T2.setTop (mkF m 10 #[.val (.ref a1), .unset] [(.int (own_ix y1 (0 : Int32) (0 : Int32)))]))
  rw [show (own_ix y1 (0 : Int32) (0 : Int32)) = (-1 : Int32) from by rw [own_ix, if_neg hy1, if_neg (by decide), if_neg (by decide)]]
  show OGo _ _ _ _ (T2.setTop (mkF m 10 #[.val (.ref a1), .unset] [(.int (-1 : Int32))]))
  refine OGo.via (fun _ k => XS.istoreN X2.here hx rfl (hb hby d10_10) rfl (l' := #[.val (.ref a1), .val (.int (-1 : Int32))]) rfl (XS.aloadN X2.here hx rfl (hb hby d10_11) rfl rfl k)) ?_
  obtain ⟨T3, X3, e3, st3⟩ := getF X2 hx hZ hown (host := "") (Or.inl (own_w hw 46 rfl)) Via.refl r2_0 F_path_a1 (g := (mkF m 12 #[.val (.ref a1), .val (.int (-1 : Int32))] [(.ref a1)])) rfl rfl (hb hby d10_12)
  refine OGo.via st3 ?_
  show OGo _ _ _ _ (T3.setTop (mkF m 15 #[.val (.ref a1), .val (.int (-1 : Int32))] [(.ref sa)]))
  refine OGo.via (fun _ k => XS.iconst X3.here hx rfl (hb hby d10_15) (XS.iloadN X3.here hx rfl (hb hby d10_16) rfl (XS.ifNo X3.here hx rfl (hb hby d10_17) rfl ((if0 _ _).trans (tlt (by decide : (-1 : Int32) < (0 : Int32))).2.1) (XS.aloadN X3.here hx rfl (hb hby d10_20) rfl rfl k)))) ?_
  obtain ⟨T4, X4, e4, st4⟩ := getF X3 hx hZ hown (host := "") (Or.inl (own_w hw 46 rfl)) Via.refl e3 F_path_a1 (g := (mkF m 21 #[.val (.ref a1), .val (.int (-1 : Int32))] [(.ref a1), (.int (1 : Int32)), (.ref sa)])) rfl rfl (hb hby d10_21)
  refine OGo.via st4 ?_
  show OGo _ _ _ _ (T4.setTop (mkF m 24 #[.val (.ref a1), .val (.int (-1 : Int32))] [(.ref sa), (.int (1 : Int32)), (.ref sa)]))
  obtain ⟨cq5, kq5, q5a, q5b, q5c⟩ := isOf hZ e4 E_sa
  obtain ⟨_, T5, Lc5, X5, hQ5, st5⟩ := own_open X4 (X4.virtualBack hx (y := own_y6) (z := own_y6) hown (mvT hZ (own_w hw 87 rfl)) (mvT hZ (own_w hw 64 rfl)) (notFace_of_selects (args := #[]) (mvT hZ (own_w hw 66 rfl))) (mvT hZ (own_w hw 66 rfl)) (mvT hZ (own_w hw 65 rfl)) (by decide) (backOf (W := 2) (rm13 l Z a0 hw [] sa w va k1 [(.int y0), (.int y1)] (2 : Int32) h0 n0 Z0 E_sa F_value_sa F_coder_sa V_va S_COMPACT_STRINGS hw0) hZ (own_w hw 67 rfl) (own_w hw 10 rfl) (by decide) (by decide)) q5a q5c (g := (mkF m 24 #[.val (.ref a1), .val (.int (-1 : Int32))] [(.ref sa), (.int (1 : Int32)), (.ref sa)])) rfl (by rw [hml]; rfl) (Steps.refl _) (argsL := []) (rest := [(.int (1 : Int32)), (.ref sa)]) (lenOf pd_11 rfl) rfl (by show 2 * 0 + _ ≤ _; exact Nat.le_of_eq rfl) (hb hby d10_24) (fun _ _ => ⟨rfl, e4, (by decide : 0 + 0 ≤ _), (by decide : 0 + 0 ≤ _)⟩))
  obtain ⟨rfl, N5q, r5_0⟩ := hQ5
  have N5 := Fr.app N2 N5q
  refine OGo.via (fun _ k => st5.trans k) ?_
  show OGo _ _ _ _ (T5.setTop (mkF m 27 #[.val (.ref a1), .val (.int (-1 : Int32))] [(.int (2 : Int32)), (.int (1 : Int32)), (.ref sa)]))
  refine OGo.via (fun _ k => XS.goto X5.here hx rfl (pc0 := 27) (pc' := 31) rfl (hb hby d10_27) (by decide) (by decide) k) ?_
  obtain ⟨cq6, kq6, q6a, q6b, q6c⟩ := isOf hZ r5_0 E_sa
  obtain ⟨_, T6, Lc6, X6, hQ6, st6⟩ := own_open X5 (X5.virtualBack hx (y := own_y23) (z := own_y23) hown (mvT hZ (own_w hw 88 rfl)) (mvT hZ (own_w hw 89 rfl)) (notFace_of_selects (args := #[]) (mvT hZ (own_w hw 91 rfl))) (mvT hZ (own_w hw 91 rfl)) (mvT hZ (own_w hw 90 rfl)) (by decide) (backOf (W := 0) (rm19_2_2 l Z a0 hw [] sa w fm va k1 y0 y1 h0 n0 Z0 E_sa F_value_sa F_coder_sa V_va S_COMPACT_STRINGS S_SIOOBE_FORMATTER hw0 hr_fm) hZ (own_w hw 92 rfl) (own_w hw 10 rfl) (by decide) (by decide)) q6a q6c (g := (mkF m 31 #[.val (.ref a1), .val (.int (-1 : Int32))] [(.int (2 : Int32)), (.int (1 : Int32)), (.ref sa)])) rfl (by rw [hml]; rfl) (Steps.refl _) (argsL := [(.int (1 : Int32)), (.int (2 : Int32))]) (rest := []) (lenOf pd_19 rfl) rfl (by show 2 * 0 + _ ≤ _; exact Nat.le_of_eq rfl) (hb hby d10_31) (fun _ _ => ⟨rfl, r5_0, (by decide : 0 + 2 ≤ _), (by decide : 0 + 5 ≤ _)⟩))
  obtain ⟨rr, vb, kb, rfl, N6q, r6_0, r6_1, r6_2, r6_3, r6_4⟩ := hQ6
  have N6 := Fr.app N5 N6q
  have K6 : Keep h0 T6.heap [] := (Keep.refl h0 []).trans r6_0 all0
  refine OGo.via (fun _ k => st6.trans k) ?_
  show OGo _ _ _ _ (T6.setTop (mkF m 34 #[.val (.ref a1), .val (.int (-1 : Int32))] [(.ref rr)]))
  show OGo _ _ _ _ (T6.setTop (mkF m 34 #[.val (.ref a1), .val (.int (-1 : Int32))] [(.ref rr)]))
  refine own_retA X6 hx Bd.notSynchronized Bd.returns rfl rfl (hb hby d10_34) (by decide) (by decide) ?_
  show Q_rm10_2_2 Z _ _ _ _ _ _ _ _ h0 n0 _ T6.heap _
  exact ⟨rr, vb, kb, rfl, N6, K6, r6_1, r6_2, r6_3, r6_4⟩
theorem ef_rm23_3 (m : MethodId) (a1 : Addr) : entryFrame m #[(.ref a1), (.int (47 : Int32)), (.int (1 : Int32)), (.int (3 : Int32))] 6 = mkF m 0 #[.val (.ref a1), .val (.int (47 : Int32)), .val (.int (1 : Int32)), .val (.int (3 : Int32)), .unset, .unset] [] := by
  first | (simp [entryFrame, mkF, argsToLocals, Value.category]; done) | rfl
def Q_rm23_3 (Z : State) (a1 : Addr) (k1 : ClassId) (y0 : Int32) (y1 : Int32) (y2 : Int32) (h0 : Heap) (n0 : Nat) (v : Option Value) (h : Heap) (L : List Loc) : Prop := v = some (.int (own_ix y1 y2 (0 : Int32))) ∧ Fr n0 L ∧ h = h0
abbrev R_rm23_3 : Room := ⟨0, 0, 0, 0⟩
set_option maxRecDepth 65536 in
set_option maxHeartbeats 40000000 in
theorem rm23_3 (l : Launch) (Z : State) (a0 : Array Value) (hw : ∀ d ∈ tables_1, d.before a0 Z = true) (ws : List Jvm.Cond) (a1 : Addr) (k1 : ClassId) (y0 : Int32) (y1 : Int32) (y2 : Int32) (h0 : Heap) (n0 : Nat) (Z0 : n0 ≤ h0.size) (V_a1 : Arv Z h0 a1 k1 .byte (3 : Int32) [(.int y0), (.int y1), (.int y2)] (.int (0 : Int32))) :
    MetFree l own_y29 (head1 (Jvm.Cond.code own_y29 jdk_43_method_23_code 6 (some .int) :: ws) R_rm23_3) (fun a U => a = #[(.ref a1), (.int (47 : Int32)), (.int (1 : Int32)), (.int (3 : Int32))] ∧ Z.Warmed39 U.vm ∧ U.heap = h0) (fun _ _ _ _ _ => True) (fun _ U o U' => ∃ v L, o = .returned v ∧ Q_rm23_3 Z a1 k1 y0 y1 y2 h0 n0 v U'.heap L ∧ FrameEnd U o U' L R_rm23_3.cells R_rm23_3.slots) := by
  refine MetFree.of_bodySF (plainFor_of_name pn_StringLatin1) hisR ?_
  intro p e s m args below meth c s₁ Bd hml0 hP hK
  obtain ⟨rfl, hZ, hh⟩ := hP
  have hx := Bd.exec
  have hby := Bd.bytes
  have hml : c.maxLocals = 6 := hml0
  have hown : s.vm.findClass "java/lang/StringLatin1" = some m.cls := findClass_of_methodNamed Bd.named
  have hnm := (name_of_methodNamed Bd.named Bd.method).1
  have X0 : Stand p l e R_rm23_3 s m #[(.ref a1), (.int (47 : Int32)), (.int (1 : Int32)), (.int (3 : Int32))] below meth c s₁ [] 0 0 := Stand.of_body Bd
  have e0 : s₁.heap = h0 := by rw [← hh, Bd.state]; rfl
  have N0 := Fr.nil n0
  show OGo p.tables e below (own_Kq s (fun v h L => Q_rm23_3 Z a1 k1 y0 y1 y2 h0 n0 v h L) R_rm23_3.cells R_rm23_3.slots) (s₁.setTop (entryFrame m #[(.ref a1), (.int (47 : Int32)), (.int (1 : Int32)), (.int (3 : Int32))] 6))
  refine OGo.cast (ef_rm23_3 m a1) ?_
  show OGo _ _ _ _ (s₁.setTop (mkF m 0 #[.val (.ref a1), .val (.int (47 : Int32)), .val (.int (1 : Int32)), .val (.int (3 : Int32)), .unset, .unset] []))
  refine OGo.via (fun _ k => XS.iloadN X0.here hx rfl (hb hby d23_0) rfl (XS.i2b X0.here hx rfl (hb hby d23_1) rfl k)) ?_
  show OGo _ _ _ _ (s₁.setTop (mkF m 2 #[.val (.ref a1), .val (.int (47 : Int32)), .val (.int (1 : Int32)), .val (.int (3 : Int32)), .unset, .unset] [(.int ((47 : Int32).toInt8.toInt32))]))
  rw [show ((47 : Int32).toInt8.toInt32) = (47 : Int32) from by decide]
  refine OGo.via (fun _ k => XS.istore X0.here hx rfl (hb hby d23_2) rfl (l' := #[.val (.ref a1), .val (.int (47 : Int32)), .val (.int (1 : Int32)), .val (.int (3 : Int32)), .val (.int (47 : Int32)), .unset]) rfl (XS.iloadN X0.here hx rfl (hb hby d23_4) rfl (XS.istore X0.here hx rfl (hb hby d23_5) rfl (l' := #[.val (.ref a1), .val (.int (47 : Int32)), .val (.int (1 : Int32)), .val (.int (3 : Int32)), .val (.int (47 : Int32)), .val (.int (1 : Int32))]) rfl (XS.iload X0.here hx rfl (hb hby d23_7) rfl (XS.iloadN X0.here hx rfl (hb hby d23_9) rfl (XS.icmpNo X0.here hx rfl (hb hby d23_10) rfl (tlt (by decide : (1 : Int32) < (3 : Int32))).2.1 (XS.aloadN X0.here hx rfl (hb hby d23_13) rfl rfl (XS.iload X0.here hx rfl (hb hby d23_14) rfl k)))))))) ?_
  show OGo _ _ _ _ (s₁.setTop (mkF m 16 #[.val (.ref a1), .val (.int (47 : Int32)), .val (.int (1 : Int32)), .val (.int (3 : Int32)), .val (.int (47 : Int32)), .val (.int (1 : Int32))] [(.int (1 : Int32)), (.ref a1)]))
  obtain ⟨cl2, Ar2, q2, Sz2, Ng2, Hs2, Gf2⟩ := id V_a1
  have hin2 : ¬ ((1 : Int32) < 0 ∨ cl2.slots.size ≤ ((1 : Int32)).toNatClampNeg) := inb_of Sz2 ⟨by decide, by decide⟩
  have hat2 : cl2.slots[((1 : Int32)).toNatClampNeg]? = some (.int y1) := Hs2.at hin2 rfl
  refine OGo.via (X0.baloadBytes hx (j := (1 : Int32)) (v := (.int y1)) (by rw [e0]; exact Ar2.1) (State.isArrayOf_alike hZ.alike Ar2.2.1) Ar2.2.2 hin2 hat2 (g := (mkF m 16 #[.val (.ref a1), .val (.int (47 : Int32)), .val (.int (1 : Int32)), .val (.int (3 : Int32)), .val (.int (47 : Int32)), .val (.int (1 : Int32))] [(.int (1 : Int32)), (.ref a1)])) rfl rfl (hb hby d23_16)) ?_
  show OGo _ _ _ _ (s₁.setTop (mkF m 17 #[.val (.ref a1), .val (.int (47 : Int32)), .val (.int (1 : Int32)), .val (.int (3 : Int32)), .val (.int (47 : Int32)), .val (.int (1 : Int32))] [(.int y1)]))
  refine OGo.via (fun _ k => XS.iload X0.here hx rfl (hb hby d23_17) rfl k) ?_
  by_cases hc19_3 : y1 = (47 : Int32)
  · refine OGo.via (fun _ k => XS.icmpNo X0.here hx rfl (hb hby d23_19) rfl (teq hc19_3).2 (XS.iload X0.here hx rfl (hb hby d23_22) rfl k)) ?_
    show OGo _ _ _ _ (s₁.setTop (mkF m 24 #[.val (.ref a1), .val (.int (47 : Int32)), .val (.int (1 : Int32)), .val (.int (3 : Int32)), .val (.int (47 : Int32)), .val (.int (1 : Int32))] [(.int (1 : Int32))]))
    refine own_retI X0 hx Bd.notSynchronized Bd.returns (hb hby d23_24) (by decide) (by decide) ?_
    show Q_rm23_3 Z _ _ _ _ _ h0 n0 _ s₁.heap _
    exact ⟨(by rw [own_ix, if_pos hc19_3]), N0, e0⟩
  · refine OGo.via (fun _ k => XS.icmpYes X0.here hx rfl (pc0 := 19) (pc' := 25) rfl (hb hby d23_19) rfl (feq hc19_3).2 (by decide) (by decide) (XS.iinc X0.here hx rfl (hb hby d23_25) rfl (l' := #[.val (.ref a1), .val (.int (47 : Int32)), .val (.int (1 : Int32)), .val (.int (3 : Int32)), .val (.int (47 : Int32)), .val (.int ((1 : Int32) + (1 : Int32)))]) rfl k)) ?_
    show OGo _ _ _ _ (s₁.setTop (mkF m 28 #[.val (.ref a1), .val (.int (47 : Int32)), .val (.int (1 : Int32)), .val (.int (3 : Int32)), .val (.int (47 : Int32)), .val (.int ((1 : Int32) + (1 : Int32)))] []))
    rw [show ((1 : Int32) + (1 : Int32)) = (2 : Int32) from by decide]
    refine OGo.via (fun _ k => XS.goto X0.here hx rfl (pc0 := 28) (pc' := 7) rfl (hb hby d23_28) (by decide) (by decide) (XS.iload X0.here hx rfl (hb hby d23_7) rfl (XS.iloadN X0.here hx rfl (hb hby d23_9) rfl (XS.icmpNo X0.here hx rfl (hb hby d23_10) rfl (tlt (by decide : (2 : Int32) < (3 : Int32))).2.1 (XS.aloadN X0.here hx rfl (hb hby d23_13) rfl rfl (XS.iload X0.here hx rfl (hb hby d23_14) rfl k)))))) ?_
    obtain ⟨cl5, Ar5, q5, Sz5, Ng5, Hs5, Gf5⟩ := id V_a1
    have hin5 : ¬ ((2 : Int32) < 0 ∨ cl5.slots.size ≤ ((2 : Int32)).toNatClampNeg) := inb_of Sz5 ⟨by decide, by decide⟩
    have hat5 : cl5.slots[((2 : Int32)).toNatClampNeg]? = some (.int y2) := Hs5.at hin5 rfl
    refine OGo.via (X0.baloadBytes hx (j := (2 : Int32)) (v := (.int y2)) (by rw [e0]; exact Ar5.1) (State.isArrayOf_alike hZ.alike Ar5.2.1) Ar5.2.2 hin5 hat5 (g := (mkF m 16 #[.val (.ref a1), .val (.int (47 : Int32)), .val (.int (1 : Int32)), .val (.int (3 : Int32)), .val (.int (47 : Int32)), .val (.int (2 : Int32))] [(.int (2 : Int32)), (.ref a1)])) rfl rfl (hb hby d23_16)) ?_
    show OGo _ _ _ _ (s₁.setTop (mkF m 17 #[.val (.ref a1), .val (.int (47 : Int32)), .val (.int (1 : Int32)), .val (.int (3 : Int32)), .val (.int (47 : Int32)), .val (.int (2 : Int32))] [(.int y2)]))
    refine OGo.via (fun _ k => XS.iload X0.here hx rfl (hb hby d23_17) rfl k) ?_
    by_cases hc19_6 : y2 = (47 : Int32)
    · refine OGo.via (fun _ k => XS.icmpNo X0.here hx rfl (hb hby d23_19) rfl (teq hc19_6).2 (XS.iload X0.here hx rfl (hb hby d23_22) rfl k)) ?_
      show OGo _ _ _ _ (s₁.setTop (mkF m 24 #[.val (.ref a1), .val (.int (47 : Int32)), .val (.int (1 : Int32)), .val (.int (3 : Int32)), .val (.int (47 : Int32)), .val (.int (2 : Int32))] [(.int (2 : Int32))]))
      refine own_retI X0 hx Bd.notSynchronized Bd.returns (hb hby d23_24) (by decide) (by decide) ?_
      show Q_rm23_3 Z _ _ _ _ _ h0 n0 _ s₁.heap _
      exact ⟨(by rw [own_ix, if_neg hc19_3, if_pos hc19_6]), N0, e0⟩
    · refine OGo.via (fun _ k => XS.icmpYes X0.here hx rfl (pc0 := 19) (pc' := 25) rfl (hb hby d23_19) rfl (feq hc19_6).2 (by decide) (by decide) (XS.iinc X0.here hx rfl (hb hby d23_25) rfl (l' := #[.val (.ref a1), .val (.int (47 : Int32)), .val (.int (1 : Int32)), .val (.int (3 : Int32)), .val (.int (47 : Int32)), .val (.int ((2 : Int32) + (1 : Int32)))]) rfl k)) ?_
      show OGo _ _ _ _ (s₁.setTop (mkF m 28 #[.val (.ref a1), .val (.int (47 : Int32)), .val (.int (1 : Int32)), .val (.int (3 : Int32)), .val (.int (47 : Int32)), .val (.int ((2 : Int32) + (1 : Int32)))] []))
      rw [show ((2 : Int32) + (1 : Int32)) = (3 : Int32) from by decide]
      refine OGo.via (fun _ k => XS.goto X0.here hx rfl (pc0 := 28) (pc' := 7) rfl (hb hby d23_28) (by decide) (by decide) (XS.iload X0.here hx rfl (hb hby d23_7) rfl (XS.iloadN X0.here hx rfl (hb hby d23_9) rfl (XS.icmpYes X0.here hx rfl (pc0 := 10) (pc' := 31) rfl (hb hby d23_10) rfl (flt (by decide : ¬ ((3 : Int32) < (3 : Int32)))).2.1 (by decide) (by decide) (XS.iconst X0.here hx rfl (hb hby d23_31) k))))) ?_
      show OGo _ _ _ _ (s₁.setTop (mkF m 32 #[.val (.ref a1), .val (.int (47 : Int32)), .val (.int (1 : Int32)), .val (.int (3 : Int32)), .val (.int (47 : Int32)), .val (.int (3 : Int32))] [(.int (-1 : Int32))]))
      refine own_retI X0 hx Bd.notSynchronized Bd.returns (hb hby d23_32) (by decide) (by decide) ?_
      show Q_rm23_3 Z _ _ _ _ _ h0 n0 _ s₁.heap _
      exact ⟨(by rw [own_ix, if_neg hc19_3, if_neg hc19_6, if_neg (by decide)]), N0, e0⟩
theorem ef_rm15_3 (m : MethodId) (a1 : Addr) : entryFrame m #[(.ref a1), (.int (47 : Int32)), (.int (1 : Int32)), (.int (3 : Int32))] 4 = mkF m 0 #[.val (.ref a1), .val (.int (47 : Int32)), .val (.int (1 : Int32)), .val (.int (3 : Int32))] [] := by
  first | (simp [entryFrame, mkF, argsToLocals, Value.category]; done) | rfl
def Q_rm15_3 (Z : State) (a1 : Addr) (k1 : ClassId) (y0 : Int32) (y1 : Int32) (y2 : Int32) (h0 : Heap) (n0 : Nat) (v : Option Value) (h : Heap) (L : List Loc) : Prop := v = some (.int (own_ix y1 y2 (0 : Int32))) ∧ Fr n0 L ∧ h = h0
abbrev R_rm15_3 : Room := ⟨1, 0, 0, 17⟩
set_option maxRecDepth 65536 in
set_option maxHeartbeats 40000000 in
theorem rm15_3 (l : Launch) (Z : State) (a0 : Array Value) (hw : ∀ d ∈ tables_1, d.before a0 Z = true) (ws : List Jvm.Cond) (a1 : Addr) (k1 : ClassId) (y0 : Int32) (y1 : Int32) (y2 : Int32) (h0 : Heap) (n0 : Nat) (Z0 : n0 ≤ h0.size) (V_a1 : Arv Z h0 a1 k1 .byte (3 : Int32) [(.int y0), (.int y1), (.int y2)] (.int (0 : Int32))) :
    MetFree l own_y26 (head1 (Jvm.Cond.code own_y26 jdk_43_method_22_code 4 (some .int) :: ws) R_rm15_3) (fun a U => a = #[(.ref a1), (.int (47 : Int32)), (.int (1 : Int32)), (.int (3 : Int32))] ∧ Z.Warmed39 U.vm ∧ U.heap = h0) (fun _ _ _ _ _ => True) (fun _ U o U' => ∃ v L, o = .returned v ∧ Q_rm15_3 Z a1 k1 y0 y1 y2 h0 n0 v U'.heap L ∧ FrameEnd U o U' L R_rm15_3.cells R_rm15_3.slots) := by
  refine MetFree.of_bodySF (plainFor_of_name pn_StringLatin1) hisR ?_
  intro p e s m args below meth c s₁ Bd hml0 hP hK
  obtain ⟨rfl, hZ, hh⟩ := hP
  have hx := Bd.exec
  have hby := Bd.bytes
  have hml : c.maxLocals = 4 := hml0
  have hown : s.vm.findClass "java/lang/StringLatin1" = some m.cls := findClass_of_methodNamed Bd.named
  have hnm := (name_of_methodNamed Bd.named Bd.method).1
  have X0 : Stand p l e R_rm15_3 s m #[(.ref a1), (.int (47 : Int32)), (.int (1 : Int32)), (.int (3 : Int32))] below meth c s₁ [] 0 0 := Stand.of_body Bd
  have e0 : s₁.heap = h0 := by rw [← hh, Bd.state]; rfl
  have N0 := Fr.nil n0
  show OGo p.tables e below (own_Kq s (fun v h L => Q_rm15_3 Z a1 k1 y0 y1 y2 h0 n0 v h L) R_rm15_3.cells R_rm15_3.slots) (s₁.setTop (entryFrame m #[(.ref a1), (.int (47 : Int32)), (.int (1 : Int32)), (.int (3 : Int32))] 4))
  refine OGo.cast (ef_rm15_3 m a1) ?_
  show OGo _ _ _ _ (s₁.setTop (mkF m 0 #[.val (.ref a1), .val (.int (47 : Int32)), .val (.int (1 : Int32)), .val (.int (3 : Int32))] []))
  refine OGo.via (fun _ k => XS.iloadN X0.here hx rfl (hb hby d15_0) rfl k) ?_
  obtain ⟨_, T1, Lc1, X1, hQ1, st1⟩ := own_open X0 (Jvm.LawKit.callS X0 hx (y := own_y3) hown (mvT hZ (own_w hw 77 rfl)) (mvT hZ (own_w hw 78 rfl)) (mvT hZ (own_w hw 75 rfl)) (mvT hZ (own_w hw 79 rfl)) (by decide) (backOf (W := 0) (rm16 l Z a0 hw []  h0 n0 Z0) hZ (own_w hw 79 rfl) (own_w hw 75 rfl) (by decide) (by decide)) (g := (mkF m 1 #[.val (.ref a1), .val (.int (47 : Int32)), .val (.int (1 : Int32)), .val (.int (3 : Int32))] [(.int (47 : Int32))])) rfl (by rw [hml]; rfl) (argsL := [(.int (47 : Int32))]) (rest := []) (lenOf pd_17 rfl) rfl (by show 2 * 0 + _ ≤ _; exact Nat.le_of_eq rfl) (hb hby d15_1) (fun _ _ => ⟨rfl, e0, (by decide : 0 + 0 ≤ _), (by decide : 0 + 0 ≤ _)⟩))
  obtain ⟨rfl, N1q, r1_0⟩ := hQ1
  have N1 := Fr.app N0 N1q
  refine OGo.via st1 ?_
  show OGo _ _ _ _ (T1.setTop (mkF m 4 #[.val (.ref a1), .val (.int (47 : Int32)), .val (.int (1 : Int32)), .val (.int (3 : Int32))] [(.int (1 : Int32))]))
  refine OGo.via (fun _ k => XS.ifYes X1.here hx rfl (pc0 := 4) (pc' := 9) rfl (hb hby d15_4) rfl ((if0 _ _).trans (feq (by decide : ¬ ((1 : Int32) = (0 : Int32)))).2) (by decide) (by decide) (XS.iloadN X1.here hx rfl (hb hby d15_9) rfl (XS.iconst X1.here hx rfl (hb hby d15_10) k))) ?_
  obtain ⟨_, T2, Lc2, X2, hQ2, st2⟩ := own_open X1 (Jvm.LawKit.callS X1 hx (y := own_y1) hown (mvT hZ (own_w hw 80 rfl)) (mvT hZ (own_w hw 81 rfl)) (mvT hZ (own_w hw 82 rfl)) (mvT hZ (own_w hw 83 rfl)) (by decide) (backOf (W := 0) (rm17 l Z a0 hw [] (1 : Int32) (0 : Int32) h0 n0 Z0) hZ (own_w hw 83 rfl) (own_w hw 82 rfl) (by decide) (by decide)) (g := (mkF m 11 #[.val (.ref a1), .val (.int (47 : Int32)), .val (.int (1 : Int32)), .val (.int (3 : Int32))] [(.int (0 : Int32)), (.int (1 : Int32))])) rfl (by rw [hml]; rfl) (argsL := [(.int (1 : Int32)), (.int (0 : Int32))]) (rest := []) (lenOf pd_14 rfl) rfl (by show 2 * 0 + _ ≤ _; exact Nat.le_of_eq rfl) (hb hby d15_11) (fun _ _ => ⟨rfl, r1_0, (by decide : 0 + 0 ≤ _), (by decide : 0 + 0 ≤ _)⟩))
  obtain ⟨rfl, N2q, r2_0⟩ := hQ2
  have N2 := Fr.app N1 N2q
  refine OGo.via st2 ?_
  show OGo _ _ _ _ (T2.setTop (mkF m 14 #[.val (.ref a1), .val (.int (47 : Int32)), .val (.int (1 : Int32)), .val (.int (3 : Int32))] [(.int (if (1 : Int32) < (0 : Int32) then (0 : Int32) else (1 : Int32)))]))
  rw [show (if (1 : Int32) < (0 : Int32) then (0 : Int32) else (1 : Int32)) = (1 : Int32) from by decide]
  show OGo _ _ _ _ (T2.setTop (mkF m 14 #[.val (.ref a1), .val (.int (47 : Int32)), .val (.int (1 : Int32)), .val (.int (3 : Int32))] [(.int (1 : Int32))]))
  refine OGo.via (fun _ k => XS.istoreN X2.here hx rfl (hb hby d15_14) rfl (l' := #[.val (.ref a1), .val (.int (47 : Int32)), .val (.int (1 : Int32)), .val (.int (3 : Int32))]) rfl (XS.iloadN X2.here hx rfl (hb hby d15_15) rfl (XS.aloadN X2.here hx rfl (hb hby d15_16) rfl rfl k))) ?_
  obtain ⟨cl3, Ar3, q3, Sz3, Ng3, Hs3, Gf3⟩ := id V_a1
  refine OGo.via (X2.arraylength hx (by rw [r2_0]; exact Ar3.1) (State.isArrayOf_alike hZ.alike Ar3.2.1) (g := (mkF m 17 #[.val (.ref a1), .val (.int (47 : Int32)), .val (.int (1 : Int32)), .val (.int (3 : Int32))] [(.ref a1), (.int (3 : Int32))])) rfl rfl (hb hby d15_17)) ?_
  rw [len_of Sz3 Ng3]
  show OGo _ _ _ _ (T2.setTop (mkF m 18 #[.val (.ref a1), .val (.int (47 : Int32)), .val (.int (1 : Int32)), .val (.int (3 : Int32))] [(.int (3 : Int32)), (.int (3 : Int32))]))
  obtain ⟨_, T4, Lc4, X4, hQ4, st4⟩ := own_open X2 (Jvm.LawKit.callS X2 hx (y := own_y2) hown (mvT hZ (own_w hw 84 rfl)) (mvT hZ (own_w hw 85 rfl)) (mvT hZ (own_w hw 82 rfl)) (mvT hZ (own_w hw 86 rfl)) (by decide) (backOf (W := 0) (rm18 l Z a0 hw [] (3 : Int32) (3 : Int32) h0 n0 Z0) hZ (own_w hw 86 rfl) (own_w hw 82 rfl) (by decide) (by decide)) (g := (mkF m 18 #[.val (.ref a1), .val (.int (47 : Int32)), .val (.int (1 : Int32)), .val (.int (3 : Int32))] [(.int (3 : Int32)), (.int (3 : Int32))])) rfl (by rw [hml]; rfl) (argsL := [(.int (3 : Int32)), (.int (3 : Int32))]) (rest := []) (lenOf pd_14 rfl) rfl (by show 2 * 0 + _ ≤ _; exact Nat.le_of_eq rfl) (hb hby d15_18) (fun _ _ => ⟨rfl, r2_0, (by decide : 0 + 0 ≤ _), (by decide : 0 + 0 ≤ _)⟩))
  obtain ⟨rfl, N4q, r4_0⟩ := hQ4
  have N4 := Fr.app N2 N4q
  refine OGo.via st4 ?_
  show OGo _ _ _ _ (T4.setTop (mkF m 21 #[.val (.ref a1), .val (.int (47 : Int32)), .val (.int (1 : Int32)), .val (.int (3 : Int32))] [(.int (if (3 : Int32) < (3 : Int32) then (3 : Int32) else (3 : Int32)))]))
  rw [show (if (3 : Int32) < (3 : Int32) then (3 : Int32) else (3 : Int32)) = (3 : Int32) from by decide]
  show OGo _ _ _ _ (T4.setTop (mkF m 21 #[.val (.ref a1), .val (.int (47 : Int32)), .val (.int (1 : Int32)), .val (.int (3 : Int32))] [(.int (3 : Int32))]))
  refine OGo.via (fun _ k => XS.istoreN X4.here hx rfl (hb hby d15_21) rfl (l' := #[.val (.ref a1), .val (.int (47 : Int32)), .val (.int (1 : Int32)), .val (.int (3 : Int32))]) rfl (XS.iloadN X4.here hx rfl (hb hby d15_22) rfl (XS.iloadN X4.here hx rfl (hb hby d15_23) rfl (XS.icmpYes X4.here hx rfl (pc0 := 24) (pc' := 29) rfl (hb hby d15_24) rfl (tlt (by decide : (1 : Int32) < (3 : Int32))).1 (by decide) (by decide) (XS.aloadN X4.here hx rfl (hb hby d15_29) rfl rfl (XS.iloadN X4.here hx rfl (hb hby d15_30) rfl (XS.iloadN X4.here hx rfl (hb hby d15_31) rfl (XS.iloadN X4.here hx rfl (hb hby d15_32) rfl k)))))))) ?_
  show OGo _ _ _ _ (T4.setTop (mkF m 33 #[.val (.ref a1), .val (.int (47 : Int32)), .val (.int (1 : Int32)), .val (.int (3 : Int32))] [(.int (3 : Int32)), (.int (1 : Int32)), (.int (47 : Int32)), (.ref a1)]))
  obtain ⟨_, T5, Lc5, X5, hQ5, st5⟩ := own_open X4 (Jvm.LawKit.callS X4 hx (y := own_y29) hown (mvT hZ (own_w hw 108 rfl)) (mvT hZ (own_w hw 109 rfl)) (mvT hZ (own_w hw 75 rfl)) (mvT hZ (own_w hw 110 rfl)) (by decide) (backOf (W := 0) (rm23_3 l Z a0 hw [] a1 k1 y0 y1 y2 h0 n0 Z0 V_a1) hZ (own_w hw 110 rfl) (own_w hw 75 rfl) (by decide) (by decide)) (g := (mkF m 33 #[.val (.ref a1), .val (.int (47 : Int32)), .val (.int (1 : Int32)), .val (.int (3 : Int32))] [(.int (3 : Int32)), (.int (1 : Int32)), (.int (47 : Int32)), (.ref a1)])) rfl (by rw [hml]; rfl) (argsL := [(.ref a1), (.int (47 : Int32)), (.int (1 : Int32)), (.int (3 : Int32))]) (rest := []) (lenOf pd_18 rfl) rfl (by show 2 * 0 + _ ≤ _; exact Nat.le_of_eq rfl) (hb hby d15_33) (fun _ _ => ⟨rfl, r4_0, (by decide : 0 + 0 ≤ _), (by decide : 0 + 0 ≤ _)⟩))
  obtain ⟨rfl, N5q, r5_0⟩ := hQ5
  have N5 := Fr.app N4 N5q
  refine OGo.via st5 ?_
  show OGo _ _ _ _ (T5.setTop (mkF m 36 #[.val (.ref a1), .val (.int (47 : Int32)), .val (.int (1 : Int32)), .val (.int (3 : Int32))] [(.int (own_ix y1 y2 (0 : Int32)))]))
  show OGo _ _ _ _ (T5.setTop (mkF m 36 #[.val (.ref a1), .val (.int (47 : Int32)), .val (.int (1 : Int32)), .val (.int (3 : Int32))] [(.int (own_ix y1 y2 (0 : Int32)))]))
  refine own_retI X5 hx Bd.notSynchronized Bd.returns (hb hby d15_36) (by decide) (by decide) ?_
  show Q_rm15_3 Z _ _ _ _ _ h0 n0 _ T5.heap _
  exact ⟨rfl, N5, r5_0⟩
theorem ef_rm11_3 (m : MethodId) (a1 : Addr) : entryFrame m #[(.ref a1), (.int (47 : Int32)), (.int (1 : Int32))] 3 = mkF m 0 #[.val (.ref a1), .val (.int (47 : Int32)), .val (.int (1 : Int32))] [] := by
  first | (simp [entryFrame, mkF, argsToLocals, Value.category]; done) | rfl
def Q_rm11_3 (Z : State) (a1 : Addr) (w : Int32) (fm : Value) (va : Addr) (k1 : ClassId) (y0 : Int32) (y1 : Int32) (y2 : Int32) (h0 : Heap) (n0 : Nat) (v : Option Value) (h : Heap) (L : List Loc) : Prop := v = some (.int (own_ix y1 y2 (0 : Int32))) ∧ Fr n0 L ∧ h = h0
abbrev R_rm11_3 : Room := ⟨2, 0, 0, 32⟩
set_option maxRecDepth 65536 in
set_option maxHeartbeats 40000000 in
theorem rm11_3 (l : Launch) (Z : State) (a0 : Array Value) (hw : ∀ d ∈ tables_1, d.before a0 Z = true) (ws : List Jvm.Cond) (a1 : Addr) (w : Int32) (fm : Value) (va : Addr) (k1 : ClassId) (y0 : Int32) (y1 : Int32) (y2 : Int32) (h0 : Heap) (n0 : Nat) (Z0 : n0 ≤ h0.size) (E_a1 : Exa Z h0 a1 "java/lang/String") (F_value_a1 : Fld Z h0 a1 "java/lang/String" "value" "[B" (.ref va)) (F_coder_a1 : Fld Z h0 a1 "java/lang/String" "coder" "B" (.int (0 : Int32))) (V_va : Arv Z h0 va k1 .byte (3 : Int32) [(.int y0), (.int y1), (.int y2)] (.int (0 : Int32))) (S_COMPACT_STRINGS : Sta Z h0 "java/lang/String" "COMPACT_STRINGS" "Z" (.int w)) (S_SIOOBE_FORMATTER : Sta Z h0 "jdk/internal/util/Preconditions" "SIOOBE_FORMATTER" "Ljava/util/function/BiFunction;" fm) (hw0 : ¬ w = (0 : Int32)) :
    MetFree l own_y27 (head1 (Jvm.Cond.code own_y27 jdk_42_method_80_code 3 (some .int) :: ws) R_rm11_3) (fun a U => a = #[(.ref a1), (.int (47 : Int32)), (.int (1 : Int32))] ∧ Z.Warmed39 U.vm ∧ U.heap = h0) (fun _ _ _ _ _ => True) (fun _ U o U' => ∃ v L, o = .returned v ∧ Q_rm11_3 Z a1 w fm va k1 y0 y1 y2 h0 n0 v U'.heap L ∧ FrameEnd U o U' L R_rm11_3.cells R_rm11_3.slots) := by
  refine MetFree.of_bodySF (plainFor_of_name pn_String) hisR ?_
  intro p e s m args below meth c s₁ Bd hml0 hP hK
  obtain ⟨rfl, hZ, hh⟩ := hP
  have hx := Bd.exec
  have hby := Bd.bytes
  have hml : c.maxLocals = 3 := hml0
  have hown : s.vm.findClass "java/lang/String" = some m.cls := findClass_of_methodNamed Bd.named
  have hnm := (name_of_methodNamed Bd.named Bd.method).1
  have X0 : Stand p l e R_rm11_3 s m #[(.ref a1), (.int (47 : Int32)), (.int (1 : Int32))] below meth c s₁ [] 0 0 := Stand.of_body Bd
  have e0 : s₁.heap = h0 := by rw [← hh, Bd.state]; rfl
  have N0 := Fr.nil n0
  show OGo p.tables e below (own_Kq s (fun v h L => Q_rm11_3 Z a1 w fm va k1 y0 y1 y2 h0 n0 v h L) R_rm11_3.cells R_rm11_3.slots) (s₁.setTop (entryFrame m #[(.ref a1), (.int (47 : Int32)), (.int (1 : Int32))] 3))
  refine OGo.cast (ef_rm11_3 m a1) ?_
  show OGo _ _ _ _ (s₁.setTop (mkF m 0 #[.val (.ref a1), .val (.int (47 : Int32)), .val (.int (1 : Int32))] []))
  refine OGo.via (fun _ k => XS.aloadN X0.here hx rfl (hb hby d11_0) rfl rfl k) ?_
  obtain ⟨cq1, kq1, q1a, q1b, q1c⟩ := isOf hZ e0 E_a1
  obtain ⟨_, T1, Lc1, X1, hQ1, st1⟩ := own_open X0 (X0.virtualBack hx (y := own_y5) (z := own_y5) hown (mvT hZ (own_w hw 58 rfl)) (mvT hZ (own_w hw 59 rfl)) (notFace_of_selects (args := #[]) (mvT hZ (own_w hw 61 rfl))) (mvT hZ (own_w hw 61 rfl)) (mvT hZ (own_w hw 60 rfl)) (by decide) (backOf (W := 0) (rm12 l Z a0 hw [] a1 w va h0 n0 Z0 E_a1 F_value_a1 F_coder_a1 S_COMPACT_STRINGS hw0) hZ (own_w hw 62 rfl) (own_w hw 10 rfl) (by decide) (by decide)) q1a q1c (g := (mkF m 1 #[.val (.ref a1), .val (.int (47 : Int32)), .val (.int (1 : Int32))] [(.ref a1)])) rfl (by rw [hml]; rfl) (Steps.refl _) (argsL := []) (rest := []) (lenOf pd_9 rfl) rfl (by show 2 * 0 + _ ≤ _; exact Nat.le_of_eq rfl) (hb hby d11_1) (fun _ _ => ⟨rfl, e0, (by decide : 0 + 0 ≤ _), (by decide : 0 + 0 ≤ _)⟩))
  obtain ⟨rfl, N1q, r1_0⟩ := hQ1
  have N1 := Fr.app N0 N1q
  refine OGo.via (fun _ k => st1.trans k) ?_
  show OGo _ _ _ _ (T1.setTop (mkF m 4 #[.val (.ref a1), .val (.int (47 : Int32)), .val (.int (1 : Int32))] [(.int (1 : Int32))]))
  refine OGo.via (fun _ k => XS.ifNo X1.here hx rfl (hb hby d11_4) rfl ((if0 _ _).trans (feq (by decide : ¬ ((1 : Int32) = (0 : Int32)))).1) (XS.aloadN X1.here hx rfl (hb hby d11_7) rfl rfl k)) ?_
  obtain ⟨T2, X2, e2, st2⟩ := getF X1 hx hZ hown (host := "") (Or.inl (own_w hw 35 rfl)) Via.refl r1_0 F_value_a1 (g := (mkF m 8 #[.val (.ref a1), .val (.int (47 : Int32)), .val (.int (1 : Int32))] [(.ref a1)])) rfl rfl (hb hby d11_8)
  refine OGo.via st2 ?_
  show OGo _ _ _ _ (T2.setTop (mkF m 11 #[.val (.ref a1), .val (.int (47 : Int32)), .val (.int (1 : Int32))] [(.ref va)]))
  refine OGo.via (fun _ k => XS.iloadN X2.here hx rfl (hb hby d11_11) rfl (XS.iloadN X2.here hx rfl (hb hby d11_12) rfl (XS.aloadN X2.here hx rfl (hb hby d11_13) rfl rfl k))) ?_
  obtain ⟨cq3, kq3, q3a, q3b, q3c⟩ := isOf hZ e2 E_a1
  obtain ⟨_, T3, Lc3, X3, hQ3, st3⟩ := own_open X2 (X2.virtualBack hx (y := own_y6) (z := own_y6) hown (mvT hZ (own_w hw 63 rfl)) (mvT hZ (own_w hw 64 rfl)) (notFace_of_selects (args := #[]) (mvT hZ (own_w hw 66 rfl))) (mvT hZ (own_w hw 66 rfl)) (mvT hZ (own_w hw 65 rfl)) (by decide) (backOf (W := 3) (rm13 l Z a0 hw [] a1 w va k1 [(.int y0), (.int y1), (.int y2)] (3 : Int32) h0 n0 Z0 E_a1 F_value_a1 F_coder_a1 V_va S_COMPACT_STRINGS hw0) hZ (own_w hw 67 rfl) (own_w hw 10 rfl) (by decide) (by decide)) q3a q3c (g := (mkF m 14 #[.val (.ref a1), .val (.int (47 : Int32)), .val (.int (1 : Int32))] [(.ref a1), (.int (1 : Int32)), (.int (47 : Int32)), (.ref va)])) rfl (by rw [hml]; rfl) (Steps.refl _) (argsL := []) (rest := [(.int (1 : Int32)), (.int (47 : Int32)), (.ref va)]) (lenOf pd_11 rfl) rfl (by show 2 * 0 + _ ≤ _; exact Nat.le_of_eq rfl) (hb hby d11_14) (fun _ _ => ⟨rfl, e2, (by decide : 0 + 0 ≤ _), (by decide : 0 + 0 ≤ _)⟩))
  obtain ⟨rfl, N3q, r3_0⟩ := hQ3
  have N3 := Fr.app N1 N3q
  refine OGo.via (fun _ k => st3.trans k) ?_
  show OGo _ _ _ _ (T3.setTop (mkF m 17 #[.val (.ref a1), .val (.int (47 : Int32)), .val (.int (1 : Int32))] [(.int (3 : Int32)), (.int (1 : Int32)), (.int (47 : Int32)), (.ref va)]))
  obtain ⟨_, T4, Lc4, X4, hQ4, st4⟩ := own_open X3 (Jvm.LawKit.callS X3 hx (y := own_y26) hown (mvT hZ (own_w hw 73 rfl)) (mvT hZ (own_w hw 74 rfl)) (mvT hZ (own_w hw 75 rfl)) (mvT hZ (own_w hw 76 rfl)) (by decide) (backOf (W := 0) (rm15_3 l Z a0 hw [] va k1 y0 y1 y2 h0 n0 Z0 V_va) hZ (own_w hw 76 rfl) (own_w hw 75 rfl) (by decide) (by decide)) (g := (mkF m 17 #[.val (.ref a1), .val (.int (47 : Int32)), .val (.int (1 : Int32))] [(.int (3 : Int32)), (.int (1 : Int32)), (.int (47 : Int32)), (.ref va)])) rfl (by rw [hml]; rfl) (argsL := [(.ref va), (.int (47 : Int32)), (.int (1 : Int32)), (.int (3 : Int32))]) (rest := []) (lenOf pd_18 rfl) rfl (by show 2 * 0 + _ ≤ _; exact Nat.le_of_eq rfl) (hb hby d11_17) (fun _ _ => ⟨rfl, r3_0, (by decide : 0 + 0 ≤ _), (by decide : 0 + 0 ≤ _)⟩))
  obtain ⟨rfl, N4q, r4_0⟩ := hQ4
  have N4 := Fr.app N3 N4q
  refine OGo.via st4 ?_
  show OGo _ _ _ _ (T4.setTop (mkF m 20 #[.val (.ref a1), .val (.int (47 : Int32)), .val (.int (1 : Int32))] [(.int (own_ix y1 y2 (0 : Int32)))]))
  refine OGo.via (fun _ k => XS.goto X4.here hx rfl (pc0 := 20) (pc' := 36) rfl (hb hby d11_20) (by decide) (by decide) k) ?_
  show OGo _ _ _ _ (T4.setTop (mkF m 36 #[.val (.ref a1), .val (.int (47 : Int32)), .val (.int (1 : Int32))] [(.int (own_ix y1 y2 (0 : Int32)))]))
  refine own_retI X4 hx Bd.notSynchronized Bd.returns (hb hby d11_36) (by decide) (by decide) ?_
  show Q_rm11_3 Z _ _ _ _ _ _ _ _ h0 n0 _ T4.heap _
  exact ⟨rfl, N4, r4_0⟩
theorem ef_rm10_3_1 (m : MethodId) (a1 : Addr) : entryFrame m #[(.ref a1)] 2 = mkF m 0 #[.val (.ref a1), .unset] [] := by
  first | (simp [entryFrame, mkF, argsToLocals, Value.category]; done) | rfl
def Q_rm10_3_1 (Z : State) (a1 : Addr) (w : Int32) (fm : Value) (va : Addr) (k1 : ClassId) (y0 : Int32) (y1 : Int32) (y2 : Int32) (sa : Addr) (h0 : Heap) (n0 : Nat) (v : Option Value) (h : Heap) (L : List Loc) : Prop := ∃ rr : Addr, ∃ vb : Addr, ∃ kb : ClassId, v = some (.ref rr) ∧ Fr n0 L ∧ Keep h0 h [] ∧ Exa Z h rr "java/lang/String" ∧ Fld Z h rr "java/lang/String" "value" "[B" (.ref vb) ∧ Fld Z h rr "java/lang/String" "coder" "B" (.int (0 : Int32)) ∧ Arv Z h vb kb .byte (0 : Int32) [] (.int (0 : Int32))
abbrev R_rm10_3_1 : Room := ⟨3, 2, 4, 46⟩
set_option maxRecDepth 65536 in
set_option maxHeartbeats 40000000 in
theorem rm10_3_1 (l : Launch) (Z : State) (a0 : Array Value) (hw : ∀ d ∈ tables_1, d.before a0 Z = true) (ws : List Jvm.Cond) (a1 : Addr) (w : Int32) (fm : Value) (va : Addr) (k1 : ClassId) (y0 : Int32) (y1 : Int32) (y2 : Int32) (sa : Addr) (h0 : Heap) (n0 : Nat) (Z0 : n0 ≤ h0.size) (E_a1 : Exa Z h0 a1 "com/example/ianus/ianus/server/LiteralPath") (F_path_a1 : Fld Z h0 a1 "com/example/ianus/ianus/server/LiteralPath" "path" "Ljava/lang/String;" (.ref sa)) (E_sa : Exa Z h0 sa "java/lang/String") (F_value_sa : Fld Z h0 sa "java/lang/String" "value" "[B" (.ref va)) (F_coder_sa : Fld Z h0 sa "java/lang/String" "coder" "B" (.int (0 : Int32))) (V_va : Arv Z h0 va k1 .byte (3 : Int32) [(.int y0), (.int y1), (.int y2)] (.int (0 : Int32))) (S_COMPACT_STRINGS : Sta Z h0 "java/lang/String" "COMPACT_STRINGS" "Z" (.int w)) (S_SIOOBE_FORMATTER : Sta Z h0 "jdk/internal/util/Preconditions" "SIOOBE_FORMATTER" "Ljava/util/function/BiFunction;" fm) (hw0 : ¬ w = (0 : Int32)) (hr_fm : fm.isRef = true) (hy1 : y1 = (47 : Int32)) (hold : ∀ (b : Addr) (cl : Cell), Z.heap[b]? = some cl → h0[b]? = some cl) (hhc : Jvm.Lit.constHeld Z "java/lang/StringLatin1" 151) (hcw : Jvm.Lit.compactW.before a0 Z = true) :
    MetFree l own_y28 (head1 (Jvm.Cond.code own_y28 prog_15_method_3_code 2 (some (.object "java/lang/String")) :: ws) R_rm10_3_1) (fun a U => a = #[(.ref a1)] ∧ Z.WarmedH U.vm ∧ U.heap = h0) (fun _ _ _ _ _ => True) (fun _ U o U' => ∃ v L, o = .returned v ∧ Q_rm10_3_1 Z a1 w fm va k1 y0 y1 y2 sa h0 n0 v U'.heap L ∧ ReturnedEndW U o U' L R_rm10_3_1.cells R_rm10_3_1.slots) := by
  refine MetFree.of_bodySF (plainFor_of_name pn_LiteralPath) hisR ?_
  intro p e s m args below meth c s₁ Bd hml0 hP hK
  obtain ⟨rfl, hZH, hh⟩ := hP
  have hZ := hZH.wide
  have hx := Bd.exec
  have hby := Bd.bytes
  have hml : c.maxLocals = 2 := hml0
  have hown : s.vm.findClass "com/example/ianus/ianus/server/LiteralPath" = some m.cls := findClass_of_methodNamed Bd.named
  have hnm := (name_of_methodNamed Bd.named Bd.method).1
  have X0 : Stand p l e R_rm10_3_1 s m #[(.ref a1)] below meth c s₁ [] 0 0 := Stand.of_body Bd
  have e0 : s₁.heap = h0 := by rw [← hh, Bd.state]; rfl
  have N0 := Fr.nil n0
  show OGo p.tables e below (own_KqW s (fun v h L => Q_rm10_3_1 Z a1 w fm va k1 y0 y1 y2 sa h0 n0 v h L) R_rm10_3_1.cells R_rm10_3_1.slots) (s₁.setTop (entryFrame m #[(.ref a1)] 2))
  refine OGo.cast (ef_rm10_3_1 m a1) ?_
  show OGo _ _ _ _ (s₁.setTop (mkF m 0 #[.val (.ref a1), .unset] []))
  refine OGo.via (fun _ k => XS.aloadN X0.here hx rfl (hb hby d10_0) rfl rfl k) ?_
  obtain ⟨T1, X1, e1, st1⟩ := getF X0 hx hZ hown (host := "") (Or.inl (own_w hw 46 rfl)) Via.refl e0 F_path_a1 (g := (mkF m 1 #[.val (.ref a1), .unset] [(.ref a1)])) rfl rfl (hb hby d10_1)
  refine OGo.via st1 ?_
  show OGo _ _ _ _ (T1.setTop (mkF m 4 #[.val (.ref a1), .unset] [(.ref sa)]))
  refine OGo.via (fun _ k => XS.bipush X1.here hx rfl (hb hby d10_4) (XS.iconst X1.here hx rfl (hb hby d10_6) k)) ?_
  obtain ⟨cq2, kq2, q2a, q2b, q2c⟩ := isOf hZ e1 E_sa
  obtain ⟨_, T2, Lc2, X2, hQ2, st2⟩ := own_open X1 (X1.virtualBack hx (y := own_y27) (z := own_y27) hown (mvT hZ (own_w hw 53 rfl)) (mvT hZ (own_w hw 54 rfl)) (notFace_of_selects (args := #[]) (mvT hZ (own_w hw 56 rfl))) (mvT hZ (own_w hw 56 rfl)) (mvT hZ (own_w hw 55 rfl)) (by decide) (backOf (W := 0) (rm11_3 l Z a0 hw [] sa w fm va k1 y0 y1 y2 h0 n0 Z0 E_sa F_value_sa F_coder_sa V_va S_COMPACT_STRINGS S_SIOOBE_FORMATTER hw0) hZ (own_w hw 57 rfl) (own_w hw 10 rfl) (by decide) (by decide)) q2a q2c (g := (mkF m 7 #[.val (.ref a1), .unset] [(.int (1 : Int32)), (.int (47 : Int32)), (.ref sa)])) rfl (by rw [hml]; rfl) (Steps.refl _) (argsL := [(.int (47 : Int32)), (.int (1 : Int32))]) (rest := []) (lenOf pd_14 rfl) rfl (by show 2 * 0 + _ ≤ _; exact Nat.le_of_eq rfl) (hb hby d10_7) (fun _ _ => ⟨rfl, e1, (by decide : 0 + 0 ≤ _), (by decide : 0 + 0 ≤ _)⟩))
  obtain ⟨rfl, N2q, r2_0⟩ := hQ2
  have N2 := Fr.app N0 N2q
  refine OGo.via (fun _ k => st2.trans k) ?_
  show OGo _ _ _ _ (T2.setTop (mkF m 10 #[.val (.ref a1), .unset] [(.int (own_ix y1 y2 (0 : Int32)))]))
  rw [show (own_ix y1 y2 (0 : Int32)) = (1 : Int32) from by rw [own_ix, if_pos hy1]]
  show OGo _ _ _ _ (T2.setTop (mkF m 10 #[.val (.ref a1), .unset] [(.int (1 : Int32))]))
  refine OGo.via (fun _ k => XS.istoreN X2.here hx rfl (hb hby d10_10) rfl (l' := #[.val (.ref a1), .val (.int (1 : Int32))]) rfl (XS.aloadN X2.here hx rfl (hb hby d10_11) rfl rfl k)) ?_
  obtain ⟨T3, X3, e3, st3⟩ := getF X2 hx hZ hown (host := "") (Or.inl (own_w hw 46 rfl)) Via.refl r2_0 F_path_a1 (g := (mkF m 12 #[.val (.ref a1), .val (.int (1 : Int32))] [(.ref a1)])) rfl rfl (hb hby d10_12)
  refine OGo.via st3 ?_
  show OGo _ _ _ _ (T3.setTop (mkF m 15 #[.val (.ref a1), .val (.int (1 : Int32))] [(.ref sa)]))
  refine OGo.via (fun _ k => XS.iconst X3.here hx rfl (hb hby d10_15) (XS.iloadN X3.here hx rfl (hb hby d10_16) rfl (XS.ifYes X3.here hx rfl (pc0 := 17) (pc' := 30) rfl (hb hby d10_17) rfl ((if0 _ _).trans (flt (by decide : ¬ ((1 : Int32) < (0 : Int32)))).2.1) (by decide) (by decide) (XS.iloadN X3.here hx rfl (hb hby d10_30) rfl k)))) ?_
  obtain ⟨cq4, kq4, q4a, q4b, q4c⟩ := isOf hZ e3 E_sa
  obtain ⟨_, T4, Lc4, X4, hSi4, hQ4, st4⟩ := own_openS X3 (X3.virtualBackS hx (y := own_y23) (z := own_y23) hown (mvT hZ (own_w hw 88 rfl)) (mvT hZ (own_w hw 89 rfl)) (notFace_of_selects (args := #[]) (mvT hZ (own_w hw 91 rfl))) (mvT hZ (own_w hw 91 rfl)) (mvT hZ (own_w hw 90 rfl)) (by decide) (own_backOfSH (W := 0) (rm19_3_1 l Z a0 hw [] sa w fm va k1 y0 y1 y2 h0 n0 Z0 E_sa F_value_sa F_coder_sa V_va S_COMPACT_STRINGS S_SIOOBE_FORMATTER hw0 hr_fm hold hhc hcw) hZH (own_w hw 92 rfl) (own_w hw 10 rfl) (by decide) (by decide)) q4a q4c (g := (mkF m 31 #[.val (.ref a1), .val (.int (1 : Int32))] [(.int (1 : Int32)), (.int (1 : Int32)), (.ref sa)])) rfl (by rw [hml]; rfl) (Steps.refl _) (argsL := [(.int (1 : Int32)), (.int (1 : Int32))]) (rest := []) (lenOf pd_19 rfl) rfl (by show 2 * 0 + _ ≤ _; exact Nat.le_of_eq rfl) (hb hby d10_31) (fun _ _ => ⟨rfl, e3, (by decide : 0 + 2 ≤ _), (by decide : 0 + 4 ≤ _)⟩))
  have hZ4 : Z.Warmed39 (s.setVm T4.vm).vm := State.Warmed39.trans hZ hSi4.1
  have hown4 : (s.setVm T4.vm).vm.findClass "com/example/ianus/ianus/server/LiteralPath" = some m.cls := by rw [show (s.setVm T4.vm).vm = T4.vm from rfl, hSi4.1.alike.findClass]; exact hown
  obtain ⟨rr, vb, kb, rfl, N4q, r4_0, r4_1, r4_2, r4_3, r4_4⟩ := hQ4
  have N4 := Fr.app N2 N4q
  have K4 : Keep h0 T4.heap [] := (Keep.refl h0 []).trans r4_0 all0
  refine OGo.via (fun _ k => st4.trans k) ?_
  show OGo _ _ _ _ (T4.setTop (mkF m 34 #[.val (.ref a1), .val (.int (1 : Int32))] [(.ref rr)]))
  show OGo _ _ _ _ (T4.setTop (mkF m 34 #[.val (.ref a1), .val (.int (1 : Int32))] [(.ref rr)]))
  refine own_retAW X4 hSi4 (Nat.le_refl T4.heap.size) hx Bd.notSynchronized Bd.returns rfl rfl (hb hby d10_34) (by decide) (by decide) ?_
  show Q_rm10_3_1 Z _ _ _ _ _ _ _ _ _ h0 n0 _ T4.heap _
  exact ⟨rr, vb, kb, rfl, N4, K4, r4_1, r4_2, r4_3, r4_4⟩
theorem ef_rm10_3_2 (m : MethodId) (a1 : Addr) : entryFrame m #[(.ref a1)] 2 = mkF m 0 #[.val (.ref a1), .unset] [] := by
  first | (simp [entryFrame, mkF, argsToLocals, Value.category]; done) | rfl
def Q_rm10_3_2 (Z : State) (a1 : Addr) (w : Int32) (fm : Value) (va : Addr) (k1 : ClassId) (y0 : Int32) (y1 : Int32) (y2 : Int32) (sa : Addr) (h0 : Heap) (n0 : Nat) (v : Option Value) (h : Heap) (L : List Loc) : Prop := ∃ rr : Addr, ∃ vb : Addr, ∃ kb : ClassId, v = some (.ref rr) ∧ Fr n0 L ∧ Keep h0 h [] ∧ Exa Z h rr "java/lang/String" ∧ Fld Z h rr "java/lang/String" "value" "[B" (.ref vb) ∧ Fld Z h rr "java/lang/String" "coder" "B" (.int (0 : Int32)) ∧ Arv Z h vb kb .byte (1 : Int32) [(.int y1)] (.int (0 : Int32))
abbrev R_rm10_3_2 : Room := ⟨5, 2, 5, 80⟩
set_option maxRecDepth 65536 in
set_option maxHeartbeats 40000000 in
theorem rm10_3_2 (l : Launch) (Z : State) (a0 : Array Value) (hw : ∀ d ∈ tables_1, d.before a0 Z = true) (ws : List Jvm.Cond) (a1 : Addr) (w : Int32) (fm : Value) (va : Addr) (k1 : ClassId) (y0 : Int32) (y1 : Int32) (y2 : Int32) (sa : Addr) (h0 : Heap) (n0 : Nat) (Z0 : n0 ≤ h0.size) (E_a1 : Exa Z h0 a1 "com/example/ianus/ianus/server/LiteralPath") (F_path_a1 : Fld Z h0 a1 "com/example/ianus/ianus/server/LiteralPath" "path" "Ljava/lang/String;" (.ref sa)) (E_sa : Exa Z h0 sa "java/lang/String") (F_value_sa : Fld Z h0 sa "java/lang/String" "value" "[B" (.ref va)) (F_coder_sa : Fld Z h0 sa "java/lang/String" "coder" "B" (.int (0 : Int32))) (V_va : Arv Z h0 va k1 .byte (3 : Int32) [(.int y0), (.int y1), (.int y2)] (.int (0 : Int32))) (S_COMPACT_STRINGS : Sta Z h0 "java/lang/String" "COMPACT_STRINGS" "Z" (.int w)) (S_SIOOBE_FORMATTER : Sta Z h0 "jdk/internal/util/Preconditions" "SIOOBE_FORMATTER" "Ljava/util/function/BiFunction;" fm) (hw0 : ¬ w = (0 : Int32)) (hr_fm : fm.isRef = true) (hy1 : ¬ y1 = (47 : Int32)) (hy2 : y2 = (47 : Int32)) :
    MetFree l own_y28 (head1 (Jvm.Cond.code own_y28 prog_15_method_3_code 2 (some (.object "java/lang/String")) :: ws) R_rm10_3_2) (fun a U => a = #[(.ref a1)] ∧ Z.Warmed39 U.vm ∧ U.heap = h0) (fun _ _ _ _ _ => True) (fun _ U o U' => ∃ v L, o = .returned v ∧ Q_rm10_3_2 Z a1 w fm va k1 y0 y1 y2 sa h0 n0 v U'.heap L ∧ FrameEnd U o U' L R_rm10_3_2.cells R_rm10_3_2.slots) := by
  refine MetFree.of_bodySF (plainFor_of_name pn_LiteralPath) hisR ?_
  intro p e s m args below meth c s₁ Bd hml0 hP hK
  obtain ⟨rfl, hZ, hh⟩ := hP
  have hx := Bd.exec
  have hby := Bd.bytes
  have hml : c.maxLocals = 2 := hml0
  have hown : s.vm.findClass "com/example/ianus/ianus/server/LiteralPath" = some m.cls := findClass_of_methodNamed Bd.named
  have hnm := (name_of_methodNamed Bd.named Bd.method).1
  have X0 : Stand p l e R_rm10_3_2 s m #[(.ref a1)] below meth c s₁ [] 0 0 := Stand.of_body Bd
  have e0 : s₁.heap = h0 := by rw [← hh, Bd.state]; rfl
  have N0 := Fr.nil n0
  show OGo p.tables e below (own_Kq s (fun v h L => Q_rm10_3_2 Z a1 w fm va k1 y0 y1 y2 sa h0 n0 v h L) R_rm10_3_2.cells R_rm10_3_2.slots) (s₁.setTop (entryFrame m #[(.ref a1)] 2))
  refine OGo.cast (ef_rm10_3_2 m a1) ?_
  show OGo _ _ _ _ (s₁.setTop (mkF m 0 #[.val (.ref a1), .unset] []))
  refine OGo.via (fun _ k => XS.aloadN X0.here hx rfl (hb hby d10_0) rfl rfl k) ?_
  obtain ⟨T1, X1, e1, st1⟩ := getF X0 hx hZ hown (host := "") (Or.inl (own_w hw 46 rfl)) Via.refl e0 F_path_a1 (g := (mkF m 1 #[.val (.ref a1), .unset] [(.ref a1)])) rfl rfl (hb hby d10_1)
  refine OGo.via st1 ?_
  show OGo _ _ _ _ (T1.setTop (mkF m 4 #[.val (.ref a1), .unset] [(.ref sa)]))
  refine OGo.via (fun _ k => XS.bipush X1.here hx rfl (hb hby d10_4) (XS.iconst X1.here hx rfl (hb hby d10_6) k)) ?_
  obtain ⟨cq2, kq2, q2a, q2b, q2c⟩ := isOf hZ e1 E_sa
  obtain ⟨_, T2, Lc2, X2, hQ2, st2⟩ := own_open X1 (X1.virtualBack hx (y := own_y27) (z := own_y27) hown (mvT hZ (own_w hw 53 rfl)) (mvT hZ (own_w hw 54 rfl)) (notFace_of_selects (args := #[]) (mvT hZ (own_w hw 56 rfl))) (mvT hZ (own_w hw 56 rfl)) (mvT hZ (own_w hw 55 rfl)) (by decide) (backOf (W := 0) (rm11_3 l Z a0 hw [] sa w fm va k1 y0 y1 y2 h0 n0 Z0 E_sa F_value_sa F_coder_sa V_va S_COMPACT_STRINGS S_SIOOBE_FORMATTER hw0) hZ (own_w hw 57 rfl) (own_w hw 10 rfl) (by decide) (by decide)) q2a q2c (g := (mkF m 7 #[.val (.ref a1), .unset] [(.int (1 : Int32)), (.int (47 : Int32)), (.ref sa)])) rfl (by rw [hml]; rfl) (Steps.refl _) (argsL := [(.int (47 : Int32)), (.int (1 : Int32))]) (rest := []) (lenOf pd_14 rfl) rfl (by show 2 * 0 + _ ≤ _; exact Nat.le_of_eq rfl) (hb hby d10_7) (fun _ _ => ⟨rfl, e1, (by decide : 0 + 0 ≤ _), (by decide : 0 + 0 ≤ _)⟩))
  obtain ⟨rfl, N2q, r2_0⟩ := hQ2
  have N2 := Fr.app N0 N2q
  refine OGo.via (fun _ k => st2.trans k) ?_
  show OGo _ _ _ _ (T2.setTop (mkF m 10 #[.val (.ref a1), .unset] [(.int (own_ix y1 y2 (0 : Int32)))]))
  rw [show (own_ix y1 y2 (0 : Int32)) = (2 : Int32) from by rw [own_ix, if_neg hy1, if_pos hy2]]
  show OGo _ _ _ _ (T2.setTop (mkF m 10 #[.val (.ref a1), .unset] [(.int (2 : Int32))]))
  refine OGo.via (fun _ k => XS.istoreN X2.here hx rfl (hb hby d10_10) rfl (l' := #[.val (.ref a1), .val (.int (2 : Int32))]) rfl (XS.aloadN X2.here hx rfl (hb hby d10_11) rfl rfl k)) ?_
  obtain ⟨T3, X3, e3, st3⟩ := getF X2 hx hZ hown (host := "") (Or.inl (own_w hw 46 rfl)) Via.refl r2_0 F_path_a1 (g := (mkF m 12 #[.val (.ref a1), .val (.int (2 : Int32))] [(.ref a1)])) rfl rfl (hb hby d10_12)
  refine OGo.via st3 ?_
  show OGo _ _ _ _ (T3.setTop (mkF m 15 #[.val (.ref a1), .val (.int (2 : Int32))] [(.ref sa)]))
  refine OGo.via (fun _ k => XS.iconst X3.here hx rfl (hb hby d10_15) (XS.iloadN X3.here hx rfl (hb hby d10_16) rfl (XS.ifYes X3.here hx rfl (pc0 := 17) (pc' := 30) rfl (hb hby d10_17) rfl ((if0 _ _).trans (flt (by decide : ¬ ((2 : Int32) < (0 : Int32)))).2.1) (by decide) (by decide) (XS.iloadN X3.here hx rfl (hb hby d10_30) rfl k)))) ?_
  obtain ⟨cq4, kq4, q4a, q4b, q4c⟩ := isOf hZ e3 E_sa
  obtain ⟨_, T4, Lc4, X4, hQ4, st4⟩ := own_open X3 (X3.virtualBack hx (y := own_y23) (z := own_y23) hown (mvT hZ (own_w hw 88 rfl)) (mvT hZ (own_w hw 89 rfl)) (notFace_of_selects (args := #[]) (mvT hZ (own_w hw 91 rfl))) (mvT hZ (own_w hw 91 rfl)) (mvT hZ (own_w hw 90 rfl)) (by decide) (backOf (W := 0) (rm19_3_2 l Z a0 hw [] sa w fm va k1 y0 y1 y2 h0 n0 Z0 E_sa F_value_sa F_coder_sa V_va S_COMPACT_STRINGS S_SIOOBE_FORMATTER hw0 hr_fm) hZ (own_w hw 92 rfl) (own_w hw 10 rfl) (by decide) (by decide)) q4a q4c (g := (mkF m 31 #[.val (.ref a1), .val (.int (2 : Int32))] [(.int (2 : Int32)), (.int (1 : Int32)), (.ref sa)])) rfl (by rw [hml]; rfl) (Steps.refl _) (argsL := [(.int (1 : Int32)), (.int (2 : Int32))]) (rest := []) (lenOf pd_19 rfl) rfl (by show 2 * 0 + _ ≤ _; exact Nat.le_of_eq rfl) (hb hby d10_31) (fun _ _ => ⟨rfl, e3, (by decide : 0 + 2 ≤ _), (by decide : 0 + 5 ≤ _)⟩))
  obtain ⟨rr, vb, kb, rfl, N4q, r4_0, r4_1, r4_2, r4_3, r4_4⟩ := hQ4
  have N4 := Fr.app N2 N4q
  have K4 : Keep h0 T4.heap [] := (Keep.refl h0 []).trans r4_0 all0
  refine OGo.via (fun _ k => st4.trans k) ?_
  show OGo _ _ _ _ (T4.setTop (mkF m 34 #[.val (.ref a1), .val (.int (2 : Int32))] [(.ref rr)]))
  show OGo _ _ _ _ (T4.setTop (mkF m 34 #[.val (.ref a1), .val (.int (2 : Int32))] [(.ref rr)]))
  refine own_retA X4 hx Bd.notSynchronized Bd.returns rfl rfl (hb hby d10_34) (by decide) (by decide) ?_
  show Q_rm10_3_2 Z _ _ _ _ _ _ _ _ _ h0 n0 _ T4.heap _
  exact ⟨rr, vb, kb, rfl, N4, K4, r4_1, r4_2, r4_3, r4_4⟩
theorem ef_rm10_3_3 (m : MethodId) (a1 : Addr) : entryFrame m #[(.ref a1)] 2 = mkF m 0 #[.val (.ref a1), .unset] [] := by
  first | (simp [entryFrame, mkF, argsToLocals, Value.category]; done) | rfl
def Q_rm10_3_3 (Z : State) (a1 : Addr) (w : Int32) (fm : Value) (va : Addr) (k1 : ClassId) (y0 : Int32) (y1 : Int32) (y2 : Int32) (sa : Addr) (h0 : Heap) (n0 : Nat) (v : Option Value) (h : Heap) (L : List Loc) : Prop := ∃ rr : Addr, ∃ vb : Addr, ∃ kb : ClassId, v = some (.ref rr) ∧ Fr n0 L ∧ Keep h0 h [] ∧ Exa Z h rr "java/lang/String" ∧ Fld Z h rr "java/lang/String" "value" "[B" (.ref vb) ∧ Fld Z h rr "java/lang/String" "coder" "B" (.int (0 : Int32)) ∧ Arv Z h vb kb .byte (2 : Int32) [(.int y1), (.int y2)] (.int (0 : Int32))
abbrev R_rm10_3_3 : Room := ⟨5, 2, 6, 80⟩
set_option maxRecDepth 65536 in
set_option maxHeartbeats 40000000 in
theorem rm10_3_3 (l : Launch) (Z : State) (a0 : Array Value) (hw : ∀ d ∈ tables_1, d.before a0 Z = true) (ws : List Jvm.Cond) (a1 : Addr) (w : Int32) (fm : Value) (va : Addr) (k1 : ClassId) (y0 : Int32) (y1 : Int32) (y2 : Int32) (sa : Addr) (h0 : Heap) (n0 : Nat) (Z0 : n0 ≤ h0.size) (E_a1 : Exa Z h0 a1 "com/example/ianus/ianus/server/LiteralPath") (F_path_a1 : Fld Z h0 a1 "com/example/ianus/ianus/server/LiteralPath" "path" "Ljava/lang/String;" (.ref sa)) (E_sa : Exa Z h0 sa "java/lang/String") (F_value_sa : Fld Z h0 sa "java/lang/String" "value" "[B" (.ref va)) (F_coder_sa : Fld Z h0 sa "java/lang/String" "coder" "B" (.int (0 : Int32))) (V_va : Arv Z h0 va k1 .byte (3 : Int32) [(.int y0), (.int y1), (.int y2)] (.int (0 : Int32))) (S_COMPACT_STRINGS : Sta Z h0 "java/lang/String" "COMPACT_STRINGS" "Z" (.int w)) (S_SIOOBE_FORMATTER : Sta Z h0 "jdk/internal/util/Preconditions" "SIOOBE_FORMATTER" "Ljava/util/function/BiFunction;" fm) (hw0 : ¬ w = (0 : Int32)) (hr_fm : fm.isRef = true) (hy1 : ¬ y1 = (47 : Int32)) (hy2 : ¬ y2 = (47 : Int32)) :
    MetFree l own_y28 (head1 (Jvm.Cond.code own_y28 prog_15_method_3_code 2 (some (.object "java/lang/String")) :: ws) R_rm10_3_3) (fun a U => a = #[(.ref a1)] ∧ Z.Warmed39 U.vm ∧ U.heap = h0) (fun _ _ _ _ _ => True) (fun _ U o U' => ∃ v L, o = .returned v ∧ Q_rm10_3_3 Z a1 w fm va k1 y0 y1 y2 sa h0 n0 v U'.heap L ∧ FrameEnd U o U' L R_rm10_3_3.cells R_rm10_3_3.slots) := by
  refine MetFree.of_bodySF (plainFor_of_name pn_LiteralPath) hisR ?_
  intro p e s m args below meth c s₁ Bd hml0 hP hK
  obtain ⟨rfl, hZ, hh⟩ := hP
  have hx := Bd.exec
  have hby := Bd.bytes
  have hml : c.maxLocals = 2 := hml0
  have hown : s.vm.findClass "com/example/ianus/ianus/server/LiteralPath" = some m.cls := findClass_of_methodNamed Bd.named
  have hnm := (name_of_methodNamed Bd.named Bd.method).1
  have X0 : Stand p l e R_rm10_3_3 s m #[(.ref a1)] below meth c s₁ [] 0 0 := Stand.of_body Bd
  have e0 : s₁.heap = h0 := by rw [← hh, Bd.state]; rfl
  have N0 := Fr.nil n0
  show OGo p.tables e below (own_Kq s (fun v h L => Q_rm10_3_3 Z a1 w fm va k1 y0 y1 y2 sa h0 n0 v h L) R_rm10_3_3.cells R_rm10_3_3.slots) (s₁.setTop (entryFrame m #[(.ref a1)] 2))
  refine OGo.cast (ef_rm10_3_3 m a1) ?_
  show OGo _ _ _ _ (s₁.setTop (mkF m 0 #[.val (.ref a1), .unset] []))
  refine OGo.via (fun _ k => XS.aloadN X0.here hx rfl (hb hby d10_0) rfl rfl k) ?_
  obtain ⟨T1, X1, e1, st1⟩ := getF X0 hx hZ hown (host := "") (Or.inl (own_w hw 46 rfl)) Via.refl e0 F_path_a1 (g := (mkF m 1 #[.val (.ref a1), .unset] [(.ref a1)])) rfl rfl (hb hby d10_1)
  refine OGo.via st1 ?_
  show OGo _ _ _ _ (T1.setTop (mkF m 4 #[.val (.ref a1), .unset] [(.ref sa)]))
  refine OGo.via (fun _ k => XS.bipush X1.here hx rfl (hb hby d10_4) (XS.iconst X1.here hx rfl (hb hby d10_6) k)) ?_
  obtain ⟨cq2, kq2, q2a, q2b, q2c⟩ := isOf hZ e1 E_sa
  obtain ⟨_, T2, Lc2, X2, hQ2, st2⟩ := own_open X1 (X1.virtualBack hx (y := own_y27) (z := own_y27) hown (mvT hZ (own_w hw 53 rfl)) (mvT hZ (own_w hw 54 rfl)) (notFace_of_selects (args := #[]) (mvT hZ (own_w hw 56 rfl))) (mvT hZ (own_w hw 56 rfl)) (mvT hZ (own_w hw 55 rfl)) (by decide) (backOf (W := 0) (rm11_3 l Z a0 hw [] sa w fm va k1 y0 y1 y2 h0 n0 Z0 E_sa F_value_sa F_coder_sa V_va S_COMPACT_STRINGS S_SIOOBE_FORMATTER hw0) hZ (own_w hw 57 rfl) (own_w hw 10 rfl) (by decide) (by decide)) q2a q2c (g := (mkF m 7 #[.val (.ref a1), .unset] [(.int (1 : Int32)), (.int (47 : Int32)), (.ref sa)])) rfl (by rw [hml]; rfl) (Steps.refl _) (argsL := [(.int (47 : Int32)), (.int (1 : Int32))]) (rest := []) (lenOf pd_14 rfl) rfl (by show 2 * 0 + _ ≤ _; exact Nat.le_of_eq rfl) (hb hby d10_7) (fun _ _ => ⟨rfl, e1, (by decide : 0 + 0 ≤ _), (by decide : 0 + 0 ≤ _)⟩))
  obtain ⟨rfl, N2q, r2_0⟩ := hQ2
  have N2 := Fr.app N0 N2q
  refine OGo.via (fun _ k => st2.trans k) ?_
  show OGo _ _ _ _ (T2.setTop (mkF m 10 #[.val (.ref a1), .unset] [(.int (own_ix y1 y2 (0 : Int32)))]))
  rw [show (own_ix y1 y2 (0 : Int32)) = (-1 : Int32) from by rw [own_ix, if_neg hy1, if_neg hy2, if_neg (by decide)]]
  show OGo _ _ _ _ (T2.setTop (mkF m 10 #[.val (.ref a1), .unset] [(.int (-1 : Int32))]))
  refine OGo.via (fun _ k => XS.istoreN X2.here hx rfl (hb hby d10_10) rfl (l' := #[.val (.ref a1), .val (.int (-1 : Int32))]) rfl (XS.aloadN X2.here hx rfl (hb hby d10_11) rfl rfl k)) ?_
  obtain ⟨T3, X3, e3, st3⟩ := getF X2 hx hZ hown (host := "") (Or.inl (own_w hw 46 rfl)) Via.refl r2_0 F_path_a1 (g := (mkF m 12 #[.val (.ref a1), .val (.int (-1 : Int32))] [(.ref a1)])) rfl rfl (hb hby d10_12)
  refine OGo.via st3 ?_
  show OGo _ _ _ _ (T3.setTop (mkF m 15 #[.val (.ref a1), .val (.int (-1 : Int32))] [(.ref sa)]))
  refine OGo.via (fun _ k => XS.iconst X3.here hx rfl (hb hby d10_15) (XS.iloadN X3.here hx rfl (hb hby d10_16) rfl (XS.ifNo X3.here hx rfl (hb hby d10_17) rfl ((if0 _ _).trans (tlt (by decide : (-1 : Int32) < (0 : Int32))).2.1) (XS.aloadN X3.here hx rfl (hb hby d10_20) rfl rfl k)))) ?_
  obtain ⟨T4, X4, e4, st4⟩ := getF X3 hx hZ hown (host := "") (Or.inl (own_w hw 46 rfl)) Via.refl e3 F_path_a1 (g := (mkF m 21 #[.val (.ref a1), .val (.int (-1 : Int32))] [(.ref a1), (.int (1 : Int32)), (.ref sa)])) rfl rfl (hb hby d10_21)
  refine OGo.via st4 ?_
  show OGo _ _ _ _ (T4.setTop (mkF m 24 #[.val (.ref a1), .val (.int (-1 : Int32))] [(.ref sa), (.int (1 : Int32)), (.ref sa)]))
  obtain ⟨cq5, kq5, q5a, q5b, q5c⟩ := isOf hZ e4 E_sa
  obtain ⟨_, T5, Lc5, X5, hQ5, st5⟩ := own_open X4 (X4.virtualBack hx (y := own_y6) (z := own_y6) hown (mvT hZ (own_w hw 87 rfl)) (mvT hZ (own_w hw 64 rfl)) (notFace_of_selects (args := #[]) (mvT hZ (own_w hw 66 rfl))) (mvT hZ (own_w hw 66 rfl)) (mvT hZ (own_w hw 65 rfl)) (by decide) (backOf (W := 2) (rm13 l Z a0 hw [] sa w va k1 [(.int y0), (.int y1), (.int y2)] (3 : Int32) h0 n0 Z0 E_sa F_value_sa F_coder_sa V_va S_COMPACT_STRINGS hw0) hZ (own_w hw 67 rfl) (own_w hw 10 rfl) (by decide) (by decide)) q5a q5c (g := (mkF m 24 #[.val (.ref a1), .val (.int (-1 : Int32))] [(.ref sa), (.int (1 : Int32)), (.ref sa)])) rfl (by rw [hml]; rfl) (Steps.refl _) (argsL := []) (rest := [(.int (1 : Int32)), (.ref sa)]) (lenOf pd_11 rfl) rfl (by show 2 * 0 + _ ≤ _; exact Nat.le_of_eq rfl) (hb hby d10_24) (fun _ _ => ⟨rfl, e4, (by decide : 0 + 0 ≤ _), (by decide : 0 + 0 ≤ _)⟩))
  obtain ⟨rfl, N5q, r5_0⟩ := hQ5
  have N5 := Fr.app N2 N5q
  refine OGo.via (fun _ k => st5.trans k) ?_
  show OGo _ _ _ _ (T5.setTop (mkF m 27 #[.val (.ref a1), .val (.int (-1 : Int32))] [(.int (3 : Int32)), (.int (1 : Int32)), (.ref sa)]))
  refine OGo.via (fun _ k => XS.goto X5.here hx rfl (pc0 := 27) (pc' := 31) rfl (hb hby d10_27) (by decide) (by decide) k) ?_
  obtain ⟨cq6, kq6, q6a, q6b, q6c⟩ := isOf hZ r5_0 E_sa
  obtain ⟨_, T6, Lc6, X6, hQ6, st6⟩ := own_open X5 (X5.virtualBack hx (y := own_y23) (z := own_y23) hown (mvT hZ (own_w hw 88 rfl)) (mvT hZ (own_w hw 89 rfl)) (notFace_of_selects (args := #[]) (mvT hZ (own_w hw 91 rfl))) (mvT hZ (own_w hw 91 rfl)) (mvT hZ (own_w hw 90 rfl)) (by decide) (backOf (W := 0) (rm19_3_3 l Z a0 hw [] sa w fm va k1 y0 y1 y2 h0 n0 Z0 E_sa F_value_sa F_coder_sa V_va S_COMPACT_STRINGS S_SIOOBE_FORMATTER hw0 hr_fm) hZ (own_w hw 92 rfl) (own_w hw 10 rfl) (by decide) (by decide)) q6a q6c (g := (mkF m 31 #[.val (.ref a1), .val (.int (-1 : Int32))] [(.int (3 : Int32)), (.int (1 : Int32)), (.ref sa)])) rfl (by rw [hml]; rfl) (Steps.refl _) (argsL := [(.int (1 : Int32)), (.int (3 : Int32))]) (rest := []) (lenOf pd_19 rfl) rfl (by show 2 * 0 + _ ≤ _; exact Nat.le_of_eq rfl) (hb hby d10_31) (fun _ _ => ⟨rfl, r5_0, (by decide : 0 + 2 ≤ _), (by decide : 0 + 6 ≤ _)⟩))
  obtain ⟨rr, vb, kb, rfl, N6q, r6_0, r6_1, r6_2, r6_3, r6_4⟩ := hQ6
  have N6 := Fr.app N5 N6q
  have K6 : Keep h0 T6.heap [] := (Keep.refl h0 []).trans r6_0 all0
  refine OGo.via (fun _ k => st6.trans k) ?_
  show OGo _ _ _ _ (T6.setTop (mkF m 34 #[.val (.ref a1), .val (.int (-1 : Int32))] [(.ref rr)]))
  show OGo _ _ _ _ (T6.setTop (mkF m 34 #[.val (.ref a1), .val (.int (-1 : Int32))] [(.ref rr)]))
  refine own_retA X6 hx Bd.notSynchronized Bd.returns rfl rfl (hb hby d10_34) (by decide) (by decide) ?_
  show Q_rm10_3_3 Z _ _ _ _ _ _ _ _ _ h0 n0 _ T6.heap _
  exact ⟨rr, vb, kb, rfl, N6, K6, r6_1, r6_2, r6_3, r6_4⟩
theorem ef_rm23_4 (m : MethodId) (a1 : Addr) : entryFrame m #[(.ref a1), (.int (47 : Int32)), (.int (1 : Int32)), (.int (4 : Int32))] 6 = mkF m 0 #[.val (.ref a1), .val (.int (47 : Int32)), .val (.int (1 : Int32)), .val (.int (4 : Int32)), .unset, .unset] [] := by
  first | (simp [entryFrame, mkF, argsToLocals, Value.category]; done) | rfl
def Q_rm23_4 (Z : State) (a1 : Addr) (k1 : ClassId) (y0 : Int32) (y1 : Int32) (y2 : Int32) (y3 : Int32) (h0 : Heap) (n0 : Nat) (v : Option Value) (h : Heap) (L : List Loc) : Prop := v = some (.int (own_ix y1 y2 y3)) ∧ Fr n0 L ∧ h = h0
abbrev R_rm23_4 : Room := ⟨0, 0, 0, 0⟩
set_option maxRecDepth 65536 in
set_option maxHeartbeats 40000000 in
theorem rm23_4 (l : Launch) (Z : State) (a0 : Array Value) (hw : ∀ d ∈ tables_1, d.before a0 Z = true) (ws : List Jvm.Cond) (a1 : Addr) (k1 : ClassId) (y0 : Int32) (y1 : Int32) (y2 : Int32) (y3 : Int32) (h0 : Heap) (n0 : Nat) (Z0 : n0 ≤ h0.size) (V_a1 : Arv Z h0 a1 k1 .byte (4 : Int32) [(.int y0), (.int y1), (.int y2), (.int y3)] (.int (0 : Int32))) :
    MetFree l own_y29 (head1 (Jvm.Cond.code own_y29 jdk_43_method_23_code 6 (some .int) :: ws) R_rm23_4) (fun a U => a = #[(.ref a1), (.int (47 : Int32)), (.int (1 : Int32)), (.int (4 : Int32))] ∧ Z.Warmed39 U.vm ∧ U.heap = h0) (fun _ _ _ _ _ => True) (fun _ U o U' => ∃ v L, o = .returned v ∧ Q_rm23_4 Z a1 k1 y0 y1 y2 y3 h0 n0 v U'.heap L ∧ FrameEnd U o U' L R_rm23_4.cells R_rm23_4.slots) := by
  refine MetFree.of_bodySF (plainFor_of_name pn_StringLatin1) hisR ?_
  intro p e s m args below meth c s₁ Bd hml0 hP hK
  obtain ⟨rfl, hZ, hh⟩ := hP
  have hx := Bd.exec
  have hby := Bd.bytes
  have hml : c.maxLocals = 6 := hml0
  have hown : s.vm.findClass "java/lang/StringLatin1" = some m.cls := findClass_of_methodNamed Bd.named
  have hnm := (name_of_methodNamed Bd.named Bd.method).1
  have X0 : Stand p l e R_rm23_4 s m #[(.ref a1), (.int (47 : Int32)), (.int (1 : Int32)), (.int (4 : Int32))] below meth c s₁ [] 0 0 := Stand.of_body Bd
  have e0 : s₁.heap = h0 := by rw [← hh, Bd.state]; rfl
  have N0 := Fr.nil n0
  show OGo p.tables e below (own_Kq s (fun v h L => Q_rm23_4 Z a1 k1 y0 y1 y2 y3 h0 n0 v h L) R_rm23_4.cells R_rm23_4.slots) (s₁.setTop (entryFrame m #[(.ref a1), (.int (47 : Int32)), (.int (1 : Int32)), (.int (4 : Int32))] 6))
  refine OGo.cast (ef_rm23_4 m a1) ?_
  show OGo _ _ _ _ (s₁.setTop (mkF m 0 #[.val (.ref a1), .val (.int (47 : Int32)), .val (.int (1 : Int32)), .val (.int (4 : Int32)), .unset, .unset] []))
  refine OGo.via (fun _ k => XS.iloadN X0.here hx rfl (hb hby d23_0) rfl (XS.i2b X0.here hx rfl (hb hby d23_1) rfl k)) ?_
  show OGo _ _ _ _ (s₁.setTop (mkF m 2 #[.val (.ref a1), .val (.int (47 : Int32)), .val (.int (1 : Int32)), .val (.int (4 : Int32)), .unset, .unset] [(.int ((47 : Int32).toInt8.toInt32))]))
  rw [show ((47 : Int32).toInt8.toInt32) = (47 : Int32) from by decide]
  refine OGo.via (fun _ k => XS.istore X0.here hx rfl (hb hby d23_2) rfl (l' := #[.val (.ref a1), .val (.int (47 : Int32)), .val (.int (1 : Int32)), .val (.int (4 : Int32)), .val (.int (47 : Int32)), .unset]) rfl (XS.iloadN X0.here hx rfl (hb hby d23_4) rfl (XS.istore X0.here hx rfl (hb hby d23_5) rfl (l' := #[.val (.ref a1), .val (.int (47 : Int32)), .val (.int (1 : Int32)), .val (.int (4 : Int32)), .val (.int (47 : Int32)), .val (.int (1 : Int32))]) rfl (XS.iload X0.here hx rfl (hb hby d23_7) rfl (XS.iloadN X0.here hx rfl (hb hby d23_9) rfl (XS.icmpNo X0.here hx rfl (hb hby d23_10) rfl (tlt (by decide : (1 : Int32) < (4 : Int32))).2.1 (XS.aloadN X0.here hx rfl (hb hby d23_13) rfl rfl (XS.iload X0.here hx rfl (hb hby d23_14) rfl k)))))))) ?_
  show OGo _ _ _ _ (s₁.setTop (mkF m 16 #[.val (.ref a1), .val (.int (47 : Int32)), .val (.int (1 : Int32)), .val (.int (4 : Int32)), .val (.int (47 : Int32)), .val (.int (1 : Int32))] [(.int (1 : Int32)), (.ref a1)]))
  obtain ⟨cl2, Ar2, q2, Sz2, Ng2, Hs2, Gf2⟩ := id V_a1
  have hin2 : ¬ ((1 : Int32) < 0 ∨ cl2.slots.size ≤ ((1 : Int32)).toNatClampNeg) := inb_of Sz2 ⟨by decide, by decide⟩
  have hat2 : cl2.slots[((1 : Int32)).toNatClampNeg]? = some (.int y1) := Hs2.at hin2 rfl
  refine OGo.via (X0.baloadBytes hx (j := (1 : Int32)) (v := (.int y1)) (by rw [e0]; exact Ar2.1) (State.isArrayOf_alike hZ.alike Ar2.2.1) Ar2.2.2 hin2 hat2 (g := (mkF m 16 #[.val (.ref a1), .val (.int (47 : Int32)), .val (.int (1 : Int32)), .val (.int (4 : Int32)), .val (.int (47 : Int32)), .val (.int (1 : Int32))] [(.int (1 : Int32)), (.ref a1)])) rfl rfl (hb hby d23_16)) ?_
  show OGo _ _ _ _ (s₁.setTop (mkF m 17 #[.val (.ref a1), .val (.int (47 : Int32)), .val (.int (1 : Int32)), .val (.int (4 : Int32)), .val (.int (47 : Int32)), .val (.int (1 : Int32))] [(.int y1)]))
  refine OGo.via (fun _ k => XS.iload X0.here hx rfl (hb hby d23_17) rfl k) ?_
  by_cases hc19_3 : y1 = (47 : Int32)
  · refine OGo.via (fun _ k => XS.icmpNo X0.here hx rfl (hb hby d23_19) rfl (teq hc19_3).2 (XS.iload X0.here hx rfl (hb hby d23_22) rfl k)) ?_
    show OGo _ _ _ _ (s₁.setTop (mkF m 24 #[.val (.ref a1), .val (.int (47 : Int32)), .val (.int (1 : Int32)), .val (.int (4 : Int32)), .val (.int (47 : Int32)), .val (.int (1 : Int32))] [(.int (1 : Int32))]))
    refine own_retI X0 hx Bd.notSynchronized Bd.returns (hb hby d23_24) (by decide) (by decide) ?_
    show Q_rm23_4 Z _ _ _ _ _ _ h0 n0 _ s₁.heap _
    exact ⟨(by rw [own_ix, if_pos hc19_3]), N0, e0⟩
  · refine OGo.via (fun _ k => XS.icmpYes X0.here hx rfl (pc0 := 19) (pc' := 25) rfl (hb hby d23_19) rfl (feq hc19_3).2 (by decide) (by decide) (XS.iinc X0.here hx rfl (hb hby d23_25) rfl (l' := #[.val (.ref a1), .val (.int (47 : Int32)), .val (.int (1 : Int32)), .val (.int (4 : Int32)), .val (.int (47 : Int32)), .val (.int ((1 : Int32) + (1 : Int32)))]) rfl k)) ?_
    show OGo _ _ _ _ (s₁.setTop (mkF m 28 #[.val (.ref a1), .val (.int (47 : Int32)), .val (.int (1 : Int32)), .val (.int (4 : Int32)), .val (.int (47 : Int32)), .val (.int ((1 : Int32) + (1 : Int32)))] []))
    rw [show ((1 : Int32) + (1 : Int32)) = (2 : Int32) from by decide]
    refine OGo.via (fun _ k => XS.goto X0.here hx rfl (pc0 := 28) (pc' := 7) rfl (hb hby d23_28) (by decide) (by decide) (XS.iload X0.here hx rfl (hb hby d23_7) rfl (XS.iloadN X0.here hx rfl (hb hby d23_9) rfl (XS.icmpNo X0.here hx rfl (hb hby d23_10) rfl (tlt (by decide : (2 : Int32) < (4 : Int32))).2.1 (XS.aloadN X0.here hx rfl (hb hby d23_13) rfl rfl (XS.iload X0.here hx rfl (hb hby d23_14) rfl k)))))) ?_
    obtain ⟨cl5, Ar5, q5, Sz5, Ng5, Hs5, Gf5⟩ := id V_a1
    have hin5 : ¬ ((2 : Int32) < 0 ∨ cl5.slots.size ≤ ((2 : Int32)).toNatClampNeg) := inb_of Sz5 ⟨by decide, by decide⟩
    have hat5 : cl5.slots[((2 : Int32)).toNatClampNeg]? = some (.int y2) := Hs5.at hin5 rfl
    refine OGo.via (X0.baloadBytes hx (j := (2 : Int32)) (v := (.int y2)) (by rw [e0]; exact Ar5.1) (State.isArrayOf_alike hZ.alike Ar5.2.1) Ar5.2.2 hin5 hat5 (g := (mkF m 16 #[.val (.ref a1), .val (.int (47 : Int32)), .val (.int (1 : Int32)), .val (.int (4 : Int32)), .val (.int (47 : Int32)), .val (.int (2 : Int32))] [(.int (2 : Int32)), (.ref a1)])) rfl rfl (hb hby d23_16)) ?_
    show OGo _ _ _ _ (s₁.setTop (mkF m 17 #[.val (.ref a1), .val (.int (47 : Int32)), .val (.int (1 : Int32)), .val (.int (4 : Int32)), .val (.int (47 : Int32)), .val (.int (2 : Int32))] [(.int y2)]))
    refine OGo.via (fun _ k => XS.iload X0.here hx rfl (hb hby d23_17) rfl k) ?_
    by_cases hc19_6 : y2 = (47 : Int32)
    · refine OGo.via (fun _ k => XS.icmpNo X0.here hx rfl (hb hby d23_19) rfl (teq hc19_6).2 (XS.iload X0.here hx rfl (hb hby d23_22) rfl k)) ?_
      show OGo _ _ _ _ (s₁.setTop (mkF m 24 #[.val (.ref a1), .val (.int (47 : Int32)), .val (.int (1 : Int32)), .val (.int (4 : Int32)), .val (.int (47 : Int32)), .val (.int (2 : Int32))] [(.int (2 : Int32))]))
      refine own_retI X0 hx Bd.notSynchronized Bd.returns (hb hby d23_24) (by decide) (by decide) ?_
      show Q_rm23_4 Z _ _ _ _ _ _ h0 n0 _ s₁.heap _
      exact ⟨(by rw [own_ix, if_neg hc19_3, if_pos hc19_6]), N0, e0⟩
    · refine OGo.via (fun _ k => XS.icmpYes X0.here hx rfl (pc0 := 19) (pc' := 25) rfl (hb hby d23_19) rfl (feq hc19_6).2 (by decide) (by decide) (XS.iinc X0.here hx rfl (hb hby d23_25) rfl (l' := #[.val (.ref a1), .val (.int (47 : Int32)), .val (.int (1 : Int32)), .val (.int (4 : Int32)), .val (.int (47 : Int32)), .val (.int ((2 : Int32) + (1 : Int32)))]) rfl k)) ?_
      show OGo _ _ _ _ (s₁.setTop (mkF m 28 #[.val (.ref a1), .val (.int (47 : Int32)), .val (.int (1 : Int32)), .val (.int (4 : Int32)), .val (.int (47 : Int32)), .val (.int ((2 : Int32) + (1 : Int32)))] []))
      rw [show ((2 : Int32) + (1 : Int32)) = (3 : Int32) from by decide]
      refine OGo.via (fun _ k => XS.goto X0.here hx rfl (pc0 := 28) (pc' := 7) rfl (hb hby d23_28) (by decide) (by decide) (XS.iload X0.here hx rfl (hb hby d23_7) rfl (XS.iloadN X0.here hx rfl (hb hby d23_9) rfl (XS.icmpNo X0.here hx rfl (hb hby d23_10) rfl (tlt (by decide : (3 : Int32) < (4 : Int32))).2.1 (XS.aloadN X0.here hx rfl (hb hby d23_13) rfl rfl (XS.iload X0.here hx rfl (hb hby d23_14) rfl k)))))) ?_
      obtain ⟨cl8, Ar8, q8, Sz8, Ng8, Hs8, Gf8⟩ := id V_a1
      have hin8 : ¬ ((3 : Int32) < 0 ∨ cl8.slots.size ≤ ((3 : Int32)).toNatClampNeg) := inb_of Sz8 ⟨by decide, by decide⟩
      have hat8 : cl8.slots[((3 : Int32)).toNatClampNeg]? = some (.int y3) := Hs8.at hin8 rfl
      refine OGo.via (X0.baloadBytes hx (j := (3 : Int32)) (v := (.int y3)) (by rw [e0]; exact Ar8.1) (State.isArrayOf_alike hZ.alike Ar8.2.1) Ar8.2.2 hin8 hat8 (g := (mkF m 16 #[.val (.ref a1), .val (.int (47 : Int32)), .val (.int (1 : Int32)), .val (.int (4 : Int32)), .val (.int (47 : Int32)), .val (.int (3 : Int32))] [(.int (3 : Int32)), (.ref a1)])) rfl rfl (hb hby d23_16)) ?_
      show OGo _ _ _ _ (s₁.setTop (mkF m 17 #[.val (.ref a1), .val (.int (47 : Int32)), .val (.int (1 : Int32)), .val (.int (4 : Int32)), .val (.int (47 : Int32)), .val (.int (3 : Int32))] [(.int y3)]))
      refine OGo.via (fun _ k => XS.iload X0.here hx rfl (hb hby d23_17) rfl k) ?_
      by_cases hc19_9 : y3 = (47 : Int32)
      · refine OGo.via (fun _ k => XS.icmpNo X0.here hx rfl (hb hby d23_19) rfl (teq hc19_9).2 (XS.iload X0.here hx rfl (hb hby d23_22) rfl k)) ?_
        show OGo _ _ _ _ (s₁.setTop (mkF m 24 #[.val (.ref a1), .val (.int (47 : Int32)), .val (.int (1 : Int32)), .val (.int (4 : Int32)), .val (.int (47 : Int32)), .val (.int (3 : Int32))] [(.int (3 : Int32))]))
        refine own_retI X0 hx Bd.notSynchronized Bd.returns (hb hby d23_24) (by decide) (by decide) ?_
        show Q_rm23_4 Z _ _ _ _ _ _ h0 n0 _ s₁.heap _
        exact ⟨(by rw [own_ix, if_neg hc19_3, if_neg hc19_6, if_pos hc19_9]), N0, e0⟩
      · refine OGo.via (fun _ k => XS.icmpYes X0.here hx rfl (pc0 := 19) (pc' := 25) rfl (hb hby d23_19) rfl (feq hc19_9).2 (by decide) (by decide) (XS.iinc X0.here hx rfl (hb hby d23_25) rfl (l' := #[.val (.ref a1), .val (.int (47 : Int32)), .val (.int (1 : Int32)), .val (.int (4 : Int32)), .val (.int (47 : Int32)), .val (.int ((3 : Int32) + (1 : Int32)))]) rfl k)) ?_
        show OGo _ _ _ _ (s₁.setTop (mkF m 28 #[.val (.ref a1), .val (.int (47 : Int32)), .val (.int (1 : Int32)), .val (.int (4 : Int32)), .val (.int (47 : Int32)), .val (.int ((3 : Int32) + (1 : Int32)))] []))
        rw [show ((3 : Int32) + (1 : Int32)) = (4 : Int32) from by decide]
        refine OGo.via (fun _ k => XS.goto X0.here hx rfl (pc0 := 28) (pc' := 7) rfl (hb hby d23_28) (by decide) (by decide) (XS.iload X0.here hx rfl (hb hby d23_7) rfl (XS.iloadN X0.here hx rfl (hb hby d23_9) rfl (XS.icmpYes X0.here hx rfl (pc0 := 10) (pc' := 31) rfl (hb hby d23_10) rfl (flt (by decide : ¬ ((4 : Int32) < (4 : Int32)))).2.1 (by decide) (by decide) (XS.iconst X0.here hx rfl (hb hby d23_31) k))))) ?_
        show OGo _ _ _ _ (s₁.setTop (mkF m 32 #[.val (.ref a1), .val (.int (47 : Int32)), .val (.int (1 : Int32)), .val (.int (4 : Int32)), .val (.int (47 : Int32)), .val (.int (4 : Int32))] [(.int (-1 : Int32))]))
        refine own_retI X0 hx Bd.notSynchronized Bd.returns (hb hby d23_32) (by decide) (by decide) ?_
        show Q_rm23_4 Z _ _ _ _ _ _ h0 n0 _ s₁.heap _
        exact ⟨(by rw [own_ix, if_neg hc19_3, if_neg hc19_6, if_neg hc19_9]), N0, e0⟩
theorem ef_rm15_4 (m : MethodId) (a1 : Addr) : entryFrame m #[(.ref a1), (.int (47 : Int32)), (.int (1 : Int32)), (.int (4 : Int32))] 4 = mkF m 0 #[.val (.ref a1), .val (.int (47 : Int32)), .val (.int (1 : Int32)), .val (.int (4 : Int32))] [] := by
  first | (simp [entryFrame, mkF, argsToLocals, Value.category]; done) | rfl
def Q_rm15_4 (Z : State) (a1 : Addr) (k1 : ClassId) (y0 : Int32) (y1 : Int32) (y2 : Int32) (y3 : Int32) (h0 : Heap) (n0 : Nat) (v : Option Value) (h : Heap) (L : List Loc) : Prop := v = some (.int (own_ix y1 y2 y3)) ∧ Fr n0 L ∧ h = h0
abbrev R_rm15_4 : Room := ⟨1, 0, 0, 17⟩
set_option maxRecDepth 65536 in
set_option maxHeartbeats 40000000 in
theorem rm15_4 (l : Launch) (Z : State) (a0 : Array Value) (hw : ∀ d ∈ tables_1, d.before a0 Z = true) (ws : List Jvm.Cond) (a1 : Addr) (k1 : ClassId) (y0 : Int32) (y1 : Int32) (y2 : Int32) (y3 : Int32) (h0 : Heap) (n0 : Nat) (Z0 : n0 ≤ h0.size) (V_a1 : Arv Z h0 a1 k1 .byte (4 : Int32) [(.int y0), (.int y1), (.int y2), (.int y3)] (.int (0 : Int32))) :
    MetFree l own_y26 (head1 (Jvm.Cond.code own_y26 jdk_43_method_22_code 4 (some .int) :: ws) R_rm15_4) (fun a U => a = #[(.ref a1), (.int (47 : Int32)), (.int (1 : Int32)), (.int (4 : Int32))] ∧ Z.Warmed39 U.vm ∧ U.heap = h0) (fun _ _ _ _ _ => True) (fun _ U o U' => ∃ v L, o = .returned v ∧ Q_rm15_4 Z a1 k1 y0 y1 y2 y3 h0 n0 v U'.heap L ∧ FrameEnd U o U' L R_rm15_4.cells R_rm15_4.slots) := by
  refine MetFree.of_bodySF (plainFor_of_name pn_StringLatin1) hisR ?_
  intro p e s m args below meth c s₁ Bd hml0 hP hK
  obtain ⟨rfl, hZ, hh⟩ := hP
  have hx := Bd.exec
  have hby := Bd.bytes
  have hml : c.maxLocals = 4 := hml0
  have hown : s.vm.findClass "java/lang/StringLatin1" = some m.cls := findClass_of_methodNamed Bd.named
  have hnm := (name_of_methodNamed Bd.named Bd.method).1
  have X0 : Stand p l e R_rm15_4 s m #[(.ref a1), (.int (47 : Int32)), (.int (1 : Int32)), (.int (4 : Int32))] below meth c s₁ [] 0 0 := Stand.of_body Bd
  have e0 : s₁.heap = h0 := by rw [← hh, Bd.state]; rfl
  have N0 := Fr.nil n0
  show OGo p.tables e below (own_Kq s (fun v h L => Q_rm15_4 Z a1 k1 y0 y1 y2 y3 h0 n0 v h L) R_rm15_4.cells R_rm15_4.slots) (s₁.setTop (entryFrame m #[(.ref a1), (.int (47 : Int32)), (.int (1 : Int32)), (.int (4 : Int32))] 4))
  refine OGo.cast (ef_rm15_4 m a1) ?_
  show OGo _ _ _ _ (s₁.setTop (mkF m 0 #[.val (.ref a1), .val (.int (47 : Int32)), .val (.int (1 : Int32)), .val (.int (4 : Int32))] []))
  refine OGo.via (fun _ k => XS.iloadN X0.here hx rfl (hb hby d15_0) rfl k) ?_
  obtain ⟨_, T1, Lc1, X1, hQ1, st1⟩ := own_open X0 (Jvm.LawKit.callS X0 hx (y := own_y3) hown (mvT hZ (own_w hw 77 rfl)) (mvT hZ (own_w hw 78 rfl)) (mvT hZ (own_w hw 75 rfl)) (mvT hZ (own_w hw 79 rfl)) (by decide) (backOf (W := 0) (rm16 l Z a0 hw []  h0 n0 Z0) hZ (own_w hw 79 rfl) (own_w hw 75 rfl) (by decide) (by decide)) (g := (mkF m 1 #[.val (.ref a1), .val (.int (47 : Int32)), .val (.int (1 : Int32)), .val (.int (4 : Int32))] [(.int (47 : Int32))])) rfl (by rw [hml]; rfl) (argsL := [(.int (47 : Int32))]) (rest := []) (lenOf pd_17 rfl) rfl (by show 2 * 0 + _ ≤ _; exact Nat.le_of_eq rfl) (hb hby d15_1) (fun _ _ => ⟨rfl, e0, (by decide : 0 + 0 ≤ _), (by decide : 0 + 0 ≤ _)⟩))
  obtain ⟨rfl, N1q, r1_0⟩ := hQ1
  have N1 := Fr.app N0 N1q
  refine OGo.via st1 ?_
  show OGo _ _ _ _ (T1.setTop (mkF m 4 #[.val (.ref a1), .val (.int (47 : Int32)), .val (.int (1 : Int32)), .val (.int (4 : Int32))] [(.int (1 : Int32))]))
  refine OGo.via (fun _ k => XS.ifYes X1.here hx rfl (pc0 := 4) (pc' := 9) rfl (hb hby d15_4) rfl ((if0 _ _).trans (feq (by decide : ¬ ((1 : Int32) = (0 : Int32)))).2) (by decide) (by decide) (XS.iloadN X1.here hx rfl (hb hby d15_9) rfl (XS.iconst X1.here hx rfl (hb hby d15_10) k))) ?_
  obtain ⟨_, T2, Lc2, X2, hQ2, st2⟩ := own_open X1 (Jvm.LawKit.callS X1 hx (y := own_y1) hown (mvT hZ (own_w hw 80 rfl)) (mvT hZ (own_w hw 81 rfl)) (mvT hZ (own_w hw 82 rfl)) (mvT hZ (own_w hw 83 rfl)) (by decide) (backOf (W := 0) (rm17 l Z a0 hw [] (1 : Int32) (0 : Int32) h0 n0 Z0) hZ (own_w hw 83 rfl) (own_w hw 82 rfl) (by decide) (by decide)) (g := (mkF m 11 #[.val (.ref a1), .val (.int (47 : Int32)), .val (.int (1 : Int32)), .val (.int (4 : Int32))] [(.int (0 : Int32)), (.int (1 : Int32))])) rfl (by rw [hml]; rfl) (argsL := [(.int (1 : Int32)), (.int (0 : Int32))]) (rest := []) (lenOf pd_14 rfl) rfl (by show 2 * 0 + _ ≤ _; exact Nat.le_of_eq rfl) (hb hby d15_11) (fun _ _ => ⟨rfl, r1_0, (by decide : 0 + 0 ≤ _), (by decide : 0 + 0 ≤ _)⟩))
  obtain ⟨rfl, N2q, r2_0⟩ := hQ2
  have N2 := Fr.app N1 N2q
  refine OGo.via st2 ?_
  show OGo _ _ _ _ (T2.setTop (mkF m 14 #[.val (.ref a1), .val (.int (47 : Int32)), .val (.int (1 : Int32)), .val (.int (4 : Int32))] [(.int (if (1 : Int32) < (0 : Int32) then (0 : Int32) else (1 : Int32)))]))
  rw [show (if (1 : Int32) < (0 : Int32) then (0 : Int32) else (1 : Int32)) = (1 : Int32) from by decide]
  show OGo _ _ _ _ (T2.setTop (mkF m 14 #[.val (.ref a1), .val (.int (47 : Int32)), .val (.int (1 : Int32)), .val (.int (4 : Int32))] [(.int (1 : Int32))]))
  refine OGo.via (fun _ k => XS.istoreN X2.here hx rfl (hb hby d15_14) rfl (l' := #[.val (.ref a1), .val (.int (47 : Int32)), .val (.int (1 : Int32)), .val (.int (4 : Int32))]) rfl (XS.iloadN X2.here hx rfl (hb hby d15_15) rfl (XS.aloadN X2.here hx rfl (hb hby d15_16) rfl rfl k))) ?_
  obtain ⟨cl3, Ar3, q3, Sz3, Ng3, Hs3, Gf3⟩ := id V_a1
  refine OGo.via (X2.arraylength hx (by rw [r2_0]; exact Ar3.1) (State.isArrayOf_alike hZ.alike Ar3.2.1) (g := (mkF m 17 #[.val (.ref a1), .val (.int (47 : Int32)), .val (.int (1 : Int32)), .val (.int (4 : Int32))] [(.ref a1), (.int (4 : Int32))])) rfl rfl (hb hby d15_17)) ?_
  rw [len_of Sz3 Ng3]
  show OGo _ _ _ _ (T2.setTop (mkF m 18 #[.val (.ref a1), .val (.int (47 : Int32)), .val (.int (1 : Int32)), .val (.int (4 : Int32))] [(.int (4 : Int32)), (.int (4 : Int32))]))
  obtain ⟨_, T4, Lc4, X4, hQ4, st4⟩ := own_open X2 (Jvm.LawKit.callS X2 hx (y := own_y2) hown (mvT hZ (own_w hw 84 rfl)) (mvT hZ (own_w hw 85 rfl)) (mvT hZ (own_w hw 82 rfl)) (mvT hZ (own_w hw 86 rfl)) (by decide) (backOf (W := 0) (rm18 l Z a0 hw [] (4 : Int32) (4 : Int32) h0 n0 Z0) hZ (own_w hw 86 rfl) (own_w hw 82 rfl) (by decide) (by decide)) (g := (mkF m 18 #[.val (.ref a1), .val (.int (47 : Int32)), .val (.int (1 : Int32)), .val (.int (4 : Int32))] [(.int (4 : Int32)), (.int (4 : Int32))])) rfl (by rw [hml]; rfl) (argsL := [(.int (4 : Int32)), (.int (4 : Int32))]) (rest := []) (lenOf pd_14 rfl) rfl (by show 2 * 0 + _ ≤ _; exact Nat.le_of_eq rfl) (hb hby d15_18) (fun _ _ => ⟨rfl, r2_0, (by decide : 0 + 0 ≤ _), (by decide : 0 + 0 ≤ _)⟩))
  obtain ⟨rfl, N4q, r4_0⟩ := hQ4
  have N4 := Fr.app N2 N4q
  refine OGo.via st4 ?_
  show OGo _ _ _ _ (T4.setTop (mkF m 21 #[.val (.ref a1), .val (.int (47 : Int32)), .val (.int (1 : Int32)), .val (.int (4 : Int32))] [(.int (if (4 : Int32) < (4 : Int32) then (4 : Int32) else (4 : Int32)))]))
  rw [show (if (4 : Int32) < (4 : Int32) then (4 : Int32) else (4 : Int32)) = (4 : Int32) from by decide]
  show OGo _ _ _ _ (T4.setTop (mkF m 21 #[.val (.ref a1), .val (.int (47 : Int32)), .val (.int (1 : Int32)), .val (.int (4 : Int32))] [(.int (4 : Int32))]))
  refine OGo.via (fun _ k => XS.istoreN X4.here hx rfl (hb hby d15_21) rfl (l' := #[.val (.ref a1), .val (.int (47 : Int32)), .val (.int (1 : Int32)), .val (.int (4 : Int32))]) rfl (XS.iloadN X4.here hx rfl (hb hby d15_22) rfl (XS.iloadN X4.here hx rfl (hb hby d15_23) rfl (XS.icmpYes X4.here hx rfl (pc0 := 24) (pc' := 29) rfl (hb hby d15_24) rfl (tlt (by decide : (1 : Int32) < (4 : Int32))).1 (by decide) (by decide) (XS.aloadN X4.here hx rfl (hb hby d15_29) rfl rfl (XS.iloadN X4.here hx rfl (hb hby d15_30) rfl (XS.iloadN X4.here hx rfl (hb hby d15_31) rfl (XS.iloadN X4.here hx rfl (hb hby d15_32) rfl k)))))))) ?_
  show OGo _ _ _ _ (T4.setTop (mkF m 33 #[.val (.ref a1), .val (.int (47 : Int32)), .val (.int (1 : Int32)), .val (.int (4 : Int32))] [(.int (4 : Int32)), (.int (1 : Int32)), (.int (47 : Int32)), (.ref a1)]))
  obtain ⟨_, T5, Lc5, X5, hQ5, st5⟩ := own_open X4 (Jvm.LawKit.callS X4 hx (y := own_y29) hown (mvT hZ (own_w hw 108 rfl)) (mvT hZ (own_w hw 109 rfl)) (mvT hZ (own_w hw 75 rfl)) (mvT hZ (own_w hw 110 rfl)) (by decide) (backOf (W := 0) (rm23_4 l Z a0 hw [] a1 k1 y0 y1 y2 y3 h0 n0 Z0 V_a1) hZ (own_w hw 110 rfl) (own_w hw 75 rfl) (by decide) (by decide)) (g := (mkF m 33 #[.val (.ref a1), .val (.int (47 : Int32)), .val (.int (1 : Int32)), .val (.int (4 : Int32))] [(.int (4 : Int32)), (.int (1 : Int32)), (.int (47 : Int32)), (.ref a1)])) rfl (by rw [hml]; rfl) (argsL := [(.ref a1), (.int (47 : Int32)), (.int (1 : Int32)), (.int (4 : Int32))]) (rest := []) (lenOf pd_18 rfl) rfl (by show 2 * 0 + _ ≤ _; exact Nat.le_of_eq rfl) (hb hby d15_33) (fun _ _ => ⟨rfl, r4_0, (by decide : 0 + 0 ≤ _), (by decide : 0 + 0 ≤ _)⟩))
  obtain ⟨rfl, N5q, r5_0⟩ := hQ5
  have N5 := Fr.app N4 N5q
  refine OGo.via st5 ?_
  show OGo _ _ _ _ (T5.setTop (mkF m 36 #[.val (.ref a1), .val (.int (47 : Int32)), .val (.int (1 : Int32)), .val (.int (4 : Int32))] [(.int (own_ix y1 y2 y3))]))
  show OGo _ _ _ _ (T5.setTop (mkF m 36 #[.val (.ref a1), .val (.int (47 : Int32)), .val (.int (1 : Int32)), .val (.int (4 : Int32))] [(.int (own_ix y1 y2 y3))]))
  refine own_retI X5 hx Bd.notSynchronized Bd.returns (hb hby d15_36) (by decide) (by decide) ?_
  show Q_rm15_4 Z _ _ _ _ _ _ h0 n0 _ T5.heap _
  exact ⟨rfl, N5, r5_0⟩
theorem ef_rm11_4 (m : MethodId) (a1 : Addr) : entryFrame m #[(.ref a1), (.int (47 : Int32)), (.int (1 : Int32))] 3 = mkF m 0 #[.val (.ref a1), .val (.int (47 : Int32)), .val (.int (1 : Int32))] [] := by
  first | (simp [entryFrame, mkF, argsToLocals, Value.category]; done) | rfl
def Q_rm11_4 (Z : State) (a1 : Addr) (w : Int32) (fm : Value) (va : Addr) (k1 : ClassId) (y0 : Int32) (y1 : Int32) (y2 : Int32) (y3 : Int32) (h0 : Heap) (n0 : Nat) (v : Option Value) (h : Heap) (L : List Loc) : Prop := v = some (.int (own_ix y1 y2 y3)) ∧ Fr n0 L ∧ h = h0
abbrev R_rm11_4 : Room := ⟨2, 0, 0, 32⟩
set_option maxRecDepth 65536 in
set_option maxHeartbeats 40000000 in
theorem rm11_4 (l : Launch) (Z : State) (a0 : Array Value) (hw : ∀ d ∈ tables_1, d.before a0 Z = true) (ws : List Jvm.Cond) (a1 : Addr) (w : Int32) (fm : Value) (va : Addr) (k1 : ClassId) (y0 : Int32) (y1 : Int32) (y2 : Int32) (y3 : Int32) (h0 : Heap) (n0 : Nat) (Z0 : n0 ≤ h0.size) (E_a1 : Exa Z h0 a1 "java/lang/String") (F_value_a1 : Fld Z h0 a1 "java/lang/String" "value" "[B" (.ref va)) (F_coder_a1 : Fld Z h0 a1 "java/lang/String" "coder" "B" (.int (0 : Int32))) (V_va : Arv Z h0 va k1 .byte (4 : Int32) [(.int y0), (.int y1), (.int y2), (.int y3)] (.int (0 : Int32))) (S_COMPACT_STRINGS : Sta Z h0 "java/lang/String" "COMPACT_STRINGS" "Z" (.int w)) (S_SIOOBE_FORMATTER : Sta Z h0 "jdk/internal/util/Preconditions" "SIOOBE_FORMATTER" "Ljava/util/function/BiFunction;" fm) (hw0 : ¬ w = (0 : Int32)) :
    MetFree l own_y27 (head1 (Jvm.Cond.code own_y27 jdk_42_method_80_code 3 (some .int) :: ws) R_rm11_4) (fun a U => a = #[(.ref a1), (.int (47 : Int32)), (.int (1 : Int32))] ∧ Z.Warmed39 U.vm ∧ U.heap = h0) (fun _ _ _ _ _ => True) (fun _ U o U' => ∃ v L, o = .returned v ∧ Q_rm11_4 Z a1 w fm va k1 y0 y1 y2 y3 h0 n0 v U'.heap L ∧ FrameEnd U o U' L R_rm11_4.cells R_rm11_4.slots) := by
  refine MetFree.of_bodySF (plainFor_of_name pn_String) hisR ?_
  intro p e s m args below meth c s₁ Bd hml0 hP hK
  obtain ⟨rfl, hZ, hh⟩ := hP
  have hx := Bd.exec
  have hby := Bd.bytes
  have hml : c.maxLocals = 3 := hml0
  have hown : s.vm.findClass "java/lang/String" = some m.cls := findClass_of_methodNamed Bd.named
  have hnm := (name_of_methodNamed Bd.named Bd.method).1
  have X0 : Stand p l e R_rm11_4 s m #[(.ref a1), (.int (47 : Int32)), (.int (1 : Int32))] below meth c s₁ [] 0 0 := Stand.of_body Bd
  have e0 : s₁.heap = h0 := by rw [← hh, Bd.state]; rfl
  have N0 := Fr.nil n0
  show OGo p.tables e below (own_Kq s (fun v h L => Q_rm11_4 Z a1 w fm va k1 y0 y1 y2 y3 h0 n0 v h L) R_rm11_4.cells R_rm11_4.slots) (s₁.setTop (entryFrame m #[(.ref a1), (.int (47 : Int32)), (.int (1 : Int32))] 3))
  refine OGo.cast (ef_rm11_4 m a1) ?_
  show OGo _ _ _ _ (s₁.setTop (mkF m 0 #[.val (.ref a1), .val (.int (47 : Int32)), .val (.int (1 : Int32))] []))
  refine OGo.via (fun _ k => XS.aloadN X0.here hx rfl (hb hby d11_0) rfl rfl k) ?_
  obtain ⟨cq1, kq1, q1a, q1b, q1c⟩ := isOf hZ e0 E_a1
  obtain ⟨_, T1, Lc1, X1, hQ1, st1⟩ := own_open X0 (X0.virtualBack hx (y := own_y5) (z := own_y5) hown (mvT hZ (own_w hw 58 rfl)) (mvT hZ (own_w hw 59 rfl)) (notFace_of_selects (args := #[]) (mvT hZ (own_w hw 61 rfl))) (mvT hZ (own_w hw 61 rfl)) (mvT hZ (own_w hw 60 rfl)) (by decide) (backOf (W := 0) (rm12 l Z a0 hw [] a1 w va h0 n0 Z0 E_a1 F_value_a1 F_coder_a1 S_COMPACT_STRINGS hw0) hZ (own_w hw 62 rfl) (own_w hw 10 rfl) (by decide) (by decide)) q1a q1c (g := (mkF m 1 #[.val (.ref a1), .val (.int (47 : Int32)), .val (.int (1 : Int32))] [(.ref a1)])) rfl (by rw [hml]; rfl) (Steps.refl _) (argsL := []) (rest := []) (lenOf pd_9 rfl) rfl (by show 2 * 0 + _ ≤ _; exact Nat.le_of_eq rfl) (hb hby d11_1) (fun _ _ => ⟨rfl, e0, (by decide : 0 + 0 ≤ _), (by decide : 0 + 0 ≤ _)⟩))
  obtain ⟨rfl, N1q, r1_0⟩ := hQ1
  have N1 := Fr.app N0 N1q
  refine OGo.via (fun _ k => st1.trans k) ?_
  show OGo _ _ _ _ (T1.setTop (mkF m 4 #[.val (.ref a1), .val (.int (47 : Int32)), .val (.int (1 : Int32))] [(.int (1 : Int32))]))
  refine OGo.via (fun _ k => XS.ifNo X1.here hx rfl (hb hby d11_4) rfl ((if0 _ _).trans (feq (by decide : ¬ ((1 : Int32) = (0 : Int32)))).1) (XS.aloadN X1.here hx rfl (hb hby d11_7) rfl rfl k)) ?_
  obtain ⟨T2, X2, e2, st2⟩ := getF X1 hx hZ hown (host := "") (Or.inl (own_w hw 35 rfl)) Via.refl r1_0 F_value_a1 (g := (mkF m 8 #[.val (.ref a1), .val (.int (47 : Int32)), .val (.int (1 : Int32))] [(.ref a1)])) rfl rfl (hb hby d11_8)
  refine OGo.via st2 ?_
  show OGo _ _ _ _ (T2.setTop (mkF m 11 #[.val (.ref a1), .val (.int (47 : Int32)), .val (.int (1 : Int32))] [(.ref va)]))
  refine OGo.via (fun _ k => XS.iloadN X2.here hx rfl (hb hby d11_11) rfl (XS.iloadN X2.here hx rfl (hb hby d11_12) rfl (XS.aloadN X2.here hx rfl (hb hby d11_13) rfl rfl k))) ?_
  obtain ⟨cq3, kq3, q3a, q3b, q3c⟩ := isOf hZ e2 E_a1
  obtain ⟨_, T3, Lc3, X3, hQ3, st3⟩ := own_open X2 (X2.virtualBack hx (y := own_y6) (z := own_y6) hown (mvT hZ (own_w hw 63 rfl)) (mvT hZ (own_w hw 64 rfl)) (notFace_of_selects (args := #[]) (mvT hZ (own_w hw 66 rfl))) (mvT hZ (own_w hw 66 rfl)) (mvT hZ (own_w hw 65 rfl)) (by decide) (backOf (W := 3) (rm13 l Z a0 hw [] a1 w va k1 [(.int y0), (.int y1), (.int y2), (.int y3)] (4 : Int32) h0 n0 Z0 E_a1 F_value_a1 F_coder_a1 V_va S_COMPACT_STRINGS hw0) hZ (own_w hw 67 rfl) (own_w hw 10 rfl) (by decide) (by decide)) q3a q3c (g := (mkF m 14 #[.val (.ref a1), .val (.int (47 : Int32)), .val (.int (1 : Int32))] [(.ref a1), (.int (1 : Int32)), (.int (47 : Int32)), (.ref va)])) rfl (by rw [hml]; rfl) (Steps.refl _) (argsL := []) (rest := [(.int (1 : Int32)), (.int (47 : Int32)), (.ref va)]) (lenOf pd_11 rfl) rfl (by show 2 * 0 + _ ≤ _; exact Nat.le_of_eq rfl) (hb hby d11_14) (fun _ _ => ⟨rfl, e2, (by decide : 0 + 0 ≤ _), (by decide : 0 + 0 ≤ _)⟩))
  obtain ⟨rfl, N3q, r3_0⟩ := hQ3
  have N3 := Fr.app N1 N3q
  refine OGo.via (fun _ k => st3.trans k) ?_
  show OGo _ _ _ _ (T3.setTop (mkF m 17 #[.val (.ref a1), .val (.int (47 : Int32)), .val (.int (1 : Int32))] [(.int (4 : Int32)), (.int (1 : Int32)), (.int (47 : Int32)), (.ref va)]))
  obtain ⟨_, T4, Lc4, X4, hQ4, st4⟩ := own_open X3 (Jvm.LawKit.callS X3 hx (y := own_y26) hown (mvT hZ (own_w hw 73 rfl)) (mvT hZ (own_w hw 74 rfl)) (mvT hZ (own_w hw 75 rfl)) (mvT hZ (own_w hw 76 rfl)) (by decide) (backOf (W := 0) (rm15_4 l Z a0 hw [] va k1 y0 y1 y2 y3 h0 n0 Z0 V_va) hZ (own_w hw 76 rfl) (own_w hw 75 rfl) (by decide) (by decide)) (g := (mkF m 17 #[.val (.ref a1), .val (.int (47 : Int32)), .val (.int (1 : Int32))] [(.int (4 : Int32)), (.int (1 : Int32)), (.int (47 : Int32)), (.ref va)])) rfl (by rw [hml]; rfl) (argsL := [(.ref va), (.int (47 : Int32)), (.int (1 : Int32)), (.int (4 : Int32))]) (rest := []) (lenOf pd_18 rfl) rfl (by show 2 * 0 + _ ≤ _; exact Nat.le_of_eq rfl) (hb hby d11_17) (fun _ _ => ⟨rfl, r3_0, (by decide : 0 + 0 ≤ _), (by decide : 0 + 0 ≤ _)⟩))
  obtain ⟨rfl, N4q, r4_0⟩ := hQ4
  have N4 := Fr.app N3 N4q
  refine OGo.via st4 ?_
  show OGo _ _ _ _ (T4.setTop (mkF m 20 #[.val (.ref a1), .val (.int (47 : Int32)), .val (.int (1 : Int32))] [(.int (own_ix y1 y2 y3))]))
  refine OGo.via (fun _ k => XS.goto X4.here hx rfl (pc0 := 20) (pc' := 36) rfl (hb hby d11_20) (by decide) (by decide) k) ?_
  show OGo _ _ _ _ (T4.setTop (mkF m 36 #[.val (.ref a1), .val (.int (47 : Int32)), .val (.int (1 : Int32))] [(.int (own_ix y1 y2 y3))]))
  refine own_retI X4 hx Bd.notSynchronized Bd.returns (hb hby d11_36) (by decide) (by decide) ?_
  show Q_rm11_4 Z _ _ _ _ _ _ _ _ _ h0 n0 _ T4.heap _
  exact ⟨rfl, N4, r4_0⟩
theorem ef_rm10_4_1 (m : MethodId) (a1 : Addr) : entryFrame m #[(.ref a1)] 2 = mkF m 0 #[.val (.ref a1), .unset] [] := by
  first | (simp [entryFrame, mkF, argsToLocals, Value.category]; done) | rfl
def Q_rm10_4_1 (Z : State) (a1 : Addr) (w : Int32) (fm : Value) (va : Addr) (k1 : ClassId) (y0 : Int32) (y1 : Int32) (y2 : Int32) (y3 : Int32) (sa : Addr) (h0 : Heap) (n0 : Nat) (v : Option Value) (h : Heap) (L : List Loc) : Prop := ∃ rr : Addr, ∃ vb : Addr, ∃ kb : ClassId, v = some (.ref rr) ∧ Fr n0 L ∧ Keep h0 h [] ∧ Exa Z h rr "java/lang/String" ∧ Fld Z h rr "java/lang/String" "value" "[B" (.ref vb) ∧ Fld Z h rr "java/lang/String" "coder" "B" (.int (0 : Int32)) ∧ Arv Z h vb kb .byte (0 : Int32) [] (.int (0 : Int32))
abbrev R_rm10_4_1 : Room := ⟨3, 2, 4, 46⟩
set_option maxRecDepth 65536 in
set_option maxHeartbeats 40000000 in
theorem rm10_4_1 (l : Launch) (Z : State) (a0 : Array Value) (hw : ∀ d ∈ tables_1, d.before a0 Z = true) (ws : List Jvm.Cond) (a1 : Addr) (w : Int32) (fm : Value) (va : Addr) (k1 : ClassId) (y0 : Int32) (y1 : Int32) (y2 : Int32) (y3 : Int32) (sa : Addr) (h0 : Heap) (n0 : Nat) (Z0 : n0 ≤ h0.size) (E_a1 : Exa Z h0 a1 "com/example/ianus/ianus/server/LiteralPath") (F_path_a1 : Fld Z h0 a1 "com/example/ianus/ianus/server/LiteralPath" "path" "Ljava/lang/String;" (.ref sa)) (E_sa : Exa Z h0 sa "java/lang/String") (F_value_sa : Fld Z h0 sa "java/lang/String" "value" "[B" (.ref va)) (F_coder_sa : Fld Z h0 sa "java/lang/String" "coder" "B" (.int (0 : Int32))) (V_va : Arv Z h0 va k1 .byte (4 : Int32) [(.int y0), (.int y1), (.int y2), (.int y3)] (.int (0 : Int32))) (S_COMPACT_STRINGS : Sta Z h0 "java/lang/String" "COMPACT_STRINGS" "Z" (.int w)) (S_SIOOBE_FORMATTER : Sta Z h0 "jdk/internal/util/Preconditions" "SIOOBE_FORMATTER" "Ljava/util/function/BiFunction;" fm) (hw0 : ¬ w = (0 : Int32)) (hr_fm : fm.isRef = true) (hy1 : y1 = (47 : Int32)) (hold : ∀ (b : Addr) (cl : Cell), Z.heap[b]? = some cl → h0[b]? = some cl) (hhc : Jvm.Lit.constHeld Z "java/lang/StringLatin1" 151) (hcw : Jvm.Lit.compactW.before a0 Z = true) :
    MetFree l own_y28 (head1 (Jvm.Cond.code own_y28 prog_15_method_3_code 2 (some (.object "java/lang/String")) :: ws) R_rm10_4_1) (fun a U => a = #[(.ref a1)] ∧ Z.WarmedH U.vm ∧ U.heap = h0) (fun _ _ _ _ _ => True) (fun _ U o U' => ∃ v L, o = .returned v ∧ Q_rm10_4_1 Z a1 w fm va k1 y0 y1 y2 y3 sa h0 n0 v U'.heap L ∧ ReturnedEndW U o U' L R_rm10_4_1.cells R_rm10_4_1.slots) := by
  refine MetFree.of_bodySF (plainFor_of_name pn_LiteralPath) hisR ?_
  intro p e s m args below meth c s₁ Bd hml0 hP hK
  obtain ⟨rfl, hZH, hh⟩ := hP
  have hZ := hZH.wide
  have hx := Bd.exec
  have hby := Bd.bytes
  have hml : c.maxLocals = 2 := hml0
  have hown : s.vm.findClass "com/example/ianus/ianus/server/LiteralPath" = some m.cls := findClass_of_methodNamed Bd.named
  have hnm := (name_of_methodNamed Bd.named Bd.method).1
  have X0 : Stand p l e R_rm10_4_1 s m #[(.ref a1)] below meth c s₁ [] 0 0 := Stand.of_body Bd
  have e0 : s₁.heap = h0 := by rw [← hh, Bd.state]; rfl
  have N0 := Fr.nil n0
  show OGo p.tables e below (own_KqW s (fun v h L => Q_rm10_4_1 Z a1 w fm va k1 y0 y1 y2 y3 sa h0 n0 v h L) R_rm10_4_1.cells R_rm10_4_1.slots) (s₁.setTop (entryFrame m #[(.ref a1)] 2))
  refine OGo.cast (ef_rm10_4_1 m a1) ?_
  show OGo _ _ _ _ (s₁.setTop (mkF m 0 #[.val (.ref a1), .unset] []))
  refine OGo.via (fun _ k => XS.aloadN X0.here hx rfl (hb hby d10_0) rfl rfl k) ?_
  obtain ⟨T1, X1, e1, st1⟩ := getF X0 hx hZ hown (host := "") (Or.inl (own_w hw 46 rfl)) Via.refl e0 F_path_a1 (g := (mkF m 1 #[.val (.ref a1), .unset] [(.ref a1)])) rfl rfl (hb hby d10_1)
  refine OGo.via st1 ?_
  show OGo _ _ _ _ (T1.setTop (mkF m 4 #[.val (.ref a1), .unset] [(.ref sa)]))
  refine OGo.via (fun _ k => XS.bipush X1.here hx rfl (hb hby d10_4) (XS.iconst X1.here hx rfl (hb hby d10_6) k)) ?_
  obtain ⟨cq2, kq2, q2a, q2b, q2c⟩ := isOf hZ e1 E_sa
  obtain ⟨_, T2, Lc2, X2, hQ2, st2⟩ := own_open X1 (X1.virtualBack hx (y := own_y27) (z := own_y27) hown (mvT hZ (own_w hw 53 rfl)) (mvT hZ (own_w hw 54 rfl)) (notFace_of_selects (args := #[]) (mvT hZ (own_w hw 56 rfl))) (mvT hZ (own_w hw 56 rfl)) (mvT hZ (own_w hw 55 rfl)) (by decide) (backOf (W := 0) (rm11_4 l Z a0 hw [] sa w fm va k1 y0 y1 y2 y3 h0 n0 Z0 E_sa F_value_sa F_coder_sa V_va S_COMPACT_STRINGS S_SIOOBE_FORMATTER hw0) hZ (own_w hw 57 rfl) (own_w hw 10 rfl) (by decide) (by decide)) q2a q2c (g := (mkF m 7 #[.val (.ref a1), .unset] [(.int (1 : Int32)), (.int (47 : Int32)), (.ref sa)])) rfl (by rw [hml]; rfl) (Steps.refl _) (argsL := [(.int (47 : Int32)), (.int (1 : Int32))]) (rest := []) (lenOf pd_14 rfl) rfl (by show 2 * 0 + _ ≤ _; exact Nat.le_of_eq rfl) (hb hby d10_7) (fun _ _ => ⟨rfl, e1, (by decide : 0 + 0 ≤ _), (by decide : 0 + 0 ≤ _)⟩))
  obtain ⟨rfl, N2q, r2_0⟩ := hQ2
  have N2 := Fr.app N0 N2q
  refine OGo.via (fun _ k => st2.trans k) ?_
  show OGo _ _ _ _ (T2.setTop (mkF m 10 #[.val (.ref a1), .unset] [(.int (own_ix y1 y2 y3))]))
  rw [show (own_ix y1 y2 y3) = (1 : Int32) from by rw [own_ix, if_pos hy1]]
  show OGo _ _ _ _ (T2.setTop (mkF m 10 #[.val (.ref a1), .unset] [(.int (1 : Int32))]))
  refine OGo.via (fun _ k => XS.istoreN X2.here hx rfl (hb hby d10_10) rfl (l' := #[.val (.ref a1), .val (.int (1 : Int32))]) rfl (XS.aloadN X2.here hx rfl (hb hby d10_11) rfl rfl k)) ?_
  obtain ⟨T3, X3, e3, st3⟩ := getF X2 hx hZ hown (host := "") (Or.inl (own_w hw 46 rfl)) Via.refl r2_0 F_path_a1 (g := (mkF m 12 #[.val (.ref a1), .val (.int (1 : Int32))] [(.ref a1)])) rfl rfl (hb hby d10_12)
  refine OGo.via st3 ?_
  show OGo _ _ _ _ (T3.setTop (mkF m 15 #[.val (.ref a1), .val (.int (1 : Int32))] [(.ref sa)]))
  refine OGo.via (fun _ k => XS.iconst X3.here hx rfl (hb hby d10_15) (XS.iloadN X3.here hx rfl (hb hby d10_16) rfl (XS.ifYes X3.here hx rfl (pc0 := 17) (pc' := 30) rfl (hb hby d10_17) rfl ((if0 _ _).trans (flt (by decide : ¬ ((1 : Int32) < (0 : Int32)))).2.1) (by decide) (by decide) (XS.iloadN X3.here hx rfl (hb hby d10_30) rfl k)))) ?_
  obtain ⟨cq4, kq4, q4a, q4b, q4c⟩ := isOf hZ e3 E_sa
  obtain ⟨_, T4, Lc4, X4, hSi4, hQ4, st4⟩ := own_openS X3 (X3.virtualBackS hx (y := own_y23) (z := own_y23) hown (mvT hZ (own_w hw 88 rfl)) (mvT hZ (own_w hw 89 rfl)) (notFace_of_selects (args := #[]) (mvT hZ (own_w hw 91 rfl))) (mvT hZ (own_w hw 91 rfl)) (mvT hZ (own_w hw 90 rfl)) (by decide) (own_backOfSH (W := 0) (rm19_4_1 l Z a0 hw [] sa w fm va k1 y0 y1 y2 y3 h0 n0 Z0 E_sa F_value_sa F_coder_sa V_va S_COMPACT_STRINGS S_SIOOBE_FORMATTER hw0 hr_fm hold hhc hcw) hZH (own_w hw 92 rfl) (own_w hw 10 rfl) (by decide) (by decide)) q4a q4c (g := (mkF m 31 #[.val (.ref a1), .val (.int (1 : Int32))] [(.int (1 : Int32)), (.int (1 : Int32)), (.ref sa)])) rfl (by rw [hml]; rfl) (Steps.refl _) (argsL := [(.int (1 : Int32)), (.int (1 : Int32))]) (rest := []) (lenOf pd_19 rfl) rfl (by show 2 * 0 + _ ≤ _; exact Nat.le_of_eq rfl) (hb hby d10_31) (fun _ _ => ⟨rfl, e3, (by decide : 0 + 2 ≤ _), (by decide : 0 + 4 ≤ _)⟩))
  have hZ4 : Z.Warmed39 (s.setVm T4.vm).vm := State.Warmed39.trans hZ hSi4.1
  have hown4 : (s.setVm T4.vm).vm.findClass "com/example/ianus/ianus/server/LiteralPath" = some m.cls := by rw [show (s.setVm T4.vm).vm = T4.vm from rfl, hSi4.1.alike.findClass]; exact hown
  obtain ⟨rr, vb, kb, rfl, N4q, r4_0, r4_1, r4_2, r4_3, r4_4⟩ := hQ4
  have N4 := Fr.app N2 N4q
  have K4 : Keep h0 T4.heap [] := (Keep.refl h0 []).trans r4_0 all0
  refine OGo.via (fun _ k => st4.trans k) ?_
  show OGo _ _ _ _ (T4.setTop (mkF m 34 #[.val (.ref a1), .val (.int (1 : Int32))] [(.ref rr)]))
  show OGo _ _ _ _ (T4.setTop (mkF m 34 #[.val (.ref a1), .val (.int (1 : Int32))] [(.ref rr)]))
  refine own_retAW X4 hSi4 (Nat.le_refl T4.heap.size) hx Bd.notSynchronized Bd.returns rfl rfl (hb hby d10_34) (by decide) (by decide) ?_
  show Q_rm10_4_1 Z _ _ _ _ _ _ _ _ _ _ h0 n0 _ T4.heap _
  exact ⟨rr, vb, kb, rfl, N4, K4, r4_1, r4_2, r4_3, r4_4⟩
theorem ef_rm10_4_2 (m : MethodId) (a1 : Addr) : entryFrame m #[(.ref a1)] 2 = mkF m 0 #[.val (.ref a1), .unset] [] := by
  first | (simp [entryFrame, mkF, argsToLocals, Value.category]; done) | rfl
def Q_rm10_4_2 (Z : State) (a1 : Addr) (w : Int32) (fm : Value) (va : Addr) (k1 : ClassId) (y0 : Int32) (y1 : Int32) (y2 : Int32) (y3 : Int32) (sa : Addr) (h0 : Heap) (n0 : Nat) (v : Option Value) (h : Heap) (L : List Loc) : Prop := ∃ rr : Addr, ∃ vb : Addr, ∃ kb : ClassId, v = some (.ref rr) ∧ Fr n0 L ∧ Keep h0 h [] ∧ Exa Z h rr "java/lang/String" ∧ Fld Z h rr "java/lang/String" "value" "[B" (.ref vb) ∧ Fld Z h rr "java/lang/String" "coder" "B" (.int (0 : Int32)) ∧ Arv Z h vb kb .byte (1 : Int32) [(.int y1)] (.int (0 : Int32))
abbrev R_rm10_4_2 : Room := ⟨5, 2, 5, 80⟩
set_option maxRecDepth 65536 in
set_option maxHeartbeats 40000000 in
theorem rm10_4_2 (l : Launch) (Z : State) (a0 : Array Value) (hw : ∀ d ∈ tables_1, d.before a0 Z = true) (ws : List Jvm.Cond) (a1 : Addr) (w : Int32) (fm : Value) (va : Addr) (k1 : ClassId) (y0 : Int32) (y1 : Int32) (y2 : Int32) (y3 : Int32) (sa : Addr) (h0 : Heap) (n0 : Nat) (Z0 : n0 ≤ h0.size) (E_a1 : Exa Z h0 a1 "com/example/ianus/ianus/server/LiteralPath") (F_path_a1 : Fld Z h0 a1 "com/example/ianus/ianus/server/LiteralPath" "path" "Ljava/lang/String;" (.ref sa)) (E_sa : Exa Z h0 sa "java/lang/String") (F_value_sa : Fld Z h0 sa "java/lang/String" "value" "[B" (.ref va)) (F_coder_sa : Fld Z h0 sa "java/lang/String" "coder" "B" (.int (0 : Int32))) (V_va : Arv Z h0 va k1 .byte (4 : Int32) [(.int y0), (.int y1), (.int y2), (.int y3)] (.int (0 : Int32))) (S_COMPACT_STRINGS : Sta Z h0 "java/lang/String" "COMPACT_STRINGS" "Z" (.int w)) (S_SIOOBE_FORMATTER : Sta Z h0 "jdk/internal/util/Preconditions" "SIOOBE_FORMATTER" "Ljava/util/function/BiFunction;" fm) (hw0 : ¬ w = (0 : Int32)) (hr_fm : fm.isRef = true) (hy1 : ¬ y1 = (47 : Int32)) (hy2 : y2 = (47 : Int32)) :
    MetFree l own_y28 (head1 (Jvm.Cond.code own_y28 prog_15_method_3_code 2 (some (.object "java/lang/String")) :: ws) R_rm10_4_2) (fun a U => a = #[(.ref a1)] ∧ Z.Warmed39 U.vm ∧ U.heap = h0) (fun _ _ _ _ _ => True) (fun _ U o U' => ∃ v L, o = .returned v ∧ Q_rm10_4_2 Z a1 w fm va k1 y0 y1 y2 y3 sa h0 n0 v U'.heap L ∧ FrameEnd U o U' L R_rm10_4_2.cells R_rm10_4_2.slots) := by
  refine MetFree.of_bodySF (plainFor_of_name pn_LiteralPath) hisR ?_
  intro p e s m args below meth c s₁ Bd hml0 hP hK
  obtain ⟨rfl, hZ, hh⟩ := hP
  have hx := Bd.exec
  have hby := Bd.bytes
  have hml : c.maxLocals = 2 := hml0
  have hown : s.vm.findClass "com/example/ianus/ianus/server/LiteralPath" = some m.cls := findClass_of_methodNamed Bd.named
  have hnm := (name_of_methodNamed Bd.named Bd.method).1
  have X0 : Stand p l e R_rm10_4_2 s m #[(.ref a1)] below meth c s₁ [] 0 0 := Stand.of_body Bd
  have e0 : s₁.heap = h0 := by rw [← hh, Bd.state]; rfl
  have N0 := Fr.nil n0
  show OGo p.tables e below (own_Kq s (fun v h L => Q_rm10_4_2 Z a1 w fm va k1 y0 y1 y2 y3 sa h0 n0 v h L) R_rm10_4_2.cells R_rm10_4_2.slots) (s₁.setTop (entryFrame m #[(.ref a1)] 2))
  refine OGo.cast (ef_rm10_4_2 m a1) ?_
  show OGo _ _ _ _ (s₁.setTop (mkF m 0 #[.val (.ref a1), .unset] []))
  refine OGo.via (fun _ k => XS.aloadN X0.here hx rfl (hb hby d10_0) rfl rfl k) ?_
  obtain ⟨T1, X1, e1, st1⟩ := getF X0 hx hZ hown (host := "") (Or.inl (own_w hw 46 rfl)) Via.refl e0 F_path_a1 (g := (mkF m 1 #[.val (.ref a1), .unset] [(.ref a1)])) rfl rfl (hb hby d10_1)
  refine OGo.via st1 ?_
  show OGo _ _ _ _ (T1.setTop (mkF m 4 #[.val (.ref a1), .unset] [(.ref sa)]))
  refine OGo.via (fun _ k => XS.bipush X1.here hx rfl (hb hby d10_4) (XS.iconst X1.here hx rfl (hb hby d10_6) k)) ?_
  obtain ⟨cq2, kq2, q2a, q2b, q2c⟩ := isOf hZ e1 E_sa
  obtain ⟨_, T2, Lc2, X2, hQ2, st2⟩ := own_open X1 (X1.virtualBack hx (y := own_y27) (z := own_y27) hown (mvT hZ (own_w hw 53 rfl)) (mvT hZ (own_w hw 54 rfl)) (notFace_of_selects (args := #[]) (mvT hZ (own_w hw 56 rfl))) (mvT hZ (own_w hw 56 rfl)) (mvT hZ (own_w hw 55 rfl)) (by decide) (backOf (W := 0) (rm11_4 l Z a0 hw [] sa w fm va k1 y0 y1 y2 y3 h0 n0 Z0 E_sa F_value_sa F_coder_sa V_va S_COMPACT_STRINGS S_SIOOBE_FORMATTER hw0) hZ (own_w hw 57 rfl) (own_w hw 10 rfl) (by decide) (by decide)) q2a q2c (g := (mkF m 7 #[.val (.ref a1), .unset] [(.int (1 : Int32)), (.int (47 : Int32)), (.ref sa)])) rfl (by rw [hml]; rfl) (Steps.refl _) (argsL := [(.int (47 : Int32)), (.int (1 : Int32))]) (rest := []) (lenOf pd_14 rfl) rfl (by show 2 * 0 + _ ≤ _; exact Nat.le_of_eq rfl) (hb hby d10_7) (fun _ _ => ⟨rfl, e1, (by decide : 0 + 0 ≤ _), (by decide : 0 + 0 ≤ _)⟩))
  obtain ⟨rfl, N2q, r2_0⟩ := hQ2
  have N2 := Fr.app N0 N2q
  refine OGo.via (fun _ k => st2.trans k) ?_
  show OGo _ _ _ _ (T2.setTop (mkF m 10 #[.val (.ref a1), .unset] [(.int (own_ix y1 y2 y3))]))
  rw [show (own_ix y1 y2 y3) = (2 : Int32) from by rw [own_ix, if_neg hy1, if_pos hy2]]
  show OGo _ _ _ _ (T2.setTop (mkF m 10 #[.val (.ref a1), .unset] [(.int (2 : Int32))]))
  refine OGo.via (fun _ k => XS.istoreN X2.here hx rfl (hb hby d10_10) rfl (l' := #[.val (.ref a1), .val (.int (2 : Int32))]) rfl (XS.aloadN X2.here hx rfl (hb hby d10_11) rfl rfl k)) ?_
  obtain ⟨T3, X3, e3, st3⟩ := getF X2 hx hZ hown (host := "") (Or.inl (own_w hw 46 rfl)) Via.refl r2_0 F_path_a1 (g := (mkF m 12 #[.val (.ref a1), .val (.int (2 : Int32))] [(.ref a1)])) rfl rfl (hb hby d10_12)
  refine OGo.via st3 ?_
  show OGo _ _ _ _ (T3.setTop (mkF m 15 #[.val (.ref a1), .val (.int (2 : Int32))] [(.ref sa)]))
  refine OGo.via (fun _ k => XS.iconst X3.here hx rfl (hb hby d10_15) (XS.iloadN X3.here hx rfl (hb hby d10_16) rfl (XS.ifYes X3.here hx rfl (pc0 := 17) (pc' := 30) rfl (hb hby d10_17) rfl ((if0 _ _).trans (flt (by decide : ¬ ((2 : Int32) < (0 : Int32)))).2.1) (by decide) (by decide) (XS.iloadN X3.here hx rfl (hb hby d10_30) rfl k)))) ?_
  obtain ⟨cq4, kq4, q4a, q4b, q4c⟩ := isOf hZ e3 E_sa
  obtain ⟨_, T4, Lc4, X4, hQ4, st4⟩ := own_open X3 (X3.virtualBack hx (y := own_y23) (z := own_y23) hown (mvT hZ (own_w hw 88 rfl)) (mvT hZ (own_w hw 89 rfl)) (notFace_of_selects (args := #[]) (mvT hZ (own_w hw 91 rfl))) (mvT hZ (own_w hw 91 rfl)) (mvT hZ (own_w hw 90 rfl)) (by decide) (backOf (W := 0) (rm19_4_2 l Z a0 hw [] sa w fm va k1 y0 y1 y2 y3 h0 n0 Z0 E_sa F_value_sa F_coder_sa V_va S_COMPACT_STRINGS S_SIOOBE_FORMATTER hw0 hr_fm) hZ (own_w hw 92 rfl) (own_w hw 10 rfl) (by decide) (by decide)) q4a q4c (g := (mkF m 31 #[.val (.ref a1), .val (.int (2 : Int32))] [(.int (2 : Int32)), (.int (1 : Int32)), (.ref sa)])) rfl (by rw [hml]; rfl) (Steps.refl _) (argsL := [(.int (1 : Int32)), (.int (2 : Int32))]) (rest := []) (lenOf pd_19 rfl) rfl (by show 2 * 0 + _ ≤ _; exact Nat.le_of_eq rfl) (hb hby d10_31) (fun _ _ => ⟨rfl, e3, (by decide : 0 + 2 ≤ _), (by decide : 0 + 5 ≤ _)⟩))
  obtain ⟨rr, vb, kb, rfl, N4q, r4_0, r4_1, r4_2, r4_3, r4_4⟩ := hQ4
  have N4 := Fr.app N2 N4q
  have K4 : Keep h0 T4.heap [] := (Keep.refl h0 []).trans r4_0 all0
  refine OGo.via (fun _ k => st4.trans k) ?_
  show OGo _ _ _ _ (T4.setTop (mkF m 34 #[.val (.ref a1), .val (.int (2 : Int32))] [(.ref rr)]))
  show OGo _ _ _ _ (T4.setTop (mkF m 34 #[.val (.ref a1), .val (.int (2 : Int32))] [(.ref rr)]))
  refine own_retA X4 hx Bd.notSynchronized Bd.returns rfl rfl (hb hby d10_34) (by decide) (by decide) ?_
  show Q_rm10_4_2 Z _ _ _ _ _ _ _ _ _ _ h0 n0 _ T4.heap _
  exact ⟨rr, vb, kb, rfl, N4, K4, r4_1, r4_2, r4_3, r4_4⟩
theorem ef_rm10_4_3 (m : MethodId) (a1 : Addr) : entryFrame m #[(.ref a1)] 2 = mkF m 0 #[.val (.ref a1), .unset] [] := by
  first | (simp [entryFrame, mkF, argsToLocals, Value.category]; done) | rfl
def Q_rm10_4_3 (Z : State) (a1 : Addr) (w : Int32) (fm : Value) (va : Addr) (k1 : ClassId) (y0 : Int32) (y1 : Int32) (y2 : Int32) (y3 : Int32) (sa : Addr) (h0 : Heap) (n0 : Nat) (v : Option Value) (h : Heap) (L : List Loc) : Prop := ∃ rr : Addr, ∃ vb : Addr, ∃ kb : ClassId, v = some (.ref rr) ∧ Fr n0 L ∧ Keep h0 h [] ∧ Exa Z h rr "java/lang/String" ∧ Fld Z h rr "java/lang/String" "value" "[B" (.ref vb) ∧ Fld Z h rr "java/lang/String" "coder" "B" (.int (0 : Int32)) ∧ Arv Z h vb kb .byte (2 : Int32) [(.int y1), (.int y2)] (.int (0 : Int32))
abbrev R_rm10_4_3 : Room := ⟨5, 2, 6, 80⟩
set_option maxRecDepth 65536 in
set_option maxHeartbeats 40000000 in
theorem rm10_4_3 (l : Launch) (Z : State) (a0 : Array Value) (hw : ∀ d ∈ tables_1, d.before a0 Z = true) (ws : List Jvm.Cond) (a1 : Addr) (w : Int32) (fm : Value) (va : Addr) (k1 : ClassId) (y0 : Int32) (y1 : Int32) (y2 : Int32) (y3 : Int32) (sa : Addr) (h0 : Heap) (n0 : Nat) (Z0 : n0 ≤ h0.size) (E_a1 : Exa Z h0 a1 "com/example/ianus/ianus/server/LiteralPath") (F_path_a1 : Fld Z h0 a1 "com/example/ianus/ianus/server/LiteralPath" "path" "Ljava/lang/String;" (.ref sa)) (E_sa : Exa Z h0 sa "java/lang/String") (F_value_sa : Fld Z h0 sa "java/lang/String" "value" "[B" (.ref va)) (F_coder_sa : Fld Z h0 sa "java/lang/String" "coder" "B" (.int (0 : Int32))) (V_va : Arv Z h0 va k1 .byte (4 : Int32) [(.int y0), (.int y1), (.int y2), (.int y3)] (.int (0 : Int32))) (S_COMPACT_STRINGS : Sta Z h0 "java/lang/String" "COMPACT_STRINGS" "Z" (.int w)) (S_SIOOBE_FORMATTER : Sta Z h0 "jdk/internal/util/Preconditions" "SIOOBE_FORMATTER" "Ljava/util/function/BiFunction;" fm) (hw0 : ¬ w = (0 : Int32)) (hr_fm : fm.isRef = true) (hy1 : ¬ y1 = (47 : Int32)) (hy2 : ¬ y2 = (47 : Int32)) (hy3 : y3 = (47 : Int32)) :
    MetFree l own_y28 (head1 (Jvm.Cond.code own_y28 prog_15_method_3_code 2 (some (.object "java/lang/String")) :: ws) R_rm10_4_3) (fun a U => a = #[(.ref a1)] ∧ Z.Warmed39 U.vm ∧ U.heap = h0) (fun _ _ _ _ _ => True) (fun _ U o U' => ∃ v L, o = .returned v ∧ Q_rm10_4_3 Z a1 w fm va k1 y0 y1 y2 y3 sa h0 n0 v U'.heap L ∧ FrameEnd U o U' L R_rm10_4_3.cells R_rm10_4_3.slots) := by
  refine MetFree.of_bodySF (plainFor_of_name pn_LiteralPath) hisR ?_
  intro p e s m args below meth c s₁ Bd hml0 hP hK
  obtain ⟨rfl, hZ, hh⟩ := hP
  have hx := Bd.exec
  have hby := Bd.bytes
  have hml : c.maxLocals = 2 := hml0
  have hown : s.vm.findClass "com/example/ianus/ianus/server/LiteralPath" = some m.cls := findClass_of_methodNamed Bd.named
  have hnm := (name_of_methodNamed Bd.named Bd.method).1
  have X0 : Stand p l e R_rm10_4_3 s m #[(.ref a1)] below meth c s₁ [] 0 0 := Stand.of_body Bd
  have e0 : s₁.heap = h0 := by rw [← hh, Bd.state]; rfl
  have N0 := Fr.nil n0
  show OGo p.tables e below (own_Kq s (fun v h L => Q_rm10_4_3 Z a1 w fm va k1 y0 y1 y2 y3 sa h0 n0 v h L) R_rm10_4_3.cells R_rm10_4_3.slots) (s₁.setTop (entryFrame m #[(.ref a1)] 2))
  refine OGo.cast (ef_rm10_4_3 m a1) ?_
  show OGo _ _ _ _ (s₁.setTop (mkF m 0 #[.val (.ref a1), .unset] []))
  refine OGo.via (fun _ k => XS.aloadN X0.here hx rfl (hb hby d10_0) rfl rfl k) ?_
  obtain ⟨T1, X1, e1, st1⟩ := getF X0 hx hZ hown (host := "") (Or.inl (own_w hw 46 rfl)) Via.refl e0 F_path_a1 (g := (mkF m 1 #[.val (.ref a1), .unset] [(.ref a1)])) rfl rfl (hb hby d10_1)
  refine OGo.via st1 ?_
  show OGo _ _ _ _ (T1.setTop (mkF m 4 #[.val (.ref a1), .unset] [(.ref sa)]))
  refine OGo.via (fun _ k => XS.bipush X1.here hx rfl (hb hby d10_4) (XS.iconst X1.here hx rfl (hb hby d10_6) k)) ?_
  obtain ⟨cq2, kq2, q2a, q2b, q2c⟩ := isOf hZ e1 E_sa
  obtain ⟨_, T2, Lc2, X2, hQ2, st2⟩ := own_open X1 (X1.virtualBack hx (y := own_y27) (z := own_y27) hown (mvT hZ (own_w hw 53 rfl)) (mvT hZ (own_w hw 54 rfl)) (notFace_of_selects (args := #[]) (mvT hZ (own_w hw 56 rfl))) (mvT hZ (own_w hw 56 rfl)) (mvT hZ (own_w hw 55 rfl)) (by decide) (backOf (W := 0) (rm11_4 l Z a0 hw [] sa w fm va k1 y0 y1 y2 y3 h0 n0 Z0 E_sa F_value_sa F_coder_sa V_va S_COMPACT_STRINGS S_SIOOBE_FORMATTER hw0) hZ (own_w hw 57 rfl) (own_w hw 10 rfl) (by decide) (by decide)) q2a q2c (g := (mkF m 7 #[.val (.ref a1), .unset] [(.int (1 : Int32)), (.int (47 : Int32)), (.ref sa)])) rfl (by rw [hml]; rfl) (Steps.refl _) (argsL := [(.int (47 : Int32)), (.int (1 : Int32))]) (rest := []) (lenOf pd_14 rfl) rfl (by show 2 * 0 + _ ≤ _; exact Nat.le_of_eq rfl) (hb hby d10_7) (fun _ _ => ⟨rfl, e1, (by decide : 0 + 0 ≤ _), (by decide : 0 + 0 ≤ _)⟩))
  obtain ⟨rfl, N2q, r2_0⟩ := hQ2
  have N2 := Fr.app N0 N2q
  refine OGo.via (fun _ k => st2.trans k) ?_
  show OGo _ _ _ _ (T2.setTop (mkF m 10 #[.val (.ref a1), .unset] [(.int (own_ix y1 y2 y3))]))
  rw [show (own_ix y1 y2 y3) = (3 : Int32) from by rw [own_ix, if_neg hy1, if_neg hy2, if_pos hy3]]
  show OGo _ _ _ _ (T2.setTop (mkF m 10 #[.val (.ref a1), .unset] [(.int (3 : Int32))]))
  refine OGo.via (fun _ k => XS.istoreN X2.here hx rfl (hb hby d10_10) rfl (l' := #[.val (.ref a1), .val (.int (3 : Int32))]) rfl (XS.aloadN X2.here hx rfl (hb hby d10_11) rfl rfl k)) ?_
  obtain ⟨T3, X3, e3, st3⟩ := getF X2 hx hZ hown (host := "") (Or.inl (own_w hw 46 rfl)) Via.refl r2_0 F_path_a1 (g := (mkF m 12 #[.val (.ref a1), .val (.int (3 : Int32))] [(.ref a1)])) rfl rfl (hb hby d10_12)
  refine OGo.via st3 ?_
  show OGo _ _ _ _ (T3.setTop (mkF m 15 #[.val (.ref a1), .val (.int (3 : Int32))] [(.ref sa)]))
  refine OGo.via (fun _ k => XS.iconst X3.here hx rfl (hb hby d10_15) (XS.iloadN X3.here hx rfl (hb hby d10_16) rfl (XS.ifYes X3.here hx rfl (pc0 := 17) (pc' := 30) rfl (hb hby d10_17) rfl ((if0 _ _).trans (flt (by decide : ¬ ((3 : Int32) < (0 : Int32)))).2.1) (by decide) (by decide) (XS.iloadN X3.here hx rfl (hb hby d10_30) rfl k)))) ?_
  obtain ⟨cq4, kq4, q4a, q4b, q4c⟩ := isOf hZ e3 E_sa
  obtain ⟨_, T4, Lc4, X4, hQ4, st4⟩ := own_open X3 (X3.virtualBack hx (y := own_y23) (z := own_y23) hown (mvT hZ (own_w hw 88 rfl)) (mvT hZ (own_w hw 89 rfl)) (notFace_of_selects (args := #[]) (mvT hZ (own_w hw 91 rfl))) (mvT hZ (own_w hw 91 rfl)) (mvT hZ (own_w hw 90 rfl)) (by decide) (backOf (W := 0) (rm19_4_3 l Z a0 hw [] sa w fm va k1 y0 y1 y2 y3 h0 n0 Z0 E_sa F_value_sa F_coder_sa V_va S_COMPACT_STRINGS S_SIOOBE_FORMATTER hw0 hr_fm) hZ (own_w hw 92 rfl) (own_w hw 10 rfl) (by decide) (by decide)) q4a q4c (g := (mkF m 31 #[.val (.ref a1), .val (.int (3 : Int32))] [(.int (3 : Int32)), (.int (1 : Int32)), (.ref sa)])) rfl (by rw [hml]; rfl) (Steps.refl _) (argsL := [(.int (1 : Int32)), (.int (3 : Int32))]) (rest := []) (lenOf pd_19 rfl) rfl (by show 2 * 0 + _ ≤ _; exact Nat.le_of_eq rfl) (hb hby d10_31) (fun _ _ => ⟨rfl, e3, (by decide : 0 + 2 ≤ _), (by decide : 0 + 6 ≤ _)⟩))
  obtain ⟨rr, vb, kb, rfl, N4q, r4_0, r4_1, r4_2, r4_3, r4_4⟩ := hQ4
  have N4 := Fr.app N2 N4q
  have K4 : Keep h0 T4.heap [] := (Keep.refl h0 []).trans r4_0 all0
  refine OGo.via (fun _ k => st4.trans k) ?_
  show OGo _ _ _ _ (T4.setTop (mkF m 34 #[.val (.ref a1), .val (.int (3 : Int32))] [(.ref rr)]))
  show OGo _ _ _ _ (T4.setTop (mkF m 34 #[.val (.ref a1), .val (.int (3 : Int32))] [(.ref rr)]))
  refine own_retA X4 hx Bd.notSynchronized Bd.returns rfl rfl (hb hby d10_34) (by decide) (by decide) ?_
  show Q_rm10_4_3 Z _ _ _ _ _ _ _ _ _ _ h0 n0 _ T4.heap _
  exact ⟨rr, vb, kb, rfl, N4, K4, r4_1, r4_2, r4_3, r4_4⟩
theorem ef_rm10_4_4 (m : MethodId) (a1 : Addr) : entryFrame m #[(.ref a1)] 2 = mkF m 0 #[.val (.ref a1), .unset] [] := by
  first | (simp [entryFrame, mkF, argsToLocals, Value.category]; done) | rfl
def Q_rm10_4_4 (Z : State) (a1 : Addr) (w : Int32) (fm : Value) (va : Addr) (k1 : ClassId) (y0 : Int32) (y1 : Int32) (y2 : Int32) (y3 : Int32) (sa : Addr) (h0 : Heap) (n0 : Nat) (v : Option Value) (h : Heap) (L : List Loc) : Prop := ∃ rr : Addr, ∃ vb : Addr, ∃ kb : ClassId, v = some (.ref rr) ∧ Fr n0 L ∧ Keep h0 h [] ∧ Exa Z h rr "java/lang/String" ∧ Fld Z h rr "java/lang/String" "value" "[B" (.ref vb) ∧ Fld Z h rr "java/lang/String" "coder" "B" (.int (0 : Int32)) ∧ Arv Z h vb kb .byte (3 : Int32) [(.int y1), (.int y2), (.int y3)] (.int (0 : Int32))
abbrev R_rm10_4_4 : Room := ⟨5, 2, 7, 80⟩
set_option maxRecDepth 65536 in
set_option maxHeartbeats 40000000 in
theorem rm10_4_4 (l : Launch) (Z : State) (a0 : Array Value) (hw : ∀ d ∈ tables_1, d.before a0 Z = true) (ws : List Jvm.Cond) (a1 : Addr) (w : Int32) (fm : Value) (va : Addr) (k1 : ClassId) (y0 : Int32) (y1 : Int32) (y2 : Int32) (y3 : Int32) (sa : Addr) (h0 : Heap) (n0 : Nat) (Z0 : n0 ≤ h0.size) (E_a1 : Exa Z h0 a1 "com/example/ianus/ianus/server/LiteralPath") (F_path_a1 : Fld Z h0 a1 "com/example/ianus/ianus/server/LiteralPath" "path" "Ljava/lang/String;" (.ref sa)) (E_sa : Exa Z h0 sa "java/lang/String") (F_value_sa : Fld Z h0 sa "java/lang/String" "value" "[B" (.ref va)) (F_coder_sa : Fld Z h0 sa "java/lang/String" "coder" "B" (.int (0 : Int32))) (V_va : Arv Z h0 va k1 .byte (4 : Int32) [(.int y0), (.int y1), (.int y2), (.int y3)] (.int (0 : Int32))) (S_COMPACT_STRINGS : Sta Z h0 "java/lang/String" "COMPACT_STRINGS" "Z" (.int w)) (S_SIOOBE_FORMATTER : Sta Z h0 "jdk/internal/util/Preconditions" "SIOOBE_FORMATTER" "Ljava/util/function/BiFunction;" fm) (hw0 : ¬ w = (0 : Int32)) (hr_fm : fm.isRef = true) (hy1 : ¬ y1 = (47 : Int32)) (hy2 : ¬ y2 = (47 : Int32)) (hy3 : ¬ y3 = (47 : Int32)) :
    MetFree l own_y28 (head1 (Jvm.Cond.code own_y28 prog_15_method_3_code 2 (some (.object "java/lang/String")) :: ws) R_rm10_4_4) (fun a U => a = #[(.ref a1)] ∧ Z.Warmed39 U.vm ∧ U.heap = h0) (fun _ _ _ _ _ => True) (fun _ U o U' => ∃ v L, o = .returned v ∧ Q_rm10_4_4 Z a1 w fm va k1 y0 y1 y2 y3 sa h0 n0 v U'.heap L ∧ FrameEnd U o U' L R_rm10_4_4.cells R_rm10_4_4.slots) := by
  refine MetFree.of_bodySF (plainFor_of_name pn_LiteralPath) hisR ?_
  intro p e s m args below meth c s₁ Bd hml0 hP hK
  obtain ⟨rfl, hZ, hh⟩ := hP
  have hx := Bd.exec
  have hby := Bd.bytes
  have hml : c.maxLocals = 2 := hml0
  have hown : s.vm.findClass "com/example/ianus/ianus/server/LiteralPath" = some m.cls := findClass_of_methodNamed Bd.named
  have hnm := (name_of_methodNamed Bd.named Bd.method).1
  have X0 : Stand p l e R_rm10_4_4 s m #[(.ref a1)] below meth c s₁ [] 0 0 := Stand.of_body Bd
  have e0 : s₁.heap = h0 := by rw [← hh, Bd.state]; rfl
  have N0 := Fr.nil n0
  show OGo p.tables e below (own_Kq s (fun v h L => Q_rm10_4_4 Z a1 w fm va k1 y0 y1 y2 y3 sa h0 n0 v h L) R_rm10_4_4.cells R_rm10_4_4.slots) (s₁.setTop (entryFrame m #[(.ref a1)] 2))
  refine OGo.cast (ef_rm10_4_4 m a1) ?_
  show OGo _ _ _ _ (s₁.setTop (mkF m 0 #[.val (.ref a1), .unset] []))
  refine OGo.via (fun _ k => XS.aloadN X0.here hx rfl (hb hby d10_0) rfl rfl k) ?_
  obtain ⟨T1, X1, e1, st1⟩ := getF X0 hx hZ hown (host := "") (Or.inl (own_w hw 46 rfl)) Via.refl e0 F_path_a1 (g := (mkF m 1 #[.val (.ref a1), .unset] [(.ref a1)])) rfl rfl (hb hby d10_1)
  refine OGo.via st1 ?_
  show OGo _ _ _ _ (T1.setTop (mkF m 4 #[.val (.ref a1), .unset] [(.ref sa)]))
  refine OGo.via (fun _ k => XS.bipush X1.here hx rfl (hb hby d10_4) (XS.iconst X1.here hx rfl (hb hby d10_6) k)) ?_
  obtain ⟨cq2, kq2, q2a, q2b, q2c⟩ := isOf hZ e1 E_sa
  obtain ⟨_, T2, Lc2, X2, hQ2, st2⟩ := own_open X1 (X1.virtualBack hx (y := own_y27) (z := own_y27) hown (mvT hZ (own_w hw 53 rfl)) (mvT hZ (own_w hw 54 rfl)) (notFace_of_selects (args := #[]) (mvT hZ (own_w hw 56 rfl))) (mvT hZ (own_w hw 56 rfl)) (mvT hZ (own_w hw 55 rfl)) (by decide) (backOf (W := 0) (rm11_4 l Z a0 hw [] sa w fm va k1 y0 y1 y2 y3 h0 n0 Z0 E_sa F_value_sa F_coder_sa V_va S_COMPACT_STRINGS S_SIOOBE_FORMATTER hw0) hZ (own_w hw 57 rfl) (own_w hw 10 rfl) (by decide) (by decide)) q2a q2c (g := (mkF m 7 #[.val (.ref a1), .unset] [(.int (1 : Int32)), (.int (47 : Int32)), (.ref sa)])) rfl (by rw [hml]; rfl) (Steps.refl _) (argsL := [(.int (47 : Int32)), (.int (1 : Int32))]) (rest := []) (lenOf pd_14 rfl) rfl (by show 2 * 0 + _ ≤ _; exact Nat.le_of_eq rfl) (hb hby d10_7) (fun _ _ => ⟨rfl, e1, (by decide : 0 + 0 ≤ _), (by decide : 0 + 0 ≤ _)⟩))
  obtain ⟨rfl, N2q, r2_0⟩ := hQ2
  have N2 := Fr.app N0 N2q
  refine OGo.via (fun _ k => st2.trans k) ?_
  show OGo _ _ _ _ (T2.setTop (mkF m 10 #[.val (.ref a1), .unset] [(.int (own_ix y1 y2 y3))]))
  rw [show (own_ix y1 y2 y3) = (-1 : Int32) from by rw [own_ix, if_neg hy1, if_neg hy2, if_neg hy3]]
  show OGo _ _ _ _ (T2.setTop (mkF m 10 #[.val (.ref a1), .unset] [(.int (-1 : Int32))]))
  refine OGo.via (fun _ k => XS.istoreN X2.here hx rfl (hb hby d10_10) rfl (l' := #[.val (.ref a1), .val (.int (-1 : Int32))]) rfl (XS.aloadN X2.here hx rfl (hb hby d10_11) rfl rfl k)) ?_
  obtain ⟨T3, X3, e3, st3⟩ := getF X2 hx hZ hown (host := "") (Or.inl (own_w hw 46 rfl)) Via.refl r2_0 F_path_a1 (g := (mkF m 12 #[.val (.ref a1), .val (.int (-1 : Int32))] [(.ref a1)])) rfl rfl (hb hby d10_12)
  refine OGo.via st3 ?_
  show OGo _ _ _ _ (T3.setTop (mkF m 15 #[.val (.ref a1), .val (.int (-1 : Int32))] [(.ref sa)]))
  refine OGo.via (fun _ k => XS.iconst X3.here hx rfl (hb hby d10_15) (XS.iloadN X3.here hx rfl (hb hby d10_16) rfl (XS.ifNo X3.here hx rfl (hb hby d10_17) rfl ((if0 _ _).trans (tlt (by decide : (-1 : Int32) < (0 : Int32))).2.1) (XS.aloadN X3.here hx rfl (hb hby d10_20) rfl rfl k)))) ?_
  obtain ⟨T4, X4, e4, st4⟩ := getF X3 hx hZ hown (host := "") (Or.inl (own_w hw 46 rfl)) Via.refl e3 F_path_a1 (g := (mkF m 21 #[.val (.ref a1), .val (.int (-1 : Int32))] [(.ref a1), (.int (1 : Int32)), (.ref sa)])) rfl rfl (hb hby d10_21)
  refine OGo.via st4 ?_
  show OGo _ _ _ _ (T4.setTop (mkF m 24 #[.val (.ref a1), .val (.int (-1 : Int32))] [(.ref sa), (.int (1 : Int32)), (.ref sa)]))
  obtain ⟨cq5, kq5, q5a, q5b, q5c⟩ := isOf hZ e4 E_sa
  obtain ⟨_, T5, Lc5, X5, hQ5, st5⟩ := own_open X4 (X4.virtualBack hx (y := own_y6) (z := own_y6) hown (mvT hZ (own_w hw 87 rfl)) (mvT hZ (own_w hw 64 rfl)) (notFace_of_selects (args := #[]) (mvT hZ (own_w hw 66 rfl))) (mvT hZ (own_w hw 66 rfl)) (mvT hZ (own_w hw 65 rfl)) (by decide) (backOf (W := 2) (rm13 l Z a0 hw [] sa w va k1 [(.int y0), (.int y1), (.int y2), (.int y3)] (4 : Int32) h0 n0 Z0 E_sa F_value_sa F_coder_sa V_va S_COMPACT_STRINGS hw0) hZ (own_w hw 67 rfl) (own_w hw 10 rfl) (by decide) (by decide)) q5a q5c (g := (mkF m 24 #[.val (.ref a1), .val (.int (-1 : Int32))] [(.ref sa), (.int (1 : Int32)), (.ref sa)])) rfl (by rw [hml]; rfl) (Steps.refl _) (argsL := []) (rest := [(.int (1 : Int32)), (.ref sa)]) (lenOf pd_11 rfl) rfl (by show 2 * 0 + _ ≤ _; exact Nat.le_of_eq rfl) (hb hby d10_24) (fun _ _ => ⟨rfl, e4, (by decide : 0 + 0 ≤ _), (by decide : 0 + 0 ≤ _)⟩))
  obtain ⟨rfl, N5q, r5_0⟩ := hQ5
  have N5 := Fr.app N2 N5q
  refine OGo.via (fun _ k => st5.trans k) ?_
  show OGo _ _ _ _ (T5.setTop (mkF m 27 #[.val (.ref a1), .val (.int (-1 : Int32))] [(.int (4 : Int32)), (.int (1 : Int32)), (.ref sa)]))
  refine OGo.via (fun _ k => XS.goto X5.here hx rfl (pc0 := 27) (pc' := 31) rfl (hb hby d10_27) (by decide) (by decide) k) ?_
  obtain ⟨cq6, kq6, q6a, q6b, q6c⟩ := isOf hZ r5_0 E_sa
  obtain ⟨_, T6, Lc6, X6, hQ6, st6⟩ := own_open X5 (X5.virtualBack hx (y := own_y23) (z := own_y23) hown (mvT hZ (own_w hw 88 rfl)) (mvT hZ (own_w hw 89 rfl)) (notFace_of_selects (args := #[]) (mvT hZ (own_w hw 91 rfl))) (mvT hZ (own_w hw 91 rfl)) (mvT hZ (own_w hw 90 rfl)) (by decide) (backOf (W := 0) (rm19_4_4 l Z a0 hw [] sa w fm va k1 y0 y1 y2 y3 h0 n0 Z0 E_sa F_value_sa F_coder_sa V_va S_COMPACT_STRINGS S_SIOOBE_FORMATTER hw0 hr_fm) hZ (own_w hw 92 rfl) (own_w hw 10 rfl) (by decide) (by decide)) q6a q6c (g := (mkF m 31 #[.val (.ref a1), .val (.int (-1 : Int32))] [(.int (4 : Int32)), (.int (1 : Int32)), (.ref sa)])) rfl (by rw [hml]; rfl) (Steps.refl _) (argsL := [(.int (1 : Int32)), (.int (4 : Int32))]) (rest := []) (lenOf pd_19 rfl) rfl (by show 2 * 0 + _ ≤ _; exact Nat.le_of_eq rfl) (hb hby d10_31) (fun _ _ => ⟨rfl, r5_0, (by decide : 0 + 2 ≤ _), (by decide : 0 + 7 ≤ _)⟩))
  obtain ⟨rr, vb, kb, rfl, N6q, r6_0, r6_1, r6_2, r6_3, r6_4⟩ := hQ6
  have N6 := Fr.app N5 N6q
  have K6 : Keep h0 T6.heap [] := (Keep.refl h0 []).trans r6_0 all0
  refine OGo.via (fun _ k => st6.trans k) ?_
  show OGo _ _ _ _ (T6.setTop (mkF m 34 #[.val (.ref a1), .val (.int (-1 : Int32))] [(.ref rr)]))
  show OGo _ _ _ _ (T6.setTop (mkF m 34 #[.val (.ref a1), .val (.int (-1 : Int32))] [(.ref rr)]))
  refine own_retA X6 hx Bd.notSynchronized Bd.returns rfl rfl (hb hby d10_34) (by decide) (by decide) ?_
  show Q_rm10_4_4 Z _ _ _ _ _ _ _ _ _ _ h0 n0 _ T6.heap _
  exact ⟨rr, vb, kb, rfl, N6, K6, r6_1, r6_2, r6_3, r6_4⟩
theorem pd_20 : parseMethodDescriptor "(I)C" = some ⟨[.int], some .char⟩ := by decide +kernel
theorem pd_21 : parseMethodDescriptor "([C)V" = some ⟨[(.array .char)], none⟩ := by decide +kernel
theorem pd_22 : parseMethodDescriptor "(Ljava/lang/String;)V" = some ⟨[(.object "java/lang/String")], none⟩ := by decide +kernel
theorem pd_23 : parseMethodDescriptor "()Ljava/lang/String;" = some ⟨[], some (.object "java/lang/String")⟩ := by decide +kernel
theorem ef_rm0 (m : MethodId) (p1 : Int32) (p2 : Int32) (p3 : Int32) (p4 : Int32) : entryFrame m #[(.int p1), (.int p2), (.int p3), (.int p4)] maxLocals = mkF m 0 #[.val (.int p1), .val (.int p2), .val (.int p3), .val (.int p4), .unset, .unset, .unset, .unset, .unset, .unset, .unset, .unset] [] := by
  first | (simp [entryFrame, mkF, argsToLocals, Value.category, maxLocals]; done) | rfl
def Q_rm0 (Z : State) (p1 : Int32) (p2 : Int32) (p3 : Int32) (p4 : Int32) (w : Int32) (fm : Value) (h0 : Heap) (n0 : Nat) (v : Option Value) (h : Heap) (L : List Loc) : Prop := v = some (.int (1 : Int32)) ∧ Fr n0 L
set_option maxRecDepth 65536 in
set_option maxHeartbeats 40000000 in
theorem rm0 (l : Launch) (Z : State) (a0 : Array Value) (hw : ∀ d ∈ tables_1, d.before a0 Z = true) (ws : List Jvm.Cond) (p1 : Int32) (p2 : Int32) (p3 : Int32) (p4 : Int32) (w : Int32) (fm : Value) (h0 : Heap) (n0 : Nat) (Z0 : n0 ≤ h0.size) (S_COMPACT_STRINGS : Sta Z h0 "java/lang/String" "COMPACT_STRINGS" "Z" (.int w)) (S_SIOOBE_FORMATTER : Sta Z h0 "jdk/internal/util/Preconditions" "SIOOBE_FORMATTER" "Ljava/util/function/BiFunction;" fm) (hw0 : ¬ w = (0 : Int32)) (hr_fm : fm.isRef = true) (hz0 : Z.heap = h0) (hhc : Jvm.Lit.constHeld Z "java/lang/StringLatin1" 151) (hcw : Jvm.Lit.compactW.before a0 Z = true) :
    MetFree l x (head1 (Jvm.Cond.code x code maxLocals ret :: ws) room_1) (fun a U => a = #[(.int p1), (.int p2), (.int p3), (.int p4)] ∧ Z.WarmedH U.vm ∧ U.heap = h0) (fun _ _ _ _ _ => True) (fun _ U o U' => ∃ v L, o = .returned v ∧ Q_rm0 Z p1 p2 p3 p4 w fm h0 n0 v U'.heap L ∧ ReturnedEndW U o U' L room_1.cells room_1.slots) := by
  refine MetFree.of_bodySF (plainFor_of_name pn_LiteralPathFirstSegmentPinLaw) hisR ?_
  intro p e s m args below meth c s₁ Bd hml0 hP hK
  obtain ⟨rfl, hZH, hh⟩ := hP
  have hZ := hZH.wide
  have hx := Bd.exec
  have hby := Bd.bytes
  have hml : c.maxLocals = 12 := hml0
  have hown : s.vm.findClass "com/example/ianus/ianus/server/LiteralPathFirstSegmentPinLaw" = some m.cls := findClass_of_methodNamed Bd.named
  have hnm := (name_of_methodNamed Bd.named Bd.method).1
  have X0 : Stand p l e room_1 s m #[(.int p1), (.int p2), (.int p3), (.int p4)] below meth c s₁ [] 0 0 := Stand.of_body Bd
  have e0 : s₁.heap = h0 := by rw [← hh, Bd.state]; rfl
  have N0 := Fr.nil n0
  show OGo p.tables e below (own_KqW s (fun v h L => Q_rm0 Z p1 p2 p3 p4 w fm h0 n0 v h L) room_1.cells room_1.slots) (s₁.setTop (entryFrame m #[(.int p1), (.int p2), (.int p3), (.int p4)] maxLocals))
  refine OGo.cast (ef_rm0 m p1 p2 p3 p4) ?_
  show OGo _ _ _ _ (s₁.setTop (mkF m 0 #[.val (.int p1), .val (.int p2), .val (.int p3), .val (.int p4), .unset, .unset, .unset, .unset, .unset, .unset, .unset, .unset] []))
  refine OGo.via (fun _ k => XS.iconst X0.here hx rfl (hb hby at_0) (XS.iloadN X0.here hx rfl (hb hby at_1) rfl (XS.iconst X0.here hx rfl (hb hby at_2) (XS.iand X0.here hx rfl (hb hby at_3) rfl (XS.iadd X0.here hx rfl (hb hby at_4) rfl (XS.istore X0.here hx rfl (hb hby at_5) rfl (l' := #[.val (.int p1), .val (.int p2), .val (.int p3), .val (.int p4), .val (.int ((1 : Int32) + (p1 &&& (3 : Int32)))), .unset, .unset, .unset, .unset, .unset, .unset, .unset]) rfl k)))))) ?_
  show OGo _ _ _ _ (s₁.setTop (mkF m 7 #[.val (.int p1), .val (.int p2), .val (.int p3), .val (.int p4), .val (.int ((1 : Int32) + (p1 &&& (3 : Int32)))), .unset, .unset, .unset, .unset, .unset, .unset, .unset] []))
  obtain ⟨ln, hln⟩ : ∃ z, z = ((1 : Int32) + (p1 &&& (3 : Int32))) := ⟨_, rfl⟩
  rw [← hln]
  show OGo _ _ _ _ (s₁.setTop (mkF m 7 #[.val (.int p1), .val (.int p2), .val (.int p3), .val (.int p4), .val (.int ln), .unset, .unset, .unset, .unset, .unset, .unset, .unset] []))
  refine OGo.via (fun _ k => XS.iloadN X0.here hx rfl (hb hby at_7) rfl k) ?_
  obtain ⟨_, T1, Lc1, X1, hQ1, st1⟩ := own_open X0 (Jvm.LawKit.callS X0 hx (y := own_y0) hown (mvT hZ (own_w hw 0 rfl)) (mvT hZ (own_w hw 1 rfl)) (mvT hZ (own_w hw 2 rfl)) (mvT hZ (own_w hw 3 rfl)) (by decide) (backOf (W := 0) (rm1 l Z a0 hw [] p2 h0 n0 Z0) hZ (own_w hw 3 rfl) (own_w hw 2 rfl) (by decide) (by decide)) (g := (mkF m 8 #[.val (.int p1), .val (.int p2), .val (.int p3), .val (.int p4), .val (.int ln), .unset, .unset, .unset, .unset, .unset, .unset, .unset] [(.int p2)])) rfl (by rw [hml]; rfl) (argsL := [(.int p2)]) (rest := []) (lenOf pd_20 rfl) rfl (by show 2 * 0 + _ ≤ _; exact Nat.le_of_eq rfl) (hb hby at_8) (fun _ _ => ⟨rfl, e0, (by decide : 0 + 0 ≤ _), (by decide : 0 + 0 ≤ _)⟩))
  obtain ⟨d1, rfl, N1q, r1_0, r1_1⟩ := hQ1
  have N1 := Fr.app N0 N1q
  refine OGo.via st1 ?_
  show OGo _ _ _ _ (T1.setTop (mkF m 11 #[.val (.int p1), .val (.int p2), .val (.int p3), .val (.int p4), .val (.int ln), .unset, .unset, .unset, .unset, .unset, .unset, .unset] [(.int d1)]))
  refine OGo.via (fun _ k => XS.istore X1.here hx rfl (hb hby at_11) rfl (l' := #[.val (.int p1), .val (.int p2), .val (.int p3), .val (.int p4), .val (.int ln), .val (.int d1), .unset, .unset, .unset, .unset, .unset, .unset]) rfl (XS.iloadN X1.here hx rfl (hb hby at_13) rfl k)) ?_
  obtain ⟨_, T2, Lc2, X2, hQ2, st2⟩ := own_open X1 (Jvm.LawKit.callS X1 hx (y := own_y0) hown (mvT hZ (own_w hw 0 rfl)) (mvT hZ (own_w hw 1 rfl)) (mvT hZ (own_w hw 2 rfl)) (mvT hZ (own_w hw 3 rfl)) (by decide) (backOf (W := 0) (rm1 l Z a0 hw [] p3 h0 n0 Z0) hZ (own_w hw 3 rfl) (own_w hw 2 rfl) (by decide) (by decide)) (g := (mkF m 14 #[.val (.int p1), .val (.int p2), .val (.int p3), .val (.int p4), .val (.int ln), .val (.int d1), .unset, .unset, .unset, .unset, .unset, .unset] [(.int p3)])) rfl (by rw [hml]; rfl) (argsL := [(.int p3)]) (rest := []) (lenOf pd_20 rfl) rfl (by show 2 * 0 + _ ≤ _; exact Nat.le_of_eq rfl) (hb hby at_14) (fun _ _ => ⟨rfl, r1_0, (by decide : 0 + 0 ≤ _), (by decide : 0 + 0 ≤ _)⟩))
  obtain ⟨d2, rfl, N2q, r2_0, r2_1⟩ := hQ2
  have N2 := Fr.app N1 N2q
  refine OGo.via st2 ?_
  show OGo _ _ _ _ (T2.setTop (mkF m 17 #[.val (.int p1), .val (.int p2), .val (.int p3), .val (.int p4), .val (.int ln), .val (.int d1), .unset, .unset, .unset, .unset, .unset, .unset] [(.int d2)]))
  refine OGo.via (fun _ k => XS.istore X2.here hx rfl (hb hby at_17) rfl (l' := #[.val (.int p1), .val (.int p2), .val (.int p3), .val (.int p4), .val (.int ln), .val (.int d1), .val (.int d2), .unset, .unset, .unset, .unset, .unset]) rfl (XS.iloadN X2.here hx rfl (hb hby at_19) rfl k)) ?_
  obtain ⟨_, T3, Lc3, X3, hQ3, st3⟩ := own_open X2 (Jvm.LawKit.callS X2 hx (y := own_y0) hown (mvT hZ (own_w hw 0 rfl)) (mvT hZ (own_w hw 1 rfl)) (mvT hZ (own_w hw 2 rfl)) (mvT hZ (own_w hw 3 rfl)) (by decide) (backOf (W := 0) (rm1 l Z a0 hw [] p4 h0 n0 Z0) hZ (own_w hw 3 rfl) (own_w hw 2 rfl) (by decide) (by decide)) (g := (mkF m 20 #[.val (.int p1), .val (.int p2), .val (.int p3), .val (.int p4), .val (.int ln), .val (.int d1), .val (.int d2), .unset, .unset, .unset, .unset, .unset] [(.int p4)])) rfl (by rw [hml]; rfl) (argsL := [(.int p4)]) (rest := []) (lenOf pd_20 rfl) rfl (by show 2 * 0 + _ ≤ _; exact Nat.le_of_eq rfl) (hb hby at_20) (fun _ _ => ⟨rfl, r2_0, (by decide : 0 + 0 ≤ _), (by decide : 0 + 0 ≤ _)⟩))
  obtain ⟨d3, rfl, N3q, r3_0, r3_1⟩ := hQ3
  have N3 := Fr.app N2 N3q
  refine OGo.via st3 ?_
  show OGo _ _ _ _ (T3.setTop (mkF m 23 #[.val (.int p1), .val (.int p2), .val (.int p3), .val (.int p4), .val (.int ln), .val (.int d1), .val (.int d2), .unset, .unset, .unset, .unset, .unset] [(.int d3)]))
  refine OGo.via (fun _ k => XS.istore X3.here hx rfl (hb hby at_23) rfl (l' := #[.val (.int p1), .val (.int p2), .val (.int p3), .val (.int p4), .val (.int ln), .val (.int d1), .val (.int d2), .val (.int d3), .unset, .unset, .unset, .unset]) rfl k) ?_
  have hls := own_len p1
  rw [← hln] at hls
  rcases hls with rfl | rfl | rfl | rfl
  · show OGo _ _ _ _ (T3.setTop (mkF m 25 #[.val (.int p1), .val (.int p2), .val (.int p3), .val (.int p4), .val (.int (1 : Int32)), .val (.int d1), .val (.int d2), .val (.int d3), .unset, .unset, .unset, .unset] []))
    refine OGo.via (fun _ k => XS.iload X3.here hx rfl (hb hby at_25) rfl (XS.iconst X3.here hx rfl (hb hby at_27) (XS.icmpNo X3.here hx rfl (hb hby at_28) rfl (teq (by decide : (1 : Int32) = (1 : Int32))).2 (XS.iconst X3.here hx rfl (hb hby at_31) k)))) ?_
    obtain ⟨T4, h4, ka4, X4, e4, E4, A4, Y4, st4⟩ := newPE (ad := "[C") X3 hx hZ (own_w hw 4 rfl) r3_0 (g := (mkF m 32 #[.val (.int p1), .val (.int p2), .val (.int p3), .val (.int p4), .val (.int (1 : Int32)), .val (.int d1), .val (.int d2), .val (.int d3), .unset, .unset, .unset, .unset] [(.int (1 : Int32))])) rfl (hb hby at_32) rfl (by decide) (cap := 1) (by decide) (by decide) (by decide) (by decide) (by decide)
    obtain ⟨b4, g4⟩ : ∃ z, z = h0.size := ⟨_, rfl⟩
    rw [← g4] at A4 Y4 st4
    refine OGo.via st4 ?_
    have K4 : Keep h0 h4 [] := (Keep.refl h0 []).ext E4
    have sz_b4 : h0.size ≤ b4 := Nat.le_trans (Keep.refl h0 []).1 (Nat.le_of_eq g4.symm)
    have g_b4 : n0 ≤ b4 := Nat.le_trans Z0 sz_b4
    have V4 : Arv Z h4 b4 ka4 .char (1 : Int32) [(.int (0 : Int32))] (.int (0 : Int32)) := (Arv.new A4 (by decide)).pad (pad_rep [] (.int (0 : Int32)) 1)
    show OGo _ _ _ _ (T4.setTop (mkF m 34 #[.val (.int p1), .val (.int p2), .val (.int p3), .val (.int p4), .val (.int (1 : Int32)), .val (.int d1), .val (.int d2), .val (.int d3), .unset, .unset, .unset, .unset] [(.ref b4)]))
    refine OGo.via (fun _ k => XS.astore X4.here hx rfl (hb hby at_34) rfl rfl (l' := #[.val (.int p1), .val (.int p2), .val (.int p3), .val (.int p4), .val (.int (1 : Int32)), .val (.int d1), .val (.int d2), .val (.int d3), .val (.ref b4), .unset, .unset, .unset]) rfl (XS.goto X4.here hx rfl (pc0 := 36) (pc' := 72) rfl (hb hby at_36) (by decide) (by decide) (XS.aload X4.here hx rfl (hb hby at_72) rfl rfl (XS.iconst X4.here hx rfl (hb hby at_74) (XS.bipush X4.here hx rfl (hb hby at_75) k))))) ?_
    obtain ⟨cl5, Ar5, q5, Sz5, Ng5, Hs5, Gf5⟩ := id V4
    have hin5 : ¬ ((0 : Int32) < 0 ∨ cl5.slots.size ≤ ((0 : Int32)).toNatClampNeg) := inb_of Sz5 ⟨by decide, by decide⟩
    obtain ⟨T5, h5, X5, e5, W5, st5⟩ := stC X4 hx hZ e4 Ar5 (j := (0 : Int32)) hin5 (g := (mkF m 77 #[.val (.int p1), .val (.int p2), .val (.int p3), .val (.int p4), .val (.int (1 : Int32)), .val (.int d1), .val (.int d2), .val (.int d3), .val (.ref b4), .unset, .unset, .unset] [(.int (47 : Int32)), (.int (0 : Int32)), (.ref b4)])) rfl rfl (hb hby at_77)
    refine OGo.via st5 ?_
    have V5 : Arv Z h5 b4 ka4 .char (1 : Int32) [(.int (nar .char (47 : Int32)))] (.int (0 : Int32)) := Arv.set Ar5 q5 Sz5 Ng5 Hs5 Gf5 (fits_nar_char _) W5 0 rfl (Nat.le_of_ble_eq_true rfl)
    have K5 : Keep h0 h5 [] := K4.wr W5 (Or.inr sz_b4)
    have N5 := Fr.snoc X5 N3 g_b4
    show OGo _ _ _ _ (T5.setTop (mkF m 78 #[.val (.int p1), .val (.int p2), .val (.int p3), .val (.int p4), .val (.int (1 : Int32)), .val (.int d1), .val (.int d2), .val (.int d3), .val (.ref b4), .unset, .unset, .unset] []))
    refine OGo.via (fun _ k => XS.iload X5.here hx rfl (hb hby at_78) rfl (XS.iconst X5.here hx rfl (hb hby at_80) (XS.icmpYes X5.here hx rfl (pc0 := 81) (pc' := 90) rfl (hb hby at_81) rfl (flt (by decide : ¬ ((1 : Int32) < (1 : Int32)))).2.2.2 (by decide) (by decide) (XS.iload X5.here hx rfl (hb hby at_90) rfl (XS.iconst X5.here hx rfl (hb hby at_92) (XS.icmpYes X5.here hx rfl (pc0 := 93) (pc' := 102) rfl (hb hby at_93) rfl (flt (by decide : ¬ ((2 : Int32) < (1 : Int32)))).2.2.2 (by decide) (by decide) (XS.iload X5.here hx rfl (hb hby at_102) rfl (XS.iconst X5.here hx rfl (hb hby at_104) k)))))))) ?_
    show OGo _ _ _ _ (T5.setTop (mkF m 105 #[.val (.int p1), .val (.int p2), .val (.int p3), .val (.int p4), .val (.int (1 : Int32)), .val (.int d1), .val (.int d2), .val (.int d3), .val (.ref b4), .unset, .unset, .unset] [(.int (3 : Int32)), (.int (1 : Int32))]))
    refine OGo.via (fun _ k => XS.icmpYes X5.here hx rfl (pc0 := 105) (pc' := 114) rfl (hb hby at_105) rfl (flt (by decide : ¬ ((3 : Int32) < (1 : Int32)))).2.2.2 (by decide) (by decide) k) ?_
    rw [show nar .char (47 : Int32) = 47 from by decide] at V5
    have f7 := Y4.wr W5
    obtain ⟨T6, h6, X6, e6, E6, A6, D6, -, st6⟩ := newO X5 hx hZ hown (own_w hw 5 rfl) (own_w hw 6 rfl) (own_w hw 7 rfl) e5 (g := (mkF m 114 #[.val (.int p1), .val (.int p2), .val (.int p3), .val (.int p4), .val (.int (1 : Int32)), .val (.int d1), .val (.int d2), .val (.int d3), .val (.ref b4), .unset, .unset, .unset] [])) rfl (hb hby at_114) (by decide) (by decide)
    obtain ⟨b6, g6⟩ : ∃ z, z = h5.size := ⟨_, rfl⟩
    rw [← g6] at A6 D6 st6
    refine OGo.via st6 ?_
    have K6 : Keep h0 h6 [] := K5.ext E6
    have lt_b4_b6 : b4 < b6 := Nat.lt_of_lt_of_le f7.lt (Nat.le_of_eq g6.symm)
    have sz_b6 : h0.size ≤ b6 := Nat.le_trans K5.1 (Nat.le_of_eq g6.symm)
    have g_b6 : n0 ≤ b6 := Nat.le_trans Z0 sz_b6
    have F6_path : Fld Z h6 b6 "com/example/ianus/ianus/server/LiteralPath" "path" "Ljava/lang/String;" .null := D6 (Or.inr (own_w hw 47 rfl)) (ty := (.object "java/lang/String")) (by decide)
    show OGo _ _ _ _ (T6.setTop (mkF m 117 #[.val (.int p1), .val (.int p2), .val (.int p3), .val (.int p4), .val (.int (1 : Int32)), .val (.int d1), .val (.int d2), .val (.int d3), .val (.ref b4), .unset, .unset, .unset] [(.ref b6)]))
    refine OGo.via (fun _ k => XS.dup X6.here hx rfl (hb hby at_117) rfl rfl k) ?_
    have f9 := f7.ext E6
    obtain ⟨T8, h8, X8, e8, E8, A8, D8, -, st8⟩ := newO X6 hx hZ hown (own_w hw 8 rfl) (own_w hw 9 rfl) (own_w hw 10 rfl) e6 (g := (mkF m 118 #[.val (.int p1), .val (.int p2), .val (.int p3), .val (.int p4), .val (.int (1 : Int32)), .val (.int d1), .val (.int d2), .val (.int d3), .val (.ref b4), .unset, .unset, .unset] [(.ref b6), (.ref b6)])) rfl (hb hby at_118) (by decide) (by decide)
    obtain ⟨b8, g8⟩ : ∃ z, z = h6.size := ⟨_, rfl⟩
    rw [← g8] at A8 D8 st8
    refine OGo.via st8 ?_
    have K8 : Keep h0 h8 [] := K6.ext E8
    have lt_b4_b8 : b4 < b8 := Nat.lt_of_lt_of_le f9.lt (Nat.le_of_eq g8.symm)
    have lt_b6_b8 : b6 < b8 := Nat.lt_of_lt_of_le A6.lt (Nat.le_of_eq g8.symm)
    have sz_b8 : h0.size ≤ b8 := Nat.le_trans K6.1 (Nat.le_of_eq g8.symm)
    have g_b8 : n0 ≤ b8 := Nat.le_trans Z0 sz_b8
    have F8_coder : Fld Z h8 b8 "java/lang/String" "coder" "B" (.int (0 : Int32)) := D8 (Or.inr (own_w hw 34 rfl)) (ty := .byte) (by decide)
    have F8_value : Fld Z h8 b8 "java/lang/String" "value" "[B" .null := D8 (Or.inr (own_w hw 36 rfl)) (ty := (.array .byte)) (by decide)
    show OGo _ _ _ _ (T8.setTop (mkF m 121 #[.val (.int p1), .val (.int p2), .val (.int p3), .val (.int p4), .val (.int (1 : Int32)), .val (.int d1), .val (.int d2), .val (.int d3), .val (.ref b4), .unset, .unset, .unset] [(.ref b8), (.ref b6), (.ref b6)]))
    refine OGo.via (fun _ k => XS.dup X8.here hx rfl (hb hby at_121) rfl rfl (XS.aload X8.here hx rfl (hb hby at_122) rfl rfl k)) ?_
    have f11 := V5.ext E6
    have f12 := f11.ext E8
    have f13 := own_staKeep0 S_COMPACT_STRINGS K8
    have f14 := own_staKeep0 S_SIOOBE_FORMATTER K8
    have f15 := f9.ext E8
    have f16 := A6.ext E8
    obtain ⟨_, T10, Lc10, X10, hQ10, st10⟩ := own_open X8 (X8.specialBack hx (y := own_y11) rfl hown (mvT hZ (own_w hw 11 rfl)) (mvT hZ (own_w hw 12 rfl)) (mvT hZ (own_w hw 13 rfl)) (by decide) (backOf (W := 3) (rm2_1 l Z a0 hw [] b8 b4 ka4 w fm (47 : Int32) h8 n0 (Nat.le_trans Z0 K8.1) A8 F8_value F8_coder f12 g_b8 f13 f14 hw0 (by decide)) hZ (own_w hw 13 rfl) (own_w hw 10 rfl) (by decide) (by decide)) (g := (mkF m 124 #[.val (.int p1), .val (.int p2), .val (.int p3), .val (.int p4), .val (.int (1 : Int32)), .val (.int d1), .val (.int d2), .val (.int d3), .val (.ref b4), .unset, .unset, .unset] [(.ref b4), (.ref b8), (.ref b8), (.ref b6), (.ref b6)])) rfl (by rw [hml]; rfl) (Steps.refl _) (a := b8) (argsL := [(.ref b4)]) (rest := [(.ref b8), (.ref b6), (.ref b6)]) (lenOf pd_21 rfl) rfl (by show 2 * 0 + _ ≤ _; exact Nat.le_of_eq rfl) (hb hby at_124) (fun _ _ => ⟨rfl, e8, (by decide : 3 + 1 ≤ _), (by decide : 6 + 1 ≤ _)⟩))
    obtain ⟨va, ka, rfl, N10q, r10_0, r10_1, r10_2, r10_3, r10_4, r10_5, r10_6, r10_7⟩ := hQ10
    have N10 := Fr.app N5 N10q
    have K10 : Keep h0 T10.heap [] := K8.trans r10_0 (allS (Or.inr sz_b8) all0)
    have lt_b4_va : b4 < va := Nat.lt_of_lt_of_le f15.lt r10_1
    have lt_b6_va : b6 < va := Nat.lt_of_lt_of_le f16.lt r10_1
    have lt_b8_va : b8 < va := Nat.lt_of_lt_of_le A8.lt r10_1
    have sz_va : h0.size ≤ va := Nat.le_trans K8.1 r10_1
    have g_va : n0 ≤ va := Nat.le_trans Z0 sz_va
    refine OGo.via (fun _ k => st10.trans k) ?_
    show OGo _ _ _ _ (T10.setTop (mkF m 127 #[.val (.int p1), .val (.int p2), .val (.int p3), .val (.int p4), .val (.int (1 : Int32)), .val (.int d1), .val (.int d2), .val (.int d3), .val (.ref b4), .unset, .unset, .unset] [(.ref b8), (.ref b6), (.ref b6)]))
    have f18 := f16.keep r10_0
    have f19 := F6_path.ext E8
    have f20 := f19.keep r10_0 (ninS (Nat.ne_of_lt lt_b6_b8) nin0)
    obtain ⟨_, T17, Lc17, X17, hQ17, st17⟩ := own_open X10 (X10.specialBack hx (y := own_y13) rfl hown (mvT hZ (own_w hw 37 rfl)) (mvT hZ (own_w hw 38 rfl)) (mvT hZ (own_w hw 39 rfl)) (by decide) (backOf (W := 1) (rm8 l Z a0 hw [] b6 b8 w fm T10.heap n0 (Nat.le_trans Z0 K10.1) f18 f20 g_b6 r10_6 r10_7) hZ (own_w hw 39 rfl) (own_w hw 7 rfl) (by decide) (by decide)) (g := (mkF m 127 #[.val (.int p1), .val (.int p2), .val (.int p3), .val (.int p4), .val (.int (1 : Int32)), .val (.int d1), .val (.int d2), .val (.int d3), .val (.ref b4), .unset, .unset, .unset] [(.ref b8), (.ref b6), (.ref b6)])) rfl (by rw [hml]; rfl) (Steps.refl _) (a := b6) (argsL := [(.ref b8)]) (rest := [(.ref b6)]) (lenOf pd_22 rfl) rfl (by show 2 * 0 + _ ≤ _; exact Nat.le_of_eq rfl) (hb hby at_127) (fun _ _ => ⟨rfl, rfl, (by decide : 4 + 0 ≤ _), (by decide : 7 + 0 ≤ _)⟩))
    obtain ⟨rfl, N17q, r17_0, r17_1, r17_2, r17_3⟩ := hQ17
    have N17 := Fr.app N10 N17q
    have K17 : Keep h0 T17.heap [] := K10.trans r17_0 (allS (Or.inr sz_b6) all0)
    refine OGo.via (fun _ k => st17.trans k) ?_
    show OGo _ _ _ _ (T17.setTop (mkF m 130 #[.val (.int p1), .val (.int p2), .val (.int p3), .val (.int p4), .val (.int (1 : Int32)), .val (.int d1), .val (.int d2), .val (.int d3), .val (.ref b4), .unset, .unset, .unset] [(.ref b6)]))
    have f21 := r10_5.keep r17_0 (ninS (Nat.ne_of_gt lt_b6_va) nin0)
    have f22 := f18.keep r17_0
    have f23 := r10_2.keep r17_0
    have f24 := r10_3.keep r17_0 (ninS (Nat.ne_of_gt lt_b6_b8) nin0)
    have f25 := r10_4.keep r17_0 (ninS (Nat.ne_of_gt lt_b6_b8) nin0)
    obtain ⟨cq26, kq26, q26a, q26b, q26c⟩ := isOf hZ rfl f22
    obtain ⟨_, T26, Lc26, X26, hSi26, hQ26, st26⟩ := own_openS X17 (X17.virtualBackS hx (y := own_y28) (z := own_y28) hown (mvT hZ (own_w hw 48 rfl)) (mvT hZ (own_w hw 49 rfl)) (notFace_of_selects (args := #[]) (mvT hZ (own_w hw 51 rfl))) (mvT hZ (own_w hw 51 rfl)) (mvT hZ (own_w hw 50 rfl)) (by decide) (own_backOfSH (W := 0) (rm10_1_1 l Z a0 hw [] b6 w fm va ka (((47 : Int32).toInt8.toInt32).toInt8.toInt32) b8 T17.heap n0 (Nat.le_trans Z0 K17.1) f22 r17_1 f23 f24 f25 f21 r17_2 r17_3 hw0 hr_fm (fun b cl q => K17.2.1 b cl (hz0 ▸ q) nin0) hhc hcw) hZH (own_w hw 52 rfl) (own_w hw 7 rfl) (by decide) (by decide)) q26a q26c (g := (mkF m 130 #[.val (.int p1), .val (.int p2), .val (.int p3), .val (.int p4), .val (.int (1 : Int32)), .val (.int d1), .val (.int d2), .val (.int d3), .val (.ref b4), .unset, .unset, .unset] [(.ref b6)])) rfl (by rw [hml]; rfl) (Steps.refl _) (argsL := []) (rest := []) (lenOf pd_23 rfl) rfl (by show 2 * 0 + _ ≤ _; exact Nat.le_of_eq rfl) (hb hby at_130) (fun _ _ => ⟨rfl, rfl, (by decide : 4 + 2 ≤ _), (by decide : 7 + 4 ≤ _)⟩))
    have hZ26 : Z.Warmed39 (s.setVm T26.vm).vm := State.Warmed39.trans hZ hSi26.1
    have hown26 : (s.setVm T26.vm).vm.findClass "com/example/ianus/ianus/server/LiteralPathFirstSegmentPinLaw" = some m.cls := by rw [show (s.setVm T26.vm).vm = T26.vm from rfl, hSi26.1.alike.findClass]; exact hown
    obtain ⟨rr, vr, kr, rfl, N26q, r26_0, r26_1, r26_2, r26_3, r26_4⟩ := hQ26
    have N26 := Fr.app N17 N26q
    have K26 : Keep h0 T26.heap [] := K17.trans r26_0 all0
    refine OGo.via (fun _ k => st26.trans k) ?_
    show OGo _ _ _ _ (T26.setTop (mkF m 133 #[.val (.int p1), .val (.int p2), .val (.int p3), .val (.int p4), .val (.int (1 : Int32)), .val (.int d1), .val (.int d2), .val (.int d3), .val (.ref b4), .unset, .unset, .unset] [(.ref rr)]))
    refine OGo.via (fun _ k => XS.astore X26.here hx rfl (hb hby at_133) rfl rfl (l' := #[.val (.int p1), .val (.int p2), .val (.int p3), .val (.int p4), .val (.int (1 : Int32)), .val (.int d1), .val (.int d2), .val (.int d3), .val (.ref b4), .val (.ref rr), .unset, .unset]) rfl (XS.iload X26.here hx rfl (hb hby at_135) rfl (XS.iconst X26.here hx rfl (hb hby at_137) (XS.icmpYes X26.here hx rfl (pc0 := 138) (pc' := 154) rfl (hb hby at_138) rfl (flt (by decide : ¬ ((1 : Int32) < (1 : Int32)))).2.2.2 (by decide) (by decide) (XS.iload X26.here hx rfl (hb hby at_154) rfl (XS.iconst X26.here hx rfl (hb hby at_156) (XS.icmpYes X26.here hx rfl (pc0 := 157) (pc' := 173) rfl (hb hby at_157) rfl (flt (by decide : ¬ ((2 : Int32) < (1 : Int32)))).2.2.2 (by decide) (by decide) (XS.iload X26.here hx rfl (hb hby at_173) rfl k)))))))) ?_
    show OGo _ _ _ _ (T26.setTop (mkF m 175 #[.val (.int p1), .val (.int p2), .val (.int p3), .val (.int p4), .val (.int (1 : Int32)), .val (.int d1), .val (.int d2), .val (.int d3), .val (.ref b4), .val (.ref rr), .unset, .unset] [(.int (1 : Int32))]))
    refine OGo.via (fun _ k => XS.iconst X26.here hx rfl (hb hby at_175) (XS.icmpYes X26.here hx rfl (pc0 := 176) (pc' := 192) rfl (hb hby at_176) rfl (flt (by decide : ¬ ((3 : Int32) < (1 : Int32)))).2.2.2 (by decide) (by decide) (XS.iload X26.here hx rfl (hb hby at_192) rfl (XS.istore X26.here hx rfl (hb hby at_194) rfl (l' := #[.val (.int p1), .val (.int p2), .val (.int p3), .val (.int p4), .val (.int (1 : Int32)), .val (.int d1), .val (.int d2), .val (.int d3), .val (.ref b4), .val (.ref rr), .val (.int (1 : Int32)), .unset]) rfl (XS.iload X26.here hx rfl (hb hby at_196) rfl (XS.iconst X26.here hx rfl (hb hby at_198) (XS.isub X26.here hx rfl (hb hby at_199) rfl k))))))) ?_
    show OGo _ _ _ _ (T26.setTop (mkF m 200 #[.val (.int p1), .val (.int p2), .val (.int p3), .val (.int p4), .val (.int (1 : Int32)), .val (.int d1), .val (.int d2), .val (.int d3), .val (.ref b4), .val (.ref rr), .val (.int (1 : Int32)), .unset] [(.int ((1 : Int32) - (1 : Int32)))]))
    rw [show ((1 : Int32) - (1 : Int32)) = (0 : Int32) from by decide]
    refine OGo.via (fun _ k => XS.istore X26.here hx rfl (hb hby at_200) rfl (l' := #[.val (.int p1), .val (.int p2), .val (.int p3), .val (.int p4), .val (.int (1 : Int32)), .val (.int d1), .val (.int d2), .val (.int d3), .val (.ref b4), .val (.ref rr), .val (.int (1 : Int32)), .val (.int (0 : Int32))]) rfl (XS.aload X26.here hx rfl (hb hby at_202) rfl rfl k)) ?_
    have f29 := own_staKeep0 r17_2 r26_0
    obtain ⟨cq28, kq28, q28a, q28b, q28c⟩ := isOf hZ26 rfl r26_1
    obtain ⟨_, T28, Lc28, X28, hQ28, st28⟩ := own_open X26 (X26.virtualBack hx (y := own_y6) (z := own_y6) hown26 (mvT hZ26 (own_w hw 107 rfl)) (mvT hZ26 (own_w hw 64 rfl)) (notFace_of_selects (args := #[]) (mvT hZ26 (own_w hw 66 rfl))) (mvT hZ26 (own_w hw 66 rfl)) (mvT hZ26 (own_w hw 65 rfl)) (by decide) (backOf (W := 0) (rm13 l Z a0 hw [] rr w vr kr [] (0 : Int32) T26.heap n0 (Nat.le_trans Z0 K26.1) r26_1 r26_2 r26_3 r26_4 f29 hw0) hZ26 (own_w hw 67 rfl) (own_w hw 10 rfl) (by decide) (by decide)) q28a q28c (g := (mkF m 204 #[.val (.int p1), .val (.int p2), .val (.int p3), .val (.int p4), .val (.int (1 : Int32)), .val (.int d1), .val (.int d2), .val (.int d3), .val (.ref b4), .val (.ref rr), .val (.int (1 : Int32)), .val (.int (0 : Int32))] [(.ref rr)])) rfl (by rw [hml]; rfl) (Steps.refl _) (argsL := []) (rest := []) (lenOf pd_11 rfl) rfl (by show 2 * 0 + _ ≤ _; exact Nat.le_of_eq rfl) (hb hby at_204) (fun _ _ => ⟨rfl, rfl, (by decide : 6 + 0 ≤ _), (by decide : 11 + 0 ≤ _)⟩))
    obtain ⟨rfl, N28q, r28_0⟩ := hQ28
    have N28 := Fr.app N26 N28q
    refine OGo.via (fun _ k => st28.trans k) ?_
    show OGo _ _ _ _ (T28.setTop (mkF m 207 #[.val (.int p1), .val (.int p2), .val (.int p3), .val (.int p4), .val (.int (1 : Int32)), .val (.int d1), .val (.int d2), .val (.int d3), .val (.ref b4), .val (.ref rr), .val (.int (1 : Int32)), .val (.int (0 : Int32))] [(.int (0 : Int32))]))
    refine OGo.via (fun _ k => XS.iload X28.here hx rfl (hb hby at_207) rfl (XS.icmpYes X28.here hx rfl (pc0 := 209) (pc' := 214) rfl (hb hby at_209) rfl (teq (by decide : (0 : Int32) = (0 : Int32))).1 (by decide) (by decide) (XS.iload X28.here hx rfl (hb hby at_214) rfl (XS.iconst X28.here hx rfl (hb hby at_216) (XS.icmpYes X28.here hx rfl (pc0 := 217) (pc' := 233) rfl (hb hby at_217) rfl (tlt (by decide : (0 : Int32) < (1 : Int32))).1 (by decide) (by decide) (XS.iload X28.here hx rfl (hb hby at_233) rfl (XS.iconst X28.here hx rfl (hb hby at_235) (XS.icmpYes X28.here hx rfl (pc0 := 236) (pc' := 252) rfl (hb hby at_236) rfl (tlt (by decide : (0 : Int32) < (2 : Int32))).1 (by decide) (by decide) k)))))))) ?_
    show OGo _ _ _ _ (T28.setTop (mkF m 252 #[.val (.int p1), .val (.int p2), .val (.int p3), .val (.int p4), .val (.int (1 : Int32)), .val (.int d1), .val (.int d2), .val (.int d3), .val (.ref b4), .val (.ref rr), .val (.int (1 : Int32)), .val (.int (0 : Int32))] []))
    refine OGo.via (fun _ k => XS.iload X28.here hx rfl (hb hby at_252) rfl (XS.iconst X28.here hx rfl (hb hby at_254) (XS.icmpYes X28.here hx rfl (pc0 := 255) (pc' := 271) rfl (hb hby at_255) rfl (tlt (by decide : (0 : Int32) < (3 : Int32))).1 (by decide) (by decide) (XS.iconst X28.here hx rfl (hb hby at_271) k)))) ?_
    show OGo _ _ _ _ (T28.setTop (mkF m 272 #[.val (.int p1), .val (.int p2), .val (.int p3), .val (.int p4), .val (.int (1 : Int32)), .val (.int d1), .val (.int d2), .val (.int d3), .val (.ref b4), .val (.ref rr), .val (.int (1 : Int32)), .val (.int (0 : Int32))] [(.int (1 : Int32))]))
    refine own_retNW (t := .boolean) (by simp) X28 hSi26 (Nat.le_trans (Nat.le_refl T26.heap.size) (Nat.le_of_eq (congrArg Array.size (Eq.symm r28_0)))) hx Bd.notSynchronized Bd.returns (hb hby at_272) (by decide) (by decide) ?_
    show Q_rm0 Z _ _ _ _ _ _ h0 n0 _ T28.heap _
    rw [r28_0]
    exact ⟨rfl, N28⟩
  · show OGo _ _ _ _ (T3.setTop (mkF m 25 #[.val (.int p1), .val (.int p2), .val (.int p3), .val (.int p4), .val (.int (2 : Int32)), .val (.int d1), .val (.int d2), .val (.int d3), .unset, .unset, .unset, .unset] []))
    refine OGo.via (fun _ k => XS.iload X3.here hx rfl (hb hby at_25) rfl (XS.iconst X3.here hx rfl (hb hby at_27) (XS.icmpYes X3.here hx rfl (pc0 := 28) (pc' := 39) rfl (hb hby at_28) rfl (feq (by decide : ¬ ((2 : Int32) = (1 : Int32)))).2 (by decide) (by decide) (XS.iload X3.here hx rfl (hb hby at_39) rfl (XS.iconst X3.here hx rfl (hb hby at_41) (XS.icmpNo X3.here hx rfl (hb hby at_42) rfl (teq (by decide : (2 : Int32) = (2 : Int32))).2 (XS.iconst X3.here hx rfl (hb hby at_45) k))))))) ?_
    obtain ⟨T30, h30, ka30, X30, e30, E30, A30, Y30, st30⟩ := newPE (ad := "[C") X3 hx hZ (own_w hw 4 rfl) r3_0 (g := (mkF m 46 #[.val (.int p1), .val (.int p2), .val (.int p3), .val (.int p4), .val (.int (2 : Int32)), .val (.int d1), .val (.int d2), .val (.int d3), .unset, .unset, .unset, .unset] [(.int (2 : Int32))])) rfl (hb hby at_46) rfl (by decide) (cap := 2) (by decide) (by decide) (by decide) (by decide) (by decide)
    obtain ⟨b30, g30⟩ : ∃ z, z = h0.size := ⟨_, rfl⟩
    rw [← g30] at A30 Y30 st30
    refine OGo.via st30 ?_
    have K30 : Keep h0 h30 [] := (Keep.refl h0 []).ext E30
    have sz_b30 : h0.size ≤ b30 := Nat.le_trans (Keep.refl h0 []).1 (Nat.le_of_eq g30.symm)
    have g_b30 : n0 ≤ b30 := Nat.le_trans Z0 sz_b30
    have V30 : Arv Z h30 b30 ka30 .char (2 : Int32) [(.int (0 : Int32)), (.int (0 : Int32))] (.int (0 : Int32)) := (Arv.new A30 (by decide)).pad (pad_rep [] (.int (0 : Int32)) 2)
    show OGo _ _ _ _ (T30.setTop (mkF m 48 #[.val (.int p1), .val (.int p2), .val (.int p3), .val (.int p4), .val (.int (2 : Int32)), .val (.int d1), .val (.int d2), .val (.int d3), .unset, .unset, .unset, .unset] [(.ref b30)]))
    refine OGo.via (fun _ k => XS.astore X30.here hx rfl (hb hby at_48) rfl rfl (l' := #[.val (.int p1), .val (.int p2), .val (.int p3), .val (.int p4), .val (.int (2 : Int32)), .val (.int d1), .val (.int d2), .val (.int d3), .val (.ref b30), .unset, .unset, .unset]) rfl (XS.goto X30.here hx rfl (pc0 := 50) (pc' := 72) rfl (hb hby at_50) (by decide) (by decide) (XS.aload X30.here hx rfl (hb hby at_72) rfl rfl (XS.iconst X30.here hx rfl (hb hby at_74) (XS.bipush X30.here hx rfl (hb hby at_75) k))))) ?_
    obtain ⟨cl31, Ar31, q31, Sz31, Ng31, Hs31, Gf31⟩ := id V30
    have hin31 : ¬ ((0 : Int32) < 0 ∨ cl31.slots.size ≤ ((0 : Int32)).toNatClampNeg) := inb_of Sz31 ⟨by decide, by decide⟩
    obtain ⟨T31, h31, X31, e31, W31, st31⟩ := stC X30 hx hZ e30 Ar31 (j := (0 : Int32)) hin31 (g := (mkF m 77 #[.val (.int p1), .val (.int p2), .val (.int p3), .val (.int p4), .val (.int (2 : Int32)), .val (.int d1), .val (.int d2), .val (.int d3), .val (.ref b30), .unset, .unset, .unset] [(.int (47 : Int32)), (.int (0 : Int32)), (.ref b30)])) rfl rfl (hb hby at_77)
    refine OGo.via st31 ?_
    have V31 : Arv Z h31 b30 ka30 .char (2 : Int32) [(.int (nar .char (47 : Int32))), (.int (0 : Int32))] (.int (0 : Int32)) := Arv.set Ar31 q31 Sz31 Ng31 Hs31 Gf31 (fits_nar_char _) W31 0 rfl (Nat.le_of_ble_eq_true rfl)
    have K31 : Keep h0 h31 [] := K30.wr W31 (Or.inr sz_b30)
    have N31 := Fr.snoc X31 N3 g_b30
    show OGo _ _ _ _ (T31.setTop (mkF m 78 #[.val (.int p1), .val (.int p2), .val (.int p3), .val (.int p4), .val (.int (2 : Int32)), .val (.int d1), .val (.int d2), .val (.int d3), .val (.ref b30), .unset, .unset, .unset] []))
    refine OGo.via (fun _ k => XS.iload X31.here hx rfl (hb hby at_78) rfl (XS.iconst X31.here hx rfl (hb hby at_80) (XS.icmpNo X31.here hx rfl (hb hby at_81) rfl (tlt (by decide : (1 : Int32) < (2 : Int32))).2.2.2 (XS.aload X31.here hx rfl (hb hby at_84) rfl rfl (XS.iconst X31.here hx rfl (hb hby at_86) (XS.iload X31.here hx rfl (hb hby at_87) rfl k)))))) ?_
    obtain ⟨cl32, Ar32, q32, Sz32, Ng32, Hs32, Gf32⟩ := id V31
    have hin32 : ¬ ((1 : Int32) < 0 ∨ cl32.slots.size ≤ ((1 : Int32)).toNatClampNeg) := inb_of Sz32 ⟨by decide, by decide⟩
    obtain ⟨T32, h32, X32, e32, W32, st32⟩ := stC X31 hx hZ e31 Ar32 (j := (1 : Int32)) hin32 (g := (mkF m 89 #[.val (.int p1), .val (.int p2), .val (.int p3), .val (.int p4), .val (.int (2 : Int32)), .val (.int d1), .val (.int d2), .val (.int d3), .val (.ref b30), .unset, .unset, .unset] [(.int d1), (.int (1 : Int32)), (.ref b30)])) rfl rfl (hb hby at_89)
    refine OGo.via st32 ?_
    have V32 : Arv Z h32 b30 ka30 .char (2 : Int32) [(.int (nar .char (47 : Int32))), (.int (nar .char d1))] (.int (0 : Int32)) := Arv.set Ar32 q32 Sz32 Ng32 Hs32 Gf32 (fits_nar_char _) W32 1 rfl (Nat.le_of_ble_eq_true rfl)
    have K32 : Keep h0 h32 [] := K31.wr W32 (Or.inr sz_b30)
    have N32 := Fr.snoc X32 N31 g_b30
    show OGo _ _ _ _ (T32.setTop (mkF m 90 #[.val (.int p1), .val (.int p2), .val (.int p3), .val (.int p4), .val (.int (2 : Int32)), .val (.int d1), .val (.int d2), .val (.int d3), .val (.ref b30), .unset, .unset, .unset] []))
    refine OGo.via (fun _ k => XS.iload X32.here hx rfl (hb hby at_90) rfl (XS.iconst X32.here hx rfl (hb hby at_92) (XS.icmpYes X32.here hx rfl (pc0 := 93) (pc' := 102) rfl (hb hby at_93) rfl (flt (by decide : ¬ ((2 : Int32) < (2 : Int32)))).2.2.2 (by decide) (by decide) (XS.iload X32.here hx rfl (hb hby at_102) rfl (XS.iconst X32.here hx rfl (hb hby at_104) (XS.icmpYes X32.here hx rfl (pc0 := 105) (pc' := 114) rfl (hb hby at_105) rfl (flt (by decide : ¬ ((3 : Int32) < (2 : Int32)))).2.2.2 (by decide) (by decide) k)))))) ?_
    rw [show nar .char (47 : Int32) = 47 from by decide, r1_1.1] at V32
    have f34 := Y30.wr W31
    have f35 := f34.wr W32
    obtain ⟨T33, h33, X33, e33, E33, A33, D33, -, st33⟩ := newO X32 hx hZ hown (own_w hw 5 rfl) (own_w hw 6 rfl) (own_w hw 7 rfl) e32 (g := (mkF m 114 #[.val (.int p1), .val (.int p2), .val (.int p3), .val (.int p4), .val (.int (2 : Int32)), .val (.int d1), .val (.int d2), .val (.int d3), .val (.ref b30), .unset, .unset, .unset] [])) rfl (hb hby at_114) (by decide) (by decide)
    obtain ⟨b33, g33⟩ : ∃ z, z = h32.size := ⟨_, rfl⟩
    rw [← g33] at A33 D33 st33
    refine OGo.via st33 ?_
    have K33 : Keep h0 h33 [] := K32.ext E33
    have lt_b30_b33 : b30 < b33 := Nat.lt_of_lt_of_le f35.lt (Nat.le_of_eq g33.symm)
    have sz_b33 : h0.size ≤ b33 := Nat.le_trans K32.1 (Nat.le_of_eq g33.symm)
    have g_b33 : n0 ≤ b33 := Nat.le_trans Z0 sz_b33
    have F33_path : Fld Z h33 b33 "com/example/ianus/ianus/server/LiteralPath" "path" "Ljava/lang/String;" .null := D33 (Or.inr (own_w hw 47 rfl)) (ty := (.object "java/lang/String")) (by decide)
    show OGo _ _ _ _ (T33.setTop (mkF m 117 #[.val (.int p1), .val (.int p2), .val (.int p3), .val (.int p4), .val (.int (2 : Int32)), .val (.int d1), .val (.int d2), .val (.int d3), .val (.ref b30), .unset, .unset, .unset] [(.ref b33)]))
    refine OGo.via (fun _ k => XS.dup X33.here hx rfl (hb hby at_117) rfl rfl k) ?_
    have f37 := f35.ext E33
    obtain ⟨T36, h36, X36, e36, E36, A36, D36, -, st36⟩ := newO X33 hx hZ hown (own_w hw 8 rfl) (own_w hw 9 rfl) (own_w hw 10 rfl) e33 (g := (mkF m 118 #[.val (.int p1), .val (.int p2), .val (.int p3), .val (.int p4), .val (.int (2 : Int32)), .val (.int d1), .val (.int d2), .val (.int d3), .val (.ref b30), .unset, .unset, .unset] [(.ref b33), (.ref b33)])) rfl (hb hby at_118) (by decide) (by decide)
    obtain ⟨b36, g36⟩ : ∃ z, z = h33.size := ⟨_, rfl⟩
    rw [← g36] at A36 D36 st36
    refine OGo.via st36 ?_
    have K36 : Keep h0 h36 [] := K33.ext E36
    have lt_b30_b36 : b30 < b36 := Nat.lt_of_lt_of_le f37.lt (Nat.le_of_eq g36.symm)
    have lt_b33_b36 : b33 < b36 := Nat.lt_of_lt_of_le A33.lt (Nat.le_of_eq g36.symm)
    have sz_b36 : h0.size ≤ b36 := Nat.le_trans K33.1 (Nat.le_of_eq g36.symm)
    have g_b36 : n0 ≤ b36 := Nat.le_trans Z0 sz_b36
    have F36_coder : Fld Z h36 b36 "java/lang/String" "coder" "B" (.int (0 : Int32)) := D36 (Or.inr (own_w hw 34 rfl)) (ty := .byte) (by decide)
    have F36_value : Fld Z h36 b36 "java/lang/String" "value" "[B" .null := D36 (Or.inr (own_w hw 36 rfl)) (ty := (.array .byte)) (by decide)
    show OGo _ _ _ _ (T36.setTop (mkF m 121 #[.val (.int p1), .val (.int p2), .val (.int p3), .val (.int p4), .val (.int (2 : Int32)), .val (.int d1), .val (.int d2), .val (.int d3), .val (.ref b30), .unset, .unset, .unset] [(.ref b36), (.ref b33), (.ref b33)]))
    refine OGo.via (fun _ k => XS.dup X36.here hx rfl (hb hby at_121) rfl rfl (XS.aload X36.here hx rfl (hb hby at_122) rfl rfl k)) ?_
    have f39 := V32.ext E33
    have f40 := f39.ext E36
    have f41 := own_staKeep0 S_COMPACT_STRINGS K36
    have f42 := own_staKeep0 S_SIOOBE_FORMATTER K36
    have f43 := f37.ext E36
    have f44 := A33.ext E36
    obtain ⟨_, T38, Lc38, X38, hQ38, st38⟩ := own_open X36 (X36.specialBack hx (y := own_y11) rfl hown (mvT hZ (own_w hw 11 rfl)) (mvT hZ (own_w hw 12 rfl)) (mvT hZ (own_w hw 13 rfl)) (by decide) (backOf (W := 3) (rm2_2 l Z a0 hw [] b36 b30 ka30 w fm (47 : Int32) d1 h36 n0 (Nat.le_trans Z0 K36.1) A36 F36_value F36_coder f40 g_b36 f41 f42 hw0 (by decide) r1_1.2.1) hZ (own_w hw 13 rfl) (own_w hw 10 rfl) (by decide) (by decide)) (g := (mkF m 124 #[.val (.int p1), .val (.int p2), .val (.int p3), .val (.int p4), .val (.int (2 : Int32)), .val (.int d1), .val (.int d2), .val (.int d3), .val (.ref b30), .unset, .unset, .unset] [(.ref b30), (.ref b36), (.ref b36), (.ref b33), (.ref b33)])) rfl (by rw [hml]; rfl) (Steps.refl _) (a := b36) (argsL := [(.ref b30)]) (rest := [(.ref b36), (.ref b33), (.ref b33)]) (lenOf pd_21 rfl) rfl (by show 2 * 0 + _ ≤ _; exact Nat.le_of_eq rfl) (hb hby at_124) (fun _ _ => ⟨rfl, e36, (by decide : 3 + 1 ≤ _), (by decide : 7 + 2 ≤ _)⟩))
    obtain ⟨va, ka, rfl, N38q, r38_0, r38_1, r38_2, r38_3, r38_4, r38_5, r38_6, r38_7⟩ := hQ38
    have N38 := Fr.app N32 N38q
    have K38 : Keep h0 T38.heap [] := K36.trans r38_0 (allS (Or.inr sz_b36) all0)
    have lt_b30_va : b30 < va := Nat.lt_of_lt_of_le f43.lt r38_1
    have lt_b33_va : b33 < va := Nat.lt_of_lt_of_le f44.lt r38_1
    have lt_b36_va : b36 < va := Nat.lt_of_lt_of_le A36.lt r38_1
    have sz_va : h0.size ≤ va := Nat.le_trans K36.1 r38_1
    have g_va : n0 ≤ va := Nat.le_trans Z0 sz_va
    refine OGo.via (fun _ k => st38.trans k) ?_
    show OGo _ _ _ _ (T38.setTop (mkF m 127 #[.val (.int p1), .val (.int p2), .val (.int p3), .val (.int p4), .val (.int (2 : Int32)), .val (.int d1), .val (.int d2), .val (.int d3), .val (.ref b30), .unset, .unset, .unset] [(.ref b36), (.ref b33), (.ref b33)]))
    have f46 := f44.keep r38_0
    have f47 := F33_path.ext E36
    have f48 := f47.keep r38_0 (ninS (Nat.ne_of_lt lt_b33_b36) nin0)
    obtain ⟨_, T45, Lc45, X45, hQ45, st45⟩ := own_open X38 (X38.specialBack hx (y := own_y13) rfl hown (mvT hZ (own_w hw 37 rfl)) (mvT hZ (own_w hw 38 rfl)) (mvT hZ (own_w hw 39 rfl)) (by decide) (backOf (W := 1) (rm8 l Z a0 hw [] b33 b36 w fm T38.heap n0 (Nat.le_trans Z0 K38.1) f46 f48 g_b33 r38_6 r38_7) hZ (own_w hw 39 rfl) (own_w hw 7 rfl) (by decide) (by decide)) (g := (mkF m 127 #[.val (.int p1), .val (.int p2), .val (.int p3), .val (.int p4), .val (.int (2 : Int32)), .val (.int d1), .val (.int d2), .val (.int d3), .val (.ref b30), .unset, .unset, .unset] [(.ref b36), (.ref b33), (.ref b33)])) rfl (by rw [hml]; rfl) (Steps.refl _) (a := b33) (argsL := [(.ref b36)]) (rest := [(.ref b33)]) (lenOf pd_22 rfl) rfl (by show 2 * 0 + _ ≤ _; exact Nat.le_of_eq rfl) (hb hby at_127) (fun _ _ => ⟨rfl, rfl, (by decide : 4 + 0 ≤ _), (by decide : 9 + 0 ≤ _)⟩))
    obtain ⟨rfl, N45q, r45_0, r45_1, r45_2, r45_3⟩ := hQ45
    have N45 := Fr.app N38 N45q
    have K45 : Keep h0 T45.heap [] := K38.trans r45_0 (allS (Or.inr sz_b33) all0)
    refine OGo.via (fun _ k => st45.trans k) ?_
    show OGo _ _ _ _ (T45.setTop (mkF m 130 #[.val (.int p1), .val (.int p2), .val (.int p3), .val (.int p4), .val (.int (2 : Int32)), .val (.int d1), .val (.int d2), .val (.int d3), .val (.ref b30), .unset, .unset, .unset] [(.ref b33)]))
    have f49 := r38_5.keep r45_0 (ninS (Nat.ne_of_gt lt_b33_va) nin0)
    have f50 := f46.keep r45_0
    have f51 := r38_2.keep r45_0
    have f52 := r38_3.keep r45_0 (ninS (Nat.ne_of_gt lt_b33_b36) nin0)
    have f53 := r38_4.keep r45_0 (ninS (Nat.ne_of_gt lt_b33_b36) nin0)
    by_cases hq1 : d1 = (47 : Int32)
    · obtain ⟨cq54, kq54, q54a, q54b, q54c⟩ := isOf hZ rfl f50
      obtain ⟨_, T54, Lc54, X54, hSi54, hQ54, st54⟩ := own_openS X45 (X45.virtualBackS hx (y := own_y28) (z := own_y28) hown (mvT hZ (own_w hw 48 rfl)) (mvT hZ (own_w hw 49 rfl)) (notFace_of_selects (args := #[]) (mvT hZ (own_w hw 51 rfl))) (mvT hZ (own_w hw 51 rfl)) (mvT hZ (own_w hw 50 rfl)) (by decide) (own_backOfSH (W := 0) (rm10_2_1 l Z a0 hw [] b33 w fm va ka (((47 : Int32).toInt8.toInt32).toInt8.toInt32) ((d1.toInt8.toInt32).toInt8.toInt32) b36 T45.heap n0 (Nat.le_trans Z0 K45.1) f50 r45_1 f51 f52 f53 f49 r45_2 r45_3 hw0 hr_fm ((own_b47 r1_1).mpr hq1) (fun b cl q => K45.2.1 b cl (hz0 ▸ q) nin0) hhc hcw) hZH (own_w hw 52 rfl) (own_w hw 7 rfl) (by decide) (by decide)) q54a q54c (g := (mkF m 130 #[.val (.int p1), .val (.int p2), .val (.int p3), .val (.int p4), .val (.int (2 : Int32)), .val (.int d1), .val (.int d2), .val (.int d3), .val (.ref b30), .unset, .unset, .unset] [(.ref b33)])) rfl (by rw [hml]; rfl) (Steps.refl _) (argsL := []) (rest := []) (lenOf pd_23 rfl) rfl (by show 2 * 0 + _ ≤ _; exact Nat.le_of_eq rfl) (hb hby at_130) (fun _ _ => ⟨rfl, rfl, (by decide : 4 + 2 ≤ _), (by decide : 9 + 4 ≤ _)⟩))
      have hZ54 : Z.Warmed39 (s.setVm T54.vm).vm := State.Warmed39.trans hZ hSi54.1
      have hown54 : (s.setVm T54.vm).vm.findClass "com/example/ianus/ianus/server/LiteralPathFirstSegmentPinLaw" = some m.cls := by rw [show (s.setVm T54.vm).vm = T54.vm from rfl, hSi54.1.alike.findClass]; exact hown
      obtain ⟨rr, vr, kr, rfl, N54q, r54_0, r54_1, r54_2, r54_3, r54_4⟩ := hQ54
      have N54 := Fr.app N45 N54q
      have K54 : Keep h0 T54.heap [] := K45.trans r54_0 all0
      refine OGo.via (fun _ k => st54.trans k) ?_
      show OGo _ _ _ _ (T54.setTop (mkF m 133 #[.val (.int p1), .val (.int p2), .val (.int p3), .val (.int p4), .val (.int (2 : Int32)), .val (.int d1), .val (.int d2), .val (.int d3), .val (.ref b30), .unset, .unset, .unset] [(.ref rr)]))
      refine OGo.via (fun _ k => XS.astore X54.here hx rfl (hb hby at_133) rfl rfl (l' := #[.val (.int p1), .val (.int p2), .val (.int p3), .val (.int p4), .val (.int (2 : Int32)), .val (.int d1), .val (.int d2), .val (.int d3), .val (.ref b30), .val (.ref rr), .unset, .unset]) rfl (XS.iload X54.here hx rfl (hb hby at_135) rfl (XS.iconst X54.here hx rfl (hb hby at_137) (XS.icmpNo X54.here hx rfl (hb hby at_138) rfl (tlt (by decide : (1 : Int32) < (2 : Int32))).2.2.2 (XS.iload X54.here hx rfl (hb hby at_141) rfl (XS.bipush X54.here hx rfl (hb hby at_143) (XS.icmpNo X54.here hx rfl (hb hby at_145) rfl (teq hq1).2 (XS.iconst X54.here hx rfl (hb hby at_148) k)))))))) ?_
      show OGo _ _ _ _ (T54.setTop (mkF m 149 #[.val (.int p1), .val (.int p2), .val (.int p3), .val (.int p4), .val (.int (2 : Int32)), .val (.int d1), .val (.int d2), .val (.int d3), .val (.ref b30), .val (.ref rr), .unset, .unset] [(.int (1 : Int32))]))
      refine OGo.via (fun _ k => XS.istore X54.here hx rfl (hb hby at_149) rfl (l' := #[.val (.int p1), .val (.int p2), .val (.int p3), .val (.int p4), .val (.int (2 : Int32)), .val (.int d1), .val (.int d2), .val (.int d3), .val (.ref b30), .val (.ref rr), .val (.int (1 : Int32)), .unset]) rfl (XS.goto X54.here hx rfl (pc0 := 151) (pc' := 196) rfl (hb hby at_151) (by decide) (by decide) (XS.iload X54.here hx rfl (hb hby at_196) rfl (XS.iconst X54.here hx rfl (hb hby at_198) (XS.isub X54.here hx rfl (hb hby at_199) rfl k))))) ?_
      show OGo _ _ _ _ (T54.setTop (mkF m 200 #[.val (.int p1), .val (.int p2), .val (.int p3), .val (.int p4), .val (.int (2 : Int32)), .val (.int d1), .val (.int d2), .val (.int d3), .val (.ref b30), .val (.ref rr), .val (.int (1 : Int32)), .unset] [(.int ((1 : Int32) - (1 : Int32)))]))
      rw [show ((1 : Int32) - (1 : Int32)) = (0 : Int32) from by decide]
      refine OGo.via (fun _ k => XS.istore X54.here hx rfl (hb hby at_200) rfl (l' := #[.val (.int p1), .val (.int p2), .val (.int p3), .val (.int p4), .val (.int (2 : Int32)), .val (.int d1), .val (.int d2), .val (.int d3), .val (.ref b30), .val (.ref rr), .val (.int (1 : Int32)), .val (.int (0 : Int32))]) rfl (XS.aload X54.here hx rfl (hb hby at_202) rfl rfl k)) ?_
      have f57 := own_staKeep0 r45_2 r54_0
      obtain ⟨cq56, kq56, q56a, q56b, q56c⟩ := isOf hZ54 rfl r54_1
      obtain ⟨_, T56, Lc56, X56, hQ56, st56⟩ := own_open X54 (X54.virtualBack hx (y := own_y6) (z := own_y6) hown54 (mvT hZ54 (own_w hw 107 rfl)) (mvT hZ54 (own_w hw 64 rfl)) (notFace_of_selects (args := #[]) (mvT hZ54 (own_w hw 66 rfl))) (mvT hZ54 (own_w hw 66 rfl)) (mvT hZ54 (own_w hw 65 rfl)) (by decide) (backOf (W := 0) (rm13 l Z a0 hw [] rr w vr kr [] (0 : Int32) T54.heap n0 (Nat.le_trans Z0 K54.1) r54_1 r54_2 r54_3 r54_4 f57 hw0) hZ54 (own_w hw 67 rfl) (own_w hw 10 rfl) (by decide) (by decide)) q56a q56c (g := (mkF m 204 #[.val (.int p1), .val (.int p2), .val (.int p3), .val (.int p4), .val (.int (2 : Int32)), .val (.int d1), .val (.int d2), .val (.int d3), .val (.ref b30), .val (.ref rr), .val (.int (1 : Int32)), .val (.int (0 : Int32))] [(.ref rr)])) rfl (by rw [hml]; rfl) (Steps.refl _) (argsL := []) (rest := []) (lenOf pd_11 rfl) rfl (by show 2 * 0 + _ ≤ _; exact Nat.le_of_eq rfl) (hb hby at_204) (fun _ _ => ⟨rfl, rfl, (by decide : 6 + 0 ≤ _), (by decide : 13 + 0 ≤ _)⟩))
      obtain ⟨rfl, N56q, r56_0⟩ := hQ56
      have N56 := Fr.app N54 N56q
      refine OGo.via (fun _ k => st56.trans k) ?_
      show OGo _ _ _ _ (T56.setTop (mkF m 207 #[.val (.int p1), .val (.int p2), .val (.int p3), .val (.int p4), .val (.int (2 : Int32)), .val (.int d1), .val (.int d2), .val (.int d3), .val (.ref b30), .val (.ref rr), .val (.int (1 : Int32)), .val (.int (0 : Int32))] [(.int (0 : Int32))]))
      refine OGo.via (fun _ k => XS.iload X56.here hx rfl (hb hby at_207) rfl (XS.icmpYes X56.here hx rfl (pc0 := 209) (pc' := 214) rfl (hb hby at_209) rfl (teq (by decide : (0 : Int32) = (0 : Int32))).1 (by decide) (by decide) (XS.iload X56.here hx rfl (hb hby at_214) rfl (XS.iconst X56.here hx rfl (hb hby at_216) (XS.icmpYes X56.here hx rfl (pc0 := 217) (pc' := 233) rfl (hb hby at_217) rfl (tlt (by decide : (0 : Int32) < (1 : Int32))).1 (by decide) (by decide) (XS.iload X56.here hx rfl (hb hby at_233) rfl (XS.iconst X56.here hx rfl (hb hby at_235) (XS.icmpYes X56.here hx rfl (pc0 := 236) (pc' := 252) rfl (hb hby at_236) rfl (tlt (by decide : (0 : Int32) < (2 : Int32))).1 (by decide) (by decide) k)))))))) ?_
      show OGo _ _ _ _ (T56.setTop (mkF m 252 #[.val (.int p1), .val (.int p2), .val (.int p3), .val (.int p4), .val (.int (2 : Int32)), .val (.int d1), .val (.int d2), .val (.int d3), .val (.ref b30), .val (.ref rr), .val (.int (1 : Int32)), .val (.int (0 : Int32))] []))
      refine OGo.via (fun _ k => XS.iload X56.here hx rfl (hb hby at_252) rfl (XS.iconst X56.here hx rfl (hb hby at_254) (XS.icmpYes X56.here hx rfl (pc0 := 255) (pc' := 271) rfl (hb hby at_255) rfl (tlt (by decide : (0 : Int32) < (3 : Int32))).1 (by decide) (by decide) (XS.iconst X56.here hx rfl (hb hby at_271) k)))) ?_
      show OGo _ _ _ _ (T56.setTop (mkF m 272 #[.val (.int p1), .val (.int p2), .val (.int p3), .val (.int p4), .val (.int (2 : Int32)), .val (.int d1), .val (.int d2), .val (.int d3), .val (.ref b30), .val (.ref rr), .val (.int (1 : Int32)), .val (.int (0 : Int32))] [(.int (1 : Int32))]))
      refine own_retNW (t := .boolean) (by simp) X56 hSi54 (Nat.le_trans (Nat.le_refl T54.heap.size) (Nat.le_of_eq (congrArg Array.size (Eq.symm r56_0)))) hx Bd.notSynchronized Bd.returns (hb hby at_272) (by decide) (by decide) ?_
      show Q_rm0 Z _ _ _ _ _ _ h0 n0 _ T56.heap _
      rw [r56_0]
      exact ⟨rfl, N56⟩
    · obtain ⟨cq58, kq58, q58a, q58b, q58c⟩ := isOf hZ rfl f50
      obtain ⟨_, T58, Lc58, X58, hQ58, st58⟩ := own_open X45 (X45.virtualBack hx (y := own_y28) (z := own_y28) hown (mvT hZ (own_w hw 48 rfl)) (mvT hZ (own_w hw 49 rfl)) (notFace_of_selects (args := #[]) (mvT hZ (own_w hw 51 rfl))) (mvT hZ (own_w hw 51 rfl)) (mvT hZ (own_w hw 50 rfl)) (by decide) (backOf (W := 0) (rm10_2_2 l Z a0 hw [] b33 w fm va ka (((47 : Int32).toInt8.toInt32).toInt8.toInt32) ((d1.toInt8.toInt32).toInt8.toInt32) b36 T45.heap n0 (Nat.le_trans Z0 K45.1) f50 r45_1 f51 f52 f53 f49 r45_2 r45_3 hw0 hr_fm (fun q => hq1 ((own_b47 r1_1).mp q))) hZ (own_w hw 52 rfl) (own_w hw 7 rfl) (by decide) (by decide)) q58a q58c (g := (mkF m 130 #[.val (.int p1), .val (.int p2), .val (.int p3), .val (.int p4), .val (.int (2 : Int32)), .val (.int d1), .val (.int d2), .val (.int d3), .val (.ref b30), .unset, .unset, .unset] [(.ref b33)])) rfl (by rw [hml]; rfl) (Steps.refl _) (argsL := []) (rest := []) (lenOf pd_23 rfl) rfl (by show 2 * 0 + _ ≤ _; exact Nat.le_of_eq rfl) (hb hby at_130) (fun _ _ => ⟨rfl, rfl, (by decide : 4 + 2 ≤ _), (by decide : 9 + 5 ≤ _)⟩))
      obtain ⟨rr, vr, kr, rfl, N58q, r58_0, r58_1, r58_2, r58_3, r58_4⟩ := hQ58
      have N58 := Fr.app N45 N58q
      have K58 : Keep h0 T58.heap [] := K45.trans r58_0 all0
      refine OGo.via (fun _ k => st58.trans k) ?_
      show OGo _ _ _ _ (T58.setTop (mkF m 133 #[.val (.int p1), .val (.int p2), .val (.int p3), .val (.int p4), .val (.int (2 : Int32)), .val (.int d1), .val (.int d2), .val (.int d3), .val (.ref b30), .unset, .unset, .unset] [(.ref rr)]))
      refine OGo.via (fun _ k => XS.astore X58.here hx rfl (hb hby at_133) rfl rfl (l' := #[.val (.int p1), .val (.int p2), .val (.int p3), .val (.int p4), .val (.int (2 : Int32)), .val (.int d1), .val (.int d2), .val (.int d3), .val (.ref b30), .val (.ref rr), .unset, .unset]) rfl (XS.iload X58.here hx rfl (hb hby at_135) rfl (XS.iconst X58.here hx rfl (hb hby at_137) (XS.icmpNo X58.here hx rfl (hb hby at_138) rfl (tlt (by decide : (1 : Int32) < (2 : Int32))).2.2.2 (XS.iload X58.here hx rfl (hb hby at_141) rfl (XS.bipush X58.here hx rfl (hb hby at_143) (XS.icmpYes X58.here hx rfl (pc0 := 145) (pc' := 154) rfl (hb hby at_145) rfl (feq hq1).2 (by decide) (by decide) (XS.iload X58.here hx rfl (hb hby at_154) rfl k)))))))) ?_
      show OGo _ _ _ _ (T58.setTop (mkF m 156 #[.val (.int p1), .val (.int p2), .val (.int p3), .val (.int p4), .val (.int (2 : Int32)), .val (.int d1), .val (.int d2), .val (.int d3), .val (.ref b30), .val (.ref rr), .unset, .unset] [(.int (2 : Int32))]))
      refine OGo.via (fun _ k => XS.iconst X58.here hx rfl (hb hby at_156) (XS.icmpYes X58.here hx rfl (pc0 := 157) (pc' := 173) rfl (hb hby at_157) rfl (flt (by decide : ¬ ((2 : Int32) < (2 : Int32)))).2.2.2 (by decide) (by decide) (XS.iload X58.here hx rfl (hb hby at_173) rfl (XS.iconst X58.here hx rfl (hb hby at_175) (XS.icmpYes X58.here hx rfl (pc0 := 176) (pc' := 192) rfl (hb hby at_176) rfl (flt (by decide : ¬ ((3 : Int32) < (2 : Int32)))).2.2.2 (by decide) (by decide) (XS.iload X58.here hx rfl (hb hby at_192) rfl (XS.istore X58.here hx rfl (hb hby at_194) rfl (l' := #[.val (.int p1), .val (.int p2), .val (.int p3), .val (.int p4), .val (.int (2 : Int32)), .val (.int d1), .val (.int d2), .val (.int d3), .val (.ref b30), .val (.ref rr), .val (.int (2 : Int32)), .unset]) rfl (XS.iload X58.here hx rfl (hb hby at_196) rfl k)))))))) ?_
      show OGo _ _ _ _ (T58.setTop (mkF m 198 #[.val (.int p1), .val (.int p2), .val (.int p3), .val (.int p4), .val (.int (2 : Int32)), .val (.int d1), .val (.int d2), .val (.int d3), .val (.ref b30), .val (.ref rr), .val (.int (2 : Int32)), .unset] [(.int (2 : Int32))]))
      refine OGo.via (fun _ k => XS.iconst X58.here hx rfl (hb hby at_198) (XS.isub X58.here hx rfl (hb hby at_199) rfl k)) ?_
      show OGo _ _ _ _ (T58.setTop (mkF m 200 #[.val (.int p1), .val (.int p2), .val (.int p3), .val (.int p4), .val (.int (2 : Int32)), .val (.int d1), .val (.int d2), .val (.int d3), .val (.ref b30), .val (.ref rr), .val (.int (2 : Int32)), .unset] [(.int ((2 : Int32) - (1 : Int32)))]))
      rw [show ((2 : Int32) - (1 : Int32)) = (1 : Int32) from by decide]
      refine OGo.via (fun _ k => XS.istore X58.here hx rfl (hb hby at_200) rfl (l' := #[.val (.int p1), .val (.int p2), .val (.int p3), .val (.int p4), .val (.int (2 : Int32)), .val (.int d1), .val (.int d2), .val (.int d3), .val (.ref b30), .val (.ref rr), .val (.int (2 : Int32)), .val (.int (1 : Int32))]) rfl (XS.aload X58.here hx rfl (hb hby at_202) rfl rfl k)) ?_
      have f61 := own_staKeep0 r45_2 r58_0
      obtain ⟨cq60, kq60, q60a, q60b, q60c⟩ := isOf hZ rfl r58_1
      obtain ⟨_, T60, Lc60, X60, hQ60, st60⟩ := own_open X58 (X58.virtualBack hx (y := own_y6) (z := own_y6) hown (mvT hZ (own_w hw 107 rfl)) (mvT hZ (own_w hw 64 rfl)) (notFace_of_selects (args := #[]) (mvT hZ (own_w hw 66 rfl))) (mvT hZ (own_w hw 66 rfl)) (mvT hZ (own_w hw 65 rfl)) (by decide) (backOf (W := 0) (rm13 l Z a0 hw [] rr w vr kr [(.int ((d1.toInt8.toInt32).toInt8.toInt32))] (1 : Int32) T58.heap n0 (Nat.le_trans Z0 K58.1) r58_1 r58_2 r58_3 r58_4 f61 hw0) hZ (own_w hw 67 rfl) (own_w hw 10 rfl) (by decide) (by decide)) q60a q60c (g := (mkF m 204 #[.val (.int p1), .val (.int p2), .val (.int p3), .val (.int p4), .val (.int (2 : Int32)), .val (.int d1), .val (.int d2), .val (.int d3), .val (.ref b30), .val (.ref rr), .val (.int (2 : Int32)), .val (.int (1 : Int32))] [(.ref rr)])) rfl (by rw [hml]; rfl) (Steps.refl _) (argsL := []) (rest := []) (lenOf pd_11 rfl) rfl (by show 2 * 0 + _ ≤ _; exact Nat.le_of_eq rfl) (hb hby at_204) (fun _ _ => ⟨rfl, rfl, (by decide : 6 + 0 ≤ _), (by decide : 14 + 0 ≤ _)⟩))
      obtain ⟨rfl, N60q, r60_0⟩ := hQ60
      have N60 := Fr.app N58 N60q
      refine OGo.via (fun _ k => st60.trans k) ?_
      show OGo _ _ _ _ (T60.setTop (mkF m 207 #[.val (.int p1), .val (.int p2), .val (.int p3), .val (.int p4), .val (.int (2 : Int32)), .val (.int d1), .val (.int d2), .val (.int d3), .val (.ref b30), .val (.ref rr), .val (.int (2 : Int32)), .val (.int (1 : Int32))] [(.int (1 : Int32))]))
      refine OGo.via (fun _ k => XS.iload X60.here hx rfl (hb hby at_207) rfl (XS.icmpYes X60.here hx rfl (pc0 := 209) (pc' := 214) rfl (hb hby at_209) rfl (teq (by decide : (1 : Int32) = (1 : Int32))).1 (by decide) (by decide) (XS.iload X60.here hx rfl (hb hby at_214) rfl (XS.iconst X60.here hx rfl (hb hby at_216) (XS.icmpNo X60.here hx rfl (hb hby at_217) rfl (flt (by decide : ¬ ((1 : Int32) < (1 : Int32)))).1 (XS.aload X60.here hx rfl (hb hby at_220) rfl rfl (XS.iconst X60.here hx rfl (hb hby at_222) k))))))) ?_
      have f63 := own_staKeep0 r45_3 r58_0
      obtain ⟨cq62, kq62, q62a, q62b, q62c⟩ := isOf hZ r60_0 r58_1
      obtain ⟨_, T62, Lc62, X62, hQ62, st62⟩ := own_open X60 (X60.virtualBack hx (y := own_y19) (z := own_y19) hown (mvT hZ (own_w hw 130 rfl)) (mvT hZ (own_w hw 131 rfl)) (notFace_of_selects (args := #[]) (mvT hZ (own_w hw 133 rfl))) (mvT hZ (own_w hw 133 rfl)) (mvT hZ (own_w hw 132 rfl)) (by decide) (backOf (W := 0) (rm28 l Z a0 hw [] rr (0 : Int32) w fm vr kr (1 : Int32) [(.int ((d1.toInt8.toInt32).toInt8.toInt32))] ((d1.toInt8.toInt32).toInt8.toInt32) T58.heap n0 (Nat.le_trans Z0 K58.1) r58_1 r58_2 r58_3 r58_4 f61 f63 hw0 hr_fm (by decide) (by decide) rfl) hZ (own_w hw 134 rfl) (own_w hw 10 rfl) (by decide) (by decide)) q62a q62c (g := (mkF m 223 #[.val (.int p1), .val (.int p2), .val (.int p3), .val (.int p4), .val (.int (2 : Int32)), .val (.int d1), .val (.int d2), .val (.int d3), .val (.ref b30), .val (.ref rr), .val (.int (2 : Int32)), .val (.int (1 : Int32))] [(.int (0 : Int32)), (.ref rr)])) rfl (by rw [hml]; rfl) (Steps.refl _) (argsL := [(.int (0 : Int32))]) (rest := []) (lenOf pd_20 rfl) rfl (by show 2 * 0 + _ ≤ _; exact Nat.le_of_eq rfl) (hb hby at_223) (fun _ _ => ⟨rfl, r60_0, (by decide : 6 + 0 ≤ _), (by decide : 14 + 0 ≤ _)⟩))
      obtain ⟨rfl, N62q, r62_0⟩ := hQ62
      have N62 := Fr.app N60 N62q
      refine OGo.via (fun _ k => st62.trans k) ?_
      show OGo _ _ _ _ (T62.setTop (mkF m 226 #[.val (.int p1), .val (.int p2), .val (.int p3), .val (.int p4), .val (.int (2 : Int32)), .val (.int d1), .val (.int d2), .val (.int d3), .val (.ref b30), .val (.ref rr), .val (.int (2 : Int32)), .val (.int (1 : Int32))] [(.int (own_ch ((d1.toInt8.toInt32).toInt8.toInt32)))]))
      refine OGo.via (fun _ k => XS.iload X62.here hx rfl (hb hby at_226) rfl (XS.icmpYes X62.here hx rfl (pc0 := 228) (pc' := 233) rfl (hb hby at_228) rfl (teq (own_bk r1_1)).1 (by decide) (by decide) (XS.iload X62.here hx rfl (hb hby at_233) rfl (XS.iconst X62.here hx rfl (hb hby at_235) (XS.icmpYes X62.here hx rfl (pc0 := 236) (pc' := 252) rfl (hb hby at_236) rfl (tlt (by decide : (1 : Int32) < (2 : Int32))).1 (by decide) (by decide) (XS.iload X62.here hx rfl (hb hby at_252) rfl (XS.iconst X62.here hx rfl (hb hby at_254) (XS.icmpYes X62.here hx rfl (pc0 := 255) (pc' := 271) rfl (hb hby at_255) rfl (tlt (by decide : (1 : Int32) < (3 : Int32))).1 (by decide) (by decide) k)))))))) ?_
      show OGo _ _ _ _ (T62.setTop (mkF m 271 #[.val (.int p1), .val (.int p2), .val (.int p3), .val (.int p4), .val (.int (2 : Int32)), .val (.int d1), .val (.int d2), .val (.int d3), .val (.ref b30), .val (.ref rr), .val (.int (2 : Int32)), .val (.int (1 : Int32))] []))
      refine OGo.via (fun _ k => XS.iconst X62.here hx rfl (hb hby at_271) k) ?_
      show OGo _ _ _ _ (T62.setTop (mkF m 272 #[.val (.int p1), .val (.int p2), .val (.int p3), .val (.int p4), .val (.int (2 : Int32)), .val (.int d1), .val (.int d2), .val (.int d3), .val (.ref b30), .val (.ref rr), .val (.int (2 : Int32)), .val (.int (1 : Int32))] [(.int (1 : Int32))]))
      refine own_wide ?_
      refine own_retN (t := .boolean) (by simp) X62 hx Bd.notSynchronized Bd.returns (hb hby at_272) (by decide) (by decide) ?_
      show Q_rm0 Z _ _ _ _ _ _ h0 n0 _ T62.heap _
      rw [r62_0]
      exact ⟨rfl, N62⟩
  · show OGo _ _ _ _ (T3.setTop (mkF m 25 #[.val (.int p1), .val (.int p2), .val (.int p3), .val (.int p4), .val (.int (3 : Int32)), .val (.int d1), .val (.int d2), .val (.int d3), .unset, .unset, .unset, .unset] []))
    refine OGo.via (fun _ k => XS.iload X3.here hx rfl (hb hby at_25) rfl (XS.iconst X3.here hx rfl (hb hby at_27) (XS.icmpYes X3.here hx rfl (pc0 := 28) (pc' := 39) rfl (hb hby at_28) rfl (feq (by decide : ¬ ((3 : Int32) = (1 : Int32)))).2 (by decide) (by decide) (XS.iload X3.here hx rfl (hb hby at_39) rfl (XS.iconst X3.here hx rfl (hb hby at_41) (XS.icmpYes X3.here hx rfl (pc0 := 42) (pc' := 53) rfl (hb hby at_42) rfl (feq (by decide : ¬ ((3 : Int32) = (2 : Int32)))).2 (by decide) (by decide) (XS.iload X3.here hx rfl (hb hby at_53) rfl (XS.iconst X3.here hx rfl (hb hby at_55) k)))))))) ?_
    show OGo _ _ _ _ (T3.setTop (mkF m 56 #[.val (.int p1), .val (.int p2), .val (.int p3), .val (.int p4), .val (.int (3 : Int32)), .val (.int d1), .val (.int d2), .val (.int d3), .unset, .unset, .unset, .unset] [(.int (3 : Int32)), (.int (3 : Int32))]))
    refine OGo.via (fun _ k => XS.icmpNo X3.here hx rfl (hb hby at_56) rfl (teq (by decide : (3 : Int32) = (3 : Int32))).2 (XS.iconst X3.here hx rfl (hb hby at_59) k)) ?_
    obtain ⟨T64, h64, ka64, X64, e64, E64, A64, Y64, st64⟩ := newPE (ad := "[C") X3 hx hZ (own_w hw 4 rfl) r3_0 (g := (mkF m 60 #[.val (.int p1), .val (.int p2), .val (.int p3), .val (.int p4), .val (.int (3 : Int32)), .val (.int d1), .val (.int d2), .val (.int d3), .unset, .unset, .unset, .unset] [(.int (3 : Int32))])) rfl (hb hby at_60) rfl (by decide) (cap := 3) (by decide) (by decide) (by decide) (by decide) (by decide)
    obtain ⟨b64, g64⟩ : ∃ z, z = h0.size := ⟨_, rfl⟩
    rw [← g64] at A64 Y64 st64
    refine OGo.via st64 ?_
    have K64 : Keep h0 h64 [] := (Keep.refl h0 []).ext E64
    have sz_b64 : h0.size ≤ b64 := Nat.le_trans (Keep.refl h0 []).1 (Nat.le_of_eq g64.symm)
    have g_b64 : n0 ≤ b64 := Nat.le_trans Z0 sz_b64
    have V64 : Arv Z h64 b64 ka64 .char (3 : Int32) [(.int (0 : Int32)), (.int (0 : Int32)), (.int (0 : Int32))] (.int (0 : Int32)) := (Arv.new A64 (by decide)).pad (pad_rep [] (.int (0 : Int32)) 3)
    show OGo _ _ _ _ (T64.setTop (mkF m 62 #[.val (.int p1), .val (.int p2), .val (.int p3), .val (.int p4), .val (.int (3 : Int32)), .val (.int d1), .val (.int d2), .val (.int d3), .unset, .unset, .unset, .unset] [(.ref b64)]))
    refine OGo.via (fun _ k => XS.astore X64.here hx rfl (hb hby at_62) rfl rfl (l' := #[.val (.int p1), .val (.int p2), .val (.int p3), .val (.int p4), .val (.int (3 : Int32)), .val (.int d1), .val (.int d2), .val (.int d3), .val (.ref b64), .unset, .unset, .unset]) rfl (XS.goto X64.here hx rfl (pc0 := 64) (pc' := 72) rfl (hb hby at_64) (by decide) (by decide) (XS.aload X64.here hx rfl (hb hby at_72) rfl rfl (XS.iconst X64.here hx rfl (hb hby at_74) (XS.bipush X64.here hx rfl (hb hby at_75) k))))) ?_
    obtain ⟨cl65, Ar65, q65, Sz65, Ng65, Hs65, Gf65⟩ := id V64
    have hin65 : ¬ ((0 : Int32) < 0 ∨ cl65.slots.size ≤ ((0 : Int32)).toNatClampNeg) := inb_of Sz65 ⟨by decide, by decide⟩
    obtain ⟨T65, h65, X65, e65, W65, st65⟩ := stC X64 hx hZ e64 Ar65 (j := (0 : Int32)) hin65 (g := (mkF m 77 #[.val (.int p1), .val (.int p2), .val (.int p3), .val (.int p4), .val (.int (3 : Int32)), .val (.int d1), .val (.int d2), .val (.int d3), .val (.ref b64), .unset, .unset, .unset] [(.int (47 : Int32)), (.int (0 : Int32)), (.ref b64)])) rfl rfl (hb hby at_77)
    refine OGo.via st65 ?_
    have V65 : Arv Z h65 b64 ka64 .char (3 : Int32) [(.int (nar .char (47 : Int32))), (.int (0 : Int32)), (.int (0 : Int32))] (.int (0 : Int32)) := Arv.set Ar65 q65 Sz65 Ng65 Hs65 Gf65 (fits_nar_char _) W65 0 rfl (Nat.le_of_ble_eq_true rfl)
    have K65 : Keep h0 h65 [] := K64.wr W65 (Or.inr sz_b64)
    have N65 := Fr.snoc X65 N3 g_b64
    show OGo _ _ _ _ (T65.setTop (mkF m 78 #[.val (.int p1), .val (.int p2), .val (.int p3), .val (.int p4), .val (.int (3 : Int32)), .val (.int d1), .val (.int d2), .val (.int d3), .val (.ref b64), .unset, .unset, .unset] []))
    refine OGo.via (fun _ k => XS.iload X65.here hx rfl (hb hby at_78) rfl (XS.iconst X65.here hx rfl (hb hby at_80) (XS.icmpNo X65.here hx rfl (hb hby at_81) rfl (tlt (by decide : (1 : Int32) < (3 : Int32))).2.2.2 (XS.aload X65.here hx rfl (hb hby at_84) rfl rfl (XS.iconst X65.here hx rfl (hb hby at_86) (XS.iload X65.here hx rfl (hb hby at_87) rfl k)))))) ?_
    obtain ⟨cl66, Ar66, q66, Sz66, Ng66, Hs66, Gf66⟩ := id V65
    have hin66 : ¬ ((1 : Int32) < 0 ∨ cl66.slots.size ≤ ((1 : Int32)).toNatClampNeg) := inb_of Sz66 ⟨by decide, by decide⟩
    obtain ⟨T66, h66, X66, e66, W66, st66⟩ := stC X65 hx hZ e65 Ar66 (j := (1 : Int32)) hin66 (g := (mkF m 89 #[.val (.int p1), .val (.int p2), .val (.int p3), .val (.int p4), .val (.int (3 : Int32)), .val (.int d1), .val (.int d2), .val (.int d3), .val (.ref b64), .unset, .unset, .unset] [(.int d1), (.int (1 : Int32)), (.ref b64)])) rfl rfl (hb hby at_89)
    refine OGo.via st66 ?_
    have V66 : Arv Z h66 b64 ka64 .char (3 : Int32) [(.int (nar .char (47 : Int32))), (.int (nar .char d1)), (.int (0 : Int32))] (.int (0 : Int32)) := Arv.set Ar66 q66 Sz66 Ng66 Hs66 Gf66 (fits_nar_char _) W66 1 rfl (Nat.le_of_ble_eq_true rfl)
    have K66 : Keep h0 h66 [] := K65.wr W66 (Or.inr sz_b64)
    have N66 := Fr.snoc X66 N65 g_b64
    show OGo _ _ _ _ (T66.setTop (mkF m 90 #[.val (.int p1), .val (.int p2), .val (.int p3), .val (.int p4), .val (.int (3 : Int32)), .val (.int d1), .val (.int d2), .val (.int d3), .val (.ref b64), .unset, .unset, .unset] []))
    refine OGo.via (fun _ k => XS.iload X66.here hx rfl (hb hby at_90) rfl (XS.iconst X66.here hx rfl (hb hby at_92) (XS.icmpNo X66.here hx rfl (hb hby at_93) rfl (tlt (by decide : (2 : Int32) < (3 : Int32))).2.2.2 (XS.aload X66.here hx rfl (hb hby at_96) rfl rfl (XS.iconst X66.here hx rfl (hb hby at_98) (XS.iload X66.here hx rfl (hb hby at_99) rfl k)))))) ?_
    obtain ⟨cl67, Ar67, q67, Sz67, Ng67, Hs67, Gf67⟩ := id V66
    have hin67 : ¬ ((2 : Int32) < 0 ∨ cl67.slots.size ≤ ((2 : Int32)).toNatClampNeg) := inb_of Sz67 ⟨by decide, by decide⟩
    obtain ⟨T67, h67, X67, e67, W67, st67⟩ := stC X66 hx hZ e66 Ar67 (j := (2 : Int32)) hin67 (g := (mkF m 101 #[.val (.int p1), .val (.int p2), .val (.int p3), .val (.int p4), .val (.int (3 : Int32)), .val (.int d1), .val (.int d2), .val (.int d3), .val (.ref b64), .unset, .unset, .unset] [(.int d2), (.int (2 : Int32)), (.ref b64)])) rfl rfl (hb hby at_101)
    refine OGo.via st67 ?_
    have V67 : Arv Z h67 b64 ka64 .char (3 : Int32) [(.int (nar .char (47 : Int32))), (.int (nar .char d1)), (.int (nar .char d2))] (.int (0 : Int32)) := Arv.set Ar67 q67 Sz67 Ng67 Hs67 Gf67 (fits_nar_char _) W67 2 rfl (Nat.le_of_ble_eq_true rfl)
    have K67 : Keep h0 h67 [] := K66.wr W67 (Or.inr sz_b64)
    have N67 := Fr.snoc X67 N66 g_b64
    show OGo _ _ _ _ (T67.setTop (mkF m 102 #[.val (.int p1), .val (.int p2), .val (.int p3), .val (.int p4), .val (.int (3 : Int32)), .val (.int d1), .val (.int d2), .val (.int d3), .val (.ref b64), .unset, .unset, .unset] []))
    refine OGo.via (fun _ k => XS.iload X67.here hx rfl (hb hby at_102) rfl (XS.iconst X67.here hx rfl (hb hby at_104) (XS.icmpYes X67.here hx rfl (pc0 := 105) (pc' := 114) rfl (hb hby at_105) rfl (flt (by decide : ¬ ((3 : Int32) < (3 : Int32)))).2.2.2 (by decide) (by decide) k))) ?_
    rw [show nar .char (47 : Int32) = 47 from by decide, r1_1.1, r2_1.1] at V67
    have f69 := Y64.wr W65
    have f70 := f69.wr W66
    have f71 := f70.wr W67
    obtain ⟨T68, h68, X68, e68, E68, A68, D68, -, st68⟩ := newO X67 hx hZ hown (own_w hw 5 rfl) (own_w hw 6 rfl) (own_w hw 7 rfl) e67 (g := (mkF m 114 #[.val (.int p1), .val (.int p2), .val (.int p3), .val (.int p4), .val (.int (3 : Int32)), .val (.int d1), .val (.int d2), .val (.int d3), .val (.ref b64), .unset, .unset, .unset] [])) rfl (hb hby at_114) (by decide) (by decide)
    obtain ⟨b68, g68⟩ : ∃ z, z = h67.size := ⟨_, rfl⟩
    rw [← g68] at A68 D68 st68
    refine OGo.via st68 ?_
    have K68 : Keep h0 h68 [] := K67.ext E68
    have lt_b64_b68 : b64 < b68 := Nat.lt_of_lt_of_le f71.lt (Nat.le_of_eq g68.symm)
    have sz_b68 : h0.size ≤ b68 := Nat.le_trans K67.1 (Nat.le_of_eq g68.symm)
    have g_b68 : n0 ≤ b68 := Nat.le_trans Z0 sz_b68
    have F68_path : Fld Z h68 b68 "com/example/ianus/ianus/server/LiteralPath" "path" "Ljava/lang/String;" .null := D68 (Or.inr (own_w hw 47 rfl)) (ty := (.object "java/lang/String")) (by decide)
    show OGo _ _ _ _ (T68.setTop (mkF m 117 #[.val (.int p1), .val (.int p2), .val (.int p3), .val (.int p4), .val (.int (3 : Int32)), .val (.int d1), .val (.int d2), .val (.int d3), .val (.ref b64), .unset, .unset, .unset] [(.ref b68)]))
    refine OGo.via (fun _ k => XS.dup X68.here hx rfl (hb hby at_117) rfl rfl k) ?_
    have f73 := f71.ext E68
    obtain ⟨T72, h72, X72, e72, E72, A72, D72, -, st72⟩ := newO X68 hx hZ hown (own_w hw 8 rfl) (own_w hw 9 rfl) (own_w hw 10 rfl) e68 (g := (mkF m 118 #[.val (.int p1), .val (.int p2), .val (.int p3), .val (.int p4), .val (.int (3 : Int32)), .val (.int d1), .val (.int d2), .val (.int d3), .val (.ref b64), .unset, .unset, .unset] [(.ref b68), (.ref b68)])) rfl (hb hby at_118) (by decide) (by decide)
    obtain ⟨b72, g72⟩ : ∃ z, z = h68.size := ⟨_, rfl⟩
    rw [← g72] at A72 D72 st72
    refine OGo.via st72 ?_
    have K72 : Keep h0 h72 [] := K68.ext E72
    have lt_b64_b72 : b64 < b72 := Nat.lt_of_lt_of_le f73.lt (Nat.le_of_eq g72.symm)
    have lt_b68_b72 : b68 < b72 := Nat.lt_of_lt_of_le A68.lt (Nat.le_of_eq g72.symm)
    have sz_b72 : h0.size ≤ b72 := Nat.le_trans K68.1 (Nat.le_of_eq g72.symm)
    have g_b72 : n0 ≤ b72 := Nat.le_trans Z0 sz_b72
    have F72_coder : Fld Z h72 b72 "java/lang/String" "coder" "B" (.int (0 : Int32)) := D72 (Or.inr (own_w hw 34 rfl)) (ty := .byte) (by decide)
    have F72_value : Fld Z h72 b72 "java/lang/String" "value" "[B" .null := D72 (Or.inr (own_w hw 36 rfl)) (ty := (.array .byte)) (by decide)
    show OGo _ _ _ _ (T72.setTop (mkF m 121 #[.val (.int p1), .val (.int p2), .val (.int p3), .val (.int p4), .val (.int (3 : Int32)), .val (.int d1), .val (.int d2), .val (.int d3), .val (.ref b64), .unset, .unset, .unset] [(.ref b72), (.ref b68), (.ref b68)]))
    refine OGo.via (fun _ k => XS.dup X72.here hx rfl (hb hby at_121) rfl rfl (XS.aload X72.here hx rfl (hb hby at_122) rfl rfl k)) ?_
    have f75 := V67.ext E68
    have f76 := f75.ext E72
    have f77 := own_staKeep0 S_COMPACT_STRINGS K72
    have f78 := own_staKeep0 S_SIOOBE_FORMATTER K72
    have f79 := f73.ext E72
    have f80 := A68.ext E72
    obtain ⟨_, T74, Lc74, X74, hQ74, st74⟩ := own_open X72 (X72.specialBack hx (y := own_y11) rfl hown (mvT hZ (own_w hw 11 rfl)) (mvT hZ (own_w hw 12 rfl)) (mvT hZ (own_w hw 13 rfl)) (by decide) (backOf (W := 3) (rm2_3 l Z a0 hw [] b72 b64 ka64 w fm (47 : Int32) d1 d2 h72 n0 (Nat.le_trans Z0 K72.1) A72 F72_value F72_coder f76 g_b72 f77 f78 hw0 (by decide) r1_1.2.1 r2_1.2.1) hZ (own_w hw 13 rfl) (own_w hw 10 rfl) (by decide) (by decide)) (g := (mkF m 124 #[.val (.int p1), .val (.int p2), .val (.int p3), .val (.int p4), .val (.int (3 : Int32)), .val (.int d1), .val (.int d2), .val (.int d3), .val (.ref b64), .unset, .unset, .unset] [(.ref b64), (.ref b72), (.ref b72), (.ref b68), (.ref b68)])) rfl (by rw [hml]; rfl) (Steps.refl _) (a := b72) (argsL := [(.ref b64)]) (rest := [(.ref b72), (.ref b68), (.ref b68)]) (lenOf pd_21 rfl) rfl (by show 2 * 0 + _ ≤ _; exact Nat.le_of_eq rfl) (hb hby at_124) (fun _ _ => ⟨rfl, e72, (by decide : 3 + 1 ≤ _), (by decide : 8 + 3 ≤ _)⟩))
    obtain ⟨va, ka, rfl, N74q, r74_0, r74_1, r74_2, r74_3, r74_4, r74_5, r74_6, r74_7⟩ := hQ74
    have N74 := Fr.app N67 N74q
    have K74 : Keep h0 T74.heap [] := K72.trans r74_0 (allS (Or.inr sz_b72) all0)
    have lt_b64_va : b64 < va := Nat.lt_of_lt_of_le f79.lt r74_1
    have lt_b68_va : b68 < va := Nat.lt_of_lt_of_le f80.lt r74_1
    have lt_b72_va : b72 < va := Nat.lt_of_lt_of_le A72.lt r74_1
    have sz_va : h0.size ≤ va := Nat.le_trans K72.1 r74_1
    have g_va : n0 ≤ va := Nat.le_trans Z0 sz_va
    refine OGo.via (fun _ k => st74.trans k) ?_
    show OGo _ _ _ _ (T74.setTop (mkF m 127 #[.val (.int p1), .val (.int p2), .val (.int p3), .val (.int p4), .val (.int (3 : Int32)), .val (.int d1), .val (.int d2), .val (.int d3), .val (.ref b64), .unset, .unset, .unset] [(.ref b72), (.ref b68), (.ref b68)]))
    have f82 := f80.keep r74_0
    have f83 := F68_path.ext E72
    have f84 := f83.keep r74_0 (ninS (Nat.ne_of_lt lt_b68_b72) nin0)
    obtain ⟨_, T81, Lc81, X81, hQ81, st81⟩ := own_open X74 (X74.specialBack hx (y := own_y13) rfl hown (mvT hZ (own_w hw 37 rfl)) (mvT hZ (own_w hw 38 rfl)) (mvT hZ (own_w hw 39 rfl)) (by decide) (backOf (W := 1) (rm8 l Z a0 hw [] b68 b72 w fm T74.heap n0 (Nat.le_trans Z0 K74.1) f82 f84 g_b68 r74_6 r74_7) hZ (own_w hw 39 rfl) (own_w hw 7 rfl) (by decide) (by decide)) (g := (mkF m 127 #[.val (.int p1), .val (.int p2), .val (.int p3), .val (.int p4), .val (.int (3 : Int32)), .val (.int d1), .val (.int d2), .val (.int d3), .val (.ref b64), .unset, .unset, .unset] [(.ref b72), (.ref b68), (.ref b68)])) rfl (by rw [hml]; rfl) (Steps.refl _) (a := b68) (argsL := [(.ref b72)]) (rest := [(.ref b68)]) (lenOf pd_22 rfl) rfl (by show 2 * 0 + _ ≤ _; exact Nat.le_of_eq rfl) (hb hby at_127) (fun _ _ => ⟨rfl, rfl, (by decide : 4 + 0 ≤ _), (by decide : 11 + 0 ≤ _)⟩))
    obtain ⟨rfl, N81q, r81_0, r81_1, r81_2, r81_3⟩ := hQ81
    have N81 := Fr.app N74 N81q
    have K81 : Keep h0 T81.heap [] := K74.trans r81_0 (allS (Or.inr sz_b68) all0)
    refine OGo.via (fun _ k => st81.trans k) ?_
    show OGo _ _ _ _ (T81.setTop (mkF m 130 #[.val (.int p1), .val (.int p2), .val (.int p3), .val (.int p4), .val (.int (3 : Int32)), .val (.int d1), .val (.int d2), .val (.int d3), .val (.ref b64), .unset, .unset, .unset] [(.ref b68)]))
    have f85 := r74_5.keep r81_0 (ninS (Nat.ne_of_gt lt_b68_va) nin0)
    have f86 := f82.keep r81_0
    have f87 := r74_2.keep r81_0
    have f88 := r74_3.keep r81_0 (ninS (Nat.ne_of_gt lt_b68_b72) nin0)
    have f89 := r74_4.keep r81_0 (ninS (Nat.ne_of_gt lt_b68_b72) nin0)
    by_cases hq1 : d1 = (47 : Int32)
    · obtain ⟨cq90, kq90, q90a, q90b, q90c⟩ := isOf hZ rfl f86
      obtain ⟨_, T90, Lc90, X90, hSi90, hQ90, st90⟩ := own_openS X81 (X81.virtualBackS hx (y := own_y28) (z := own_y28) hown (mvT hZ (own_w hw 48 rfl)) (mvT hZ (own_w hw 49 rfl)) (notFace_of_selects (args := #[]) (mvT hZ (own_w hw 51 rfl))) (mvT hZ (own_w hw 51 rfl)) (mvT hZ (own_w hw 50 rfl)) (by decide) (own_backOfSH (W := 0) (rm10_3_1 l Z a0 hw [] b68 w fm va ka (((47 : Int32).toInt8.toInt32).toInt8.toInt32) ((d1.toInt8.toInt32).toInt8.toInt32) ((d2.toInt8.toInt32).toInt8.toInt32) b72 T81.heap n0 (Nat.le_trans Z0 K81.1) f86 r81_1 f87 f88 f89 f85 r81_2 r81_3 hw0 hr_fm ((own_b47 r1_1).mpr hq1) (fun b cl q => K81.2.1 b cl (hz0 ▸ q) nin0) hhc hcw) hZH (own_w hw 52 rfl) (own_w hw 7 rfl) (by decide) (by decide)) q90a q90c (g := (mkF m 130 #[.val (.int p1), .val (.int p2), .val (.int p3), .val (.int p4), .val (.int (3 : Int32)), .val (.int d1), .val (.int d2), .val (.int d3), .val (.ref b64), .unset, .unset, .unset] [(.ref b68)])) rfl (by rw [hml]; rfl) (Steps.refl _) (argsL := []) (rest := []) (lenOf pd_23 rfl) rfl (by show 2 * 0 + _ ≤ _; exact Nat.le_of_eq rfl) (hb hby at_130) (fun _ _ => ⟨rfl, rfl, (by decide : 4 + 2 ≤ _), (by decide : 11 + 4 ≤ _)⟩))
      have hZ90 : Z.Warmed39 (s.setVm T90.vm).vm := State.Warmed39.trans hZ hSi90.1
      have hown90 : (s.setVm T90.vm).vm.findClass "com/example/ianus/ianus/server/LiteralPathFirstSegmentPinLaw" = some m.cls := by rw [show (s.setVm T90.vm).vm = T90.vm from rfl, hSi90.1.alike.findClass]; exact hown
      obtain ⟨rr, vr, kr, rfl, N90q, r90_0, r90_1, r90_2, r90_3, r90_4⟩ := hQ90
      have N90 := Fr.app N81 N90q
      have K90 : Keep h0 T90.heap [] := K81.trans r90_0 all0
      refine OGo.via (fun _ k => st90.trans k) ?_
      show OGo _ _ _ _ (T90.setTop (mkF m 133 #[.val (.int p1), .val (.int p2), .val (.int p3), .val (.int p4), .val (.int (3 : Int32)), .val (.int d1), .val (.int d2), .val (.int d3), .val (.ref b64), .unset, .unset, .unset] [(.ref rr)]))
      refine OGo.via (fun _ k => XS.astore X90.here hx rfl (hb hby at_133) rfl rfl (l' := #[.val (.int p1), .val (.int p2), .val (.int p3), .val (.int p4), .val (.int (3 : Int32)), .val (.int d1), .val (.int d2), .val (.int d3), .val (.ref b64), .val (.ref rr), .unset, .unset]) rfl (XS.iload X90.here hx rfl (hb hby at_135) rfl (XS.iconst X90.here hx rfl (hb hby at_137) (XS.icmpNo X90.here hx rfl (hb hby at_138) rfl (tlt (by decide : (1 : Int32) < (3 : Int32))).2.2.2 (XS.iload X90.here hx rfl (hb hby at_141) rfl (XS.bipush X90.here hx rfl (hb hby at_143) (XS.icmpNo X90.here hx rfl (hb hby at_145) rfl (teq hq1).2 (XS.iconst X90.here hx rfl (hb hby at_148) k)))))))) ?_
      show OGo _ _ _ _ (T90.setTop (mkF m 149 #[.val (.int p1), .val (.int p2), .val (.int p3), .val (.int p4), .val (.int (3 : Int32)), .val (.int d1), .val (.int d2), .val (.int d3), .val (.ref b64), .val (.ref rr), .unset, .unset] [(.int (1 : Int32))]))
      refine OGo.via (fun _ k => XS.istore X90.here hx rfl (hb hby at_149) rfl (l' := #[.val (.int p1), .val (.int p2), .val (.int p3), .val (.int p4), .val (.int (3 : Int32)), .val (.int d1), .val (.int d2), .val (.int d3), .val (.ref b64), .val (.ref rr), .val (.int (1 : Int32)), .unset]) rfl (XS.goto X90.here hx rfl (pc0 := 151) (pc' := 196) rfl (hb hby at_151) (by decide) (by decide) (XS.iload X90.here hx rfl (hb hby at_196) rfl (XS.iconst X90.here hx rfl (hb hby at_198) (XS.isub X90.here hx rfl (hb hby at_199) rfl k))))) ?_
      show OGo _ _ _ _ (T90.setTop (mkF m 200 #[.val (.int p1), .val (.int p2), .val (.int p3), .val (.int p4), .val (.int (3 : Int32)), .val (.int d1), .val (.int d2), .val (.int d3), .val (.ref b64), .val (.ref rr), .val (.int (1 : Int32)), .unset] [(.int ((1 : Int32) - (1 : Int32)))]))
      rw [show ((1 : Int32) - (1 : Int32)) = (0 : Int32) from by decide]
      refine OGo.via (fun _ k => XS.istore X90.here hx rfl (hb hby at_200) rfl (l' := #[.val (.int p1), .val (.int p2), .val (.int p3), .val (.int p4), .val (.int (3 : Int32)), .val (.int d1), .val (.int d2), .val (.int d3), .val (.ref b64), .val (.ref rr), .val (.int (1 : Int32)), .val (.int (0 : Int32))]) rfl (XS.aload X90.here hx rfl (hb hby at_202) rfl rfl k)) ?_
      have f93 := own_staKeep0 r81_2 r90_0
      obtain ⟨cq92, kq92, q92a, q92b, q92c⟩ := isOf hZ90 rfl r90_1
      obtain ⟨_, T92, Lc92, X92, hQ92, st92⟩ := own_open X90 (X90.virtualBack hx (y := own_y6) (z := own_y6) hown90 (mvT hZ90 (own_w hw 107 rfl)) (mvT hZ90 (own_w hw 64 rfl)) (notFace_of_selects (args := #[]) (mvT hZ90 (own_w hw 66 rfl))) (mvT hZ90 (own_w hw 66 rfl)) (mvT hZ90 (own_w hw 65 rfl)) (by decide) (backOf (W := 0) (rm13 l Z a0 hw [] rr w vr kr [] (0 : Int32) T90.heap n0 (Nat.le_trans Z0 K90.1) r90_1 r90_2 r90_3 r90_4 f93 hw0) hZ90 (own_w hw 67 rfl) (own_w hw 10 rfl) (by decide) (by decide)) q92a q92c (g := (mkF m 204 #[.val (.int p1), .val (.int p2), .val (.int p3), .val (.int p4), .val (.int (3 : Int32)), .val (.int d1), .val (.int d2), .val (.int d3), .val (.ref b64), .val (.ref rr), .val (.int (1 : Int32)), .val (.int (0 : Int32))] [(.ref rr)])) rfl (by rw [hml]; rfl) (Steps.refl _) (argsL := []) (rest := []) (lenOf pd_11 rfl) rfl (by show 2 * 0 + _ ≤ _; exact Nat.le_of_eq rfl) (hb hby at_204) (fun _ _ => ⟨rfl, rfl, (by decide : 6 + 0 ≤ _), (by decide : 15 + 0 ≤ _)⟩))
      obtain ⟨rfl, N92q, r92_0⟩ := hQ92
      have N92 := Fr.app N90 N92q
      refine OGo.via (fun _ k => st92.trans k) ?_
      show OGo _ _ _ _ (T92.setTop (mkF m 207 #[.val (.int p1), .val (.int p2), .val (.int p3), .val (.int p4), .val (.int (3 : Int32)), .val (.int d1), .val (.int d2), .val (.int d3), .val (.ref b64), .val (.ref rr), .val (.int (1 : Int32)), .val (.int (0 : Int32))] [(.int (0 : Int32))]))
      refine OGo.via (fun _ k => XS.iload X92.here hx rfl (hb hby at_207) rfl (XS.icmpYes X92.here hx rfl (pc0 := 209) (pc' := 214) rfl (hb hby at_209) rfl (teq (by decide : (0 : Int32) = (0 : Int32))).1 (by decide) (by decide) (XS.iload X92.here hx rfl (hb hby at_214) rfl (XS.iconst X92.here hx rfl (hb hby at_216) (XS.icmpYes X92.here hx rfl (pc0 := 217) (pc' := 233) rfl (hb hby at_217) rfl (tlt (by decide : (0 : Int32) < (1 : Int32))).1 (by decide) (by decide) (XS.iload X92.here hx rfl (hb hby at_233) rfl (XS.iconst X92.here hx rfl (hb hby at_235) (XS.icmpYes X92.here hx rfl (pc0 := 236) (pc' := 252) rfl (hb hby at_236) rfl (tlt (by decide : (0 : Int32) < (2 : Int32))).1 (by decide) (by decide) k)))))))) ?_
      show OGo _ _ _ _ (T92.setTop (mkF m 252 #[.val (.int p1), .val (.int p2), .val (.int p3), .val (.int p4), .val (.int (3 : Int32)), .val (.int d1), .val (.int d2), .val (.int d3), .val (.ref b64), .val (.ref rr), .val (.int (1 : Int32)), .val (.int (0 : Int32))] []))
      refine OGo.via (fun _ k => XS.iload X92.here hx rfl (hb hby at_252) rfl (XS.iconst X92.here hx rfl (hb hby at_254) (XS.icmpYes X92.here hx rfl (pc0 := 255) (pc' := 271) rfl (hb hby at_255) rfl (tlt (by decide : (0 : Int32) < (3 : Int32))).1 (by decide) (by decide) (XS.iconst X92.here hx rfl (hb hby at_271) k)))) ?_
      show OGo _ _ _ _ (T92.setTop (mkF m 272 #[.val (.int p1), .val (.int p2), .val (.int p3), .val (.int p4), .val (.int (3 : Int32)), .val (.int d1), .val (.int d2), .val (.int d3), .val (.ref b64), .val (.ref rr), .val (.int (1 : Int32)), .val (.int (0 : Int32))] [(.int (1 : Int32))]))
      refine own_retNW (t := .boolean) (by simp) X92 hSi90 (Nat.le_trans (Nat.le_refl T90.heap.size) (Nat.le_of_eq (congrArg Array.size (Eq.symm r92_0)))) hx Bd.notSynchronized Bd.returns (hb hby at_272) (by decide) (by decide) ?_
      show Q_rm0 Z _ _ _ _ _ _ h0 n0 _ T92.heap _
      rw [r92_0]
      exact ⟨rfl, N92⟩
    · by_cases hq2 : d2 = (47 : Int32)
      · obtain ⟨cq94, kq94, q94a, q94b, q94c⟩ := isOf hZ rfl f86
        obtain ⟨_, T94, Lc94, X94, hQ94, st94⟩ := own_open X81 (X81.virtualBack hx (y := own_y28) (z := own_y28) hown (mvT hZ (own_w hw 48 rfl)) (mvT hZ (own_w hw 49 rfl)) (notFace_of_selects (args := #[]) (mvT hZ (own_w hw 51 rfl))) (mvT hZ (own_w hw 51 rfl)) (mvT hZ (own_w hw 50 rfl)) (by decide) (backOf (W := 0) (rm10_3_2 l Z a0 hw [] b68 w fm va ka (((47 : Int32).toInt8.toInt32).toInt8.toInt32) ((d1.toInt8.toInt32).toInt8.toInt32) ((d2.toInt8.toInt32).toInt8.toInt32) b72 T81.heap n0 (Nat.le_trans Z0 K81.1) f86 r81_1 f87 f88 f89 f85 r81_2 r81_3 hw0 hr_fm (fun q => hq1 ((own_b47 r1_1).mp q)) ((own_b47 r2_1).mpr hq2)) hZ (own_w hw 52 rfl) (own_w hw 7 rfl) (by decide) (by decide)) q94a q94c (g := (mkF m 130 #[.val (.int p1), .val (.int p2), .val (.int p3), .val (.int p4), .val (.int (3 : Int32)), .val (.int d1), .val (.int d2), .val (.int d3), .val (.ref b64), .unset, .unset, .unset] [(.ref b68)])) rfl (by rw [hml]; rfl) (Steps.refl _) (argsL := []) (rest := []) (lenOf pd_23 rfl) rfl (by show 2 * 0 + _ ≤ _; exact Nat.le_of_eq rfl) (hb hby at_130) (fun _ _ => ⟨rfl, rfl, (by decide : 4 + 2 ≤ _), (by decide : 11 + 5 ≤ _)⟩))
        obtain ⟨rr, vr, kr, rfl, N94q, r94_0, r94_1, r94_2, r94_3, r94_4⟩ := hQ94
        have N94 := Fr.app N81 N94q
        have K94 : Keep h0 T94.heap [] := K81.trans r94_0 all0
        refine OGo.via (fun _ k => st94.trans k) ?_
        show OGo _ _ _ _ (T94.setTop (mkF m 133 #[.val (.int p1), .val (.int p2), .val (.int p3), .val (.int p4), .val (.int (3 : Int32)), .val (.int d1), .val (.int d2), .val (.int d3), .val (.ref b64), .unset, .unset, .unset] [(.ref rr)]))
        refine OGo.via (fun _ k => XS.astore X94.here hx rfl (hb hby at_133) rfl rfl (l' := #[.val (.int p1), .val (.int p2), .val (.int p3), .val (.int p4), .val (.int (3 : Int32)), .val (.int d1), .val (.int d2), .val (.int d3), .val (.ref b64), .val (.ref rr), .unset, .unset]) rfl (XS.iload X94.here hx rfl (hb hby at_135) rfl (XS.iconst X94.here hx rfl (hb hby at_137) (XS.icmpNo X94.here hx rfl (hb hby at_138) rfl (tlt (by decide : (1 : Int32) < (3 : Int32))).2.2.2 (XS.iload X94.here hx rfl (hb hby at_141) rfl (XS.bipush X94.here hx rfl (hb hby at_143) (XS.icmpYes X94.here hx rfl (pc0 := 145) (pc' := 154) rfl (hb hby at_145) rfl (feq hq1).2 (by decide) (by decide) (XS.iload X94.here hx rfl (hb hby at_154) rfl k)))))))) ?_
        show OGo _ _ _ _ (T94.setTop (mkF m 156 #[.val (.int p1), .val (.int p2), .val (.int p3), .val (.int p4), .val (.int (3 : Int32)), .val (.int d1), .val (.int d2), .val (.int d3), .val (.ref b64), .val (.ref rr), .unset, .unset] [(.int (3 : Int32))]))
        refine OGo.via (fun _ k => XS.iconst X94.here hx rfl (hb hby at_156) (XS.icmpNo X94.here hx rfl (hb hby at_157) rfl (tlt (by decide : (2 : Int32) < (3 : Int32))).2.2.2 (XS.iload X94.here hx rfl (hb hby at_160) rfl (XS.bipush X94.here hx rfl (hb hby at_162) (XS.icmpNo X94.here hx rfl (hb hby at_164) rfl (teq hq2).2 (XS.iconst X94.here hx rfl (hb hby at_167) (XS.istore X94.here hx rfl (hb hby at_168) rfl (l' := #[.val (.int p1), .val (.int p2), .val (.int p3), .val (.int p4), .val (.int (3 : Int32)), .val (.int d1), .val (.int d2), .val (.int d3), .val (.ref b64), .val (.ref rr), .val (.int (2 : Int32)), .unset]) rfl (XS.goto X94.here hx rfl (pc0 := 170) (pc' := 196) rfl (hb hby at_170) (by decide) (by decide) k)))))))) ?_
        show OGo _ _ _ _ (T94.setTop (mkF m 196 #[.val (.int p1), .val (.int p2), .val (.int p3), .val (.int p4), .val (.int (3 : Int32)), .val (.int d1), .val (.int d2), .val (.int d3), .val (.ref b64), .val (.ref rr), .val (.int (2 : Int32)), .unset] []))
        refine OGo.via (fun _ k => XS.iload X94.here hx rfl (hb hby at_196) rfl (XS.iconst X94.here hx rfl (hb hby at_198) (XS.isub X94.here hx rfl (hb hby at_199) rfl k))) ?_
        show OGo _ _ _ _ (T94.setTop (mkF m 200 #[.val (.int p1), .val (.int p2), .val (.int p3), .val (.int p4), .val (.int (3 : Int32)), .val (.int d1), .val (.int d2), .val (.int d3), .val (.ref b64), .val (.ref rr), .val (.int (2 : Int32)), .unset] [(.int ((2 : Int32) - (1 : Int32)))]))
        rw [show ((2 : Int32) - (1 : Int32)) = (1 : Int32) from by decide]
        refine OGo.via (fun _ k => XS.istore X94.here hx rfl (hb hby at_200) rfl (l' := #[.val (.int p1), .val (.int p2), .val (.int p3), .val (.int p4), .val (.int (3 : Int32)), .val (.int d1), .val (.int d2), .val (.int d3), .val (.ref b64), .val (.ref rr), .val (.int (2 : Int32)), .val (.int (1 : Int32))]) rfl (XS.aload X94.here hx rfl (hb hby at_202) rfl rfl k)) ?_
        have f97 := own_staKeep0 r81_2 r94_0
        obtain ⟨cq96, kq96, q96a, q96b, q96c⟩ := isOf hZ rfl r94_1
        obtain ⟨_, T96, Lc96, X96, hQ96, st96⟩ := own_open X94 (X94.virtualBack hx (y := own_y6) (z := own_y6) hown (mvT hZ (own_w hw 107 rfl)) (mvT hZ (own_w hw 64 rfl)) (notFace_of_selects (args := #[]) (mvT hZ (own_w hw 66 rfl))) (mvT hZ (own_w hw 66 rfl)) (mvT hZ (own_w hw 65 rfl)) (by decide) (backOf (W := 0) (rm13 l Z a0 hw [] rr w vr kr [(.int ((d1.toInt8.toInt32).toInt8.toInt32))] (1 : Int32) T94.heap n0 (Nat.le_trans Z0 K94.1) r94_1 r94_2 r94_3 r94_4 f97 hw0) hZ (own_w hw 67 rfl) (own_w hw 10 rfl) (by decide) (by decide)) q96a q96c (g := (mkF m 204 #[.val (.int p1), .val (.int p2), .val (.int p3), .val (.int p4), .val (.int (3 : Int32)), .val (.int d1), .val (.int d2), .val (.int d3), .val (.ref b64), .val (.ref rr), .val (.int (2 : Int32)), .val (.int (1 : Int32))] [(.ref rr)])) rfl (by rw [hml]; rfl) (Steps.refl _) (argsL := []) (rest := []) (lenOf pd_11 rfl) rfl (by show 2 * 0 + _ ≤ _; exact Nat.le_of_eq rfl) (hb hby at_204) (fun _ _ => ⟨rfl, rfl, (by decide : 6 + 0 ≤ _), (by decide : 16 + 0 ≤ _)⟩))
        obtain ⟨rfl, N96q, r96_0⟩ := hQ96
        have N96 := Fr.app N94 N96q
        refine OGo.via (fun _ k => st96.trans k) ?_
        show OGo _ _ _ _ (T96.setTop (mkF m 207 #[.val (.int p1), .val (.int p2), .val (.int p3), .val (.int p4), .val (.int (3 : Int32)), .val (.int d1), .val (.int d2), .val (.int d3), .val (.ref b64), .val (.ref rr), .val (.int (2 : Int32)), .val (.int (1 : Int32))] [(.int (1 : Int32))]))
        refine OGo.via (fun _ k => XS.iload X96.here hx rfl (hb hby at_207) rfl (XS.icmpYes X96.here hx rfl (pc0 := 209) (pc' := 214) rfl (hb hby at_209) rfl (teq (by decide : (1 : Int32) = (1 : Int32))).1 (by decide) (by decide) (XS.iload X96.here hx rfl (hb hby at_214) rfl (XS.iconst X96.here hx rfl (hb hby at_216) (XS.icmpNo X96.here hx rfl (hb hby at_217) rfl (flt (by decide : ¬ ((1 : Int32) < (1 : Int32)))).1 (XS.aload X96.here hx rfl (hb hby at_220) rfl rfl (XS.iconst X96.here hx rfl (hb hby at_222) k))))))) ?_
        have f99 := own_staKeep0 r81_3 r94_0
        obtain ⟨cq98, kq98, q98a, q98b, q98c⟩ := isOf hZ r96_0 r94_1
        obtain ⟨_, T98, Lc98, X98, hQ98, st98⟩ := own_open X96 (X96.virtualBack hx (y := own_y19) (z := own_y19) hown (mvT hZ (own_w hw 130 rfl)) (mvT hZ (own_w hw 131 rfl)) (notFace_of_selects (args := #[]) (mvT hZ (own_w hw 133 rfl))) (mvT hZ (own_w hw 133 rfl)) (mvT hZ (own_w hw 132 rfl)) (by decide) (backOf (W := 0) (rm28 l Z a0 hw [] rr (0 : Int32) w fm vr kr (1 : Int32) [(.int ((d1.toInt8.toInt32).toInt8.toInt32))] ((d1.toInt8.toInt32).toInt8.toInt32) T94.heap n0 (Nat.le_trans Z0 K94.1) r94_1 r94_2 r94_3 r94_4 f97 f99 hw0 hr_fm (by decide) (by decide) rfl) hZ (own_w hw 134 rfl) (own_w hw 10 rfl) (by decide) (by decide)) q98a q98c (g := (mkF m 223 #[.val (.int p1), .val (.int p2), .val (.int p3), .val (.int p4), .val (.int (3 : Int32)), .val (.int d1), .val (.int d2), .val (.int d3), .val (.ref b64), .val (.ref rr), .val (.int (2 : Int32)), .val (.int (1 : Int32))] [(.int (0 : Int32)), (.ref rr)])) rfl (by rw [hml]; rfl) (Steps.refl _) (argsL := [(.int (0 : Int32))]) (rest := []) (lenOf pd_20 rfl) rfl (by show 2 * 0 + _ ≤ _; exact Nat.le_of_eq rfl) (hb hby at_223) (fun _ _ => ⟨rfl, r96_0, (by decide : 6 + 0 ≤ _), (by decide : 16 + 0 ≤ _)⟩))
        obtain ⟨rfl, N98q, r98_0⟩ := hQ98
        have N98 := Fr.app N96 N98q
        refine OGo.via (fun _ k => st98.trans k) ?_
        show OGo _ _ _ _ (T98.setTop (mkF m 226 #[.val (.int p1), .val (.int p2), .val (.int p3), .val (.int p4), .val (.int (3 : Int32)), .val (.int d1), .val (.int d2), .val (.int d3), .val (.ref b64), .val (.ref rr), .val (.int (2 : Int32)), .val (.int (1 : Int32))] [(.int (own_ch ((d1.toInt8.toInt32).toInt8.toInt32)))]))
        refine OGo.via (fun _ k => XS.iload X98.here hx rfl (hb hby at_226) rfl (XS.icmpYes X98.here hx rfl (pc0 := 228) (pc' := 233) rfl (hb hby at_228) rfl (teq (own_bk r1_1)).1 (by decide) (by decide) (XS.iload X98.here hx rfl (hb hby at_233) rfl (XS.iconst X98.here hx rfl (hb hby at_235) (XS.icmpYes X98.here hx rfl (pc0 := 236) (pc' := 252) rfl (hb hby at_236) rfl (tlt (by decide : (1 : Int32) < (2 : Int32))).1 (by decide) (by decide) (XS.iload X98.here hx rfl (hb hby at_252) rfl (XS.iconst X98.here hx rfl (hb hby at_254) (XS.icmpYes X98.here hx rfl (pc0 := 255) (pc' := 271) rfl (hb hby at_255) rfl (tlt (by decide : (1 : Int32) < (3 : Int32))).1 (by decide) (by decide) k)))))))) ?_
        show OGo _ _ _ _ (T98.setTop (mkF m 271 #[.val (.int p1), .val (.int p2), .val (.int p3), .val (.int p4), .val (.int (3 : Int32)), .val (.int d1), .val (.int d2), .val (.int d3), .val (.ref b64), .val (.ref rr), .val (.int (2 : Int32)), .val (.int (1 : Int32))] []))
        refine OGo.via (fun _ k => XS.iconst X98.here hx rfl (hb hby at_271) k) ?_
        show OGo _ _ _ _ (T98.setTop (mkF m 272 #[.val (.int p1), .val (.int p2), .val (.int p3), .val (.int p4), .val (.int (3 : Int32)), .val (.int d1), .val (.int d2), .val (.int d3), .val (.ref b64), .val (.ref rr), .val (.int (2 : Int32)), .val (.int (1 : Int32))] [(.int (1 : Int32))]))
        refine own_wide ?_
        refine own_retN (t := .boolean) (by simp) X98 hx Bd.notSynchronized Bd.returns (hb hby at_272) (by decide) (by decide) ?_
        show Q_rm0 Z _ _ _ _ _ _ h0 n0 _ T98.heap _
        rw [r98_0]
        exact ⟨rfl, N98⟩
      · obtain ⟨cq100, kq100, q100a, q100b, q100c⟩ := isOf hZ rfl f86
        obtain ⟨_, T100, Lc100, X100, hQ100, st100⟩ := own_open X81 (X81.virtualBack hx (y := own_y28) (z := own_y28) hown (mvT hZ (own_w hw 48 rfl)) (mvT hZ (own_w hw 49 rfl)) (notFace_of_selects (args := #[]) (mvT hZ (own_w hw 51 rfl))) (mvT hZ (own_w hw 51 rfl)) (mvT hZ (own_w hw 50 rfl)) (by decide) (backOf (W := 0) (rm10_3_3 l Z a0 hw [] b68 w fm va ka (((47 : Int32).toInt8.toInt32).toInt8.toInt32) ((d1.toInt8.toInt32).toInt8.toInt32) ((d2.toInt8.toInt32).toInt8.toInt32) b72 T81.heap n0 (Nat.le_trans Z0 K81.1) f86 r81_1 f87 f88 f89 f85 r81_2 r81_3 hw0 hr_fm (fun q => hq1 ((own_b47 r1_1).mp q)) (fun q => hq2 ((own_b47 r2_1).mp q))) hZ (own_w hw 52 rfl) (own_w hw 7 rfl) (by decide) (by decide)) q100a q100c (g := (mkF m 130 #[.val (.int p1), .val (.int p2), .val (.int p3), .val (.int p4), .val (.int (3 : Int32)), .val (.int d1), .val (.int d2), .val (.int d3), .val (.ref b64), .unset, .unset, .unset] [(.ref b68)])) rfl (by rw [hml]; rfl) (Steps.refl _) (argsL := []) (rest := []) (lenOf pd_23 rfl) rfl (by show 2 * 0 + _ ≤ _; exact Nat.le_of_eq rfl) (hb hby at_130) (fun _ _ => ⟨rfl, rfl, (by decide : 4 + 2 ≤ _), (by decide : 11 + 6 ≤ _)⟩))
        obtain ⟨rr, vr, kr, rfl, N100q, r100_0, r100_1, r100_2, r100_3, r100_4⟩ := hQ100
        have N100 := Fr.app N81 N100q
        have K100 : Keep h0 T100.heap [] := K81.trans r100_0 all0
        refine OGo.via (fun _ k => st100.trans k) ?_
        show OGo _ _ _ _ (T100.setTop (mkF m 133 #[.val (.int p1), .val (.int p2), .val (.int p3), .val (.int p4), .val (.int (3 : Int32)), .val (.int d1), .val (.int d2), .val (.int d3), .val (.ref b64), .unset, .unset, .unset] [(.ref rr)]))
        refine OGo.via (fun _ k => XS.astore X100.here hx rfl (hb hby at_133) rfl rfl (l' := #[.val (.int p1), .val (.int p2), .val (.int p3), .val (.int p4), .val (.int (3 : Int32)), .val (.int d1), .val (.int d2), .val (.int d3), .val (.ref b64), .val (.ref rr), .unset, .unset]) rfl (XS.iload X100.here hx rfl (hb hby at_135) rfl (XS.iconst X100.here hx rfl (hb hby at_137) (XS.icmpNo X100.here hx rfl (hb hby at_138) rfl (tlt (by decide : (1 : Int32) < (3 : Int32))).2.2.2 (XS.iload X100.here hx rfl (hb hby at_141) rfl (XS.bipush X100.here hx rfl (hb hby at_143) (XS.icmpYes X100.here hx rfl (pc0 := 145) (pc' := 154) rfl (hb hby at_145) rfl (feq hq1).2 (by decide) (by decide) (XS.iload X100.here hx rfl (hb hby at_154) rfl k)))))))) ?_
        show OGo _ _ _ _ (T100.setTop (mkF m 156 #[.val (.int p1), .val (.int p2), .val (.int p3), .val (.int p4), .val (.int (3 : Int32)), .val (.int d1), .val (.int d2), .val (.int d3), .val (.ref b64), .val (.ref rr), .unset, .unset] [(.int (3 : Int32))]))
        refine OGo.via (fun _ k => XS.iconst X100.here hx rfl (hb hby at_156) (XS.icmpNo X100.here hx rfl (hb hby at_157) rfl (tlt (by decide : (2 : Int32) < (3 : Int32))).2.2.2 (XS.iload X100.here hx rfl (hb hby at_160) rfl (XS.bipush X100.here hx rfl (hb hby at_162) (XS.icmpYes X100.here hx rfl (pc0 := 164) (pc' := 173) rfl (hb hby at_164) rfl (feq hq2).2 (by decide) (by decide) (XS.iload X100.here hx rfl (hb hby at_173) rfl (XS.iconst X100.here hx rfl (hb hby at_175) (XS.icmpYes X100.here hx rfl (pc0 := 176) (pc' := 192) rfl (hb hby at_176) rfl (flt (by decide : ¬ ((3 : Int32) < (3 : Int32)))).2.2.2 (by decide) (by decide) k)))))))) ?_
        show OGo _ _ _ _ (T100.setTop (mkF m 192 #[.val (.int p1), .val (.int p2), .val (.int p3), .val (.int p4), .val (.int (3 : Int32)), .val (.int d1), .val (.int d2), .val (.int d3), .val (.ref b64), .val (.ref rr), .unset, .unset] []))
        refine OGo.via (fun _ k => XS.iload X100.here hx rfl (hb hby at_192) rfl (XS.istore X100.here hx rfl (hb hby at_194) rfl (l' := #[.val (.int p1), .val (.int p2), .val (.int p3), .val (.int p4), .val (.int (3 : Int32)), .val (.int d1), .val (.int d2), .val (.int d3), .val (.ref b64), .val (.ref rr), .val (.int (3 : Int32)), .unset]) rfl (XS.iload X100.here hx rfl (hb hby at_196) rfl (XS.iconst X100.here hx rfl (hb hby at_198) (XS.isub X100.here hx rfl (hb hby at_199) rfl k))))) ?_
        show OGo _ _ _ _ (T100.setTop (mkF m 200 #[.val (.int p1), .val (.int p2), .val (.int p3), .val (.int p4), .val (.int (3 : Int32)), .val (.int d1), .val (.int d2), .val (.int d3), .val (.ref b64), .val (.ref rr), .val (.int (3 : Int32)), .unset] [(.int ((3 : Int32) - (1 : Int32)))]))
        rw [show ((3 : Int32) - (1 : Int32)) = (2 : Int32) from by decide]
        refine OGo.via (fun _ k => XS.istore X100.here hx rfl (hb hby at_200) rfl (l' := #[.val (.int p1), .val (.int p2), .val (.int p3), .val (.int p4), .val (.int (3 : Int32)), .val (.int d1), .val (.int d2), .val (.int d3), .val (.ref b64), .val (.ref rr), .val (.int (3 : Int32)), .val (.int (2 : Int32))]) rfl (XS.aload X100.here hx rfl (hb hby at_202) rfl rfl k)) ?_
        have f103 := own_staKeep0 r81_2 r100_0
        obtain ⟨cq102, kq102, q102a, q102b, q102c⟩ := isOf hZ rfl r100_1
        obtain ⟨_, T102, Lc102, X102, hQ102, st102⟩ := own_open X100 (X100.virtualBack hx (y := own_y6) (z := own_y6) hown (mvT hZ (own_w hw 107 rfl)) (mvT hZ (own_w hw 64 rfl)) (notFace_of_selects (args := #[]) (mvT hZ (own_w hw 66 rfl))) (mvT hZ (own_w hw 66 rfl)) (mvT hZ (own_w hw 65 rfl)) (by decide) (backOf (W := 0) (rm13 l Z a0 hw [] rr w vr kr [(.int ((d1.toInt8.toInt32).toInt8.toInt32)), (.int ((d2.toInt8.toInt32).toInt8.toInt32))] (2 : Int32) T100.heap n0 (Nat.le_trans Z0 K100.1) r100_1 r100_2 r100_3 r100_4 f103 hw0) hZ (own_w hw 67 rfl) (own_w hw 10 rfl) (by decide) (by decide)) q102a q102c (g := (mkF m 204 #[.val (.int p1), .val (.int p2), .val (.int p3), .val (.int p4), .val (.int (3 : Int32)), .val (.int d1), .val (.int d2), .val (.int d3), .val (.ref b64), .val (.ref rr), .val (.int (3 : Int32)), .val (.int (2 : Int32))] [(.ref rr)])) rfl (by rw [hml]; rfl) (Steps.refl _) (argsL := []) (rest := []) (lenOf pd_11 rfl) rfl (by show 2 * 0 + _ ≤ _; exact Nat.le_of_eq rfl) (hb hby at_204) (fun _ _ => ⟨rfl, rfl, (by decide : 6 + 0 ≤ _), (by decide : 17 + 0 ≤ _)⟩))
        obtain ⟨rfl, N102q, r102_0⟩ := hQ102
        have N102 := Fr.app N100 N102q
        refine OGo.via (fun _ k => st102.trans k) ?_
        show OGo _ _ _ _ (T102.setTop (mkF m 207 #[.val (.int p1), .val (.int p2), .val (.int p3), .val (.int p4), .val (.int (3 : Int32)), .val (.int d1), .val (.int d2), .val (.int d3), .val (.ref b64), .val (.ref rr), .val (.int (3 : Int32)), .val (.int (2 : Int32))] [(.int (2 : Int32))]))
        refine OGo.via (fun _ k => XS.iload X102.here hx rfl (hb hby at_207) rfl (XS.icmpYes X102.here hx rfl (pc0 := 209) (pc' := 214) rfl (hb hby at_209) rfl (teq (by decide : (2 : Int32) = (2 : Int32))).1 (by decide) (by decide) (XS.iload X102.here hx rfl (hb hby at_214) rfl (XS.iconst X102.here hx rfl (hb hby at_216) (XS.icmpNo X102.here hx rfl (hb hby at_217) rfl (flt (by decide : ¬ ((2 : Int32) < (1 : Int32)))).1 (XS.aload X102.here hx rfl (hb hby at_220) rfl rfl (XS.iconst X102.here hx rfl (hb hby at_222) k))))))) ?_
        have f105 := own_staKeep0 r81_3 r100_0
        obtain ⟨cq104, kq104, q104a, q104b, q104c⟩ := isOf hZ r102_0 r100_1
        obtain ⟨_, T104, Lc104, X104, hQ104, st104⟩ := own_open X102 (X102.virtualBack hx (y := own_y19) (z := own_y19) hown (mvT hZ (own_w hw 130 rfl)) (mvT hZ (own_w hw 131 rfl)) (notFace_of_selects (args := #[]) (mvT hZ (own_w hw 133 rfl))) (mvT hZ (own_w hw 133 rfl)) (mvT hZ (own_w hw 132 rfl)) (by decide) (backOf (W := 0) (rm28 l Z a0 hw [] rr (0 : Int32) w fm vr kr (2 : Int32) [(.int ((d1.toInt8.toInt32).toInt8.toInt32)), (.int ((d2.toInt8.toInt32).toInt8.toInt32))] ((d1.toInt8.toInt32).toInt8.toInt32) T100.heap n0 (Nat.le_trans Z0 K100.1) r100_1 r100_2 r100_3 r100_4 f103 f105 hw0 hr_fm (by decide) (by decide) rfl) hZ (own_w hw 134 rfl) (own_w hw 10 rfl) (by decide) (by decide)) q104a q104c (g := (mkF m 223 #[.val (.int p1), .val (.int p2), .val (.int p3), .val (.int p4), .val (.int (3 : Int32)), .val (.int d1), .val (.int d2), .val (.int d3), .val (.ref b64), .val (.ref rr), .val (.int (3 : Int32)), .val (.int (2 : Int32))] [(.int (0 : Int32)), (.ref rr)])) rfl (by rw [hml]; rfl) (Steps.refl _) (argsL := [(.int (0 : Int32))]) (rest := []) (lenOf pd_20 rfl) rfl (by show 2 * 0 + _ ≤ _; exact Nat.le_of_eq rfl) (hb hby at_223) (fun _ _ => ⟨rfl, r102_0, (by decide : 6 + 0 ≤ _), (by decide : 17 + 0 ≤ _)⟩))
        obtain ⟨rfl, N104q, r104_0⟩ := hQ104
        have N104 := Fr.app N102 N104q
        refine OGo.via (fun _ k => st104.trans k) ?_
        show OGo _ _ _ _ (T104.setTop (mkF m 226 #[.val (.int p1), .val (.int p2), .val (.int p3), .val (.int p4), .val (.int (3 : Int32)), .val (.int d1), .val (.int d2), .val (.int d3), .val (.ref b64), .val (.ref rr), .val (.int (3 : Int32)), .val (.int (2 : Int32))] [(.int (own_ch ((d1.toInt8.toInt32).toInt8.toInt32)))]))
        refine OGo.via (fun _ k => XS.iload X104.here hx rfl (hb hby at_226) rfl (XS.icmpYes X104.here hx rfl (pc0 := 228) (pc' := 233) rfl (hb hby at_228) rfl (teq (own_bk r1_1)).1 (by decide) (by decide) (XS.iload X104.here hx rfl (hb hby at_233) rfl (XS.iconst X104.here hx rfl (hb hby at_235) (XS.icmpNo X104.here hx rfl (hb hby at_236) rfl (flt (by decide : ¬ ((2 : Int32) < (2 : Int32)))).1 (XS.aload X104.here hx rfl (hb hby at_239) rfl rfl (XS.iconst X104.here hx rfl (hb hby at_241) k))))))) ?_
        obtain ⟨cq106, kq106, q106a, q106b, q106c⟩ := isOf hZ r104_0 r100_1
        obtain ⟨_, T106, Lc106, X106, hQ106, st106⟩ := own_open X104 (X104.virtualBack hx (y := own_y19) (z := own_y19) hown (mvT hZ (own_w hw 130 rfl)) (mvT hZ (own_w hw 131 rfl)) (notFace_of_selects (args := #[]) (mvT hZ (own_w hw 133 rfl))) (mvT hZ (own_w hw 133 rfl)) (mvT hZ (own_w hw 132 rfl)) (by decide) (backOf (W := 0) (rm28 l Z a0 hw [] rr (1 : Int32) w fm vr kr (2 : Int32) [(.int ((d1.toInt8.toInt32).toInt8.toInt32)), (.int ((d2.toInt8.toInt32).toInt8.toInt32))] ((d2.toInt8.toInt32).toInt8.toInt32) T100.heap n0 (Nat.le_trans Z0 K100.1) r100_1 r100_2 r100_3 r100_4 f103 f105 hw0 hr_fm (by decide) (by decide) rfl) hZ (own_w hw 134 rfl) (own_w hw 10 rfl) (by decide) (by decide)) q106a q106c (g := (mkF m 242 #[.val (.int p1), .val (.int p2), .val (.int p3), .val (.int p4), .val (.int (3 : Int32)), .val (.int d1), .val (.int d2), .val (.int d3), .val (.ref b64), .val (.ref rr), .val (.int (3 : Int32)), .val (.int (2 : Int32))] [(.int (1 : Int32)), (.ref rr)])) rfl (by rw [hml]; rfl) (Steps.refl _) (argsL := [(.int (1 : Int32))]) (rest := []) (lenOf pd_20 rfl) rfl (by show 2 * 0 + _ ≤ _; exact Nat.le_of_eq rfl) (hb hby at_242) (fun _ _ => ⟨rfl, r104_0, (by decide : 6 + 0 ≤ _), (by decide : 17 + 0 ≤ _)⟩))
        obtain ⟨rfl, N106q, r106_0⟩ := hQ106
        have N106 := Fr.app N104 N106q
        refine OGo.via (fun _ k => st106.trans k) ?_
        show OGo _ _ _ _ (T106.setTop (mkF m 245 #[.val (.int p1), .val (.int p2), .val (.int p3), .val (.int p4), .val (.int (3 : Int32)), .val (.int d1), .val (.int d2), .val (.int d3), .val (.ref b64), .val (.ref rr), .val (.int (3 : Int32)), .val (.int (2 : Int32))] [(.int (own_ch ((d2.toInt8.toInt32).toInt8.toInt32)))]))
        refine OGo.via (fun _ k => XS.iload X106.here hx rfl (hb hby at_245) rfl (XS.icmpYes X106.here hx rfl (pc0 := 247) (pc' := 252) rfl (hb hby at_247) rfl (teq (own_bk r2_1)).1 (by decide) (by decide) (XS.iload X106.here hx rfl (hb hby at_252) rfl (XS.iconst X106.here hx rfl (hb hby at_254) (XS.icmpYes X106.here hx rfl (pc0 := 255) (pc' := 271) rfl (hb hby at_255) rfl (tlt (by decide : (2 : Int32) < (3 : Int32))).1 (by decide) (by decide) (XS.iconst X106.here hx rfl (hb hby at_271) k)))))) ?_
        show OGo _ _ _ _ (T106.setTop (mkF m 272 #[.val (.int p1), .val (.int p2), .val (.int p3), .val (.int p4), .val (.int (3 : Int32)), .val (.int d1), .val (.int d2), .val (.int d3), .val (.ref b64), .val (.ref rr), .val (.int (3 : Int32)), .val (.int (2 : Int32))] [(.int (1 : Int32))]))
        refine own_wide ?_
        refine own_retN (t := .boolean) (by simp) X106 hx Bd.notSynchronized Bd.returns (hb hby at_272) (by decide) (by decide) ?_
        show Q_rm0 Z _ _ _ _ _ _ h0 n0 _ T106.heap _
        rw [r106_0]
        exact ⟨rfl, N106⟩
  · show OGo _ _ _ _ (T3.setTop (mkF m 25 #[.val (.int p1), .val (.int p2), .val (.int p3), .val (.int p4), .val (.int (4 : Int32)), .val (.int d1), .val (.int d2), .val (.int d3), .unset, .unset, .unset, .unset] []))
    refine OGo.via (fun _ k => XS.iload X3.here hx rfl (hb hby at_25) rfl (XS.iconst X3.here hx rfl (hb hby at_27) (XS.icmpYes X3.here hx rfl (pc0 := 28) (pc' := 39) rfl (hb hby at_28) rfl (feq (by decide : ¬ ((4 : Int32) = (1 : Int32)))).2 (by decide) (by decide) (XS.iload X3.here hx rfl (hb hby at_39) rfl (XS.iconst X3.here hx rfl (hb hby at_41) (XS.icmpYes X3.here hx rfl (pc0 := 42) (pc' := 53) rfl (hb hby at_42) rfl (feq (by decide : ¬ ((4 : Int32) = (2 : Int32)))).2 (by decide) (by decide) (XS.iload X3.here hx rfl (hb hby at_53) rfl (XS.iconst X3.here hx rfl (hb hby at_55) k)))))))) ?_
    show OGo _ _ _ _ (T3.setTop (mkF m 56 #[.val (.int p1), .val (.int p2), .val (.int p3), .val (.int p4), .val (.int (4 : Int32)), .val (.int d1), .val (.int d2), .val (.int d3), .unset, .unset, .unset, .unset] [(.int (3 : Int32)), (.int (4 : Int32))]))
    refine OGo.via (fun _ k => XS.icmpYes X3.here hx rfl (pc0 := 56) (pc' := 67) rfl (hb hby at_56) rfl (feq (by decide : ¬ ((4 : Int32) = (3 : Int32)))).2 (by decide) (by decide) (XS.iconst X3.here hx rfl (hb hby at_67) k)) ?_
    obtain ⟨T107, h107, ka107, X107, e107, E107, A107, Y107, st107⟩ := newPE (ad := "[C") X3 hx hZ (own_w hw 4 rfl) r3_0 (g := (mkF m 68 #[.val (.int p1), .val (.int p2), .val (.int p3), .val (.int p4), .val (.int (4 : Int32)), .val (.int d1), .val (.int d2), .val (.int d3), .unset, .unset, .unset, .unset] [(.int (4 : Int32))])) rfl (hb hby at_68) rfl (by decide) (cap := 4) (by decide) (by decide) (by decide) (by decide) (by decide)
    obtain ⟨b107, g107⟩ : ∃ z, z = h0.size := ⟨_, rfl⟩
    rw [← g107] at A107 Y107 st107
    refine OGo.via st107 ?_
    have K107 : Keep h0 h107 [] := (Keep.refl h0 []).ext E107
    have sz_b107 : h0.size ≤ b107 := Nat.le_trans (Keep.refl h0 []).1 (Nat.le_of_eq g107.symm)
    have g_b107 : n0 ≤ b107 := Nat.le_trans Z0 sz_b107
    have V107 : Arv Z h107 b107 ka107 .char (4 : Int32) [(.int (0 : Int32)), (.int (0 : Int32)), (.int (0 : Int32)), (.int (0 : Int32))] (.int (0 : Int32)) := (Arv.new A107 (by decide)).pad (pad_rep [] (.int (0 : Int32)) 4)
    show OGo _ _ _ _ (T107.setTop (mkF m 70 #[.val (.int p1), .val (.int p2), .val (.int p3), .val (.int p4), .val (.int (4 : Int32)), .val (.int d1), .val (.int d2), .val (.int d3), .unset, .unset, .unset, .unset] [(.ref b107)]))
    refine OGo.via (fun _ k => XS.astore X107.here hx rfl (hb hby at_70) rfl rfl (l' := #[.val (.int p1), .val (.int p2), .val (.int p3), .val (.int p4), .val (.int (4 : Int32)), .val (.int d1), .val (.int d2), .val (.int d3), .val (.ref b107), .unset, .unset, .unset]) rfl (XS.aload X107.here hx rfl (hb hby at_72) rfl rfl (XS.iconst X107.here hx rfl (hb hby at_74) (XS.bipush X107.here hx rfl (hb hby at_75) k)))) ?_
    obtain ⟨cl108, Ar108, q108, Sz108, Ng108, Hs108, Gf108⟩ := id V107
    have hin108 : ¬ ((0 : Int32) < 0 ∨ cl108.slots.size ≤ ((0 : Int32)).toNatClampNeg) := inb_of Sz108 ⟨by decide, by decide⟩
    obtain ⟨T108, h108, X108, e108, W108, st108⟩ := stC X107 hx hZ e107 Ar108 (j := (0 : Int32)) hin108 (g := (mkF m 77 #[.val (.int p1), .val (.int p2), .val (.int p3), .val (.int p4), .val (.int (4 : Int32)), .val (.int d1), .val (.int d2), .val (.int d3), .val (.ref b107), .unset, .unset, .unset] [(.int (47 : Int32)), (.int (0 : Int32)), (.ref b107)])) rfl rfl (hb hby at_77)
    refine OGo.via st108 ?_
    have V108 : Arv Z h108 b107 ka107 .char (4 : Int32) [(.int (nar .char (47 : Int32))), (.int (0 : Int32)), (.int (0 : Int32)), (.int (0 : Int32))] (.int (0 : Int32)) := Arv.set Ar108 q108 Sz108 Ng108 Hs108 Gf108 (fits_nar_char _) W108 0 rfl (Nat.le_of_ble_eq_true rfl)
    have K108 : Keep h0 h108 [] := K107.wr W108 (Or.inr sz_b107)
    have N108 := Fr.snoc X108 N3 g_b107
    show OGo _ _ _ _ (T108.setTop (mkF m 78 #[.val (.int p1), .val (.int p2), .val (.int p3), .val (.int p4), .val (.int (4 : Int32)), .val (.int d1), .val (.int d2), .val (.int d3), .val (.ref b107), .unset, .unset, .unset] []))
    refine OGo.via (fun _ k => XS.iload X108.here hx rfl (hb hby at_78) rfl (XS.iconst X108.here hx rfl (hb hby at_80) (XS.icmpNo X108.here hx rfl (hb hby at_81) rfl (tlt (by decide : (1 : Int32) < (4 : Int32))).2.2.2 (XS.aload X108.here hx rfl (hb hby at_84) rfl rfl (XS.iconst X108.here hx rfl (hb hby at_86) (XS.iload X108.here hx rfl (hb hby at_87) rfl k)))))) ?_
    obtain ⟨cl109, Ar109, q109, Sz109, Ng109, Hs109, Gf109⟩ := id V108
    have hin109 : ¬ ((1 : Int32) < 0 ∨ cl109.slots.size ≤ ((1 : Int32)).toNatClampNeg) := inb_of Sz109 ⟨by decide, by decide⟩
    obtain ⟨T109, h109, X109, e109, W109, st109⟩ := stC X108 hx hZ e108 Ar109 (j := (1 : Int32)) hin109 (g := (mkF m 89 #[.val (.int p1), .val (.int p2), .val (.int p3), .val (.int p4), .val (.int (4 : Int32)), .val (.int d1), .val (.int d2), .val (.int d3), .val (.ref b107), .unset, .unset, .unset] [(.int d1), (.int (1 : Int32)), (.ref b107)])) rfl rfl (hb hby at_89)
    refine OGo.via st109 ?_
    have V109 : Arv Z h109 b107 ka107 .char (4 : Int32) [(.int (nar .char (47 : Int32))), (.int (nar .char d1)), (.int (0 : Int32)), (.int (0 : Int32))] (.int (0 : Int32)) := Arv.set Ar109 q109 Sz109 Ng109 Hs109 Gf109 (fits_nar_char _) W109 1 rfl (Nat.le_of_ble_eq_true rfl)
    have K109 : Keep h0 h109 [] := K108.wr W109 (Or.inr sz_b107)
    have N109 := Fr.snoc X109 N108 g_b107
    show OGo _ _ _ _ (T109.setTop (mkF m 90 #[.val (.int p1), .val (.int p2), .val (.int p3), .val (.int p4), .val (.int (4 : Int32)), .val (.int d1), .val (.int d2), .val (.int d3), .val (.ref b107), .unset, .unset, .unset] []))
    refine OGo.via (fun _ k => XS.iload X109.here hx rfl (hb hby at_90) rfl (XS.iconst X109.here hx rfl (hb hby at_92) (XS.icmpNo X109.here hx rfl (hb hby at_93) rfl (tlt (by decide : (2 : Int32) < (4 : Int32))).2.2.2 (XS.aload X109.here hx rfl (hb hby at_96) rfl rfl (XS.iconst X109.here hx rfl (hb hby at_98) (XS.iload X109.here hx rfl (hb hby at_99) rfl k)))))) ?_
    obtain ⟨cl110, Ar110, q110, Sz110, Ng110, Hs110, Gf110⟩ := id V109
    have hin110 : ¬ ((2 : Int32) < 0 ∨ cl110.slots.size ≤ ((2 : Int32)).toNatClampNeg) := inb_of Sz110 ⟨by decide, by decide⟩
    obtain ⟨T110, h110, X110, e110, W110, st110⟩ := stC X109 hx hZ e109 Ar110 (j := (2 : Int32)) hin110 (g := (mkF m 101 #[.val (.int p1), .val (.int p2), .val (.int p3), .val (.int p4), .val (.int (4 : Int32)), .val (.int d1), .val (.int d2), .val (.int d3), .val (.ref b107), .unset, .unset, .unset] [(.int d2), (.int (2 : Int32)), (.ref b107)])) rfl rfl (hb hby at_101)
    refine OGo.via st110 ?_
    have V110 : Arv Z h110 b107 ka107 .char (4 : Int32) [(.int (nar .char (47 : Int32))), (.int (nar .char d1)), (.int (nar .char d2)), (.int (0 : Int32))] (.int (0 : Int32)) := Arv.set Ar110 q110 Sz110 Ng110 Hs110 Gf110 (fits_nar_char _) W110 2 rfl (Nat.le_of_ble_eq_true rfl)
    have K110 : Keep h0 h110 [] := K109.wr W110 (Or.inr sz_b107)
    have N110 := Fr.snoc X110 N109 g_b107
    show OGo _ _ _ _ (T110.setTop (mkF m 102 #[.val (.int p1), .val (.int p2), .val (.int p3), .val (.int p4), .val (.int (4 : Int32)), .val (.int d1), .val (.int d2), .val (.int d3), .val (.ref b107), .unset, .unset, .unset] []))
    refine OGo.via (fun _ k => XS.iload X110.here hx rfl (hb hby at_102) rfl (XS.iconst X110.here hx rfl (hb hby at_104) (XS.icmpNo X110.here hx rfl (hb hby at_105) rfl (tlt (by decide : (3 : Int32) < (4 : Int32))).2.2.2 (XS.aload X110.here hx rfl (hb hby at_108) rfl rfl (XS.iconst X110.here hx rfl (hb hby at_110) (XS.iload X110.here hx rfl (hb hby at_111) rfl k)))))) ?_
    obtain ⟨cl111, Ar111, q111, Sz111, Ng111, Hs111, Gf111⟩ := id V110
    have hin111 : ¬ ((3 : Int32) < 0 ∨ cl111.slots.size ≤ ((3 : Int32)).toNatClampNeg) := inb_of Sz111 ⟨by decide, by decide⟩
    obtain ⟨T111, h111, X111, e111, W111, st111⟩ := stC X110 hx hZ e110 Ar111 (j := (3 : Int32)) hin111 (g := (mkF m 113 #[.val (.int p1), .val (.int p2), .val (.int p3), .val (.int p4), .val (.int (4 : Int32)), .val (.int d1), .val (.int d2), .val (.int d3), .val (.ref b107), .unset, .unset, .unset] [(.int d3), (.int (3 : Int32)), (.ref b107)])) rfl rfl (hb hby at_113)
    refine OGo.via st111 ?_
    have V111 : Arv Z h111 b107 ka107 .char (4 : Int32) [(.int (nar .char (47 : Int32))), (.int (nar .char d1)), (.int (nar .char d2)), (.int (nar .char d3))] (.int (0 : Int32)) := Arv.set Ar111 q111 Sz111 Ng111 Hs111 Gf111 (fits_nar_char _) W111 3 rfl (Nat.le_of_ble_eq_true rfl)
    have K111 : Keep h0 h111 [] := K110.wr W111 (Or.inr sz_b107)
    have N111 := Fr.snoc X111 N110 g_b107
    show OGo _ _ _ _ (T111.setTop (mkF m 114 #[.val (.int p1), .val (.int p2), .val (.int p3), .val (.int p4), .val (.int (4 : Int32)), .val (.int d1), .val (.int d2), .val (.int d3), .val (.ref b107), .unset, .unset, .unset] []))
    rw [show nar .char (47 : Int32) = 47 from by decide, r1_1.1, r2_1.1, r3_1.1] at V111
    have f113 := Y107.wr W108
    have f114 := f113.wr W109
    have f115 := f114.wr W110
    have f116 := f115.wr W111
    obtain ⟨T112, h112, X112, e112, E112, A112, D112, -, st112⟩ := newO X111 hx hZ hown (own_w hw 5 rfl) (own_w hw 6 rfl) (own_w hw 7 rfl) e111 (g := (mkF m 114 #[.val (.int p1), .val (.int p2), .val (.int p3), .val (.int p4), .val (.int (4 : Int32)), .val (.int d1), .val (.int d2), .val (.int d3), .val (.ref b107), .unset, .unset, .unset] [])) rfl (hb hby at_114) (by decide) (by decide)
    obtain ⟨b112, g112⟩ : ∃ z, z = h111.size := ⟨_, rfl⟩
    rw [← g112] at A112 D112 st112
    refine OGo.via st112 ?_
    have K112 : Keep h0 h112 [] := K111.ext E112
    have lt_b107_b112 : b107 < b112 := Nat.lt_of_lt_of_le f116.lt (Nat.le_of_eq g112.symm)
    have sz_b112 : h0.size ≤ b112 := Nat.le_trans K111.1 (Nat.le_of_eq g112.symm)
    have g_b112 : n0 ≤ b112 := Nat.le_trans Z0 sz_b112
    have F112_path : Fld Z h112 b112 "com/example/ianus/ianus/server/LiteralPath" "path" "Ljava/lang/String;" .null := D112 (Or.inr (own_w hw 47 rfl)) (ty := (.object "java/lang/String")) (by decide)
    show OGo _ _ _ _ (T112.setTop (mkF m 117 #[.val (.int p1), .val (.int p2), .val (.int p3), .val (.int p4), .val (.int (4 : Int32)), .val (.int d1), .val (.int d2), .val (.int d3), .val (.ref b107), .unset, .unset, .unset] [(.ref b112)]))
    refine OGo.via (fun _ k => XS.dup X112.here hx rfl (hb hby at_117) rfl rfl k) ?_
    have f118 := f116.ext E112
    obtain ⟨T117, h117, X117, e117, E117, A117, D117, -, st117⟩ := newO X112 hx hZ hown (own_w hw 8 rfl) (own_w hw 9 rfl) (own_w hw 10 rfl) e112 (g := (mkF m 118 #[.val (.int p1), .val (.int p2), .val (.int p3), .val (.int p4), .val (.int (4 : Int32)), .val (.int d1), .val (.int d2), .val (.int d3), .val (.ref b107), .unset, .unset, .unset] [(.ref b112), (.ref b112)])) rfl (hb hby at_118) (by decide) (by decide)
    obtain ⟨b117, g117⟩ : ∃ z, z = h112.size := ⟨_, rfl⟩
    rw [← g117] at A117 D117 st117
    refine OGo.via st117 ?_
    have K117 : Keep h0 h117 [] := K112.ext E117
    have lt_b107_b117 : b107 < b117 := Nat.lt_of_lt_of_le f118.lt (Nat.le_of_eq g117.symm)
    have lt_b112_b117 : b112 < b117 := Nat.lt_of_lt_of_le A112.lt (Nat.le_of_eq g117.symm)
    have sz_b117 : h0.size ≤ b117 := Nat.le_trans K112.1 (Nat.le_of_eq g117.symm)
    have g_b117 : n0 ≤ b117 := Nat.le_trans Z0 sz_b117
    have F117_coder : Fld Z h117 b117 "java/lang/String" "coder" "B" (.int (0 : Int32)) := D117 (Or.inr (own_w hw 34 rfl)) (ty := .byte) (by decide)
    have F117_value : Fld Z h117 b117 "java/lang/String" "value" "[B" .null := D117 (Or.inr (own_w hw 36 rfl)) (ty := (.array .byte)) (by decide)
    show OGo _ _ _ _ (T117.setTop (mkF m 121 #[.val (.int p1), .val (.int p2), .val (.int p3), .val (.int p4), .val (.int (4 : Int32)), .val (.int d1), .val (.int d2), .val (.int d3), .val (.ref b107), .unset, .unset, .unset] [(.ref b117), (.ref b112), (.ref b112)]))
    refine OGo.via (fun _ k => XS.dup X117.here hx rfl (hb hby at_121) rfl rfl (XS.aload X117.here hx rfl (hb hby at_122) rfl rfl k)) ?_
    have f120 := V111.ext E112
    have f121 := f120.ext E117
    have f122 := own_staKeep0 S_COMPACT_STRINGS K117
    have f123 := own_staKeep0 S_SIOOBE_FORMATTER K117
    have f124 := f118.ext E117
    have f125 := A112.ext E117
    obtain ⟨_, T119, Lc119, X119, hQ119, st119⟩ := own_open X117 (X117.specialBack hx (y := own_y11) rfl hown (mvT hZ (own_w hw 11 rfl)) (mvT hZ (own_w hw 12 rfl)) (mvT hZ (own_w hw 13 rfl)) (by decide) (backOf (W := 3) (rm2_4 l Z a0 hw [] b117 b107 ka107 w fm (47 : Int32) d1 d2 d3 h117 n0 (Nat.le_trans Z0 K117.1) A117 F117_value F117_coder f121 g_b117 f122 f123 hw0 (by decide) r1_1.2.1 r2_1.2.1 r3_1.2.1) hZ (own_w hw 13 rfl) (own_w hw 10 rfl) (by decide) (by decide)) (g := (mkF m 124 #[.val (.int p1), .val (.int p2), .val (.int p3), .val (.int p4), .val (.int (4 : Int32)), .val (.int d1), .val (.int d2), .val (.int d3), .val (.ref b107), .unset, .unset, .unset] [(.ref b107), (.ref b117), (.ref b117), (.ref b112), (.ref b112)])) rfl (by rw [hml]; rfl) (Steps.refl _) (a := b117) (argsL := [(.ref b107)]) (rest := [(.ref b117), (.ref b112), (.ref b112)]) (lenOf pd_21 rfl) rfl (by show 2 * 0 + _ ≤ _; exact Nat.le_of_eq rfl) (hb hby at_124) (fun _ _ => ⟨rfl, e117, (by decide : 3 + 1 ≤ _), (by decide : 9 + 4 ≤ _)⟩))
    obtain ⟨va, ka, rfl, N119q, r119_0, r119_1, r119_2, r119_3, r119_4, r119_5, r119_6, r119_7⟩ := hQ119
    have N119 := Fr.app N111 N119q
    have K119 : Keep h0 T119.heap [] := K117.trans r119_0 (allS (Or.inr sz_b117) all0)
    have lt_b107_va : b107 < va := Nat.lt_of_lt_of_le f124.lt r119_1
    have lt_b112_va : b112 < va := Nat.lt_of_lt_of_le f125.lt r119_1
    have lt_b117_va : b117 < va := Nat.lt_of_lt_of_le A117.lt r119_1
    have sz_va : h0.size ≤ va := Nat.le_trans K117.1 r119_1
    have g_va : n0 ≤ va := Nat.le_trans Z0 sz_va
    refine OGo.via (fun _ k => st119.trans k) ?_
    show OGo _ _ _ _ (T119.setTop (mkF m 127 #[.val (.int p1), .val (.int p2), .val (.int p3), .val (.int p4), .val (.int (4 : Int32)), .val (.int d1), .val (.int d2), .val (.int d3), .val (.ref b107), .unset, .unset, .unset] [(.ref b117), (.ref b112), (.ref b112)]))
    have f127 := f125.keep r119_0
    have f128 := F112_path.ext E117
    have f129 := f128.keep r119_0 (ninS (Nat.ne_of_lt lt_b112_b117) nin0)
    obtain ⟨_, T126, Lc126, X126, hQ126, st126⟩ := own_open X119 (X119.specialBack hx (y := own_y13) rfl hown (mvT hZ (own_w hw 37 rfl)) (mvT hZ (own_w hw 38 rfl)) (mvT hZ (own_w hw 39 rfl)) (by decide) (backOf (W := 1) (rm8 l Z a0 hw [] b112 b117 w fm T119.heap n0 (Nat.le_trans Z0 K119.1) f127 f129 g_b112 r119_6 r119_7) hZ (own_w hw 39 rfl) (own_w hw 7 rfl) (by decide) (by decide)) (g := (mkF m 127 #[.val (.int p1), .val (.int p2), .val (.int p3), .val (.int p4), .val (.int (4 : Int32)), .val (.int d1), .val (.int d2), .val (.int d3), .val (.ref b107), .unset, .unset, .unset] [(.ref b117), (.ref b112), (.ref b112)])) rfl (by rw [hml]; rfl) (Steps.refl _) (a := b112) (argsL := [(.ref b117)]) (rest := [(.ref b112)]) (lenOf pd_22 rfl) rfl (by show 2 * 0 + _ ≤ _; exact Nat.le_of_eq rfl) (hb hby at_127) (fun _ _ => ⟨rfl, rfl, (by decide : 4 + 0 ≤ _), (by decide : 13 + 0 ≤ _)⟩))
    obtain ⟨rfl, N126q, r126_0, r126_1, r126_2, r126_3⟩ := hQ126
    have N126 := Fr.app N119 N126q
    have K126 : Keep h0 T126.heap [] := K119.trans r126_0 (allS (Or.inr sz_b112) all0)
    refine OGo.via (fun _ k => st126.trans k) ?_
    show OGo _ _ _ _ (T126.setTop (mkF m 130 #[.val (.int p1), .val (.int p2), .val (.int p3), .val (.int p4), .val (.int (4 : Int32)), .val (.int d1), .val (.int d2), .val (.int d3), .val (.ref b107), .unset, .unset, .unset] [(.ref b112)]))
    have f130 := r119_5.keep r126_0 (ninS (Nat.ne_of_gt lt_b112_va) nin0)
    have f131 := f127.keep r126_0
    have f132 := r119_2.keep r126_0
    have f133 := r119_3.keep r126_0 (ninS (Nat.ne_of_gt lt_b112_b117) nin0)
    have f134 := r119_4.keep r126_0 (ninS (Nat.ne_of_gt lt_b112_b117) nin0)
    by_cases hq1 : d1 = (47 : Int32)
    · obtain ⟨cq135, kq135, q135a, q135b, q135c⟩ := isOf hZ rfl f131
      obtain ⟨_, T135, Lc135, X135, hSi135, hQ135, st135⟩ := own_openS X126 (X126.virtualBackS hx (y := own_y28) (z := own_y28) hown (mvT hZ (own_w hw 48 rfl)) (mvT hZ (own_w hw 49 rfl)) (notFace_of_selects (args := #[]) (mvT hZ (own_w hw 51 rfl))) (mvT hZ (own_w hw 51 rfl)) (mvT hZ (own_w hw 50 rfl)) (by decide) (own_backOfSH (W := 0) (rm10_4_1 l Z a0 hw [] b112 w fm va ka (((47 : Int32).toInt8.toInt32).toInt8.toInt32) ((d1.toInt8.toInt32).toInt8.toInt32) ((d2.toInt8.toInt32).toInt8.toInt32) ((d3.toInt8.toInt32).toInt8.toInt32) b117 T126.heap n0 (Nat.le_trans Z0 K126.1) f131 r126_1 f132 f133 f134 f130 r126_2 r126_3 hw0 hr_fm ((own_b47 r1_1).mpr hq1) (fun b cl q => K126.2.1 b cl (hz0 ▸ q) nin0) hhc hcw) hZH (own_w hw 52 rfl) (own_w hw 7 rfl) (by decide) (by decide)) q135a q135c (g := (mkF m 130 #[.val (.int p1), .val (.int p2), .val (.int p3), .val (.int p4), .val (.int (4 : Int32)), .val (.int d1), .val (.int d2), .val (.int d3), .val (.ref b107), .unset, .unset, .unset] [(.ref b112)])) rfl (by rw [hml]; rfl) (Steps.refl _) (argsL := []) (rest := []) (lenOf pd_23 rfl) rfl (by show 2 * 0 + _ ≤ _; exact Nat.le_of_eq rfl) (hb hby at_130) (fun _ _ => ⟨rfl, rfl, (by decide : 4 + 2 ≤ _), (by decide : 13 + 4 ≤ _)⟩))
      have hZ135 : Z.Warmed39 (s.setVm T135.vm).vm := State.Warmed39.trans hZ hSi135.1
      have hown135 : (s.setVm T135.vm).vm.findClass "com/example/ianus/ianus/server/LiteralPathFirstSegmentPinLaw" = some m.cls := by rw [show (s.setVm T135.vm).vm = T135.vm from rfl, hSi135.1.alike.findClass]; exact hown
      obtain ⟨rr, vr, kr, rfl, N135q, r135_0, r135_1, r135_2, r135_3, r135_4⟩ := hQ135
      have N135 := Fr.app N126 N135q
      have K135 : Keep h0 T135.heap [] := K126.trans r135_0 all0
      refine OGo.via (fun _ k => st135.trans k) ?_
      show OGo _ _ _ _ (T135.setTop (mkF m 133 #[.val (.int p1), .val (.int p2), .val (.int p3), .val (.int p4), .val (.int (4 : Int32)), .val (.int d1), .val (.int d2), .val (.int d3), .val (.ref b107), .unset, .unset, .unset] [(.ref rr)]))
      refine OGo.via (fun _ k => XS.astore X135.here hx rfl (hb hby at_133) rfl rfl (l' := #[.val (.int p1), .val (.int p2), .val (.int p3), .val (.int p4), .val (.int (4 : Int32)), .val (.int d1), .val (.int d2), .val (.int d3), .val (.ref b107), .val (.ref rr), .unset, .unset]) rfl (XS.iload X135.here hx rfl (hb hby at_135) rfl (XS.iconst X135.here hx rfl (hb hby at_137) (XS.icmpNo X135.here hx rfl (hb hby at_138) rfl (tlt (by decide : (1 : Int32) < (4 : Int32))).2.2.2 (XS.iload X135.here hx rfl (hb hby at_141) rfl (XS.bipush X135.here hx rfl (hb hby at_143) (XS.icmpNo X135.here hx rfl (hb hby at_145) rfl (teq hq1).2 (XS.iconst X135.here hx rfl (hb hby at_148) k)))))))) ?_
      show OGo _ _ _ _ (T135.setTop (mkF m 149 #[.val (.int p1), .val (.int p2), .val (.int p3), .val (.int p4), .val (.int (4 : Int32)), .val (.int d1), .val (.int d2), .val (.int d3), .val (.ref b107), .val (.ref rr), .unset, .unset] [(.int (1 : Int32))]))
      refine OGo.via (fun _ k => XS.istore X135.here hx rfl (hb hby at_149) rfl (l' := #[.val (.int p1), .val (.int p2), .val (.int p3), .val (.int p4), .val (.int (4 : Int32)), .val (.int d1), .val (.int d2), .val (.int d3), .val (.ref b107), .val (.ref rr), .val (.int (1 : Int32)), .unset]) rfl (XS.goto X135.here hx rfl (pc0 := 151) (pc' := 196) rfl (hb hby at_151) (by decide) (by decide) (XS.iload X135.here hx rfl (hb hby at_196) rfl (XS.iconst X135.here hx rfl (hb hby at_198) (XS.isub X135.here hx rfl (hb hby at_199) rfl k))))) ?_
      show OGo _ _ _ _ (T135.setTop (mkF m 200 #[.val (.int p1), .val (.int p2), .val (.int p3), .val (.int p4), .val (.int (4 : Int32)), .val (.int d1), .val (.int d2), .val (.int d3), .val (.ref b107), .val (.ref rr), .val (.int (1 : Int32)), .unset] [(.int ((1 : Int32) - (1 : Int32)))]))
      rw [show ((1 : Int32) - (1 : Int32)) = (0 : Int32) from by decide]
      refine OGo.via (fun _ k => XS.istore X135.here hx rfl (hb hby at_200) rfl (l' := #[.val (.int p1), .val (.int p2), .val (.int p3), .val (.int p4), .val (.int (4 : Int32)), .val (.int d1), .val (.int d2), .val (.int d3), .val (.ref b107), .val (.ref rr), .val (.int (1 : Int32)), .val (.int (0 : Int32))]) rfl (XS.aload X135.here hx rfl (hb hby at_202) rfl rfl k)) ?_
      have f138 := own_staKeep0 r126_2 r135_0
      obtain ⟨cq137, kq137, q137a, q137b, q137c⟩ := isOf hZ135 rfl r135_1
      obtain ⟨_, T137, Lc137, X137, hQ137, st137⟩ := own_open X135 (X135.virtualBack hx (y := own_y6) (z := own_y6) hown135 (mvT hZ135 (own_w hw 107 rfl)) (mvT hZ135 (own_w hw 64 rfl)) (notFace_of_selects (args := #[]) (mvT hZ135 (own_w hw 66 rfl))) (mvT hZ135 (own_w hw 66 rfl)) (mvT hZ135 (own_w hw 65 rfl)) (by decide) (backOf (W := 0) (rm13 l Z a0 hw [] rr w vr kr [] (0 : Int32) T135.heap n0 (Nat.le_trans Z0 K135.1) r135_1 r135_2 r135_3 r135_4 f138 hw0) hZ135 (own_w hw 67 rfl) (own_w hw 10 rfl) (by decide) (by decide)) q137a q137c (g := (mkF m 204 #[.val (.int p1), .val (.int p2), .val (.int p3), .val (.int p4), .val (.int (4 : Int32)), .val (.int d1), .val (.int d2), .val (.int d3), .val (.ref b107), .val (.ref rr), .val (.int (1 : Int32)), .val (.int (0 : Int32))] [(.ref rr)])) rfl (by rw [hml]; rfl) (Steps.refl _) (argsL := []) (rest := []) (lenOf pd_11 rfl) rfl (by show 2 * 0 + _ ≤ _; exact Nat.le_of_eq rfl) (hb hby at_204) (fun _ _ => ⟨rfl, rfl, (by decide : 6 + 0 ≤ _), (by decide : 17 + 0 ≤ _)⟩))
      obtain ⟨rfl, N137q, r137_0⟩ := hQ137
      have N137 := Fr.app N135 N137q
      refine OGo.via (fun _ k => st137.trans k) ?_
      show OGo _ _ _ _ (T137.setTop (mkF m 207 #[.val (.int p1), .val (.int p2), .val (.int p3), .val (.int p4), .val (.int (4 : Int32)), .val (.int d1), .val (.int d2), .val (.int d3), .val (.ref b107), .val (.ref rr), .val (.int (1 : Int32)), .val (.int (0 : Int32))] [(.int (0 : Int32))]))
      refine OGo.via (fun _ k => XS.iload X137.here hx rfl (hb hby at_207) rfl (XS.icmpYes X137.here hx rfl (pc0 := 209) (pc' := 214) rfl (hb hby at_209) rfl (teq (by decide : (0 : Int32) = (0 : Int32))).1 (by decide) (by decide) (XS.iload X137.here hx rfl (hb hby at_214) rfl (XS.iconst X137.here hx rfl (hb hby at_216) (XS.icmpYes X137.here hx rfl (pc0 := 217) (pc' := 233) rfl (hb hby at_217) rfl (tlt (by decide : (0 : Int32) < (1 : Int32))).1 (by decide) (by decide) (XS.iload X137.here hx rfl (hb hby at_233) rfl (XS.iconst X137.here hx rfl (hb hby at_235) (XS.icmpYes X137.here hx rfl (pc0 := 236) (pc' := 252) rfl (hb hby at_236) rfl (tlt (by decide : (0 : Int32) < (2 : Int32))).1 (by decide) (by decide) k)))))))) ?_
      show OGo _ _ _ _ (T137.setTop (mkF m 252 #[.val (.int p1), .val (.int p2), .val (.int p3), .val (.int p4), .val (.int (4 : Int32)), .val (.int d1), .val (.int d2), .val (.int d3), .val (.ref b107), .val (.ref rr), .val (.int (1 : Int32)), .val (.int (0 : Int32))] []))
      refine OGo.via (fun _ k => XS.iload X137.here hx rfl (hb hby at_252) rfl (XS.iconst X137.here hx rfl (hb hby at_254) (XS.icmpYes X137.here hx rfl (pc0 := 255) (pc' := 271) rfl (hb hby at_255) rfl (tlt (by decide : (0 : Int32) < (3 : Int32))).1 (by decide) (by decide) (XS.iconst X137.here hx rfl (hb hby at_271) k)))) ?_
      show OGo _ _ _ _ (T137.setTop (mkF m 272 #[.val (.int p1), .val (.int p2), .val (.int p3), .val (.int p4), .val (.int (4 : Int32)), .val (.int d1), .val (.int d2), .val (.int d3), .val (.ref b107), .val (.ref rr), .val (.int (1 : Int32)), .val (.int (0 : Int32))] [(.int (1 : Int32))]))
      refine own_retNW (t := .boolean) (by simp) X137 hSi135 (Nat.le_trans (Nat.le_refl T135.heap.size) (Nat.le_of_eq (congrArg Array.size (Eq.symm r137_0)))) hx Bd.notSynchronized Bd.returns (hb hby at_272) (by decide) (by decide) ?_
      show Q_rm0 Z _ _ _ _ _ _ h0 n0 _ T137.heap _
      rw [r137_0]
      exact ⟨rfl, N137⟩
    · by_cases hq2 : d2 = (47 : Int32)
      · obtain ⟨cq139, kq139, q139a, q139b, q139c⟩ := isOf hZ rfl f131
        obtain ⟨_, T139, Lc139, X139, hQ139, st139⟩ := own_open X126 (X126.virtualBack hx (y := own_y28) (z := own_y28) hown (mvT hZ (own_w hw 48 rfl)) (mvT hZ (own_w hw 49 rfl)) (notFace_of_selects (args := #[]) (mvT hZ (own_w hw 51 rfl))) (mvT hZ (own_w hw 51 rfl)) (mvT hZ (own_w hw 50 rfl)) (by decide) (backOf (W := 0) (rm10_4_2 l Z a0 hw [] b112 w fm va ka (((47 : Int32).toInt8.toInt32).toInt8.toInt32) ((d1.toInt8.toInt32).toInt8.toInt32) ((d2.toInt8.toInt32).toInt8.toInt32) ((d3.toInt8.toInt32).toInt8.toInt32) b117 T126.heap n0 (Nat.le_trans Z0 K126.1) f131 r126_1 f132 f133 f134 f130 r126_2 r126_3 hw0 hr_fm (fun q => hq1 ((own_b47 r1_1).mp q)) ((own_b47 r2_1).mpr hq2)) hZ (own_w hw 52 rfl) (own_w hw 7 rfl) (by decide) (by decide)) q139a q139c (g := (mkF m 130 #[.val (.int p1), .val (.int p2), .val (.int p3), .val (.int p4), .val (.int (4 : Int32)), .val (.int d1), .val (.int d2), .val (.int d3), .val (.ref b107), .unset, .unset, .unset] [(.ref b112)])) rfl (by rw [hml]; rfl) (Steps.refl _) (argsL := []) (rest := []) (lenOf pd_23 rfl) rfl (by show 2 * 0 + _ ≤ _; exact Nat.le_of_eq rfl) (hb hby at_130) (fun _ _ => ⟨rfl, rfl, (by decide : 4 + 2 ≤ _), (by decide : 13 + 5 ≤ _)⟩))
        obtain ⟨rr, vr, kr, rfl, N139q, r139_0, r139_1, r139_2, r139_3, r139_4⟩ := hQ139
        have N139 := Fr.app N126 N139q
        have K139 : Keep h0 T139.heap [] := K126.trans r139_0 all0
        refine OGo.via (fun _ k => st139.trans k) ?_
        show OGo _ _ _ _ (T139.setTop (mkF m 133 #[.val (.int p1), .val (.int p2), .val (.int p3), .val (.int p4), .val (.int (4 : Int32)), .val (.int d1), .val (.int d2), .val (.int d3), .val (.ref b107), .unset, .unset, .unset] [(.ref rr)]))
        refine OGo.via (fun _ k => XS.astore X139.here hx rfl (hb hby at_133) rfl rfl (l' := #[.val (.int p1), .val (.int p2), .val (.int p3), .val (.int p4), .val (.int (4 : Int32)), .val (.int d1), .val (.int d2), .val (.int d3), .val (.ref b107), .val (.ref rr), .unset, .unset]) rfl (XS.iload X139.here hx rfl (hb hby at_135) rfl (XS.iconst X139.here hx rfl (hb hby at_137) (XS.icmpNo X139.here hx rfl (hb hby at_138) rfl (tlt (by decide : (1 : Int32) < (4 : Int32))).2.2.2 (XS.iload X139.here hx rfl (hb hby at_141) rfl (XS.bipush X139.here hx rfl (hb hby at_143) (XS.icmpYes X139.here hx rfl (pc0 := 145) (pc' := 154) rfl (hb hby at_145) rfl (feq hq1).2 (by decide) (by decide) (XS.iload X139.here hx rfl (hb hby at_154) rfl k)))))))) ?_
        show OGo _ _ _ _ (T139.setTop (mkF m 156 #[.val (.int p1), .val (.int p2), .val (.int p3), .val (.int p4), .val (.int (4 : Int32)), .val (.int d1), .val (.int d2), .val (.int d3), .val (.ref b107), .val (.ref rr), .unset, .unset] [(.int (4 : Int32))]))
        refine OGo.via (fun _ k => XS.iconst X139.here hx rfl (hb hby at_156) (XS.icmpNo X139.here hx rfl (hb hby at_157) rfl (tlt (by decide : (2 : Int32) < (4 : Int32))).2.2.2 (XS.iload X139.here hx rfl (hb hby at_160) rfl (XS.bipush X139.here hx rfl (hb hby at_162) (XS.icmpNo X139.here hx rfl (hb hby at_164) rfl (teq hq2).2 (XS.iconst X139.here hx rfl (hb hby at_167) (XS.istore X139.here hx rfl (hb hby at_168) rfl (l' := #[.val (.int p1), .val (.int p2), .val (.int p3), .val (.int p4), .val (.int (4 : Int32)), .val (.int d1), .val (.int d2), .val (.int d3), .val (.ref b107), .val (.ref rr), .val (.int (2 : Int32)), .unset]) rfl (XS.goto X139.here hx rfl (pc0 := 170) (pc' := 196) rfl (hb hby at_170) (by decide) (by decide) k)))))))) ?_
        show OGo _ _ _ _ (T139.setTop (mkF m 196 #[.val (.int p1), .val (.int p2), .val (.int p3), .val (.int p4), .val (.int (4 : Int32)), .val (.int d1), .val (.int d2), .val (.int d3), .val (.ref b107), .val (.ref rr), .val (.int (2 : Int32)), .unset] []))
        refine OGo.via (fun _ k => XS.iload X139.here hx rfl (hb hby at_196) rfl (XS.iconst X139.here hx rfl (hb hby at_198) (XS.isub X139.here hx rfl (hb hby at_199) rfl k))) ?_
        show OGo _ _ _ _ (T139.setTop (mkF m 200 #[.val (.int p1), .val (.int p2), .val (.int p3), .val (.int p4), .val (.int (4 : Int32)), .val (.int d1), .val (.int d2), .val (.int d3), .val (.ref b107), .val (.ref rr), .val (.int (2 : Int32)), .unset] [(.int ((2 : Int32) - (1 : Int32)))]))
        rw [show ((2 : Int32) - (1 : Int32)) = (1 : Int32) from by decide]
        refine OGo.via (fun _ k => XS.istore X139.here hx rfl (hb hby at_200) rfl (l' := #[.val (.int p1), .val (.int p2), .val (.int p3), .val (.int p4), .val (.int (4 : Int32)), .val (.int d1), .val (.int d2), .val (.int d3), .val (.ref b107), .val (.ref rr), .val (.int (2 : Int32)), .val (.int (1 : Int32))]) rfl (XS.aload X139.here hx rfl (hb hby at_202) rfl rfl k)) ?_
        have f142 := own_staKeep0 r126_2 r139_0
        obtain ⟨cq141, kq141, q141a, q141b, q141c⟩ := isOf hZ rfl r139_1
        obtain ⟨_, T141, Lc141, X141, hQ141, st141⟩ := own_open X139 (X139.virtualBack hx (y := own_y6) (z := own_y6) hown (mvT hZ (own_w hw 107 rfl)) (mvT hZ (own_w hw 64 rfl)) (notFace_of_selects (args := #[]) (mvT hZ (own_w hw 66 rfl))) (mvT hZ (own_w hw 66 rfl)) (mvT hZ (own_w hw 65 rfl)) (by decide) (backOf (W := 0) (rm13 l Z a0 hw [] rr w vr kr [(.int ((d1.toInt8.toInt32).toInt8.toInt32))] (1 : Int32) T139.heap n0 (Nat.le_trans Z0 K139.1) r139_1 r139_2 r139_3 r139_4 f142 hw0) hZ (own_w hw 67 rfl) (own_w hw 10 rfl) (by decide) (by decide)) q141a q141c (g := (mkF m 204 #[.val (.int p1), .val (.int p2), .val (.int p3), .val (.int p4), .val (.int (4 : Int32)), .val (.int d1), .val (.int d2), .val (.int d3), .val (.ref b107), .val (.ref rr), .val (.int (2 : Int32)), .val (.int (1 : Int32))] [(.ref rr)])) rfl (by rw [hml]; rfl) (Steps.refl _) (argsL := []) (rest := []) (lenOf pd_11 rfl) rfl (by show 2 * 0 + _ ≤ _; exact Nat.le_of_eq rfl) (hb hby at_204) (fun _ _ => ⟨rfl, rfl, (by decide : 6 + 0 ≤ _), (by decide : 18 + 0 ≤ _)⟩))
        obtain ⟨rfl, N141q, r141_0⟩ := hQ141
        have N141 := Fr.app N139 N141q
        refine OGo.via (fun _ k => st141.trans k) ?_
        show OGo _ _ _ _ (T141.setTop (mkF m 207 #[.val (.int p1), .val (.int p2), .val (.int p3), .val (.int p4), .val (.int (4 : Int32)), .val (.int d1), .val (.int d2), .val (.int d3), .val (.ref b107), .val (.ref rr), .val (.int (2 : Int32)), .val (.int (1 : Int32))] [(.int (1 : Int32))]))
        refine OGo.via (fun _ k => XS.iload X141.here hx rfl (hb hby at_207) rfl (XS.icmpYes X141.here hx rfl (pc0 := 209) (pc' := 214) rfl (hb hby at_209) rfl (teq (by decide : (1 : Int32) = (1 : Int32))).1 (by decide) (by decide) (XS.iload X141.here hx rfl (hb hby at_214) rfl (XS.iconst X141.here hx rfl (hb hby at_216) (XS.icmpNo X141.here hx rfl (hb hby at_217) rfl (flt (by decide : ¬ ((1 : Int32) < (1 : Int32)))).1 (XS.aload X141.here hx rfl (hb hby at_220) rfl rfl (XS.iconst X141.here hx rfl (hb hby at_222) k))))))) ?_
        have f144 := own_staKeep0 r126_3 r139_0
        obtain ⟨cq143, kq143, q143a, q143b, q143c⟩ := isOf hZ r141_0 r139_1
        obtain ⟨_, T143, Lc143, X143, hQ143, st143⟩ := own_open X141 (X141.virtualBack hx (y := own_y19) (z := own_y19) hown (mvT hZ (own_w hw 130 rfl)) (mvT hZ (own_w hw 131 rfl)) (notFace_of_selects (args := #[]) (mvT hZ (own_w hw 133 rfl))) (mvT hZ (own_w hw 133 rfl)) (mvT hZ (own_w hw 132 rfl)) (by decide) (backOf (W := 0) (rm28 l Z a0 hw [] rr (0 : Int32) w fm vr kr (1 : Int32) [(.int ((d1.toInt8.toInt32).toInt8.toInt32))] ((d1.toInt8.toInt32).toInt8.toInt32) T139.heap n0 (Nat.le_trans Z0 K139.1) r139_1 r139_2 r139_3 r139_4 f142 f144 hw0 hr_fm (by decide) (by decide) rfl) hZ (own_w hw 134 rfl) (own_w hw 10 rfl) (by decide) (by decide)) q143a q143c (g := (mkF m 223 #[.val (.int p1), .val (.int p2), .val (.int p3), .val (.int p4), .val (.int (4 : Int32)), .val (.int d1), .val (.int d2), .val (.int d3), .val (.ref b107), .val (.ref rr), .val (.int (2 : Int32)), .val (.int (1 : Int32))] [(.int (0 : Int32)), (.ref rr)])) rfl (by rw [hml]; rfl) (Steps.refl _) (argsL := [(.int (0 : Int32))]) (rest := []) (lenOf pd_20 rfl) rfl (by show 2 * 0 + _ ≤ _; exact Nat.le_of_eq rfl) (hb hby at_223) (fun _ _ => ⟨rfl, r141_0, (by decide : 6 + 0 ≤ _), (by decide : 18 + 0 ≤ _)⟩))
        obtain ⟨rfl, N143q, r143_0⟩ := hQ143
        have N143 := Fr.app N141 N143q
        refine OGo.via (fun _ k => st143.trans k) ?_
        show OGo _ _ _ _ (T143.setTop (mkF m 226 #[.val (.int p1), .val (.int p2), .val (.int p3), .val (.int p4), .val (.int (4 : Int32)), .val (.int d1), .val (.int d2), .val (.int d3), .val (.ref b107), .val (.ref rr), .val (.int (2 : Int32)), .val (.int (1 : Int32))] [(.int (own_ch ((d1.toInt8.toInt32).toInt8.toInt32)))]))
        refine OGo.via (fun _ k => XS.iload X143.here hx rfl (hb hby at_226) rfl (XS.icmpYes X143.here hx rfl (pc0 := 228) (pc' := 233) rfl (hb hby at_228) rfl (teq (own_bk r1_1)).1 (by decide) (by decide) (XS.iload X143.here hx rfl (hb hby at_233) rfl (XS.iconst X143.here hx rfl (hb hby at_235) (XS.icmpYes X143.here hx rfl (pc0 := 236) (pc' := 252) rfl (hb hby at_236) rfl (tlt (by decide : (1 : Int32) < (2 : Int32))).1 (by decide) (by decide) (XS.iload X143.here hx rfl (hb hby at_252) rfl (XS.iconst X143.here hx rfl (hb hby at_254) (XS.icmpYes X143.here hx rfl (pc0 := 255) (pc' := 271) rfl (hb hby at_255) rfl (tlt (by decide : (1 : Int32) < (3 : Int32))).1 (by decide) (by decide) k)))))))) ?_
        show OGo _ _ _ _ (T143.setTop (mkF m 271 #[.val (.int p1), .val (.int p2), .val (.int p3), .val (.int p4), .val (.int (4 : Int32)), .val (.int d1), .val (.int d2), .val (.int d3), .val (.ref b107), .val (.ref rr), .val (.int (2 : Int32)), .val (.int (1 : Int32))] []))
        refine OGo.via (fun _ k => XS.iconst X143.here hx rfl (hb hby at_271) k) ?_
        show OGo _ _ _ _ (T143.setTop (mkF m 272 #[.val (.int p1), .val (.int p2), .val (.int p3), .val (.int p4), .val (.int (4 : Int32)), .val (.int d1), .val (.int d2), .val (.int d3), .val (.ref b107), .val (.ref rr), .val (.int (2 : Int32)), .val (.int (1 : Int32))] [(.int (1 : Int32))]))
        refine own_wide ?_
        refine own_retN (t := .boolean) (by simp) X143 hx Bd.notSynchronized Bd.returns (hb hby at_272) (by decide) (by decide) ?_
        show Q_rm0 Z _ _ _ _ _ _ h0 n0 _ T143.heap _
        rw [r143_0]
        exact ⟨rfl, N143⟩
      · by_cases hq3 : d3 = (47 : Int32)
        · obtain ⟨cq145, kq145, q145a, q145b, q145c⟩ := isOf hZ rfl f131
          obtain ⟨_, T145, Lc145, X145, hQ145, st145⟩ := own_open X126 (X126.virtualBack hx (y := own_y28) (z := own_y28) hown (mvT hZ (own_w hw 48 rfl)) (mvT hZ (own_w hw 49 rfl)) (notFace_of_selects (args := #[]) (mvT hZ (own_w hw 51 rfl))) (mvT hZ (own_w hw 51 rfl)) (mvT hZ (own_w hw 50 rfl)) (by decide) (backOf (W := 0) (rm10_4_3 l Z a0 hw [] b112 w fm va ka (((47 : Int32).toInt8.toInt32).toInt8.toInt32) ((d1.toInt8.toInt32).toInt8.toInt32) ((d2.toInt8.toInt32).toInt8.toInt32) ((d3.toInt8.toInt32).toInt8.toInt32) b117 T126.heap n0 (Nat.le_trans Z0 K126.1) f131 r126_1 f132 f133 f134 f130 r126_2 r126_3 hw0 hr_fm (fun q => hq1 ((own_b47 r1_1).mp q)) (fun q => hq2 ((own_b47 r2_1).mp q)) ((own_b47 r3_1).mpr hq3)) hZ (own_w hw 52 rfl) (own_w hw 7 rfl) (by decide) (by decide)) q145a q145c (g := (mkF m 130 #[.val (.int p1), .val (.int p2), .val (.int p3), .val (.int p4), .val (.int (4 : Int32)), .val (.int d1), .val (.int d2), .val (.int d3), .val (.ref b107), .unset, .unset, .unset] [(.ref b112)])) rfl (by rw [hml]; rfl) (Steps.refl _) (argsL := []) (rest := []) (lenOf pd_23 rfl) rfl (by show 2 * 0 + _ ≤ _; exact Nat.le_of_eq rfl) (hb hby at_130) (fun _ _ => ⟨rfl, rfl, (by decide : 4 + 2 ≤ _), (by decide : 13 + 6 ≤ _)⟩))
          obtain ⟨rr, vr, kr, rfl, N145q, r145_0, r145_1, r145_2, r145_3, r145_4⟩ := hQ145
          have N145 := Fr.app N126 N145q
          have K145 : Keep h0 T145.heap [] := K126.trans r145_0 all0
          refine OGo.via (fun _ k => st145.trans k) ?_
          show OGo _ _ _ _ (T145.setTop (mkF m 133 #[.val (.int p1), .val (.int p2), .val (.int p3), .val (.int p4), .val (.int (4 : Int32)), .val (.int d1), .val (.int d2), .val (.int d3), .val (.ref b107), .unset, .unset, .unset] [(.ref rr)]))
          refine OGo.via (fun _ k => XS.astore X145.here hx rfl (hb hby at_133) rfl rfl (l' := #[.val (.int p1), .val (.int p2), .val (.int p3), .val (.int p4), .val (.int (4 : Int32)), .val (.int d1), .val (.int d2), .val (.int d3), .val (.ref b107), .val (.ref rr), .unset, .unset]) rfl (XS.iload X145.here hx rfl (hb hby at_135) rfl (XS.iconst X145.here hx rfl (hb hby at_137) (XS.icmpNo X145.here hx rfl (hb hby at_138) rfl (tlt (by decide : (1 : Int32) < (4 : Int32))).2.2.2 (XS.iload X145.here hx rfl (hb hby at_141) rfl (XS.bipush X145.here hx rfl (hb hby at_143) (XS.icmpYes X145.here hx rfl (pc0 := 145) (pc' := 154) rfl (hb hby at_145) rfl (feq hq1).2 (by decide) (by decide) (XS.iload X145.here hx rfl (hb hby at_154) rfl k)))))))) ?_
          show OGo _ _ _ _ (T145.setTop (mkF m 156 #[.val (.int p1), .val (.int p2), .val (.int p3), .val (.int p4), .val (.int (4 : Int32)), .val (.int d1), .val (.int d2), .val (.int d3), .val (.ref b107), .val (.ref rr), .unset, .unset] [(.int (4 : Int32))]))
          refine OGo.via (fun _ k => XS.iconst X145.here hx rfl (hb hby at_156) (XS.icmpNo X145.here hx rfl (hb hby at_157) rfl (tlt (by decide : (2 : Int32) < (4 : Int32))).2.2.2 (XS.iload X145.here hx rfl (hb hby at_160) rfl (XS.bipush X145.here hx rfl (hb hby at_162) (XS.icmpYes X145.here hx rfl (pc0 := 164) (pc' := 173) rfl (hb hby at_164) rfl (feq hq2).2 (by decide) (by decide) (XS.iload X145.here hx rfl (hb hby at_173) rfl (XS.iconst X145.here hx rfl (hb hby at_175) (XS.icmpNo X145.here hx rfl (hb hby at_176) rfl (tlt (by decide : (3 : Int32) < (4 : Int32))).2.2.2 k)))))))) ?_
          show OGo _ _ _ _ (T145.setTop (mkF m 179 #[.val (.int p1), .val (.int p2), .val (.int p3), .val (.int p4), .val (.int (4 : Int32)), .val (.int d1), .val (.int d2), .val (.int d3), .val (.ref b107), .val (.ref rr), .unset, .unset] []))
          refine OGo.via (fun _ k => XS.iload X145.here hx rfl (hb hby at_179) rfl (XS.bipush X145.here hx rfl (hb hby at_181) (XS.icmpNo X145.here hx rfl (hb hby at_183) rfl (teq hq3).2 (XS.iconst X145.here hx rfl (hb hby at_186) (XS.istore X145.here hx rfl (hb hby at_187) rfl (l' := #[.val (.int p1), .val (.int p2), .val (.int p3), .val (.int p4), .val (.int (4 : Int32)), .val (.int d1), .val (.int d2), .val (.int d3), .val (.ref b107), .val (.ref rr), .val (.int (3 : Int32)), .unset]) rfl (XS.goto X145.here hx rfl (pc0 := 189) (pc' := 196) rfl (hb hby at_189) (by decide) (by decide) (XS.iload X145.here hx rfl (hb hby at_196) rfl (XS.iconst X145.here hx rfl (hb hby at_198) k)))))))) ?_
          show OGo _ _ _ _ (T145.setTop (mkF m 199 #[.val (.int p1), .val (.int p2), .val (.int p3), .val (.int p4), .val (.int (4 : Int32)), .val (.int d1), .val (.int d2), .val (.int d3), .val (.ref b107), .val (.ref rr), .val (.int (3 : Int32)), .unset] [(.int (1 : Int32)), (.int (3 : Int32))]))
          refine OGo.via (fun _ k => XS.isub X145.here hx rfl (hb hby at_199) rfl k) ?_
          show OGo _ _ _ _ (T145.setTop (mkF m 200 #[.val (.int p1), .val (.int p2), .val (.int p3), .val (.int p4), .val (.int (4 : Int32)), .val (.int d1), .val (.int d2), .val (.int d3), .val (.ref b107), .val (.ref rr), .val (.int (3 : Int32)), .unset] [(.int ((3 : Int32) - (1 : Int32)))]))
          rw [show ((3 : Int32) - (1 : Int32)) = (2 : Int32) from by decide]
          refine OGo.via (fun _ k => XS.istore X145.here hx rfl (hb hby at_200) rfl (l' := #[.val (.int p1), .val (.int p2), .val (.int p3), .val (.int p4), .val (.int (4 : Int32)), .val (.int d1), .val (.int d2), .val (.int d3), .val (.ref b107), .val (.ref rr), .val (.int (3 : Int32)), .val (.int (2 : Int32))]) rfl (XS.aload X145.here hx rfl (hb hby at_202) rfl rfl k)) ?_
          have f148 := own_staKeep0 r126_2 r145_0
          obtain ⟨cq147, kq147, q147a, q147b, q147c⟩ := isOf hZ rfl r145_1
          obtain ⟨_, T147, Lc147, X147, hQ147, st147⟩ := own_open X145 (X145.virtualBack hx (y := own_y6) (z := own_y6) hown (mvT hZ (own_w hw 107 rfl)) (mvT hZ (own_w hw 64 rfl)) (notFace_of_selects (args := #[]) (mvT hZ (own_w hw 66 rfl))) (mvT hZ (own_w hw 66 rfl)) (mvT hZ (own_w hw 65 rfl)) (by decide) (backOf (W := 0) (rm13 l Z a0 hw [] rr w vr kr [(.int ((d1.toInt8.toInt32).toInt8.toInt32)), (.int ((d2.toInt8.toInt32).toInt8.toInt32))] (2 : Int32) T145.heap n0 (Nat.le_trans Z0 K145.1) r145_1 r145_2 r145_3 r145_4 f148 hw0) hZ (own_w hw 67 rfl) (own_w hw 10 rfl) (by decide) (by decide)) q147a q147c (g := (mkF m 204 #[.val (.int p1), .val (.int p2), .val (.int p3), .val (.int p4), .val (.int (4 : Int32)), .val (.int d1), .val (.int d2), .val (.int d3), .val (.ref b107), .val (.ref rr), .val (.int (3 : Int32)), .val (.int (2 : Int32))] [(.ref rr)])) rfl (by rw [hml]; rfl) (Steps.refl _) (argsL := []) (rest := []) (lenOf pd_11 rfl) rfl (by show 2 * 0 + _ ≤ _; exact Nat.le_of_eq rfl) (hb hby at_204) (fun _ _ => ⟨rfl, rfl, (by decide : 6 + 0 ≤ _), (by decide : 19 + 0 ≤ _)⟩))
          obtain ⟨rfl, N147q, r147_0⟩ := hQ147
          have N147 := Fr.app N145 N147q
          refine OGo.via (fun _ k => st147.trans k) ?_
          show OGo _ _ _ _ (T147.setTop (mkF m 207 #[.val (.int p1), .val (.int p2), .val (.int p3), .val (.int p4), .val (.int (4 : Int32)), .val (.int d1), .val (.int d2), .val (.int d3), .val (.ref b107), .val (.ref rr), .val (.int (3 : Int32)), .val (.int (2 : Int32))] [(.int (2 : Int32))]))
          refine OGo.via (fun _ k => XS.iload X147.here hx rfl (hb hby at_207) rfl (XS.icmpYes X147.here hx rfl (pc0 := 209) (pc' := 214) rfl (hb hby at_209) rfl (teq (by decide : (2 : Int32) = (2 : Int32))).1 (by decide) (by decide) (XS.iload X147.here hx rfl (hb hby at_214) rfl (XS.iconst X147.here hx rfl (hb hby at_216) (XS.icmpNo X147.here hx rfl (hb hby at_217) rfl (flt (by decide : ¬ ((2 : Int32) < (1 : Int32)))).1 (XS.aload X147.here hx rfl (hb hby at_220) rfl rfl (XS.iconst X147.here hx rfl (hb hby at_222) k))))))) ?_
          have f150 := own_staKeep0 r126_3 r145_0
          obtain ⟨cq149, kq149, q149a, q149b, q149c⟩ := isOf hZ r147_0 r145_1
          obtain ⟨_, T149, Lc149, X149, hQ149, st149⟩ := own_open X147 (X147.virtualBack hx (y := own_y19) (z := own_y19) hown (mvT hZ (own_w hw 130 rfl)) (mvT hZ (own_w hw 131 rfl)) (notFace_of_selects (args := #[]) (mvT hZ (own_w hw 133 rfl))) (mvT hZ (own_w hw 133 rfl)) (mvT hZ (own_w hw 132 rfl)) (by decide) (backOf (W := 0) (rm28 l Z a0 hw [] rr (0 : Int32) w fm vr kr (2 : Int32) [(.int ((d1.toInt8.toInt32).toInt8.toInt32)), (.int ((d2.toInt8.toInt32).toInt8.toInt32))] ((d1.toInt8.toInt32).toInt8.toInt32) T145.heap n0 (Nat.le_trans Z0 K145.1) r145_1 r145_2 r145_3 r145_4 f148 f150 hw0 hr_fm (by decide) (by decide) rfl) hZ (own_w hw 134 rfl) (own_w hw 10 rfl) (by decide) (by decide)) q149a q149c (g := (mkF m 223 #[.val (.int p1), .val (.int p2), .val (.int p3), .val (.int p4), .val (.int (4 : Int32)), .val (.int d1), .val (.int d2), .val (.int d3), .val (.ref b107), .val (.ref rr), .val (.int (3 : Int32)), .val (.int (2 : Int32))] [(.int (0 : Int32)), (.ref rr)])) rfl (by rw [hml]; rfl) (Steps.refl _) (argsL := [(.int (0 : Int32))]) (rest := []) (lenOf pd_20 rfl) rfl (by show 2 * 0 + _ ≤ _; exact Nat.le_of_eq rfl) (hb hby at_223) (fun _ _ => ⟨rfl, r147_0, (by decide : 6 + 0 ≤ _), (by decide : 19 + 0 ≤ _)⟩))
          obtain ⟨rfl, N149q, r149_0⟩ := hQ149
          have N149 := Fr.app N147 N149q
          refine OGo.via (fun _ k => st149.trans k) ?_
          show OGo _ _ _ _ (T149.setTop (mkF m 226 #[.val (.int p1), .val (.int p2), .val (.int p3), .val (.int p4), .val (.int (4 : Int32)), .val (.int d1), .val (.int d2), .val (.int d3), .val (.ref b107), .val (.ref rr), .val (.int (3 : Int32)), .val (.int (2 : Int32))] [(.int (own_ch ((d1.toInt8.toInt32).toInt8.toInt32)))]))
          refine OGo.via (fun _ k => XS.iload X149.here hx rfl (hb hby at_226) rfl (XS.icmpYes X149.here hx rfl (pc0 := 228) (pc' := 233) rfl (hb hby at_228) rfl (teq (own_bk r1_1)).1 (by decide) (by decide) (XS.iload X149.here hx rfl (hb hby at_233) rfl (XS.iconst X149.here hx rfl (hb hby at_235) (XS.icmpNo X149.here hx rfl (hb hby at_236) rfl (flt (by decide : ¬ ((2 : Int32) < (2 : Int32)))).1 (XS.aload X149.here hx rfl (hb hby at_239) rfl rfl (XS.iconst X149.here hx rfl (hb hby at_241) k))))))) ?_
          obtain ⟨cq151, kq151, q151a, q151b, q151c⟩ := isOf hZ r149_0 r145_1
          obtain ⟨_, T151, Lc151, X151, hQ151, st151⟩ := own_open X149 (X149.virtualBack hx (y := own_y19) (z := own_y19) hown (mvT hZ (own_w hw 130 rfl)) (mvT hZ (own_w hw 131 rfl)) (notFace_of_selects (args := #[]) (mvT hZ (own_w hw 133 rfl))) (mvT hZ (own_w hw 133 rfl)) (mvT hZ (own_w hw 132 rfl)) (by decide) (backOf (W := 0) (rm28 l Z a0 hw [] rr (1 : Int32) w fm vr kr (2 : Int32) [(.int ((d1.toInt8.toInt32).toInt8.toInt32)), (.int ((d2.toInt8.toInt32).toInt8.toInt32))] ((d2.toInt8.toInt32).toInt8.toInt32) T145.heap n0 (Nat.le_trans Z0 K145.1) r145_1 r145_2 r145_3 r145_4 f148 f150 hw0 hr_fm (by decide) (by decide) rfl) hZ (own_w hw 134 rfl) (own_w hw 10 rfl) (by decide) (by decide)) q151a q151c (g := (mkF m 242 #[.val (.int p1), .val (.int p2), .val (.int p3), .val (.int p4), .val (.int (4 : Int32)), .val (.int d1), .val (.int d2), .val (.int d3), .val (.ref b107), .val (.ref rr), .val (.int (3 : Int32)), .val (.int (2 : Int32))] [(.int (1 : Int32)), (.ref rr)])) rfl (by rw [hml]; rfl) (Steps.refl _) (argsL := [(.int (1 : Int32))]) (rest := []) (lenOf pd_20 rfl) rfl (by show 2 * 0 + _ ≤ _; exact Nat.le_of_eq rfl) (hb hby at_242) (fun _ _ => ⟨rfl, r149_0, (by decide : 6 + 0 ≤ _), (by decide : 19 + 0 ≤ _)⟩))
          obtain ⟨rfl, N151q, r151_0⟩ := hQ151
          have N151 := Fr.app N149 N151q
          refine OGo.via (fun _ k => st151.trans k) ?_
          show OGo _ _ _ _ (T151.setTop (mkF m 245 #[.val (.int p1), .val (.int p2), .val (.int p3), .val (.int p4), .val (.int (4 : Int32)), .val (.int d1), .val (.int d2), .val (.int d3), .val (.ref b107), .val (.ref rr), .val (.int (3 : Int32)), .val (.int (2 : Int32))] [(.int (own_ch ((d2.toInt8.toInt32).toInt8.toInt32)))]))
          refine OGo.via (fun _ k => XS.iload X151.here hx rfl (hb hby at_245) rfl (XS.icmpYes X151.here hx rfl (pc0 := 247) (pc' := 252) rfl (hb hby at_247) rfl (teq (own_bk r2_1)).1 (by decide) (by decide) (XS.iload X151.here hx rfl (hb hby at_252) rfl (XS.iconst X151.here hx rfl (hb hby at_254) (XS.icmpYes X151.here hx rfl (pc0 := 255) (pc' := 271) rfl (hb hby at_255) rfl (tlt (by decide : (2 : Int32) < (3 : Int32))).1 (by decide) (by decide) (XS.iconst X151.here hx rfl (hb hby at_271) k)))))) ?_
          show OGo _ _ _ _ (T151.setTop (mkF m 272 #[.val (.int p1), .val (.int p2), .val (.int p3), .val (.int p4), .val (.int (4 : Int32)), .val (.int d1), .val (.int d2), .val (.int d3), .val (.ref b107), .val (.ref rr), .val (.int (3 : Int32)), .val (.int (2 : Int32))] [(.int (1 : Int32))]))
          refine own_wide ?_
          refine own_retN (t := .boolean) (by simp) X151 hx Bd.notSynchronized Bd.returns (hb hby at_272) (by decide) (by decide) ?_
          show Q_rm0 Z _ _ _ _ _ _ h0 n0 _ T151.heap _
          rw [r151_0]
          exact ⟨rfl, N151⟩
        · obtain ⟨cq152, kq152, q152a, q152b, q152c⟩ := isOf hZ rfl f131
          obtain ⟨_, T152, Lc152, X152, hQ152, st152⟩ := own_open X126 (X126.virtualBack hx (y := own_y28) (z := own_y28) hown (mvT hZ (own_w hw 48 rfl)) (mvT hZ (own_w hw 49 rfl)) (notFace_of_selects (args := #[]) (mvT hZ (own_w hw 51 rfl))) (mvT hZ (own_w hw 51 rfl)) (mvT hZ (own_w hw 50 rfl)) (by decide) (backOf (W := 0) (rm10_4_4 l Z a0 hw [] b112 w fm va ka (((47 : Int32).toInt8.toInt32).toInt8.toInt32) ((d1.toInt8.toInt32).toInt8.toInt32) ((d2.toInt8.toInt32).toInt8.toInt32) ((d3.toInt8.toInt32).toInt8.toInt32) b117 T126.heap n0 (Nat.le_trans Z0 K126.1) f131 r126_1 f132 f133 f134 f130 r126_2 r126_3 hw0 hr_fm (fun q => hq1 ((own_b47 r1_1).mp q)) (fun q => hq2 ((own_b47 r2_1).mp q)) (fun q => hq3 ((own_b47 r3_1).mp q))) hZ (own_w hw 52 rfl) (own_w hw 7 rfl) (by decide) (by decide)) q152a q152c (g := (mkF m 130 #[.val (.int p1), .val (.int p2), .val (.int p3), .val (.int p4), .val (.int (4 : Int32)), .val (.int d1), .val (.int d2), .val (.int d3), .val (.ref b107), .unset, .unset, .unset] [(.ref b112)])) rfl (by rw [hml]; rfl) (Steps.refl _) (argsL := []) (rest := []) (lenOf pd_23 rfl) rfl (by show 2 * 0 + _ ≤ _; exact Nat.le_of_eq rfl) (hb hby at_130) (fun _ _ => ⟨rfl, rfl, (by decide : 4 + 2 ≤ _), (by decide : 13 + 7 ≤ _)⟩))
          obtain ⟨rr, vr, kr, rfl, N152q, r152_0, r152_1, r152_2, r152_3, r152_4⟩ := hQ152
          have N152 := Fr.app N126 N152q
          have K152 : Keep h0 T152.heap [] := K126.trans r152_0 all0
          refine OGo.via (fun _ k => st152.trans k) ?_
          show OGo _ _ _ _ (T152.setTop (mkF m 133 #[.val (.int p1), .val (.int p2), .val (.int p3), .val (.int p4), .val (.int (4 : Int32)), .val (.int d1), .val (.int d2), .val (.int d3), .val (.ref b107), .unset, .unset, .unset] [(.ref rr)]))
          refine OGo.via (fun _ k => XS.astore X152.here hx rfl (hb hby at_133) rfl rfl (l' := #[.val (.int p1), .val (.int p2), .val (.int p3), .val (.int p4), .val (.int (4 : Int32)), .val (.int d1), .val (.int d2), .val (.int d3), .val (.ref b107), .val (.ref rr), .unset, .unset]) rfl (XS.iload X152.here hx rfl (hb hby at_135) rfl (XS.iconst X152.here hx rfl (hb hby at_137) (XS.icmpNo X152.here hx rfl (hb hby at_138) rfl (tlt (by decide : (1 : Int32) < (4 : Int32))).2.2.2 (XS.iload X152.here hx rfl (hb hby at_141) rfl (XS.bipush X152.here hx rfl (hb hby at_143) (XS.icmpYes X152.here hx rfl (pc0 := 145) (pc' := 154) rfl (hb hby at_145) rfl (feq hq1).2 (by decide) (by decide) (XS.iload X152.here hx rfl (hb hby at_154) rfl k)))))))) ?_
          show OGo _ _ _ _ (T152.setTop (mkF m 156 #[.val (.int p1), .val (.int p2), .val (.int p3), .val (.int p4), .val (.int (4 : Int32)), .val (.int d1), .val (.int d2), .val (.int d3), .val (.ref b107), .val (.ref rr), .unset, .unset] [(.int (4 : Int32))]))
          refine OGo.via (fun _ k => XS.iconst X152.here hx rfl (hb hby at_156) (XS.icmpNo X152.here hx rfl (hb hby at_157) rfl (tlt (by decide : (2 : Int32) < (4 : Int32))).2.2.2 (XS.iload X152.here hx rfl (hb hby at_160) rfl (XS.bipush X152.here hx rfl (hb hby at_162) (XS.icmpYes X152.here hx rfl (pc0 := 164) (pc' := 173) rfl (hb hby at_164) rfl (feq hq2).2 (by decide) (by decide) (XS.iload X152.here hx rfl (hb hby at_173) rfl (XS.iconst X152.here hx rfl (hb hby at_175) (XS.icmpNo X152.here hx rfl (hb hby at_176) rfl (tlt (by decide : (3 : Int32) < (4 : Int32))).2.2.2 k)))))))) ?_
          show OGo _ _ _ _ (T152.setTop (mkF m 179 #[.val (.int p1), .val (.int p2), .val (.int p3), .val (.int p4), .val (.int (4 : Int32)), .val (.int d1), .val (.int d2), .val (.int d3), .val (.ref b107), .val (.ref rr), .unset, .unset] []))
          refine OGo.via (fun _ k => XS.iload X152.here hx rfl (hb hby at_179) rfl (XS.bipush X152.here hx rfl (hb hby at_181) (XS.icmpYes X152.here hx rfl (pc0 := 183) (pc' := 192) rfl (hb hby at_183) rfl (feq hq3).2 (by decide) (by decide) (XS.iload X152.here hx rfl (hb hby at_192) rfl (XS.istore X152.here hx rfl (hb hby at_194) rfl (l' := #[.val (.int p1), .val (.int p2), .val (.int p3), .val (.int p4), .val (.int (4 : Int32)), .val (.int d1), .val (.int d2), .val (.int d3), .val (.ref b107), .val (.ref rr), .val (.int (4 : Int32)), .unset]) rfl (XS.iload X152.here hx rfl (hb hby at_196) rfl (XS.iconst X152.here hx rfl (hb hby at_198) (XS.isub X152.here hx rfl (hb hby at_199) rfl k)))))))) ?_
          show OGo _ _ _ _ (T152.setTop (mkF m 200 #[.val (.int p1), .val (.int p2), .val (.int p3), .val (.int p4), .val (.int (4 : Int32)), .val (.int d1), .val (.int d2), .val (.int d3), .val (.ref b107), .val (.ref rr), .val (.int (4 : Int32)), .unset] [(.int ((4 : Int32) - (1 : Int32)))]))
          rw [show ((4 : Int32) - (1 : Int32)) = (3 : Int32) from by decide]
          refine OGo.via (fun _ k => XS.istore X152.here hx rfl (hb hby at_200) rfl (l' := #[.val (.int p1), .val (.int p2), .val (.int p3), .val (.int p4), .val (.int (4 : Int32)), .val (.int d1), .val (.int d2), .val (.int d3), .val (.ref b107), .val (.ref rr), .val (.int (4 : Int32)), .val (.int (3 : Int32))]) rfl (XS.aload X152.here hx rfl (hb hby at_202) rfl rfl k)) ?_
          have f155 := own_staKeep0 r126_2 r152_0
          obtain ⟨cq154, kq154, q154a, q154b, q154c⟩ := isOf hZ rfl r152_1
          obtain ⟨_, T154, Lc154, X154, hQ154, st154⟩ := own_open X152 (X152.virtualBack hx (y := own_y6) (z := own_y6) hown (mvT hZ (own_w hw 107 rfl)) (mvT hZ (own_w hw 64 rfl)) (notFace_of_selects (args := #[]) (mvT hZ (own_w hw 66 rfl))) (mvT hZ (own_w hw 66 rfl)) (mvT hZ (own_w hw 65 rfl)) (by decide) (backOf (W := 0) (rm13 l Z a0 hw [] rr w vr kr [(.int ((d1.toInt8.toInt32).toInt8.toInt32)), (.int ((d2.toInt8.toInt32).toInt8.toInt32)), (.int ((d3.toInt8.toInt32).toInt8.toInt32))] (3 : Int32) T152.heap n0 (Nat.le_trans Z0 K152.1) r152_1 r152_2 r152_3 r152_4 f155 hw0) hZ (own_w hw 67 rfl) (own_w hw 10 rfl) (by decide) (by decide)) q154a q154c (g := (mkF m 204 #[.val (.int p1), .val (.int p2), .val (.int p3), .val (.int p4), .val (.int (4 : Int32)), .val (.int d1), .val (.int d2), .val (.int d3), .val (.ref b107), .val (.ref rr), .val (.int (4 : Int32)), .val (.int (3 : Int32))] [(.ref rr)])) rfl (by rw [hml]; rfl) (Steps.refl _) (argsL := []) (rest := []) (lenOf pd_11 rfl) rfl (by show 2 * 0 + _ ≤ _; exact Nat.le_of_eq rfl) (hb hby at_204) (fun _ _ => ⟨rfl, rfl, (by decide : 6 + 0 ≤ _), (by decide : 20 + 0 ≤ _)⟩))
          obtain ⟨rfl, N154q, r154_0⟩ := hQ154
          have N154 := Fr.app N152 N154q
          refine OGo.via (fun _ k => st154.trans k) ?_
          show OGo _ _ _ _ (T154.setTop (mkF m 207 #[.val (.int p1), .val (.int p2), .val (.int p3), .val (.int p4), .val (.int (4 : Int32)), .val (.int d1), .val (.int d2), .val (.int d3), .val (.ref b107), .val (.ref rr), .val (.int (4 : Int32)), .val (.int (3 : Int32))] [(.int (3 : Int32))]))
          refine OGo.via (fun _ k => XS.iload X154.here hx rfl (hb hby at_207) rfl (XS.icmpYes X154.here hx rfl (pc0 := 209) (pc' := 214) rfl (hb hby at_209) rfl (teq (by decide : (3 : Int32) = (3 : Int32))).1 (by decide) (by decide) (XS.iload X154.here hx rfl (hb hby at_214) rfl (XS.iconst X154.here hx rfl (hb hby at_216) (XS.icmpNo X154.here hx rfl (hb hby at_217) rfl (flt (by decide : ¬ ((3 : Int32) < (1 : Int32)))).1 (XS.aload X154.here hx rfl (hb hby at_220) rfl rfl (XS.iconst X154.here hx rfl (hb hby at_222) k))))))) ?_
          have f157 := own_staKeep0 r126_3 r152_0
          obtain ⟨cq156, kq156, q156a, q156b, q156c⟩ := isOf hZ r154_0 r152_1
          obtain ⟨_, T156, Lc156, X156, hQ156, st156⟩ := own_open X154 (X154.virtualBack hx (y := own_y19) (z := own_y19) hown (mvT hZ (own_w hw 130 rfl)) (mvT hZ (own_w hw 131 rfl)) (notFace_of_selects (args := #[]) (mvT hZ (own_w hw 133 rfl))) (mvT hZ (own_w hw 133 rfl)) (mvT hZ (own_w hw 132 rfl)) (by decide) (backOf (W := 0) (rm28 l Z a0 hw [] rr (0 : Int32) w fm vr kr (3 : Int32) [(.int ((d1.toInt8.toInt32).toInt8.toInt32)), (.int ((d2.toInt8.toInt32).toInt8.toInt32)), (.int ((d3.toInt8.toInt32).toInt8.toInt32))] ((d1.toInt8.toInt32).toInt8.toInt32) T152.heap n0 (Nat.le_trans Z0 K152.1) r152_1 r152_2 r152_3 r152_4 f155 f157 hw0 hr_fm (by decide) (by decide) rfl) hZ (own_w hw 134 rfl) (own_w hw 10 rfl) (by decide) (by decide)) q156a q156c (g := (mkF m 223 #[.val (.int p1), .val (.int p2), .val (.int p3), .val (.int p4), .val (.int (4 : Int32)), .val (.int d1), .val (.int d2), .val (.int d3), .val (.ref b107), .val (.ref rr), .val (.int (4 : Int32)), .val (.int (3 : Int32))] [(.int (0 : Int32)), (.ref rr)])) rfl (by rw [hml]; rfl) (Steps.refl _) (argsL := [(.int (0 : Int32))]) (rest := []) (lenOf pd_20 rfl) rfl (by show 2 * 0 + _ ≤ _; exact Nat.le_of_eq rfl) (hb hby at_223) (fun _ _ => ⟨rfl, r154_0, (by decide : 6 + 0 ≤ _), (by decide : 20 + 0 ≤ _)⟩))
          obtain ⟨rfl, N156q, r156_0⟩ := hQ156
          have N156 := Fr.app N154 N156q
          refine OGo.via (fun _ k => st156.trans k) ?_
          show OGo _ _ _ _ (T156.setTop (mkF m 226 #[.val (.int p1), .val (.int p2), .val (.int p3), .val (.int p4), .val (.int (4 : Int32)), .val (.int d1), .val (.int d2), .val (.int d3), .val (.ref b107), .val (.ref rr), .val (.int (4 : Int32)), .val (.int (3 : Int32))] [(.int (own_ch ((d1.toInt8.toInt32).toInt8.toInt32)))]))
          refine OGo.via (fun _ k => XS.iload X156.here hx rfl (hb hby at_226) rfl (XS.icmpYes X156.here hx rfl (pc0 := 228) (pc' := 233) rfl (hb hby at_228) rfl (teq (own_bk r1_1)).1 (by decide) (by decide) (XS.iload X156.here hx rfl (hb hby at_233) rfl (XS.iconst X156.here hx rfl (hb hby at_235) (XS.icmpNo X156.here hx rfl (hb hby at_236) rfl (flt (by decide : ¬ ((3 : Int32) < (2 : Int32)))).1 (XS.aload X156.here hx rfl (hb hby at_239) rfl rfl (XS.iconst X156.here hx rfl (hb hby at_241) k))))))) ?_
          obtain ⟨cq158, kq158, q158a, q158b, q158c⟩ := isOf hZ r156_0 r152_1
          obtain ⟨_, T158, Lc158, X158, hQ158, st158⟩ := own_open X156 (X156.virtualBack hx (y := own_y19) (z := own_y19) hown (mvT hZ (own_w hw 130 rfl)) (mvT hZ (own_w hw 131 rfl)) (notFace_of_selects (args := #[]) (mvT hZ (own_w hw 133 rfl))) (mvT hZ (own_w hw 133 rfl)) (mvT hZ (own_w hw 132 rfl)) (by decide) (backOf (W := 0) (rm28 l Z a0 hw [] rr (1 : Int32) w fm vr kr (3 : Int32) [(.int ((d1.toInt8.toInt32).toInt8.toInt32)), (.int ((d2.toInt8.toInt32).toInt8.toInt32)), (.int ((d3.toInt8.toInt32).toInt8.toInt32))] ((d2.toInt8.toInt32).toInt8.toInt32) T152.heap n0 (Nat.le_trans Z0 K152.1) r152_1 r152_2 r152_3 r152_4 f155 f157 hw0 hr_fm (by decide) (by decide) rfl) hZ (own_w hw 134 rfl) (own_w hw 10 rfl) (by decide) (by decide)) q158a q158c (g := (mkF m 242 #[.val (.int p1), .val (.int p2), .val (.int p3), .val (.int p4), .val (.int (4 : Int32)), .val (.int d1), .val (.int d2), .val (.int d3), .val (.ref b107), .val (.ref rr), .val (.int (4 : Int32)), .val (.int (3 : Int32))] [(.int (1 : Int32)), (.ref rr)])) rfl (by rw [hml]; rfl) (Steps.refl _) (argsL := [(.int (1 : Int32))]) (rest := []) (lenOf pd_20 rfl) rfl (by show 2 * 0 + _ ≤ _; exact Nat.le_of_eq rfl) (hb hby at_242) (fun _ _ => ⟨rfl, r156_0, (by decide : 6 + 0 ≤ _), (by decide : 20 + 0 ≤ _)⟩))
          obtain ⟨rfl, N158q, r158_0⟩ := hQ158
          have N158 := Fr.app N156 N158q
          refine OGo.via (fun _ k => st158.trans k) ?_
          show OGo _ _ _ _ (T158.setTop (mkF m 245 #[.val (.int p1), .val (.int p2), .val (.int p3), .val (.int p4), .val (.int (4 : Int32)), .val (.int d1), .val (.int d2), .val (.int d3), .val (.ref b107), .val (.ref rr), .val (.int (4 : Int32)), .val (.int (3 : Int32))] [(.int (own_ch ((d2.toInt8.toInt32).toInt8.toInt32)))]))
          refine OGo.via (fun _ k => XS.iload X158.here hx rfl (hb hby at_245) rfl (XS.icmpYes X158.here hx rfl (pc0 := 247) (pc' := 252) rfl (hb hby at_247) rfl (teq (own_bk r2_1)).1 (by decide) (by decide) (XS.iload X158.here hx rfl (hb hby at_252) rfl (XS.iconst X158.here hx rfl (hb hby at_254) (XS.icmpNo X158.here hx rfl (hb hby at_255) rfl (flt (by decide : ¬ ((3 : Int32) < (3 : Int32)))).1 (XS.aload X158.here hx rfl (hb hby at_258) rfl rfl (XS.iconst X158.here hx rfl (hb hby at_260) k))))))) ?_
          obtain ⟨cq159, kq159, q159a, q159b, q159c⟩ := isOf hZ r158_0 r152_1
          obtain ⟨_, T159, Lc159, X159, hQ159, st159⟩ := own_open X158 (X158.virtualBack hx (y := own_y19) (z := own_y19) hown (mvT hZ (own_w hw 130 rfl)) (mvT hZ (own_w hw 131 rfl)) (notFace_of_selects (args := #[]) (mvT hZ (own_w hw 133 rfl))) (mvT hZ (own_w hw 133 rfl)) (mvT hZ (own_w hw 132 rfl)) (by decide) (backOf (W := 0) (rm28 l Z a0 hw [] rr (2 : Int32) w fm vr kr (3 : Int32) [(.int ((d1.toInt8.toInt32).toInt8.toInt32)), (.int ((d2.toInt8.toInt32).toInt8.toInt32)), (.int ((d3.toInt8.toInt32).toInt8.toInt32))] ((d3.toInt8.toInt32).toInt8.toInt32) T152.heap n0 (Nat.le_trans Z0 K152.1) r152_1 r152_2 r152_3 r152_4 f155 f157 hw0 hr_fm (by decide) (by decide) rfl) hZ (own_w hw 134 rfl) (own_w hw 10 rfl) (by decide) (by decide)) q159a q159c (g := (mkF m 261 #[.val (.int p1), .val (.int p2), .val (.int p3), .val (.int p4), .val (.int (4 : Int32)), .val (.int d1), .val (.int d2), .val (.int d3), .val (.ref b107), .val (.ref rr), .val (.int (4 : Int32)), .val (.int (3 : Int32))] [(.int (2 : Int32)), (.ref rr)])) rfl (by rw [hml]; rfl) (Steps.refl _) (argsL := [(.int (2 : Int32))]) (rest := []) (lenOf pd_20 rfl) rfl (by show 2 * 0 + _ ≤ _; exact Nat.le_of_eq rfl) (hb hby at_261) (fun _ _ => ⟨rfl, r158_0, (by decide : 6 + 0 ≤ _), (by decide : 20 + 0 ≤ _)⟩))
          obtain ⟨rfl, N159q, r159_0⟩ := hQ159
          have N159 := Fr.app N158 N159q
          refine OGo.via (fun _ k => st159.trans k) ?_
          show OGo _ _ _ _ (T159.setTop (mkF m 264 #[.val (.int p1), .val (.int p2), .val (.int p3), .val (.int p4), .val (.int (4 : Int32)), .val (.int d1), .val (.int d2), .val (.int d3), .val (.ref b107), .val (.ref rr), .val (.int (4 : Int32)), .val (.int (3 : Int32))] [(.int (own_ch ((d3.toInt8.toInt32).toInt8.toInt32)))]))
          refine OGo.via (fun _ k => XS.iload X159.here hx rfl (hb hby at_264) rfl (XS.icmpYes X159.here hx rfl (pc0 := 266) (pc' := 271) rfl (hb hby at_266) rfl (teq (own_bk r3_1)).1 (by decide) (by decide) (XS.iconst X159.here hx rfl (hb hby at_271) k))) ?_
          show OGo _ _ _ _ (T159.setTop (mkF m 272 #[.val (.int p1), .val (.int p2), .val (.int p3), .val (.int p4), .val (.int (4 : Int32)), .val (.int d1), .val (.int d2), .val (.int d3), .val (.ref b107), .val (.ref rr), .val (.int (4 : Int32)), .val (.int (3 : Int32))] [(.int (1 : Int32))]))
          refine own_wide ?_
          refine own_retN (t := .boolean) (by simp) X159 hx Bd.notSynchronized Bd.returns (hb hby at_272) (by decide) (by decide) ?_
          show Q_rm0 Z _ _ _ _ _ _ h0 n0 _ T159.heap _
          rw [r159_0]
          exact ⟨rfl, N159⟩
set_option maxRecDepth 65536 in
set_option maxHeartbeats 40000000 in
theorem comes_1 {Post : Tables → Env → Array Value → State → Outcome → State → Prop} (hpost : ∀ tb e args s v u, (limb_1_1.after args s (.returned v) u = true ∧ limb_1_2.after args s (.returned v) u = true ∧ True) → FramedW s (.returned v) u (Jvm.fieldLocs frame_1_writes args s ++ Jvm.arrayLocs frame_1_arrays args s ++ Jvm.staticLocs frame_1_statics s) 24 1152 → Post tb e args s (.returned v) u) :
    ArmFor flags0 classFile x code maxLocals ret World_1 tables_1 room_1 Calls_1 rest_1 Pre_1 Post := by
  intro l hfl _ _ p e ha hc hk s m args below hf hA hF happ hP
  obtain ⟨hcalls, hrest, hpre⟩ := hP
  obtain ⟨-, -, -, hnamed, -, -, -, hat⟩ := (Spec.applies_iff hf).mp happ
  obtain ⟨hg, hn⟩ := and_e (Cond.before_iff.mp (show (Jvm.Cond.and given_1 narrow_1).before args s = true from hpre))
  obtain ⟨gc, gv0⟩ := and_e hg
  obtain ⟨ga0, gv1⟩ := and_e gv0
  obtain ⟨ga1, gv2⟩ := and_e gv1
  obtain ⟨ga2, gv3⟩ := and_e gv2
  have ga3 := gv3
  obtain ⟨w0, w1, w2, w3, rfl⟩ : ∃ w0 w1 w2 w3 : Value, args = #[w0, w1, w2, w3] := by
    have hs : args.size = 4 := by simpa [Cond.value, given_1] using gc
    obtain ⟨L⟩ := args
    match L, hs with
    | [w0, w1, w2, w3], _ => exact ⟨w0, w1, w2, w3, rfl⟩
  have hw := fun d (hd : d ∈ tables_1) => atoms_spec (ws := Jvm.Cond.code x code maxLocals ret :: tables_1) hat d (List.mem_cons_of_mem _ hd)
  have hfit : Fit s := fun {y c} hc i hi => by
    obtain ⟨ha, rfl⟩ := Array.getElem?_eq_some_iff.mp hc
    have q := List.all_eq_true.mp ((Array.all_eq_true_iff_forall_mem.mp hF) _ (Array.getElem_mem ha)) i (List.mem_range.mpr hi)
    simpa [Array.getElem?_eq_getElem hi] using q
  obtain ⟨hsets, hown0⟩ := atoms_of _ (rest_1_c_eq ▸ (show rest_1_c.before _ s = true from hrest))
  have hr0 := Cond.before_iff.mp hown0
  obtain ⟨i0, ei0⟩ := is_v ga0
  obtain rfl : w0 = (.int i0) := Option.some.inj ei0
  obtain ⟨i1, ei1⟩ := is_v ga1
  obtain rfl : w1 = (.int i1) := Option.some.inj ei1
  obtain ⟨i2, ei2⟩ := is_v ga2
  obtain rfl : w2 = (.int i2) := Option.some.inj ei2
  obtain ⟨i3, ei3⟩ := is_v ga3
  obtain rfl : w3 = (.int i3) := Option.some.inj ei3
  obtain ⟨w, ew⟩ := is_v (Cond.before_iff.mp (hsets _ (List.mem_of_getElem? (i := 1) rfl)))
  have hcw : Jvm.Lit.compactW.before _ s = true := hsets _ (List.mem_of_getElem? (i := 2) rfl)
  have hw0 : ¬ w = (0 : Int32) := by
    have z := not_v (Cond.before_iff.mp (hsets _ (List.mem_of_getElem? (i := 2) rfl)))
    intro q; subst q
    simp [Jvm.Cond.value, ew, Term.int_eval] at z
  obtain ⟨fm, efm, hrf⟩ := isR_v (Cond.before_iff.mp (hsets _ (List.mem_of_getElem? (i := 8) rfl)))
  have hch : Jvm.Lit.constHeld s "java/lang/StringLatin1" 151 := hcalls.1 ("java/lang/StringLatin1", 151) (by simp [consts_1])
  obtain ⟨n, o, h1, h2, h3, _, L, rfl, ⟨rfl, N⟩, hq⟩ := rm0 l s _ hw tables_1 i0 i1 i2 i3 w fm s.heap s.heap.size (Nat.le_refl _) (Sta.start ew (Or.inl (hsets _ (List.mem_of_getElem? (i := 0) rfl)))) (Sta.start efm (Or.inl (hsets _ (List.mem_of_getElem? (i := 7) rfl)))) hw0 hrf rfl hch hcw p e ha hc hk s m _ below hf ((Spec.applies_iff_loose hf).mp happ).1 ⟨rfl, State.WarmedH.refl s, rfl⟩ trivial
  refine ⟨n, _, h1, h2, h3, hpost _ _ _ _ _ _ ⟨Cond.after_iff.mpr rfl, Cond.after_iff.mpr (eq_i res_at (Term.int_eval (1)) rfl), trivial⟩ ⟨hq.1, hq.2.1, hq.2.2.1, (hq.2.2.2.sift fun y hy => Or.inr (N y hy)).mono (by decide) (by decide)⟩⟩
theorem main_1_1 : Claimed_1_1 := comes_1 fun _ _ _ _ _ _ h hF => ⟨h.1, hF⟩
theorem main_1_2 : Claimed_1_2 := comes_1 fun _ _ _ _ _ _ h hF => ⟨h.2.1, hF⟩
end Jvm.Pilot.@@N@@
namespace Jvm.Pilot.@@N@@
open Jvm Jvm.ClassFile Sem Op Lib Jvm.Free Jvm.Stand Jvm.Pilot.@@N@@.Jvm.D
/-! MADE BY PROGRAM (witnessworld.py) out of the Statement's table words and the real class files: 24 classes; the members and pool entries that the words name. The judged class is class 1, her method 2. -/
namespace start1
open Jvm.ClassFile
def u (s : String) : CpInfo := .utf8 (stringToUtf16 s)
/-- a pool by its gaps: so many unusable entries, then the entry; so many at the end -/
def gap : Nat → List CpInfo → List CpInfo
  | 0, r => r
  | n + 1, r => .unusable :: gap n r
def poolList (es : List (Nat × CpInfo)) (last : Nat) : List CpInfo := es.foldr (fun e r => gap e.1 (e.2 :: r)) (gap last [])
def pool (es : List (Nat × CpInfo)) (last : Nat) : Array CpInfo := ⟨poolList es last⟩
def fileOf (pool : Array CpInfo) (this : Nat) (attrs : Array Attribute := #[]) (ms : Array MethodInfo := #[]) (fl : Nat := 33) (sup : Nat := 0) (ifs : Array Nat := #[]) (fds : Array FieldInfo := #[]) : ClassFile where
  minorVersion := 0
  majorVersion := 65
  constantPool := pool
  accessFlags := fl
  thisClass := this
  superClass := sup
  interfaces := ifs
  fields := fds
  methods := ms
  attributes := attrs
def plain (name : String) (sup : Option ClassId) : Class where
  name := name
  kind := .ordinary
  loader := none
  accessFlags := 33
  super := sup
  interfaces := #[]
  cf := none
  fields := #[]
  methods := #[]
  instanceTypes := #[]
  staticTypes := #[]
  resolved := #[]
  callSites := []
  init := .initialized
  statics := none
  mirror := none

def pool0 : Array CpInfo := pool [(5, u "<init>"), (0, u "()V"), (1, .class_ 10), (1, u "java/lang/Object")] 113

def k0c0 : Code := { maxStack := 0, maxLocals := 1, code := object_method_1_code, exceptionTable := #[], attributes := #[] }
def k0m0 : Method := { name := "<init>", desc := "()V", sig := { parameters := [], returnType := none }, accessFlags := 1, code := some k0c0 }
/-- java/lang/Object -/
def k0 : Class := { plain "java/lang/Object" none with
  accessFlags := 33
  interfaces := #[]
  cf := some (fileOf pool0 8 #[] #[{ accessFlags := 1, nameIndex := 5, descriptorIndex := 6, attributes := #[] }] 33 0 #[] #[])
  fields := #[]
  methods := #[k0m0]
  instanceTypes := #[]
  staticTypes := #[]
  resolved := Array.replicate 124 none
  statics := none }

def pool1 : Array CpInfo := pool [(2, .class_ 4), (1, u "java/lang/Object"), (0, u "<init>"), (0, u "()V"), (0, .methodref 8 9), (0, .class_ 10), (0, .nameAndType 11 12), (0, u "com/example/ianus/ianus/server/LiteralPathFirstSegmentPinLaw"), (0, u "ch"), (0, u "(I)C"), (0, .class_ 14), (0, u "com/example/ianus/ianus/server/LiteralPath"), (0, .class_ 16), (0, u "java/lang/String"), (0, .methodref 15 18), (0, .nameAndType 5 19), (0, u "([C)V"), (0, .methodref 13 21), (0, .nameAndType 5 22), (0, u "(Ljava/lang/String;)V"), (0, .methodref 13 24), (0, .nameAndType 25 26), (0, u "firstSegment"), (0, u "()Ljava/lang/String;"), (0, .methodref 15 28), (0, .nameAndType 29 30), (0, u "length"), (0, u "()I"), (0, .methodref 15 32), (0, .nameAndType 33 12), (0, u "charAt"), (3, u "law"), (0, u "(IIII)Z")] 4

def k1m0 : Method := { name := "<init>", desc := "()V", sig := { parameters := [], returnType := none }, accessFlags := 1, code := none }
def k1c1 : Code := { maxStack := 2, maxLocals := 1, code := method_2_code, exceptionTable := #[], attributes := #[] }
def k1m1 : Method := { name := "ch", desc := "(I)C", sig := { parameters := [.int], returnType := some .char }, accessFlags := 10, code := some k1c1 }
def k1c2 : Code := { maxStack := 5, maxLocals := 12, code := code, exceptionTable := #[], attributes := #[] }
def k1m2 : Method := { name := "law", desc := "(IIII)Z", sig := { parameters := [.int, .int, .int, .int], returnType := some .boolean }, accessFlags := 9, code := some k1c2 }
/-- com/example/ianus/ianus/server/LiteralPathFirstSegmentPinLaw -/
def k1 : Class := { plain "com/example/ianus/ianus/server/LiteralPathFirstSegmentPinLaw" (some 0) with
  accessFlags := 49
  interfaces := #[]
  cf := some (fileOf pool1 8 #[] #[{ accessFlags := 1, nameIndex := 5, descriptorIndex := 6, attributes := #[] }, { accessFlags := 10, nameIndex := 11, descriptorIndex := 12, attributes := #[] }, { accessFlags := 9, nameIndex := 37, descriptorIndex := 38, attributes := #[] }] 49 2 #[] #[])
  fields := #[]
  methods := #[k1m0, k1m1, k1m2]
  instanceTypes := #[]
  staticTypes := #[]
  resolved := Array.replicate 43 none
  statics := none }

def pool2 : Array CpInfo := pool [(1, .methodref 2 3), (0, .class_ 4), (0, .nameAndType 5 6), (0, u "java/lang/Object"), (0, u "<init>"), (0, u "()V"), (0, .class_ 8), (0, u "java/lang/Record")] 13

def k2c0 : Code := { maxStack := 1, maxLocals := 1, code := jdk_30_method_1_code, exceptionTable := #[], attributes := #[] }
def k2m0 : Method := { name := "<init>", desc := "()V", sig := { parameters := [], returnType := none }, accessFlags := 4, code := some k2c0 }
/-- java/lang/Record -/
def k2 : Class := { plain "java/lang/Record" (some 0) with
  accessFlags := 1057
  interfaces := #[]
  cf := some (fileOf pool2 7 #[] #[{ accessFlags := 4, nameIndex := 5, descriptorIndex := 6, attributes := #[] }] 1057 2 #[] #[])
  fields := #[]
  methods := #[k2m0]
  instanceTypes := #[]
  staticTypes := #[]
  resolved := Array.replicate 22 none
  statics := none }

def pool3 : Array CpInfo := pool [(1, .methodref 2 3), (0, .class_ 4), (0, .nameAndType 5 6), (0, u "java/lang/Record"), (0, u "<init>"), (0, u "()V"), (0, .fieldref 8 9), (0, .class_ 10), (0, .nameAndType 11 12), (0, u "com/example/ianus/ianus/server/LiteralPath"), (0, u "path"), (0, u "Ljava/lang/String;"), (3, .class_ 18), (1, u "java/lang/String"), (2, .methodref 16 22), (0, .nameAndType 23 24), (0, u "length"), (0, u "()I"), (3, .methodref 16 29), (0, .nameAndType 30 31), (0, u "substring"), (0, u "(II)Ljava/lang/String;"), (2, u "SEGMENTS"), (0, u "Ljava/util/regex/Pattern;"), (18, u "(Ljava/lang/String;)V"), (0, .methodref 16 56), (0, .nameAndType 57 58), (0, u "indexOf"), (0, u "(II)I"), (4, .class_ 64), (0, u "com/example/ianus/ianus/server/LiteralPath$Match"), (27, u "firstSegment"), (0, u "()Ljava/lang/String;")] 33

def k3c0 : Code := { maxStack := 2, maxLocals := 2, code := prog_15_method_1_code, exceptionTable := #[], attributes := #[] }
def k3m0 : Method := { name := "<init>", desc := "(Ljava/lang/String;)V", sig := { parameters := [(.object "java/lang/String")], returnType := none }, accessFlags := 0, code := some k3c0 }
def k3c1 : Code := { maxStack := 3, maxLocals := 2, code := prog_15_method_3_code, exceptionTable := #[], attributes := #[] }
def k3m1 : Method := { name := "firstSegment", desc := "()Ljava/lang/String;", sig := { parameters := [], returnType := some (.object "java/lang/String") }, accessFlags := 0, code := some k3c1 }
/-- com/example/ianus/ianus/server/LiteralPath -/
def k3 : Class := { plain "com/example/ianus/ianus/server/LiteralPath" (some 2) with
  accessFlags := 48
  interfaces := #[]
  cf := some (fileOf pool3 8 #[.nestMembers #[63]] #[{ accessFlags := 0, nameIndex := 5, descriptorIndex := 54, attributes := #[] }, { accessFlags := 0, nameIndex := 92, descriptorIndex := 93, attributes := #[] }] 48 2 #[] #[{ accessFlags := 18, nameIndex := 11, descriptorIndex := 12, attributes := #[] }, { accessFlags := 26, nameIndex := 34, descriptorIndex := 35, attributes := #[] }])
  fields := #[{ name := "path", type := (.object "java/lang/String"), accessFlags := 18, slot := 0, constantValue := 0 }, { name := "SEGMENTS", type := (.object "java/util/regex/Pattern"), accessFlags := 26, slot := 0, constantValue := 0 }]
  methods := #[k3m0, k3m1]
  instanceTypes := #[(.object "java/lang/String")]
  staticTypes := #[(.object "java/util/regex/Pattern")]
  resolved := Array.replicate 127 none
  statics := none }

def pool4 : Array CpInfo := pool [(1, .class_ 2), (0, u "java/io/Serializable"), (0, .class_ 4), (0, u "java/lang/Object")] 2

/-- java/io/Serializable -/
def k4 : Class := { plain "java/io/Serializable" (some 0) with
  accessFlags := 1537
  interfaces := #[]
  cf := some (fileOf pool4 1 #[] #[] 1537 3 #[] #[])
  fields := #[]
  methods := #[]
  instanceTypes := #[]
  staticTypes := #[]
  resolved := Array.replicate 7 none
  statics := none }

def pool5 : Array CpInfo := pool [(1, .class_ 2), (0, u "java/lang/Comparable"), (0, .class_ 4), (0, u "java/lang/Object")] 7

/-- java/lang/Comparable -/
def k5 : Class := { plain "java/lang/Comparable" (some 0) with
  accessFlags := 1537
  interfaces := #[]
  cf := some (fileOf pool5 1 #[] #[] 1537 3 #[] #[])
  fields := #[]
  methods := #[]
  instanceTypes := #[]
  staticTypes := #[]
  resolved := Array.replicate 12 none
  statics := none }

def pool6 : Array CpInfo := pool [(2, .class_ 4), (1, u "java/lang/CharSequence"), (42, .class_ 48), (0, u "java/lang/CharSequence$1CodePointIterator"), (10, .class_ 60), (0, u "java/lang/CharSequence$1CharIterator"), (5, .class_ 67), (0, u "java/lang/Object")] 63

/-- java/lang/CharSequence -/
def k6 : Class := { plain "java/lang/CharSequence" (some 0) with
  accessFlags := 1537
  interfaces := #[]
  cf := some (fileOf pool6 2 #[.nestMembers #[47, 59]] #[] 1537 66 #[] #[])
  fields := #[]
  methods := #[]
  instanceTypes := #[]
  staticTypes := #[]
  resolved := Array.replicate 131 none
  statics := none }

def pool7 : Array CpInfo := pool [(1, .class_ 2), (0, u "java/lang/constant/Constable"), (0, .class_ 4), (0, u "java/lang/Object")] 6

/-- java/lang/constant/Constable -/
def k7 : Class := { plain "java/lang/constant/Constable" (some 0) with
  accessFlags := 1537
  interfaces := #[]
  cf := some (fileOf pool7 1 #[] #[] 1537 3 #[] #[])
  fields := #[]
  methods := #[]
  instanceTypes := #[]
  staticTypes := #[]
  resolved := Array.replicate 11 none
  statics := none }

def pool8 : Array CpInfo := pool [(1, .class_ 2), (0, u "java/lang/constant/ConstantDesc"), (0, .class_ 4), (0, u "java/lang/Object")] 32

/-- java/lang/constant/ConstantDesc -/
def k8 : Class := { plain "java/lang/constant/ConstantDesc" (some 0) with
  accessFlags := 1537
  interfaces := #[]
  cf := some (fileOf pool8 1 #[] #[] 1537 3 #[] #[])
  fields := #[]
  methods := #[]
  instanceTypes := #[]
  staticTypes := #[]
  resolved := Array.replicate 37 none
  statics := none }

def pool9 : Array CpInfo := pool [(1, .methodref 2 3), (0, .class_ 4), (0, .nameAndType 5 6), (0, u "java/lang/Object"), (0, u "<init>"), (0, u "()V"), (2, .fieldref 10 11), (0, .class_ 12), (0, .nameAndType 13 14), (0, u "java/lang/String"), (0, u "value"), (0, u "[B"), (0, .fieldref 10 16), (0, .nameAndType 17 18), (0, u "coder"), (0, u "B"), (2, u "hash"), (0, u "I"), (2, u "hashIsZero"), (0, u "Z"), (0, .methodref 10 28), (0, .nameAndType 5 29), (0, u "([CIILjava/lang/Void;)V"), (8, .fieldref 10 39), (0, .nameAndType 40 26), (0, u "COMPACT_STRINGS"), (1, .class_ 44), (1, u "java/lang/StringUTF16"), (0, u "compress"), (1, .methodref 42 48), (0, .nameAndType 49 50), (0, u "coderFromArrayLen"), (0, u "([BI)B"), (56, .class_ 109), (1, u "java/lang/StringLatin1"), (32, u "()Z"), (34, .methodref 42 178), (0, .nameAndType 45 179), (0, u "([CII)[B"), (31, u "([BB)V"), (122, u "()I"), (0, .methodref 10 336), (0, .nameAndType 17 337), (0, u "()B"), (25, u "([BI)C"), (27, u "(II)V"), (35, u "(I)C"), (64, .methodref 10 493), (0, .nameAndType 494 142), (0, u "isLatin1"), (0, .methodref 107 496), (0, .nameAndType 497 363), (0, u "charAt"), (3, u "checkIndex"), (3, .methodref 10 506), (0, .nameAndType 507 334), (0, u "length"), (5, u "checkFromToIndex"), (7, .methodref 10 522), (0, .nameAndType 523 524), (0, u "checkBoundsBeginEnd"), (0, u "(III)V"), (50, .class_ 576), (0, u "java/lang/CharSequence"), (22, u "CASE_INSENSITIVE_ORDER"), (0, u "Ljava/util/Comparator;"), (34, u "indexOf"), (0, u "(II)I"), (0, .methodref 107 638), (0, .nameAndType 635 639), (0, u "([BIII)I"), (43, u "substring"), (0, u "(II)Ljava/lang/String;"), (0, .methodref 107 686), (0, .nameAndType 687 688), (0, u "newString"), (0, u "([BII)Ljava/lang/String;"), (321, u "([C)V"), (42, .fieldref 1054 1055), (0, .class_ 1056), (0, .nameAndType 1057 1058), (0, u "jdk/internal/util/Preconditions"), (0, u "SIOOBE_FORMATTER"), (0, u "Ljava/util/function/BiFunction;"), (0, .methodref 1054 1060), (0, .nameAndType 501 1061), (0, u "(IILjava/util/function/BiFunction;)I"), (0, .methodref 1054 1063), (0, .nameAndType 513 1064), (0, u "(IIILjava/util/function/BiFunction;)I"), (36, u "serialPersistentFields"), (0, u "[Ljava/io/ObjectStreamField;"), (0, .class_ 1104), (0, u "java/lang/String$CaseInsensitiveComparator"), (1, .class_ 1107), (0, u "java/io/Serializable"), (0, .class_ 1109), (0, u "java/lang/Comparable"), (0, .class_ 1111), (0, u "java/lang/constant/Constable"), (0, .class_ 1113), (0, u "java/lang/constant/ConstantDesc"), (2, u "serialVersionUID"), (0, u "J"), (3, u "REPL"), (0, u "C"), (2, u "LATIN1"), (1, u "UTF16")] 323

def k9m0 : Method := { name := "<init>", desc := "()V", sig := { parameters := [], returnType := none }, accessFlags := 1, code := none }
def k9c1 : Code := { maxStack := 5, maxLocals := 2, code := jdk_42_method_3_code, exceptionTable := #[], attributes := #[] }
def k9m1 : Method := { name := "<init>", desc := "([C)V", sig := { parameters := [(.array .char)], returnType := none }, accessFlags := 1, code := some k9c1 }
def k9c2 : Code := { maxStack := 2, maxLocals := 1, code := jdk_42_method_54_code, exceptionTable := #[], attributes := #[] }
def k9m2 : Method := { name := "length", desc := "()I", sig := { parameters := [], returnType := some .int }, accessFlags := 1, code := some k9c2 }
def k9c3 : Code := { maxStack := 2, maxLocals := 2, code := jdk_42_method_56_code, exceptionTable := #[], attributes := #[] }
def k9m3 : Method := { name := "charAt", desc := "(I)C", sig := { parameters := [.int], returnType := some .char }, accessFlags := 1, code := some k9c3 }
def k9c4 : Code := { maxStack := 4, maxLocals := 3, code := jdk_42_method_80_code, exceptionTable := #[], attributes := #[] }
def k9m4 : Method := { name := "indexOf", desc := "(II)I", sig := { parameters := [.int, .int], returnType := some .int }, accessFlags := 1, code := some k9c4 }
def k9c5 : Code := { maxStack := 3, maxLocals := 5, code := jdk_42_method_92_code, exceptionTable := #[], attributes := #[] }
def k9m5 : Method := { name := "substring", desc := "(II)Ljava/lang/String;", sig := { parameters := [.int, .int], returnType := some (.object "java/lang/String") }, accessFlags := 1, code := some k9c5 }
def k9c6 : Code := { maxStack := 4, maxLocals := 6, code := jdk_42_method_149_code, exceptionTable := #[], attributes := #[] }
def k9m6 : Method := { name := "<init>", desc := "([CIILjava/lang/Void;)V", sig := { parameters := [(.array .char), .int, .int, (.object "java/lang/Void")], returnType := none }, accessFlags := 2, code := some k9c6 }
def k9c7 : Code := { maxStack := 2, maxLocals := 3, code := jdk_42_method_151_code, exceptionTable := #[], attributes := #[] }
def k9m7 : Method := { name := "<init>", desc := "([BB)V", sig := { parameters := [(.array .byte), .byte], returnType := none }, accessFlags := 0, code := some k9c7 }
def k9c8 : Code := { maxStack := 1, maxLocals := 1, code := jdk_42_method_152_code, exceptionTable := #[], attributes := #[] }
def k9m8 : Method := { name := "coder", desc := "()B", sig := { parameters := [], returnType := some .byte }, accessFlags := 0, code := some k9c8 }
def k9c9 : Code := { maxStack := 1, maxLocals := 1, code := jdk_42_method_154_code, exceptionTable := #[], attributes := #[] }
def k9m9 : Method := { name := "isLatin1", desc := "()Z", sig := { parameters := [], returnType := some .boolean }, accessFlags := 0, code := some k9c9 }
def k9c10 : Code := { maxStack := 3, maxLocals := 2, code := jdk_42_method_155_code, exceptionTable := #[], attributes := #[] }
def k9m10 : Method := { name := "checkIndex", desc := "(II)V", sig := { parameters := [.int, .int], returnType := none }, accessFlags := 8, code := some k9c10 }
def k9c11 : Code := { maxStack := 4, maxLocals := 3, code := jdk_42_method_158_code, exceptionTable := #[], attributes := #[] }
def k9m11 : Method := { name := "checkBoundsBeginEnd", desc := "(III)V", sig := { parameters := [.int, .int, .int], returnType := none }, accessFlags := 8, code := some k9c11 }
/-- java/lang/String -/
def k9 : Class := { plain "java/lang/String" (some 0) with
  accessFlags := 49
  interfaces := #[4, 5, 6, 7, 8]
  cf := some (fileOf pool9 10 #[.nestMembers #[1103]] #[{ accessFlags := 1, nameIndex := 5, descriptorIndex := 6, attributes := #[] }, { accessFlags := 1, nameIndex := 5, descriptorIndex := 1010, attributes := #[] }, { accessFlags := 1, nameIndex := 507, descriptorIndex := 334, attributes := #[] }, { accessFlags := 1, nameIndex := 497, descriptorIndex := 427, attributes := #[] }, { accessFlags := 1, nameIndex := 635, descriptorIndex := 636, attributes := #[] }, { accessFlags := 1, nameIndex := 683, descriptorIndex := 684, attributes := #[] }, { accessFlags := 2, nameIndex := 5, descriptorIndex := 29, attributes := #[] }, { accessFlags := 0, nameIndex := 5, descriptorIndex := 211, attributes := #[] }, { accessFlags := 0, nameIndex := 17, descriptorIndex := 337, attributes := #[] }, { accessFlags := 0, nameIndex := 494, descriptorIndex := 142, attributes := #[] }, { accessFlags := 8, nameIndex := 501, descriptorIndex := 391, attributes := #[] }, { accessFlags := 8, nameIndex := 523, descriptorIndex := 524, attributes := #[] }] 49 2 #[1106, 1108, 575, 1110, 1112] #[{ accessFlags := 18, nameIndex := 13, descriptorIndex := 14, attributes := #[] }, { accessFlags := 18, nameIndex := 17, descriptorIndex := 18, attributes := #[] }, { accessFlags := 2, nameIndex := 21, descriptorIndex := 22, attributes := #[] }, { accessFlags := 2, nameIndex := 25, descriptorIndex := 26, attributes := #[] }, { accessFlags := 26, nameIndex := 1116, descriptorIndex := 1117, attributes := #[] }, { accessFlags := 24, nameIndex := 40, descriptorIndex := 26, attributes := #[] }, { accessFlags := 26, nameIndex := 1101, descriptorIndex := 1102, attributes := #[] }, { accessFlags := 26, nameIndex := 1121, descriptorIndex := 1122, attributes := #[] }, { accessFlags := 25, nameIndex := 599, descriptorIndex := 600, attributes := #[] }, { accessFlags := 24, nameIndex := 1125, descriptorIndex := 18, attributes := #[] }, { accessFlags := 24, nameIndex := 1127, descriptorIndex := 18, attributes := #[] }])
  fields := #[{ name := "value", type := (.array .byte), accessFlags := 18, slot := 0, constantValue := 0 }, { name := "coder", type := .byte, accessFlags := 18, slot := 1, constantValue := 0 }, { name := "hash", type := .int, accessFlags := 2, slot := 2, constantValue := 0 }, { name := "hashIsZero", type := .boolean, accessFlags := 2, slot := 3, constantValue := 0 }, { name := "serialVersionUID", type := .long, accessFlags := 26, slot := 0, constantValue := 0 }, { name := "COMPACT_STRINGS", type := .boolean, accessFlags := 24, slot := 1, constantValue := 0 }, { name := "serialPersistentFields", type := (.array (.object "java/io/ObjectStreamField")), accessFlags := 26, slot := 2, constantValue := 0 }, { name := "REPL", type := .char, accessFlags := 26, slot := 3, constantValue := 0 }, { name := "CASE_INSENSITIVE_ORDER", type := (.object "java/util/Comparator"), accessFlags := 25, slot := 4, constantValue := 0 }, { name := "LATIN1", type := .byte, accessFlags := 24, slot := 5, constantValue := 0 }, { name := "UTF16", type := .byte, accessFlags := 24, slot := 6, constantValue := 0 }]
  methods := #[k9m0, k9m1, k9m2, k9m3, k9m4, k9m5, k9m6, k9m7, k9m8, k9m9, k9m10, k9m11]
  instanceTypes := #[(.array .byte), .byte, .int, .boolean]
  staticTypes := #[.long, .boolean, (.array (.object "java/io/ObjectStreamField")), .char, (.object "java/util/Comparator"), .byte, .byte]
  resolved := Array.replicate 1451 none
  statics := some 0 }

def pool10 : Array CpInfo := pool [(6, .class_ 8), (1, u "java/lang/Object"), (0, u "<init>"), (0, u "()V"), (1, .class_ 14), (1, u "java/lang/StringUTF16"), (31, u "$assertionsDisabled"), (0, u "Z"), (13, u "HI_BYTE_SHIFT"), (0, u "I"), (2, u "LO_BYTE_SHIFT"), (49, .methodref 12 116), (0, .nameAndType 117 118), (0, u "compress"), (0, u "([CI[BII)I"), (3, u "([CII)[B"), (138, u "coderFromArrayLen"), (0, u "([BI)B"), (106, .class_ 371), (1, u "java/lang/StringUTF16$LinesSpliterator"), (58, u "MAX_LENGTH"), (196, .class_ 628), (0, u "java/lang/StringUTF16$CodePointsSpliterator"), (0, .class_ 630), (0, u "java/lang/StringUTF16$CharsSpliterator")] 4

def k10m0 : Method := { name := "<init>", desc := "()V", sig := { parameters := [], returnType := none }, accessFlags := 0, code := none }
def k10c1 : Code := { maxStack := 2, maxLocals := 2, code := jdk_52_method_15_code, exceptionTable := #[], attributes := #[] }
def k10m1 : Method := { name := "coderFromArrayLen", desc := "([BI)B", sig := { parameters := [(.array .byte), .int], returnType := some .byte }, accessFlags := 8, code := some k10c1 }
def k10c2 : Code := { maxStack := 5, maxLocals := 6, code := jdk_52_method_16_code, exceptionTable := #[], attributes := #[] }
def k10m2 : Method := { name := "compress", desc := "([CII)[B", sig := { parameters := [(.array .char), .int, .int], returnType := some (.array .byte) }, accessFlags := 9, code := some k10c2 }
def k10c3 : Code := { maxStack := 3, maxLocals := 7, code := jdk_52_method_21_code, exceptionTable := #[], attributes := #[] }
def k10m3 : Method := { name := "compress", desc := "([CI[BII)I", sig := { parameters := [(.array .char), .int, (.array .byte), .int, .int], returnType := some .int }, accessFlags := 9, code := some k10c3 }
/-- java/lang/StringUTF16 -/
def k10 : Class := { plain "java/lang/StringUTF16" (some 0) with
  accessFlags := 48
  interfaces := #[]
  cf := some (fileOf pool10 12 #[.nestMembers #[627, 629, 369]] #[{ accessFlags := 0, nameIndex := 9, descriptorIndex := 10, attributes := #[] }, { accessFlags := 8, nameIndex := 261, descriptorIndex := 262, attributes := #[] }, { accessFlags := 9, nameIndex := 117, descriptorIndex := 122, attributes := #[] }, { accessFlags := 9, nameIndex := 117, descriptorIndex := 118, attributes := #[] }] 48 6 #[] #[{ accessFlags := 26, nameIndex := 61, descriptorIndex := 62, attributes := #[] }, { accessFlags := 26, nameIndex := 65, descriptorIndex := 62, attributes := #[] }, { accessFlags := 24, nameIndex := 430, descriptorIndex := 62, attributes := #[] }, { accessFlags := 4120, nameIndex := 46, descriptorIndex := 47, attributes := #[] }])
  fields := #[{ name := "HI_BYTE_SHIFT", type := .int, accessFlags := 26, slot := 0, constantValue := 0 }, { name := "LO_BYTE_SHIFT", type := .int, accessFlags := 26, slot := 1, constantValue := 0 }, { name := "MAX_LENGTH", type := .int, accessFlags := 24, slot := 2, constantValue := 0 }, { name := "$assertionsDisabled", type := .boolean, accessFlags := 4120, slot := 3, constantValue := 0 }]
  methods := #[k10m0, k10m1, k10m2, k10m3]
  instanceTypes := #[]
  staticTypes := #[.int, .int, .int, .boolean]
  resolved := Array.replicate 635 none
  statics := none }

def pool11 : Array CpInfo := pool [(1, .class_ 2), (0, u "java/lang/String"), (1, .class_ 6), (1, u "java/lang/Object"), (0, u "<init>"), (0, u "()V"), (0, .methodref 1 10), (0, .nameAndType 11 12), (0, u "checkIndex"), (0, u "(II)V"), (1, .class_ 16), (1, u "java/lang/StringLatin1"), (21, .methodref 39 40), (0, .class_ 41), (0, .nameAndType 42 43), (0, u "java/lang/Math"), (0, u "min"), (0, u "(II)I"), (9, u "([BI)C"), (34, .methodref 14 89), (0, .nameAndType 90 91), (0, u "canEncode"), (0, u "(I)Z"), (0, .methodref 39 93), (0, .nameAndType 94 43), (0, u "max"), (0, .methodref 14 96), (0, .nameAndType 97 98), (0, u "indexOfChar"), (0, u "([BIII)I"), (2, u "indexOf"), (10, .methodref 1 113), (0, .nameAndType 7 114), (0, u "([BB)V"), (6, u "$assertionsDisabled"), (0, u "Z"), (8, .class_ 133), (1, u "java/util/Arrays"), (17, .string 152), (0, u ""), (43, u "newString"), (0, u "([BII)Ljava/lang/String;"), (23, .class_ 223), (1, u "java/lang/StringLatin1$LinesSpliterator"), (8, .methodref 131 233), (0, .nameAndType 234 235), (0, u "copyOfRange"), (0, u "([BII)[B"), (16, u "charAt"), (137, .class_ 391), (0, u "java/lang/StringLatin1$CharsSpliterator")] 3

def k11m0 : Method := { name := "<init>", desc := "()V", sig := { parameters := [], returnType := none }, accessFlags := 0, code := none }
def k11c1 : Code := { maxStack := 2, maxLocals := 2, code := jdk_43_method_2_code, exceptionTable := #[], attributes := #[] }
def k11m1 : Method := { name := "charAt", desc := "([BI)C", sig := { parameters := [(.array .byte), .int], returnType := some .char }, accessFlags := 9, code := some k11c1 }
def k11c2 : Code := { maxStack := 2, maxLocals := 1, code := jdk_43_method_4_code, exceptionTable := #[], attributes := #[] }
def k11m2 : Method := { name := "canEncode", desc := "(I)Z", sig := { parameters := [.int], returnType := some .boolean }, accessFlags := 9, code := some k11c2 }
def k11c3 : Code := { maxStack := 4, maxLocals := 4, code := jdk_43_method_22_code, exceptionTable := #[], attributes := #[] }
def k11m3 : Method := { name := "indexOf", desc := "([BIII)I", sig := { parameters := [(.array .byte), .int, .int, .int], returnType := some .int }, accessFlags := 9, code := some k11c3 }
def k11c4 : Code := { maxStack := 2, maxLocals := 6, code := jdk_43_method_23_code, exceptionTable := #[], attributes := #[] }
def k11m4 : Method := { name := "indexOfChar", desc := "([BIII)I", sig := { parameters := [(.array .byte), .int, .int, .int], returnType := some .int }, accessFlags := 10, code := some k11c4 }
def k11c5 : Code := { maxStack := 6, maxLocals := 3, code := jdk_43_method_47_code, exceptionTable := #[], attributes := #[] }
def k11m5 : Method := { name := "newString", desc := "([BII)Ljava/lang/String;", sig := { parameters := [(.array .byte), .int, .int], returnType := some (.object "java/lang/String") }, accessFlags := 9, code := some k11c5 }
/-- java/lang/StringLatin1 -/
def k11 : Class := { plain "java/lang/StringLatin1" (some 0) with
  accessFlags := 48
  interfaces := #[]
  cf := some (fileOf pool11 14 #[.nestMembers #[390, 221]] #[{ accessFlags := 0, nameIndex := 7, descriptorIndex := 8, attributes := #[] }, { accessFlags := 9, nameIndex := 252, descriptorIndex := 53, attributes := #[] }, { accessFlags := 9, nameIndex := 90, descriptorIndex := 91, attributes := #[] }, { accessFlags := 9, nameIndex := 101, descriptorIndex := 98, attributes := #[] }, { accessFlags := 10, nameIndex := 97, descriptorIndex := 98, attributes := #[] }, { accessFlags := 9, nameIndex := 196, descriptorIndex := 197, attributes := #[] }] 48 4 #[] #[{ accessFlags := 4120, nameIndex := 121, descriptorIndex := 122, attributes := #[] }])
  fields := #[{ name := "$assertionsDisabled", type := .boolean, accessFlags := 4120, slot := 0, constantValue := 0 }]
  methods := #[k11m0, k11m1, k11m2, k11m3, k11m4, k11m5]
  instanceTypes := #[]
  staticTypes := #[.boolean]
  resolved := Array.replicate 395 none
  statics := none }

def pool12 : Array CpInfo := pool [(1, .class_ 2), (0, u "java/lang/Math"), (1, .class_ 6), (1, u "java/lang/Object"), (0, u "<init>"), (0, u "()V"), (89, .class_ 100), (1, u "java/lang/Math$RandomNumberGeneratorHolder"), (71, u "negativeZeroFloatBits"), (0, u "J"), (2, u "negativeZeroDoubleBits"), (21, u "max"), (2, u "min"), (43, u "$assertionsDisabled"), (0, u "Z"), (88, u "(II)I"), (2, u "twoToTheDoubleScaleDown"), (0, u "D"), (4, u "twoToTheDoubleScaleUp"), (9, u "E"), (3, u "PI"), (2, u "TAU"), (2, u "DEGREES_TO_RADIANS"), (0, u "RADIANS_TO_DEGREES")] 94

def k12m0 : Method := { name := "<init>", desc := "()V", sig := { parameters := [], returnType := none }, accessFlags := 2, code := none }
def k12c1 : Code := { maxStack := 2, maxLocals := 2, code := jdk_29_method_65_code, exceptionTable := #[], attributes := #[] }
def k12m1 : Method := { name := "max", desc := "(II)I", sig := { parameters := [.int, .int], returnType := some .int }, accessFlags := 9, code := some k12c1 }
def k12c2 : Code := { maxStack := 2, maxLocals := 2, code := jdk_29_method_69_code, exceptionTable := #[], attributes := #[] }
def k12m2 : Method := { name := "min", desc := "(II)I", sig := { parameters := [.int, .int], returnType := some .int }, accessFlags := 9, code := some k12c2 }
/-- java/lang/Math -/
def k12 : Class := { plain "java/lang/Math" (some 0) with
  accessFlags := 49
  interfaces := #[]
  cf := some (fileOf pool12 1 #[.nestMembers #[98]] #[{ accessFlags := 2, nameIndex := 7, descriptorIndex := 8, attributes := #[] }, { accessFlags := 9, nameIndex := 198, descriptorIndex := 335, attributes := #[] }, { accessFlags := 9, nameIndex := 201, descriptorIndex := 335, attributes := #[] }] 49 4 #[] #[{ accessFlags := 25, nameIndex := 354, descriptorIndex := 339, attributes := #[] }, { accessFlags := 25, nameIndex := 358, descriptorIndex := 339, attributes := #[] }, { accessFlags := 25, nameIndex := 361, descriptorIndex := 339, attributes := #[] }, { accessFlags := 26, nameIndex := 364, descriptorIndex := 339, attributes := #[] }, { accessFlags := 26, nameIndex := 365, descriptorIndex := 339, attributes := #[] }, { accessFlags := 26, nameIndex := 172, descriptorIndex := 173, attributes := #[] }, { accessFlags := 26, nameIndex := 176, descriptorIndex := 173, attributes := #[] }, { accessFlags := 8, nameIndex := 344, descriptorIndex := 339, attributes := #[] }, { accessFlags := 8, nameIndex := 338, descriptorIndex := 339, attributes := #[] }, { accessFlags := 4120, nameIndex := 245, descriptorIndex := 246, attributes := #[] }])
  fields := #[{ name := "E", type := .double, accessFlags := 25, slot := 0, constantValue := 0 }, { name := "PI", type := .double, accessFlags := 25, slot := 1, constantValue := 0 }, { name := "TAU", type := .double, accessFlags := 25, slot := 2, constantValue := 0 }, { name := "DEGREES_TO_RADIANS", type := .double, accessFlags := 26, slot := 3, constantValue := 0 }, { name := "RADIANS_TO_DEGREES", type := .double, accessFlags := 26, slot := 4, constantValue := 0 }, { name := "negativeZeroFloatBits", type := .long, accessFlags := 26, slot := 5, constantValue := 0 }, { name := "negativeZeroDoubleBits", type := .long, accessFlags := 26, slot := 6, constantValue := 0 }, { name := "twoToTheDoubleScaleUp", type := .double, accessFlags := 8, slot := 7, constantValue := 0 }, { name := "twoToTheDoubleScaleDown", type := .double, accessFlags := 8, slot := 8, constantValue := 0 }, { name := "$assertionsDisabled", type := .boolean, accessFlags := 4120, slot := 9, constantValue := 0 }]
  methods := #[k12m0, k12m1, k12m2]
  instanceTypes := #[]
  staticTypes := #[.double, .double, .double, .double, .double, .long, .long, .double, .double, .boolean]
  resolved := Array.replicate 460 none
  statics := none }

def pool13 : Array CpInfo := pool [(2, .class_ 4), (1, u "java/lang/Object"), (0, u "<init>"), (0, u "()V"), (17, .class_ 26), (1, u "jdk/internal/util/Preconditions"), (6, u "checkIndex"), (13, u "checkFromToIndex"), (7, .class_ 56), (0, u "jdk/internal/util/Preconditions$4"), (57, .class_ 115), (0, u "jdk/internal/util/Preconditions$1"), (7, u "SIOOBE_FORMATTER"), (0, u "Ljava/util/function/BiFunction;"), (0, .class_ 126), (0, u "jdk/internal/util/Preconditions$2"), (3, u "AIOOBE_FORMATTER"), (0, .class_ 132), (0, u "jdk/internal/util/Preconditions$3"), (3, u "IOOBE_FORMATTER"), (41, u "(IILjava/util/function/BiFunction;)I"), (4, u "(IIILjava/util/function/BiFunction;)I")] 10

def k13m0 : Method := { name := "<init>", desc := "()V", sig := { parameters := [], returnType := none }, accessFlags := 1, code := none }
def k13c1 : Code := { maxStack := 3, maxLocals := 3, code := jdk_41_method_11_code, exceptionTable := #[], attributes := #[] }
def k13m1 : Method := { name := "checkIndex", desc := "(IILjava/util/function/BiFunction;)I", sig := { parameters := [.int, .int, (.object "java/util/function/BiFunction")], returnType := some .int }, accessFlags := 9, code := some k13c1 }
def k13c2 : Code := { maxStack := 4, maxLocals := 4, code := jdk_41_method_12_code, exceptionTable := #[], attributes := #[] }
def k13m2 : Method := { name := "checkFromToIndex", desc := "(IIILjava/util/function/BiFunction;)I", sig := { parameters := [.int, .int, .int, (.object "java/util/function/BiFunction")], returnType := some .int }, accessFlags := 9, code := some k13c2 }
/-- jdk/internal/util/Preconditions -/
def k13 : Class := { plain "jdk/internal/util/Preconditions" (some 0) with
  accessFlags := 33
  interfaces := #[]
  cf := some (fileOf pool13 24 #[.nestMembers #[55, 131, 125, 114]] #[{ accessFlags := 1, nameIndex := 5, descriptorIndex := 6, attributes := #[] }, { accessFlags := 9, nameIndex := 33, descriptorIndex := 178, attributes := #[] }, { accessFlags := 9, nameIndex := 47, descriptorIndex := 183, attributes := #[] }] 33 2 #[] #[{ accessFlags := 25, nameIndex := 123, descriptorIndex := 124, attributes := #[] }, { accessFlags := 25, nameIndex := 130, descriptorIndex := 124, attributes := #[] }, { accessFlags := 25, nameIndex := 136, descriptorIndex := 124, attributes := #[] }])
  fields := #[{ name := "SIOOBE_FORMATTER", type := (.object "java/util/function/BiFunction"), accessFlags := 25, slot := 0, constantValue := 0 }, { name := "AIOOBE_FORMATTER", type := (.object "java/util/function/BiFunction"), accessFlags := 25, slot := 1, constantValue := 0 }, { name := "IOOBE_FORMATTER", type := (.object "java/util/function/BiFunction"), accessFlags := 25, slot := 2, constantValue := 0 }]
  methods := #[k13m0, k13m1, k13m2]
  instanceTypes := #[]
  staticTypes := #[(.object "java/util/function/BiFunction"), (.object "java/util/function/BiFunction"), (.object "java/util/function/BiFunction")]
  resolved := Array.replicate 194 none
  statics := some 1 }

def pool14 : Array CpInfo := pool [(2, .class_ 4), (1, u "java/lang/Object"), (0, u "<init>"), (0, u "()V"), (7, .class_ 16), (1, u "java/util/Arrays"), (57, .class_ 76), (1, u "java/util/Arrays$NaturalOrder"), (36, .class_ 115), (1, u "java/util/Arrays$LegacyMergeSort"), (1, u "Z"), (21, u "copyOfRange"), (10, .methodref 151 152), (0, .class_ 153), (0, .nameAndType 154 155), (0, u "java/lang/System"), (0, u "arraycopy"), (0, u "(Ljava/lang/Object;ILjava/lang/Object;II)V"), (148, .methodref 305 306), (0, .class_ 307), (0, .nameAndType 308 309), (0, u "java/lang/Math"), (0, u "min"), (0, u "(II)I"), (29, .methodref 14 340), (0, .nameAndType 341 342), (0, u "copyOfRangeByte"), (0, u "([BII)[B"), (0, .methodref 14 344), (0, .nameAndType 345 346), (0, u "checkLength"), (0, u "(II)V"), (28, .class_ 376), (0, u "java/util/Arrays$ArrayList"), (68, u "$assertionsDisabled"), (269, u "MIN_ARRAY_SORT_GRAN"), (0, u "I"), (2, u "INSERTIONSORT_THRESHOLD"), (255, .class_ 976), (0, u "java/util/Arrays$ArrayItr")] 52

def k14m0 : Method := { name := "<init>", desc := "()V", sig := { parameters := [], returnType := none }, accessFlags := 2, code := none }
def k14c1 : Code := { maxStack := 4, maxLocals := 2, code := jdk_65_method_131_code, exceptionTable := #[], attributes := #[] }
def k14m1 : Method := { name := "checkLength", desc := "(II)V", sig := { parameters := [.int, .int], returnType := none }, accessFlags := 10, code := some k14c1 }
def k14c2 : Code := { maxStack := 3, maxLocals := 3, code := jdk_65_method_132_code, exceptionTable := #[], attributes := #[] }
def k14m2 : Method := { name := "copyOfRange", desc := "([BII)[B", sig := { parameters := [(.array .byte), .int, .int], returnType := some (.array .byte) }, accessFlags := 9, code := some k14c2 }
def k14c3 : Code := { maxStack := 6, maxLocals := 5, code := jdk_65_method_133_code, exceptionTable := #[], attributes := #[] }
def k14m3 : Method := { name := "copyOfRangeByte", desc := "([BII)[B", sig := { parameters := [(.array .byte), .int, .int], returnType := some (.array .byte) }, accessFlags := 10, code := some k14c3 }
/-- java/util/Arrays -/
def k14 : Class := { plain "java/util/Arrays" (some 0) with
  accessFlags := 49
  interfaces := #[]
  cf := some (fileOf pool14 14 #[.nestMembers #[975, 375, 113, 74]] #[{ accessFlags := 2, nameIndex := 5, descriptorIndex := 6, attributes := #[] }, { accessFlags := 10, nameIndex := 345, descriptorIndex := 346, attributes := #[] }, { accessFlags := 9, nameIndex := 139, descriptorIndex := 342, attributes := #[] }, { accessFlags := 10, nameIndex := 341, descriptorIndex := 342, attributes := #[] }] 49 2 #[] #[{ accessFlags := 26, nameIndex := 715, descriptorIndex := 716, attributes := #[] }, { accessFlags := 26, nameIndex := 719, descriptorIndex := 716, attributes := #[] }, { accessFlags := 4120, nameIndex := 445, descriptorIndex := 117, attributes := #[] }])
  fields := #[{ name := "MIN_ARRAY_SORT_GRAN", type := .int, accessFlags := 26, slot := 0, constantValue := 0 }, { name := "INSERTIONSORT_THRESHOLD", type := .int, accessFlags := 26, slot := 1, constantValue := 0 }, { name := "$assertionsDisabled", type := .boolean, accessFlags := 4120, slot := 2, constantValue := 0 }]
  methods := #[k14m0, k14m1, k14m2, k14m3]
  instanceTypes := #[]
  staticTypes := #[.int, .int, .boolean]
  resolved := Array.replicate 1029 none
  statics := none }

def pool15 : Array CpInfo := pool [(2, .class_ 4), (1, u "java/lang/Object"), (0, u "<init>"), (0, u "()V"), (1, .class_ 10), (1, u "java/lang/System"), (0, u "allowSecurityManager"), (0, u "I"), (16, u "cons"), (0, u "Ljava/io/Console;"), (77, .class_ 110), (1, u "java/lang/System$CallersHolder"), (43, u "initialErrStream"), (0, u "Ljava/io/PrintStream;"), (19, u "security"), (0, u "Ljava/lang/SecurityManager;"), (31, .class_ 209), (0, u "java/lang/System$1"), (7, u "props"), (0, u "Ljava/util/Properties;"), (2, u "lineSeparator"), (0, u "Ljava/lang/String;"), (96, .class_ 321), (1, u "java/lang/System$LoggerFinder"), (5, .class_ 328), (0, u "java/lang/System$Logger"), (67, u "err"), (2, u "out"), (91, u "notSupportedJnuEncoding"), (15, u "in"), (17, u "initialIn"), (0, u "Ljava/io/InputStream;"), (35, u "bootLayer"), (0, u "Ljava/lang/ModuleLayer;"), (99, .class_ 664), (0, u "java/lang/System$2"), (9, u "NEVER"), (2, u "MAYBE"), (49, u "arraycopy"), (0, u "(Ljava/lang/Object;ILjava/lang/Object;II)V"), (72, .class_ 802), (0, u "java/lang/System$Logger$Level")] 31

def k15m0 : Method := { name := "<init>", desc := "()V", sig := { parameters := [], returnType := none }, accessFlags := 2, code := none }
def k15m1 : Method := { name := "arraycopy", desc := "(Ljava/lang/Object;ILjava/lang/Object;II)V", sig := { parameters := [(.object "java/lang/Object"), .int, (.object "java/lang/Object"), .int, .int], returnType := none }, accessFlags := 265, code := none }
/-- java/lang/System -/
def k15 : Class := { plain "java/lang/System" (some 0) with
  accessFlags := 49
  interfaces := #[]
  cf := some (fileOf pool15 8 #[.nestMembers #[319, 327, 801, 108, 663, 208]] #[{ accessFlags := 2, nameIndex := 5, descriptorIndex := 6, attributes := #[] }, { accessFlags := 265, nameIndex := 727, descriptorIndex := 728, attributes := #[] }] 49 2 #[] #[{ accessFlags := 25, nameIndex := 507, descriptorIndex := 526, attributes := #[] }, { accessFlags := 25, nameIndex := 399, descriptorIndex := 155, attributes := #[] }, { accessFlags := 25, nameIndex := 396, descriptorIndex := 155, attributes := #[] }, { accessFlags := 10, nameIndex := 525, descriptorIndex := 526, attributes := #[] }, { accessFlags := 26, nameIndex := 674, descriptorIndex := 12, attributes := #[] }, { accessFlags := 26, nameIndex := 677, descriptorIndex := 12, attributes := #[] }, { accessFlags := 10, nameIndex := 11, descriptorIndex := 12, attributes := #[] }, { accessFlags := 74, nameIndex := 175, descriptorIndex := 176, attributes := #[] }, { accessFlags := 10, nameIndex := 491, descriptorIndex := 222, attributes := #[] }, { accessFlags := 74, nameIndex := 29, descriptorIndex := 30, attributes := #[] }, { accessFlags := 74, nameIndex := 154, descriptorIndex := 155, attributes := #[] }, { accessFlags := 10, nameIndex := 217, descriptorIndex := 218, attributes := #[] }, { accessFlags := 10, nameIndex := 221, descriptorIndex := 222, attributes := #[] }, { accessFlags := 8, nameIndex := 562, descriptorIndex := 563, attributes := #[] }])
  fields := #[{ name := "in", type := (.object "java/io/InputStream"), accessFlags := 25, slot := 0, constantValue := 0 }, { name := "out", type := (.object "java/io/PrintStream"), accessFlags := 25, slot := 1, constantValue := 0 }, { name := "err", type := (.object "java/io/PrintStream"), accessFlags := 25, slot := 2, constantValue := 0 }, { name := "initialIn", type := (.object "java/io/InputStream"), accessFlags := 10, slot := 3, constantValue := 0 }, { name := "NEVER", type := .int, accessFlags := 26, slot := 4, constantValue := 0 }, { name := "MAYBE", type := .int, accessFlags := 26, slot := 5, constantValue := 0 }, { name := "allowSecurityManager", type := .int, accessFlags := 10, slot := 6, constantValue := 0 }, { name := "security", type := (.object "java/lang/SecurityManager"), accessFlags := 74, slot := 7, constantValue := 0 }, { name := "notSupportedJnuEncoding", type := (.object "java/lang/String"), accessFlags := 10, slot := 8, constantValue := 0 }, { name := "cons", type := (.object "java/io/Console"), accessFlags := 74, slot := 9, constantValue := 0 }, { name := "initialErrStream", type := (.object "java/io/PrintStream"), accessFlags := 74, slot := 10, constantValue := 0 }, { name := "props", type := (.object "java/util/Properties"), accessFlags := 10, slot := 11, constantValue := 0 }, { name := "lineSeparator", type := (.object "java/lang/String"), accessFlags := 10, slot := 12, constantValue := 0 }, { name := "bootLayer", type := (.object "java/lang/ModuleLayer"), accessFlags := 8, slot := 13, constantValue := 0 }]
  methods := #[k15m0, k15m1]
  instanceTypes := #[]
  staticTypes := #[(.object "java/io/InputStream"), (.object "java/io/PrintStream"), (.object "java/io/PrintStream"), (.object "java/io/InputStream"), .int, .int, .int, (.object "java/lang/SecurityManager"), (.object "java/lang/String"), (.object "java/io/Console"), (.object "java/io/PrintStream"), (.object "java/util/Properties"), (.object "java/lang/String"), (.object "java/lang/ModuleLayer")]
  resolved := Array.replicate 834 none
  statics := none }

def pool16 : Array CpInfo := pool [(9, u "<init>"), (6, .class_ 18), (1, u "java/lang/Object"), (0, u "()V"), (1, .class_ 23), (1, u "jdk/internal/util/ArraysSupport"), (0, u "LOG2_ARRAY_LONG_INDEX_SCALE"), (0, u "I"), (2, u "U"), (0, u "Ljdk/internal/misc/Unsafe;"), (8, u "BIG_ENDIAN"), (0, u "Z"), (8, u "LOG2_BYTE_BIT_SIZE"), (4, u "LOG2_ARRAY_INT_INDEX_SCALE"), (54, u "JLA"), (0, u "Ljdk/internal/access/JavaLangAccess;"), (11, u "LOG2_ARRAY_BOOLEAN_INDEX_SCALE"), (9, u "LOG2_ARRAY_BYTE_INDEX_SCALE"), (5, u "LOG2_ARRAY_CHAR_INDEX_SCALE"), (5, u "LOG2_ARRAY_SHORT_INDEX_SCALE"), (18, u "LOG2_ARRAY_FLOAT_INDEX_SCALE"), (24, u "LOG2_ARRAY_DOUBLE_INDEX_SCALE"), (89, u "T_BOOLEAN"), (2, u "T_CHAR"), (1, u "T_FLOAT"), (1, u "T_DOUBLE"), (1, u "T_BYTE"), (1, u "T_SHORT"), (1, u "T_INT"), (1, u "T_LONG"), (1, u "SOFT_MAX_ARRAY_LENGTH")] 83

def k16m0 : Method := { name := "<init>", desc := "()V", sig := { parameters := [], returnType := none }, accessFlags := 2, code := none }
/-- jdk/internal/util/ArraysSupport -/
def k16 : Class := { plain "jdk/internal/util/ArraysSupport" (some 0) with
  accessFlags := 33
  interfaces := #[]
  cf := some (fileOf pool16 21 #[] #[{ accessFlags := 2, nameIndex := 9, descriptorIndex := 19, attributes := #[] }] 33 16 #[] #[{ accessFlags := 24, nameIndex := 28, descriptorIndex := 29, attributes := #[] }, { accessFlags := 26, nameIndex := 38, descriptorIndex := 39, attributes := #[] }, { accessFlags := 25, nameIndex := 121, descriptorIndex := 25, attributes := #[] }, { accessFlags := 25, nameIndex := 131, descriptorIndex := 25, attributes := #[] }, { accessFlags := 25, nameIndex := 137, descriptorIndex := 25, attributes := #[] }, { accessFlags := 25, nameIndex := 143, descriptorIndex := 25, attributes := #[] }, { accessFlags := 25, nameIndex := 53, descriptorIndex := 25, attributes := #[] }, { accessFlags := 25, nameIndex := 24, descriptorIndex := 25, attributes := #[] }, { accessFlags := 25, nameIndex := 162, descriptorIndex := 25, attributes := #[] }, { accessFlags := 25, nameIndex := 187, descriptorIndex := 25, attributes := #[] }, { accessFlags := 26, nameIndex := 48, descriptorIndex := 25, attributes := #[] }, { accessFlags := 25, nameIndex := 277, descriptorIndex := 25, attributes := #[] }, { accessFlags := 25, nameIndex := 280, descriptorIndex := 25, attributes := #[] }, { accessFlags := 25, nameIndex := 282, descriptorIndex := 25, attributes := #[] }, { accessFlags := 25, nameIndex := 284, descriptorIndex := 25, attributes := #[] }, { accessFlags := 25, nameIndex := 286, descriptorIndex := 25, attributes := #[] }, { accessFlags := 25, nameIndex := 288, descriptorIndex := 25, attributes := #[] }, { accessFlags := 25, nameIndex := 290, descriptorIndex := 25, attributes := #[] }, { accessFlags := 25, nameIndex := 292, descriptorIndex := 25, attributes := #[] }, { accessFlags := 26, nameIndex := 108, descriptorIndex := 109, attributes := #[] }, { accessFlags := 25, nameIndex := 294, descriptorIndex := 25, attributes := #[] }])
  fields := #[{ name := "U", type := (.object "jdk/internal/misc/Unsafe"), accessFlags := 24, slot := 0, constantValue := 0 }, { name := "BIG_ENDIAN", type := .boolean, accessFlags := 26, slot := 1, constantValue := 0 }, { name := "LOG2_ARRAY_BOOLEAN_INDEX_SCALE", type := .int, accessFlags := 25, slot := 2, constantValue := 0 }, { name := "LOG2_ARRAY_BYTE_INDEX_SCALE", type := .int, accessFlags := 25, slot := 3, constantValue := 0 }, { name := "LOG2_ARRAY_CHAR_INDEX_SCALE", type := .int, accessFlags := 25, slot := 4, constantValue := 0 }, { name := "LOG2_ARRAY_SHORT_INDEX_SCALE", type := .int, accessFlags := 25, slot := 5, constantValue := 0 }, { name := "LOG2_ARRAY_INT_INDEX_SCALE", type := .int, accessFlags := 25, slot := 6, constantValue := 0 }, { name := "LOG2_ARRAY_LONG_INDEX_SCALE", type := .int, accessFlags := 25, slot := 7, constantValue := 0 }, { name := "LOG2_ARRAY_FLOAT_INDEX_SCALE", type := .int, accessFlags := 25, slot := 8, constantValue := 0 }, { name := "LOG2_ARRAY_DOUBLE_INDEX_SCALE", type := .int, accessFlags := 25, slot := 9, constantValue := 0 }, { name := "LOG2_BYTE_BIT_SIZE", type := .int, accessFlags := 26, slot := 10, constantValue := 0 }, { name := "T_BOOLEAN", type := .int, accessFlags := 25, slot := 11, constantValue := 0 }, { name := "T_CHAR", type := .int, accessFlags := 25, slot := 12, constantValue := 0 }, { name := "T_FLOAT", type := .int, accessFlags := 25, slot := 13, constantValue := 0 }, { name := "T_DOUBLE", type := .int, accessFlags := 25, slot := 14, constantValue := 0 }, { name := "T_BYTE", type := .int, accessFlags := 25, slot := 15, constantValue := 0 }, { name := "T_SHORT", type := .int, accessFlags := 25, slot := 16, constantValue := 0 }, { name := "T_INT", type := .int, accessFlags := 25, slot := 17, constantValue := 0 }, { name := "T_LONG", type := .int, accessFlags := 25, slot := 18, constantValue := 0 }, { name := "JLA", type := (.object "jdk/internal/access/JavaLangAccess"), accessFlags := 26, slot := 19, constantValue := 0 }, { name := "SOFT_MAX_ARRAY_LENGTH", type := .int, accessFlags := 25, slot := 20, constantValue := 0 }]
  methods := #[k16m0]
  instanceTypes := #[]
  staticTypes := #[(.object "jdk/internal/misc/Unsafe"), .boolean, .int, .int, .int, .int, .int, .int, .int, .int, .int, .int, .int, .int, .int, .int, .int, .int, .int, (.object "jdk/internal/access/JavaLangAccess"), .int]
  resolved := Array.replicate 378 none
  statics := none }

def pool17 : Array CpInfo := pool [(1, u "java/lang/Cloneable"), (0, .class_ 1), (0, u "java/lang/Object"), (0, .class_ 3)] 3

/-- java/lang/Cloneable -/
def k17 : Class := { plain "java/lang/Cloneable" (some 0) with
  accessFlags := 1537
  interfaces := #[]
  cf := some (fileOf pool17 2 #[] #[] 1537 4 #[] #[])
  fields := #[]
  methods := #[]
  instanceTypes := #[]
  staticTypes := #[]
  resolved := Array.replicate 8 none
  statics := none }

/-- the primitive byte -/
def k18 : Class := { plain "byte" none with kind := .primitive 'B', accessFlags := 0x411 }
/-- [B -/
def k19 : Class := { plain "[B" (some 0) with kind := .array 18 .byte, interfaces := #[17, 4], accessFlags := 1041 }

/-- the primitive char -/
def k20 : Class := { plain "char" none with kind := .primitive 'C', accessFlags := 0x411 }
/-- [C -/
def k21 : Class := { plain "[C" (some 0) with kind := .array 20 .char, interfaces := #[17, 4], accessFlags := 1041 }

/-- the primitive int -/
def k22 : Class := { plain "int" none with kind := .primitive 'I', accessFlags := 0x411 }
/-- [I -/
def k23 : Class := { plain "[I" (some 0) with kind := .array 22 .int, interfaces := #[17, 4], accessFlags := 1041 }

def heap : Heap := #[{ cls := 9, slots := #[.long 0, .int 1, .null, .int 0, .null, .int 0, .int 0], vm := .statics 9 },
  { cls := 13, slots := #[.null, .null, .null], vm := .statics 13 }]
def classes : Array Class := #[k0, k1, k2, k3, k4, k5, k6, k7, k8, k9, k10, k11, k12, k13, k14, k15, k16, k17, k18, k19, k20, k21, k22, k23]
def interned : List (Array UInt16 × Addr) := []
def slotsUsed : Nat := 10
def theMethod : MethodId := ⟨1, 2⟩
def args0 : Array Value := #[.int 3, .int 5, .int 6, .int 8]
def aboutOver (below : List Frame) : State where
  vm := { classes := classes, interned := interned.toArray }
  heap := heap
  slotsUsed := slotsUsed
  threads := #[{ frames := .invoking theMethod args0 :: below }]
def below0 : List Frame := [.native { method := ⟨0, 0⟩, args := #[] }]
def about1 : State := aboutOver below0
def p0 : Program := .bare "" "" ""
def e0 : Env := launch0.env 0 0 0
theorem w_frames : about1.frames = Frame.invoking theMethod args0 :: below0 := rfl
set_option maxRecDepth 65536 in
theorem w_args : argsFit about1.vm theMethod args0 = true := by decide +kernel
set_option maxRecDepth 65536 in
theorem w_heap : heapFits about1 = true := by decide +kernel
set_option maxRecDepth 65536 in
theorem w_runnable : about1.curStatus? = some .runnable := by decide +kernel
set_option maxRecDepth 65536 in
theorem w_alone : about1.alone = true := by decide +kernel
set_option maxRecDepth 65536 in
theorem w_named : about1.methodNamed? x = some theMethod := by decide +kernel
set_option maxRecDepth 65536 in
theorem w_hears : about1.hears theMethod below0 = true := by decide +kernel
set_option maxRecDepth 65536 in
theorem w_ripe : about1.ripe theMethod args0 below0 = true := by decide +kernel
theorem w_running : about1.status = .running := rfl
set_option maxRecDepth 65536 in
theorem w_room : about1.hasRoom e0.platform room_1 = true :=
  launch0.hasRoom_least _ room_1 (by decide +kernel) (by decide +kernel) (by decide +kernel) (by decide +kernel) (by decide +kernel) (by decide +kernel)
theorem allAtoms_all (ts : List Jvm.Cond) (a : Array Jvm.Value) (st : Jvm.State) : (allAtoms ts).before a st = ts.all (fun c => c.before a st) := by
  induction ts with
  | nil => rfl
  | cons c t ih =>
    show (Jvm.Cond.and c (allAtoms t)).before a st = _
    rw [Jvm.Cond.before_and, ih, List.all_cons]
def words1 : List Jvm.Cond := Jvm.Cond.code x code maxLocals ret :: tables_1
/-- a 'code' word, met by the world's own term for the bytes: nothing is compared byte by byte -/
theorem code_word {y : MethodName} {bytes : ByteArray} {mx : Nat} {rt : Option FieldType} {a : Array Value} {s : State} {m : MethodId} {meth : Method} {c : Code} (h1 : s.methodNamed? y = some m) (h2 : s.vm.method? m = some meth) (h3 : meth.code = some c) (h4 : c.code = bytes)
    (h5 : (c.maxLocals == mx && c.exceptionTable.isEmpty && decide (c.maxStack ≤ mostOperands) && decide (meth.sig.returnType = rt) && !meth.locks && decide (parseMethodDescriptor y.desc = some meth.sig)) = true) : (Jvm.Cond.code y bytes mx rt).before a s = true := by
  simp only [Bool.and_eq_true, beq_iff_eq, Bool.not_eq_true', decide_eq_true_eq] at h5
  obtain ⟨⟨⟨⟨⟨g1, g2⟩, g3⟩, g4⟩, g5⟩, g6⟩ := h5
  simp [Cond.before, Cond.holds, Cond.value, h1, h2, h3, h4, g1, g2, g3, g4, g5, g6]
def isCode : Jvm.Cond → Bool
  | .code _ _ _ _ => true
  | _ => false
theorem all_split {L : List Jvm.Cond} {P : Jvm.Cond → Bool} (h1 : L.all (fun c => isCode c || P c) = true) (h2 : ∀ c ∈ L.filter isCode, P c = true) : L.all P = true := by
  refine List.all_eq_true.mpr fun c hc => ?_
  have h := List.all_eq_true.mp h1 c hc
  rcases Bool.eq_false_or_eq_true (isCode c) with hi | hi
  · exact h2 c (List.mem_filter.mpr ⟨hc, hi⟩)
  · simpa [hi] using h
set_option maxRecDepth 65536 in
theorem w_c0 : (Jvm.Cond.code x code maxLocals ret).before args0 about1 = true := code_word (m := ⟨1, 2⟩) (meth := k1m2) (c := k1c2) (by decide +kernel) rfl rfl rfl (by decide +kernel)
set_option maxRecDepth 65536 in
theorem w_c1 : (Jvm.Cond.code ({ cls := "com/example/ianus/ianus/server/LiteralPathFirstSegmentPinLaw", name := "ch", desc := "(I)C" } : Jvm.MethodName) method_2_code (1 : Nat) (Option.some Jvm.ClassFile.FieldType.char)).before args0 about1 = true := code_word (m := ⟨1, 1⟩) (meth := k1m1) (c := k1c1) (by decide +kernel) rfl rfl rfl (by decide +kernel)
set_option maxRecDepth 65536 in
theorem w_c2 : (Jvm.Cond.code ({ cls := "java/lang/String", name := "<init>", desc := "([C)V" } : Jvm.MethodName) jdk_42_method_3_code (2 : Nat) (Option.none : Option Jvm.ClassFile.FieldType)).before args0 about1 = true := code_word (m := ⟨9, 1⟩) (meth := k9m1) (c := k9c1) (by decide +kernel) rfl rfl rfl (by decide +kernel)
set_option maxRecDepth 65536 in
theorem w_c3 : (Jvm.Cond.code ({ cls := "java/lang/String", name := "<init>", desc := "([CIILjava/lang/Void;)V" } : Jvm.MethodName) jdk_42_method_149_code (6 : Nat) (Option.none : Option Jvm.ClassFile.FieldType)).before args0 about1 = true := code_word (m := ⟨9, 6⟩) (meth := k9m6) (c := k9c6) (by decide +kernel) rfl rfl rfl (by decide +kernel)
set_option maxRecDepth 65536 in
theorem w_c4 : (Jvm.Cond.code ({ cls := "java/lang/Object", name := "<init>", desc := "()V" } : Jvm.MethodName) object_method_1_code (1 : Nat) (Option.none : Option Jvm.ClassFile.FieldType)).before args0 about1 = true := code_word (m := ⟨0, 0⟩) (meth := k0m0) (c := k0c0) (by decide +kernel) rfl rfl rfl (by decide +kernel)
set_option maxRecDepth 65536 in
theorem w_c5 : (Jvm.Cond.code ({ cls := "java/lang/StringUTF16", name := "compress", desc := "([CII)[B" } : Jvm.MethodName) jdk_52_method_16_code (6 : Nat) (Option.some (Jvm.ClassFile.FieldType.array Jvm.ClassFile.FieldType.byte))).before args0 about1 = true := code_word (m := ⟨10, 2⟩) (meth := k10m2) (c := k10c2) (by decide +kernel) rfl rfl rfl (by decide +kernel)
set_option maxRecDepth 65536 in
theorem w_c6 : (Jvm.Cond.code ({ cls := "java/lang/StringUTF16", name := "compress", desc := "([CI[BII)I" } : Jvm.MethodName) jdk_52_method_21_code (7 : Nat) (Option.some Jvm.ClassFile.FieldType.int)).before args0 about1 = true := code_word (m := ⟨10, 3⟩) (meth := k10m3) (c := k10c3) (by decide +kernel) rfl rfl rfl (by decide +kernel)
set_option maxRecDepth 65536 in
theorem w_c7 : (Jvm.Cond.code ({ cls := "java/lang/StringUTF16", name := "coderFromArrayLen", desc := "([BI)B" } : Jvm.MethodName) jdk_52_method_15_code (2 : Nat) (Option.some Jvm.ClassFile.FieldType.byte)).before args0 about1 = true := code_word (m := ⟨10, 1⟩) (meth := k10m1) (c := k10c1) (by decide +kernel) rfl rfl rfl (by decide +kernel)
set_option maxRecDepth 65536 in
theorem w_c8 : (Jvm.Cond.code ({ cls := "com/example/ianus/ianus/server/LiteralPath", name := "<init>", desc := "(Ljava/lang/String;)V" } : Jvm.MethodName) prog_15_method_1_code (2 : Nat) (Option.none : Option Jvm.ClassFile.FieldType)).before args0 about1 = true := code_word (m := ⟨3, 0⟩) (meth := k3m0) (c := k3c0) (by decide +kernel) rfl rfl rfl (by decide +kernel)
set_option maxRecDepth 65536 in
theorem w_c9 : (Jvm.Cond.code ({ cls := "java/lang/Record", name := "<init>", desc := "()V" } : Jvm.MethodName) jdk_30_method_1_code (1 : Nat) (Option.none : Option Jvm.ClassFile.FieldType)).before args0 about1 = true := code_word (m := ⟨2, 0⟩) (meth := k2m0) (c := k2c0) (by decide +kernel) rfl rfl rfl (by decide +kernel)
set_option maxRecDepth 65536 in
theorem w_c10 : (Jvm.Cond.code ({ cls := "com/example/ianus/ianus/server/LiteralPath", name := "firstSegment", desc := "()Ljava/lang/String;" } : Jvm.MethodName) prog_15_method_3_code (2 : Nat) (Option.some (Jvm.ClassFile.FieldType.object "java/lang/String"))).before args0 about1 = true := code_word (m := ⟨3, 1⟩) (meth := k3m1) (c := k3c1) (by decide +kernel) rfl rfl rfl (by decide +kernel)
set_option maxRecDepth 65536 in
theorem w_c11 : (Jvm.Cond.code ({ cls := "java/lang/String", name := "indexOf", desc := "(II)I" } : Jvm.MethodName) jdk_42_method_80_code (3 : Nat) (Option.some Jvm.ClassFile.FieldType.int)).before args0 about1 = true := code_word (m := ⟨9, 4⟩) (meth := k9m4) (c := k9c4) (by decide +kernel) rfl rfl rfl (by decide +kernel)
set_option maxRecDepth 65536 in
theorem w_c12 : (Jvm.Cond.code ({ cls := "java/lang/String", name := "isLatin1", desc := "()Z" } : Jvm.MethodName) jdk_42_method_154_code (1 : Nat) (Option.some Jvm.ClassFile.FieldType.boolean)).before args0 about1 = true := code_word (m := ⟨9, 9⟩) (meth := k9m9) (c := k9c9) (by decide +kernel) rfl rfl rfl (by decide +kernel)
set_option maxRecDepth 65536 in
theorem w_c13 : (Jvm.Cond.code ({ cls := "java/lang/String", name := "length", desc := "()I" } : Jvm.MethodName) jdk_42_method_54_code (1 : Nat) (Option.some Jvm.ClassFile.FieldType.int)).before args0 about1 = true := code_word (m := ⟨9, 2⟩) (meth := k9m2) (c := k9c2) (by decide +kernel) rfl rfl rfl (by decide +kernel)
set_option maxRecDepth 65536 in
theorem w_c14 : (Jvm.Cond.code ({ cls := "java/lang/String", name := "coder", desc := "()B" } : Jvm.MethodName) jdk_42_method_152_code (1 : Nat) (Option.some Jvm.ClassFile.FieldType.byte)).before args0 about1 = true := code_word (m := ⟨9, 8⟩) (meth := k9m8) (c := k9c8) (by decide +kernel) rfl rfl rfl (by decide +kernel)
set_option maxRecDepth 65536 in
theorem w_c15 : (Jvm.Cond.code ({ cls := "java/lang/StringLatin1", name := "indexOf", desc := "([BIII)I" } : Jvm.MethodName) jdk_43_method_22_code (4 : Nat) (Option.some Jvm.ClassFile.FieldType.int)).before args0 about1 = true := code_word (m := ⟨11, 3⟩) (meth := k11m3) (c := k11c3) (by decide +kernel) rfl rfl rfl (by decide +kernel)
set_option maxRecDepth 65536 in
theorem w_c16 : (Jvm.Cond.code ({ cls := "java/lang/StringLatin1", name := "canEncode", desc := "(I)Z" } : Jvm.MethodName) jdk_43_method_4_code (1 : Nat) (Option.some Jvm.ClassFile.FieldType.boolean)).before args0 about1 = true := code_word (m := ⟨11, 2⟩) (meth := k11m2) (c := k11c2) (by decide +kernel) rfl rfl rfl (by decide +kernel)
set_option maxRecDepth 65536 in
theorem w_c17 : (Jvm.Cond.code ({ cls := "java/lang/Math", name := "max", desc := "(II)I" } : Jvm.MethodName) jdk_29_method_65_code (2 : Nat) (Option.some Jvm.ClassFile.FieldType.int)).before args0 about1 = true := code_word (m := ⟨12, 1⟩) (meth := k12m1) (c := k12c1) (by decide +kernel) rfl rfl rfl (by decide +kernel)
set_option maxRecDepth 65536 in
theorem w_c18 : (Jvm.Cond.code ({ cls := "java/lang/Math", name := "min", desc := "(II)I" } : Jvm.MethodName) jdk_29_method_69_code (2 : Nat) (Option.some Jvm.ClassFile.FieldType.int)).before args0 about1 = true := code_word (m := ⟨12, 2⟩) (meth := k12m2) (c := k12c2) (by decide +kernel) rfl rfl rfl (by decide +kernel)
set_option maxRecDepth 65536 in
theorem w_c19 : (Jvm.Cond.code ({ cls := "java/lang/String", name := "substring", desc := "(II)Ljava/lang/String;" } : Jvm.MethodName) jdk_42_method_92_code (5 : Nat) (Option.some (Jvm.ClassFile.FieldType.object "java/lang/String"))).before args0 about1 = true := code_word (m := ⟨9, 5⟩) (meth := k9m5) (c := k9c5) (by decide +kernel) rfl rfl rfl (by decide +kernel)
set_option maxRecDepth 65536 in
theorem w_c20 : (Jvm.Cond.code ({ cls := "java/lang/String", name := "checkBoundsBeginEnd", desc := "(III)V" } : Jvm.MethodName) jdk_42_method_158_code (3 : Nat) (Option.none : Option Jvm.ClassFile.FieldType)).before args0 about1 = true := code_word (m := ⟨9, 11⟩) (meth := k9m11) (c := k9c11) (by decide +kernel) rfl rfl rfl (by decide +kernel)
set_option maxRecDepth 65536 in
theorem w_c21 : (Jvm.Cond.code ({ cls := "jdk/internal/util/Preconditions", name := "checkFromToIndex", desc := "(IIILjava/util/function/BiFunction;)I" } : Jvm.MethodName) jdk_41_method_12_code (4 : Nat) (Option.some Jvm.ClassFile.FieldType.int)).before args0 about1 = true := code_word (m := ⟨13, 2⟩) (meth := k13m2) (c := k13c2) (by decide +kernel) rfl rfl rfl (by decide +kernel)
set_option maxRecDepth 65536 in
theorem w_c22 : (Jvm.Cond.code ({ cls := "java/lang/StringLatin1", name := "newString", desc := "([BII)Ljava/lang/String;" } : Jvm.MethodName) jdk_43_method_47_code (3 : Nat) (Option.some (Jvm.ClassFile.FieldType.object "java/lang/String"))).before args0 about1 = true := code_word (m := ⟨11, 5⟩) (meth := k11m5) (c := k11c5) (by decide +kernel) rfl rfl rfl (by decide +kernel)
set_option maxRecDepth 65536 in
theorem w_c23 : (Jvm.Cond.code ({ cls := "java/lang/StringLatin1", name := "indexOfChar", desc := "([BIII)I" } : Jvm.MethodName) jdk_43_method_23_code (6 : Nat) (Option.some Jvm.ClassFile.FieldType.int)).before args0 about1 = true := code_word (m := ⟨11, 4⟩) (meth := k11m4) (c := k11c4) (by decide +kernel) rfl rfl rfl (by decide +kernel)
set_option maxRecDepth 65536 in
theorem w_c24 : (Jvm.Cond.code ({ cls := "java/util/Arrays", name := "copyOfRange", desc := "([BII)[B" } : Jvm.MethodName) jdk_65_method_132_code (3 : Nat) (Option.some (Jvm.ClassFile.FieldType.array Jvm.ClassFile.FieldType.byte))).before args0 about1 = true := code_word (m := ⟨14, 2⟩) (meth := k14m2) (c := k14c2) (by decide +kernel) rfl rfl rfl (by decide +kernel)
set_option maxRecDepth 65536 in
theorem w_c25 : (Jvm.Cond.code ({ cls := "java/util/Arrays", name := "copyOfRangeByte", desc := "([BII)[B" } : Jvm.MethodName) jdk_65_method_133_code (5 : Nat) (Option.some (Jvm.ClassFile.FieldType.array Jvm.ClassFile.FieldType.byte))).before args0 about1 = true := code_word (m := ⟨14, 3⟩) (meth := k14m3) (c := k14c3) (by decide +kernel) rfl rfl rfl (by decide +kernel)
set_option maxRecDepth 65536 in
theorem w_c26 : (Jvm.Cond.code ({ cls := "java/util/Arrays", name := "checkLength", desc := "(II)V" } : Jvm.MethodName) jdk_65_method_131_code (2 : Nat) (Option.none : Option Jvm.ClassFile.FieldType)).before args0 about1 = true := code_word (m := ⟨14, 1⟩) (meth := k14m1) (c := k14c1) (by decide +kernel) rfl rfl rfl (by decide +kernel)
set_option maxRecDepth 65536 in
theorem w_c27 : (Jvm.Cond.code ({ cls := "java/lang/String", name := "<init>", desc := "([BB)V" } : Jvm.MethodName) jdk_42_method_151_code (3 : Nat) (Option.none : Option Jvm.ClassFile.FieldType)).before args0 about1 = true := code_word (m := ⟨9, 7⟩) (meth := k9m7) (c := k9c7) (by decide +kernel) rfl rfl rfl (by decide +kernel)
set_option maxRecDepth 65536 in
theorem w_c28 : (Jvm.Cond.code ({ cls := "java/lang/String", name := "charAt", desc := "(I)C" } : Jvm.MethodName) jdk_42_method_56_code (2 : Nat) (Option.some Jvm.ClassFile.FieldType.char)).before args0 about1 = true := code_word (m := ⟨9, 3⟩) (meth := k9m3) (c := k9c3) (by decide +kernel) rfl rfl rfl (by decide +kernel)
set_option maxRecDepth 65536 in
theorem w_c29 : (Jvm.Cond.code ({ cls := "java/lang/StringLatin1", name := "charAt", desc := "([BI)C" } : Jvm.MethodName) jdk_43_method_2_code (2 : Nat) (Option.some Jvm.ClassFile.FieldType.char)).before args0 about1 = true := code_word (m := ⟨11, 1⟩) (meth := k11m1) (c := k11c1) (by decide +kernel) rfl rfl rfl (by decide +kernel)
set_option maxRecDepth 65536 in
theorem w_c30 : (Jvm.Cond.code ({ cls := "java/lang/String", name := "checkIndex", desc := "(II)V" } : Jvm.MethodName) jdk_42_method_155_code (2 : Nat) (Option.none : Option Jvm.ClassFile.FieldType)).before args0 about1 = true := code_word (m := ⟨9, 10⟩) (meth := k9m10) (c := k9c10) (by decide +kernel) rfl rfl rfl (by decide +kernel)
set_option maxRecDepth 65536 in
theorem w_c31 : (Jvm.Cond.code ({ cls := "jdk/internal/util/Preconditions", name := "checkIndex", desc := "(IILjava/util/function/BiFunction;)I" } : Jvm.MethodName) jdk_41_method_11_code (3 : Nat) (Option.some Jvm.ClassFile.FieldType.int)).before args0 about1 = true := code_word (m := ⟨13, 1⟩) (meth := k13m1) (c := k13c1) (by decide +kernel) rfl rfl rfl (by decide +kernel)
def codes1 : List Jvm.Cond := [Jvm.Cond.code x code maxLocals ret, Jvm.Cond.code ({ cls := "com/example/ianus/ianus/server/LiteralPathFirstSegmentPinLaw", name := "ch", desc := "(I)C" } : Jvm.MethodName) method_2_code (1 : Nat) (Option.some Jvm.ClassFile.FieldType.char), Jvm.Cond.code ({ cls := "java/lang/String", name := "<init>", desc := "([C)V" } : Jvm.MethodName) jdk_42_method_3_code (2 : Nat) (Option.none : Option Jvm.ClassFile.FieldType), Jvm.Cond.code ({ cls := "java/lang/String", name := "<init>", desc := "([CIILjava/lang/Void;)V" } : Jvm.MethodName) jdk_42_method_149_code (6 : Nat) (Option.none : Option Jvm.ClassFile.FieldType), Jvm.Cond.code ({ cls := "java/lang/Object", name := "<init>", desc := "()V" } : Jvm.MethodName) object_method_1_code (1 : Nat) (Option.none : Option Jvm.ClassFile.FieldType), Jvm.Cond.code ({ cls := "java/lang/StringUTF16", name := "compress", desc := "([CII)[B" } : Jvm.MethodName) jdk_52_method_16_code (6 : Nat) (Option.some (Jvm.ClassFile.FieldType.array Jvm.ClassFile.FieldType.byte)), Jvm.Cond.code ({ cls := "java/lang/StringUTF16", name := "compress", desc := "([CI[BII)I" } : Jvm.MethodName) jdk_52_method_21_code (7 : Nat) (Option.some Jvm.ClassFile.FieldType.int), Jvm.Cond.code ({ cls := "java/lang/StringUTF16", name := "coderFromArrayLen", desc := "([BI)B" } : Jvm.MethodName) jdk_52_method_15_code (2 : Nat) (Option.some Jvm.ClassFile.FieldType.byte), Jvm.Cond.code ({ cls := "com/example/ianus/ianus/server/LiteralPath", name := "<init>", desc := "(Ljava/lang/String;)V" } : Jvm.MethodName) prog_15_method_1_code (2 : Nat) (Option.none : Option Jvm.ClassFile.FieldType), Jvm.Cond.code ({ cls := "java/lang/Record", name := "<init>", desc := "()V" } : Jvm.MethodName) jdk_30_method_1_code (1 : Nat) (Option.none : Option Jvm.ClassFile.FieldType), Jvm.Cond.code ({ cls := "com/example/ianus/ianus/server/LiteralPath", name := "firstSegment", desc := "()Ljava/lang/String;" } : Jvm.MethodName) prog_15_method_3_code (2 : Nat) (Option.some (Jvm.ClassFile.FieldType.object "java/lang/String")), Jvm.Cond.code ({ cls := "java/lang/String", name := "indexOf", desc := "(II)I" } : Jvm.MethodName) jdk_42_method_80_code (3 : Nat) (Option.some Jvm.ClassFile.FieldType.int), Jvm.Cond.code ({ cls := "java/lang/String", name := "isLatin1", desc := "()Z" } : Jvm.MethodName) jdk_42_method_154_code (1 : Nat) (Option.some Jvm.ClassFile.FieldType.boolean), Jvm.Cond.code ({ cls := "java/lang/String", name := "length", desc := "()I" } : Jvm.MethodName) jdk_42_method_54_code (1 : Nat) (Option.some Jvm.ClassFile.FieldType.int), Jvm.Cond.code ({ cls := "java/lang/String", name := "coder", desc := "()B" } : Jvm.MethodName) jdk_42_method_152_code (1 : Nat) (Option.some Jvm.ClassFile.FieldType.byte), Jvm.Cond.code ({ cls := "java/lang/StringLatin1", name := "indexOf", desc := "([BIII)I" } : Jvm.MethodName) jdk_43_method_22_code (4 : Nat) (Option.some Jvm.ClassFile.FieldType.int), Jvm.Cond.code ({ cls := "java/lang/StringLatin1", name := "canEncode", desc := "(I)Z" } : Jvm.MethodName) jdk_43_method_4_code (1 : Nat) (Option.some Jvm.ClassFile.FieldType.boolean), Jvm.Cond.code ({ cls := "java/lang/Math", name := "max", desc := "(II)I" } : Jvm.MethodName) jdk_29_method_65_code (2 : Nat) (Option.some Jvm.ClassFile.FieldType.int), Jvm.Cond.code ({ cls := "java/lang/Math", name := "min", desc := "(II)I" } : Jvm.MethodName) jdk_29_method_69_code (2 : Nat) (Option.some Jvm.ClassFile.FieldType.int), Jvm.Cond.code ({ cls := "java/lang/String", name := "substring", desc := "(II)Ljava/lang/String;" } : Jvm.MethodName) jdk_42_method_92_code (5 : Nat) (Option.some (Jvm.ClassFile.FieldType.object "java/lang/String")), Jvm.Cond.code ({ cls := "java/lang/String", name := "checkBoundsBeginEnd", desc := "(III)V" } : Jvm.MethodName) jdk_42_method_158_code (3 : Nat) (Option.none : Option Jvm.ClassFile.FieldType), Jvm.Cond.code ({ cls := "jdk/internal/util/Preconditions", name := "checkFromToIndex", desc := "(IIILjava/util/function/BiFunction;)I" } : Jvm.MethodName) jdk_41_method_12_code (4 : Nat) (Option.some Jvm.ClassFile.FieldType.int), Jvm.Cond.code ({ cls := "java/lang/StringLatin1", name := "newString", desc := "([BII)Ljava/lang/String;" } : Jvm.MethodName) jdk_43_method_47_code (3 : Nat) (Option.some (Jvm.ClassFile.FieldType.object "java/lang/String")), Jvm.Cond.code ({ cls := "java/lang/StringLatin1", name := "indexOfChar", desc := "([BIII)I" } : Jvm.MethodName) jdk_43_method_23_code (6 : Nat) (Option.some Jvm.ClassFile.FieldType.int), Jvm.Cond.code ({ cls := "java/util/Arrays", name := "copyOfRange", desc := "([BII)[B" } : Jvm.MethodName) jdk_65_method_132_code (3 : Nat) (Option.some (Jvm.ClassFile.FieldType.array Jvm.ClassFile.FieldType.byte)), Jvm.Cond.code ({ cls := "java/util/Arrays", name := "copyOfRangeByte", desc := "([BII)[B" } : Jvm.MethodName) jdk_65_method_133_code (5 : Nat) (Option.some (Jvm.ClassFile.FieldType.array Jvm.ClassFile.FieldType.byte)), Jvm.Cond.code ({ cls := "java/util/Arrays", name := "checkLength", desc := "(II)V" } : Jvm.MethodName) jdk_65_method_131_code (2 : Nat) (Option.none : Option Jvm.ClassFile.FieldType), Jvm.Cond.code ({ cls := "java/lang/String", name := "<init>", desc := "([BB)V" } : Jvm.MethodName) jdk_42_method_151_code (3 : Nat) (Option.none : Option Jvm.ClassFile.FieldType), Jvm.Cond.code ({ cls := "java/lang/String", name := "charAt", desc := "(I)C" } : Jvm.MethodName) jdk_42_method_56_code (2 : Nat) (Option.some Jvm.ClassFile.FieldType.char), Jvm.Cond.code ({ cls := "java/lang/StringLatin1", name := "charAt", desc := "([BI)C" } : Jvm.MethodName) jdk_43_method_2_code (2 : Nat) (Option.some Jvm.ClassFile.FieldType.char), Jvm.Cond.code ({ cls := "java/lang/String", name := "checkIndex", desc := "(II)V" } : Jvm.MethodName) jdk_42_method_155_code (2 : Nat) (Option.none : Option Jvm.ClassFile.FieldType), Jvm.Cond.code ({ cls := "jdk/internal/util/Preconditions", name := "checkIndex", desc := "(IILjava/util/function/BiFunction;)I" } : Jvm.MethodName) jdk_41_method_11_code (3 : Nat) (Option.some Jvm.ClassFile.FieldType.int)]
set_option maxRecDepth 65536 in
theorem codes_eq : words1.filter isCode = codes1 := rfl
theorem w_codes : ∀ c ∈ words1.filter isCode, c.before args0 about1 = true := by
  rw [codes_eq]
  intro c hc
  simp only [codes1, List.mem_cons, List.not_mem_nil, or_false] at hc
  rcases hc with rfl | rfl | rfl | rfl | rfl | rfl | rfl | rfl | rfl | rfl | rfl | rfl | rfl | rfl | rfl | rfl | rfl | rfl | rfl | rfl | rfl | rfl | rfl | rfl | rfl | rfl | rfl | rfl | rfl | rfl | rfl | rfl
  · exact w_c0
  · exact w_c1
  · exact w_c2
  · exact w_c3
  · exact w_c4
  · exact w_c5
  · exact w_c6
  · exact w_c7
  · exact w_c8
  · exact w_c9
  · exact w_c10
  · exact w_c11
  · exact w_c12
  · exact w_c13
  · exact w_c14
  · exact w_c15
  · exact w_c16
  · exact w_c17
  · exact w_c18
  · exact w_c19
  · exact w_c20
  · exact w_c21
  · exact w_c22
  · exact w_c23
  · exact w_c24
  · exact w_c25
  · exact w_c26
  · exact w_c27
  · exact w_c28
  · exact w_c29
  · exact w_c30
  · exact w_c31
set_option maxRecDepth 65536 in
theorem w_t1 : (words1.take 24).all (fun c => isCode c || c.before args0 about1) = true := by decide +kernel
set_option maxRecDepth 65536 in
theorem w_t2 : ((words1.drop 24).take 24).all (fun c => isCode c || c.before args0 about1) = true := by decide +kernel
set_option maxRecDepth 65536 in
theorem w_t3 : (((words1.drop 24).drop 24).take 24).all (fun c => isCode c || c.before args0 about1) = true := by decide +kernel
set_option maxRecDepth 65536 in
theorem w_t4 : ((((words1.drop 24).drop 24).drop 24).take 24).all (fun c => isCode c || c.before args0 about1) = true := by decide +kernel
set_option maxRecDepth 65536 in
theorem w_t5 : (((((words1.drop 24).drop 24).drop 24).drop 24).take 24).all (fun c => isCode c || c.before args0 about1) = true := by decide +kernel
set_option maxRecDepth 65536 in
theorem w_t6 : ((((((words1.drop 24).drop 24).drop 24).drop 24).drop 24).take 24).all (fun c => isCode c || c.before args0 about1) = true := by decide +kernel
set_option maxRecDepth 65536 in
theorem w_t7 : ((((((words1.drop 24).drop 24).drop 24).drop 24).drop 24).drop 24).all (fun c => isCode c || c.before args0 about1) = true := by decide +kernel
theorem w_tables : (allAtoms (Jvm.Cond.code x code maxLocals ret :: tables_1)).before args0 about1 = true := by
  rw [allAtoms_all]
  show words1.all (fun c => c.before args0 about1) = true
  refine all_split ?_ w_codes
  rw [← List.take_append_drop 24 words1, List.all_append, w_t1, ← List.take_append_drop 24 (words1.drop 24), List.all_append, w_t2, ← List.take_append_drop 24 ((words1.drop 24).drop 24), List.all_append, w_t3, ← List.take_append_drop 24 (((words1.drop 24).drop 24).drop 24), List.all_append, w_t4, ← List.take_append_drop 24 ((((words1.drop 24).drop 24).drop 24).drop 24), List.all_append, w_t5, ← List.take_append_drop 24 (((((words1.drop 24).drop 24).drop 24).drop 24).drop 24), List.all_append, w_t6, w_t7]
  rfl
set_option maxRecDepth 65536 in
theorem w_rest : rest_1_c.before args0 about1 = true := by decide +kernel
set_option maxRecDepth 65536 in
theorem w_case : (Jvm.Cond.and given_1 narrow_1).before args0 about1 = true := by decide +kernel
set_option maxRecDepth 65536 in
theorem w_consts : constsHeld consts_1 about1 := Jvm.Lit.constsHeldB_iff.mp (by decide +kernel)
theorem w_applies : (headSpec (Jvm.Cond.code x code maxLocals ret :: tables_1) room_1).applies x e0.platform about1 = true :=
  (Spec.applies_iff w_frames).mpr ⟨w_running, w_runnable, w_alone, w_named, w_hears, w_ripe, w_room, w_tables⟩
theorem atStart : AtStart classFile x code maxLocals ret World_1 tables_1 room_1 Calls_1 rest_1 Pre_1 launch0 p0 e0 about1 theMethod args0 below0 :=
  ⟨lists_1, trivial, launch0.admits_env _ _ _, launch0.least_env, fairChoices_fair.cas, fairChoices_fair.clock, w_frames, w_args, w_heap, w_applies, ⟨w_consts, trivial⟩, w_rest, w_case⟩
end start1
theorem witness_1 : WitnessClaimed_1 := ⟨start1.p0, start1.e0, start1.about1, start1.theMethod, start1.args0, start1.below0, start1.atStart⟩
end Jvm.Pilot.@@N@@
