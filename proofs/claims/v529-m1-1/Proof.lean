import JvmDerived
import JvmDerived.Pilot.@@N@@Statement
import JvmDerived.Pilot.@@N@@Code
set_option linter.unusedVariables false
set_option linter.unusedSimpArgs false
namespace Jvm.Pilot.@@N@@
open Jvm Jvm.ClassFile Sem Op Lib Jvm.Free Jvm.Stand Jvm.LawKit Jvm.RoadKit Bundle Jvm.Pilot.@@N@@.Jvm.D
def own_Kq (s : State) (Q : Option Value → Heap → List Loc → Prop) (cl sl : Nat) (o : Outcome) (U : State) : Prop := ∃ v L, o = .returned v ∧ Q v U.heap L ∧ FrameEnd s o U L cl sl
def OGo (tb : Tables) (e : Env) (below : List Frame) (K : Outcome → State → Prop) (U : State) : Prop := ∃ s₂ o, Steps tb e below U s₂ ∧ s₂.status = .running ∧ Ended s₂ below o ∧ K o s₂
section Own
variable {p : Program} {l : Launch} {e : Env} {R : Room} {s : State} {m : MethodId} {args : Array Value} {below : List Frame} {meth : Method} {c : Code} {T : State} {locs : List Loc} {cells slots : Nat} {tb : Tables} {K : Outcome → State → Prop} {Q : Option Value → Heap → List Loc → Prop} {cl sl : Nat}
theorem OGo.via {U U' : State} (st : ∀ t, Steps tb e below U' t → Steps tb e below U t) (k : OGo tb e below K U') : OGo tb e below K U := by
  obtain ⟨s₂, o, h, r⟩ := k; exact ⟨s₂, o, st _ h, r⟩
theorem OGo.cast {g g' : JFrame} (q : g = g') (k : OGo tb e below K (T.setTop g')) : OGo tb e below K (T.setTop g) := q ▸ k
theorem own_w {Z : State} {a0 : Array Value} (hw : ∀ d ∈ tables_1, d.before a0 Z = true) (i : Nat) {d : Jvm.Cond} (h : tables_1[i]? = some d) : d.before a0 Z = true := hw d (List.mem_of_getElem? h)
theorem own_staKeep0 {Z : State} {h h' : Heap} {C n d : String} {v : Value} (F : Sta Z h C n d v) (K : Keep h h' []) : Sta Z h' C n d v := by
  obtain ⟨cf, i, k, f, st, cell, h1, h2, h3, h4, h5, r⟩ := F; exact ⟨cf, i, k, f, st, cell, h1, h2, h3, h4, K.2.1 _ _ h5 nin0, r⟩
theorem own_irr (x : Int32) : ¬ x < x := Int32.lt_irrefl
theorem own_stepI (X : Stand p l e R s m args below meth c T locs cells slots) (hx : p.tables.exec = Jvm.exec) {pc : Nat} {Ls : Array Slot} {z : Int32} {rest : List Value} (hret : meth.sig.returnType = some .int) (hd : decode c.code pc = .ok (.ireturn, 1)) {fs : List Frame}
    (hl : ∀ (f : JFrame) (acts : List Action), f.method = m → f.locked = none → f.entered = [] → (doReturn e (T.setTop f) acts (some (.int z))).1 = T.setFrames fs) : Steps p.tables e below (T.setTop (mkF m pc Ls (.int z :: rest))) (T.setFrames fs) := by
  have hm' : T.vm.method? m = some meth := X.method'
  have hn : narrow .int (.int z) = .int z := rfl
  show Steps p.tables e below (T.setTop { method := m, pc := pc, locals := Ls, stack := _ :: rest, locked := none }) _
  jvm_step X.here [X.here.top, hx, hd, hm', hret, hn]
  first | (intro acts; rw [hl _ acts rfl rfl rfl]) | rw [hl _ _ rfl rfl rfl]
  exact Steps.refl _
theorem own_retI (X : Stand p l e R s m args below meth c T locs cells slots) (hx : p.tables.exec = Jvm.exec) (hk : meth.locks = false) (hret : meth.sig.returnType = some .int) {pc : Nat} {Ls : Array Slot} {z : Int32} {rest : List Value} (hd : decode c.code pc = .ok (.ireturn, 1)) (hc : cells ≤ cl) (hs : slots ≤ sl) (hQ : Q (some (.int z)) T.heap locs) :
    OGo p.tables e below (own_Kq s Q cl sl) (T.setTop (mkF m pc Ls (.int z :: rest))) := by
  obtain ⟨fs, hr, hrun, hended, hW, hsame⟩ := X.leave (v := some (.int z)) (fun h => by rw [hret] at h; cases h) hk
  exact ⟨_, _, own_stepI X hx hret hd hr, hrun, hended, _, _, rfl, hQ, ⟨_, rfl⟩, hW, hsame.mono hc hs⟩
theorem own_retN {t : FieldType} (ht : t = .boolean ∨ t = .byte ∨ t = .char ∨ t = .short) (X : Stand p l e R s m args below meth c T locs cells slots) (hx : p.tables.exec = Jvm.exec) (hk : meth.locks = false) (hret : meth.sig.returnType = some t) {pc : Nat} {Ls : Array Slot} {z : Int32} {rest : List Value} (hd : decode c.code pc = .ok (.ireturn, 1)) (hc : cells ≤ cl) (hs : slots ≤ sl) (hQ : Q (some (.int (nar t z))) T.heap locs) :
    OGo p.tables e below (own_Kq s Q cl sl) (T.setTop (mkF m pc Ls (.int z :: rest))) := by
  obtain ⟨fs, hr, hrun, hended, hW, hsame⟩ := X.leave (v := some (.int (nar t z))) (fun h => by rw [hret] at h; cases h) hk
  exact ⟨_, _, retN X hx hret ht hd hr, hrun, hended, _, _, rfl, hQ, ⟨_, rfl⟩, hW, hsame.mono hc hs⟩
theorem own_retL (X : Stand p l e R s m args below meth c T locs cells slots) (hx : p.tables.exec = Jvm.exec) (hk : meth.locks = false) (hret : meth.sig.returnType = some .long) {pc : Nat} {Ls : Array Slot} {z : Int64} (hd : decode c.code pc = .ok (.lreturn, 1)) (hc : cells ≤ cl) (hs : slots ≤ sl) (hQ : Q (some (.long z)) T.heap locs) :
    OGo p.tables e below (own_Kq s Q cl sl) (T.setTop (mkF m pc Ls [.long z])) := by
  obtain ⟨fs, hr, hrun, hended, hW, hsame⟩ := X.leave (v := some (.long z)) (fun h => by rw [hret] at h; cases h) hk
  exact ⟨_, _, X.lreturnOut hx hret hd hr, hrun, hended, _, _, rfl, hQ, ⟨_, rfl⟩, hW, hsame.mono hc hs⟩
theorem own_retA {t : FieldType} (X : Stand p l e R s m args below meth c T locs cells slots) (hx : p.tables.exec = Jvm.exec) (hk : meth.locks = false) (hret : meth.sig.returnType = some t) {pc : Nat} {Ls : Array Slot} {w : Value} (hw : w.isRef = true) (ht : t.isReference = true) (hd : decode c.code pc = .ok (.areturn, 1)) (hc : cells ≤ cl) (hs : slots ≤ sl) (hQ : Q (some w) T.heap locs) :
    OGo p.tables e below (own_Kq s Q cl sl) (T.setTop (mkF m pc Ls [w])) := by
  obtain ⟨fs, hr, hrun, hended, hW, hsame⟩ := X.leave (v := some w) (fun h => by rw [hret] at h; cases h) hk
  exact ⟨_, _, X.areturnOut hx hw hret ht hd hr, hrun, hended, _, _, rfl, hQ, ⟨_, rfl⟩, hW, hsame.mono hc hs⟩
theorem own_retV (X : Stand p l e R s m args below meth c T locs cells slots) (hx : p.tables.exec = Jvm.exec) (hk : meth.locks = false) (hret : meth.sig.returnType = none) {pc : Nat} {Ls : Array Slot} (hd : decode c.code pc = .ok (.return_, 1)) (hc : cells ≤ cl) (hs : slots ≤ sl) (hQ : Q none T.heap locs) :
    OGo p.tables e below (own_Kq s Q cl sl) (T.setTop (mkF m pc Ls [])) := by
  obtain ⟨fs, hr, hrun, hended, hW, hsame⟩ := X.leave (v := none) (fun _ => rfl) hk
  exact ⟨_, _, X.returnOut hx hret hd hr, hrun, hended, _, _, rfl, hQ, ⟨_, rfl⟩, hW, hsame.mono hc hs⟩
end Own
theorem own_open {p : Program} {l : Launch} {e : Env} {R : Room} {s : State} {m : MethodId} {args : Array Value} {below : List Frame} {meth : Method} {c : Code} {T : State} {locs : List Loc} {cells slots rc rs : Nat} (X : Stand p l e R s m args below meth c T locs cells slots) {Qp : Option Value → Pt → List Loc → Prop} {S : Option Value → Pt → Prop}
    (h : ∃ (v : Option Value) (vm₁ : Vm) (B : Pt), s.WarmedH vm₁ ∧ Stand p l e R s m args below meth c B.U B.locs B.cells B.slots ∧ (∃ L, Qp v B L ∧ B.locs = locs ++ L ∧ B.cells = cells + rc ∧ B.slots = slots + rs) ∧ S v B) :
    ∃ (v : Option Value) (T' : State) (L : List Loc), Stand p l e R s m args below meth c T' (locs ++ L) (cells + rc) (slots + rs) ∧ Qp v (T', locs ++ L, cells + rc, slots + rs) L ∧ S v (T', locs ++ L, cells + rc, slots + rs) := by
  obtain ⟨v, vm₁, ⟨T', L', k', n'⟩, -, X, ⟨L, hQ, hl, hk, hn⟩, hs⟩ := h
  dsimp only [Pt.U, Pt.locs, Pt.cells, Pt.slots] at X hl hk hn
  subst hl hk hn
  exact ⟨v, T', L, X, hQ, hs⟩
def own_St {p : Program} {l : Launch} {e : Env} {R : Room} {s : State} {m : MethodId} {args : Array Value} {below : List Frame} {meth : Method} {c : Code} {T : State} {locs : List Loc} {cells slots : Nat} (_ : Stand p l e R s m args below meth c T locs cells slots) (n0 : Nat) (T' : State) : Prop := ∃ locs', Stand p l e R s m args below meth c T' locs' cells slots ∧ Fr n0 locs'
def OJn {α : Type} (tb : Tables) (e : Env) (below : List Frame) (P : State → α → Prop) (tgt : α → JFrame) (U : State) : Prop := ∃ T' v, P T' v ∧ ∀ t, Steps tb e below (T'.setTop (tgt v)) t → Steps tb e below U t
theorem OJn.via {α : Type} {tb : Tables} {e : Env} {below : List Frame} {P : State → α → Prop} {tgt : α → JFrame} {U U' : State} (st : ∀ t, Steps tb e below U' t → Steps tb e below U t) (k : OJn tb e below P tgt U') : OJn tb e below P tgt U := by
  obtain ⟨T', v, h, r⟩ := k; exact ⟨T', v, h, fun t q => st _ (r _ q)⟩
abbrev own_y0 : MethodName := ⟨"com/example/ianus/ianus/server/ResourcePathsBaseEndPinLaw", "draw", "(I)C"⟩
abbrev own_y1 : MethodName := ⟨"java/lang/Math", "max", "(II)I"⟩
abbrev own_y2 : MethodName := ⟨"java/lang/Math", "min", "(II)I"⟩
abbrev own_y3 : MethodName := ⟨"java/lang/StringUTF16", "compress", "([CI[BII)I"⟩
abbrev own_y4 : MethodName := ⟨"java/lang/StringUTF16", "compress", "([CII)[B"⟩
abbrev own_y5 : MethodName := ⟨"java/lang/StringUTF16", "coderFromArrayLen", "([BI)B"⟩
abbrev own_y6 : MethodName := ⟨"java/lang/String", "<init>", "([CIILjava/lang/Void;)V"⟩
abbrev own_y7 : MethodName := ⟨"java/lang/String", "<init>", "([C)V"⟩
abbrev own_y8 : MethodName := ⟨"java/lang/String", "coder", "()B"⟩
abbrev own_y9 : MethodName := ⟨"java/lang/String", "length", "()I"⟩
abbrev own_y10 : MethodName := ⟨"java/lang/String", "isLatin1", "()Z"⟩
abbrev own_y11 : MethodName := ⟨"java/lang/StringLatin1", "canEncode", "(I)Z"⟩
abbrev own_y12 : MethodName := ⟨"java/lang/StringLatin1", "indexOfChar", "([BIII)I"⟩
abbrev own_y13 : MethodName := ⟨"java/lang/StringLatin1", "indexOf", "([BIII)I"⟩
abbrev own_y14 : MethodName := ⟨"java/lang/String", "indexOf", "(II)I"⟩
abbrev own_y15 : MethodName := ⟨"com/example/ianus/ianus/server/ResourcePaths", "baseEnd", "(Ljava/lang/String;I)I"⟩
def own_b (c : Int32) : Int32 := if c = 47 then 1 else 0
def own_ix (f x1 x2 x3 x4 x5 : Int32) : Int32 := if ¬ 1 < f ∧ x1 = 1 then 1 else if ¬ 2 < f ∧ x2 = 1 then 2 else if ¬ 3 < f ∧ x3 = 1 then 3 else if ¬ 4 < f ∧ x4 = 1 then 4 else if ¬ 5 < f ∧ x5 = 1 then 5 else -1
def own_be (k x1 x2 x3 x4 x5 : Int32) : Int32 := if k = 0 then 0 else if ¬ x1 = 0 ∧ x1 = k then 1 else if ¬ x2 = 0 ∧ x1 + x2 = k then 2 else if ¬ x3 = 0 ∧ x1 + x2 + x3 = k then 3 else if ¬ x4 = 0 ∧ x1 + x2 + x3 + x4 = k then 4 else if ¬ x5 = 0 ∧ x1 + x2 + x3 + x4 + x5 = k then 5 else 6
def own_nx (e x1 x2 x3 x4 x5 : Int32) : Int32 := if own_ix (e + 1) x1 x2 x3 x4 x5 < 0 then 6 else own_ix (e + 1) x1 x2 x3 x4 x5
def own_bi (b : Bool) : Int32 := if b then 1 else 0
theorem own_step : ∀ b1 b2 b3 b4 b5 : Bool, ∀ j : Fin 7, own_nx (own_be (Int32.ofNat j.val) (own_bi b1) (own_bi b2) (own_bi b3) (own_bi b4) (own_bi b5)) (own_bi b1) (own_bi b2) (own_bi b3) (own_bi b4) (own_bi b5) = own_be (Int32.ofNat (j.val + 1)) (own_bi b1) (own_bi b2) (own_bi b3) (own_bi b4) (own_bi b5) := by decide +kernel
theorem own_rng : ∀ b1 b2 b3 b4 b5 : Bool, ∀ j : Fin 8, (let e := own_be (Int32.ofNat j.val) (own_bi b1) (own_bi b2) (own_bi b3) (own_bi b4) (own_bi b5) + 1; e = 1 ∨ e = 2 ∨ e = 3 ∨ e = 4 ∨ e = 5 ∨ e = 6 ∨ e = 7) := by decide +kernel
theorem own_b_bi (c : Int32) : own_b c = own_bi (decide (c = 47)) := by
  unfold own_b own_bi; by_cases h : c = 47 <;> simp [h]
theorem own_b1 {c : Int32} (h : ¬ own_b c = 0) : own_b c = 1 := by
  unfold own_b at *; by_cases q : c = 47 <;> simp [q] at h ⊢
theorem own_stp (c1 c2 c3 c4 c5 : Int32) (j : Fin 7) : own_nx (own_be (Int32.ofNat j.val) (own_b c1) (own_b c2) (own_b c3) (own_b c4) (own_b c5)) (own_b c1) (own_b c2) (own_b c3) (own_b c4) (own_b c5) = own_be (Int32.ofNat (j.val + 1)) (own_b c1) (own_b c2) (own_b c3) (own_b c4) (own_b c5) := by
  simp only [own_b_bi]; exact own_step _ _ _ _ _ j
theorem own_rg (c1 c2 c3 c4 c5 : Int32) (j : Fin 8) : own_be (Int32.ofNat j.val) (own_b c1) (own_b c2) (own_b c3) (own_b c4) (own_b c5) + 1 = 1 ∨ own_be (Int32.ofNat j.val) (own_b c1) (own_b c2) (own_b c3) (own_b c4) (own_b c5) + 1 = 2 ∨ own_be (Int32.ofNat j.val) (own_b c1) (own_b c2) (own_b c3) (own_b c4) (own_b c5) + 1 = 3 ∨ own_be (Int32.ofNat j.val) (own_b c1) (own_b c2) (own_b c3) (own_b c4) (own_b c5) + 1 = 4 ∨ own_be (Int32.ofNat j.val) (own_b c1) (own_b c2) (own_b c3) (own_b c4) (own_b c5) + 1 = 5 ∨ own_be (Int32.ofNat j.val) (own_b c1) (own_b c2) (own_b c3) (own_b c4) (own_b c5) + 1 = 6 ∨ own_be (Int32.ofNat j.val) (own_b c1) (own_b c2) (own_b c3) (own_b c4) (own_b c5) + 1 = 7 := by
  simp only [own_b_bi]; exact own_rng _ _ _ _ _ j
def own_by (c : Int32) : Int32 := (c.toInt8.toInt32).toInt8.toInt32
theorem own_and255 (x : Int32) : ¬ (255 : Int32) < (x &&& 255) ∧ ¬ (x &&& 255) < (0 : Int32) := by
  have h := c_and x 255 (by decide)
  rw [Int32.lt_iff_toInt_lt, Int32.lt_iff_toInt_lt]
  have a : (0 : Int32).toInt = 0 := rfl
  have d : (255 : Int32).toInt = 255 := rfl
  omega
theorem own_and7 (x : Int32) : ¬ (7 : Int32) < (x &&& 7) ∧ ¬ (x &&& 7) < (0 : Int32) := by
  have h := c_and x 7 (by decide)
  rw [Int32.lt_iff_toInt_lt, Int32.lt_iff_toInt_lt]
  have a : (0 : Int32).toInt = 0 := rfl
  have d : (7 : Int32).toInt = 7 := rfl
  omega
theorem own_i8 (c : Int32) : (c.toInt8.toInt32.toInt - c.toInt) % 256 = 0 ∧ -128 ≤ c.toInt8.toInt32.toInt ∧ c.toInt8.toInt32.toInt < 128 := c_i2b c
theorem own_byb {c : Int32} (h0 : ¬ c < 0) (h : ¬ (255 : Int32) < c) : own_b (own_by c) = own_b c := by
  have e : (own_by c = 47) ↔ (c = 47) := by
    constructor
    · intro q
      have q1 := own_i8 c; have q2 := own_i8 (c.toInt8.toInt32)
      have q3 : (own_by c).toInt = 47 := by rw [q]; rfl
      unfold own_by at q3
      rw [Int32.lt_iff_toInt_lt] at h0 h
      have a : (0 : Int32).toInt = 0 := rfl
      have d : (255 : Int32).toInt = 255 := rfl
      apply Int32.toInt_inj.mp
      show c.toInt = 47
      omega
    · intro q; subst q; decide
  unfold own_b; by_cases q : c = 47
  · rw [if_pos (e.mpr q), if_pos q]
  · rw [if_neg (fun z => q (e.mp z)), if_neg q]
theorem d1_0 : decode method_2_code 0 = .ok (.iload_n 0, 1) := by decide +kernel
theorem d1_1 : decode method_2_code 1 = .ok (.iconst 3, 1) := by decide +kernel
theorem d1_2 : decode method_2_code 2 = .ok (.iand, 1) := by decide +kernel
theorem d1_3 : decode method_2_code 3 = .ok (.ifCond .ne 6, 3) := by decide +kernel
theorem d1_6 : decode method_2_code 6 = .ok (.bipush 47, 2) := by decide +kernel
theorem d1_8 : decode method_2_code 8 = .ok (.ireturn, 1) := by decide +kernel
theorem d1_9 : decode method_2_code 9 = .ok (.iload_n 0, 1) := by decide +kernel
theorem d1_10 : decode method_2_code 10 = .ok (.iconst 2, 1) := by decide +kernel
theorem d1_11 : decode method_2_code 11 = .ok (.iushr, 1) := by decide +kernel
theorem d1_12 : decode method_2_code 12 = .ok (.sipush 255, 3) := by decide +kernel
theorem d1_15 : decode method_2_code 15 = .ok (.iand, 1) := by decide +kernel
theorem d1_16 : decode method_2_code 16 = .ok (.i2c, 1) := by decide +kernel
theorem d1_17 : decode method_2_code 17 = .ok (.ireturn, 1) := by decide +kernel
theorem pn_ResourcePathsBaseEndPinLaw : plainName "com/example/ianus/ianus/server/ResourcePathsBaseEndPinLaw" = true := by first | (simp [plainName, overriddenIn]; done) | decide +kernel
theorem ef_rm1 (m : MethodId) (p1 : Int32) : entryFrame m #[(.int p1)] 1 = mkF m 0 #[.val (.int p1)] [] := by first | (simp [entryFrame, mkF, argsToLocals, Value.category]; done) | rfl
def Q_rm1 (Z : State) (p1 : Int32) (h0 : Heap) (n0 : Nat) (v : Option Value) (h : Heap) (L : List Loc) : Prop := ∃ d : Int32, v = some (.int d) ∧ Fr n0 L ∧ h = h0 ∧ (¬ (255 : Int32) < nar .char d ∧ ¬ nar .char d < (0 : Int32))
set_option maxRecDepth 65536 in
set_option maxHeartbeats 40000000 in
theorem rm1 (l : Launch) (Z : State) (a0 : Array Value) (hw : ∀ d ∈ tables_1, d.before a0 Z = true) (ws : List Jvm.Cond) (p1 : Int32) (h0 : Heap) (n0 : Nat) (Z0 : n0 ≤ h0.size) :
    MetFree l own_y0 (head1 (Jvm.Cond.code own_y0 method_2_code 1 (some .char) :: ws) ({ frames := 0, cells := 0, slots := 0, locals := 0 } : Room)) (fun a U => a = #[(.int p1)] ∧ Z.Warmed39 U.vm ∧ U.heap = h0) (fun _ _ _ _ _ => True) (fun _ U o U' => ∃ v L, o = .returned v ∧ Q_rm1 Z p1 h0 n0 v U'.heap L ∧ FrameEnd U o U' L ({ frames := 0, cells := 0, slots := 0, locals := 0 } : Room).cells ({ frames := 0, cells := 0, slots := 0, locals := 0 } : Room).slots) := by
  refine MetFree.of_bodySF (plainFor_of_name pn_ResourcePathsBaseEndPinLaw) hisR ?_
  intro p e s m args below meth c s₁ Bd hml0 hP hK
  obtain ⟨rfl, hZ, hh⟩ := hP
  have hx := Bd.exec
  have hby := Bd.bytes
  have hml : c.maxLocals = 1 := hml0
  have hown : s.vm.findClass "com/example/ianus/ianus/server/ResourcePathsBaseEndPinLaw" = some m.cls := findClass_of_methodNamed Bd.named
  have hnm := (name_of_methodNamed Bd.named Bd.method).1
  have X0 : Stand p l e ({ frames := 0, cells := 0, slots := 0, locals := 0 } : Room) s m #[(.int p1)] below meth c s₁ [] 0 0 := Stand.of_body Bd
  have e0 : s₁.heap = h0 := by rw [← hh, Bd.state]; rfl
  have N0 := Fr.nil n0
  show OGo p.tables e below (own_Kq s (fun v h L => Q_rm1 Z p1 h0 n0 v h L) ({ frames := 0, cells := 0, slots := 0, locals := 0 } : Room).cells ({ frames := 0, cells := 0, slots := 0, locals := 0 } : Room).slots) (s₁.setTop (entryFrame m #[(.int p1)] 1))
  refine OGo.cast (ef_rm1 m p1) ?_
  show OGo _ _ _ _ (s₁.setTop (mkF m 0 #[.val (.int p1)] []))
  refine OGo.via (fun _ k => XS.iloadN X0.here hx rfl (hb hby d1_0) rfl (XS.iconst X0.here hx rfl (hb hby d1_1) (XS.iand X0.here hx rfl (hb hby d1_2) rfl k))) ?_
  by_cases hc3_1 : (p1 &&& (3 : Int32)) = (0 : Int32)
  · refine OGo.via (fun _ k => XS.ifNo X0.here hx rfl (hb hby d1_3) rfl ((if0 _ _).trans (teq hc3_1).2) k) ?_
    show OGo _ _ _ _ (s₁.setTop (mkF m 6 #[.val (.int p1)] []))
    refine OGo.via (fun _ k => XS.bipush X0.here hx rfl (hb hby d1_6) k) ?_
    show OGo _ _ _ _ (s₁.setTop (mkF m 8 #[.val (.int p1)] [(.int (47 : Int32))]))
    refine own_retN (t := .char) (by simp) X0 hx Bd.notSynchronized Bd.returns (hb hby d1_8) (by decide) (by decide) ?_
    show Q_rm1 Z _ h0 n0 _ s₁.heap _
    exact ⟨(nar .char (47 : Int32)), rfl, N0, e0, (by decide)⟩
  · refine OGo.via (fun _ k => XS.ifYes X0.here hx rfl (pc0 := 3) (pc' := 9) rfl (hb hby d1_3) rfl ((if0 _ _).trans (feq hc3_1).2) (by decide) (by decide) k) ?_
    show OGo _ _ _ _ (s₁.setTop (mkF m 9 #[.val (.int p1)] []))
    refine OGo.via (fun _ k => XS.iloadN X0.here hx rfl (hb hby d1_9) rfl (XS.iconst X0.here hx rfl (hb hby d1_10) (XS.iushr X0.here hx rfl (hb hby d1_11) rfl (XS.sipush X0.here hx rfl (hb hby d1_12) (XS.iand X0.here hx rfl (hb hby d1_15) rfl (XS.i2c X0.here hx rfl (hb hby d1_16) rfl k)))))) ?_
    show OGo _ _ _ _ (s₁.setTop (mkF m 17 #[.val (.int p1)] [(.int ((((p1.toUInt32 >>> ((2 : Int32) &&& 31).toUInt32).toInt32) &&& (255 : Int32)).toUInt32.toUInt16.toUInt32.toInt32))]))
    refine own_retN (t := .char) (by simp) X0 hx Bd.notSynchronized Bd.returns (hb hby d1_17) (by decide) (by decide) ?_
    show Q_rm1 Z _ h0 n0 _ s₁.heap _
    exact ⟨(nar .char ((((p1.toUInt32 >>> ((2 : Int32) &&& 31).toUInt32).toInt32) &&& (255 : Int32)).toUInt32.toUInt16.toUInt32.toInt32)), rfl, N0, e0, (by simp only [nar, i2c_mask]; exact own_and255 _)⟩
theorem d15_0 : decode jdk_29_method_65_code 0 = .ok (.iload_n 0, 1) := by decide +kernel
theorem d15_1 : decode jdk_29_method_65_code 1 = .ok (.iload_n 1, 1) := by decide +kernel
theorem d15_2 : decode jdk_29_method_65_code 2 = .ok (.if_icmp .lt 7, 3) := by decide +kernel
theorem d15_9 : decode jdk_29_method_65_code 9 = .ok (.iload_n 1, 1) := by decide +kernel
theorem d15_10 : decode jdk_29_method_65_code 10 = .ok (.ireturn, 1) := by decide +kernel
theorem d15_5 : decode jdk_29_method_65_code 5 = .ok (.iload_n 0, 1) := by decide +kernel
theorem d15_6 : decode jdk_29_method_65_code 6 = .ok (.goto 4, 3) := by decide +kernel
theorem ef_rm15 (m : MethodId) (p1 : Int32) (p2 : Int32) : entryFrame m #[(.int p1), (.int p2)] 2 = mkF m 0 #[.val (.int p1), .val (.int p2)] [] := by first | (simp [entryFrame, mkF, argsToLocals, Value.category]; done) | rfl
def Q_rm15 (Z : State) (p1 : Int32) (p2 : Int32) (h0 : Heap) (n0 : Nat) (v : Option Value) (h : Heap) (L : List Loc) : Prop := v = some (.int (if p1 < p2 then p2 else p1)) ∧ Fr n0 L ∧ h = h0
set_option maxRecDepth 65536 in
set_option maxHeartbeats 40000000 in
theorem rm15 (l : Launch) (Z : State) (a0 : Array Value) (hw : ∀ d ∈ tables_1, d.before a0 Z = true) (ws : List Jvm.Cond) (p1 : Int32) (p2 : Int32) (h0 : Heap) (n0 : Nat) (Z0 : n0 ≤ h0.size) :
    MetFree l own_y1 (head1 (Jvm.Cond.code own_y1 jdk_29_method_65_code 2 (some .int) :: ws) ({ frames := 0, cells := 0, slots := 0, locals := 0 } : Room)) (fun a U => a = #[(.int p1), (.int p2)] ∧ Z.Warmed39 U.vm ∧ U.heap = h0) (fun _ _ _ _ _ => True) (fun _ U o U' => ∃ v L, o = .returned v ∧ Q_rm15 Z p1 p2 h0 n0 v U'.heap L ∧ FrameEnd U o U' L ({ frames := 0, cells := 0, slots := 0, locals := 0 } : Room).cells ({ frames := 0, cells := 0, slots := 0, locals := 0 } : Room).slots) := by
  refine MetFree.of_bodySF (Jvm.Free.JP.mathPlain rfl (by decide +kernel)) hisR ?_
  intro p e s m args below meth c s₁ Bd hml0 hP hK
  obtain ⟨rfl, hZ, hh⟩ := hP
  have hx := Bd.exec
  have hby := Bd.bytes
  have hml : c.maxLocals = 2 := hml0
  have hown : s.vm.findClass "java/lang/Math" = some m.cls := findClass_of_methodNamed Bd.named
  have hnm := (name_of_methodNamed Bd.named Bd.method).1
  have X0 : Stand p l e ({ frames := 0, cells := 0, slots := 0, locals := 0 } : Room) s m #[(.int p1), (.int p2)] below meth c s₁ [] 0 0 := Stand.of_body Bd
  have e0 : s₁.heap = h0 := by rw [← hh, Bd.state]; rfl
  have N0 := Fr.nil n0
  show OGo p.tables e below (own_Kq s (fun v h L => Q_rm15 Z p1 p2 h0 n0 v h L) ({ frames := 0, cells := 0, slots := 0, locals := 0 } : Room).cells ({ frames := 0, cells := 0, slots := 0, locals := 0 } : Room).slots) (s₁.setTop (entryFrame m #[(.int p1), (.int p2)] 2))
  refine OGo.cast (ef_rm15 m p1 p2) ?_
  show OGo _ _ _ _ (s₁.setTop (mkF m 0 #[.val (.int p1), .val (.int p2)] []))
  refine OGo.via (fun _ k => XS.iloadN X0.here hx rfl (hb hby d15_0) rfl (XS.iloadN X0.here hx rfl (hb hby d15_1) rfl k)) ?_
  by_cases hc2_1 : p1 < p2
  · refine OGo.via (fun _ k => XS.icmpYes X0.here hx rfl (pc0 := 2) (pc' := 9) rfl (hb hby d15_2) rfl (tlt hc2_1).1 (by decide) (by decide) k) ?_
    show OGo _ _ _ _ (s₁.setTop (mkF m 9 #[.val (.int p1), .val (.int p2)] []))
    refine OGo.via (fun _ k => XS.iloadN X0.here hx rfl (hb hby d15_9) rfl k) ?_
    show OGo _ _ _ _ (s₁.setTop (mkF m 10 #[.val (.int p1), .val (.int p2)] [(.int p2)]))
    refine own_retI X0 hx Bd.notSynchronized Bd.returns (hb hby d15_10) (by decide) (by decide) ?_
    show Q_rm15 Z _ _ h0 n0 _ s₁.heap _
    exact ⟨(by rw [if_pos hc2_1]), N0, e0⟩
  · refine OGo.via (fun _ k => XS.icmpNo X0.here hx rfl (hb hby d15_2) rfl (flt hc2_1).1 k) ?_
    show OGo _ _ _ _ (s₁.setTop (mkF m 5 #[.val (.int p1), .val (.int p2)] []))
    refine OGo.via (fun _ k => XS.iloadN X0.here hx rfl (hb hby d15_5) rfl (XS.goto X0.here hx rfl (pc0 := 6) (pc' := 10) rfl (hb hby d15_6) (by decide) (by decide) k)) ?_
    show OGo _ _ _ _ (s₁.setTop (mkF m 10 #[.val (.int p1), .val (.int p2)] [(.int p1)]))
    refine own_retI X0 hx Bd.notSynchronized Bd.returns (hb hby d15_10) (by decide) (by decide) ?_
    show Q_rm15 Z _ _ h0 n0 _ s₁.heap _
    exact ⟨(by rw [if_neg hc2_1]), N0, e0⟩
theorem d16_0 : decode jdk_29_method_69_code 0 = .ok (.iload_n 0, 1) := by decide +kernel
theorem d16_1 : decode jdk_29_method_69_code 1 = .ok (.iload_n 1, 1) := by decide +kernel
theorem d16_2 : decode jdk_29_method_69_code 2 = .ok (.if_icmp .gt 7, 3) := by decide +kernel
theorem d16_9 : decode jdk_29_method_69_code 9 = .ok (.iload_n 1, 1) := by decide +kernel
theorem d16_10 : decode jdk_29_method_69_code 10 = .ok (.ireturn, 1) := by decide +kernel
theorem d16_5 : decode jdk_29_method_69_code 5 = .ok (.iload_n 0, 1) := by decide +kernel
theorem d16_6 : decode jdk_29_method_69_code 6 = .ok (.goto 4, 3) := by decide +kernel
theorem ef_rm16 (m : MethodId) (p1 : Int32) (p2 : Int32) : entryFrame m #[(.int p1), (.int p2)] 2 = mkF m 0 #[.val (.int p1), .val (.int p2)] [] := by first | (simp [entryFrame, mkF, argsToLocals, Value.category]; done) | rfl
def Q_rm16 (Z : State) (p1 : Int32) (p2 : Int32) (h0 : Heap) (n0 : Nat) (v : Option Value) (h : Heap) (L : List Loc) : Prop := v = some (.int (if p2 < p1 then p2 else p1)) ∧ Fr n0 L ∧ h = h0
set_option maxRecDepth 65536 in
set_option maxHeartbeats 40000000 in
theorem rm16 (l : Launch) (Z : State) (a0 : Array Value) (hw : ∀ d ∈ tables_1, d.before a0 Z = true) (ws : List Jvm.Cond) (p1 : Int32) (p2 : Int32) (h0 : Heap) (n0 : Nat) (Z0 : n0 ≤ h0.size) :
    MetFree l own_y2 (head1 (Jvm.Cond.code own_y2 jdk_29_method_69_code 2 (some .int) :: ws) ({ frames := 0, cells := 0, slots := 0, locals := 0 } : Room)) (fun a U => a = #[(.int p1), (.int p2)] ∧ Z.Warmed39 U.vm ∧ U.heap = h0) (fun _ _ _ _ _ => True) (fun _ U o U' => ∃ v L, o = .returned v ∧ Q_rm16 Z p1 p2 h0 n0 v U'.heap L ∧ FrameEnd U o U' L ({ frames := 0, cells := 0, slots := 0, locals := 0 } : Room).cells ({ frames := 0, cells := 0, slots := 0, locals := 0 } : Room).slots) := by
  refine MetFree.of_bodySF (Jvm.Free.JP.mathPlain rfl (by decide +kernel)) hisR ?_
  intro p e s m args below meth c s₁ Bd hml0 hP hK
  obtain ⟨rfl, hZ, hh⟩ := hP
  have hx := Bd.exec
  have hby := Bd.bytes
  have hml : c.maxLocals = 2 := hml0
  have hown : s.vm.findClass "java/lang/Math" = some m.cls := findClass_of_methodNamed Bd.named
  have hnm := (name_of_methodNamed Bd.named Bd.method).1
  have X0 : Stand p l e ({ frames := 0, cells := 0, slots := 0, locals := 0 } : Room) s m #[(.int p1), (.int p2)] below meth c s₁ [] 0 0 := Stand.of_body Bd
  have e0 : s₁.heap = h0 := by rw [← hh, Bd.state]; rfl
  have N0 := Fr.nil n0
  show OGo p.tables e below (own_Kq s (fun v h L => Q_rm16 Z p1 p2 h0 n0 v h L) ({ frames := 0, cells := 0, slots := 0, locals := 0 } : Room).cells ({ frames := 0, cells := 0, slots := 0, locals := 0 } : Room).slots) (s₁.setTop (entryFrame m #[(.int p1), (.int p2)] 2))
  refine OGo.cast (ef_rm16 m p1 p2) ?_
  show OGo _ _ _ _ (s₁.setTop (mkF m 0 #[.val (.int p1), .val (.int p2)] []))
  refine OGo.via (fun _ k => XS.iloadN X0.here hx rfl (hb hby d16_0) rfl (XS.iloadN X0.here hx rfl (hb hby d16_1) rfl k)) ?_
  by_cases hc2_1 : p2 < p1
  · refine OGo.via (fun _ k => XS.icmpYes X0.here hx rfl (pc0 := 2) (pc' := 9) rfl (hb hby d16_2) rfl (tlt hc2_1).2.2.1 (by decide) (by decide) k) ?_
    show OGo _ _ _ _ (s₁.setTop (mkF m 9 #[.val (.int p1), .val (.int p2)] []))
    refine OGo.via (fun _ k => XS.iloadN X0.here hx rfl (hb hby d16_9) rfl k) ?_
    show OGo _ _ _ _ (s₁.setTop (mkF m 10 #[.val (.int p1), .val (.int p2)] [(.int p2)]))
    refine own_retI X0 hx Bd.notSynchronized Bd.returns (hb hby d16_10) (by decide) (by decide) ?_
    show Q_rm16 Z _ _ h0 n0 _ s₁.heap _
    exact ⟨(by rw [if_pos hc2_1]), N0, e0⟩
  · refine OGo.via (fun _ k => XS.icmpNo X0.here hx rfl (hb hby d16_2) rfl (flt hc2_1).2.2.1 k) ?_
    show OGo _ _ _ _ (s₁.setTop (mkF m 5 #[.val (.int p1), .val (.int p2)] []))
    refine OGo.via (fun _ k => XS.iloadN X0.here hx rfl (hb hby d16_5) rfl (XS.goto X0.here hx rfl (pc0 := 6) (pc' := 10) rfl (hb hby d16_6) (by decide) (by decide) k)) ?_
    show OGo _ _ _ _ (s₁.setTop (mkF m 10 #[.val (.int p1), .val (.int p2)] [(.int p1)]))
    refine own_retI X0 hx Bd.notSynchronized Bd.returns (hb hby d16_10) (by decide) (by decide) ?_
    show Q_rm16 Z _ _ h0 n0 _ s₁.heap _
    exact ⟨(by rw [if_neg hc2_1]), N0, e0⟩
theorem d6_0 : decode jdk_52_method_21_code 0 = .ok (.iconst 0, 1) := by decide +kernel
theorem d6_1 : decode jdk_52_method_21_code 1 = .ok (.istore 5, 2) := by decide +kernel
theorem d6_3 : decode jdk_52_method_21_code 3 = .ok (.iload 5, 2) := by decide +kernel
theorem d6_5 : decode jdk_52_method_21_code 5 = .ok (.iload 4, 2) := by decide +kernel
theorem d6_7 : decode jdk_52_method_21_code 7 = .ok (.if_icmp .ge 37, 3) := by decide +kernel
theorem d6_10 : decode jdk_52_method_21_code 10 = .ok (.aload_n 0, 1) := by decide +kernel
theorem d6_11 : decode jdk_52_method_21_code 11 = .ok (.iload_n 1, 1) := by decide +kernel
theorem d6_12 : decode jdk_52_method_21_code 12 = .ok (.caload, 1) := by decide +kernel
theorem d6_13 : decode jdk_52_method_21_code 13 = .ok (.istore 6, 2) := by decide +kernel
theorem d6_15 : decode jdk_52_method_21_code 15 = .ok (.iload 6, 2) := by decide +kernel
theorem d6_17 : decode jdk_52_method_21_code 17 = .ok (.sipush 255, 3) := by decide +kernel
theorem d6_20 : decode jdk_52_method_21_code 20 = .ok (.if_icmp .le 6, 3) := by decide +kernel
theorem d6_26 : decode jdk_52_method_21_code 26 = .ok (.aload_n 2, 1) := by decide +kernel
theorem d6_27 : decode jdk_52_method_21_code 27 = .ok (.iload_n 3, 1) := by decide +kernel
theorem d6_28 : decode jdk_52_method_21_code 28 = .ok (.iload 6, 2) := by decide +kernel
theorem d6_30 : decode jdk_52_method_21_code 30 = .ok (.i2b, 1) := by decide +kernel
theorem d6_31 : decode jdk_52_method_21_code 31 = .ok (.bastore, 1) := by decide +kernel
theorem d6_32 : decode jdk_52_method_21_code 32 = .ok (.iinc 1 1, 3) := by decide +kernel
theorem d6_35 : decode jdk_52_method_21_code 35 = .ok (.iinc 3 1, 3) := by decide +kernel
theorem d6_38 : decode jdk_52_method_21_code 38 = .ok (.iinc 5 1, 3) := by decide +kernel
theorem d6_41 : decode jdk_52_method_21_code 41 = .ok (.goto (-38), 3) := by decide +kernel
theorem d6_44 : decode jdk_52_method_21_code 44 = .ok (.iload 4, 2) := by decide +kernel
theorem d6_46 : decode jdk_52_method_21_code 46 = .ok (.ireturn, 1) := by decide +kernel
theorem pn_StringUTF16 : plainName "java/lang/StringUTF16" = true := by first | (simp [plainName, overriddenIn]; done) | decide +kernel
theorem ef_rm6 (m : MethodId) (a1 : Addr) (a3 : Addr) : entryFrame m #[(.ref a1), (.int (0 : Int32)), (.ref a3), (.int (0 : Int32)), (.int (6 : Int32))] 7 = mkF m 0 #[.val (.ref a1), .val (.int (0 : Int32)), .val (.ref a3), .val (.int (0 : Int32)), .val (.int (6 : Int32)), .unset, .unset] [] := by first | (simp [entryFrame, mkF, argsToLocals, Value.category]; done) | rfl
def Q_rm6 (Z : State) (a1 : Addr) (a3 : Addr) (k1 : ClassId) (k3 : ClassId) (c0 : Int32) (c1 : Int32) (c2 : Int32) (c3 : Int32) (c4 : Int32) (c5 : Int32) (w : Int32) (h0 : Heap) (n0 : Nat) (v : Option Value) (h : Heap) (L : List Loc) : Prop := v = some (.int (6 : Int32)) ∧ Fr n0 L ∧ Keep h0 h [a3] ∧ Arv Z h a3 k3 .byte (6 : Int32) [(.int ((c0.toInt8.toInt32).toInt8.toInt32)), (.int ((c1.toInt8.toInt32).toInt8.toInt32)), (.int ((c2.toInt8.toInt32).toInt8.toInt32)), (.int ((c3.toInt8.toInt32).toInt8.toInt32)), (.int ((c4.toInt8.toInt32).toInt8.toInt32)), (.int ((c5.toInt8.toInt32).toInt8.toInt32))] (.int (0 : Int32)) ∧ Sta Z h "java/lang/String" "COMPACT_STRINGS" "Z" (.int w)
set_option maxRecDepth 65536 in
set_option maxHeartbeats 40000000 in
theorem rm6 (l : Launch) (Z : State) (a0 : Array Value) (hw : ∀ d ∈ tables_1, d.before a0 Z = true) (ws : List Jvm.Cond) (a1 : Addr) (a3 : Addr) (k1 : ClassId) (k3 : ClassId) (c0 : Int32) (c1 : Int32) (c2 : Int32) (c3 : Int32) (c4 : Int32) (c5 : Int32) (w : Int32) (h0 : Heap) (n0 : Nat) (Z0 : n0 ≤ h0.size) (S_COMPACT_STRINGS : Sta Z h0 "java/lang/String" "COMPACT_STRINGS" "Z" (.int w)) (V_a1 : Arv Z h0 a1 k1 .char (6 : Int32) [(.int c0), (.int c1), (.int c2), (.int c3), (.int c4), (.int c5)] (.int (0 : Int32))) (V_a3 : Arv Z h0 a3 k3 .byte (6 : Int32) [(.int (0 : Int32)), (.int (0 : Int32)), (.int (0 : Int32)), (.int (0 : Int32)), (.int (0 : Int32)), (.int (0 : Int32))] (.int (0 : Int32))) (ne_a1_a3 : a1 ≠ a3) (g_a3 : n0 ≤ a3) (hc0 : ¬ (255 : Int32) < c0) (hc1 : ¬ (255 : Int32) < c1) (hc2 : ¬ (255 : Int32) < c2) (hc3 : ¬ (255 : Int32) < c3) (hc4 : ¬ (255 : Int32) < c4) (hc5 : ¬ (255 : Int32) < c5) :
    MetFree l own_y3 (head1 (Jvm.Cond.code own_y3 jdk_52_method_21_code 7 (some .int) :: ws) ({ frames := 0, cells := 0, slots := 0, locals := 0 } : Room)) (fun a U => a = #[(.ref a1), (.int (0 : Int32)), (.ref a3), (.int (0 : Int32)), (.int (6 : Int32))] ∧ Z.Warmed39 U.vm ∧ U.heap = h0) (fun _ _ _ _ _ => True) (fun _ U o U' => ∃ v L, o = .returned v ∧ Q_rm6 Z a1 a3 k1 k3 c0 c1 c2 c3 c4 c5 w h0 n0 v U'.heap L ∧ FrameEnd U o U' L ({ frames := 0, cells := 0, slots := 0, locals := 0 } : Room).cells ({ frames := 0, cells := 0, slots := 0, locals := 0 } : Room).slots) := by
  refine MetFree.of_bodySF (plainFor_of_name pn_StringUTF16) hisR ?_
  intro p e s m args below meth c s₁ Bd hml0 hP hK
  obtain ⟨rfl, hZ, hh⟩ := hP
  have hx := Bd.exec
  have hby := Bd.bytes
  have hml : c.maxLocals = 7 := hml0
  have hown : s.vm.findClass "java/lang/StringUTF16" = some m.cls := findClass_of_methodNamed Bd.named
  have hnm := (name_of_methodNamed Bd.named Bd.method).1
  have X0 : Stand p l e ({ frames := 0, cells := 0, slots := 0, locals := 0 } : Room) s m #[(.ref a1), (.int (0 : Int32)), (.ref a3), (.int (0 : Int32)), (.int (6 : Int32))] below meth c s₁ [] 0 0 := Stand.of_body Bd
  have e0 : s₁.heap = h0 := by rw [← hh, Bd.state]; rfl
  have N0 := Fr.nil n0
  show OGo p.tables e below (own_Kq s (fun v h L => Q_rm6 Z a1 a3 k1 k3 c0 c1 c2 c3 c4 c5 w h0 n0 v h L) ({ frames := 0, cells := 0, slots := 0, locals := 0 } : Room).cells ({ frames := 0, cells := 0, slots := 0, locals := 0 } : Room).slots) (s₁.setTop (entryFrame m #[(.ref a1), (.int (0 : Int32)), (.ref a3), (.int (0 : Int32)), (.int (6 : Int32))] 7))
  refine OGo.cast (ef_rm6 m a1 a3) ?_
  show OGo _ _ _ _ (s₁.setTop (mkF m 0 #[.val (.ref a1), .val (.int (0 : Int32)), .val (.ref a3), .val (.int (0 : Int32)), .val (.int (6 : Int32)), .unset, .unset] []))
  refine OGo.via (fun _ k => XS.iconst X0.here hx rfl (hb hby d6_0) (XS.istore X0.here hx rfl (hb hby d6_1) rfl (l' := #[.val (.ref a1), .val (.int (0 : Int32)), .val (.ref a3), .val (.int (0 : Int32)), .val (.int (6 : Int32)), .val (.int (0 : Int32)), .unset]) rfl (XS.iload X0.here hx rfl (hb hby d6_3) rfl (XS.iload X0.here hx rfl (hb hby d6_5) rfl k)))) ?_
  refine OGo.via (fun _ k => XS.icmpNo X0.here hx rfl (hb hby d6_7) rfl (tlt (by decide : (0 : Int32) < (6 : Int32))).2.1 k) ?_
  show OGo _ _ _ _ (s₁.setTop (mkF m 10 #[.val (.ref a1), .val (.int (0 : Int32)), .val (.ref a3), .val (.int (0 : Int32)), .val (.int (6 : Int32)), .val (.int (0 : Int32)), .unset] []))
  refine OGo.via (fun _ k => XS.aloadN X0.here hx rfl (hb hby d6_10) rfl rfl (XS.iloadN X0.here hx rfl (hb hby d6_11) rfl k)) ?_
  obtain ⟨cl1, Ar1, q1, Sz1, Ng1, Hs1, Gf1⟩ := id V_a1
  have hin1 : ¬ ((0 : Int32) < 0 ∨ cl1.slots.size ≤ ((0 : Int32)).toNatClampNeg) := inb_of Sz1 ⟨by decide, by decide⟩
  have hat1 : cl1.slots[((0 : Int32)).toNatClampNeg]? = some (.int c0) := Hs1.at hin1 rfl
  refine OGo.via (X0.caload hx (j := (0 : Int32)) (v := (.int c0)) (by rw [e0]; exact Ar1.1) (State.isArrayOf_alike hZ.alike Ar1.2.1) Ar1.2.2 hin1 hat1 (g := (mkF m 12 #[.val (.ref a1), .val (.int (0 : Int32)), .val (.ref a3), .val (.int (0 : Int32)), .val (.int (6 : Int32)), .val (.int (0 : Int32)), .unset] [(.int (0 : Int32)), (.ref a1)])) rfl rfl (hb hby d6_12)) ?_
  show OGo _ _ _ _ (s₁.setTop (mkF m 13 #[.val (.ref a1), .val (.int (0 : Int32)), .val (.ref a3), .val (.int (0 : Int32)), .val (.int (6 : Int32)), .val (.int (0 : Int32)), .unset] [(.int c0)]))
  refine OGo.via (fun _ k => XS.istore X0.here hx rfl (hb hby d6_13) rfl (l' := #[.val (.ref a1), .val (.int (0 : Int32)), .val (.ref a3), .val (.int (0 : Int32)), .val (.int (6 : Int32)), .val (.int (0 : Int32)), .val (.int c0)]) rfl (XS.iload X0.here hx rfl (hb hby d6_15) rfl (XS.sipush X0.here hx rfl (hb hby d6_17) k))) ?_
  refine OGo.via (fun _ k => XS.icmpYes X0.here hx rfl (pc0 := 20) (pc' := 26) rfl (hb hby d6_20) rfl (flt hc0).2.2.2 (by decide) (by decide) k) ?_
  show OGo _ _ _ _ (s₁.setTop (mkF m 26 #[.val (.ref a1), .val (.int (0 : Int32)), .val (.ref a3), .val (.int (0 : Int32)), .val (.int (6 : Int32)), .val (.int (0 : Int32)), .val (.int c0)] []))
  refine OGo.via (fun _ k => XS.aloadN X0.here hx rfl (hb hby d6_26) rfl rfl (XS.iloadN X0.here hx rfl (hb hby d6_27) rfl (XS.iload X0.here hx rfl (hb hby d6_28) rfl (XS.i2b X0.here hx rfl (hb hby d6_30) rfl k)))) ?_
  obtain ⟨cl2, Ar2, q2, Sz2, Ng2, Hs2, Gf2⟩ := id V_a3
  have hin2 : ¬ ((0 : Int32) < 0 ∨ cl2.slots.size ≤ ((0 : Int32)).toNatClampNeg) := inb_of Sz2 ⟨by decide, by decide⟩
  obtain ⟨T2, h2, X2, e2, W2, st2⟩ := stB X0 hx hZ e0 Ar2 (j := (0 : Int32)) hin2 (g := (mkF m 31 #[.val (.ref a1), .val (.int (0 : Int32)), .val (.ref a3), .val (.int (0 : Int32)), .val (.int (6 : Int32)), .val (.int (0 : Int32)), .val (.int c0)] [(.int (c0.toInt8.toInt32)), (.int (0 : Int32)), (.ref a3)])) rfl rfl (hb hby d6_31)
  refine OGo.via st2 ?_
  have V2 : Arv Z h2 a3 k3 .byte (6 : Int32) [(.int ((c0.toInt8.toInt32).toInt8.toInt32)), (.int (0 : Int32)), (.int (0 : Int32)), (.int (0 : Int32)), (.int (0 : Int32)), (.int (0 : Int32))] (.int (0 : Int32)) := Arv.set Ar2 q2 Sz2 Ng2 Hs2 Gf2 (fits_nar_byte _) W2 0 rfl (Nat.le_of_ble_eq_true rfl)
  have K2 : Keep h0 h2 [a3] := (Keep.refl h0 [a3]).wr W2 (Or.inl (List.mem_of_getElem? (i := 0) rfl))
  have N2 := Fr.snoc X2 N0 g_a3
  show OGo _ _ _ _ (T2.setTop (mkF m 32 #[.val (.ref a1), .val (.int (0 : Int32)), .val (.ref a3), .val (.int (0 : Int32)), .val (.int (6 : Int32)), .val (.int (0 : Int32)), .val (.int c0)] []))
  refine OGo.via (fun _ k => XS.iinc X2.here hx rfl (hb hby d6_32) rfl (l' := #[.val (.ref a1), .val (.int ((0 : Int32) + (1 : Int32))), .val (.ref a3), .val (.int (0 : Int32)), .val (.int (6 : Int32)), .val (.int (0 : Int32)), .val (.int c0)]) rfl k) ?_
  show OGo _ _ _ _ (T2.setTop (mkF m 35 #[.val (.ref a1), .val (.int ((0 : Int32) + (1 : Int32))), .val (.ref a3), .val (.int (0 : Int32)), .val (.int (6 : Int32)), .val (.int (0 : Int32)), .val (.int c0)] []))
  rw [show ((0 : Int32) + (1 : Int32)) = (1 : Int32) from by decide]
  refine OGo.via (fun _ k => XS.iinc X2.here hx rfl (hb hby d6_35) rfl (l' := #[.val (.ref a1), .val (.int (1 : Int32)), .val (.ref a3), .val (.int ((0 : Int32) + (1 : Int32))), .val (.int (6 : Int32)), .val (.int (0 : Int32)), .val (.int c0)]) rfl k) ?_
  show OGo _ _ _ _ (T2.setTop (mkF m 38 #[.val (.ref a1), .val (.int (1 : Int32)), .val (.ref a3), .val (.int ((0 : Int32) + (1 : Int32))), .val (.int (6 : Int32)), .val (.int (0 : Int32)), .val (.int c0)] []))
  rw [show ((0 : Int32) + (1 : Int32)) = (1 : Int32) from by decide]
  refine OGo.via (fun _ k => XS.iinc X2.here hx rfl (hb hby d6_38) rfl (l' := #[.val (.ref a1), .val (.int (1 : Int32)), .val (.ref a3), .val (.int (1 : Int32)), .val (.int (6 : Int32)), .val (.int ((0 : Int32) + (1 : Int32))), .val (.int c0)]) rfl k) ?_
  show OGo _ _ _ _ (T2.setTop (mkF m 41 #[.val (.ref a1), .val (.int (1 : Int32)), .val (.ref a3), .val (.int (1 : Int32)), .val (.int (6 : Int32)), .val (.int ((0 : Int32) + (1 : Int32))), .val (.int c0)] []))
  rw [show ((0 : Int32) + (1 : Int32)) = (1 : Int32) from by decide]
  refine OGo.via (fun _ k => XS.goto X2.here hx rfl (pc0 := 41) (pc' := 3) rfl (hb hby d6_41) (by decide) (by decide) (XS.iload X2.here hx rfl (hb hby d6_3) rfl (XS.iload X2.here hx rfl (hb hby d6_5) rfl k))) ?_
  refine OGo.via (fun _ k => XS.icmpNo X2.here hx rfl (hb hby d6_7) rfl (tlt (by decide : (1 : Int32) < (6 : Int32))).2.1 k) ?_
  show OGo _ _ _ _ (T2.setTop (mkF m 10 #[.val (.ref a1), .val (.int (1 : Int32)), .val (.ref a3), .val (.int (1 : Int32)), .val (.int (6 : Int32)), .val (.int (1 : Int32)), .val (.int c0)] []))
  refine OGo.via (fun _ k => XS.aloadN X2.here hx rfl (hb hby d6_10) rfl rfl (XS.iloadN X2.here hx rfl (hb hby d6_11) rfl k)) ?_
  have f7 := V_a1.other W2 ne_a1_a3
  obtain ⟨cl6, Ar6, q6, Sz6, Ng6, Hs6, Gf6⟩ := id f7
  have hin6 : ¬ ((1 : Int32) < 0 ∨ cl6.slots.size ≤ ((1 : Int32)).toNatClampNeg) := inb_of Sz6 ⟨by decide, by decide⟩
  have hat6 : cl6.slots[((1 : Int32)).toNatClampNeg]? = some (.int c1) := Hs6.at hin6 rfl
  refine OGo.via (X2.caload hx (j := (1 : Int32)) (v := (.int c1)) (by rw [e2]; exact Ar6.1) (State.isArrayOf_alike hZ.alike Ar6.2.1) Ar6.2.2 hin6 hat6 (g := (mkF m 12 #[.val (.ref a1), .val (.int (1 : Int32)), .val (.ref a3), .val (.int (1 : Int32)), .val (.int (6 : Int32)), .val (.int (1 : Int32)), .val (.int c0)] [(.int (1 : Int32)), (.ref a1)])) rfl rfl (hb hby d6_12)) ?_
  show OGo _ _ _ _ (T2.setTop (mkF m 13 #[.val (.ref a1), .val (.int (1 : Int32)), .val (.ref a3), .val (.int (1 : Int32)), .val (.int (6 : Int32)), .val (.int (1 : Int32)), .val (.int c0)] [(.int c1)]))
  refine OGo.via (fun _ k => XS.istore X2.here hx rfl (hb hby d6_13) rfl (l' := #[.val (.ref a1), .val (.int (1 : Int32)), .val (.ref a3), .val (.int (1 : Int32)), .val (.int (6 : Int32)), .val (.int (1 : Int32)), .val (.int c1)]) rfl (XS.iload X2.here hx rfl (hb hby d6_15) rfl (XS.sipush X2.here hx rfl (hb hby d6_17) k))) ?_
  refine OGo.via (fun _ k => XS.icmpYes X2.here hx rfl (pc0 := 20) (pc' := 26) rfl (hb hby d6_20) rfl (flt hc1).2.2.2 (by decide) (by decide) k) ?_
  show OGo _ _ _ _ (T2.setTop (mkF m 26 #[.val (.ref a1), .val (.int (1 : Int32)), .val (.ref a3), .val (.int (1 : Int32)), .val (.int (6 : Int32)), .val (.int (1 : Int32)), .val (.int c1)] []))
  refine OGo.via (fun _ k => XS.aloadN X2.here hx rfl (hb hby d6_26) rfl rfl (XS.iloadN X2.here hx rfl (hb hby d6_27) rfl (XS.iload X2.here hx rfl (hb hby d6_28) rfl (XS.i2b X2.here hx rfl (hb hby d6_30) rfl k)))) ?_
  obtain ⟨cl8, Ar8, q8, Sz8, Ng8, Hs8, Gf8⟩ := id V2
  have hin8 : ¬ ((1 : Int32) < 0 ∨ cl8.slots.size ≤ ((1 : Int32)).toNatClampNeg) := inb_of Sz8 ⟨by decide, by decide⟩
  obtain ⟨T8, h8, X8, e8, W8, st8⟩ := stB X2 hx hZ e2 Ar8 (j := (1 : Int32)) hin8 (g := (mkF m 31 #[.val (.ref a1), .val (.int (1 : Int32)), .val (.ref a3), .val (.int (1 : Int32)), .val (.int (6 : Int32)), .val (.int (1 : Int32)), .val (.int c1)] [(.int (c1.toInt8.toInt32)), (.int (1 : Int32)), (.ref a3)])) rfl rfl (hb hby d6_31)
  refine OGo.via st8 ?_
  have V8 : Arv Z h8 a3 k3 .byte (6 : Int32) [(.int ((c0.toInt8.toInt32).toInt8.toInt32)), (.int ((c1.toInt8.toInt32).toInt8.toInt32)), (.int (0 : Int32)), (.int (0 : Int32)), (.int (0 : Int32)), (.int (0 : Int32))] (.int (0 : Int32)) := Arv.set Ar8 q8 Sz8 Ng8 Hs8 Gf8 (fits_nar_byte _) W8 1 rfl (Nat.le_of_ble_eq_true rfl)
  have K8 : Keep h0 h8 [a3] := K2.wr W8 (Or.inl (List.mem_of_getElem? (i := 0) rfl))
  have N8 := Fr.snoc X8 N2 g_a3
  show OGo _ _ _ _ (T8.setTop (mkF m 32 #[.val (.ref a1), .val (.int (1 : Int32)), .val (.ref a3), .val (.int (1 : Int32)), .val (.int (6 : Int32)), .val (.int (1 : Int32)), .val (.int c1)] []))
  refine OGo.via (fun _ k => XS.iinc X8.here hx rfl (hb hby d6_32) rfl (l' := #[.val (.ref a1), .val (.int ((1 : Int32) + (1 : Int32))), .val (.ref a3), .val (.int (1 : Int32)), .val (.int (6 : Int32)), .val (.int (1 : Int32)), .val (.int c1)]) rfl k) ?_
  show OGo _ _ _ _ (T8.setTop (mkF m 35 #[.val (.ref a1), .val (.int ((1 : Int32) + (1 : Int32))), .val (.ref a3), .val (.int (1 : Int32)), .val (.int (6 : Int32)), .val (.int (1 : Int32)), .val (.int c1)] []))
  rw [show ((1 : Int32) + (1 : Int32)) = (2 : Int32) from by decide]
  refine OGo.via (fun _ k => XS.iinc X8.here hx rfl (hb hby d6_35) rfl (l' := #[.val (.ref a1), .val (.int (2 : Int32)), .val (.ref a3), .val (.int ((1 : Int32) + (1 : Int32))), .val (.int (6 : Int32)), .val (.int (1 : Int32)), .val (.int c1)]) rfl k) ?_
  show OGo _ _ _ _ (T8.setTop (mkF m 38 #[.val (.ref a1), .val (.int (2 : Int32)), .val (.ref a3), .val (.int ((1 : Int32) + (1 : Int32))), .val (.int (6 : Int32)), .val (.int (1 : Int32)), .val (.int c1)] []))
  rw [show ((1 : Int32) + (1 : Int32)) = (2 : Int32) from by decide]
  refine OGo.via (fun _ k => XS.iinc X8.here hx rfl (hb hby d6_38) rfl (l' := #[.val (.ref a1), .val (.int (2 : Int32)), .val (.ref a3), .val (.int (2 : Int32)), .val (.int (6 : Int32)), .val (.int ((1 : Int32) + (1 : Int32))), .val (.int c1)]) rfl k) ?_
  show OGo _ _ _ _ (T8.setTop (mkF m 41 #[.val (.ref a1), .val (.int (2 : Int32)), .val (.ref a3), .val (.int (2 : Int32)), .val (.int (6 : Int32)), .val (.int ((1 : Int32) + (1 : Int32))), .val (.int c1)] []))
  rw [show ((1 : Int32) + (1 : Int32)) = (2 : Int32) from by decide]
  refine OGo.via (fun _ k => XS.goto X8.here hx rfl (pc0 := 41) (pc' := 3) rfl (hb hby d6_41) (by decide) (by decide) (XS.iload X8.here hx rfl (hb hby d6_3) rfl (XS.iload X8.here hx rfl (hb hby d6_5) rfl k))) ?_
  refine OGo.via (fun _ k => XS.icmpNo X8.here hx rfl (hb hby d6_7) rfl (tlt (by decide : (2 : Int32) < (6 : Int32))).2.1 k) ?_
  show OGo _ _ _ _ (T8.setTop (mkF m 10 #[.val (.ref a1), .val (.int (2 : Int32)), .val (.ref a3), .val (.int (2 : Int32)), .val (.int (6 : Int32)), .val (.int (2 : Int32)), .val (.int c1)] []))
  refine OGo.via (fun _ k => XS.aloadN X8.here hx rfl (hb hby d6_10) rfl rfl (XS.iloadN X8.here hx rfl (hb hby d6_11) rfl k)) ?_
  have f13 := f7.other W8 ne_a1_a3
  obtain ⟨cl12, Ar12, q12, Sz12, Ng12, Hs12, Gf12⟩ := id f13
  have hin12 : ¬ ((2 : Int32) < 0 ∨ cl12.slots.size ≤ ((2 : Int32)).toNatClampNeg) := inb_of Sz12 ⟨by decide, by decide⟩
  have hat12 : cl12.slots[((2 : Int32)).toNatClampNeg]? = some (.int c2) := Hs12.at hin12 rfl
  refine OGo.via (X8.caload hx (j := (2 : Int32)) (v := (.int c2)) (by rw [e8]; exact Ar12.1) (State.isArrayOf_alike hZ.alike Ar12.2.1) Ar12.2.2 hin12 hat12 (g := (mkF m 12 #[.val (.ref a1), .val (.int (2 : Int32)), .val (.ref a3), .val (.int (2 : Int32)), .val (.int (6 : Int32)), .val (.int (2 : Int32)), .val (.int c1)] [(.int (2 : Int32)), (.ref a1)])) rfl rfl (hb hby d6_12)) ?_
  show OGo _ _ _ _ (T8.setTop (mkF m 13 #[.val (.ref a1), .val (.int (2 : Int32)), .val (.ref a3), .val (.int (2 : Int32)), .val (.int (6 : Int32)), .val (.int (2 : Int32)), .val (.int c1)] [(.int c2)]))
  refine OGo.via (fun _ k => XS.istore X8.here hx rfl (hb hby d6_13) rfl (l' := #[.val (.ref a1), .val (.int (2 : Int32)), .val (.ref a3), .val (.int (2 : Int32)), .val (.int (6 : Int32)), .val (.int (2 : Int32)), .val (.int c2)]) rfl (XS.iload X8.here hx rfl (hb hby d6_15) rfl (XS.sipush X8.here hx rfl (hb hby d6_17) k))) ?_
  refine OGo.via (fun _ k => XS.icmpYes X8.here hx rfl (pc0 := 20) (pc' := 26) rfl (hb hby d6_20) rfl (flt hc2).2.2.2 (by decide) (by decide) k) ?_
  show OGo _ _ _ _ (T8.setTop (mkF m 26 #[.val (.ref a1), .val (.int (2 : Int32)), .val (.ref a3), .val (.int (2 : Int32)), .val (.int (6 : Int32)), .val (.int (2 : Int32)), .val (.int c2)] []))
  refine OGo.via (fun _ k => XS.aloadN X8.here hx rfl (hb hby d6_26) rfl rfl (XS.iloadN X8.here hx rfl (hb hby d6_27) rfl (XS.iload X8.here hx rfl (hb hby d6_28) rfl (XS.i2b X8.here hx rfl (hb hby d6_30) rfl k)))) ?_
  obtain ⟨cl14, Ar14, q14, Sz14, Ng14, Hs14, Gf14⟩ := id V8
  have hin14 : ¬ ((2 : Int32) < 0 ∨ cl14.slots.size ≤ ((2 : Int32)).toNatClampNeg) := inb_of Sz14 ⟨by decide, by decide⟩
  obtain ⟨T14, h14, X14, e14, W14, st14⟩ := stB X8 hx hZ e8 Ar14 (j := (2 : Int32)) hin14 (g := (mkF m 31 #[.val (.ref a1), .val (.int (2 : Int32)), .val (.ref a3), .val (.int (2 : Int32)), .val (.int (6 : Int32)), .val (.int (2 : Int32)), .val (.int c2)] [(.int (c2.toInt8.toInt32)), (.int (2 : Int32)), (.ref a3)])) rfl rfl (hb hby d6_31)
  refine OGo.via st14 ?_
  have V14 : Arv Z h14 a3 k3 .byte (6 : Int32) [(.int ((c0.toInt8.toInt32).toInt8.toInt32)), (.int ((c1.toInt8.toInt32).toInt8.toInt32)), (.int ((c2.toInt8.toInt32).toInt8.toInt32)), (.int (0 : Int32)), (.int (0 : Int32)), (.int (0 : Int32))] (.int (0 : Int32)) := Arv.set Ar14 q14 Sz14 Ng14 Hs14 Gf14 (fits_nar_byte _) W14 2 rfl (Nat.le_of_ble_eq_true rfl)
  have K14 : Keep h0 h14 [a3] := K8.wr W14 (Or.inl (List.mem_of_getElem? (i := 0) rfl))
  have N14 := Fr.snoc X14 N8 g_a3
  show OGo _ _ _ _ (T14.setTop (mkF m 32 #[.val (.ref a1), .val (.int (2 : Int32)), .val (.ref a3), .val (.int (2 : Int32)), .val (.int (6 : Int32)), .val (.int (2 : Int32)), .val (.int c2)] []))
  refine OGo.via (fun _ k => XS.iinc X14.here hx rfl (hb hby d6_32) rfl (l' := #[.val (.ref a1), .val (.int ((2 : Int32) + (1 : Int32))), .val (.ref a3), .val (.int (2 : Int32)), .val (.int (6 : Int32)), .val (.int (2 : Int32)), .val (.int c2)]) rfl k) ?_
  show OGo _ _ _ _ (T14.setTop (mkF m 35 #[.val (.ref a1), .val (.int ((2 : Int32) + (1 : Int32))), .val (.ref a3), .val (.int (2 : Int32)), .val (.int (6 : Int32)), .val (.int (2 : Int32)), .val (.int c2)] []))
  rw [show ((2 : Int32) + (1 : Int32)) = (3 : Int32) from by decide]
  refine OGo.via (fun _ k => XS.iinc X14.here hx rfl (hb hby d6_35) rfl (l' := #[.val (.ref a1), .val (.int (3 : Int32)), .val (.ref a3), .val (.int ((2 : Int32) + (1 : Int32))), .val (.int (6 : Int32)), .val (.int (2 : Int32)), .val (.int c2)]) rfl k) ?_
  show OGo _ _ _ _ (T14.setTop (mkF m 38 #[.val (.ref a1), .val (.int (3 : Int32)), .val (.ref a3), .val (.int ((2 : Int32) + (1 : Int32))), .val (.int (6 : Int32)), .val (.int (2 : Int32)), .val (.int c2)] []))
  rw [show ((2 : Int32) + (1 : Int32)) = (3 : Int32) from by decide]
  refine OGo.via (fun _ k => XS.iinc X14.here hx rfl (hb hby d6_38) rfl (l' := #[.val (.ref a1), .val (.int (3 : Int32)), .val (.ref a3), .val (.int (3 : Int32)), .val (.int (6 : Int32)), .val (.int ((2 : Int32) + (1 : Int32))), .val (.int c2)]) rfl k) ?_
  show OGo _ _ _ _ (T14.setTop (mkF m 41 #[.val (.ref a1), .val (.int (3 : Int32)), .val (.ref a3), .val (.int (3 : Int32)), .val (.int (6 : Int32)), .val (.int ((2 : Int32) + (1 : Int32))), .val (.int c2)] []))
  rw [show ((2 : Int32) + (1 : Int32)) = (3 : Int32) from by decide]
  refine OGo.via (fun _ k => XS.goto X14.here hx rfl (pc0 := 41) (pc' := 3) rfl (hb hby d6_41) (by decide) (by decide) (XS.iload X14.here hx rfl (hb hby d6_3) rfl (XS.iload X14.here hx rfl (hb hby d6_5) rfl k))) ?_
  refine OGo.via (fun _ k => XS.icmpNo X14.here hx rfl (hb hby d6_7) rfl (tlt (by decide : (3 : Int32) < (6 : Int32))).2.1 k) ?_
  show OGo _ _ _ _ (T14.setTop (mkF m 10 #[.val (.ref a1), .val (.int (3 : Int32)), .val (.ref a3), .val (.int (3 : Int32)), .val (.int (6 : Int32)), .val (.int (3 : Int32)), .val (.int c2)] []))
  refine OGo.via (fun _ k => XS.aloadN X14.here hx rfl (hb hby d6_10) rfl rfl (XS.iloadN X14.here hx rfl (hb hby d6_11) rfl k)) ?_
  have f19 := f13.other W14 ne_a1_a3
  obtain ⟨cl18, Ar18, q18, Sz18, Ng18, Hs18, Gf18⟩ := id f19
  have hin18 : ¬ ((3 : Int32) < 0 ∨ cl18.slots.size ≤ ((3 : Int32)).toNatClampNeg) := inb_of Sz18 ⟨by decide, by decide⟩
  have hat18 : cl18.slots[((3 : Int32)).toNatClampNeg]? = some (.int c3) := Hs18.at hin18 rfl
  refine OGo.via (X14.caload hx (j := (3 : Int32)) (v := (.int c3)) (by rw [e14]; exact Ar18.1) (State.isArrayOf_alike hZ.alike Ar18.2.1) Ar18.2.2 hin18 hat18 (g := (mkF m 12 #[.val (.ref a1), .val (.int (3 : Int32)), .val (.ref a3), .val (.int (3 : Int32)), .val (.int (6 : Int32)), .val (.int (3 : Int32)), .val (.int c2)] [(.int (3 : Int32)), (.ref a1)])) rfl rfl (hb hby d6_12)) ?_
  show OGo _ _ _ _ (T14.setTop (mkF m 13 #[.val (.ref a1), .val (.int (3 : Int32)), .val (.ref a3), .val (.int (3 : Int32)), .val (.int (6 : Int32)), .val (.int (3 : Int32)), .val (.int c2)] [(.int c3)]))
  refine OGo.via (fun _ k => XS.istore X14.here hx rfl (hb hby d6_13) rfl (l' := #[.val (.ref a1), .val (.int (3 : Int32)), .val (.ref a3), .val (.int (3 : Int32)), .val (.int (6 : Int32)), .val (.int (3 : Int32)), .val (.int c3)]) rfl (XS.iload X14.here hx rfl (hb hby d6_15) rfl (XS.sipush X14.here hx rfl (hb hby d6_17) k))) ?_
  refine OGo.via (fun _ k => XS.icmpYes X14.here hx rfl (pc0 := 20) (pc' := 26) rfl (hb hby d6_20) rfl (flt hc3).2.2.2 (by decide) (by decide) k) ?_
  show OGo _ _ _ _ (T14.setTop (mkF m 26 #[.val (.ref a1), .val (.int (3 : Int32)), .val (.ref a3), .val (.int (3 : Int32)), .val (.int (6 : Int32)), .val (.int (3 : Int32)), .val (.int c3)] []))
  refine OGo.via (fun _ k => XS.aloadN X14.here hx rfl (hb hby d6_26) rfl rfl (XS.iloadN X14.here hx rfl (hb hby d6_27) rfl (XS.iload X14.here hx rfl (hb hby d6_28) rfl (XS.i2b X14.here hx rfl (hb hby d6_30) rfl k)))) ?_
  obtain ⟨cl20, Ar20, q20, Sz20, Ng20, Hs20, Gf20⟩ := id V14
  have hin20 : ¬ ((3 : Int32) < 0 ∨ cl20.slots.size ≤ ((3 : Int32)).toNatClampNeg) := inb_of Sz20 ⟨by decide, by decide⟩
  obtain ⟨T20, h20, X20, e20, W20, st20⟩ := stB X14 hx hZ e14 Ar20 (j := (3 : Int32)) hin20 (g := (mkF m 31 #[.val (.ref a1), .val (.int (3 : Int32)), .val (.ref a3), .val (.int (3 : Int32)), .val (.int (6 : Int32)), .val (.int (3 : Int32)), .val (.int c3)] [(.int (c3.toInt8.toInt32)), (.int (3 : Int32)), (.ref a3)])) rfl rfl (hb hby d6_31)
  refine OGo.via st20 ?_
  have V20 : Arv Z h20 a3 k3 .byte (6 : Int32) [(.int ((c0.toInt8.toInt32).toInt8.toInt32)), (.int ((c1.toInt8.toInt32).toInt8.toInt32)), (.int ((c2.toInt8.toInt32).toInt8.toInt32)), (.int ((c3.toInt8.toInt32).toInt8.toInt32)), (.int (0 : Int32)), (.int (0 : Int32))] (.int (0 : Int32)) := Arv.set Ar20 q20 Sz20 Ng20 Hs20 Gf20 (fits_nar_byte _) W20 3 rfl (Nat.le_of_ble_eq_true rfl)
  have K20 : Keep h0 h20 [a3] := K14.wr W20 (Or.inl (List.mem_of_getElem? (i := 0) rfl))
  have N20 := Fr.snoc X20 N14 g_a3
  show OGo _ _ _ _ (T20.setTop (mkF m 32 #[.val (.ref a1), .val (.int (3 : Int32)), .val (.ref a3), .val (.int (3 : Int32)), .val (.int (6 : Int32)), .val (.int (3 : Int32)), .val (.int c3)] []))
  refine OGo.via (fun _ k => XS.iinc X20.here hx rfl (hb hby d6_32) rfl (l' := #[.val (.ref a1), .val (.int ((3 : Int32) + (1 : Int32))), .val (.ref a3), .val (.int (3 : Int32)), .val (.int (6 : Int32)), .val (.int (3 : Int32)), .val (.int c3)]) rfl k) ?_
  show OGo _ _ _ _ (T20.setTop (mkF m 35 #[.val (.ref a1), .val (.int ((3 : Int32) + (1 : Int32))), .val (.ref a3), .val (.int (3 : Int32)), .val (.int (6 : Int32)), .val (.int (3 : Int32)), .val (.int c3)] []))
  rw [show ((3 : Int32) + (1 : Int32)) = (4 : Int32) from by decide]
  refine OGo.via (fun _ k => XS.iinc X20.here hx rfl (hb hby d6_35) rfl (l' := #[.val (.ref a1), .val (.int (4 : Int32)), .val (.ref a3), .val (.int ((3 : Int32) + (1 : Int32))), .val (.int (6 : Int32)), .val (.int (3 : Int32)), .val (.int c3)]) rfl k) ?_
  show OGo _ _ _ _ (T20.setTop (mkF m 38 #[.val (.ref a1), .val (.int (4 : Int32)), .val (.ref a3), .val (.int ((3 : Int32) + (1 : Int32))), .val (.int (6 : Int32)), .val (.int (3 : Int32)), .val (.int c3)] []))
  rw [show ((3 : Int32) + (1 : Int32)) = (4 : Int32) from by decide]
  refine OGo.via (fun _ k => XS.iinc X20.here hx rfl (hb hby d6_38) rfl (l' := #[.val (.ref a1), .val (.int (4 : Int32)), .val (.ref a3), .val (.int (4 : Int32)), .val (.int (6 : Int32)), .val (.int ((3 : Int32) + (1 : Int32))), .val (.int c3)]) rfl k) ?_
  show OGo _ _ _ _ (T20.setTop (mkF m 41 #[.val (.ref a1), .val (.int (4 : Int32)), .val (.ref a3), .val (.int (4 : Int32)), .val (.int (6 : Int32)), .val (.int ((3 : Int32) + (1 : Int32))), .val (.int c3)] []))
  rw [show ((3 : Int32) + (1 : Int32)) = (4 : Int32) from by decide]
  refine OGo.via (fun _ k => XS.goto X20.here hx rfl (pc0 := 41) (pc' := 3) rfl (hb hby d6_41) (by decide) (by decide) (XS.iload X20.here hx rfl (hb hby d6_3) rfl (XS.iload X20.here hx rfl (hb hby d6_5) rfl k))) ?_
  refine OGo.via (fun _ k => XS.icmpNo X20.here hx rfl (hb hby d6_7) rfl (tlt (by decide : (4 : Int32) < (6 : Int32))).2.1 k) ?_
  show OGo _ _ _ _ (T20.setTop (mkF m 10 #[.val (.ref a1), .val (.int (4 : Int32)), .val (.ref a3), .val (.int (4 : Int32)), .val (.int (6 : Int32)), .val (.int (4 : Int32)), .val (.int c3)] []))
  refine OGo.via (fun _ k => XS.aloadN X20.here hx rfl (hb hby d6_10) rfl rfl (XS.iloadN X20.here hx rfl (hb hby d6_11) rfl k)) ?_
  have f25 := f19.other W20 ne_a1_a3
  obtain ⟨cl24, Ar24, q24, Sz24, Ng24, Hs24, Gf24⟩ := id f25
  have hin24 : ¬ ((4 : Int32) < 0 ∨ cl24.slots.size ≤ ((4 : Int32)).toNatClampNeg) := inb_of Sz24 ⟨by decide, by decide⟩
  have hat24 : cl24.slots[((4 : Int32)).toNatClampNeg]? = some (.int c4) := Hs24.at hin24 rfl
  refine OGo.via (X20.caload hx (j := (4 : Int32)) (v := (.int c4)) (by rw [e20]; exact Ar24.1) (State.isArrayOf_alike hZ.alike Ar24.2.1) Ar24.2.2 hin24 hat24 (g := (mkF m 12 #[.val (.ref a1), .val (.int (4 : Int32)), .val (.ref a3), .val (.int (4 : Int32)), .val (.int (6 : Int32)), .val (.int (4 : Int32)), .val (.int c3)] [(.int (4 : Int32)), (.ref a1)])) rfl rfl (hb hby d6_12)) ?_
  show OGo _ _ _ _ (T20.setTop (mkF m 13 #[.val (.ref a1), .val (.int (4 : Int32)), .val (.ref a3), .val (.int (4 : Int32)), .val (.int (6 : Int32)), .val (.int (4 : Int32)), .val (.int c3)] [(.int c4)]))
  refine OGo.via (fun _ k => XS.istore X20.here hx rfl (hb hby d6_13) rfl (l' := #[.val (.ref a1), .val (.int (4 : Int32)), .val (.ref a3), .val (.int (4 : Int32)), .val (.int (6 : Int32)), .val (.int (4 : Int32)), .val (.int c4)]) rfl (XS.iload X20.here hx rfl (hb hby d6_15) rfl (XS.sipush X20.here hx rfl (hb hby d6_17) k))) ?_
  refine OGo.via (fun _ k => XS.icmpYes X20.here hx rfl (pc0 := 20) (pc' := 26) rfl (hb hby d6_20) rfl (flt hc4).2.2.2 (by decide) (by decide) k) ?_
  show OGo _ _ _ _ (T20.setTop (mkF m 26 #[.val (.ref a1), .val (.int (4 : Int32)), .val (.ref a3), .val (.int (4 : Int32)), .val (.int (6 : Int32)), .val (.int (4 : Int32)), .val (.int c4)] []))
  refine OGo.via (fun _ k => XS.aloadN X20.here hx rfl (hb hby d6_26) rfl rfl (XS.iloadN X20.here hx rfl (hb hby d6_27) rfl (XS.iload X20.here hx rfl (hb hby d6_28) rfl (XS.i2b X20.here hx rfl (hb hby d6_30) rfl k)))) ?_
  obtain ⟨cl26, Ar26, q26, Sz26, Ng26, Hs26, Gf26⟩ := id V20
  have hin26 : ¬ ((4 : Int32) < 0 ∨ cl26.slots.size ≤ ((4 : Int32)).toNatClampNeg) := inb_of Sz26 ⟨by decide, by decide⟩
  obtain ⟨T26, h26, X26, e26, W26, st26⟩ := stB X20 hx hZ e20 Ar26 (j := (4 : Int32)) hin26 (g := (mkF m 31 #[.val (.ref a1), .val (.int (4 : Int32)), .val (.ref a3), .val (.int (4 : Int32)), .val (.int (6 : Int32)), .val (.int (4 : Int32)), .val (.int c4)] [(.int (c4.toInt8.toInt32)), (.int (4 : Int32)), (.ref a3)])) rfl rfl (hb hby d6_31)
  refine OGo.via st26 ?_
  have V26 : Arv Z h26 a3 k3 .byte (6 : Int32) [(.int ((c0.toInt8.toInt32).toInt8.toInt32)), (.int ((c1.toInt8.toInt32).toInt8.toInt32)), (.int ((c2.toInt8.toInt32).toInt8.toInt32)), (.int ((c3.toInt8.toInt32).toInt8.toInt32)), (.int ((c4.toInt8.toInt32).toInt8.toInt32)), (.int (0 : Int32))] (.int (0 : Int32)) := Arv.set Ar26 q26 Sz26 Ng26 Hs26 Gf26 (fits_nar_byte _) W26 4 rfl (Nat.le_of_ble_eq_true rfl)
  have K26 : Keep h0 h26 [a3] := K20.wr W26 (Or.inl (List.mem_of_getElem? (i := 0) rfl))
  have N26 := Fr.snoc X26 N20 g_a3
  show OGo _ _ _ _ (T26.setTop (mkF m 32 #[.val (.ref a1), .val (.int (4 : Int32)), .val (.ref a3), .val (.int (4 : Int32)), .val (.int (6 : Int32)), .val (.int (4 : Int32)), .val (.int c4)] []))
  refine OGo.via (fun _ k => XS.iinc X26.here hx rfl (hb hby d6_32) rfl (l' := #[.val (.ref a1), .val (.int ((4 : Int32) + (1 : Int32))), .val (.ref a3), .val (.int (4 : Int32)), .val (.int (6 : Int32)), .val (.int (4 : Int32)), .val (.int c4)]) rfl k) ?_
  show OGo _ _ _ _ (T26.setTop (mkF m 35 #[.val (.ref a1), .val (.int ((4 : Int32) + (1 : Int32))), .val (.ref a3), .val (.int (4 : Int32)), .val (.int (6 : Int32)), .val (.int (4 : Int32)), .val (.int c4)] []))
  rw [show ((4 : Int32) + (1 : Int32)) = (5 : Int32) from by decide]
  refine OGo.via (fun _ k => XS.iinc X26.here hx rfl (hb hby d6_35) rfl (l' := #[.val (.ref a1), .val (.int (5 : Int32)), .val (.ref a3), .val (.int ((4 : Int32) + (1 : Int32))), .val (.int (6 : Int32)), .val (.int (4 : Int32)), .val (.int c4)]) rfl k) ?_
  show OGo _ _ _ _ (T26.setTop (mkF m 38 #[.val (.ref a1), .val (.int (5 : Int32)), .val (.ref a3), .val (.int ((4 : Int32) + (1 : Int32))), .val (.int (6 : Int32)), .val (.int (4 : Int32)), .val (.int c4)] []))
  rw [show ((4 : Int32) + (1 : Int32)) = (5 : Int32) from by decide]
  refine OGo.via (fun _ k => XS.iinc X26.here hx rfl (hb hby d6_38) rfl (l' := #[.val (.ref a1), .val (.int (5 : Int32)), .val (.ref a3), .val (.int (5 : Int32)), .val (.int (6 : Int32)), .val (.int ((4 : Int32) + (1 : Int32))), .val (.int c4)]) rfl k) ?_
  show OGo _ _ _ _ (T26.setTop (mkF m 41 #[.val (.ref a1), .val (.int (5 : Int32)), .val (.ref a3), .val (.int (5 : Int32)), .val (.int (6 : Int32)), .val (.int ((4 : Int32) + (1 : Int32))), .val (.int c4)] []))
  rw [show ((4 : Int32) + (1 : Int32)) = (5 : Int32) from by decide]
  refine OGo.via (fun _ k => XS.goto X26.here hx rfl (pc0 := 41) (pc' := 3) rfl (hb hby d6_41) (by decide) (by decide) (XS.iload X26.here hx rfl (hb hby d6_3) rfl (XS.iload X26.here hx rfl (hb hby d6_5) rfl k))) ?_
  refine OGo.via (fun _ k => XS.icmpNo X26.here hx rfl (hb hby d6_7) rfl (tlt (by decide : (5 : Int32) < (6 : Int32))).2.1 k) ?_
  show OGo _ _ _ _ (T26.setTop (mkF m 10 #[.val (.ref a1), .val (.int (5 : Int32)), .val (.ref a3), .val (.int (5 : Int32)), .val (.int (6 : Int32)), .val (.int (5 : Int32)), .val (.int c4)] []))
  refine OGo.via (fun _ k => XS.aloadN X26.here hx rfl (hb hby d6_10) rfl rfl (XS.iloadN X26.here hx rfl (hb hby d6_11) rfl k)) ?_
  have f31 := f25.other W26 ne_a1_a3
  obtain ⟨cl30, Ar30, q30, Sz30, Ng30, Hs30, Gf30⟩ := id f31
  have hin30 : ¬ ((5 : Int32) < 0 ∨ cl30.slots.size ≤ ((5 : Int32)).toNatClampNeg) := inb_of Sz30 ⟨by decide, by decide⟩
  have hat30 : cl30.slots[((5 : Int32)).toNatClampNeg]? = some (.int c5) := Hs30.at hin30 rfl
  refine OGo.via (X26.caload hx (j := (5 : Int32)) (v := (.int c5)) (by rw [e26]; exact Ar30.1) (State.isArrayOf_alike hZ.alike Ar30.2.1) Ar30.2.2 hin30 hat30 (g := (mkF m 12 #[.val (.ref a1), .val (.int (5 : Int32)), .val (.ref a3), .val (.int (5 : Int32)), .val (.int (6 : Int32)), .val (.int (5 : Int32)), .val (.int c4)] [(.int (5 : Int32)), (.ref a1)])) rfl rfl (hb hby d6_12)) ?_
  show OGo _ _ _ _ (T26.setTop (mkF m 13 #[.val (.ref a1), .val (.int (5 : Int32)), .val (.ref a3), .val (.int (5 : Int32)), .val (.int (6 : Int32)), .val (.int (5 : Int32)), .val (.int c4)] [(.int c5)]))
  refine OGo.via (fun _ k => XS.istore X26.here hx rfl (hb hby d6_13) rfl (l' := #[.val (.ref a1), .val (.int (5 : Int32)), .val (.ref a3), .val (.int (5 : Int32)), .val (.int (6 : Int32)), .val (.int (5 : Int32)), .val (.int c5)]) rfl (XS.iload X26.here hx rfl (hb hby d6_15) rfl (XS.sipush X26.here hx rfl (hb hby d6_17) k))) ?_
  refine OGo.via (fun _ k => XS.icmpYes X26.here hx rfl (pc0 := 20) (pc' := 26) rfl (hb hby d6_20) rfl (flt hc5).2.2.2 (by decide) (by decide) k) ?_
  show OGo _ _ _ _ (T26.setTop (mkF m 26 #[.val (.ref a1), .val (.int (5 : Int32)), .val (.ref a3), .val (.int (5 : Int32)), .val (.int (6 : Int32)), .val (.int (5 : Int32)), .val (.int c5)] []))
  refine OGo.via (fun _ k => XS.aloadN X26.here hx rfl (hb hby d6_26) rfl rfl (XS.iloadN X26.here hx rfl (hb hby d6_27) rfl (XS.iload X26.here hx rfl (hb hby d6_28) rfl (XS.i2b X26.here hx rfl (hb hby d6_30) rfl k)))) ?_
  obtain ⟨cl32, Ar32, q32, Sz32, Ng32, Hs32, Gf32⟩ := id V26
  have hin32 : ¬ ((5 : Int32) < 0 ∨ cl32.slots.size ≤ ((5 : Int32)).toNatClampNeg) := inb_of Sz32 ⟨by decide, by decide⟩
  obtain ⟨T32, h32, X32, e32, W32, st32⟩ := stB X26 hx hZ e26 Ar32 (j := (5 : Int32)) hin32 (g := (mkF m 31 #[.val (.ref a1), .val (.int (5 : Int32)), .val (.ref a3), .val (.int (5 : Int32)), .val (.int (6 : Int32)), .val (.int (5 : Int32)), .val (.int c5)] [(.int (c5.toInt8.toInt32)), (.int (5 : Int32)), (.ref a3)])) rfl rfl (hb hby d6_31)
  refine OGo.via st32 ?_
  have V32 : Arv Z h32 a3 k3 .byte (6 : Int32) [(.int ((c0.toInt8.toInt32).toInt8.toInt32)), (.int ((c1.toInt8.toInt32).toInt8.toInt32)), (.int ((c2.toInt8.toInt32).toInt8.toInt32)), (.int ((c3.toInt8.toInt32).toInt8.toInt32)), (.int ((c4.toInt8.toInt32).toInt8.toInt32)), (.int ((c5.toInt8.toInt32).toInt8.toInt32))] (.int (0 : Int32)) := Arv.set Ar32 q32 Sz32 Ng32 Hs32 Gf32 (fits_nar_byte _) W32 5 rfl (Nat.le_of_ble_eq_true rfl)
  have K32 : Keep h0 h32 [a3] := K26.wr W32 (Or.inl (List.mem_of_getElem? (i := 0) rfl))
  have N32 := Fr.snoc X32 N26 g_a3
  show OGo _ _ _ _ (T32.setTop (mkF m 32 #[.val (.ref a1), .val (.int (5 : Int32)), .val (.ref a3), .val (.int (5 : Int32)), .val (.int (6 : Int32)), .val (.int (5 : Int32)), .val (.int c5)] []))
  refine OGo.via (fun _ k => XS.iinc X32.here hx rfl (hb hby d6_32) rfl (l' := #[.val (.ref a1), .val (.int ((5 : Int32) + (1 : Int32))), .val (.ref a3), .val (.int (5 : Int32)), .val (.int (6 : Int32)), .val (.int (5 : Int32)), .val (.int c5)]) rfl k) ?_
  show OGo _ _ _ _ (T32.setTop (mkF m 35 #[.val (.ref a1), .val (.int ((5 : Int32) + (1 : Int32))), .val (.ref a3), .val (.int (5 : Int32)), .val (.int (6 : Int32)), .val (.int (5 : Int32)), .val (.int c5)] []))
  rw [show ((5 : Int32) + (1 : Int32)) = (6 : Int32) from by decide]
  refine OGo.via (fun _ k => XS.iinc X32.here hx rfl (hb hby d6_35) rfl (l' := #[.val (.ref a1), .val (.int (6 : Int32)), .val (.ref a3), .val (.int ((5 : Int32) + (1 : Int32))), .val (.int (6 : Int32)), .val (.int (5 : Int32)), .val (.int c5)]) rfl k) ?_
  show OGo _ _ _ _ (T32.setTop (mkF m 38 #[.val (.ref a1), .val (.int (6 : Int32)), .val (.ref a3), .val (.int ((5 : Int32) + (1 : Int32))), .val (.int (6 : Int32)), .val (.int (5 : Int32)), .val (.int c5)] []))
  rw [show ((5 : Int32) + (1 : Int32)) = (6 : Int32) from by decide]
  refine OGo.via (fun _ k => XS.iinc X32.here hx rfl (hb hby d6_38) rfl (l' := #[.val (.ref a1), .val (.int (6 : Int32)), .val (.ref a3), .val (.int (6 : Int32)), .val (.int (6 : Int32)), .val (.int ((5 : Int32) + (1 : Int32))), .val (.int c5)]) rfl k) ?_
  show OGo _ _ _ _ (T32.setTop (mkF m 41 #[.val (.ref a1), .val (.int (6 : Int32)), .val (.ref a3), .val (.int (6 : Int32)), .val (.int (6 : Int32)), .val (.int ((5 : Int32) + (1 : Int32))), .val (.int c5)] []))
  rw [show ((5 : Int32) + (1 : Int32)) = (6 : Int32) from by decide]
  refine OGo.via (fun _ k => XS.goto X32.here hx rfl (pc0 := 41) (pc' := 3) rfl (hb hby d6_41) (by decide) (by decide) (XS.iload X32.here hx rfl (hb hby d6_3) rfl (XS.iload X32.here hx rfl (hb hby d6_5) rfl k))) ?_
  refine OGo.via (fun _ k => XS.icmpYes X32.here hx rfl (pc0 := 7) (pc' := 44) rfl (hb hby d6_7) rfl (flt (by decide : ¬ ((6 : Int32) < (6 : Int32)))).2.1 (by decide) (by decide) k) ?_
  show OGo _ _ _ _ (T32.setTop (mkF m 44 #[.val (.ref a1), .val (.int (6 : Int32)), .val (.ref a3), .val (.int (6 : Int32)), .val (.int (6 : Int32)), .val (.int (6 : Int32)), .val (.int c5)] []))
  refine OGo.via (fun _ k => XS.iload X32.here hx rfl (hb hby d6_44) rfl k) ?_
  show OGo _ _ _ _ (T32.setTop (mkF m 46 #[.val (.ref a1), .val (.int (6 : Int32)), .val (.ref a3), .val (.int (6 : Int32)), .val (.int (6 : Int32)), .val (.int (6 : Int32)), .val (.int c5)] [(.int (6 : Int32))]))
  have f36 := S_COMPACT_STRINGS.wr W2
  have f37 := f36.wr W8
  have f38 := f37.wr W14
  have f39 := f38.wr W20
  have f40 := f39.wr W26
  have f41 := f40.wr W32
  refine own_retI X32 hx Bd.notSynchronized Bd.returns (hb hby d6_46) (by decide) (by decide) ?_
  show Q_rm6 Z _ _ _ _ _ _ _ _ _ _ _ h0 n0 _ T32.heap _
  rw [e32]
  exact ⟨rfl, N32, K32, V32, f41⟩
theorem d5_0 : decode jdk_52_method_16_code 0 = .ok (.iload_n 2, 1) := by decide +kernel
theorem d5_1 : decode jdk_52_method_16_code 1 = .ok (.newarray .byte, 2) := by decide +kernel
theorem d5_3 : decode jdk_52_method_16_code 3 = .ok (.astore_n 3, 1) := by decide +kernel
theorem d5_4 : decode jdk_52_method_16_code 4 = .ok (.aload_n 0, 1) := by decide +kernel
theorem d5_5 : decode jdk_52_method_16_code 5 = .ok (.iload_n 1, 1) := by decide +kernel
theorem d5_6 : decode jdk_52_method_16_code 6 = .ok (.aload_n 3, 1) := by decide +kernel
theorem d5_7 : decode jdk_52_method_16_code 7 = .ok (.iconst 0, 1) := by decide +kernel
theorem d5_8 : decode jdk_52_method_16_code 8 = .ok (.iload_n 2, 1) := by decide +kernel
theorem d5_9 : decode jdk_52_method_16_code 9 = .ok (.invokestatic 115, 3) := by decide +kernel
theorem pd_0 : parseMethodDescriptor "([CI[BII)I" = some ⟨[(.array .char), .int, (.array .byte), .int, .int], some .int⟩ := by decide +kernel
theorem d5_12 : decode jdk_52_method_16_code 12 = .ok (.istore 4, 2) := by decide +kernel
theorem d5_14 : decode jdk_52_method_16_code 14 = .ok (.iload 4, 2) := by decide +kernel
theorem d5_16 : decode jdk_52_method_16_code 16 = .ok (.iload_n 2, 1) := by decide +kernel
theorem d5_17 : decode jdk_52_method_16_code 17 = .ok (.if_icmp .eq 40, 3) := by decide +kernel
theorem d5_57 : decode jdk_52_method_16_code 57 = .ok (.aload_n 3, 1) := by decide +kernel
theorem d5_58 : decode jdk_52_method_16_code 58 = .ok (.areturn, 1) := by decide +kernel
theorem ef_rm5 (m : MethodId) (a1 : Addr) : entryFrame m #[(.ref a1), (.int (0 : Int32)), (.int (6 : Int32))] 6 = mkF m 0 #[.val (.ref a1), .val (.int (0 : Int32)), .val (.int (6 : Int32)), .unset, .unset, .unset] [] := by first | (simp [entryFrame, mkF, argsToLocals, Value.category]; done) | rfl
def Q_rm5 (Z : State) (a1 : Addr) (k1 : ClassId) (w : Int32) (c0 : Int32) (c1 : Int32) (c2 : Int32) (c3 : Int32) (c4 : Int32) (c5 : Int32) (h0 : Heap) (n0 : Nat) (v : Option Value) (h : Heap) (L : List Loc) : Prop := ∃ vb : Addr, ∃ kb : ClassId, v = some (.ref vb) ∧ Fr n0 L ∧ Keep h0 h [] ∧ h0.size ≤ vb ∧ Arv Z h vb kb .byte (6 : Int32) [(.int ((c0.toInt8.toInt32).toInt8.toInt32)), (.int ((c1.toInt8.toInt32).toInt8.toInt32)), (.int ((c2.toInt8.toInt32).toInt8.toInt32)), (.int ((c3.toInt8.toInt32).toInt8.toInt32)), (.int ((c4.toInt8.toInt32).toInt8.toInt32)), (.int ((c5.toInt8.toInt32).toInt8.toInt32))] (.int (0 : Int32)) ∧ Sta Z h "java/lang/String" "COMPACT_STRINGS" "Z" (.int w)
set_option maxRecDepth 65536 in
set_option maxHeartbeats 40000000 in
theorem rm5 (l : Launch) (Z : State) (a0 : Array Value) (hw : ∀ d ∈ tables_1, d.before a0 Z = true) (ws : List Jvm.Cond) (a1 : Addr) (k1 : ClassId) (w : Int32) (c0 : Int32) (c1 : Int32) (c2 : Int32) (c3 : Int32) (c4 : Int32) (c5 : Int32) (h0 : Heap) (n0 : Nat) (Z0 : n0 ≤ h0.size) (V_a1 : Arv Z h0 a1 k1 .char (6 : Int32) [(.int c0), (.int c1), (.int c2), (.int c3), (.int c4), (.int c5)] (.int (0 : Int32))) (S_COMPACT_STRINGS : Sta Z h0 "java/lang/String" "COMPACT_STRINGS" "Z" (.int w)) (hc0 : ¬ (255 : Int32) < c0) (hc1 : ¬ (255 : Int32) < c1) (hc2 : ¬ (255 : Int32) < c2) (hc3 : ¬ (255 : Int32) < c3) (hc4 : ¬ (255 : Int32) < c4) (hc5 : ¬ (255 : Int32) < c5) :
    MetFree l own_y4 (head1 (Jvm.Cond.code own_y4 jdk_52_method_16_code 6 (some (.array .byte)) :: ws) ({ frames := 1, cells := 1, slots := 6, locals := 18 } : Room)) (fun a U => a = #[(.ref a1), (.int (0 : Int32)), (.int (6 : Int32))] ∧ Z.Warmed39 U.vm ∧ U.heap = h0) (fun _ _ _ _ _ => True) (fun _ U o U' => ∃ v L, o = .returned v ∧ Q_rm5 Z a1 k1 w c0 c1 c2 c3 c4 c5 h0 n0 v U'.heap L ∧ FrameEnd U o U' L ({ frames := 1, cells := 1, slots := 6, locals := 18 } : Room).cells ({ frames := 1, cells := 1, slots := 6, locals := 18 } : Room).slots) := by
  refine MetFree.of_bodySF (plainFor_of_name pn_StringUTF16) hisR ?_
  intro p e s m args below meth c s₁ Bd hml0 hP hK
  obtain ⟨rfl, hZ, hh⟩ := hP
  have hx := Bd.exec
  have hby := Bd.bytes
  have hml : c.maxLocals = 6 := hml0
  have hown : s.vm.findClass "java/lang/StringUTF16" = some m.cls := findClass_of_methodNamed Bd.named
  have hnm := (name_of_methodNamed Bd.named Bd.method).1
  have X0 : Stand p l e ({ frames := 1, cells := 1, slots := 6, locals := 18 } : Room) s m #[(.ref a1), (.int (0 : Int32)), (.int (6 : Int32))] below meth c s₁ [] 0 0 := Stand.of_body Bd
  have e0 : s₁.heap = h0 := by rw [← hh, Bd.state]; rfl
  have N0 := Fr.nil n0
  show OGo p.tables e below (own_Kq s (fun v h L => Q_rm5 Z a1 k1 w c0 c1 c2 c3 c4 c5 h0 n0 v h L) ({ frames := 1, cells := 1, slots := 6, locals := 18 } : Room).cells ({ frames := 1, cells := 1, slots := 6, locals := 18 } : Room).slots) (s₁.setTop (entryFrame m #[(.ref a1), (.int (0 : Int32)), (.int (6 : Int32))] 6))
  refine OGo.cast (ef_rm5 m a1) ?_
  show OGo _ _ _ _ (s₁.setTop (mkF m 0 #[.val (.ref a1), .val (.int (0 : Int32)), .val (.int (6 : Int32)), .unset, .unset, .unset] []))
  refine OGo.via (fun _ k => XS.iloadN X0.here hx rfl (hb hby d5_0) rfl k) ?_
  obtain ⟨T1, h1, ka1, X1, e1, E1, A1, Y1, st1⟩ := newPE (ad := "[B") X0 hx hZ (own_w hw 23 rfl) e0 (g := (mkF m 1 #[.val (.ref a1), .val (.int (0 : Int32)), .val (.int (6 : Int32)), .unset, .unset, .unset] [(.int (6 : Int32))])) rfl (hb hby d5_1) rfl (by decide) (cap := 6) (by decide) (by decide) (by decide) (by decide) (by decide)
  obtain ⟨b1, g1⟩ : ∃ z, z = h0.size := ⟨_, rfl⟩
  rw [← g1] at A1 Y1 st1
  refine OGo.via st1 ?_
  have K1 : Keep h0 h1 [] := (Keep.refl h0 []).ext E1
  have lt_a1_b1 : a1 < b1 := Nat.lt_of_lt_of_le V_a1.lt (Nat.le_of_eq g1.symm)
  have sz_b1 : h0.size ≤ b1 := Nat.le_trans (Keep.refl h0 []).1 (Nat.le_of_eq g1.symm)
  have g_b1 : n0 ≤ b1 := Nat.le_trans Z0 sz_b1
  have V1 : Arv Z h1 b1 ka1 .byte (6 : Int32) [(.int (0 : Int32)), (.int (0 : Int32)), (.int (0 : Int32)), (.int (0 : Int32)), (.int (0 : Int32)), (.int (0 : Int32))] (.int (0 : Int32)) := (Arv.new A1 (by decide)).pad (pad_rep [] (.int (0 : Int32)) 6)
  show OGo _ _ _ _ (T1.setTop (mkF m 3 #[.val (.ref a1), .val (.int (0 : Int32)), .val (.int (6 : Int32)), .unset, .unset, .unset] [(.ref b1)]))
  refine OGo.via (fun _ k => XS.astoreN X1.here hx rfl (hb hby d5_3) rfl rfl (l' := #[.val (.ref a1), .val (.int (0 : Int32)), .val (.int (6 : Int32)), .val (.ref b1), .unset, .unset]) rfl (XS.aloadN X1.here hx rfl (hb hby d5_4) rfl rfl (XS.iloadN X1.here hx rfl (hb hby d5_5) rfl (XS.aloadN X1.here hx rfl (hb hby d5_6) rfl rfl (XS.iconst X1.here hx rfl (hb hby d5_7) (XS.iloadN X1.here hx rfl (hb hby d5_8) rfl k)))))) ?_
  have f3 := S_COMPACT_STRINGS.ext E1
  have f4 := V_a1.ext E1
  obtain ⟨_, T2, Lc2, X2, hQ2, st2⟩ := own_open X1 (Jvm.LawKit.callS X1 hx (y := own_y3) hown (mvT hZ (own_w hw 24 rfl)) (mvT hZ (own_w hw 25 rfl)) (mvT hZ (own_w hw 21 rfl)) (mvT hZ (own_w hw 26 rfl)) (by decide) (backOf (W := 0) (rm6 l Z a0 hw [] a1 b1 k1 ka1 c0 c1 c2 c3 c4 c5 w h1 n0 (Nat.le_trans Z0 K1.1) f3 f4 V1 (Nat.ne_of_lt lt_a1_b1) g_b1 hc0 hc1 hc2 hc3 hc4 hc5) hZ (own_w hw 26 rfl) (own_w hw 21 rfl) (by decide) (by decide)) (g := (mkF m 9 #[.val (.ref a1), .val (.int (0 : Int32)), .val (.int (6 : Int32)), .val (.ref b1), .unset, .unset] [(.int (6 : Int32)), (.int (0 : Int32)), (.ref b1), (.int (0 : Int32)), (.ref a1)])) rfl (by rw [hml]; rfl) (argsL := [(.ref a1), (.int (0 : Int32)), (.ref b1), (.int (0 : Int32)), (.int (6 : Int32))]) (rest := []) (lenOf pd_0 rfl) rfl (by show 2 * 0 + _ ≤ _; exact Nat.le_of_eq rfl) (hb hby d5_9) (fun _ _ => ⟨rfl, e1, (by decide : 1 + 0 ≤ _), (by decide : 6 + 0 ≤ _)⟩))
  obtain ⟨rfl, N2q, r2_0, r2_1, r2_2⟩ := hQ2
  have N2 := Fr.app N0 N2q
  have K2 : Keep h0 T2.heap [] := K1.trans r2_0 (allS (Or.inr sz_b1) all0)
  refine OGo.via st2 ?_
  show OGo _ _ _ _ (T2.setTop (mkF m 12 #[.val (.ref a1), .val (.int (0 : Int32)), .val (.int (6 : Int32)), .val (.ref b1), .unset, .unset] [(.int (6 : Int32))]))
  refine OGo.via (fun _ k => XS.istore X2.here hx rfl (hb hby d5_12) rfl (l' := #[.val (.ref a1), .val (.int (0 : Int32)), .val (.int (6 : Int32)), .val (.ref b1), .val (.int (6 : Int32)), .unset]) rfl (XS.iload X2.here hx rfl (hb hby d5_14) rfl (XS.iloadN X2.here hx rfl (hb hby d5_16) rfl k))) ?_
  refine OGo.via (fun _ k => XS.icmpYes X2.here hx rfl (pc0 := 17) (pc' := 57) rfl (hb hby d5_17) rfl (teq (by decide : (6 : Int32) = (6 : Int32))).1 (by decide) (by decide) k) ?_
  show OGo _ _ _ _ (T2.setTop (mkF m 57 #[.val (.ref a1), .val (.int (0 : Int32)), .val (.int (6 : Int32)), .val (.ref b1), .val (.int (6 : Int32)), .unset] []))
  refine OGo.via (fun _ k => XS.aloadN X2.here hx rfl (hb hby d5_57) rfl rfl k) ?_
  show OGo _ _ _ _ (T2.setTop (mkF m 58 #[.val (.ref a1), .val (.int (0 : Int32)), .val (.int (6 : Int32)), .val (.ref b1), .val (.int (6 : Int32)), .unset] [(.ref b1)]))
  refine own_retA X2 hx Bd.notSynchronized Bd.returns rfl rfl (hb hby d5_58) (by decide) (by decide) ?_
  show Q_rm5 Z _ _ _ _ _ _ _ _ _ h0 n0 _ T2.heap _
  exact ⟨b1, ka1, rfl, N2, K2, sz_b1, r2_1, r2_2⟩
theorem d7_0 : decode jdk_52_method_15_code 0 = .ok (.iload_n 1, 1) := by decide +kernel
theorem d7_1 : decode jdk_52_method_15_code 1 = .ok (.aload_n 0, 1) := by decide +kernel
theorem d7_2 : decode jdk_52_method_15_code 2 = .ok (.arraylength, 1) := by decide +kernel
theorem d7_3 : decode jdk_52_method_15_code 3 = .ok (.isub, 1) := by decide +kernel
theorem d7_4 : decode jdk_52_method_15_code 4 = .ok (.bipush 31, 2) := by decide +kernel
theorem d7_6 : decode jdk_52_method_15_code 6 = .ok (.iushr, 1) := by decide +kernel
theorem d7_7 : decode jdk_52_method_15_code 7 = .ok (.i2b, 1) := by decide +kernel
theorem d7_8 : decode jdk_52_method_15_code 8 = .ok (.ireturn, 1) := by decide +kernel
theorem ef_rm7 (m : MethodId) (a1 : Addr) : entryFrame m #[(.ref a1), (.int (6 : Int32))] 2 = mkF m 0 #[.val (.ref a1), .val (.int (6 : Int32))] [] := by first | (simp [entryFrame, mkF, argsToLocals, Value.category]; done) | rfl
def Q_rm7 (Z : State) (a1 : Addr) (k1 : ClassId) (vs : List Value) (h0 : Heap) (n0 : Nat) (v : Option Value) (h : Heap) (L : List Loc) : Prop := v = some (.int (0 : Int32)) ∧ Fr n0 L ∧ h = h0
set_option maxRecDepth 65536 in
set_option maxHeartbeats 40000000 in
theorem rm7 (l : Launch) (Z : State) (a0 : Array Value) (hw : ∀ d ∈ tables_1, d.before a0 Z = true) (ws : List Jvm.Cond) (a1 : Addr) (k1 : ClassId) (vs : List Value) (h0 : Heap) (n0 : Nat) (Z0 : n0 ≤ h0.size) (V_a1 : Arv Z h0 a1 k1 .byte (6 : Int32) vs (.int (0 : Int32))) :
    MetFree l own_y5 (head1 (Jvm.Cond.code own_y5 jdk_52_method_15_code 2 (some .byte) :: ws) ({ frames := 0, cells := 0, slots := 0, locals := 0 } : Room)) (fun a U => a = #[(.ref a1), (.int (6 : Int32))] ∧ Z.Warmed39 U.vm ∧ U.heap = h0) (fun _ _ _ _ _ => True) (fun _ U o U' => ∃ v L, o = .returned v ∧ Q_rm7 Z a1 k1 vs h0 n0 v U'.heap L ∧ FrameEnd U o U' L ({ frames := 0, cells := 0, slots := 0, locals := 0 } : Room).cells ({ frames := 0, cells := 0, slots := 0, locals := 0 } : Room).slots) := by
  refine MetFree.of_bodySF (plainFor_of_name pn_StringUTF16) hisR ?_
  intro p e s m args below meth c s₁ Bd hml0 hP hK
  obtain ⟨rfl, hZ, hh⟩ := hP
  have hx := Bd.exec
  have hby := Bd.bytes
  have hml : c.maxLocals = 2 := hml0
  have hown : s.vm.findClass "java/lang/StringUTF16" = some m.cls := findClass_of_methodNamed Bd.named
  have hnm := (name_of_methodNamed Bd.named Bd.method).1
  have X0 : Stand p l e ({ frames := 0, cells := 0, slots := 0, locals := 0 } : Room) s m #[(.ref a1), (.int (6 : Int32))] below meth c s₁ [] 0 0 := Stand.of_body Bd
  have e0 : s₁.heap = h0 := by rw [← hh, Bd.state]; rfl
  have N0 := Fr.nil n0
  show OGo p.tables e below (own_Kq s (fun v h L => Q_rm7 Z a1 k1 vs h0 n0 v h L) ({ frames := 0, cells := 0, slots := 0, locals := 0 } : Room).cells ({ frames := 0, cells := 0, slots := 0, locals := 0 } : Room).slots) (s₁.setTop (entryFrame m #[(.ref a1), (.int (6 : Int32))] 2))
  refine OGo.cast (ef_rm7 m a1) ?_
  show OGo _ _ _ _ (s₁.setTop (mkF m 0 #[.val (.ref a1), .val (.int (6 : Int32))] []))
  refine OGo.via (fun _ k => XS.iloadN X0.here hx rfl (hb hby d7_0) rfl (XS.aloadN X0.here hx rfl (hb hby d7_1) rfl rfl k)) ?_
  obtain ⟨cl1, Ar1, q1, Sz1, Ng1, Hs1, Gf1⟩ := id V_a1
  refine OGo.via (X0.arraylength hx (by rw [e0]; exact Ar1.1) (State.isArrayOf_alike hZ.alike Ar1.2.1) (g := (mkF m 2 #[.val (.ref a1), .val (.int (6 : Int32))] [(.ref a1), (.int (6 : Int32))])) rfl rfl (hb hby d7_2)) ?_
  rw [len_of Sz1 Ng1]
  show OGo _ _ _ _ (s₁.setTop (mkF m 3 #[.val (.ref a1), .val (.int (6 : Int32))] [(.int (6 : Int32)), (.int (6 : Int32))]))
  refine OGo.via (fun _ k => XS.isub X0.here hx rfl (hb hby d7_3) rfl k) ?_
  show OGo _ _ _ _ (s₁.setTop (mkF m 4 #[.val (.ref a1), .val (.int (6 : Int32))] [(.int ((6 : Int32) - (6 : Int32)))]))
  rw [show ((6 : Int32) - (6 : Int32)) = (0 : Int32) from by decide]
  refine OGo.via (fun _ k => XS.bipush X0.here hx rfl (hb hby d7_4) (XS.iushr X0.here hx rfl (hb hby d7_6) rfl k)) ?_
  show OGo _ _ _ _ (s₁.setTop (mkF m 7 #[.val (.ref a1), .val (.int (6 : Int32))] [(.int (((0 : Int32).toUInt32 >>> ((31 : Int32) &&& 31).toUInt32).toInt32))]))
  rw [show (((0 : Int32).toUInt32 >>> ((31 : Int32) &&& 31).toUInt32).toInt32) = (0 : Int32) from by decide]
  refine OGo.via (fun _ k => XS.i2b X0.here hx rfl (hb hby d7_7) rfl k) ?_
  show OGo _ _ _ _ (s₁.setTop (mkF m 8 #[.val (.ref a1), .val (.int (6 : Int32))] [(.int ((0 : Int32).toInt8.toInt32))]))
  rw [show ((0 : Int32).toInt8.toInt32) = (0 : Int32) from by decide]
  show OGo _ _ _ _ (s₁.setTop (mkF m 8 #[.val (.ref a1), .val (.int (6 : Int32))] [(.int (0 : Int32))]))
  refine own_retN (t := .byte) (by simp) X0 hx Bd.notSynchronized Bd.returns (hb hby d7_8) (by decide) (by decide) ?_
  show Q_rm7 Z _ _ _ h0 n0 _ s₁.heap _
  exact ⟨rfl, N0, e0⟩
theorem d3_0 : decode jdk_42_method_149_code 0 = .ok (.aload_n 0, 1) := by decide +kernel
theorem d3_1 : decode jdk_42_method_149_code 1 = .ok (.invokespecial 1, 3) := by decide +kernel
theorem d3_4 : decode jdk_42_method_149_code 4 = .ok (.iload_n 3, 1) := by decide +kernel
theorem d3_5 : decode jdk_42_method_149_code 5 = .ok (.ifCond .ne 22, 3) := by decide +kernel
theorem d3_27 : decode jdk_42_method_149_code 27 = .ok (.getstatic 38, 3) := by decide +kernel
theorem d3_30 : decode jdk_42_method_149_code 30 = .ok (.ifCond .eq 28, 3) := by decide +kernel
theorem d3_33 : decode jdk_42_method_149_code 33 = .ok (.aload_n 1, 1) := by decide +kernel
theorem d3_34 : decode jdk_42_method_149_code 34 = .ok (.iload_n 2, 1) := by decide +kernel
theorem d3_35 : decode jdk_42_method_149_code 35 = .ok (.iload_n 3, 1) := by decide +kernel
theorem d3_36 : decode jdk_42_method_149_code 36 = .ok (.invokestatic 177, 3) := by decide +kernel
theorem pd_1 : parseMethodDescriptor "([CII)[B" = some ⟨[(.array .char), .int, .int], some (.array .byte)⟩ := by decide +kernel
theorem d3_39 : decode jdk_42_method_149_code 39 = .ok (.astore 5, 2) := by decide +kernel
theorem d3_41 : decode jdk_42_method_149_code 41 = .ok (.aload_n 0, 1) := by decide +kernel
theorem d3_42 : decode jdk_42_method_149_code 42 = .ok (.aload 5, 2) := by decide +kernel
theorem d3_44 : decode jdk_42_method_149_code 44 = .ok (.iload_n 3, 1) := by decide +kernel
theorem d3_45 : decode jdk_42_method_149_code 45 = .ok (.invokestatic 47, 3) := by decide +kernel
theorem pd_2 : parseMethodDescriptor "([BI)B" = some ⟨[(.array .byte), .int], some .byte⟩ := by decide +kernel
theorem d3_48 : decode jdk_42_method_149_code 48 = .ok (.putfield 15, 3) := by decide +kernel
theorem d3_51 : decode jdk_42_method_149_code 51 = .ok (.aload_n 0, 1) := by decide +kernel
theorem d3_52 : decode jdk_42_method_149_code 52 = .ok (.aload 5, 2) := by decide +kernel
theorem d3_54 : decode jdk_42_method_149_code 54 = .ok (.putfield 9, 3) := by decide +kernel
theorem d3_57 : decode jdk_42_method_149_code 57 = .ok (.return_, 1) := by decide +kernel
theorem pn_String : plainName "java/lang/String" = true := by first | (simp [plainName, overriddenIn]; done) | decide +kernel
theorem ef_rm3 (m : MethodId) (a1 : Addr) (a2 : Addr) : entryFrame m #[(.ref a1), (.ref a2), (.int (0 : Int32)), (.int (6 : Int32)), .null] 6 = mkF m 0 #[.val (.ref a1), .val (.ref a2), .val (.int (0 : Int32)), .val (.int (6 : Int32)), .val .null, .unset] [] := by first | (simp [entryFrame, mkF, argsToLocals, Value.category]; done) | rfl
def Q_rm3 (Z : State) (a1 : Addr) (a2 : Addr) (k1 : ClassId) (w : Int32) (c0 : Int32) (c1 : Int32) (c2 : Int32) (c3 : Int32) (c4 : Int32) (c5 : Int32) (h0 : Heap) (n0 : Nat) (v : Option Value) (h : Heap) (L : List Loc) : Prop := ∃ vb : Addr, ∃ kb : ClassId, v = none ∧ Fr n0 L ∧ Keep h0 h [a1] ∧ h0.size ≤ vb ∧ Exa Z h a1 "java/lang/String" ∧ Fld Z h a1 "java/lang/String" "value" "[B" (.ref vb) ∧ Fld Z h a1 "java/lang/String" "coder" "B" (.int (0 : Int32)) ∧ Arv Z h vb kb .byte (6 : Int32) [(.int ((c0.toInt8.toInt32).toInt8.toInt32)), (.int ((c1.toInt8.toInt32).toInt8.toInt32)), (.int ((c2.toInt8.toInt32).toInt8.toInt32)), (.int ((c3.toInt8.toInt32).toInt8.toInt32)), (.int ((c4.toInt8.toInt32).toInt8.toInt32)), (.int ((c5.toInt8.toInt32).toInt8.toInt32))] (.int (0 : Int32)) ∧ Sta Z h "java/lang/String" "COMPACT_STRINGS" "Z" (.int w)
set_option maxRecDepth 65536 in
set_option maxHeartbeats 40000000 in
theorem rm3 (l : Launch) (Z : State) (a0 : Array Value) (hw : ∀ d ∈ tables_1, d.before a0 Z = true) (ws : List Jvm.Cond) (a1 : Addr) (a2 : Addr) (k1 : ClassId) (w : Int32) (c0 : Int32) (c1 : Int32) (c2 : Int32) (c3 : Int32) (c4 : Int32) (c5 : Int32) (h0 : Heap) (n0 : Nat) (Z0 : n0 ≤ h0.size) (E_a1 : Exa Z h0 a1 "java/lang/String") (F_value_a1 : Fld Z h0 a1 "java/lang/String" "value" "[B" .null) (F_coder_a1 : Fld Z h0 a1 "java/lang/String" "coder" "B" (.int (0 : Int32))) (V_a2 : Arv Z h0 a2 k1 .char (6 : Int32) [(.int c0), (.int c1), (.int c2), (.int c3), (.int c4), (.int c5)] (.int (0 : Int32))) (S_COMPACT_STRINGS : Sta Z h0 "java/lang/String" "COMPACT_STRINGS" "Z" (.int w)) (g_a1 : n0 ≤ a1) (hw0 : ¬ w = (0 : Int32)) (hc0 : ¬ (255 : Int32) < c0) (hc1 : ¬ (255 : Int32) < c1) (hc2 : ¬ (255 : Int32) < c2) (hc3 : ¬ (255 : Int32) < c3) (hc4 : ¬ (255 : Int32) < c4) (hc5 : ¬ (255 : Int32) < c5) :
    MetFree l own_y6 (head1 (Jvm.Cond.code own_y6 jdk_42_method_149_code 6 none :: ws) ({ frames := 2, cells := 1, slots := 6, locals := 35 } : Room)) (fun a U => a = #[(.ref a1), (.ref a2), (.int (0 : Int32)), (.int (6 : Int32)), .null] ∧ Z.Warmed39 U.vm ∧ U.heap = h0) (fun _ _ _ _ _ => True) (fun _ U o U' => ∃ v L, o = .returned v ∧ Q_rm3 Z a1 a2 k1 w c0 c1 c2 c3 c4 c5 h0 n0 v U'.heap L ∧ FrameEnd U o U' L ({ frames := 2, cells := 1, slots := 6, locals := 35 } : Room).cells ({ frames := 2, cells := 1, slots := 6, locals := 35 } : Room).slots) := by
  refine MetFree.of_bodySF (plainFor_of_name pn_String) hisR ?_
  intro p e s m args below meth c s₁ Bd hml0 hP hK
  obtain ⟨rfl, hZ, hh⟩ := hP
  have hx := Bd.exec
  have hby := Bd.bytes
  have hml : c.maxLocals = 6 := hml0
  have hown : s.vm.findClass "java/lang/String" = some m.cls := findClass_of_methodNamed Bd.named
  have hnm := (name_of_methodNamed Bd.named Bd.method).1
  have X0 : Stand p l e ({ frames := 2, cells := 1, slots := 6, locals := 35 } : Room) s m #[(.ref a1), (.ref a2), (.int (0 : Int32)), (.int (6 : Int32)), .null] below meth c s₁ [] 0 0 := Stand.of_body Bd
  have e0 : s₁.heap = h0 := by rw [← hh, Bd.state]; rfl
  have N0 := Fr.nil n0
  show OGo p.tables e below (own_Kq s (fun v h L => Q_rm3 Z a1 a2 k1 w c0 c1 c2 c3 c4 c5 h0 n0 v h L) ({ frames := 2, cells := 1, slots := 6, locals := 35 } : Room).cells ({ frames := 2, cells := 1, slots := 6, locals := 35 } : Room).slots) (s₁.setTop (entryFrame m #[(.ref a1), (.ref a2), (.int (0 : Int32)), (.int (6 : Int32)), .null] 6))
  refine OGo.cast (ef_rm3 m a1 a2) ?_
  show OGo _ _ _ _ (s₁.setTop (mkF m 0 #[.val (.ref a1), .val (.ref a2), .val (.int (0 : Int32)), .val (.int (6 : Int32)), .val .null, .unset] []))
  refine OGo.via (fun _ k => XS.aloadN X0.here hx rfl (hb hby d3_0) rfl rfl k) ?_
  obtain ⟨T1, X1, e1, st1⟩ := initO X0 hx hZ hown (own_w hw 15 rfl) (own_w hw 16 rfl) (own_w hw 17 rfl) e0 (g := (mkF m 1 #[.val (.ref a1), .val (.ref a2), .val (.int (0 : Int32)), .val (.int (6 : Int32)), .val .null, .unset] [(.ref a1)])) rfl (by rw [hml]; rfl) rfl (hb hby d3_1) (by decide) (W := 0) (by show 2 * 0 + _ ≤ _; exact Nat.le_of_eq rfl) (by decide)
  refine OGo.via st1 ?_
  show OGo _ _ _ _ (T1.setTop (mkF m 4 #[.val (.ref a1), .val (.ref a2), .val (.int (0 : Int32)), .val (.int (6 : Int32)), .val .null, .unset] []))
  refine OGo.via (fun _ k => XS.iloadN X1.here hx rfl (hb hby d3_4) rfl k) ?_
  refine OGo.via (fun _ k => XS.ifYes X1.here hx rfl (pc0 := 5) (pc' := 27) rfl (hb hby d3_5) rfl ((if0 _ _).trans (feq (by decide : ¬ ((6 : Int32) = (0 : Int32)))).2) (by decide) (by decide) k) ?_
  show OGo _ _ _ _ (T1.setTop (mkF m 27 #[.val (.ref a1), .val (.ref a2), .val (.int (0 : Int32)), .val (.int (6 : Int32)), .val .null, .unset] []))
  obtain ⟨T2, X2, e2, st2⟩ := getS2 X1 hx hZ hown (host := "") (Or.inl (own_w hw 18 rfl)) Via.refl e1 S_COMPACT_STRINGS (g := (mkF m 27 #[.val (.ref a1), .val (.ref a2), .val (.int (0 : Int32)), .val (.int (6 : Int32)), .val .null, .unset] [])) rfl (hb hby d3_27)
  refine OGo.via st2 ?_
  show OGo _ _ _ _ (T2.setTop (mkF m 30 #[.val (.ref a1), .val (.ref a2), .val (.int (0 : Int32)), .val (.int (6 : Int32)), .val .null, .unset] [(.int w)]))
  refine OGo.via (fun _ k => XS.ifNo X2.here hx rfl (hb hby d3_30) rfl ((if0 _ _).trans (feq hw0).1) k) ?_
  show OGo _ _ _ _ (T2.setTop (mkF m 33 #[.val (.ref a1), .val (.ref a2), .val (.int (0 : Int32)), .val (.int (6 : Int32)), .val .null, .unset] []))
  refine OGo.via (fun _ k => XS.aloadN X2.here hx rfl (hb hby d3_33) rfl rfl (XS.iloadN X2.here hx rfl (hb hby d3_34) rfl (XS.iloadN X2.here hx rfl (hb hby d3_35) rfl k))) ?_
  obtain ⟨_, T3, Lc3, X3, hQ3, st3⟩ := own_open X2 (Jvm.LawKit.callS X2 hx (y := own_y4) hown (mvT hZ (own_w hw 19 rfl)) (mvT hZ (own_w hw 20 rfl)) (mvT hZ (own_w hw 21 rfl)) (mvT hZ (own_w hw 22 rfl)) (by decide) (backOf (W := 0) (rm5 l Z a0 hw [] a2 k1 w c0 c1 c2 c3 c4 c5 h0 n0 Z0 V_a2 S_COMPACT_STRINGS hc0 hc1 hc2 hc3 hc4 hc5) hZ (own_w hw 22 rfl) (own_w hw 21 rfl) (by decide) (by decide)) (g := (mkF m 36 #[.val (.ref a1), .val (.ref a2), .val (.int (0 : Int32)), .val (.int (6 : Int32)), .val .null, .unset] [(.int (6 : Int32)), (.int (0 : Int32)), (.ref a2)])) rfl (by rw [hml]; rfl) (argsL := [(.ref a2), (.int (0 : Int32)), (.int (6 : Int32))]) (rest := []) (lenOf pd_1 rfl) rfl (by show 2 * 0 + _ ≤ _; exact Nat.le_of_eq rfl) (hb hby d3_36) (fun _ _ => ⟨rfl, e2, (by decide : 0 + 1 ≤ _), (by decide : 0 + 6 ≤ _)⟩))
  obtain ⟨vb, kb, rfl, N3q, r3_0, r3_1, r3_2, r3_3⟩ := hQ3
  have N3 := Fr.app N0 N3q
  have K3 : Keep h0 T3.heap [a1] := (Keep.refl h0 [a1]).trans r3_0 all0
  have lt_a1_vb : a1 < vb := Nat.lt_of_lt_of_le E_a1.lt r3_1
  have lt_a2_vb : a2 < vb := Nat.lt_of_lt_of_le V_a2.lt r3_1
  have sz_vb : h0.size ≤ vb := Nat.le_trans (Keep.refl h0 [a1]).1 r3_1
  have g_vb : n0 ≤ vb := Nat.le_trans Z0 sz_vb
  refine OGo.via st3 ?_
  show OGo _ _ _ _ (T3.setTop (mkF m 39 #[.val (.ref a1), .val (.ref a2), .val (.int (0 : Int32)), .val (.int (6 : Int32)), .val .null, .unset] [(.ref vb)]))
  refine OGo.via (fun _ k => XS.astore X3.here hx rfl (hb hby d3_39) rfl rfl (l' := #[.val (.ref a1), .val (.ref a2), .val (.int (0 : Int32)), .val (.int (6 : Int32)), .val .null, .val (.ref vb)]) rfl (XS.aloadN X3.here hx rfl (hb hby d3_41) rfl rfl (XS.aload X3.here hx rfl (hb hby d3_42) rfl rfl (XS.iloadN X3.here hx rfl (hb hby d3_44) rfl k)))) ?_
  obtain ⟨_, T4, Lc4, X4, hQ4, st4⟩ := own_open X3 (Jvm.LawKit.callS X3 hx (y := own_y5) hown (mvT hZ (own_w hw 27 rfl)) (mvT hZ (own_w hw 28 rfl)) (mvT hZ (own_w hw 21 rfl)) (mvT hZ (own_w hw 29 rfl)) (by decide) (backOf (W := 1) (rm7 l Z a0 hw [] vb kb [(.int ((c0.toInt8.toInt32).toInt8.toInt32)), (.int ((c1.toInt8.toInt32).toInt8.toInt32)), (.int ((c2.toInt8.toInt32).toInt8.toInt32)), (.int ((c3.toInt8.toInt32).toInt8.toInt32)), (.int ((c4.toInt8.toInt32).toInt8.toInt32)), (.int ((c5.toInt8.toInt32).toInt8.toInt32))] T3.heap n0 (Nat.le_trans Z0 K3.1) r3_2) hZ (own_w hw 29 rfl) (own_w hw 21 rfl) (by decide) (by decide)) (g := (mkF m 45 #[.val (.ref a1), .val (.ref a2), .val (.int (0 : Int32)), .val (.int (6 : Int32)), .val .null, .val (.ref vb)] [(.int (6 : Int32)), (.ref vb), (.ref a1)])) rfl (by rw [hml]; rfl) (argsL := [(.ref vb), (.int (6 : Int32))]) (rest := [(.ref a1)]) (lenOf pd_2 rfl) rfl (by show 2 * 0 + _ ≤ _; exact Nat.le_of_eq rfl) (hb hby d3_45) (fun _ _ => ⟨rfl, rfl, (by decide : 1 + 0 ≤ _), (by decide : 6 + 0 ≤ _)⟩))
  obtain ⟨rfl, N4q, r4_0⟩ := hQ4
  have N4 := Fr.app N3 N4q
  refine OGo.via st4 ?_
  show OGo _ _ _ _ (T4.setTop (mkF m 48 #[.val (.ref a1), .val (.ref a2), .val (.int (0 : Int32)), .val (.int (6 : Int32)), .val .null, .val (.ref vb)] [(.int (0 : Int32)), (.ref a1)]))
  have f6 := F_coder_a1.keep r3_0 nin0
  have f7 := E_a1.keep r3_0
  obtain ⟨T5, h5, X5, e5, W5, st5⟩ := putFN X4 hx hZ hown (own_w hw 30 rfl) Via.refl r4_0 f6 f7 (Or.inr ⟨(own_w hw 31 rfl), rfl, hnm⟩) (own_w hw 6 rfl) (ty := .byte) (v' := (.int (0 : Int32))) (by decide) rfl (by decide) (g := (mkF m 48 #[.val (.ref a1), .val (.ref a2), .val (.int (0 : Int32)), .val (.int (6 : Int32)), .val .null, .val (.ref vb)] [(.int (0 : Int32)), (.ref a1)])) rfl rfl (hb hby d3_48)
  refine OGo.via st5 ?_
  have Fw5 := f6.same W5
  have K5 : Keep h0 h5 [a1] := K3.wr W5 (Or.inl (List.mem_of_getElem? (i := 0) rfl))
  have N5 := Fr.snoc X5 N4 g_a1
  show OGo _ _ _ _ (T5.setTop (mkF m 51 #[.val (.ref a1), .val (.ref a2), .val (.int (0 : Int32)), .val (.int (6 : Int32)), .val .null, .val (.ref vb)] []))
  refine OGo.via (fun _ k => XS.aloadN X5.here hx rfl (hb hby d3_51) rfl rfl (XS.aload X5.here hx rfl (hb hby d3_52) rfl rfl k)) ?_
  have f9 := F_value_a1.keep r3_0 nin0
  have f10 := f9.other W5 (Or.inr (slot_ne (Or.inr (own_w hw 33 rfl)) (Or.inr (own_w hw 31 rfl)) (by decide) (t := (.array .byte)) (t' := .byte) (by decide) (by decide)))
  have f11 := f7.wr W5
  obtain ⟨T8, h8, X8, e8, W8, st8⟩ := putF X5 hx hZ hown (host := "") (Or.inl (own_w hw 32 rfl)) Via.refl e5 f10 f11 (Or.inr ⟨(own_w hw 33 rfl), rfl, hnm⟩) (own_w hw 6 rfl) (ty := (.array .byte)) (by decide) rfl rfl (g := (mkF m 54 #[.val (.ref a1), .val (.ref a2), .val (.int (0 : Int32)), .val (.int (6 : Int32)), .val .null, .val (.ref vb)] [(.ref vb), (.ref a1)])) rfl rfl (hb hby d3_54)
  refine OGo.via st8 ?_
  have Fw8 := f10.same W8
  have K8 : Keep h0 h8 [a1] := K5.wr W8 (Or.inl (List.mem_of_getElem? (i := 0) rfl))
  have N8 := Fr.snoc X8 N5 g_a1
  show OGo _ _ _ _ (T8.setTop (mkF m 57 #[.val (.ref a1), .val (.ref a2), .val (.int (0 : Int32)), .val (.int (6 : Int32)), .val .null, .val (.ref vb)] []))
  show OGo _ _ _ _ (T8.setTop (mkF m 57 #[.val (.ref a1), .val (.ref a2), .val (.int (0 : Int32)), .val (.int (6 : Int32)), .val .null, .val (.ref vb)] []))
  have f12 := f11.wr W8
  have f13 := Fw5.other W8 (Or.inr (slot_ne (Or.inr (own_w hw 31 rfl)) (Or.inr (own_w hw 33 rfl)) (by decide) (t := .byte) (t' := (.array .byte)) (by decide) (by decide)))
  have f14 := r3_2.other W5 (Nat.ne_of_gt lt_a1_vb)
  have f15 := f14.other W8 (Nat.ne_of_gt lt_a1_vb)
  have f16 := r3_3.wr W5
  have f17 := f16.wr W8
  refine own_retV X8 hx Bd.notSynchronized Bd.returns (hb hby d3_57) (by decide) (by decide) ?_
  show Q_rm3 Z _ _ _ _ _ _ _ _ _ _ h0 n0 _ T8.heap _
  rw [e8]
  exact ⟨vb, kb, rfl, N8, K8, sz_vb, f12, Fw8, f13, f15, f17⟩
theorem d2_0 : decode jdk_42_method_3_code 0 = .ok (.aload_n 0, 1) := by decide +kernel
theorem d2_1 : decode jdk_42_method_3_code 1 = .ok (.aload_n 1, 1) := by decide +kernel
theorem d2_2 : decode jdk_42_method_3_code 2 = .ok (.iconst 0, 1) := by decide +kernel
theorem d2_3 : decode jdk_42_method_3_code 3 = .ok (.aload_n 1, 1) := by decide +kernel
theorem d2_4 : decode jdk_42_method_3_code 4 = .ok (.arraylength, 1) := by decide +kernel
theorem d2_5 : decode jdk_42_method_3_code 5 = .ok (.aconst_null, 1) := by decide +kernel
theorem d2_6 : decode jdk_42_method_3_code 6 = .ok (.invokespecial 27, 3) := by decide +kernel
theorem pd_3 : parseMethodDescriptor "([CIILjava/lang/Void;)V" = some ⟨[(.array .char), .int, .int, (.object "java/lang/Void")], none⟩ := by decide +kernel
theorem d2_9 : decode jdk_42_method_3_code 9 = .ok (.return_, 1) := by decide +kernel
theorem ef_rm2 (m : MethodId) (a1 : Addr) (a2 : Addr) : entryFrame m #[(.ref a1), (.ref a2)] 2 = mkF m 0 #[.val (.ref a1), .val (.ref a2)] [] := by first | (simp [entryFrame, mkF, argsToLocals, Value.category]; done) | rfl
def Q_rm2 (Z : State) (a1 : Addr) (a2 : Addr) (k1 : ClassId) (w : Int32) (c0 : Int32) (c1 : Int32) (c2 : Int32) (c3 : Int32) (c4 : Int32) (c5 : Int32) (h0 : Heap) (n0 : Nat) (v : Option Value) (h : Heap) (L : List Loc) : Prop := ∃ vb : Addr, ∃ kb : ClassId, v = none ∧ Fr n0 L ∧ Keep h0 h [a1] ∧ h0.size ≤ vb ∧ Exa Z h a1 "java/lang/String" ∧ Fld Z h a1 "java/lang/String" "value" "[B" (.ref vb) ∧ Fld Z h a1 "java/lang/String" "coder" "B" (.int (0 : Int32)) ∧ Arv Z h vb kb .byte (6 : Int32) [(.int ((c0.toInt8.toInt32).toInt8.toInt32)), (.int ((c1.toInt8.toInt32).toInt8.toInt32)), (.int ((c2.toInt8.toInt32).toInt8.toInt32)), (.int ((c3.toInt8.toInt32).toInt8.toInt32)), (.int ((c4.toInt8.toInt32).toInt8.toInt32)), (.int ((c5.toInt8.toInt32).toInt8.toInt32))] (.int (0 : Int32)) ∧ Sta Z h "java/lang/String" "COMPACT_STRINGS" "Z" (.int w)
set_option maxRecDepth 65536 in
set_option maxHeartbeats 40000000 in
theorem rm2 (l : Launch) (Z : State) (a0 : Array Value) (hw : ∀ d ∈ tables_1, d.before a0 Z = true) (ws : List Jvm.Cond) (a1 : Addr) (a2 : Addr) (k1 : ClassId) (w : Int32) (c0 : Int32) (c1 : Int32) (c2 : Int32) (c3 : Int32) (c4 : Int32) (c5 : Int32) (h0 : Heap) (n0 : Nat) (Z0 : n0 ≤ h0.size) (E_a1 : Exa Z h0 a1 "java/lang/String") (F_value_a1 : Fld Z h0 a1 "java/lang/String" "value" "[B" .null) (F_coder_a1 : Fld Z h0 a1 "java/lang/String" "coder" "B" (.int (0 : Int32))) (V_a2 : Arv Z h0 a2 k1 .char (6 : Int32) [(.int c0), (.int c1), (.int c2), (.int c3), (.int c4), (.int c5)] (.int (0 : Int32))) (S_COMPACT_STRINGS : Sta Z h0 "java/lang/String" "COMPACT_STRINGS" "Z" (.int w)) (g_a1 : n0 ≤ a1) (hw0 : ¬ w = (0 : Int32)) (hc0 : ¬ (255 : Int32) < c0) (hc1 : ¬ (255 : Int32) < c1) (hc2 : ¬ (255 : Int32) < c2) (hc3 : ¬ (255 : Int32) < c3) (hc4 : ¬ (255 : Int32) < c4) (hc5 : ¬ (255 : Int32) < c5) :
    MetFree l own_y7 (head1 (Jvm.Cond.code own_y7 jdk_42_method_3_code 2 none :: ws) ({ frames := 3, cells := 1, slots := 6, locals := 52 } : Room)) (fun a U => a = #[(.ref a1), (.ref a2)] ∧ Z.Warmed39 U.vm ∧ U.heap = h0) (fun _ _ _ _ _ => True) (fun _ U o U' => ∃ v L, o = .returned v ∧ Q_rm2 Z a1 a2 k1 w c0 c1 c2 c3 c4 c5 h0 n0 v U'.heap L ∧ FrameEnd U o U' L ({ frames := 3, cells := 1, slots := 6, locals := 52 } : Room).cells ({ frames := 3, cells := 1, slots := 6, locals := 52 } : Room).slots) := by
  refine MetFree.of_bodySF (plainFor_of_name pn_String) hisR ?_
  intro p e s m args below meth c s₁ Bd hml0 hP hK
  obtain ⟨rfl, hZ, hh⟩ := hP
  have hx := Bd.exec
  have hby := Bd.bytes
  have hml : c.maxLocals = 2 := hml0
  have hown : s.vm.findClass "java/lang/String" = some m.cls := findClass_of_methodNamed Bd.named
  have hnm := (name_of_methodNamed Bd.named Bd.method).1
  have X0 : Stand p l e ({ frames := 3, cells := 1, slots := 6, locals := 52 } : Room) s m #[(.ref a1), (.ref a2)] below meth c s₁ [] 0 0 := Stand.of_body Bd
  have e0 : s₁.heap = h0 := by rw [← hh, Bd.state]; rfl
  have N0 := Fr.nil n0
  show OGo p.tables e below (own_Kq s (fun v h L => Q_rm2 Z a1 a2 k1 w c0 c1 c2 c3 c4 c5 h0 n0 v h L) ({ frames := 3, cells := 1, slots := 6, locals := 52 } : Room).cells ({ frames := 3, cells := 1, slots := 6, locals := 52 } : Room).slots) (s₁.setTop (entryFrame m #[(.ref a1), (.ref a2)] 2))
  refine OGo.cast (ef_rm2 m a1 a2) ?_
  show OGo _ _ _ _ (s₁.setTop (mkF m 0 #[.val (.ref a1), .val (.ref a2)] []))
  refine OGo.via (fun _ k => XS.aloadN X0.here hx rfl (hb hby d2_0) rfl rfl (XS.aloadN X0.here hx rfl (hb hby d2_1) rfl rfl (XS.iconst X0.here hx rfl (hb hby d2_2) (XS.aloadN X0.here hx rfl (hb hby d2_3) rfl rfl k)))) ?_
  obtain ⟨cl1, Ar1, q1, Sz1, Ng1, Hs1, Gf1⟩ := id V_a2
  refine OGo.via (X0.arraylength hx (by rw [e0]; exact Ar1.1) (State.isArrayOf_alike hZ.alike Ar1.2.1) (g := (mkF m 4 #[.val (.ref a1), .val (.ref a2)] [(.ref a2), (.int (0 : Int32)), (.ref a2), (.ref a1)])) rfl rfl (hb hby d2_4)) ?_
  rw [len_of Sz1 Ng1]
  show OGo _ _ _ _ (s₁.setTop (mkF m 5 #[.val (.ref a1), .val (.ref a2)] [(.int (6 : Int32)), (.int (0 : Int32)), (.ref a2), (.ref a1)]))
  refine OGo.via (fun _ k => XS.aconstNull X0.here hx rfl (hb hby d2_5) k) ?_
  obtain ⟨_, T2, Lc2, X2, hQ2, st2⟩ := own_open X0 (X0.specialBack hx (y := own_y6) rfl hown (mvT hZ (own_w hw 11 rfl)) (mvT hZ (own_w hw 12 rfl)) (mvT hZ (own_w hw 14 rfl)) (by decide) (backOf (W := 0) (rm3 l Z a0 hw [] a1 a2 k1 w c0 c1 c2 c3 c4 c5 h0 n0 Z0 E_a1 F_value_a1 F_coder_a1 V_a2 S_COMPACT_STRINGS g_a1 hw0 hc0 hc1 hc2 hc3 hc4 hc5) hZ (own_w hw 14 rfl) (own_w hw 7 rfl) (by decide) (by decide)) (g := (mkF m 6 #[.val (.ref a1), .val (.ref a2)] [.null, (.int (6 : Int32)), (.int (0 : Int32)), (.ref a2), (.ref a1)])) rfl (by rw [hml]; rfl) (Steps.refl _) (a := a1) (argsL := [(.ref a2), (.int (0 : Int32)), (.int (6 : Int32)), .null]) (rest := []) (lenOf pd_3 rfl) rfl (by show 2 * 0 + _ ≤ _; exact Nat.le_of_eq rfl) (hb hby d2_6) (fun _ _ => ⟨rfl, e0, (by decide : 0 + 1 ≤ _), (by decide : 0 + 6 ≤ _)⟩))
  obtain ⟨vb, kb, rfl, N2q, r2_0, r2_1, r2_2, r2_3, r2_4, r2_5, r2_6⟩ := hQ2
  have N2 := Fr.app N0 N2q
  have K2 : Keep h0 T2.heap [a1] := (Keep.refl h0 [a1]).trans r2_0 (allS (Or.inl (List.mem_of_getElem? (i := 0) rfl)) all0)
  have lt_a1_vb : a1 < vb := Nat.lt_of_lt_of_le E_a1.lt r2_1
  have lt_a2_vb : a2 < vb := Nat.lt_of_lt_of_le V_a2.lt r2_1
  have sz_vb : h0.size ≤ vb := Nat.le_trans (Keep.refl h0 [a1]).1 r2_1
  have g_vb : n0 ≤ vb := Nat.le_trans Z0 sz_vb
  refine OGo.via (fun _ k => st2.trans k) ?_
  show OGo _ _ _ _ (T2.setTop (mkF m 9 #[.val (.ref a1), .val (.ref a2)] []))
  show OGo _ _ _ _ (T2.setTop (mkF m 9 #[.val (.ref a1), .val (.ref a2)] []))
  refine own_retV X2 hx Bd.notSynchronized Bd.returns (hb hby d2_9) (by decide) (by decide) ?_
  show Q_rm2 Z _ _ _ _ _ _ _ _ _ _ h0 n0 _ T2.heap _
  exact ⟨vb, kb, rfl, N2, K2, sz_vb, r2_2, r2_3, r2_4, r2_5, r2_6⟩
theorem d12_0 : decode jdk_42_method_152_code 0 = .ok (.getstatic 38, 3) := by decide +kernel
theorem d12_3 : decode jdk_42_method_152_code 3 = .ok (.ifCond .eq 10, 3) := by decide +kernel
theorem d12_6 : decode jdk_42_method_152_code 6 = .ok (.aload_n 0, 1) := by decide +kernel
theorem d12_7 : decode jdk_42_method_152_code 7 = .ok (.getfield 15, 3) := by decide +kernel
theorem d12_10 : decode jdk_42_method_152_code 10 = .ok (.goto 4, 3) := by decide +kernel
theorem d12_14 : decode jdk_42_method_152_code 14 = .ok (.ireturn, 1) := by decide +kernel
theorem ef_rm12 (m : MethodId) (a1 : Addr) : entryFrame m #[(.ref a1)] 1 = mkF m 0 #[.val (.ref a1)] [] := by first | (simp [entryFrame, mkF, argsToLocals, Value.category]; done) | rfl
def Q_rm12 (Z : State) (a1 : Addr) (w : Int32) (vb : Addr) (h0 : Heap) (n0 : Nat) (v : Option Value) (h : Heap) (L : List Loc) : Prop := v = some (.int (0 : Int32)) ∧ Fr n0 L ∧ h = h0
set_option maxRecDepth 65536 in
set_option maxHeartbeats 40000000 in
theorem rm12 (l : Launch) (Z : State) (a0 : Array Value) (hw : ∀ d ∈ tables_1, d.before a0 Z = true) (ws : List Jvm.Cond) (a1 : Addr) (w : Int32) (vb : Addr) (h0 : Heap) (n0 : Nat) (Z0 : n0 ≤ h0.size) (E_a1 : Exa Z h0 a1 "java/lang/String") (F_value_a1 : Fld Z h0 a1 "java/lang/String" "value" "[B" (.ref vb)) (F_coder_a1 : Fld Z h0 a1 "java/lang/String" "coder" "B" (.int (0 : Int32))) (S_COMPACT_STRINGS : Sta Z h0 "java/lang/String" "COMPACT_STRINGS" "Z" (.int w)) (hw0 : ¬ w = (0 : Int32)) :
    MetFree l own_y8 (head1 (Jvm.Cond.code own_y8 jdk_42_method_152_code 1 (some .byte) :: ws) ({ frames := 0, cells := 0, slots := 0, locals := 0 } : Room)) (fun a U => a = #[(.ref a1)] ∧ Z.Warmed39 U.vm ∧ U.heap = h0) (fun _ _ _ _ _ => True) (fun _ U o U' => ∃ v L, o = .returned v ∧ Q_rm12 Z a1 w vb h0 n0 v U'.heap L ∧ FrameEnd U o U' L ({ frames := 0, cells := 0, slots := 0, locals := 0 } : Room).cells ({ frames := 0, cells := 0, slots := 0, locals := 0 } : Room).slots) := by
  refine MetFree.of_bodySF (plainFor_of_name pn_String) hisR ?_
  intro p e s m args below meth c s₁ Bd hml0 hP hK
  obtain ⟨rfl, hZ, hh⟩ := hP
  have hx := Bd.exec
  have hby := Bd.bytes
  have hml : c.maxLocals = 1 := hml0
  have hown : s.vm.findClass "java/lang/String" = some m.cls := findClass_of_methodNamed Bd.named
  have hnm := (name_of_methodNamed Bd.named Bd.method).1
  have X0 : Stand p l e ({ frames := 0, cells := 0, slots := 0, locals := 0 } : Room) s m #[(.ref a1)] below meth c s₁ [] 0 0 := Stand.of_body Bd
  have e0 : s₁.heap = h0 := by rw [← hh, Bd.state]; rfl
  have N0 := Fr.nil n0
  show OGo p.tables e below (own_Kq s (fun v h L => Q_rm12 Z a1 w vb h0 n0 v h L) ({ frames := 0, cells := 0, slots := 0, locals := 0 } : Room).cells ({ frames := 0, cells := 0, slots := 0, locals := 0 } : Room).slots) (s₁.setTop (entryFrame m #[(.ref a1)] 1))
  refine OGo.cast (ef_rm12 m a1) ?_
  show OGo _ _ _ _ (s₁.setTop (mkF m 0 #[.val (.ref a1)] []))
  obtain ⟨T1, X1, e1, st1⟩ := getS2 X0 hx hZ hown (host := "") (Or.inl (own_w hw 18 rfl)) Via.refl e0 S_COMPACT_STRINGS (g := (mkF m 0 #[.val (.ref a1)] [])) rfl (hb hby d12_0)
  refine OGo.via st1 ?_
  show OGo _ _ _ _ (T1.setTop (mkF m 3 #[.val (.ref a1)] [(.int w)]))
  refine OGo.via (fun _ k => XS.ifNo X1.here hx rfl (hb hby d12_3) rfl ((if0 _ _).trans (feq hw0).1) k) ?_
  show OGo _ _ _ _ (T1.setTop (mkF m 6 #[.val (.ref a1)] []))
  refine OGo.via (fun _ k => XS.aloadN X1.here hx rfl (hb hby d12_6) rfl rfl k) ?_
  obtain ⟨T2, X2, e2, st2⟩ := getF X1 hx hZ hown (host := "") (Or.inl (own_w hw 30 rfl)) Via.refl e1 F_coder_a1 (g := (mkF m 7 #[.val (.ref a1)] [(.ref a1)])) rfl rfl (hb hby d12_7)
  refine OGo.via st2 ?_
  show OGo _ _ _ _ (T2.setTop (mkF m 10 #[.val (.ref a1)] [(.int (0 : Int32))]))
  refine OGo.via (fun _ k => XS.goto X2.here hx rfl (pc0 := 10) (pc' := 14) rfl (hb hby d12_10) (by decide) (by decide) k) ?_
  show OGo _ _ _ _ (T2.setTop (mkF m 14 #[.val (.ref a1)] [(.int (0 : Int32))]))
  refine own_retN (t := .byte) (by simp) X2 hx Bd.notSynchronized Bd.returns (hb hby d12_14) (by decide) (by decide) ?_
  show Q_rm12 Z _ _ _ h0 n0 _ T2.heap _
  exact ⟨rfl, N0, e2⟩
theorem d11_0 : decode jdk_42_method_54_code 0 = .ok (.aload_n 0, 1) := by decide +kernel
theorem d11_1 : decode jdk_42_method_54_code 1 = .ok (.getfield 9, 3) := by decide +kernel
theorem d11_4 : decode jdk_42_method_54_code 4 = .ok (.arraylength, 1) := by decide +kernel
theorem d11_5 : decode jdk_42_method_54_code 5 = .ok (.aload_n 0, 1) := by decide +kernel
theorem d11_6 : decode jdk_42_method_54_code 6 = .ok (.invokevirtual 335, 3) := by decide +kernel
theorem pd_4 : parseMethodDescriptor "()B" = some ⟨[], some .byte⟩ := by decide +kernel
theorem d11_9 : decode jdk_42_method_54_code 9 = .ok (.ishr, 1) := by decide +kernel
theorem d11_10 : decode jdk_42_method_54_code 10 = .ok (.ireturn, 1) := by decide +kernel
theorem ef_rm11 (m : MethodId) (a1 : Addr) : entryFrame m #[(.ref a1)] 1 = mkF m 0 #[.val (.ref a1)] [] := by first | (simp [entryFrame, mkF, argsToLocals, Value.category]; done) | rfl
def Q_rm11 (Z : State) (a1 : Addr) (w : Int32) (vb : Addr) (kb : ClassId) (vs : List Value) (h0 : Heap) (n0 : Nat) (v : Option Value) (h : Heap) (L : List Loc) : Prop := v = some (.int (6 : Int32)) ∧ Fr n0 L ∧ h = h0
set_option maxRecDepth 65536 in
set_option maxHeartbeats 40000000 in
theorem rm11 (l : Launch) (Z : State) (a0 : Array Value) (hw : ∀ d ∈ tables_1, d.before a0 Z = true) (ws : List Jvm.Cond) (a1 : Addr) (w : Int32) (vb : Addr) (kb : ClassId) (vs : List Value) (h0 : Heap) (n0 : Nat) (Z0 : n0 ≤ h0.size) (E_a1 : Exa Z h0 a1 "java/lang/String") (F_value_a1 : Fld Z h0 a1 "java/lang/String" "value" "[B" (.ref vb)) (F_coder_a1 : Fld Z h0 a1 "java/lang/String" "coder" "B" (.int (0 : Int32))) (V_vb : Arv Z h0 vb kb .byte (6 : Int32) vs (.int (0 : Int32))) (S_COMPACT_STRINGS : Sta Z h0 "java/lang/String" "COMPACT_STRINGS" "Z" (.int w)) (hw0 : ¬ w = (0 : Int32)) :
    MetFree l own_y9 (head1 (Jvm.Cond.code own_y9 jdk_42_method_54_code 1 (some .int) :: ws) ({ frames := 1, cells := 0, slots := 0, locals := 13 } : Room)) (fun a U => a = #[(.ref a1)] ∧ Z.Warmed39 U.vm ∧ U.heap = h0) (fun _ _ _ _ _ => True) (fun _ U o U' => ∃ v L, o = .returned v ∧ Q_rm11 Z a1 w vb kb vs h0 n0 v U'.heap L ∧ FrameEnd U o U' L ({ frames := 1, cells := 0, slots := 0, locals := 13 } : Room).cells ({ frames := 1, cells := 0, slots := 0, locals := 13 } : Room).slots) := by
  refine MetFree.of_bodySF (plainFor_of_name pn_String) hisR ?_
  intro p e s m args below meth c s₁ Bd hml0 hP hK
  obtain ⟨rfl, hZ, hh⟩ := hP
  have hx := Bd.exec
  have hby := Bd.bytes
  have hml : c.maxLocals = 1 := hml0
  have hown : s.vm.findClass "java/lang/String" = some m.cls := findClass_of_methodNamed Bd.named
  have hnm := (name_of_methodNamed Bd.named Bd.method).1
  have X0 : Stand p l e ({ frames := 1, cells := 0, slots := 0, locals := 13 } : Room) s m #[(.ref a1)] below meth c s₁ [] 0 0 := Stand.of_body Bd
  have e0 : s₁.heap = h0 := by rw [← hh, Bd.state]; rfl
  have N0 := Fr.nil n0
  show OGo p.tables e below (own_Kq s (fun v h L => Q_rm11 Z a1 w vb kb vs h0 n0 v h L) ({ frames := 1, cells := 0, slots := 0, locals := 13 } : Room).cells ({ frames := 1, cells := 0, slots := 0, locals := 13 } : Room).slots) (s₁.setTop (entryFrame m #[(.ref a1)] 1))
  refine OGo.cast (ef_rm11 m a1) ?_
  show OGo _ _ _ _ (s₁.setTop (mkF m 0 #[.val (.ref a1)] []))
  refine OGo.via (fun _ k => XS.aloadN X0.here hx rfl (hb hby d11_0) rfl rfl k) ?_
  obtain ⟨T1, X1, e1, st1⟩ := getF X0 hx hZ hown (host := "") (Or.inl (own_w hw 32 rfl)) Via.refl e0 F_value_a1 (g := (mkF m 1 #[.val (.ref a1)] [(.ref a1)])) rfl rfl (hb hby d11_1)
  refine OGo.via st1 ?_
  show OGo _ _ _ _ (T1.setTop (mkF m 4 #[.val (.ref a1)] [(.ref vb)]))
  obtain ⟨cl2, Ar2, q2, Sz2, Ng2, Hs2, Gf2⟩ := id V_vb
  refine OGo.via (X1.arraylength hx (by rw [e1]; exact Ar2.1) (State.isArrayOf_alike hZ.alike Ar2.2.1) (g := (mkF m 4 #[.val (.ref a1)] [(.ref vb)])) rfl rfl (hb hby d11_4)) ?_
  rw [len_of Sz2 Ng2]
  show OGo _ _ _ _ (T1.setTop (mkF m 5 #[.val (.ref a1)] [(.int (6 : Int32))]))
  refine OGo.via (fun _ k => XS.aloadN X1.here hx rfl (hb hby d11_5) rfl rfl k) ?_
  obtain ⟨cq3, kq3, q3a, q3b, q3c⟩ := isOf hZ e1 E_a1
  obtain ⟨_, T3, Lc3, X3, hQ3, st3⟩ := own_open X1 (X1.virtualBack hx (y := own_y8) (z := own_y8) hown (mvT hZ (own_w hw 53 rfl)) (mvT hZ (own_w hw 54 rfl)) (notFace_of_selects (args := #[]) (mvT hZ (own_w hw 56 rfl))) (mvT hZ (own_w hw 56 rfl)) (mvT hZ (own_w hw 55 rfl)) (by decide) (backOf (W := 1) (rm12 l Z a0 hw [] a1 w vb h0 n0 Z0 E_a1 F_value_a1 F_coder_a1 S_COMPACT_STRINGS hw0) hZ (own_w hw 57 rfl) (own_w hw 7 rfl) (by decide) (by decide)) q3a q3c (g := (mkF m 6 #[.val (.ref a1)] [(.ref a1), (.int (6 : Int32))])) rfl (by rw [hml]; rfl) (Steps.refl _) (argsL := []) (rest := [(.int (6 : Int32))]) (lenOf pd_4 rfl) rfl (by show 2 * 0 + _ ≤ _; exact Nat.le_of_eq rfl) (hb hby d11_6) (fun _ _ => ⟨rfl, e1, (by decide : 0 + 0 ≤ _), (by decide : 0 + 0 ≤ _)⟩))
  obtain ⟨rfl, N3q, r3_0⟩ := hQ3
  have N3 := Fr.app N0 N3q
  refine OGo.via (fun _ k => st3.trans k) ?_
  show OGo _ _ _ _ (T3.setTop (mkF m 9 #[.val (.ref a1)] [(.int (0 : Int32)), (.int (6 : Int32))]))
  refine OGo.via (fun _ k => XS.ishr X3.here hx rfl (hb hby d11_9) rfl k) ?_
  show OGo _ _ _ _ (T3.setTop (mkF m 10 #[.val (.ref a1)] [(.int ((6 : Int32) >>> ((0 : Int32) &&& 31)))]))
  rw [show ((6 : Int32) >>> ((0 : Int32) &&& 31)) = (6 : Int32) from by decide]
  show OGo _ _ _ _ (T3.setTop (mkF m 10 #[.val (.ref a1)] [(.int (6 : Int32))]))
  refine own_retI X3 hx Bd.notSynchronized Bd.returns (hb hby d11_10) (by decide) (by decide) ?_
  show Q_rm11 Z _ _ _ _ _ h0 n0 _ T3.heap _
  exact ⟨rfl, N3, r3_0⟩
theorem d10_0 : decode jdk_42_method_154_code 0 = .ok (.getstatic 38, 3) := by decide +kernel
theorem d10_3 : decode jdk_42_method_154_code 3 = .ok (.ifCond .eq 14, 3) := by decide +kernel
theorem d10_6 : decode jdk_42_method_154_code 6 = .ok (.aload_n 0, 1) := by decide +kernel
theorem d10_7 : decode jdk_42_method_154_code 7 = .ok (.getfield 15, 3) := by decide +kernel
theorem d10_10 : decode jdk_42_method_154_code 10 = .ok (.ifCond .ne 7, 3) := by decide +kernel
theorem d10_13 : decode jdk_42_method_154_code 13 = .ok (.iconst 1, 1) := by decide +kernel
theorem d10_14 : decode jdk_42_method_154_code 14 = .ok (.goto 4, 3) := by decide +kernel
theorem d10_18 : decode jdk_42_method_154_code 18 = .ok (.ireturn, 1) := by decide +kernel
theorem ef_rm10 (m : MethodId) (a1 : Addr) : entryFrame m #[(.ref a1)] 1 = mkF m 0 #[.val (.ref a1)] [] := by first | (simp [entryFrame, mkF, argsToLocals, Value.category]; done) | rfl
def Q_rm10 (Z : State) (a1 : Addr) (w : Int32) (vb : Addr) (h0 : Heap) (n0 : Nat) (v : Option Value) (h : Heap) (L : List Loc) : Prop := v = some (.int (1 : Int32)) ∧ Fr n0 L ∧ h = h0
set_option maxRecDepth 65536 in
set_option maxHeartbeats 40000000 in
theorem rm10 (l : Launch) (Z : State) (a0 : Array Value) (hw : ∀ d ∈ tables_1, d.before a0 Z = true) (ws : List Jvm.Cond) (a1 : Addr) (w : Int32) (vb : Addr) (h0 : Heap) (n0 : Nat) (Z0 : n0 ≤ h0.size) (E_a1 : Exa Z h0 a1 "java/lang/String") (F_value_a1 : Fld Z h0 a1 "java/lang/String" "value" "[B" (.ref vb)) (F_coder_a1 : Fld Z h0 a1 "java/lang/String" "coder" "B" (.int (0 : Int32))) (S_COMPACT_STRINGS : Sta Z h0 "java/lang/String" "COMPACT_STRINGS" "Z" (.int w)) (hw0 : ¬ w = (0 : Int32)) :
    MetFree l own_y10 (head1 (Jvm.Cond.code own_y10 jdk_42_method_154_code 1 (some .boolean) :: ws) ({ frames := 0, cells := 0, slots := 0, locals := 0 } : Room)) (fun a U => a = #[(.ref a1)] ∧ Z.Warmed39 U.vm ∧ U.heap = h0) (fun _ _ _ _ _ => True) (fun _ U o U' => ∃ v L, o = .returned v ∧ Q_rm10 Z a1 w vb h0 n0 v U'.heap L ∧ FrameEnd U o U' L ({ frames := 0, cells := 0, slots := 0, locals := 0 } : Room).cells ({ frames := 0, cells := 0, slots := 0, locals := 0 } : Room).slots) := by
  refine MetFree.of_bodySF (plainFor_of_name pn_String) hisR ?_
  intro p e s m args below meth c s₁ Bd hml0 hP hK
  obtain ⟨rfl, hZ, hh⟩ := hP
  have hx := Bd.exec
  have hby := Bd.bytes
  have hml : c.maxLocals = 1 := hml0
  have hown : s.vm.findClass "java/lang/String" = some m.cls := findClass_of_methodNamed Bd.named
  have hnm := (name_of_methodNamed Bd.named Bd.method).1
  have X0 : Stand p l e ({ frames := 0, cells := 0, slots := 0, locals := 0 } : Room) s m #[(.ref a1)] below meth c s₁ [] 0 0 := Stand.of_body Bd
  have e0 : s₁.heap = h0 := by rw [← hh, Bd.state]; rfl
  have N0 := Fr.nil n0
  show OGo p.tables e below (own_Kq s (fun v h L => Q_rm10 Z a1 w vb h0 n0 v h L) ({ frames := 0, cells := 0, slots := 0, locals := 0 } : Room).cells ({ frames := 0, cells := 0, slots := 0, locals := 0 } : Room).slots) (s₁.setTop (entryFrame m #[(.ref a1)] 1))
  refine OGo.cast (ef_rm10 m a1) ?_
  show OGo _ _ _ _ (s₁.setTop (mkF m 0 #[.val (.ref a1)] []))
  obtain ⟨T1, X1, e1, st1⟩ := getS2 X0 hx hZ hown (host := "") (Or.inl (own_w hw 18 rfl)) Via.refl e0 S_COMPACT_STRINGS (g := (mkF m 0 #[.val (.ref a1)] [])) rfl (hb hby d10_0)
  refine OGo.via st1 ?_
  show OGo _ _ _ _ (T1.setTop (mkF m 3 #[.val (.ref a1)] [(.int w)]))
  refine OGo.via (fun _ k => XS.ifNo X1.here hx rfl (hb hby d10_3) rfl ((if0 _ _).trans (feq hw0).1) k) ?_
  show OGo _ _ _ _ (T1.setTop (mkF m 6 #[.val (.ref a1)] []))
  refine OGo.via (fun _ k => XS.aloadN X1.here hx rfl (hb hby d10_6) rfl rfl k) ?_
  obtain ⟨T2, X2, e2, st2⟩ := getF X1 hx hZ hown (host := "") (Or.inl (own_w hw 30 rfl)) Via.refl e1 F_coder_a1 (g := (mkF m 7 #[.val (.ref a1)] [(.ref a1)])) rfl rfl (hb hby d10_7)
  refine OGo.via st2 ?_
  show OGo _ _ _ _ (T2.setTop (mkF m 10 #[.val (.ref a1)] [(.int (0 : Int32))]))
  refine OGo.via (fun _ k => XS.ifNo X2.here hx rfl (hb hby d10_10) rfl ((if0 _ _).trans (teq (by decide : (0 : Int32) = (0 : Int32))).2) k) ?_
  show OGo _ _ _ _ (T2.setTop (mkF m 13 #[.val (.ref a1)] []))
  refine OGo.via (fun _ k => XS.iconst X2.here hx rfl (hb hby d10_13) (XS.goto X2.here hx rfl (pc0 := 14) (pc' := 18) rfl (hb hby d10_14) (by decide) (by decide) k)) ?_
  show OGo _ _ _ _ (T2.setTop (mkF m 18 #[.val (.ref a1)] [(.int (1 : Int32))]))
  refine own_retN (t := .boolean) (by simp) X2 hx Bd.notSynchronized Bd.returns (hb hby d10_18) (by decide) (by decide) ?_
  show Q_rm10 Z _ _ _ h0 n0 _ T2.heap _
  exact ⟨rfl, N0, e2⟩
theorem d14_0 : decode jdk_43_method_4_code 0 = .ok (.iload_n 0, 1) := by decide +kernel
theorem d14_1 : decode jdk_43_method_4_code 1 = .ok (.ifCond .lt 14, 3) := by decide +kernel
theorem d14_4 : decode jdk_43_method_4_code 4 = .ok (.iload_n 0, 1) := by decide +kernel
theorem d14_5 : decode jdk_43_method_4_code 5 = .ok (.sipush 255, 3) := by decide +kernel
theorem d14_8 : decode jdk_43_method_4_code 8 = .ok (.if_icmp .gt 7, 3) := by decide +kernel
theorem d14_11 : decode jdk_43_method_4_code 11 = .ok (.iconst 1, 1) := by decide +kernel
theorem d14_12 : decode jdk_43_method_4_code 12 = .ok (.goto 4, 3) := by decide +kernel
theorem d14_16 : decode jdk_43_method_4_code 16 = .ok (.ireturn, 1) := by decide +kernel
theorem pn_StringLatin1 : plainName "java/lang/StringLatin1" = true := by first | (simp [plainName, overriddenIn]; done) | decide +kernel
theorem ef_rm14 (m : MethodId)  : entryFrame m #[(.int (47 : Int32))] 1 = mkF m 0 #[.val (.int (47 : Int32))] [] := by first | (simp [entryFrame, mkF, argsToLocals, Value.category]; done) | rfl
def Q_rm14 (Z : State)  (h0 : Heap) (n0 : Nat) (v : Option Value) (h : Heap) (L : List Loc) : Prop := v = some (.int (1 : Int32)) ∧ Fr n0 L ∧ h = h0
set_option maxRecDepth 65536 in
set_option maxHeartbeats 40000000 in
theorem rm14 (l : Launch) (Z : State) (a0 : Array Value) (hw : ∀ d ∈ tables_1, d.before a0 Z = true) (ws : List Jvm.Cond)  (h0 : Heap) (n0 : Nat) (Z0 : n0 ≤ h0.size) :
    MetFree l own_y11 (head1 (Jvm.Cond.code own_y11 jdk_43_method_4_code 1 (some .boolean) :: ws) ({ frames := 0, cells := 0, slots := 0, locals := 0 } : Room)) (fun a U => a = #[(.int (47 : Int32))] ∧ Z.Warmed39 U.vm ∧ U.heap = h0) (fun _ _ _ _ _ => True) (fun _ U o U' => ∃ v L, o = .returned v ∧ Q_rm14 Z  h0 n0 v U'.heap L ∧ FrameEnd U o U' L ({ frames := 0, cells := 0, slots := 0, locals := 0 } : Room).cells ({ frames := 0, cells := 0, slots := 0, locals := 0 } : Room).slots) := by
  refine MetFree.of_bodySF (plainFor_of_name pn_StringLatin1) hisR ?_
  intro p e s m args below meth c s₁ Bd hml0 hP hK
  obtain ⟨rfl, hZ, hh⟩ := hP
  have hx := Bd.exec
  have hby := Bd.bytes
  have hml : c.maxLocals = 1 := hml0
  have hown : s.vm.findClass "java/lang/StringLatin1" = some m.cls := findClass_of_methodNamed Bd.named
  have hnm := (name_of_methodNamed Bd.named Bd.method).1
  have X0 : Stand p l e ({ frames := 0, cells := 0, slots := 0, locals := 0 } : Room) s m #[(.int (47 : Int32))] below meth c s₁ [] 0 0 := Stand.of_body Bd
  have e0 : s₁.heap = h0 := by rw [← hh, Bd.state]; rfl
  have N0 := Fr.nil n0
  show OGo p.tables e below (own_Kq s (fun v h L => Q_rm14 Z  h0 n0 v h L) ({ frames := 0, cells := 0, slots := 0, locals := 0 } : Room).cells ({ frames := 0, cells := 0, slots := 0, locals := 0 } : Room).slots) (s₁.setTop (entryFrame m #[(.int (47 : Int32))] 1))
  refine OGo.cast (ef_rm14 m) ?_
  show OGo _ _ _ _ (s₁.setTop (mkF m 0 #[.val (.int (47 : Int32))] []))
  refine OGo.via (fun _ k => XS.iloadN X0.here hx rfl (hb hby d14_0) rfl k) ?_
  refine OGo.via (fun _ k => XS.ifNo X0.here hx rfl (hb hby d14_1) rfl ((if0 _ _).trans (flt (by decide : ¬ ((47 : Int32) < (0 : Int32)))).1) k) ?_
  show OGo _ _ _ _ (s₁.setTop (mkF m 4 #[.val (.int (47 : Int32))] []))
  refine OGo.via (fun _ k => XS.iloadN X0.here hx rfl (hb hby d14_4) rfl (XS.sipush X0.here hx rfl (hb hby d14_5) k)) ?_
  refine OGo.via (fun _ k => XS.icmpNo X0.here hx rfl (hb hby d14_8) rfl (flt (by decide : ¬ ((255 : Int32) < (47 : Int32)))).2.2.1 k) ?_
  show OGo _ _ _ _ (s₁.setTop (mkF m 11 #[.val (.int (47 : Int32))] []))
  refine OGo.via (fun _ k => XS.iconst X0.here hx rfl (hb hby d14_11) (XS.goto X0.here hx rfl (pc0 := 12) (pc' := 16) rfl (hb hby d14_12) (by decide) (by decide) k)) ?_
  show OGo _ _ _ _ (s₁.setTop (mkF m 16 #[.val (.int (47 : Int32))] [(.int (1 : Int32))]))
  refine own_retN (t := .boolean) (by simp) X0 hx Bd.notSynchronized Bd.returns (hb hby d14_16) (by decide) (by decide) ?_
  show Q_rm14 Z  h0 n0 _ s₁.heap _
  exact ⟨rfl, N0, e0⟩
theorem d17_0 : decode jdk_43_method_23_code 0 = .ok (.iload_n 1, 1) := by decide +kernel
theorem d17_1 : decode jdk_43_method_23_code 1 = .ok (.i2b, 1) := by decide +kernel
theorem d17_2 : decode jdk_43_method_23_code 2 = .ok (.istore 4, 2) := by decide +kernel
theorem d17_4 : decode jdk_43_method_23_code 4 = .ok (.iload_n 2, 1) := by decide +kernel
theorem d17_5 : decode jdk_43_method_23_code 5 = .ok (.istore 5, 2) := by decide +kernel
theorem d17_7 : decode jdk_43_method_23_code 7 = .ok (.iload 5, 2) := by decide +kernel
theorem d17_9 : decode jdk_43_method_23_code 9 = .ok (.iload_n 3, 1) := by decide +kernel
theorem d17_10 : decode jdk_43_method_23_code 10 = .ok (.if_icmp .ge 21, 3) := by decide +kernel
theorem d17_13 : decode jdk_43_method_23_code 13 = .ok (.aload_n 0, 1) := by decide +kernel
theorem d17_14 : decode jdk_43_method_23_code 14 = .ok (.iload 5, 2) := by decide +kernel
theorem d17_16 : decode jdk_43_method_23_code 16 = .ok (.baload, 1) := by decide +kernel
theorem d17_17 : decode jdk_43_method_23_code 17 = .ok (.iload 4, 2) := by decide +kernel
theorem d17_19 : decode jdk_43_method_23_code 19 = .ok (.if_icmp .ne 6, 3) := by decide +kernel
theorem d17_22 : decode jdk_43_method_23_code 22 = .ok (.iload 5, 2) := by decide +kernel
theorem d17_24 : decode jdk_43_method_23_code 24 = .ok (.ireturn, 1) := by decide +kernel
theorem d17_25 : decode jdk_43_method_23_code 25 = .ok (.iinc 5 1, 3) := by decide +kernel
theorem d17_28 : decode jdk_43_method_23_code 28 = .ok (.goto (-21), 3) := by decide +kernel
theorem d17_31 : decode jdk_43_method_23_code 31 = .ok (.iconst (-1), 1) := by decide +kernel
theorem d17_32 : decode jdk_43_method_23_code 32 = .ok (.ireturn, 1) := by decide +kernel
theorem ef_rm17 (m : MethodId) (a1 : Addr) (p3 : Int32) : entryFrame m #[(.ref a1), (.int (47 : Int32)), (.int p3), (.int (6 : Int32))] 6 = mkF m 0 #[.val (.ref a1), .val (.int (47 : Int32)), .val (.int p3), .val (.int (6 : Int32)), .unset, .unset] [] := by first | (simp [entryFrame, mkF, argsToLocals, Value.category]; done) | rfl
def Q_rm17 (Z : State) (a1 : Addr) (p3 : Int32) (k1 : ClassId) (y0 : Int32) (y1 : Int32) (y2 : Int32) (y3 : Int32) (y4 : Int32) (y5 : Int32) (h0 : Heap) (n0 : Nat) (v : Option Value) (h : Heap) (L : List Loc) : Prop := v = some (.int (own_ix p3 (own_b y1) (own_b y2) (own_b y3) (own_b y4) (own_b y5))) ∧ Fr n0 L ∧ h = h0
set_option maxRecDepth 65536 in
set_option maxHeartbeats 40000000 in
theorem rm17 (l : Launch) (Z : State) (a0 : Array Value) (hw : ∀ d ∈ tables_1, d.before a0 Z = true) (ws : List Jvm.Cond) (a1 : Addr) (p3 : Int32) (k1 : ClassId) (y0 : Int32) (y1 : Int32) (y2 : Int32) (y3 : Int32) (y4 : Int32) (y5 : Int32) (h0 : Heap) (n0 : Nat) (Z0 : n0 ≤ h0.size) (V_a1 : Arv Z h0 a1 k1 .byte (6 : Int32) [(.int y0), (.int y1), (.int y2), (.int y3), (.int y4), (.int y5)] (.int (0 : Int32))) (hf : p3 = (1 : Int32) ∨ p3 = (2 : Int32) ∨ p3 = (3 : Int32) ∨ p3 = (4 : Int32) ∨ p3 = (5 : Int32)) :
    MetFree l own_y12 (head1 (Jvm.Cond.code own_y12 jdk_43_method_23_code 6 (some .int) :: ws) ({ frames := 0, cells := 0, slots := 0, locals := 0 } : Room)) (fun a U => a = #[(.ref a1), (.int (47 : Int32)), (.int p3), (.int (6 : Int32))] ∧ Z.Warmed39 U.vm ∧ U.heap = h0) (fun _ _ _ _ _ => True) (fun _ U o U' => ∃ v L, o = .returned v ∧ Q_rm17 Z a1 p3 k1 y0 y1 y2 y3 y4 y5 h0 n0 v U'.heap L ∧ FrameEnd U o U' L ({ frames := 0, cells := 0, slots := 0, locals := 0 } : Room).cells ({ frames := 0, cells := 0, slots := 0, locals := 0 } : Room).slots) := by
  refine MetFree.of_bodySF (plainFor_of_name pn_StringLatin1) hisR ?_
  intro p e s m args below meth c s₁ Bd hml0 hP hK
  obtain ⟨rfl, hZ, hh⟩ := hP
  have hx := Bd.exec
  have hby := Bd.bytes
  have hml : c.maxLocals = 6 := hml0
  have hown : s.vm.findClass "java/lang/StringLatin1" = some m.cls := findClass_of_methodNamed Bd.named
  have hnm := (name_of_methodNamed Bd.named Bd.method).1
  have X0 : Stand p l e ({ frames := 0, cells := 0, slots := 0, locals := 0 } : Room) s m #[(.ref a1), (.int (47 : Int32)), (.int p3), (.int (6 : Int32))] below meth c s₁ [] 0 0 := Stand.of_body Bd
  have e0 : s₁.heap = h0 := by rw [← hh, Bd.state]; rfl
  have N0 := Fr.nil n0
  show OGo p.tables e below (own_Kq s (fun v h L => Q_rm17 Z a1 p3 k1 y0 y1 y2 y3 y4 y5 h0 n0 v h L) ({ frames := 0, cells := 0, slots := 0, locals := 0 } : Room).cells ({ frames := 0, cells := 0, slots := 0, locals := 0 } : Room).slots) (s₁.setTop (entryFrame m #[(.ref a1), (.int (47 : Int32)), (.int p3), (.int (6 : Int32))] 6))
  refine OGo.cast (ef_rm17 m a1 p3) ?_
  show OGo _ _ _ _ (s₁.setTop (mkF m 0 #[.val (.ref a1), .val (.int (47 : Int32)), .val (.int p3), .val (.int (6 : Int32)), .unset, .unset] []))
  rcases hf with rfl | rfl | rfl | rfl | rfl
  · show OGo _ _ _ _ (s₁.setTop (mkF m 0 #[.val (.ref a1), .val (.int (47 : Int32)), .val (.int (1 : Int32)), .val (.int (6 : Int32)), .unset, .unset] []))
    refine OGo.via (fun _ k => XS.iloadN X0.here hx rfl (hb hby d17_0) rfl (XS.i2b X0.here hx rfl (hb hby d17_1) rfl k)) ?_
    show OGo _ _ _ _ (s₁.setTop (mkF m 2 #[.val (.ref a1), .val (.int (47 : Int32)), .val (.int (1 : Int32)), .val (.int (6 : Int32)), .unset, .unset] [(.int ((47 : Int32).toInt8.toInt32))]))
    rw [show ((47 : Int32).toInt8.toInt32) = (47 : Int32) from by decide]
    refine OGo.via (fun _ k => XS.istore X0.here hx rfl (hb hby d17_2) rfl (l' := #[.val (.ref a1), .val (.int (47 : Int32)), .val (.int (1 : Int32)), .val (.int (6 : Int32)), .val (.int (47 : Int32)), .unset]) rfl (XS.iloadN X0.here hx rfl (hb hby d17_4) rfl (XS.istore X0.here hx rfl (hb hby d17_5) rfl (l' := #[.val (.ref a1), .val (.int (47 : Int32)), .val (.int (1 : Int32)), .val (.int (6 : Int32)), .val (.int (47 : Int32)), .val (.int (1 : Int32))]) rfl (XS.iload X0.here hx rfl (hb hby d17_7) rfl (XS.iloadN X0.here hx rfl (hb hby d17_9) rfl k))))) ?_
    refine OGo.via (fun _ k => XS.icmpNo X0.here hx rfl (hb hby d17_10) rfl (tlt (by decide : (1 : Int32) < (6 : Int32))).2.1 k) ?_
    show OGo _ _ _ _ (s₁.setTop (mkF m 13 #[.val (.ref a1), .val (.int (47 : Int32)), .val (.int (1 : Int32)), .val (.int (6 : Int32)), .val (.int (47 : Int32)), .val (.int (1 : Int32))] []))
    refine OGo.via (fun _ k => XS.aloadN X0.here hx rfl (hb hby d17_13) rfl rfl (XS.iload X0.here hx rfl (hb hby d17_14) rfl k)) ?_
    obtain ⟨cl2, Ar2, q2, Sz2, Ng2, Hs2, Gf2⟩ := id V_a1
    have hin2 : ¬ ((1 : Int32) < 0 ∨ cl2.slots.size ≤ ((1 : Int32)).toNatClampNeg) := inb_of Sz2 ⟨by decide, by decide⟩
    have hat2 : cl2.slots[((1 : Int32)).toNatClampNeg]? = some (.int y1) := Hs2.at hin2 rfl
    refine OGo.via (X0.baloadBytes hx (j := (1 : Int32)) (v := (.int y1)) (by rw [e0]; exact Ar2.1) (State.isArrayOf_alike hZ.alike Ar2.2.1) Ar2.2.2 hin2 hat2 (g := (mkF m 16 #[.val (.ref a1), .val (.int (47 : Int32)), .val (.int (1 : Int32)), .val (.int (6 : Int32)), .val (.int (47 : Int32)), .val (.int (1 : Int32))] [(.int (1 : Int32)), (.ref a1)])) rfl rfl (hb hby d17_16)) ?_
    show OGo _ _ _ _ (s₁.setTop (mkF m 17 #[.val (.ref a1), .val (.int (47 : Int32)), .val (.int (1 : Int32)), .val (.int (6 : Int32)), .val (.int (47 : Int32)), .val (.int (1 : Int32))] [(.int y1)]))
    refine OGo.via (fun _ k => XS.iload X0.here hx rfl (hb hby d17_17) rfl k) ?_
    by_cases hc19_3 : y1 = (47 : Int32)
    · refine OGo.via (fun _ k => XS.icmpNo X0.here hx rfl (hb hby d17_19) rfl (teq hc19_3).2 k) ?_
      show OGo _ _ _ _ (s₁.setTop (mkF m 22 #[.val (.ref a1), .val (.int (47 : Int32)), .val (.int (1 : Int32)), .val (.int (6 : Int32)), .val (.int (47 : Int32)), .val (.int (1 : Int32))] []))
      refine OGo.via (fun _ k => XS.iload X0.here hx rfl (hb hby d17_22) rfl k) ?_
      show OGo _ _ _ _ (s₁.setTop (mkF m 24 #[.val (.ref a1), .val (.int (47 : Int32)), .val (.int (1 : Int32)), .val (.int (6 : Int32)), .val (.int (47 : Int32)), .val (.int (1 : Int32))] [(.int (1 : Int32))]))
      refine own_retI X0 hx Bd.notSynchronized Bd.returns (hb hby d17_24) (by decide) (by decide) ?_
      show Q_rm17 Z _ _ _ _ _ _ _ _ _ h0 n0 _ s₁.heap _
      exact ⟨(by rw [own_ix, if_pos ⟨by decide, by rw [own_b, if_pos hc19_3]⟩]), N0, e0⟩
    · refine OGo.via (fun _ k => XS.icmpYes X0.here hx rfl (pc0 := 19) (pc' := 25) rfl (hb hby d17_19) rfl (feq hc19_3).2 (by decide) (by decide) k) ?_
      show OGo _ _ _ _ (s₁.setTop (mkF m 25 #[.val (.ref a1), .val (.int (47 : Int32)), .val (.int (1 : Int32)), .val (.int (6 : Int32)), .val (.int (47 : Int32)), .val (.int (1 : Int32))] []))
      refine OGo.via (fun _ k => XS.iinc X0.here hx rfl (hb hby d17_25) rfl (l' := #[.val (.ref a1), .val (.int (47 : Int32)), .val (.int (1 : Int32)), .val (.int (6 : Int32)), .val (.int (47 : Int32)), .val (.int ((1 : Int32) + (1 : Int32)))]) rfl k) ?_
      show OGo _ _ _ _ (s₁.setTop (mkF m 28 #[.val (.ref a1), .val (.int (47 : Int32)), .val (.int (1 : Int32)), .val (.int (6 : Int32)), .val (.int (47 : Int32)), .val (.int ((1 : Int32) + (1 : Int32)))] []))
      rw [show ((1 : Int32) + (1 : Int32)) = (2 : Int32) from by decide]
      refine OGo.via (fun _ k => XS.goto X0.here hx rfl (pc0 := 28) (pc' := 7) rfl (hb hby d17_28) (by decide) (by decide) (XS.iload X0.here hx rfl (hb hby d17_7) rfl (XS.iloadN X0.here hx rfl (hb hby d17_9) rfl k))) ?_
      refine OGo.via (fun _ k => XS.icmpNo X0.here hx rfl (hb hby d17_10) rfl (tlt (by decide : (2 : Int32) < (6 : Int32))).2.1 k) ?_
      show OGo _ _ _ _ (s₁.setTop (mkF m 13 #[.val (.ref a1), .val (.int (47 : Int32)), .val (.int (1 : Int32)), .val (.int (6 : Int32)), .val (.int (47 : Int32)), .val (.int (2 : Int32))] []))
      refine OGo.via (fun _ k => XS.aloadN X0.here hx rfl (hb hby d17_13) rfl rfl (XS.iload X0.here hx rfl (hb hby d17_14) rfl k)) ?_
      obtain ⟨cl5, Ar5, q5, Sz5, Ng5, Hs5, Gf5⟩ := id V_a1
      have hin5 : ¬ ((2 : Int32) < 0 ∨ cl5.slots.size ≤ ((2 : Int32)).toNatClampNeg) := inb_of Sz5 ⟨by decide, by decide⟩
      have hat5 : cl5.slots[((2 : Int32)).toNatClampNeg]? = some (.int y2) := Hs5.at hin5 rfl
      refine OGo.via (X0.baloadBytes hx (j := (2 : Int32)) (v := (.int y2)) (by rw [e0]; exact Ar5.1) (State.isArrayOf_alike hZ.alike Ar5.2.1) Ar5.2.2 hin5 hat5 (g := (mkF m 16 #[.val (.ref a1), .val (.int (47 : Int32)), .val (.int (1 : Int32)), .val (.int (6 : Int32)), .val (.int (47 : Int32)), .val (.int (2 : Int32))] [(.int (2 : Int32)), (.ref a1)])) rfl rfl (hb hby d17_16)) ?_
      show OGo _ _ _ _ (s₁.setTop (mkF m 17 #[.val (.ref a1), .val (.int (47 : Int32)), .val (.int (1 : Int32)), .val (.int (6 : Int32)), .val (.int (47 : Int32)), .val (.int (2 : Int32))] [(.int y2)]))
      refine OGo.via (fun _ k => XS.iload X0.here hx rfl (hb hby d17_17) rfl k) ?_
      by_cases hc19_6 : y2 = (47 : Int32)
      · refine OGo.via (fun _ k => XS.icmpNo X0.here hx rfl (hb hby d17_19) rfl (teq hc19_6).2 k) ?_
        show OGo _ _ _ _ (s₁.setTop (mkF m 22 #[.val (.ref a1), .val (.int (47 : Int32)), .val (.int (1 : Int32)), .val (.int (6 : Int32)), .val (.int (47 : Int32)), .val (.int (2 : Int32))] []))
        refine OGo.via (fun _ k => XS.iload X0.here hx rfl (hb hby d17_22) rfl k) ?_
        show OGo _ _ _ _ (s₁.setTop (mkF m 24 #[.val (.ref a1), .val (.int (47 : Int32)), .val (.int (1 : Int32)), .val (.int (6 : Int32)), .val (.int (47 : Int32)), .val (.int (2 : Int32))] [(.int (2 : Int32))]))
        refine own_retI X0 hx Bd.notSynchronized Bd.returns (hb hby d17_24) (by decide) (by decide) ?_
        show Q_rm17 Z _ _ _ _ _ _ _ _ _ h0 n0 _ s₁.heap _
        exact ⟨(by rw [own_ix, if_neg (fun z => by rw [own_b, if_neg hc19_3] at z; exact absurd z.2 (by decide)), if_pos ⟨by decide, by rw [own_b, if_pos hc19_6]⟩]), N0, e0⟩
      · refine OGo.via (fun _ k => XS.icmpYes X0.here hx rfl (pc0 := 19) (pc' := 25) rfl (hb hby d17_19) rfl (feq hc19_6).2 (by decide) (by decide) k) ?_
        show OGo _ _ _ _ (s₁.setTop (mkF m 25 #[.val (.ref a1), .val (.int (47 : Int32)), .val (.int (1 : Int32)), .val (.int (6 : Int32)), .val (.int (47 : Int32)), .val (.int (2 : Int32))] []))
        refine OGo.via (fun _ k => XS.iinc X0.here hx rfl (hb hby d17_25) rfl (l' := #[.val (.ref a1), .val (.int (47 : Int32)), .val (.int (1 : Int32)), .val (.int (6 : Int32)), .val (.int (47 : Int32)), .val (.int ((2 : Int32) + (1 : Int32)))]) rfl k) ?_
        show OGo _ _ _ _ (s₁.setTop (mkF m 28 #[.val (.ref a1), .val (.int (47 : Int32)), .val (.int (1 : Int32)), .val (.int (6 : Int32)), .val (.int (47 : Int32)), .val (.int ((2 : Int32) + (1 : Int32)))] []))
        rw [show ((2 : Int32) + (1 : Int32)) = (3 : Int32) from by decide]
        refine OGo.via (fun _ k => XS.goto X0.here hx rfl (pc0 := 28) (pc' := 7) rfl (hb hby d17_28) (by decide) (by decide) (XS.iload X0.here hx rfl (hb hby d17_7) rfl (XS.iloadN X0.here hx rfl (hb hby d17_9) rfl k))) ?_
        refine OGo.via (fun _ k => XS.icmpNo X0.here hx rfl (hb hby d17_10) rfl (tlt (by decide : (3 : Int32) < (6 : Int32))).2.1 k) ?_
        show OGo _ _ _ _ (s₁.setTop (mkF m 13 #[.val (.ref a1), .val (.int (47 : Int32)), .val (.int (1 : Int32)), .val (.int (6 : Int32)), .val (.int (47 : Int32)), .val (.int (3 : Int32))] []))
        refine OGo.via (fun _ k => XS.aloadN X0.here hx rfl (hb hby d17_13) rfl rfl (XS.iload X0.here hx rfl (hb hby d17_14) rfl k)) ?_
        obtain ⟨cl8, Ar8, q8, Sz8, Ng8, Hs8, Gf8⟩ := id V_a1
        have hin8 : ¬ ((3 : Int32) < 0 ∨ cl8.slots.size ≤ ((3 : Int32)).toNatClampNeg) := inb_of Sz8 ⟨by decide, by decide⟩
        have hat8 : cl8.slots[((3 : Int32)).toNatClampNeg]? = some (.int y3) := Hs8.at hin8 rfl
        refine OGo.via (X0.baloadBytes hx (j := (3 : Int32)) (v := (.int y3)) (by rw [e0]; exact Ar8.1) (State.isArrayOf_alike hZ.alike Ar8.2.1) Ar8.2.2 hin8 hat8 (g := (mkF m 16 #[.val (.ref a1), .val (.int (47 : Int32)), .val (.int (1 : Int32)), .val (.int (6 : Int32)), .val (.int (47 : Int32)), .val (.int (3 : Int32))] [(.int (3 : Int32)), (.ref a1)])) rfl rfl (hb hby d17_16)) ?_
        show OGo _ _ _ _ (s₁.setTop (mkF m 17 #[.val (.ref a1), .val (.int (47 : Int32)), .val (.int (1 : Int32)), .val (.int (6 : Int32)), .val (.int (47 : Int32)), .val (.int (3 : Int32))] [(.int y3)]))
        refine OGo.via (fun _ k => XS.iload X0.here hx rfl (hb hby d17_17) rfl k) ?_
        by_cases hc19_9 : y3 = (47 : Int32)
        · refine OGo.via (fun _ k => XS.icmpNo X0.here hx rfl (hb hby d17_19) rfl (teq hc19_9).2 k) ?_
          show OGo _ _ _ _ (s₁.setTop (mkF m 22 #[.val (.ref a1), .val (.int (47 : Int32)), .val (.int (1 : Int32)), .val (.int (6 : Int32)), .val (.int (47 : Int32)), .val (.int (3 : Int32))] []))
          refine OGo.via (fun _ k => XS.iload X0.here hx rfl (hb hby d17_22) rfl k) ?_
          show OGo _ _ _ _ (s₁.setTop (mkF m 24 #[.val (.ref a1), .val (.int (47 : Int32)), .val (.int (1 : Int32)), .val (.int (6 : Int32)), .val (.int (47 : Int32)), .val (.int (3 : Int32))] [(.int (3 : Int32))]))
          refine own_retI X0 hx Bd.notSynchronized Bd.returns (hb hby d17_24) (by decide) (by decide) ?_
          show Q_rm17 Z _ _ _ _ _ _ _ _ _ h0 n0 _ s₁.heap _
          exact ⟨(by rw [own_ix, if_neg (fun z => by rw [own_b, if_neg hc19_3] at z; exact absurd z.2 (by decide)), if_neg (fun z => by rw [own_b, if_neg hc19_6] at z; exact absurd z.2 (by decide)), if_pos ⟨by decide, by rw [own_b, if_pos hc19_9]⟩]), N0, e0⟩
        · refine OGo.via (fun _ k => XS.icmpYes X0.here hx rfl (pc0 := 19) (pc' := 25) rfl (hb hby d17_19) rfl (feq hc19_9).2 (by decide) (by decide) k) ?_
          show OGo _ _ _ _ (s₁.setTop (mkF m 25 #[.val (.ref a1), .val (.int (47 : Int32)), .val (.int (1 : Int32)), .val (.int (6 : Int32)), .val (.int (47 : Int32)), .val (.int (3 : Int32))] []))
          refine OGo.via (fun _ k => XS.iinc X0.here hx rfl (hb hby d17_25) rfl (l' := #[.val (.ref a1), .val (.int (47 : Int32)), .val (.int (1 : Int32)), .val (.int (6 : Int32)), .val (.int (47 : Int32)), .val (.int ((3 : Int32) + (1 : Int32)))]) rfl k) ?_
          show OGo _ _ _ _ (s₁.setTop (mkF m 28 #[.val (.ref a1), .val (.int (47 : Int32)), .val (.int (1 : Int32)), .val (.int (6 : Int32)), .val (.int (47 : Int32)), .val (.int ((3 : Int32) + (1 : Int32)))] []))
          rw [show ((3 : Int32) + (1 : Int32)) = (4 : Int32) from by decide]
          refine OGo.via (fun _ k => XS.goto X0.here hx rfl (pc0 := 28) (pc' := 7) rfl (hb hby d17_28) (by decide) (by decide) (XS.iload X0.here hx rfl (hb hby d17_7) rfl (XS.iloadN X0.here hx rfl (hb hby d17_9) rfl k))) ?_
          refine OGo.via (fun _ k => XS.icmpNo X0.here hx rfl (hb hby d17_10) rfl (tlt (by decide : (4 : Int32) < (6 : Int32))).2.1 k) ?_
          show OGo _ _ _ _ (s₁.setTop (mkF m 13 #[.val (.ref a1), .val (.int (47 : Int32)), .val (.int (1 : Int32)), .val (.int (6 : Int32)), .val (.int (47 : Int32)), .val (.int (4 : Int32))] []))
          refine OGo.via (fun _ k => XS.aloadN X0.here hx rfl (hb hby d17_13) rfl rfl (XS.iload X0.here hx rfl (hb hby d17_14) rfl k)) ?_
          obtain ⟨cl11, Ar11, q11, Sz11, Ng11, Hs11, Gf11⟩ := id V_a1
          have hin11 : ¬ ((4 : Int32) < 0 ∨ cl11.slots.size ≤ ((4 : Int32)).toNatClampNeg) := inb_of Sz11 ⟨by decide, by decide⟩
          have hat11 : cl11.slots[((4 : Int32)).toNatClampNeg]? = some (.int y4) := Hs11.at hin11 rfl
          refine OGo.via (X0.baloadBytes hx (j := (4 : Int32)) (v := (.int y4)) (by rw [e0]; exact Ar11.1) (State.isArrayOf_alike hZ.alike Ar11.2.1) Ar11.2.2 hin11 hat11 (g := (mkF m 16 #[.val (.ref a1), .val (.int (47 : Int32)), .val (.int (1 : Int32)), .val (.int (6 : Int32)), .val (.int (47 : Int32)), .val (.int (4 : Int32))] [(.int (4 : Int32)), (.ref a1)])) rfl rfl (hb hby d17_16)) ?_
          show OGo _ _ _ _ (s₁.setTop (mkF m 17 #[.val (.ref a1), .val (.int (47 : Int32)), .val (.int (1 : Int32)), .val (.int (6 : Int32)), .val (.int (47 : Int32)), .val (.int (4 : Int32))] [(.int y4)]))
          refine OGo.via (fun _ k => XS.iload X0.here hx rfl (hb hby d17_17) rfl k) ?_
          by_cases hc19_12 : y4 = (47 : Int32)
          · refine OGo.via (fun _ k => XS.icmpNo X0.here hx rfl (hb hby d17_19) rfl (teq hc19_12).2 k) ?_
            show OGo _ _ _ _ (s₁.setTop (mkF m 22 #[.val (.ref a1), .val (.int (47 : Int32)), .val (.int (1 : Int32)), .val (.int (6 : Int32)), .val (.int (47 : Int32)), .val (.int (4 : Int32))] []))
            refine OGo.via (fun _ k => XS.iload X0.here hx rfl (hb hby d17_22) rfl k) ?_
            show OGo _ _ _ _ (s₁.setTop (mkF m 24 #[.val (.ref a1), .val (.int (47 : Int32)), .val (.int (1 : Int32)), .val (.int (6 : Int32)), .val (.int (47 : Int32)), .val (.int (4 : Int32))] [(.int (4 : Int32))]))
            refine own_retI X0 hx Bd.notSynchronized Bd.returns (hb hby d17_24) (by decide) (by decide) ?_
            show Q_rm17 Z _ _ _ _ _ _ _ _ _ h0 n0 _ s₁.heap _
            exact ⟨(by rw [own_ix, if_neg (fun z => by rw [own_b, if_neg hc19_3] at z; exact absurd z.2 (by decide)), if_neg (fun z => by rw [own_b, if_neg hc19_6] at z; exact absurd z.2 (by decide)), if_neg (fun z => by rw [own_b, if_neg hc19_9] at z; exact absurd z.2 (by decide)), if_pos ⟨by decide, by rw [own_b, if_pos hc19_12]⟩]), N0, e0⟩
          · refine OGo.via (fun _ k => XS.icmpYes X0.here hx rfl (pc0 := 19) (pc' := 25) rfl (hb hby d17_19) rfl (feq hc19_12).2 (by decide) (by decide) k) ?_
            show OGo _ _ _ _ (s₁.setTop (mkF m 25 #[.val (.ref a1), .val (.int (47 : Int32)), .val (.int (1 : Int32)), .val (.int (6 : Int32)), .val (.int (47 : Int32)), .val (.int (4 : Int32))] []))
            refine OGo.via (fun _ k => XS.iinc X0.here hx rfl (hb hby d17_25) rfl (l' := #[.val (.ref a1), .val (.int (47 : Int32)), .val (.int (1 : Int32)), .val (.int (6 : Int32)), .val (.int (47 : Int32)), .val (.int ((4 : Int32) + (1 : Int32)))]) rfl k) ?_
            show OGo _ _ _ _ (s₁.setTop (mkF m 28 #[.val (.ref a1), .val (.int (47 : Int32)), .val (.int (1 : Int32)), .val (.int (6 : Int32)), .val (.int (47 : Int32)), .val (.int ((4 : Int32) + (1 : Int32)))] []))
            rw [show ((4 : Int32) + (1 : Int32)) = (5 : Int32) from by decide]
            refine OGo.via (fun _ k => XS.goto X0.here hx rfl (pc0 := 28) (pc' := 7) rfl (hb hby d17_28) (by decide) (by decide) (XS.iload X0.here hx rfl (hb hby d17_7) rfl (XS.iloadN X0.here hx rfl (hb hby d17_9) rfl k))) ?_
            refine OGo.via (fun _ k => XS.icmpNo X0.here hx rfl (hb hby d17_10) rfl (tlt (by decide : (5 : Int32) < (6 : Int32))).2.1 k) ?_
            show OGo _ _ _ _ (s₁.setTop (mkF m 13 #[.val (.ref a1), .val (.int (47 : Int32)), .val (.int (1 : Int32)), .val (.int (6 : Int32)), .val (.int (47 : Int32)), .val (.int (5 : Int32))] []))
            refine OGo.via (fun _ k => XS.aloadN X0.here hx rfl (hb hby d17_13) rfl rfl (XS.iload X0.here hx rfl (hb hby d17_14) rfl k)) ?_
            obtain ⟨cl14, Ar14, q14, Sz14, Ng14, Hs14, Gf14⟩ := id V_a1
            have hin14 : ¬ ((5 : Int32) < 0 ∨ cl14.slots.size ≤ ((5 : Int32)).toNatClampNeg) := inb_of Sz14 ⟨by decide, by decide⟩
            have hat14 : cl14.slots[((5 : Int32)).toNatClampNeg]? = some (.int y5) := Hs14.at hin14 rfl
            refine OGo.via (X0.baloadBytes hx (j := (5 : Int32)) (v := (.int y5)) (by rw [e0]; exact Ar14.1) (State.isArrayOf_alike hZ.alike Ar14.2.1) Ar14.2.2 hin14 hat14 (g := (mkF m 16 #[.val (.ref a1), .val (.int (47 : Int32)), .val (.int (1 : Int32)), .val (.int (6 : Int32)), .val (.int (47 : Int32)), .val (.int (5 : Int32))] [(.int (5 : Int32)), (.ref a1)])) rfl rfl (hb hby d17_16)) ?_
            show OGo _ _ _ _ (s₁.setTop (mkF m 17 #[.val (.ref a1), .val (.int (47 : Int32)), .val (.int (1 : Int32)), .val (.int (6 : Int32)), .val (.int (47 : Int32)), .val (.int (5 : Int32))] [(.int y5)]))
            refine OGo.via (fun _ k => XS.iload X0.here hx rfl (hb hby d17_17) rfl k) ?_
            by_cases hc19_15 : y5 = (47 : Int32)
            · refine OGo.via (fun _ k => XS.icmpNo X0.here hx rfl (hb hby d17_19) rfl (teq hc19_15).2 k) ?_
              show OGo _ _ _ _ (s₁.setTop (mkF m 22 #[.val (.ref a1), .val (.int (47 : Int32)), .val (.int (1 : Int32)), .val (.int (6 : Int32)), .val (.int (47 : Int32)), .val (.int (5 : Int32))] []))
              refine OGo.via (fun _ k => XS.iload X0.here hx rfl (hb hby d17_22) rfl k) ?_
              show OGo _ _ _ _ (s₁.setTop (mkF m 24 #[.val (.ref a1), .val (.int (47 : Int32)), .val (.int (1 : Int32)), .val (.int (6 : Int32)), .val (.int (47 : Int32)), .val (.int (5 : Int32))] [(.int (5 : Int32))]))
              refine own_retI X0 hx Bd.notSynchronized Bd.returns (hb hby d17_24) (by decide) (by decide) ?_
              show Q_rm17 Z _ _ _ _ _ _ _ _ _ h0 n0 _ s₁.heap _
              exact ⟨(by rw [own_ix, if_neg (fun z => by rw [own_b, if_neg hc19_3] at z; exact absurd z.2 (by decide)), if_neg (fun z => by rw [own_b, if_neg hc19_6] at z; exact absurd z.2 (by decide)), if_neg (fun z => by rw [own_b, if_neg hc19_9] at z; exact absurd z.2 (by decide)), if_neg (fun z => by rw [own_b, if_neg hc19_12] at z; exact absurd z.2 (by decide)), if_pos ⟨by decide, by rw [own_b, if_pos hc19_15]⟩]), N0, e0⟩
            · refine OGo.via (fun _ k => XS.icmpYes X0.here hx rfl (pc0 := 19) (pc' := 25) rfl (hb hby d17_19) rfl (feq hc19_15).2 (by decide) (by decide) k) ?_
              show OGo _ _ _ _ (s₁.setTop (mkF m 25 #[.val (.ref a1), .val (.int (47 : Int32)), .val (.int (1 : Int32)), .val (.int (6 : Int32)), .val (.int (47 : Int32)), .val (.int (5 : Int32))] []))
              refine OGo.via (fun _ k => XS.iinc X0.here hx rfl (hb hby d17_25) rfl (l' := #[.val (.ref a1), .val (.int (47 : Int32)), .val (.int (1 : Int32)), .val (.int (6 : Int32)), .val (.int (47 : Int32)), .val (.int ((5 : Int32) + (1 : Int32)))]) rfl k) ?_
              show OGo _ _ _ _ (s₁.setTop (mkF m 28 #[.val (.ref a1), .val (.int (47 : Int32)), .val (.int (1 : Int32)), .val (.int (6 : Int32)), .val (.int (47 : Int32)), .val (.int ((5 : Int32) + (1 : Int32)))] []))
              rw [show ((5 : Int32) + (1 : Int32)) = (6 : Int32) from by decide]
              refine OGo.via (fun _ k => XS.goto X0.here hx rfl (pc0 := 28) (pc' := 7) rfl (hb hby d17_28) (by decide) (by decide) (XS.iload X0.here hx rfl (hb hby d17_7) rfl (XS.iloadN X0.here hx rfl (hb hby d17_9) rfl k))) ?_
              refine OGo.via (fun _ k => XS.icmpYes X0.here hx rfl (pc0 := 10) (pc' := 31) rfl (hb hby d17_10) rfl (flt (by decide : ¬ ((6 : Int32) < (6 : Int32)))).2.1 (by decide) (by decide) k) ?_
              show OGo _ _ _ _ (s₁.setTop (mkF m 31 #[.val (.ref a1), .val (.int (47 : Int32)), .val (.int (1 : Int32)), .val (.int (6 : Int32)), .val (.int (47 : Int32)), .val (.int (6 : Int32))] []))
              refine OGo.via (fun _ k => XS.iconst X0.here hx rfl (hb hby d17_31) k) ?_
              show OGo _ _ _ _ (s₁.setTop (mkF m 32 #[.val (.ref a1), .val (.int (47 : Int32)), .val (.int (1 : Int32)), .val (.int (6 : Int32)), .val (.int (47 : Int32)), .val (.int (6 : Int32))] [(.int (-1 : Int32))]))
              refine own_retI X0 hx Bd.notSynchronized Bd.returns (hb hby d17_32) (by decide) (by decide) ?_
              show Q_rm17 Z _ _ _ _ _ _ _ _ _ h0 n0 _ s₁.heap _
              exact ⟨(by rw [own_ix, if_neg (fun z => by rw [own_b, if_neg hc19_3] at z; exact absurd z.2 (by decide)), if_neg (fun z => by rw [own_b, if_neg hc19_6] at z; exact absurd z.2 (by decide)), if_neg (fun z => by rw [own_b, if_neg hc19_9] at z; exact absurd z.2 (by decide)), if_neg (fun z => by rw [own_b, if_neg hc19_12] at z; exact absurd z.2 (by decide)), if_neg (fun z => by rw [own_b, if_neg hc19_15] at z; exact absurd z.2 (by decide))]), N0, e0⟩
  · show OGo _ _ _ _ (s₁.setTop (mkF m 0 #[.val (.ref a1), .val (.int (47 : Int32)), .val (.int (2 : Int32)), .val (.int (6 : Int32)), .unset, .unset] []))
    refine OGo.via (fun _ k => XS.iloadN X0.here hx rfl (hb hby d17_0) rfl (XS.i2b X0.here hx rfl (hb hby d17_1) rfl k)) ?_
    show OGo _ _ _ _ (s₁.setTop (mkF m 2 #[.val (.ref a1), .val (.int (47 : Int32)), .val (.int (2 : Int32)), .val (.int (6 : Int32)), .unset, .unset] [(.int ((47 : Int32).toInt8.toInt32))]))
    rw [show ((47 : Int32).toInt8.toInt32) = (47 : Int32) from by decide]
    refine OGo.via (fun _ k => XS.istore X0.here hx rfl (hb hby d17_2) rfl (l' := #[.val (.ref a1), .val (.int (47 : Int32)), .val (.int (2 : Int32)), .val (.int (6 : Int32)), .val (.int (47 : Int32)), .unset]) rfl (XS.iloadN X0.here hx rfl (hb hby d17_4) rfl (XS.istore X0.here hx rfl (hb hby d17_5) rfl (l' := #[.val (.ref a1), .val (.int (47 : Int32)), .val (.int (2 : Int32)), .val (.int (6 : Int32)), .val (.int (47 : Int32)), .val (.int (2 : Int32))]) rfl (XS.iload X0.here hx rfl (hb hby d17_7) rfl (XS.iloadN X0.here hx rfl (hb hby d17_9) rfl k))))) ?_
    refine OGo.via (fun _ k => XS.icmpNo X0.here hx rfl (hb hby d17_10) rfl (tlt (by decide : (2 : Int32) < (6 : Int32))).2.1 k) ?_
    show OGo _ _ _ _ (s₁.setTop (mkF m 13 #[.val (.ref a1), .val (.int (47 : Int32)), .val (.int (2 : Int32)), .val (.int (6 : Int32)), .val (.int (47 : Int32)), .val (.int (2 : Int32))] []))
    refine OGo.via (fun _ k => XS.aloadN X0.here hx rfl (hb hby d17_13) rfl rfl (XS.iload X0.here hx rfl (hb hby d17_14) rfl k)) ?_
    obtain ⟨cl18, Ar18, q18, Sz18, Ng18, Hs18, Gf18⟩ := id V_a1
    have hin18 : ¬ ((2 : Int32) < 0 ∨ cl18.slots.size ≤ ((2 : Int32)).toNatClampNeg) := inb_of Sz18 ⟨by decide, by decide⟩
    have hat18 : cl18.slots[((2 : Int32)).toNatClampNeg]? = some (.int y2) := Hs18.at hin18 rfl
    refine OGo.via (X0.baloadBytes hx (j := (2 : Int32)) (v := (.int y2)) (by rw [e0]; exact Ar18.1) (State.isArrayOf_alike hZ.alike Ar18.2.1) Ar18.2.2 hin18 hat18 (g := (mkF m 16 #[.val (.ref a1), .val (.int (47 : Int32)), .val (.int (2 : Int32)), .val (.int (6 : Int32)), .val (.int (47 : Int32)), .val (.int (2 : Int32))] [(.int (2 : Int32)), (.ref a1)])) rfl rfl (hb hby d17_16)) ?_
    show OGo _ _ _ _ (s₁.setTop (mkF m 17 #[.val (.ref a1), .val (.int (47 : Int32)), .val (.int (2 : Int32)), .val (.int (6 : Int32)), .val (.int (47 : Int32)), .val (.int (2 : Int32))] [(.int y2)]))
    refine OGo.via (fun _ k => XS.iload X0.here hx rfl (hb hby d17_17) rfl k) ?_
    by_cases hc19_19 : y2 = (47 : Int32)
    · refine OGo.via (fun _ k => XS.icmpNo X0.here hx rfl (hb hby d17_19) rfl (teq hc19_19).2 k) ?_
      show OGo _ _ _ _ (s₁.setTop (mkF m 22 #[.val (.ref a1), .val (.int (47 : Int32)), .val (.int (2 : Int32)), .val (.int (6 : Int32)), .val (.int (47 : Int32)), .val (.int (2 : Int32))] []))
      refine OGo.via (fun _ k => XS.iload X0.here hx rfl (hb hby d17_22) rfl k) ?_
      show OGo _ _ _ _ (s₁.setTop (mkF m 24 #[.val (.ref a1), .val (.int (47 : Int32)), .val (.int (2 : Int32)), .val (.int (6 : Int32)), .val (.int (47 : Int32)), .val (.int (2 : Int32))] [(.int (2 : Int32))]))
      refine own_retI X0 hx Bd.notSynchronized Bd.returns (hb hby d17_24) (by decide) (by decide) ?_
      show Q_rm17 Z _ _ _ _ _ _ _ _ _ h0 n0 _ s₁.heap _
      exact ⟨(by rw [own_ix, if_neg (fun z => absurd z.1 (by decide)), if_pos ⟨by decide, by rw [own_b, if_pos hc19_19]⟩]), N0, e0⟩
    · refine OGo.via (fun _ k => XS.icmpYes X0.here hx rfl (pc0 := 19) (pc' := 25) rfl (hb hby d17_19) rfl (feq hc19_19).2 (by decide) (by decide) k) ?_
      show OGo _ _ _ _ (s₁.setTop (mkF m 25 #[.val (.ref a1), .val (.int (47 : Int32)), .val (.int (2 : Int32)), .val (.int (6 : Int32)), .val (.int (47 : Int32)), .val (.int (2 : Int32))] []))
      refine OGo.via (fun _ k => XS.iinc X0.here hx rfl (hb hby d17_25) rfl (l' := #[.val (.ref a1), .val (.int (47 : Int32)), .val (.int (2 : Int32)), .val (.int (6 : Int32)), .val (.int (47 : Int32)), .val (.int ((2 : Int32) + (1 : Int32)))]) rfl k) ?_
      show OGo _ _ _ _ (s₁.setTop (mkF m 28 #[.val (.ref a1), .val (.int (47 : Int32)), .val (.int (2 : Int32)), .val (.int (6 : Int32)), .val (.int (47 : Int32)), .val (.int ((2 : Int32) + (1 : Int32)))] []))
      rw [show ((2 : Int32) + (1 : Int32)) = (3 : Int32) from by decide]
      refine OGo.via (fun _ k => XS.goto X0.here hx rfl (pc0 := 28) (pc' := 7) rfl (hb hby d17_28) (by decide) (by decide) (XS.iload X0.here hx rfl (hb hby d17_7) rfl (XS.iloadN X0.here hx rfl (hb hby d17_9) rfl k))) ?_
      refine OGo.via (fun _ k => XS.icmpNo X0.here hx rfl (hb hby d17_10) rfl (tlt (by decide : (3 : Int32) < (6 : Int32))).2.1 k) ?_
      show OGo _ _ _ _ (s₁.setTop (mkF m 13 #[.val (.ref a1), .val (.int (47 : Int32)), .val (.int (2 : Int32)), .val (.int (6 : Int32)), .val (.int (47 : Int32)), .val (.int (3 : Int32))] []))
      refine OGo.via (fun _ k => XS.aloadN X0.here hx rfl (hb hby d17_13) rfl rfl (XS.iload X0.here hx rfl (hb hby d17_14) rfl k)) ?_
      obtain ⟨cl21, Ar21, q21, Sz21, Ng21, Hs21, Gf21⟩ := id V_a1
      have hin21 : ¬ ((3 : Int32) < 0 ∨ cl21.slots.size ≤ ((3 : Int32)).toNatClampNeg) := inb_of Sz21 ⟨by decide, by decide⟩
      have hat21 : cl21.slots[((3 : Int32)).toNatClampNeg]? = some (.int y3) := Hs21.at hin21 rfl
      refine OGo.via (X0.baloadBytes hx (j := (3 : Int32)) (v := (.int y3)) (by rw [e0]; exact Ar21.1) (State.isArrayOf_alike hZ.alike Ar21.2.1) Ar21.2.2 hin21 hat21 (g := (mkF m 16 #[.val (.ref a1), .val (.int (47 : Int32)), .val (.int (2 : Int32)), .val (.int (6 : Int32)), .val (.int (47 : Int32)), .val (.int (3 : Int32))] [(.int (3 : Int32)), (.ref a1)])) rfl rfl (hb hby d17_16)) ?_
      show OGo _ _ _ _ (s₁.setTop (mkF m 17 #[.val (.ref a1), .val (.int (47 : Int32)), .val (.int (2 : Int32)), .val (.int (6 : Int32)), .val (.int (47 : Int32)), .val (.int (3 : Int32))] [(.int y3)]))
      refine OGo.via (fun _ k => XS.iload X0.here hx rfl (hb hby d17_17) rfl k) ?_
      by_cases hc19_22 : y3 = (47 : Int32)
      · refine OGo.via (fun _ k => XS.icmpNo X0.here hx rfl (hb hby d17_19) rfl (teq hc19_22).2 k) ?_
        show OGo _ _ _ _ (s₁.setTop (mkF m 22 #[.val (.ref a1), .val (.int (47 : Int32)), .val (.int (2 : Int32)), .val (.int (6 : Int32)), .val (.int (47 : Int32)), .val (.int (3 : Int32))] []))
        refine OGo.via (fun _ k => XS.iload X0.here hx rfl (hb hby d17_22) rfl k) ?_
        show OGo _ _ _ _ (s₁.setTop (mkF m 24 #[.val (.ref a1), .val (.int (47 : Int32)), .val (.int (2 : Int32)), .val (.int (6 : Int32)), .val (.int (47 : Int32)), .val (.int (3 : Int32))] [(.int (3 : Int32))]))
        refine own_retI X0 hx Bd.notSynchronized Bd.returns (hb hby d17_24) (by decide) (by decide) ?_
        show Q_rm17 Z _ _ _ _ _ _ _ _ _ h0 n0 _ s₁.heap _
        exact ⟨(by rw [own_ix, if_neg (fun z => absurd z.1 (by decide)), if_neg (fun z => by rw [own_b, if_neg hc19_19] at z; exact absurd z.2 (by decide)), if_pos ⟨by decide, by rw [own_b, if_pos hc19_22]⟩]), N0, e0⟩
      · refine OGo.via (fun _ k => XS.icmpYes X0.here hx rfl (pc0 := 19) (pc' := 25) rfl (hb hby d17_19) rfl (feq hc19_22).2 (by decide) (by decide) k) ?_
        show OGo _ _ _ _ (s₁.setTop (mkF m 25 #[.val (.ref a1), .val (.int (47 : Int32)), .val (.int (2 : Int32)), .val (.int (6 : Int32)), .val (.int (47 : Int32)), .val (.int (3 : Int32))] []))
        refine OGo.via (fun _ k => XS.iinc X0.here hx rfl (hb hby d17_25) rfl (l' := #[.val (.ref a1), .val (.int (47 : Int32)), .val (.int (2 : Int32)), .val (.int (6 : Int32)), .val (.int (47 : Int32)), .val (.int ((3 : Int32) + (1 : Int32)))]) rfl k) ?_
        show OGo _ _ _ _ (s₁.setTop (mkF m 28 #[.val (.ref a1), .val (.int (47 : Int32)), .val (.int (2 : Int32)), .val (.int (6 : Int32)), .val (.int (47 : Int32)), .val (.int ((3 : Int32) + (1 : Int32)))] []))
        rw [show ((3 : Int32) + (1 : Int32)) = (4 : Int32) from by decide]
        refine OGo.via (fun _ k => XS.goto X0.here hx rfl (pc0 := 28) (pc' := 7) rfl (hb hby d17_28) (by decide) (by decide) (XS.iload X0.here hx rfl (hb hby d17_7) rfl (XS.iloadN X0.here hx rfl (hb hby d17_9) rfl k))) ?_
        refine OGo.via (fun _ k => XS.icmpNo X0.here hx rfl (hb hby d17_10) rfl (tlt (by decide : (4 : Int32) < (6 : Int32))).2.1 k) ?_
        show OGo _ _ _ _ (s₁.setTop (mkF m 13 #[.val (.ref a1), .val (.int (47 : Int32)), .val (.int (2 : Int32)), .val (.int (6 : Int32)), .val (.int (47 : Int32)), .val (.int (4 : Int32))] []))
        refine OGo.via (fun _ k => XS.aloadN X0.here hx rfl (hb hby d17_13) rfl rfl (XS.iload X0.here hx rfl (hb hby d17_14) rfl k)) ?_
        obtain ⟨cl24, Ar24, q24, Sz24, Ng24, Hs24, Gf24⟩ := id V_a1
        have hin24 : ¬ ((4 : Int32) < 0 ∨ cl24.slots.size ≤ ((4 : Int32)).toNatClampNeg) := inb_of Sz24 ⟨by decide, by decide⟩
        have hat24 : cl24.slots[((4 : Int32)).toNatClampNeg]? = some (.int y4) := Hs24.at hin24 rfl
        refine OGo.via (X0.baloadBytes hx (j := (4 : Int32)) (v := (.int y4)) (by rw [e0]; exact Ar24.1) (State.isArrayOf_alike hZ.alike Ar24.2.1) Ar24.2.2 hin24 hat24 (g := (mkF m 16 #[.val (.ref a1), .val (.int (47 : Int32)), .val (.int (2 : Int32)), .val (.int (6 : Int32)), .val (.int (47 : Int32)), .val (.int (4 : Int32))] [(.int (4 : Int32)), (.ref a1)])) rfl rfl (hb hby d17_16)) ?_
        show OGo _ _ _ _ (s₁.setTop (mkF m 17 #[.val (.ref a1), .val (.int (47 : Int32)), .val (.int (2 : Int32)), .val (.int (6 : Int32)), .val (.int (47 : Int32)), .val (.int (4 : Int32))] [(.int y4)]))
        refine OGo.via (fun _ k => XS.iload X0.here hx rfl (hb hby d17_17) rfl k) ?_
        by_cases hc19_25 : y4 = (47 : Int32)
        · refine OGo.via (fun _ k => XS.icmpNo X0.here hx rfl (hb hby d17_19) rfl (teq hc19_25).2 k) ?_
          show OGo _ _ _ _ (s₁.setTop (mkF m 22 #[.val (.ref a1), .val (.int (47 : Int32)), .val (.int (2 : Int32)), .val (.int (6 : Int32)), .val (.int (47 : Int32)), .val (.int (4 : Int32))] []))
          refine OGo.via (fun _ k => XS.iload X0.here hx rfl (hb hby d17_22) rfl k) ?_
          show OGo _ _ _ _ (s₁.setTop (mkF m 24 #[.val (.ref a1), .val (.int (47 : Int32)), .val (.int (2 : Int32)), .val (.int (6 : Int32)), .val (.int (47 : Int32)), .val (.int (4 : Int32))] [(.int (4 : Int32))]))
          refine own_retI X0 hx Bd.notSynchronized Bd.returns (hb hby d17_24) (by decide) (by decide) ?_
          show Q_rm17 Z _ _ _ _ _ _ _ _ _ h0 n0 _ s₁.heap _
          exact ⟨(by rw [own_ix, if_neg (fun z => absurd z.1 (by decide)), if_neg (fun z => by rw [own_b, if_neg hc19_19] at z; exact absurd z.2 (by decide)), if_neg (fun z => by rw [own_b, if_neg hc19_22] at z; exact absurd z.2 (by decide)), if_pos ⟨by decide, by rw [own_b, if_pos hc19_25]⟩]), N0, e0⟩
        · refine OGo.via (fun _ k => XS.icmpYes X0.here hx rfl (pc0 := 19) (pc' := 25) rfl (hb hby d17_19) rfl (feq hc19_25).2 (by decide) (by decide) k) ?_
          show OGo _ _ _ _ (s₁.setTop (mkF m 25 #[.val (.ref a1), .val (.int (47 : Int32)), .val (.int (2 : Int32)), .val (.int (6 : Int32)), .val (.int (47 : Int32)), .val (.int (4 : Int32))] []))
          refine OGo.via (fun _ k => XS.iinc X0.here hx rfl (hb hby d17_25) rfl (l' := #[.val (.ref a1), .val (.int (47 : Int32)), .val (.int (2 : Int32)), .val (.int (6 : Int32)), .val (.int (47 : Int32)), .val (.int ((4 : Int32) + (1 : Int32)))]) rfl k) ?_
          show OGo _ _ _ _ (s₁.setTop (mkF m 28 #[.val (.ref a1), .val (.int (47 : Int32)), .val (.int (2 : Int32)), .val (.int (6 : Int32)), .val (.int (47 : Int32)), .val (.int ((4 : Int32) + (1 : Int32)))] []))
          rw [show ((4 : Int32) + (1 : Int32)) = (5 : Int32) from by decide]
          refine OGo.via (fun _ k => XS.goto X0.here hx rfl (pc0 := 28) (pc' := 7) rfl (hb hby d17_28) (by decide) (by decide) (XS.iload X0.here hx rfl (hb hby d17_7) rfl (XS.iloadN X0.here hx rfl (hb hby d17_9) rfl k))) ?_
          refine OGo.via (fun _ k => XS.icmpNo X0.here hx rfl (hb hby d17_10) rfl (tlt (by decide : (5 : Int32) < (6 : Int32))).2.1 k) ?_
          show OGo _ _ _ _ (s₁.setTop (mkF m 13 #[.val (.ref a1), .val (.int (47 : Int32)), .val (.int (2 : Int32)), .val (.int (6 : Int32)), .val (.int (47 : Int32)), .val (.int (5 : Int32))] []))
          refine OGo.via (fun _ k => XS.aloadN X0.here hx rfl (hb hby d17_13) rfl rfl (XS.iload X0.here hx rfl (hb hby d17_14) rfl k)) ?_
          obtain ⟨cl27, Ar27, q27, Sz27, Ng27, Hs27, Gf27⟩ := id V_a1
          have hin27 : ¬ ((5 : Int32) < 0 ∨ cl27.slots.size ≤ ((5 : Int32)).toNatClampNeg) := inb_of Sz27 ⟨by decide, by decide⟩
          have hat27 : cl27.slots[((5 : Int32)).toNatClampNeg]? = some (.int y5) := Hs27.at hin27 rfl
          refine OGo.via (X0.baloadBytes hx (j := (5 : Int32)) (v := (.int y5)) (by rw [e0]; exact Ar27.1) (State.isArrayOf_alike hZ.alike Ar27.2.1) Ar27.2.2 hin27 hat27 (g := (mkF m 16 #[.val (.ref a1), .val (.int (47 : Int32)), .val (.int (2 : Int32)), .val (.int (6 : Int32)), .val (.int (47 : Int32)), .val (.int (5 : Int32))] [(.int (5 : Int32)), (.ref a1)])) rfl rfl (hb hby d17_16)) ?_
          show OGo _ _ _ _ (s₁.setTop (mkF m 17 #[.val (.ref a1), .val (.int (47 : Int32)), .val (.int (2 : Int32)), .val (.int (6 : Int32)), .val (.int (47 : Int32)), .val (.int (5 : Int32))] [(.int y5)]))
          refine OGo.via (fun _ k => XS.iload X0.here hx rfl (hb hby d17_17) rfl k) ?_
          by_cases hc19_28 : y5 = (47 : Int32)
          · refine OGo.via (fun _ k => XS.icmpNo X0.here hx rfl (hb hby d17_19) rfl (teq hc19_28).2 k) ?_
            show OGo _ _ _ _ (s₁.setTop (mkF m 22 #[.val (.ref a1), .val (.int (47 : Int32)), .val (.int (2 : Int32)), .val (.int (6 : Int32)), .val (.int (47 : Int32)), .val (.int (5 : Int32))] []))
            refine OGo.via (fun _ k => XS.iload X0.here hx rfl (hb hby d17_22) rfl k) ?_
            show OGo _ _ _ _ (s₁.setTop (mkF m 24 #[.val (.ref a1), .val (.int (47 : Int32)), .val (.int (2 : Int32)), .val (.int (6 : Int32)), .val (.int (47 : Int32)), .val (.int (5 : Int32))] [(.int (5 : Int32))]))
            refine own_retI X0 hx Bd.notSynchronized Bd.returns (hb hby d17_24) (by decide) (by decide) ?_
            show Q_rm17 Z _ _ _ _ _ _ _ _ _ h0 n0 _ s₁.heap _
            exact ⟨(by rw [own_ix, if_neg (fun z => absurd z.1 (by decide)), if_neg (fun z => by rw [own_b, if_neg hc19_19] at z; exact absurd z.2 (by decide)), if_neg (fun z => by rw [own_b, if_neg hc19_22] at z; exact absurd z.2 (by decide)), if_neg (fun z => by rw [own_b, if_neg hc19_25] at z; exact absurd z.2 (by decide)), if_pos ⟨by decide, by rw [own_b, if_pos hc19_28]⟩]), N0, e0⟩
          · refine OGo.via (fun _ k => XS.icmpYes X0.here hx rfl (pc0 := 19) (pc' := 25) rfl (hb hby d17_19) rfl (feq hc19_28).2 (by decide) (by decide) k) ?_
            show OGo _ _ _ _ (s₁.setTop (mkF m 25 #[.val (.ref a1), .val (.int (47 : Int32)), .val (.int (2 : Int32)), .val (.int (6 : Int32)), .val (.int (47 : Int32)), .val (.int (5 : Int32))] []))
            refine OGo.via (fun _ k => XS.iinc X0.here hx rfl (hb hby d17_25) rfl (l' := #[.val (.ref a1), .val (.int (47 : Int32)), .val (.int (2 : Int32)), .val (.int (6 : Int32)), .val (.int (47 : Int32)), .val (.int ((5 : Int32) + (1 : Int32)))]) rfl k) ?_
            show OGo _ _ _ _ (s₁.setTop (mkF m 28 #[.val (.ref a1), .val (.int (47 : Int32)), .val (.int (2 : Int32)), .val (.int (6 : Int32)), .val (.int (47 : Int32)), .val (.int ((5 : Int32) + (1 : Int32)))] []))
            rw [show ((5 : Int32) + (1 : Int32)) = (6 : Int32) from by decide]
            refine OGo.via (fun _ k => XS.goto X0.here hx rfl (pc0 := 28) (pc' := 7) rfl (hb hby d17_28) (by decide) (by decide) (XS.iload X0.here hx rfl (hb hby d17_7) rfl (XS.iloadN X0.here hx rfl (hb hby d17_9) rfl k))) ?_
            refine OGo.via (fun _ k => XS.icmpYes X0.here hx rfl (pc0 := 10) (pc' := 31) rfl (hb hby d17_10) rfl (flt (by decide : ¬ ((6 : Int32) < (6 : Int32)))).2.1 (by decide) (by decide) k) ?_
            show OGo _ _ _ _ (s₁.setTop (mkF m 31 #[.val (.ref a1), .val (.int (47 : Int32)), .val (.int (2 : Int32)), .val (.int (6 : Int32)), .val (.int (47 : Int32)), .val (.int (6 : Int32))] []))
            refine OGo.via (fun _ k => XS.iconst X0.here hx rfl (hb hby d17_31) k) ?_
            show OGo _ _ _ _ (s₁.setTop (mkF m 32 #[.val (.ref a1), .val (.int (47 : Int32)), .val (.int (2 : Int32)), .val (.int (6 : Int32)), .val (.int (47 : Int32)), .val (.int (6 : Int32))] [(.int (-1 : Int32))]))
            refine own_retI X0 hx Bd.notSynchronized Bd.returns (hb hby d17_32) (by decide) (by decide) ?_
            show Q_rm17 Z _ _ _ _ _ _ _ _ _ h0 n0 _ s₁.heap _
            exact ⟨(by rw [own_ix, if_neg (fun z => absurd z.1 (by decide)), if_neg (fun z => by rw [own_b, if_neg hc19_19] at z; exact absurd z.2 (by decide)), if_neg (fun z => by rw [own_b, if_neg hc19_22] at z; exact absurd z.2 (by decide)), if_neg (fun z => by rw [own_b, if_neg hc19_25] at z; exact absurd z.2 (by decide)), if_neg (fun z => by rw [own_b, if_neg hc19_28] at z; exact absurd z.2 (by decide))]), N0, e0⟩
  · show OGo _ _ _ _ (s₁.setTop (mkF m 0 #[.val (.ref a1), .val (.int (47 : Int32)), .val (.int (3 : Int32)), .val (.int (6 : Int32)), .unset, .unset] []))
    refine OGo.via (fun _ k => XS.iloadN X0.here hx rfl (hb hby d17_0) rfl (XS.i2b X0.here hx rfl (hb hby d17_1) rfl k)) ?_
    show OGo _ _ _ _ (s₁.setTop (mkF m 2 #[.val (.ref a1), .val (.int (47 : Int32)), .val (.int (3 : Int32)), .val (.int (6 : Int32)), .unset, .unset] [(.int ((47 : Int32).toInt8.toInt32))]))
    rw [show ((47 : Int32).toInt8.toInt32) = (47 : Int32) from by decide]
    refine OGo.via (fun _ k => XS.istore X0.here hx rfl (hb hby d17_2) rfl (l' := #[.val (.ref a1), .val (.int (47 : Int32)), .val (.int (3 : Int32)), .val (.int (6 : Int32)), .val (.int (47 : Int32)), .unset]) rfl (XS.iloadN X0.here hx rfl (hb hby d17_4) rfl (XS.istore X0.here hx rfl (hb hby d17_5) rfl (l' := #[.val (.ref a1), .val (.int (47 : Int32)), .val (.int (3 : Int32)), .val (.int (6 : Int32)), .val (.int (47 : Int32)), .val (.int (3 : Int32))]) rfl (XS.iload X0.here hx rfl (hb hby d17_7) rfl (XS.iloadN X0.here hx rfl (hb hby d17_9) rfl k))))) ?_
    refine OGo.via (fun _ k => XS.icmpNo X0.here hx rfl (hb hby d17_10) rfl (tlt (by decide : (3 : Int32) < (6 : Int32))).2.1 k) ?_
    show OGo _ _ _ _ (s₁.setTop (mkF m 13 #[.val (.ref a1), .val (.int (47 : Int32)), .val (.int (3 : Int32)), .val (.int (6 : Int32)), .val (.int (47 : Int32)), .val (.int (3 : Int32))] []))
    refine OGo.via (fun _ k => XS.aloadN X0.here hx rfl (hb hby d17_13) rfl rfl (XS.iload X0.here hx rfl (hb hby d17_14) rfl k)) ?_
    obtain ⟨cl31, Ar31, q31, Sz31, Ng31, Hs31, Gf31⟩ := id V_a1
    have hin31 : ¬ ((3 : Int32) < 0 ∨ cl31.slots.size ≤ ((3 : Int32)).toNatClampNeg) := inb_of Sz31 ⟨by decide, by decide⟩
    have hat31 : cl31.slots[((3 : Int32)).toNatClampNeg]? = some (.int y3) := Hs31.at hin31 rfl
    refine OGo.via (X0.baloadBytes hx (j := (3 : Int32)) (v := (.int y3)) (by rw [e0]; exact Ar31.1) (State.isArrayOf_alike hZ.alike Ar31.2.1) Ar31.2.2 hin31 hat31 (g := (mkF m 16 #[.val (.ref a1), .val (.int (47 : Int32)), .val (.int (3 : Int32)), .val (.int (6 : Int32)), .val (.int (47 : Int32)), .val (.int (3 : Int32))] [(.int (3 : Int32)), (.ref a1)])) rfl rfl (hb hby d17_16)) ?_
    show OGo _ _ _ _ (s₁.setTop (mkF m 17 #[.val (.ref a1), .val (.int (47 : Int32)), .val (.int (3 : Int32)), .val (.int (6 : Int32)), .val (.int (47 : Int32)), .val (.int (3 : Int32))] [(.int y3)]))
    refine OGo.via (fun _ k => XS.iload X0.here hx rfl (hb hby d17_17) rfl k) ?_
    by_cases hc19_32 : y3 = (47 : Int32)
    · refine OGo.via (fun _ k => XS.icmpNo X0.here hx rfl (hb hby d17_19) rfl (teq hc19_32).2 k) ?_
      show OGo _ _ _ _ (s₁.setTop (mkF m 22 #[.val (.ref a1), .val (.int (47 : Int32)), .val (.int (3 : Int32)), .val (.int (6 : Int32)), .val (.int (47 : Int32)), .val (.int (3 : Int32))] []))
      refine OGo.via (fun _ k => XS.iload X0.here hx rfl (hb hby d17_22) rfl k) ?_
      show OGo _ _ _ _ (s₁.setTop (mkF m 24 #[.val (.ref a1), .val (.int (47 : Int32)), .val (.int (3 : Int32)), .val (.int (6 : Int32)), .val (.int (47 : Int32)), .val (.int (3 : Int32))] [(.int (3 : Int32))]))
      refine own_retI X0 hx Bd.notSynchronized Bd.returns (hb hby d17_24) (by decide) (by decide) ?_
      show Q_rm17 Z _ _ _ _ _ _ _ _ _ h0 n0 _ s₁.heap _
      exact ⟨(by rw [own_ix, if_neg (fun z => absurd z.1 (by decide)), if_neg (fun z => absurd z.1 (by decide)), if_pos ⟨by decide, by rw [own_b, if_pos hc19_32]⟩]), N0, e0⟩
    · refine OGo.via (fun _ k => XS.icmpYes X0.here hx rfl (pc0 := 19) (pc' := 25) rfl (hb hby d17_19) rfl (feq hc19_32).2 (by decide) (by decide) k) ?_
      show OGo _ _ _ _ (s₁.setTop (mkF m 25 #[.val (.ref a1), .val (.int (47 : Int32)), .val (.int (3 : Int32)), .val (.int (6 : Int32)), .val (.int (47 : Int32)), .val (.int (3 : Int32))] []))
      refine OGo.via (fun _ k => XS.iinc X0.here hx rfl (hb hby d17_25) rfl (l' := #[.val (.ref a1), .val (.int (47 : Int32)), .val (.int (3 : Int32)), .val (.int (6 : Int32)), .val (.int (47 : Int32)), .val (.int ((3 : Int32) + (1 : Int32)))]) rfl k) ?_
      show OGo _ _ _ _ (s₁.setTop (mkF m 28 #[.val (.ref a1), .val (.int (47 : Int32)), .val (.int (3 : Int32)), .val (.int (6 : Int32)), .val (.int (47 : Int32)), .val (.int ((3 : Int32) + (1 : Int32)))] []))
      rw [show ((3 : Int32) + (1 : Int32)) = (4 : Int32) from by decide]
      refine OGo.via (fun _ k => XS.goto X0.here hx rfl (pc0 := 28) (pc' := 7) rfl (hb hby d17_28) (by decide) (by decide) (XS.iload X0.here hx rfl (hb hby d17_7) rfl (XS.iloadN X0.here hx rfl (hb hby d17_9) rfl k))) ?_
      refine OGo.via (fun _ k => XS.icmpNo X0.here hx rfl (hb hby d17_10) rfl (tlt (by decide : (4 : Int32) < (6 : Int32))).2.1 k) ?_
      show OGo _ _ _ _ (s₁.setTop (mkF m 13 #[.val (.ref a1), .val (.int (47 : Int32)), .val (.int (3 : Int32)), .val (.int (6 : Int32)), .val (.int (47 : Int32)), .val (.int (4 : Int32))] []))
      refine OGo.via (fun _ k => XS.aloadN X0.here hx rfl (hb hby d17_13) rfl rfl (XS.iload X0.here hx rfl (hb hby d17_14) rfl k)) ?_
      obtain ⟨cl34, Ar34, q34, Sz34, Ng34, Hs34, Gf34⟩ := id V_a1
      have hin34 : ¬ ((4 : Int32) < 0 ∨ cl34.slots.size ≤ ((4 : Int32)).toNatClampNeg) := inb_of Sz34 ⟨by decide, by decide⟩
      have hat34 : cl34.slots[((4 : Int32)).toNatClampNeg]? = some (.int y4) := Hs34.at hin34 rfl
      refine OGo.via (X0.baloadBytes hx (j := (4 : Int32)) (v := (.int y4)) (by rw [e0]; exact Ar34.1) (State.isArrayOf_alike hZ.alike Ar34.2.1) Ar34.2.2 hin34 hat34 (g := (mkF m 16 #[.val (.ref a1), .val (.int (47 : Int32)), .val (.int (3 : Int32)), .val (.int (6 : Int32)), .val (.int (47 : Int32)), .val (.int (4 : Int32))] [(.int (4 : Int32)), (.ref a1)])) rfl rfl (hb hby d17_16)) ?_
      show OGo _ _ _ _ (s₁.setTop (mkF m 17 #[.val (.ref a1), .val (.int (47 : Int32)), .val (.int (3 : Int32)), .val (.int (6 : Int32)), .val (.int (47 : Int32)), .val (.int (4 : Int32))] [(.int y4)]))
      refine OGo.via (fun _ k => XS.iload X0.here hx rfl (hb hby d17_17) rfl k) ?_
      by_cases hc19_35 : y4 = (47 : Int32)
      · refine OGo.via (fun _ k => XS.icmpNo X0.here hx rfl (hb hby d17_19) rfl (teq hc19_35).2 k) ?_
        show OGo _ _ _ _ (s₁.setTop (mkF m 22 #[.val (.ref a1), .val (.int (47 : Int32)), .val (.int (3 : Int32)), .val (.int (6 : Int32)), .val (.int (47 : Int32)), .val (.int (4 : Int32))] []))
        refine OGo.via (fun _ k => XS.iload X0.here hx rfl (hb hby d17_22) rfl k) ?_
        show OGo _ _ _ _ (s₁.setTop (mkF m 24 #[.val (.ref a1), .val (.int (47 : Int32)), .val (.int (3 : Int32)), .val (.int (6 : Int32)), .val (.int (47 : Int32)), .val (.int (4 : Int32))] [(.int (4 : Int32))]))
        refine own_retI X0 hx Bd.notSynchronized Bd.returns (hb hby d17_24) (by decide) (by decide) ?_
        show Q_rm17 Z _ _ _ _ _ _ _ _ _ h0 n0 _ s₁.heap _
        exact ⟨(by rw [own_ix, if_neg (fun z => absurd z.1 (by decide)), if_neg (fun z => absurd z.1 (by decide)), if_neg (fun z => by rw [own_b, if_neg hc19_32] at z; exact absurd z.2 (by decide)), if_pos ⟨by decide, by rw [own_b, if_pos hc19_35]⟩]), N0, e0⟩
      · refine OGo.via (fun _ k => XS.icmpYes X0.here hx rfl (pc0 := 19) (pc' := 25) rfl (hb hby d17_19) rfl (feq hc19_35).2 (by decide) (by decide) k) ?_
        show OGo _ _ _ _ (s₁.setTop (mkF m 25 #[.val (.ref a1), .val (.int (47 : Int32)), .val (.int (3 : Int32)), .val (.int (6 : Int32)), .val (.int (47 : Int32)), .val (.int (4 : Int32))] []))
        refine OGo.via (fun _ k => XS.iinc X0.here hx rfl (hb hby d17_25) rfl (l' := #[.val (.ref a1), .val (.int (47 : Int32)), .val (.int (3 : Int32)), .val (.int (6 : Int32)), .val (.int (47 : Int32)), .val (.int ((4 : Int32) + (1 : Int32)))]) rfl k) ?_
        show OGo _ _ _ _ (s₁.setTop (mkF m 28 #[.val (.ref a1), .val (.int (47 : Int32)), .val (.int (3 : Int32)), .val (.int (6 : Int32)), .val (.int (47 : Int32)), .val (.int ((4 : Int32) + (1 : Int32)))] []))
        rw [show ((4 : Int32) + (1 : Int32)) = (5 : Int32) from by decide]
        refine OGo.via (fun _ k => XS.goto X0.here hx rfl (pc0 := 28) (pc' := 7) rfl (hb hby d17_28) (by decide) (by decide) (XS.iload X0.here hx rfl (hb hby d17_7) rfl (XS.iloadN X0.here hx rfl (hb hby d17_9) rfl k))) ?_
        refine OGo.via (fun _ k => XS.icmpNo X0.here hx rfl (hb hby d17_10) rfl (tlt (by decide : (5 : Int32) < (6 : Int32))).2.1 k) ?_
        show OGo _ _ _ _ (s₁.setTop (mkF m 13 #[.val (.ref a1), .val (.int (47 : Int32)), .val (.int (3 : Int32)), .val (.int (6 : Int32)), .val (.int (47 : Int32)), .val (.int (5 : Int32))] []))
        refine OGo.via (fun _ k => XS.aloadN X0.here hx rfl (hb hby d17_13) rfl rfl (XS.iload X0.here hx rfl (hb hby d17_14) rfl k)) ?_
        obtain ⟨cl37, Ar37, q37, Sz37, Ng37, Hs37, Gf37⟩ := id V_a1
        have hin37 : ¬ ((5 : Int32) < 0 ∨ cl37.slots.size ≤ ((5 : Int32)).toNatClampNeg) := inb_of Sz37 ⟨by decide, by decide⟩
        have hat37 : cl37.slots[((5 : Int32)).toNatClampNeg]? = some (.int y5) := Hs37.at hin37 rfl
        refine OGo.via (X0.baloadBytes hx (j := (5 : Int32)) (v := (.int y5)) (by rw [e0]; exact Ar37.1) (State.isArrayOf_alike hZ.alike Ar37.2.1) Ar37.2.2 hin37 hat37 (g := (mkF m 16 #[.val (.ref a1), .val (.int (47 : Int32)), .val (.int (3 : Int32)), .val (.int (6 : Int32)), .val (.int (47 : Int32)), .val (.int (5 : Int32))] [(.int (5 : Int32)), (.ref a1)])) rfl rfl (hb hby d17_16)) ?_
        show OGo _ _ _ _ (s₁.setTop (mkF m 17 #[.val (.ref a1), .val (.int (47 : Int32)), .val (.int (3 : Int32)), .val (.int (6 : Int32)), .val (.int (47 : Int32)), .val (.int (5 : Int32))] [(.int y5)]))
        refine OGo.via (fun _ k => XS.iload X0.here hx rfl (hb hby d17_17) rfl k) ?_
        by_cases hc19_38 : y5 = (47 : Int32)
        · refine OGo.via (fun _ k => XS.icmpNo X0.here hx rfl (hb hby d17_19) rfl (teq hc19_38).2 k) ?_
          show OGo _ _ _ _ (s₁.setTop (mkF m 22 #[.val (.ref a1), .val (.int (47 : Int32)), .val (.int (3 : Int32)), .val (.int (6 : Int32)), .val (.int (47 : Int32)), .val (.int (5 : Int32))] []))
          refine OGo.via (fun _ k => XS.iload X0.here hx rfl (hb hby d17_22) rfl k) ?_
          show OGo _ _ _ _ (s₁.setTop (mkF m 24 #[.val (.ref a1), .val (.int (47 : Int32)), .val (.int (3 : Int32)), .val (.int (6 : Int32)), .val (.int (47 : Int32)), .val (.int (5 : Int32))] [(.int (5 : Int32))]))
          refine own_retI X0 hx Bd.notSynchronized Bd.returns (hb hby d17_24) (by decide) (by decide) ?_
          show Q_rm17 Z _ _ _ _ _ _ _ _ _ h0 n0 _ s₁.heap _
          exact ⟨(by rw [own_ix, if_neg (fun z => absurd z.1 (by decide)), if_neg (fun z => absurd z.1 (by decide)), if_neg (fun z => by rw [own_b, if_neg hc19_32] at z; exact absurd z.2 (by decide)), if_neg (fun z => by rw [own_b, if_neg hc19_35] at z; exact absurd z.2 (by decide)), if_pos ⟨by decide, by rw [own_b, if_pos hc19_38]⟩]), N0, e0⟩
        · refine OGo.via (fun _ k => XS.icmpYes X0.here hx rfl (pc0 := 19) (pc' := 25) rfl (hb hby d17_19) rfl (feq hc19_38).2 (by decide) (by decide) k) ?_
          show OGo _ _ _ _ (s₁.setTop (mkF m 25 #[.val (.ref a1), .val (.int (47 : Int32)), .val (.int (3 : Int32)), .val (.int (6 : Int32)), .val (.int (47 : Int32)), .val (.int (5 : Int32))] []))
          refine OGo.via (fun _ k => XS.iinc X0.here hx rfl (hb hby d17_25) rfl (l' := #[.val (.ref a1), .val (.int (47 : Int32)), .val (.int (3 : Int32)), .val (.int (6 : Int32)), .val (.int (47 : Int32)), .val (.int ((5 : Int32) + (1 : Int32)))]) rfl k) ?_
          show OGo _ _ _ _ (s₁.setTop (mkF m 28 #[.val (.ref a1), .val (.int (47 : Int32)), .val (.int (3 : Int32)), .val (.int (6 : Int32)), .val (.int (47 : Int32)), .val (.int ((5 : Int32) + (1 : Int32)))] []))
          rw [show ((5 : Int32) + (1 : Int32)) = (6 : Int32) from by decide]
          refine OGo.via (fun _ k => XS.goto X0.here hx rfl (pc0 := 28) (pc' := 7) rfl (hb hby d17_28) (by decide) (by decide) (XS.iload X0.here hx rfl (hb hby d17_7) rfl (XS.iloadN X0.here hx rfl (hb hby d17_9) rfl k))) ?_
          refine OGo.via (fun _ k => XS.icmpYes X0.here hx rfl (pc0 := 10) (pc' := 31) rfl (hb hby d17_10) rfl (flt (by decide : ¬ ((6 : Int32) < (6 : Int32)))).2.1 (by decide) (by decide) k) ?_
          show OGo _ _ _ _ (s₁.setTop (mkF m 31 #[.val (.ref a1), .val (.int (47 : Int32)), .val (.int (3 : Int32)), .val (.int (6 : Int32)), .val (.int (47 : Int32)), .val (.int (6 : Int32))] []))
          refine OGo.via (fun _ k => XS.iconst X0.here hx rfl (hb hby d17_31) k) ?_
          show OGo _ _ _ _ (s₁.setTop (mkF m 32 #[.val (.ref a1), .val (.int (47 : Int32)), .val (.int (3 : Int32)), .val (.int (6 : Int32)), .val (.int (47 : Int32)), .val (.int (6 : Int32))] [(.int (-1 : Int32))]))
          refine own_retI X0 hx Bd.notSynchronized Bd.returns (hb hby d17_32) (by decide) (by decide) ?_
          show Q_rm17 Z _ _ _ _ _ _ _ _ _ h0 n0 _ s₁.heap _
          exact ⟨(by rw [own_ix, if_neg (fun z => absurd z.1 (by decide)), if_neg (fun z => absurd z.1 (by decide)), if_neg (fun z => by rw [own_b, if_neg hc19_32] at z; exact absurd z.2 (by decide)), if_neg (fun z => by rw [own_b, if_neg hc19_35] at z; exact absurd z.2 (by decide)), if_neg (fun z => by rw [own_b, if_neg hc19_38] at z; exact absurd z.2 (by decide))]), N0, e0⟩
  · show OGo _ _ _ _ (s₁.setTop (mkF m 0 #[.val (.ref a1), .val (.int (47 : Int32)), .val (.int (4 : Int32)), .val (.int (6 : Int32)), .unset, .unset] []))
    refine OGo.via (fun _ k => XS.iloadN X0.here hx rfl (hb hby d17_0) rfl (XS.i2b X0.here hx rfl (hb hby d17_1) rfl k)) ?_
    show OGo _ _ _ _ (s₁.setTop (mkF m 2 #[.val (.ref a1), .val (.int (47 : Int32)), .val (.int (4 : Int32)), .val (.int (6 : Int32)), .unset, .unset] [(.int ((47 : Int32).toInt8.toInt32))]))
    rw [show ((47 : Int32).toInt8.toInt32) = (47 : Int32) from by decide]
    refine OGo.via (fun _ k => XS.istore X0.here hx rfl (hb hby d17_2) rfl (l' := #[.val (.ref a1), .val (.int (47 : Int32)), .val (.int (4 : Int32)), .val (.int (6 : Int32)), .val (.int (47 : Int32)), .unset]) rfl (XS.iloadN X0.here hx rfl (hb hby d17_4) rfl (XS.istore X0.here hx rfl (hb hby d17_5) rfl (l' := #[.val (.ref a1), .val (.int (47 : Int32)), .val (.int (4 : Int32)), .val (.int (6 : Int32)), .val (.int (47 : Int32)), .val (.int (4 : Int32))]) rfl (XS.iload X0.here hx rfl (hb hby d17_7) rfl (XS.iloadN X0.here hx rfl (hb hby d17_9) rfl k))))) ?_
    refine OGo.via (fun _ k => XS.icmpNo X0.here hx rfl (hb hby d17_10) rfl (tlt (by decide : (4 : Int32) < (6 : Int32))).2.1 k) ?_
    show OGo _ _ _ _ (s₁.setTop (mkF m 13 #[.val (.ref a1), .val (.int (47 : Int32)), .val (.int (4 : Int32)), .val (.int (6 : Int32)), .val (.int (47 : Int32)), .val (.int (4 : Int32))] []))
    refine OGo.via (fun _ k => XS.aloadN X0.here hx rfl (hb hby d17_13) rfl rfl (XS.iload X0.here hx rfl (hb hby d17_14) rfl k)) ?_
    obtain ⟨cl41, Ar41, q41, Sz41, Ng41, Hs41, Gf41⟩ := id V_a1
    have hin41 : ¬ ((4 : Int32) < 0 ∨ cl41.slots.size ≤ ((4 : Int32)).toNatClampNeg) := inb_of Sz41 ⟨by decide, by decide⟩
    have hat41 : cl41.slots[((4 : Int32)).toNatClampNeg]? = some (.int y4) := Hs41.at hin41 rfl
    refine OGo.via (X0.baloadBytes hx (j := (4 : Int32)) (v := (.int y4)) (by rw [e0]; exact Ar41.1) (State.isArrayOf_alike hZ.alike Ar41.2.1) Ar41.2.2 hin41 hat41 (g := (mkF m 16 #[.val (.ref a1), .val (.int (47 : Int32)), .val (.int (4 : Int32)), .val (.int (6 : Int32)), .val (.int (47 : Int32)), .val (.int (4 : Int32))] [(.int (4 : Int32)), (.ref a1)])) rfl rfl (hb hby d17_16)) ?_
    show OGo _ _ _ _ (s₁.setTop (mkF m 17 #[.val (.ref a1), .val (.int (47 : Int32)), .val (.int (4 : Int32)), .val (.int (6 : Int32)), .val (.int (47 : Int32)), .val (.int (4 : Int32))] [(.int y4)]))
    refine OGo.via (fun _ k => XS.iload X0.here hx rfl (hb hby d17_17) rfl k) ?_
    by_cases hc19_42 : y4 = (47 : Int32)
    · refine OGo.via (fun _ k => XS.icmpNo X0.here hx rfl (hb hby d17_19) rfl (teq hc19_42).2 k) ?_
      show OGo _ _ _ _ (s₁.setTop (mkF m 22 #[.val (.ref a1), .val (.int (47 : Int32)), .val (.int (4 : Int32)), .val (.int (6 : Int32)), .val (.int (47 : Int32)), .val (.int (4 : Int32))] []))
      refine OGo.via (fun _ k => XS.iload X0.here hx rfl (hb hby d17_22) rfl k) ?_
      show OGo _ _ _ _ (s₁.setTop (mkF m 24 #[.val (.ref a1), .val (.int (47 : Int32)), .val (.int (4 : Int32)), .val (.int (6 : Int32)), .val (.int (47 : Int32)), .val (.int (4 : Int32))] [(.int (4 : Int32))]))
      refine own_retI X0 hx Bd.notSynchronized Bd.returns (hb hby d17_24) (by decide) (by decide) ?_
      show Q_rm17 Z _ _ _ _ _ _ _ _ _ h0 n0 _ s₁.heap _
      exact ⟨(by rw [own_ix, if_neg (fun z => absurd z.1 (by decide)), if_neg (fun z => absurd z.1 (by decide)), if_neg (fun z => absurd z.1 (by decide)), if_pos ⟨by decide, by rw [own_b, if_pos hc19_42]⟩]), N0, e0⟩
    · refine OGo.via (fun _ k => XS.icmpYes X0.here hx rfl (pc0 := 19) (pc' := 25) rfl (hb hby d17_19) rfl (feq hc19_42).2 (by decide) (by decide) k) ?_
      show OGo _ _ _ _ (s₁.setTop (mkF m 25 #[.val (.ref a1), .val (.int (47 : Int32)), .val (.int (4 : Int32)), .val (.int (6 : Int32)), .val (.int (47 : Int32)), .val (.int (4 : Int32))] []))
      refine OGo.via (fun _ k => XS.iinc X0.here hx rfl (hb hby d17_25) rfl (l' := #[.val (.ref a1), .val (.int (47 : Int32)), .val (.int (4 : Int32)), .val (.int (6 : Int32)), .val (.int (47 : Int32)), .val (.int ((4 : Int32) + (1 : Int32)))]) rfl k) ?_
      show OGo _ _ _ _ (s₁.setTop (mkF m 28 #[.val (.ref a1), .val (.int (47 : Int32)), .val (.int (4 : Int32)), .val (.int (6 : Int32)), .val (.int (47 : Int32)), .val (.int ((4 : Int32) + (1 : Int32)))] []))
      rw [show ((4 : Int32) + (1 : Int32)) = (5 : Int32) from by decide]
      refine OGo.via (fun _ k => XS.goto X0.here hx rfl (pc0 := 28) (pc' := 7) rfl (hb hby d17_28) (by decide) (by decide) (XS.iload X0.here hx rfl (hb hby d17_7) rfl (XS.iloadN X0.here hx rfl (hb hby d17_9) rfl k))) ?_
      refine OGo.via (fun _ k => XS.icmpNo X0.here hx rfl (hb hby d17_10) rfl (tlt (by decide : (5 : Int32) < (6 : Int32))).2.1 k) ?_
      show OGo _ _ _ _ (s₁.setTop (mkF m 13 #[.val (.ref a1), .val (.int (47 : Int32)), .val (.int (4 : Int32)), .val (.int (6 : Int32)), .val (.int (47 : Int32)), .val (.int (5 : Int32))] []))
      refine OGo.via (fun _ k => XS.aloadN X0.here hx rfl (hb hby d17_13) rfl rfl (XS.iload X0.here hx rfl (hb hby d17_14) rfl k)) ?_
      obtain ⟨cl44, Ar44, q44, Sz44, Ng44, Hs44, Gf44⟩ := id V_a1
      have hin44 : ¬ ((5 : Int32) < 0 ∨ cl44.slots.size ≤ ((5 : Int32)).toNatClampNeg) := inb_of Sz44 ⟨by decide, by decide⟩
      have hat44 : cl44.slots[((5 : Int32)).toNatClampNeg]? = some (.int y5) := Hs44.at hin44 rfl
      refine OGo.via (X0.baloadBytes hx (j := (5 : Int32)) (v := (.int y5)) (by rw [e0]; exact Ar44.1) (State.isArrayOf_alike hZ.alike Ar44.2.1) Ar44.2.2 hin44 hat44 (g := (mkF m 16 #[.val (.ref a1), .val (.int (47 : Int32)), .val (.int (4 : Int32)), .val (.int (6 : Int32)), .val (.int (47 : Int32)), .val (.int (5 : Int32))] [(.int (5 : Int32)), (.ref a1)])) rfl rfl (hb hby d17_16)) ?_
      show OGo _ _ _ _ (s₁.setTop (mkF m 17 #[.val (.ref a1), .val (.int (47 : Int32)), .val (.int (4 : Int32)), .val (.int (6 : Int32)), .val (.int (47 : Int32)), .val (.int (5 : Int32))] [(.int y5)]))
      refine OGo.via (fun _ k => XS.iload X0.here hx rfl (hb hby d17_17) rfl k) ?_
      by_cases hc19_45 : y5 = (47 : Int32)
      · refine OGo.via (fun _ k => XS.icmpNo X0.here hx rfl (hb hby d17_19) rfl (teq hc19_45).2 k) ?_
        show OGo _ _ _ _ (s₁.setTop (mkF m 22 #[.val (.ref a1), .val (.int (47 : Int32)), .val (.int (4 : Int32)), .val (.int (6 : Int32)), .val (.int (47 : Int32)), .val (.int (5 : Int32))] []))
        refine OGo.via (fun _ k => XS.iload X0.here hx rfl (hb hby d17_22) rfl k) ?_
        show OGo _ _ _ _ (s₁.setTop (mkF m 24 #[.val (.ref a1), .val (.int (47 : Int32)), .val (.int (4 : Int32)), .val (.int (6 : Int32)), .val (.int (47 : Int32)), .val (.int (5 : Int32))] [(.int (5 : Int32))]))
        refine own_retI X0 hx Bd.notSynchronized Bd.returns (hb hby d17_24) (by decide) (by decide) ?_
        show Q_rm17 Z _ _ _ _ _ _ _ _ _ h0 n0 _ s₁.heap _
        exact ⟨(by rw [own_ix, if_neg (fun z => absurd z.1 (by decide)), if_neg (fun z => absurd z.1 (by decide)), if_neg (fun z => absurd z.1 (by decide)), if_neg (fun z => by rw [own_b, if_neg hc19_42] at z; exact absurd z.2 (by decide)), if_pos ⟨by decide, by rw [own_b, if_pos hc19_45]⟩]), N0, e0⟩
      · refine OGo.via (fun _ k => XS.icmpYes X0.here hx rfl (pc0 := 19) (pc' := 25) rfl (hb hby d17_19) rfl (feq hc19_45).2 (by decide) (by decide) k) ?_
        show OGo _ _ _ _ (s₁.setTop (mkF m 25 #[.val (.ref a1), .val (.int (47 : Int32)), .val (.int (4 : Int32)), .val (.int (6 : Int32)), .val (.int (47 : Int32)), .val (.int (5 : Int32))] []))
        refine OGo.via (fun _ k => XS.iinc X0.here hx rfl (hb hby d17_25) rfl (l' := #[.val (.ref a1), .val (.int (47 : Int32)), .val (.int (4 : Int32)), .val (.int (6 : Int32)), .val (.int (47 : Int32)), .val (.int ((5 : Int32) + (1 : Int32)))]) rfl k) ?_
        show OGo _ _ _ _ (s₁.setTop (mkF m 28 #[.val (.ref a1), .val (.int (47 : Int32)), .val (.int (4 : Int32)), .val (.int (6 : Int32)), .val (.int (47 : Int32)), .val (.int ((5 : Int32) + (1 : Int32)))] []))
        rw [show ((5 : Int32) + (1 : Int32)) = (6 : Int32) from by decide]
        refine OGo.via (fun _ k => XS.goto X0.here hx rfl (pc0 := 28) (pc' := 7) rfl (hb hby d17_28) (by decide) (by decide) (XS.iload X0.here hx rfl (hb hby d17_7) rfl (XS.iloadN X0.here hx rfl (hb hby d17_9) rfl k))) ?_
        refine OGo.via (fun _ k => XS.icmpYes X0.here hx rfl (pc0 := 10) (pc' := 31) rfl (hb hby d17_10) rfl (flt (by decide : ¬ ((6 : Int32) < (6 : Int32)))).2.1 (by decide) (by decide) k) ?_
        show OGo _ _ _ _ (s₁.setTop (mkF m 31 #[.val (.ref a1), .val (.int (47 : Int32)), .val (.int (4 : Int32)), .val (.int (6 : Int32)), .val (.int (47 : Int32)), .val (.int (6 : Int32))] []))
        refine OGo.via (fun _ k => XS.iconst X0.here hx rfl (hb hby d17_31) k) ?_
        show OGo _ _ _ _ (s₁.setTop (mkF m 32 #[.val (.ref a1), .val (.int (47 : Int32)), .val (.int (4 : Int32)), .val (.int (6 : Int32)), .val (.int (47 : Int32)), .val (.int (6 : Int32))] [(.int (-1 : Int32))]))
        refine own_retI X0 hx Bd.notSynchronized Bd.returns (hb hby d17_32) (by decide) (by decide) ?_
        show Q_rm17 Z _ _ _ _ _ _ _ _ _ h0 n0 _ s₁.heap _
        exact ⟨(by rw [own_ix, if_neg (fun z => absurd z.1 (by decide)), if_neg (fun z => absurd z.1 (by decide)), if_neg (fun z => absurd z.1 (by decide)), if_neg (fun z => by rw [own_b, if_neg hc19_42] at z; exact absurd z.2 (by decide)), if_neg (fun z => by rw [own_b, if_neg hc19_45] at z; exact absurd z.2 (by decide))]), N0, e0⟩
  · show OGo _ _ _ _ (s₁.setTop (mkF m 0 #[.val (.ref a1), .val (.int (47 : Int32)), .val (.int (5 : Int32)), .val (.int (6 : Int32)), .unset, .unset] []))
    refine OGo.via (fun _ k => XS.iloadN X0.here hx rfl (hb hby d17_0) rfl (XS.i2b X0.here hx rfl (hb hby d17_1) rfl k)) ?_
    show OGo _ _ _ _ (s₁.setTop (mkF m 2 #[.val (.ref a1), .val (.int (47 : Int32)), .val (.int (5 : Int32)), .val (.int (6 : Int32)), .unset, .unset] [(.int ((47 : Int32).toInt8.toInt32))]))
    rw [show ((47 : Int32).toInt8.toInt32) = (47 : Int32) from by decide]
    refine OGo.via (fun _ k => XS.istore X0.here hx rfl (hb hby d17_2) rfl (l' := #[.val (.ref a1), .val (.int (47 : Int32)), .val (.int (5 : Int32)), .val (.int (6 : Int32)), .val (.int (47 : Int32)), .unset]) rfl (XS.iloadN X0.here hx rfl (hb hby d17_4) rfl (XS.istore X0.here hx rfl (hb hby d17_5) rfl (l' := #[.val (.ref a1), .val (.int (47 : Int32)), .val (.int (5 : Int32)), .val (.int (6 : Int32)), .val (.int (47 : Int32)), .val (.int (5 : Int32))]) rfl (XS.iload X0.here hx rfl (hb hby d17_7) rfl (XS.iloadN X0.here hx rfl (hb hby d17_9) rfl k))))) ?_
    refine OGo.via (fun _ k => XS.icmpNo X0.here hx rfl (hb hby d17_10) rfl (tlt (by decide : (5 : Int32) < (6 : Int32))).2.1 k) ?_
    show OGo _ _ _ _ (s₁.setTop (mkF m 13 #[.val (.ref a1), .val (.int (47 : Int32)), .val (.int (5 : Int32)), .val (.int (6 : Int32)), .val (.int (47 : Int32)), .val (.int (5 : Int32))] []))
    refine OGo.via (fun _ k => XS.aloadN X0.here hx rfl (hb hby d17_13) rfl rfl (XS.iload X0.here hx rfl (hb hby d17_14) rfl k)) ?_
    obtain ⟨cl48, Ar48, q48, Sz48, Ng48, Hs48, Gf48⟩ := id V_a1
    have hin48 : ¬ ((5 : Int32) < 0 ∨ cl48.slots.size ≤ ((5 : Int32)).toNatClampNeg) := inb_of Sz48 ⟨by decide, by decide⟩
    have hat48 : cl48.slots[((5 : Int32)).toNatClampNeg]? = some (.int y5) := Hs48.at hin48 rfl
    refine OGo.via (X0.baloadBytes hx (j := (5 : Int32)) (v := (.int y5)) (by rw [e0]; exact Ar48.1) (State.isArrayOf_alike hZ.alike Ar48.2.1) Ar48.2.2 hin48 hat48 (g := (mkF m 16 #[.val (.ref a1), .val (.int (47 : Int32)), .val (.int (5 : Int32)), .val (.int (6 : Int32)), .val (.int (47 : Int32)), .val (.int (5 : Int32))] [(.int (5 : Int32)), (.ref a1)])) rfl rfl (hb hby d17_16)) ?_
    show OGo _ _ _ _ (s₁.setTop (mkF m 17 #[.val (.ref a1), .val (.int (47 : Int32)), .val (.int (5 : Int32)), .val (.int (6 : Int32)), .val (.int (47 : Int32)), .val (.int (5 : Int32))] [(.int y5)]))
    refine OGo.via (fun _ k => XS.iload X0.here hx rfl (hb hby d17_17) rfl k) ?_
    by_cases hc19_49 : y5 = (47 : Int32)
    · refine OGo.via (fun _ k => XS.icmpNo X0.here hx rfl (hb hby d17_19) rfl (teq hc19_49).2 k) ?_
      show OGo _ _ _ _ (s₁.setTop (mkF m 22 #[.val (.ref a1), .val (.int (47 : Int32)), .val (.int (5 : Int32)), .val (.int (6 : Int32)), .val (.int (47 : Int32)), .val (.int (5 : Int32))] []))
      refine OGo.via (fun _ k => XS.iload X0.here hx rfl (hb hby d17_22) rfl k) ?_
      show OGo _ _ _ _ (s₁.setTop (mkF m 24 #[.val (.ref a1), .val (.int (47 : Int32)), .val (.int (5 : Int32)), .val (.int (6 : Int32)), .val (.int (47 : Int32)), .val (.int (5 : Int32))] [(.int (5 : Int32))]))
      refine own_retI X0 hx Bd.notSynchronized Bd.returns (hb hby d17_24) (by decide) (by decide) ?_
      show Q_rm17 Z _ _ _ _ _ _ _ _ _ h0 n0 _ s₁.heap _
      exact ⟨(by rw [own_ix, if_neg (fun z => absurd z.1 (by decide)), if_neg (fun z => absurd z.1 (by decide)), if_neg (fun z => absurd z.1 (by decide)), if_neg (fun z => absurd z.1 (by decide)), if_pos ⟨by decide, by rw [own_b, if_pos hc19_49]⟩]), N0, e0⟩
    · refine OGo.via (fun _ k => XS.icmpYes X0.here hx rfl (pc0 := 19) (pc' := 25) rfl (hb hby d17_19) rfl (feq hc19_49).2 (by decide) (by decide) k) ?_
      show OGo _ _ _ _ (s₁.setTop (mkF m 25 #[.val (.ref a1), .val (.int (47 : Int32)), .val (.int (5 : Int32)), .val (.int (6 : Int32)), .val (.int (47 : Int32)), .val (.int (5 : Int32))] []))
      refine OGo.via (fun _ k => XS.iinc X0.here hx rfl (hb hby d17_25) rfl (l' := #[.val (.ref a1), .val (.int (47 : Int32)), .val (.int (5 : Int32)), .val (.int (6 : Int32)), .val (.int (47 : Int32)), .val (.int ((5 : Int32) + (1 : Int32)))]) rfl k) ?_
      show OGo _ _ _ _ (s₁.setTop (mkF m 28 #[.val (.ref a1), .val (.int (47 : Int32)), .val (.int (5 : Int32)), .val (.int (6 : Int32)), .val (.int (47 : Int32)), .val (.int ((5 : Int32) + (1 : Int32)))] []))
      rw [show ((5 : Int32) + (1 : Int32)) = (6 : Int32) from by decide]
      refine OGo.via (fun _ k => XS.goto X0.here hx rfl (pc0 := 28) (pc' := 7) rfl (hb hby d17_28) (by decide) (by decide) (XS.iload X0.here hx rfl (hb hby d17_7) rfl (XS.iloadN X0.here hx rfl (hb hby d17_9) rfl k))) ?_
      refine OGo.via (fun _ k => XS.icmpYes X0.here hx rfl (pc0 := 10) (pc' := 31) rfl (hb hby d17_10) rfl (flt (by decide : ¬ ((6 : Int32) < (6 : Int32)))).2.1 (by decide) (by decide) k) ?_
      show OGo _ _ _ _ (s₁.setTop (mkF m 31 #[.val (.ref a1), .val (.int (47 : Int32)), .val (.int (5 : Int32)), .val (.int (6 : Int32)), .val (.int (47 : Int32)), .val (.int (6 : Int32))] []))
      refine OGo.via (fun _ k => XS.iconst X0.here hx rfl (hb hby d17_31) k) ?_
      show OGo _ _ _ _ (s₁.setTop (mkF m 32 #[.val (.ref a1), .val (.int (47 : Int32)), .val (.int (5 : Int32)), .val (.int (6 : Int32)), .val (.int (47 : Int32)), .val (.int (6 : Int32))] [(.int (-1 : Int32))]))
      refine own_retI X0 hx Bd.notSynchronized Bd.returns (hb hby d17_32) (by decide) (by decide) ?_
      show Q_rm17 Z _ _ _ _ _ _ _ _ _ h0 n0 _ s₁.heap _
      exact ⟨(by rw [own_ix, if_neg (fun z => absurd z.1 (by decide)), if_neg (fun z => absurd z.1 (by decide)), if_neg (fun z => absurd z.1 (by decide)), if_neg (fun z => absurd z.1 (by decide)), if_neg (fun z => by rw [own_b, if_neg hc19_49] at z; exact absurd z.2 (by decide))]), N0, e0⟩
theorem d13_0 : decode jdk_43_method_22_code 0 = .ok (.iload_n 1, 1) := by decide +kernel
theorem d13_1 : decode jdk_43_method_22_code 1 = .ok (.invokestatic 88, 3) := by decide +kernel
theorem pd_5 : parseMethodDescriptor "(I)Z" = some ⟨[.int], some .boolean⟩ := by decide +kernel
theorem d13_4 : decode jdk_43_method_22_code 4 = .ok (.ifCond .ne 5, 3) := by decide +kernel
theorem d13_9 : decode jdk_43_method_22_code 9 = .ok (.iload_n 2, 1) := by decide +kernel
theorem d13_10 : decode jdk_43_method_22_code 10 = .ok (.iconst 0, 1) := by decide +kernel
theorem d13_11 : decode jdk_43_method_22_code 11 = .ok (.invokestatic 92, 3) := by decide +kernel
theorem pd_6 : parseMethodDescriptor "(II)I" = some ⟨[.int, .int], some .int⟩ := by decide +kernel
theorem d13_14 : decode jdk_43_method_22_code 14 = .ok (.istore_n 2, 1) := by decide +kernel
theorem d13_15 : decode jdk_43_method_22_code 15 = .ok (.iload_n 3, 1) := by decide +kernel
theorem d13_16 : decode jdk_43_method_22_code 16 = .ok (.aload_n 0, 1) := by decide +kernel
theorem d13_17 : decode jdk_43_method_22_code 17 = .ok (.arraylength, 1) := by decide +kernel
theorem d13_18 : decode jdk_43_method_22_code 18 = .ok (.invokestatic 38, 3) := by decide +kernel
theorem d13_21 : decode jdk_43_method_22_code 21 = .ok (.istore_n 3, 1) := by decide +kernel
theorem d13_22 : decode jdk_43_method_22_code 22 = .ok (.iload_n 2, 1) := by decide +kernel
theorem d13_23 : decode jdk_43_method_22_code 23 = .ok (.iload_n 3, 1) := by decide +kernel
theorem d13_24 : decode jdk_43_method_22_code 24 = .ok (.if_icmp .lt 5, 3) := by decide +kernel
theorem d13_29 : decode jdk_43_method_22_code 29 = .ok (.aload_n 0, 1) := by decide +kernel
theorem d13_30 : decode jdk_43_method_22_code 30 = .ok (.iload_n 1, 1) := by decide +kernel
theorem d13_31 : decode jdk_43_method_22_code 31 = .ok (.iload_n 2, 1) := by decide +kernel
theorem d13_32 : decode jdk_43_method_22_code 32 = .ok (.iload_n 3, 1) := by decide +kernel
theorem d13_33 : decode jdk_43_method_22_code 33 = .ok (.invokestatic 95, 3) := by decide +kernel
theorem pd_7 : parseMethodDescriptor "([BIII)I" = some ⟨[(.array .byte), .int, .int, .int], some .int⟩ := by decide +kernel
theorem d13_36 : decode jdk_43_method_22_code 36 = .ok (.ireturn, 1) := by decide +kernel
theorem d13_27 : decode jdk_43_method_22_code 27 = .ok (.iconst (-1), 1) := by decide +kernel
theorem d13_28 : decode jdk_43_method_22_code 28 = .ok (.ireturn, 1) := by decide +kernel
theorem ef_rm13 (m : MethodId) (a1 : Addr) (p3 : Int32) : entryFrame m #[(.ref a1), (.int (47 : Int32)), (.int p3), (.int (6 : Int32))] 4 = mkF m 0 #[.val (.ref a1), .val (.int (47 : Int32)), .val (.int p3), .val (.int (6 : Int32))] [] := by first | (simp [entryFrame, mkF, argsToLocals, Value.category]; done) | rfl
def Q_rm13 (Z : State) (a1 : Addr) (p3 : Int32) (k1 : ClassId) (y0 : Int32) (y1 : Int32) (y2 : Int32) (y3 : Int32) (y4 : Int32) (y5 : Int32) (h0 : Heap) (n0 : Nat) (v : Option Value) (h : Heap) (L : List Loc) : Prop := v = some (.int (own_ix p3 (own_b y1) (own_b y2) (own_b y3) (own_b y4) (own_b y5))) ∧ Fr n0 L ∧ h = h0
set_option maxRecDepth 65536 in
set_option maxHeartbeats 40000000 in
theorem rm13 (l : Launch) (Z : State) (a0 : Array Value) (hw : ∀ d ∈ tables_1, d.before a0 Z = true) (ws : List Jvm.Cond) (a1 : Addr) (p3 : Int32) (k1 : ClassId) (y0 : Int32) (y1 : Int32) (y2 : Int32) (y3 : Int32) (y4 : Int32) (y5 : Int32) (h0 : Heap) (n0 : Nat) (Z0 : n0 ≤ h0.size) (V_a1 : Arv Z h0 a1 k1 .byte (6 : Int32) [(.int y0), (.int y1), (.int y2), (.int y3), (.int y4), (.int y5)] (.int (0 : Int32))) (hf : p3 = (1 : Int32) ∨ p3 = (2 : Int32) ∨ p3 = (3 : Int32) ∨ p3 = (4 : Int32) ∨ p3 = (5 : Int32) ∨ p3 = (6 : Int32) ∨ p3 = (7 : Int32)) :
    MetFree l own_y13 (head1 (Jvm.Cond.code own_y13 jdk_43_method_22_code 4 (some .int) :: ws) ({ frames := 1, cells := 0, slots := 0, locals := 17 } : Room)) (fun a U => a = #[(.ref a1), (.int (47 : Int32)), (.int p3), (.int (6 : Int32))] ∧ Z.Warmed39 U.vm ∧ U.heap = h0) (fun _ _ _ _ _ => True) (fun _ U o U' => ∃ v L, o = .returned v ∧ Q_rm13 Z a1 p3 k1 y0 y1 y2 y3 y4 y5 h0 n0 v U'.heap L ∧ FrameEnd U o U' L ({ frames := 1, cells := 0, slots := 0, locals := 17 } : Room).cells ({ frames := 1, cells := 0, slots := 0, locals := 17 } : Room).slots) := by
  refine MetFree.of_bodySF (plainFor_of_name pn_StringLatin1) hisR ?_
  intro p e s m args below meth c s₁ Bd hml0 hP hK
  obtain ⟨rfl, hZ, hh⟩ := hP
  have hx := Bd.exec
  have hby := Bd.bytes
  have hml : c.maxLocals = 4 := hml0
  have hown : s.vm.findClass "java/lang/StringLatin1" = some m.cls := findClass_of_methodNamed Bd.named
  have hnm := (name_of_methodNamed Bd.named Bd.method).1
  have X0 : Stand p l e ({ frames := 1, cells := 0, slots := 0, locals := 17 } : Room) s m #[(.ref a1), (.int (47 : Int32)), (.int p3), (.int (6 : Int32))] below meth c s₁ [] 0 0 := Stand.of_body Bd
  have e0 : s₁.heap = h0 := by rw [← hh, Bd.state]; rfl
  have N0 := Fr.nil n0
  show OGo p.tables e below (own_Kq s (fun v h L => Q_rm13 Z a1 p3 k1 y0 y1 y2 y3 y4 y5 h0 n0 v h L) ({ frames := 1, cells := 0, slots := 0, locals := 17 } : Room).cells ({ frames := 1, cells := 0, slots := 0, locals := 17 } : Room).slots) (s₁.setTop (entryFrame m #[(.ref a1), (.int (47 : Int32)), (.int p3), (.int (6 : Int32))] 4))
  refine OGo.cast (ef_rm13 m a1 p3) ?_
  show OGo _ _ _ _ (s₁.setTop (mkF m 0 #[.val (.ref a1), .val (.int (47 : Int32)), .val (.int p3), .val (.int (6 : Int32))] []))
  rcases hf with rfl | rfl | rfl | rfl | rfl | rfl | rfl
  · show OGo _ _ _ _ (s₁.setTop (mkF m 0 #[.val (.ref a1), .val (.int (47 : Int32)), .val (.int (1 : Int32)), .val (.int (6 : Int32))] []))
    refine OGo.via (fun _ k => XS.iloadN X0.here hx rfl (hb hby d13_0) rfl k) ?_
    obtain ⟨_, T1, Lc1, X1, hQ1, st1⟩ := own_open X0 (Jvm.LawKit.callS X0 hx (y := own_y11) hown (mvT hZ (own_w hw 62 rfl)) (mvT hZ (own_w hw 63 rfl)) (mvT hZ (own_w hw 60 rfl)) (mvT hZ (own_w hw 64 rfl)) (by decide) (backOf (W := 0) (rm14 l Z a0 hw []  h0 n0 Z0) hZ (own_w hw 64 rfl) (own_w hw 60 rfl) (by decide) (by decide)) (g := (mkF m 1 #[.val (.ref a1), .val (.int (47 : Int32)), .val (.int (1 : Int32)), .val (.int (6 : Int32))] [(.int (47 : Int32))])) rfl (by rw [hml]; rfl) (argsL := [(.int (47 : Int32))]) (rest := []) (lenOf pd_5 rfl) rfl (by show 2 * 0 + _ ≤ _; exact Nat.le_of_eq rfl) (hb hby d13_1) (fun _ _ => ⟨rfl, e0, (by decide : 0 + 0 ≤ _), (by decide : 0 + 0 ≤ _)⟩))
    obtain ⟨rfl, N1q, r1_0⟩ := hQ1
    have N1 := Fr.app N0 N1q
    refine OGo.via st1 ?_
    show OGo _ _ _ _ (T1.setTop (mkF m 4 #[.val (.ref a1), .val (.int (47 : Int32)), .val (.int (1 : Int32)), .val (.int (6 : Int32))] [(.int (1 : Int32))]))
    refine OGo.via (fun _ k => XS.ifYes X1.here hx rfl (pc0 := 4) (pc' := 9) rfl (hb hby d13_4) rfl ((if0 _ _).trans (feq (by decide : ¬ ((1 : Int32) = (0 : Int32)))).2) (by decide) (by decide) k) ?_
    show OGo _ _ _ _ (T1.setTop (mkF m 9 #[.val (.ref a1), .val (.int (47 : Int32)), .val (.int (1 : Int32)), .val (.int (6 : Int32))] []))
    refine OGo.via (fun _ k => XS.iloadN X1.here hx rfl (hb hby d13_9) rfl (XS.iconst X1.here hx rfl (hb hby d13_10) k)) ?_
    obtain ⟨_, T2, Lc2, X2, hQ2, st2⟩ := own_open X1 (Jvm.LawKit.callS X1 hx (y := own_y1) hown (mvT hZ (own_w hw 65 rfl)) (mvT hZ (own_w hw 66 rfl)) (mvT hZ (own_w hw 67 rfl)) (mvT hZ (own_w hw 68 rfl)) (by decide) (backOf (W := 0) (rm15 l Z a0 hw [] (1 : Int32) (0 : Int32) h0 n0 Z0) hZ (own_w hw 68 rfl) (own_w hw 67 rfl) (by decide) (by decide)) (g := (mkF m 11 #[.val (.ref a1), .val (.int (47 : Int32)), .val (.int (1 : Int32)), .val (.int (6 : Int32))] [(.int (0 : Int32)), (.int (1 : Int32))])) rfl (by rw [hml]; rfl) (argsL := [(.int (1 : Int32)), (.int (0 : Int32))]) (rest := []) (lenOf pd_6 rfl) rfl (by show 2 * 0 + _ ≤ _; exact Nat.le_of_eq rfl) (hb hby d13_11) (fun _ _ => ⟨rfl, r1_0, (by decide : 0 + 0 ≤ _), (by decide : 0 + 0 ≤ _)⟩))
    obtain ⟨rfl, N2q, r2_0⟩ := hQ2
    have N2 := Fr.app N1 N2q
    refine OGo.via st2 ?_
    show OGo _ _ _ _ (T2.setTop (mkF m 14 #[.val (.ref a1), .val (.int (47 : Int32)), .val (.int (1 : Int32)), .val (.int (6 : Int32))] [(.int (if (1 : Int32) < (0 : Int32) then (0 : Int32) else (1 : Int32)))]))
    rw [show (if (1 : Int32) < (0 : Int32) then (0 : Int32) else (1 : Int32)) = (1 : Int32) from by decide]
    show OGo _ _ _ _ (T2.setTop (mkF m 14 #[.val (.ref a1), .val (.int (47 : Int32)), .val (.int (1 : Int32)), .val (.int (6 : Int32))] [(.int (1 : Int32))]))
    refine OGo.via (fun _ k => XS.istoreN X2.here hx rfl (hb hby d13_14) rfl (l' := #[.val (.ref a1), .val (.int (47 : Int32)), .val (.int (1 : Int32)), .val (.int (6 : Int32))]) rfl (XS.iloadN X2.here hx rfl (hb hby d13_15) rfl (XS.aloadN X2.here hx rfl (hb hby d13_16) rfl rfl k))) ?_
    obtain ⟨cl3, Ar3, q3, Sz3, Ng3, Hs3, Gf3⟩ := id V_a1
    refine OGo.via (X2.arraylength hx (by rw [r2_0]; exact Ar3.1) (State.isArrayOf_alike hZ.alike Ar3.2.1) (g := (mkF m 17 #[.val (.ref a1), .val (.int (47 : Int32)), .val (.int (1 : Int32)), .val (.int (6 : Int32))] [(.ref a1), (.int (6 : Int32))])) rfl rfl (hb hby d13_17)) ?_
    rw [len_of Sz3 Ng3]
    show OGo _ _ _ _ (T2.setTop (mkF m 18 #[.val (.ref a1), .val (.int (47 : Int32)), .val (.int (1 : Int32)), .val (.int (6 : Int32))] [(.int (6 : Int32)), (.int (6 : Int32))]))
    obtain ⟨_, T4, Lc4, X4, hQ4, st4⟩ := own_open X2 (Jvm.LawKit.callS X2 hx (y := own_y2) hown (mvT hZ (own_w hw 69 rfl)) (mvT hZ (own_w hw 70 rfl)) (mvT hZ (own_w hw 67 rfl)) (mvT hZ (own_w hw 71 rfl)) (by decide) (backOf (W := 0) (rm16 l Z a0 hw [] (6 : Int32) (6 : Int32) h0 n0 Z0) hZ (own_w hw 71 rfl) (own_w hw 67 rfl) (by decide) (by decide)) (g := (mkF m 18 #[.val (.ref a1), .val (.int (47 : Int32)), .val (.int (1 : Int32)), .val (.int (6 : Int32))] [(.int (6 : Int32)), (.int (6 : Int32))])) rfl (by rw [hml]; rfl) (argsL := [(.int (6 : Int32)), (.int (6 : Int32))]) (rest := []) (lenOf pd_6 rfl) rfl (by show 2 * 0 + _ ≤ _; exact Nat.le_of_eq rfl) (hb hby d13_18) (fun _ _ => ⟨rfl, r2_0, (by decide : 0 + 0 ≤ _), (by decide : 0 + 0 ≤ _)⟩))
    obtain ⟨rfl, N4q, r4_0⟩ := hQ4
    have N4 := Fr.app N2 N4q
    refine OGo.via st4 ?_
    show OGo _ _ _ _ (T4.setTop (mkF m 21 #[.val (.ref a1), .val (.int (47 : Int32)), .val (.int (1 : Int32)), .val (.int (6 : Int32))] [(.int (if (6 : Int32) < (6 : Int32) then (6 : Int32) else (6 : Int32)))]))
    rw [show (if (6 : Int32) < (6 : Int32) then (6 : Int32) else (6 : Int32)) = (6 : Int32) from by decide]
    show OGo _ _ _ _ (T4.setTop (mkF m 21 #[.val (.ref a1), .val (.int (47 : Int32)), .val (.int (1 : Int32)), .val (.int (6 : Int32))] [(.int (6 : Int32))]))
    refine OGo.via (fun _ k => XS.istoreN X4.here hx rfl (hb hby d13_21) rfl (l' := #[.val (.ref a1), .val (.int (47 : Int32)), .val (.int (1 : Int32)), .val (.int (6 : Int32))]) rfl (XS.iloadN X4.here hx rfl (hb hby d13_22) rfl (XS.iloadN X4.here hx rfl (hb hby d13_23) rfl k))) ?_
    refine OGo.via (fun _ k => XS.icmpYes X4.here hx rfl (pc0 := 24) (pc' := 29) rfl (hb hby d13_24) rfl (tlt (by decide : (1 : Int32) < (6 : Int32))).1 (by decide) (by decide) k) ?_
    show OGo _ _ _ _ (T4.setTop (mkF m 29 #[.val (.ref a1), .val (.int (47 : Int32)), .val (.int (1 : Int32)), .val (.int (6 : Int32))] []))
    refine OGo.via (fun _ k => XS.aloadN X4.here hx rfl (hb hby d13_29) rfl rfl (XS.iloadN X4.here hx rfl (hb hby d13_30) rfl (XS.iloadN X4.here hx rfl (hb hby d13_31) rfl (XS.iloadN X4.here hx rfl (hb hby d13_32) rfl k)))) ?_
    obtain ⟨_, T5, Lc5, X5, hQ5, st5⟩ := own_open X4 (Jvm.LawKit.callS X4 hx (y := own_y12) hown (mvT hZ (own_w hw 72 rfl)) (mvT hZ (own_w hw 73 rfl)) (mvT hZ (own_w hw 60 rfl)) (mvT hZ (own_w hw 74 rfl)) (by decide) (backOf (W := 0) (rm17 l Z a0 hw [] a1 (1 : Int32) k1 y0 y1 y2 y3 y4 y5 h0 n0 Z0 V_a1 (by decide)) hZ (own_w hw 74 rfl) (own_w hw 60 rfl) (by decide) (by decide)) (g := (mkF m 33 #[.val (.ref a1), .val (.int (47 : Int32)), .val (.int (1 : Int32)), .val (.int (6 : Int32))] [(.int (6 : Int32)), (.int (1 : Int32)), (.int (47 : Int32)), (.ref a1)])) rfl (by rw [hml]; rfl) (argsL := [(.ref a1), (.int (47 : Int32)), (.int (1 : Int32)), (.int (6 : Int32))]) (rest := []) (lenOf pd_7 rfl) rfl (by show 2 * 0 + _ ≤ _; exact Nat.le_of_eq rfl) (hb hby d13_33) (fun _ _ => ⟨rfl, r4_0, (by decide : 0 + 0 ≤ _), (by decide : 0 + 0 ≤ _)⟩))
    obtain ⟨rfl, N5q, r5_0⟩ := hQ5
    have N5 := Fr.app N4 N5q
    refine OGo.via st5 ?_
    show OGo _ _ _ _ (T5.setTop (mkF m 36 #[.val (.ref a1), .val (.int (47 : Int32)), .val (.int (1 : Int32)), .val (.int (6 : Int32))] [(.int (own_ix (1 : Int32) (own_b y1) (own_b y2) (own_b y3) (own_b y4) (own_b y5)))]))
    show OGo _ _ _ _ (T5.setTop (mkF m 36 #[.val (.ref a1), .val (.int (47 : Int32)), .val (.int (1 : Int32)), .val (.int (6 : Int32))] [(.int (own_ix (1 : Int32) (own_b y1) (own_b y2) (own_b y3) (own_b y4) (own_b y5)))]))
    refine own_retI X5 hx Bd.notSynchronized Bd.returns (hb hby d13_36) (by decide) (by decide) ?_
    show Q_rm13 Z _ _ _ _ _ _ _ _ _ h0 n0 _ T5.heap _
    exact ⟨rfl, N5, r5_0⟩
  · show OGo _ _ _ _ (s₁.setTop (mkF m 0 #[.val (.ref a1), .val (.int (47 : Int32)), .val (.int (2 : Int32)), .val (.int (6 : Int32))] []))
    refine OGo.via (fun _ k => XS.iloadN X0.here hx rfl (hb hby d13_0) rfl k) ?_
    obtain ⟨_, T6, Lc6, X6, hQ6, st6⟩ := own_open X0 (Jvm.LawKit.callS X0 hx (y := own_y11) hown (mvT hZ (own_w hw 62 rfl)) (mvT hZ (own_w hw 63 rfl)) (mvT hZ (own_w hw 60 rfl)) (mvT hZ (own_w hw 64 rfl)) (by decide) (backOf (W := 0) (rm14 l Z a0 hw []  h0 n0 Z0) hZ (own_w hw 64 rfl) (own_w hw 60 rfl) (by decide) (by decide)) (g := (mkF m 1 #[.val (.ref a1), .val (.int (47 : Int32)), .val (.int (2 : Int32)), .val (.int (6 : Int32))] [(.int (47 : Int32))])) rfl (by rw [hml]; rfl) (argsL := [(.int (47 : Int32))]) (rest := []) (lenOf pd_5 rfl) rfl (by show 2 * 0 + _ ≤ _; exact Nat.le_of_eq rfl) (hb hby d13_1) (fun _ _ => ⟨rfl, e0, (by decide : 0 + 0 ≤ _), (by decide : 0 + 0 ≤ _)⟩))
    obtain ⟨rfl, N6q, r6_0⟩ := hQ6
    have N6 := Fr.app N0 N6q
    refine OGo.via st6 ?_
    show OGo _ _ _ _ (T6.setTop (mkF m 4 #[.val (.ref a1), .val (.int (47 : Int32)), .val (.int (2 : Int32)), .val (.int (6 : Int32))] [(.int (1 : Int32))]))
    refine OGo.via (fun _ k => XS.ifYes X6.here hx rfl (pc0 := 4) (pc' := 9) rfl (hb hby d13_4) rfl ((if0 _ _).trans (feq (by decide : ¬ ((1 : Int32) = (0 : Int32)))).2) (by decide) (by decide) k) ?_
    show OGo _ _ _ _ (T6.setTop (mkF m 9 #[.val (.ref a1), .val (.int (47 : Int32)), .val (.int (2 : Int32)), .val (.int (6 : Int32))] []))
    refine OGo.via (fun _ k => XS.iloadN X6.here hx rfl (hb hby d13_9) rfl (XS.iconst X6.here hx rfl (hb hby d13_10) k)) ?_
    obtain ⟨_, T7, Lc7, X7, hQ7, st7⟩ := own_open X6 (Jvm.LawKit.callS X6 hx (y := own_y1) hown (mvT hZ (own_w hw 65 rfl)) (mvT hZ (own_w hw 66 rfl)) (mvT hZ (own_w hw 67 rfl)) (mvT hZ (own_w hw 68 rfl)) (by decide) (backOf (W := 0) (rm15 l Z a0 hw [] (2 : Int32) (0 : Int32) h0 n0 Z0) hZ (own_w hw 68 rfl) (own_w hw 67 rfl) (by decide) (by decide)) (g := (mkF m 11 #[.val (.ref a1), .val (.int (47 : Int32)), .val (.int (2 : Int32)), .val (.int (6 : Int32))] [(.int (0 : Int32)), (.int (2 : Int32))])) rfl (by rw [hml]; rfl) (argsL := [(.int (2 : Int32)), (.int (0 : Int32))]) (rest := []) (lenOf pd_6 rfl) rfl (by show 2 * 0 + _ ≤ _; exact Nat.le_of_eq rfl) (hb hby d13_11) (fun _ _ => ⟨rfl, r6_0, (by decide : 0 + 0 ≤ _), (by decide : 0 + 0 ≤ _)⟩))
    obtain ⟨rfl, N7q, r7_0⟩ := hQ7
    have N7 := Fr.app N6 N7q
    refine OGo.via st7 ?_
    show OGo _ _ _ _ (T7.setTop (mkF m 14 #[.val (.ref a1), .val (.int (47 : Int32)), .val (.int (2 : Int32)), .val (.int (6 : Int32))] [(.int (if (2 : Int32) < (0 : Int32) then (0 : Int32) else (2 : Int32)))]))
    rw [show (if (2 : Int32) < (0 : Int32) then (0 : Int32) else (2 : Int32)) = (2 : Int32) from by decide]
    show OGo _ _ _ _ (T7.setTop (mkF m 14 #[.val (.ref a1), .val (.int (47 : Int32)), .val (.int (2 : Int32)), .val (.int (6 : Int32))] [(.int (2 : Int32))]))
    refine OGo.via (fun _ k => XS.istoreN X7.here hx rfl (hb hby d13_14) rfl (l' := #[.val (.ref a1), .val (.int (47 : Int32)), .val (.int (2 : Int32)), .val (.int (6 : Int32))]) rfl (XS.iloadN X7.here hx rfl (hb hby d13_15) rfl (XS.aloadN X7.here hx rfl (hb hby d13_16) rfl rfl k))) ?_
    obtain ⟨cl8, Ar8, q8, Sz8, Ng8, Hs8, Gf8⟩ := id V_a1
    refine OGo.via (X7.arraylength hx (by rw [r7_0]; exact Ar8.1) (State.isArrayOf_alike hZ.alike Ar8.2.1) (g := (mkF m 17 #[.val (.ref a1), .val (.int (47 : Int32)), .val (.int (2 : Int32)), .val (.int (6 : Int32))] [(.ref a1), (.int (6 : Int32))])) rfl rfl (hb hby d13_17)) ?_
    rw [len_of Sz8 Ng8]
    show OGo _ _ _ _ (T7.setTop (mkF m 18 #[.val (.ref a1), .val (.int (47 : Int32)), .val (.int (2 : Int32)), .val (.int (6 : Int32))] [(.int (6 : Int32)), (.int (6 : Int32))]))
    obtain ⟨_, T9, Lc9, X9, hQ9, st9⟩ := own_open X7 (Jvm.LawKit.callS X7 hx (y := own_y2) hown (mvT hZ (own_w hw 69 rfl)) (mvT hZ (own_w hw 70 rfl)) (mvT hZ (own_w hw 67 rfl)) (mvT hZ (own_w hw 71 rfl)) (by decide) (backOf (W := 0) (rm16 l Z a0 hw [] (6 : Int32) (6 : Int32) h0 n0 Z0) hZ (own_w hw 71 rfl) (own_w hw 67 rfl) (by decide) (by decide)) (g := (mkF m 18 #[.val (.ref a1), .val (.int (47 : Int32)), .val (.int (2 : Int32)), .val (.int (6 : Int32))] [(.int (6 : Int32)), (.int (6 : Int32))])) rfl (by rw [hml]; rfl) (argsL := [(.int (6 : Int32)), (.int (6 : Int32))]) (rest := []) (lenOf pd_6 rfl) rfl (by show 2 * 0 + _ ≤ _; exact Nat.le_of_eq rfl) (hb hby d13_18) (fun _ _ => ⟨rfl, r7_0, (by decide : 0 + 0 ≤ _), (by decide : 0 + 0 ≤ _)⟩))
    obtain ⟨rfl, N9q, r9_0⟩ := hQ9
    have N9 := Fr.app N7 N9q
    refine OGo.via st9 ?_
    show OGo _ _ _ _ (T9.setTop (mkF m 21 #[.val (.ref a1), .val (.int (47 : Int32)), .val (.int (2 : Int32)), .val (.int (6 : Int32))] [(.int (if (6 : Int32) < (6 : Int32) then (6 : Int32) else (6 : Int32)))]))
    rw [show (if (6 : Int32) < (6 : Int32) then (6 : Int32) else (6 : Int32)) = (6 : Int32) from by decide]
    show OGo _ _ _ _ (T9.setTop (mkF m 21 #[.val (.ref a1), .val (.int (47 : Int32)), .val (.int (2 : Int32)), .val (.int (6 : Int32))] [(.int (6 : Int32))]))
    refine OGo.via (fun _ k => XS.istoreN X9.here hx rfl (hb hby d13_21) rfl (l' := #[.val (.ref a1), .val (.int (47 : Int32)), .val (.int (2 : Int32)), .val (.int (6 : Int32))]) rfl (XS.iloadN X9.here hx rfl (hb hby d13_22) rfl (XS.iloadN X9.here hx rfl (hb hby d13_23) rfl k))) ?_
    refine OGo.via (fun _ k => XS.icmpYes X9.here hx rfl (pc0 := 24) (pc' := 29) rfl (hb hby d13_24) rfl (tlt (by decide : (2 : Int32) < (6 : Int32))).1 (by decide) (by decide) k) ?_
    show OGo _ _ _ _ (T9.setTop (mkF m 29 #[.val (.ref a1), .val (.int (47 : Int32)), .val (.int (2 : Int32)), .val (.int (6 : Int32))] []))
    refine OGo.via (fun _ k => XS.aloadN X9.here hx rfl (hb hby d13_29) rfl rfl (XS.iloadN X9.here hx rfl (hb hby d13_30) rfl (XS.iloadN X9.here hx rfl (hb hby d13_31) rfl (XS.iloadN X9.here hx rfl (hb hby d13_32) rfl k)))) ?_
    obtain ⟨_, T10, Lc10, X10, hQ10, st10⟩ := own_open X9 (Jvm.LawKit.callS X9 hx (y := own_y12) hown (mvT hZ (own_w hw 72 rfl)) (mvT hZ (own_w hw 73 rfl)) (mvT hZ (own_w hw 60 rfl)) (mvT hZ (own_w hw 74 rfl)) (by decide) (backOf (W := 0) (rm17 l Z a0 hw [] a1 (2 : Int32) k1 y0 y1 y2 y3 y4 y5 h0 n0 Z0 V_a1 (by decide)) hZ (own_w hw 74 rfl) (own_w hw 60 rfl) (by decide) (by decide)) (g := (mkF m 33 #[.val (.ref a1), .val (.int (47 : Int32)), .val (.int (2 : Int32)), .val (.int (6 : Int32))] [(.int (6 : Int32)), (.int (2 : Int32)), (.int (47 : Int32)), (.ref a1)])) rfl (by rw [hml]; rfl) (argsL := [(.ref a1), (.int (47 : Int32)), (.int (2 : Int32)), (.int (6 : Int32))]) (rest := []) (lenOf pd_7 rfl) rfl (by show 2 * 0 + _ ≤ _; exact Nat.le_of_eq rfl) (hb hby d13_33) (fun _ _ => ⟨rfl, r9_0, (by decide : 0 + 0 ≤ _), (by decide : 0 + 0 ≤ _)⟩))
    obtain ⟨rfl, N10q, r10_0⟩ := hQ10
    have N10 := Fr.app N9 N10q
    refine OGo.via st10 ?_
    show OGo _ _ _ _ (T10.setTop (mkF m 36 #[.val (.ref a1), .val (.int (47 : Int32)), .val (.int (2 : Int32)), .val (.int (6 : Int32))] [(.int (own_ix (2 : Int32) (own_b y1) (own_b y2) (own_b y3) (own_b y4) (own_b y5)))]))
    show OGo _ _ _ _ (T10.setTop (mkF m 36 #[.val (.ref a1), .val (.int (47 : Int32)), .val (.int (2 : Int32)), .val (.int (6 : Int32))] [(.int (own_ix (2 : Int32) (own_b y1) (own_b y2) (own_b y3) (own_b y4) (own_b y5)))]))
    refine own_retI X10 hx Bd.notSynchronized Bd.returns (hb hby d13_36) (by decide) (by decide) ?_
    show Q_rm13 Z _ _ _ _ _ _ _ _ _ h0 n0 _ T10.heap _
    exact ⟨rfl, N10, r10_0⟩
  · show OGo _ _ _ _ (s₁.setTop (mkF m 0 #[.val (.ref a1), .val (.int (47 : Int32)), .val (.int (3 : Int32)), .val (.int (6 : Int32))] []))
    refine OGo.via (fun _ k => XS.iloadN X0.here hx rfl (hb hby d13_0) rfl k) ?_
    obtain ⟨_, T11, Lc11, X11, hQ11, st11⟩ := own_open X0 (Jvm.LawKit.callS X0 hx (y := own_y11) hown (mvT hZ (own_w hw 62 rfl)) (mvT hZ (own_w hw 63 rfl)) (mvT hZ (own_w hw 60 rfl)) (mvT hZ (own_w hw 64 rfl)) (by decide) (backOf (W := 0) (rm14 l Z a0 hw []  h0 n0 Z0) hZ (own_w hw 64 rfl) (own_w hw 60 rfl) (by decide) (by decide)) (g := (mkF m 1 #[.val (.ref a1), .val (.int (47 : Int32)), .val (.int (3 : Int32)), .val (.int (6 : Int32))] [(.int (47 : Int32))])) rfl (by rw [hml]; rfl) (argsL := [(.int (47 : Int32))]) (rest := []) (lenOf pd_5 rfl) rfl (by show 2 * 0 + _ ≤ _; exact Nat.le_of_eq rfl) (hb hby d13_1) (fun _ _ => ⟨rfl, e0, (by decide : 0 + 0 ≤ _), (by decide : 0 + 0 ≤ _)⟩))
    obtain ⟨rfl, N11q, r11_0⟩ := hQ11
    have N11 := Fr.app N0 N11q
    refine OGo.via st11 ?_
    show OGo _ _ _ _ (T11.setTop (mkF m 4 #[.val (.ref a1), .val (.int (47 : Int32)), .val (.int (3 : Int32)), .val (.int (6 : Int32))] [(.int (1 : Int32))]))
    refine OGo.via (fun _ k => XS.ifYes X11.here hx rfl (pc0 := 4) (pc' := 9) rfl (hb hby d13_4) rfl ((if0 _ _).trans (feq (by decide : ¬ ((1 : Int32) = (0 : Int32)))).2) (by decide) (by decide) k) ?_
    show OGo _ _ _ _ (T11.setTop (mkF m 9 #[.val (.ref a1), .val (.int (47 : Int32)), .val (.int (3 : Int32)), .val (.int (6 : Int32))] []))
    refine OGo.via (fun _ k => XS.iloadN X11.here hx rfl (hb hby d13_9) rfl (XS.iconst X11.here hx rfl (hb hby d13_10) k)) ?_
    obtain ⟨_, T12, Lc12, X12, hQ12, st12⟩ := own_open X11 (Jvm.LawKit.callS X11 hx (y := own_y1) hown (mvT hZ (own_w hw 65 rfl)) (mvT hZ (own_w hw 66 rfl)) (mvT hZ (own_w hw 67 rfl)) (mvT hZ (own_w hw 68 rfl)) (by decide) (backOf (W := 0) (rm15 l Z a0 hw [] (3 : Int32) (0 : Int32) h0 n0 Z0) hZ (own_w hw 68 rfl) (own_w hw 67 rfl) (by decide) (by decide)) (g := (mkF m 11 #[.val (.ref a1), .val (.int (47 : Int32)), .val (.int (3 : Int32)), .val (.int (6 : Int32))] [(.int (0 : Int32)), (.int (3 : Int32))])) rfl (by rw [hml]; rfl) (argsL := [(.int (3 : Int32)), (.int (0 : Int32))]) (rest := []) (lenOf pd_6 rfl) rfl (by show 2 * 0 + _ ≤ _; exact Nat.le_of_eq rfl) (hb hby d13_11) (fun _ _ => ⟨rfl, r11_0, (by decide : 0 + 0 ≤ _), (by decide : 0 + 0 ≤ _)⟩))
    obtain ⟨rfl, N12q, r12_0⟩ := hQ12
    have N12 := Fr.app N11 N12q
    refine OGo.via st12 ?_
    show OGo _ _ _ _ (T12.setTop (mkF m 14 #[.val (.ref a1), .val (.int (47 : Int32)), .val (.int (3 : Int32)), .val (.int (6 : Int32))] [(.int (if (3 : Int32) < (0 : Int32) then (0 : Int32) else (3 : Int32)))]))
    rw [show (if (3 : Int32) < (0 : Int32) then (0 : Int32) else (3 : Int32)) = (3 : Int32) from by decide]
    show OGo _ _ _ _ (T12.setTop (mkF m 14 #[.val (.ref a1), .val (.int (47 : Int32)), .val (.int (3 : Int32)), .val (.int (6 : Int32))] [(.int (3 : Int32))]))
    refine OGo.via (fun _ k => XS.istoreN X12.here hx rfl (hb hby d13_14) rfl (l' := #[.val (.ref a1), .val (.int (47 : Int32)), .val (.int (3 : Int32)), .val (.int (6 : Int32))]) rfl (XS.iloadN X12.here hx rfl (hb hby d13_15) rfl (XS.aloadN X12.here hx rfl (hb hby d13_16) rfl rfl k))) ?_
    obtain ⟨cl13, Ar13, q13, Sz13, Ng13, Hs13, Gf13⟩ := id V_a1
    refine OGo.via (X12.arraylength hx (by rw [r12_0]; exact Ar13.1) (State.isArrayOf_alike hZ.alike Ar13.2.1) (g := (mkF m 17 #[.val (.ref a1), .val (.int (47 : Int32)), .val (.int (3 : Int32)), .val (.int (6 : Int32))] [(.ref a1), (.int (6 : Int32))])) rfl rfl (hb hby d13_17)) ?_
    rw [len_of Sz13 Ng13]
    show OGo _ _ _ _ (T12.setTop (mkF m 18 #[.val (.ref a1), .val (.int (47 : Int32)), .val (.int (3 : Int32)), .val (.int (6 : Int32))] [(.int (6 : Int32)), (.int (6 : Int32))]))
    obtain ⟨_, T14, Lc14, X14, hQ14, st14⟩ := own_open X12 (Jvm.LawKit.callS X12 hx (y := own_y2) hown (mvT hZ (own_w hw 69 rfl)) (mvT hZ (own_w hw 70 rfl)) (mvT hZ (own_w hw 67 rfl)) (mvT hZ (own_w hw 71 rfl)) (by decide) (backOf (W := 0) (rm16 l Z a0 hw [] (6 : Int32) (6 : Int32) h0 n0 Z0) hZ (own_w hw 71 rfl) (own_w hw 67 rfl) (by decide) (by decide)) (g := (mkF m 18 #[.val (.ref a1), .val (.int (47 : Int32)), .val (.int (3 : Int32)), .val (.int (6 : Int32))] [(.int (6 : Int32)), (.int (6 : Int32))])) rfl (by rw [hml]; rfl) (argsL := [(.int (6 : Int32)), (.int (6 : Int32))]) (rest := []) (lenOf pd_6 rfl) rfl (by show 2 * 0 + _ ≤ _; exact Nat.le_of_eq rfl) (hb hby d13_18) (fun _ _ => ⟨rfl, r12_0, (by decide : 0 + 0 ≤ _), (by decide : 0 + 0 ≤ _)⟩))
    obtain ⟨rfl, N14q, r14_0⟩ := hQ14
    have N14 := Fr.app N12 N14q
    refine OGo.via st14 ?_
    show OGo _ _ _ _ (T14.setTop (mkF m 21 #[.val (.ref a1), .val (.int (47 : Int32)), .val (.int (3 : Int32)), .val (.int (6 : Int32))] [(.int (if (6 : Int32) < (6 : Int32) then (6 : Int32) else (6 : Int32)))]))
    rw [show (if (6 : Int32) < (6 : Int32) then (6 : Int32) else (6 : Int32)) = (6 : Int32) from by decide]
    show OGo _ _ _ _ (T14.setTop (mkF m 21 #[.val (.ref a1), .val (.int (47 : Int32)), .val (.int (3 : Int32)), .val (.int (6 : Int32))] [(.int (6 : Int32))]))
    refine OGo.via (fun _ k => XS.istoreN X14.here hx rfl (hb hby d13_21) rfl (l' := #[.val (.ref a1), .val (.int (47 : Int32)), .val (.int (3 : Int32)), .val (.int (6 : Int32))]) rfl (XS.iloadN X14.here hx rfl (hb hby d13_22) rfl (XS.iloadN X14.here hx rfl (hb hby d13_23) rfl k))) ?_
    refine OGo.via (fun _ k => XS.icmpYes X14.here hx rfl (pc0 := 24) (pc' := 29) rfl (hb hby d13_24) rfl (tlt (by decide : (3 : Int32) < (6 : Int32))).1 (by decide) (by decide) k) ?_
    show OGo _ _ _ _ (T14.setTop (mkF m 29 #[.val (.ref a1), .val (.int (47 : Int32)), .val (.int (3 : Int32)), .val (.int (6 : Int32))] []))
    refine OGo.via (fun _ k => XS.aloadN X14.here hx rfl (hb hby d13_29) rfl rfl (XS.iloadN X14.here hx rfl (hb hby d13_30) rfl (XS.iloadN X14.here hx rfl (hb hby d13_31) rfl (XS.iloadN X14.here hx rfl (hb hby d13_32) rfl k)))) ?_
    obtain ⟨_, T15, Lc15, X15, hQ15, st15⟩ := own_open X14 (Jvm.LawKit.callS X14 hx (y := own_y12) hown (mvT hZ (own_w hw 72 rfl)) (mvT hZ (own_w hw 73 rfl)) (mvT hZ (own_w hw 60 rfl)) (mvT hZ (own_w hw 74 rfl)) (by decide) (backOf (W := 0) (rm17 l Z a0 hw [] a1 (3 : Int32) k1 y0 y1 y2 y3 y4 y5 h0 n0 Z0 V_a1 (by decide)) hZ (own_w hw 74 rfl) (own_w hw 60 rfl) (by decide) (by decide)) (g := (mkF m 33 #[.val (.ref a1), .val (.int (47 : Int32)), .val (.int (3 : Int32)), .val (.int (6 : Int32))] [(.int (6 : Int32)), (.int (3 : Int32)), (.int (47 : Int32)), (.ref a1)])) rfl (by rw [hml]; rfl) (argsL := [(.ref a1), (.int (47 : Int32)), (.int (3 : Int32)), (.int (6 : Int32))]) (rest := []) (lenOf pd_7 rfl) rfl (by show 2 * 0 + _ ≤ _; exact Nat.le_of_eq rfl) (hb hby d13_33) (fun _ _ => ⟨rfl, r14_0, (by decide : 0 + 0 ≤ _), (by decide : 0 + 0 ≤ _)⟩))
    obtain ⟨rfl, N15q, r15_0⟩ := hQ15
    have N15 := Fr.app N14 N15q
    refine OGo.via st15 ?_
    show OGo _ _ _ _ (T15.setTop (mkF m 36 #[.val (.ref a1), .val (.int (47 : Int32)), .val (.int (3 : Int32)), .val (.int (6 : Int32))] [(.int (own_ix (3 : Int32) (own_b y1) (own_b y2) (own_b y3) (own_b y4) (own_b y5)))]))
    show OGo _ _ _ _ (T15.setTop (mkF m 36 #[.val (.ref a1), .val (.int (47 : Int32)), .val (.int (3 : Int32)), .val (.int (6 : Int32))] [(.int (own_ix (3 : Int32) (own_b y1) (own_b y2) (own_b y3) (own_b y4) (own_b y5)))]))
    refine own_retI X15 hx Bd.notSynchronized Bd.returns (hb hby d13_36) (by decide) (by decide) ?_
    show Q_rm13 Z _ _ _ _ _ _ _ _ _ h0 n0 _ T15.heap _
    exact ⟨rfl, N15, r15_0⟩
  · show OGo _ _ _ _ (s₁.setTop (mkF m 0 #[.val (.ref a1), .val (.int (47 : Int32)), .val (.int (4 : Int32)), .val (.int (6 : Int32))] []))
    refine OGo.via (fun _ k => XS.iloadN X0.here hx rfl (hb hby d13_0) rfl k) ?_
    obtain ⟨_, T16, Lc16, X16, hQ16, st16⟩ := own_open X0 (Jvm.LawKit.callS X0 hx (y := own_y11) hown (mvT hZ (own_w hw 62 rfl)) (mvT hZ (own_w hw 63 rfl)) (mvT hZ (own_w hw 60 rfl)) (mvT hZ (own_w hw 64 rfl)) (by decide) (backOf (W := 0) (rm14 l Z a0 hw []  h0 n0 Z0) hZ (own_w hw 64 rfl) (own_w hw 60 rfl) (by decide) (by decide)) (g := (mkF m 1 #[.val (.ref a1), .val (.int (47 : Int32)), .val (.int (4 : Int32)), .val (.int (6 : Int32))] [(.int (47 : Int32))])) rfl (by rw [hml]; rfl) (argsL := [(.int (47 : Int32))]) (rest := []) (lenOf pd_5 rfl) rfl (by show 2 * 0 + _ ≤ _; exact Nat.le_of_eq rfl) (hb hby d13_1) (fun _ _ => ⟨rfl, e0, (by decide : 0 + 0 ≤ _), (by decide : 0 + 0 ≤ _)⟩))
    obtain ⟨rfl, N16q, r16_0⟩ := hQ16
    have N16 := Fr.app N0 N16q
    refine OGo.via st16 ?_
    show OGo _ _ _ _ (T16.setTop (mkF m 4 #[.val (.ref a1), .val (.int (47 : Int32)), .val (.int (4 : Int32)), .val (.int (6 : Int32))] [(.int (1 : Int32))]))
    refine OGo.via (fun _ k => XS.ifYes X16.here hx rfl (pc0 := 4) (pc' := 9) rfl (hb hby d13_4) rfl ((if0 _ _).trans (feq (by decide : ¬ ((1 : Int32) = (0 : Int32)))).2) (by decide) (by decide) k) ?_
    show OGo _ _ _ _ (T16.setTop (mkF m 9 #[.val (.ref a1), .val (.int (47 : Int32)), .val (.int (4 : Int32)), .val (.int (6 : Int32))] []))
    refine OGo.via (fun _ k => XS.iloadN X16.here hx rfl (hb hby d13_9) rfl (XS.iconst X16.here hx rfl (hb hby d13_10) k)) ?_
    obtain ⟨_, T17, Lc17, X17, hQ17, st17⟩ := own_open X16 (Jvm.LawKit.callS X16 hx (y := own_y1) hown (mvT hZ (own_w hw 65 rfl)) (mvT hZ (own_w hw 66 rfl)) (mvT hZ (own_w hw 67 rfl)) (mvT hZ (own_w hw 68 rfl)) (by decide) (backOf (W := 0) (rm15 l Z a0 hw [] (4 : Int32) (0 : Int32) h0 n0 Z0) hZ (own_w hw 68 rfl) (own_w hw 67 rfl) (by decide) (by decide)) (g := (mkF m 11 #[.val (.ref a1), .val (.int (47 : Int32)), .val (.int (4 : Int32)), .val (.int (6 : Int32))] [(.int (0 : Int32)), (.int (4 : Int32))])) rfl (by rw [hml]; rfl) (argsL := [(.int (4 : Int32)), (.int (0 : Int32))]) (rest := []) (lenOf pd_6 rfl) rfl (by show 2 * 0 + _ ≤ _; exact Nat.le_of_eq rfl) (hb hby d13_11) (fun _ _ => ⟨rfl, r16_0, (by decide : 0 + 0 ≤ _), (by decide : 0 + 0 ≤ _)⟩))
    obtain ⟨rfl, N17q, r17_0⟩ := hQ17
    have N17 := Fr.app N16 N17q
    refine OGo.via st17 ?_
    show OGo _ _ _ _ (T17.setTop (mkF m 14 #[.val (.ref a1), .val (.int (47 : Int32)), .val (.int (4 : Int32)), .val (.int (6 : Int32))] [(.int (if (4 : Int32) < (0 : Int32) then (0 : Int32) else (4 : Int32)))]))
    rw [show (if (4 : Int32) < (0 : Int32) then (0 : Int32) else (4 : Int32)) = (4 : Int32) from by decide]
    show OGo _ _ _ _ (T17.setTop (mkF m 14 #[.val (.ref a1), .val (.int (47 : Int32)), .val (.int (4 : Int32)), .val (.int (6 : Int32))] [(.int (4 : Int32))]))
    refine OGo.via (fun _ k => XS.istoreN X17.here hx rfl (hb hby d13_14) rfl (l' := #[.val (.ref a1), .val (.int (47 : Int32)), .val (.int (4 : Int32)), .val (.int (6 : Int32))]) rfl (XS.iloadN X17.here hx rfl (hb hby d13_15) rfl (XS.aloadN X17.here hx rfl (hb hby d13_16) rfl rfl k))) ?_
    obtain ⟨cl18, Ar18, q18, Sz18, Ng18, Hs18, Gf18⟩ := id V_a1
    refine OGo.via (X17.arraylength hx (by rw [r17_0]; exact Ar18.1) (State.isArrayOf_alike hZ.alike Ar18.2.1) (g := (mkF m 17 #[.val (.ref a1), .val (.int (47 : Int32)), .val (.int (4 : Int32)), .val (.int (6 : Int32))] [(.ref a1), (.int (6 : Int32))])) rfl rfl (hb hby d13_17)) ?_
    rw [len_of Sz18 Ng18]
    show OGo _ _ _ _ (T17.setTop (mkF m 18 #[.val (.ref a1), .val (.int (47 : Int32)), .val (.int (4 : Int32)), .val (.int (6 : Int32))] [(.int (6 : Int32)), (.int (6 : Int32))]))
    obtain ⟨_, T19, Lc19, X19, hQ19, st19⟩ := own_open X17 (Jvm.LawKit.callS X17 hx (y := own_y2) hown (mvT hZ (own_w hw 69 rfl)) (mvT hZ (own_w hw 70 rfl)) (mvT hZ (own_w hw 67 rfl)) (mvT hZ (own_w hw 71 rfl)) (by decide) (backOf (W := 0) (rm16 l Z a0 hw [] (6 : Int32) (6 : Int32) h0 n0 Z0) hZ (own_w hw 71 rfl) (own_w hw 67 rfl) (by decide) (by decide)) (g := (mkF m 18 #[.val (.ref a1), .val (.int (47 : Int32)), .val (.int (4 : Int32)), .val (.int (6 : Int32))] [(.int (6 : Int32)), (.int (6 : Int32))])) rfl (by rw [hml]; rfl) (argsL := [(.int (6 : Int32)), (.int (6 : Int32))]) (rest := []) (lenOf pd_6 rfl) rfl (by show 2 * 0 + _ ≤ _; exact Nat.le_of_eq rfl) (hb hby d13_18) (fun _ _ => ⟨rfl, r17_0, (by decide : 0 + 0 ≤ _), (by decide : 0 + 0 ≤ _)⟩))
    obtain ⟨rfl, N19q, r19_0⟩ := hQ19
    have N19 := Fr.app N17 N19q
    refine OGo.via st19 ?_
    show OGo _ _ _ _ (T19.setTop (mkF m 21 #[.val (.ref a1), .val (.int (47 : Int32)), .val (.int (4 : Int32)), .val (.int (6 : Int32))] [(.int (if (6 : Int32) < (6 : Int32) then (6 : Int32) else (6 : Int32)))]))
    rw [show (if (6 : Int32) < (6 : Int32) then (6 : Int32) else (6 : Int32)) = (6 : Int32) from by decide]
    show OGo _ _ _ _ (T19.setTop (mkF m 21 #[.val (.ref a1), .val (.int (47 : Int32)), .val (.int (4 : Int32)), .val (.int (6 : Int32))] [(.int (6 : Int32))]))
    refine OGo.via (fun _ k => XS.istoreN X19.here hx rfl (hb hby d13_21) rfl (l' := #[.val (.ref a1), .val (.int (47 : Int32)), .val (.int (4 : Int32)), .val (.int (6 : Int32))]) rfl (XS.iloadN X19.here hx rfl (hb hby d13_22) rfl (XS.iloadN X19.here hx rfl (hb hby d13_23) rfl k))) ?_
    refine OGo.via (fun _ k => XS.icmpYes X19.here hx rfl (pc0 := 24) (pc' := 29) rfl (hb hby d13_24) rfl (tlt (by decide : (4 : Int32) < (6 : Int32))).1 (by decide) (by decide) k) ?_
    show OGo _ _ _ _ (T19.setTop (mkF m 29 #[.val (.ref a1), .val (.int (47 : Int32)), .val (.int (4 : Int32)), .val (.int (6 : Int32))] []))
    refine OGo.via (fun _ k => XS.aloadN X19.here hx rfl (hb hby d13_29) rfl rfl (XS.iloadN X19.here hx rfl (hb hby d13_30) rfl (XS.iloadN X19.here hx rfl (hb hby d13_31) rfl (XS.iloadN X19.here hx rfl (hb hby d13_32) rfl k)))) ?_
    obtain ⟨_, T20, Lc20, X20, hQ20, st20⟩ := own_open X19 (Jvm.LawKit.callS X19 hx (y := own_y12) hown (mvT hZ (own_w hw 72 rfl)) (mvT hZ (own_w hw 73 rfl)) (mvT hZ (own_w hw 60 rfl)) (mvT hZ (own_w hw 74 rfl)) (by decide) (backOf (W := 0) (rm17 l Z a0 hw [] a1 (4 : Int32) k1 y0 y1 y2 y3 y4 y5 h0 n0 Z0 V_a1 (by decide)) hZ (own_w hw 74 rfl) (own_w hw 60 rfl) (by decide) (by decide)) (g := (mkF m 33 #[.val (.ref a1), .val (.int (47 : Int32)), .val (.int (4 : Int32)), .val (.int (6 : Int32))] [(.int (6 : Int32)), (.int (4 : Int32)), (.int (47 : Int32)), (.ref a1)])) rfl (by rw [hml]; rfl) (argsL := [(.ref a1), (.int (47 : Int32)), (.int (4 : Int32)), (.int (6 : Int32))]) (rest := []) (lenOf pd_7 rfl) rfl (by show 2 * 0 + _ ≤ _; exact Nat.le_of_eq rfl) (hb hby d13_33) (fun _ _ => ⟨rfl, r19_0, (by decide : 0 + 0 ≤ _), (by decide : 0 + 0 ≤ _)⟩))
    obtain ⟨rfl, N20q, r20_0⟩ := hQ20
    have N20 := Fr.app N19 N20q
    refine OGo.via st20 ?_
    show OGo _ _ _ _ (T20.setTop (mkF m 36 #[.val (.ref a1), .val (.int (47 : Int32)), .val (.int (4 : Int32)), .val (.int (6 : Int32))] [(.int (own_ix (4 : Int32) (own_b y1) (own_b y2) (own_b y3) (own_b y4) (own_b y5)))]))
    show OGo _ _ _ _ (T20.setTop (mkF m 36 #[.val (.ref a1), .val (.int (47 : Int32)), .val (.int (4 : Int32)), .val (.int (6 : Int32))] [(.int (own_ix (4 : Int32) (own_b y1) (own_b y2) (own_b y3) (own_b y4) (own_b y5)))]))
    refine own_retI X20 hx Bd.notSynchronized Bd.returns (hb hby d13_36) (by decide) (by decide) ?_
    show Q_rm13 Z _ _ _ _ _ _ _ _ _ h0 n0 _ T20.heap _
    exact ⟨rfl, N20, r20_0⟩
  · show OGo _ _ _ _ (s₁.setTop (mkF m 0 #[.val (.ref a1), .val (.int (47 : Int32)), .val (.int (5 : Int32)), .val (.int (6 : Int32))] []))
    refine OGo.via (fun _ k => XS.iloadN X0.here hx rfl (hb hby d13_0) rfl k) ?_
    obtain ⟨_, T21, Lc21, X21, hQ21, st21⟩ := own_open X0 (Jvm.LawKit.callS X0 hx (y := own_y11) hown (mvT hZ (own_w hw 62 rfl)) (mvT hZ (own_w hw 63 rfl)) (mvT hZ (own_w hw 60 rfl)) (mvT hZ (own_w hw 64 rfl)) (by decide) (backOf (W := 0) (rm14 l Z a0 hw []  h0 n0 Z0) hZ (own_w hw 64 rfl) (own_w hw 60 rfl) (by decide) (by decide)) (g := (mkF m 1 #[.val (.ref a1), .val (.int (47 : Int32)), .val (.int (5 : Int32)), .val (.int (6 : Int32))] [(.int (47 : Int32))])) rfl (by rw [hml]; rfl) (argsL := [(.int (47 : Int32))]) (rest := []) (lenOf pd_5 rfl) rfl (by show 2 * 0 + _ ≤ _; exact Nat.le_of_eq rfl) (hb hby d13_1) (fun _ _ => ⟨rfl, e0, (by decide : 0 + 0 ≤ _), (by decide : 0 + 0 ≤ _)⟩))
    obtain ⟨rfl, N21q, r21_0⟩ := hQ21
    have N21 := Fr.app N0 N21q
    refine OGo.via st21 ?_
    show OGo _ _ _ _ (T21.setTop (mkF m 4 #[.val (.ref a1), .val (.int (47 : Int32)), .val (.int (5 : Int32)), .val (.int (6 : Int32))] [(.int (1 : Int32))]))
    refine OGo.via (fun _ k => XS.ifYes X21.here hx rfl (pc0 := 4) (pc' := 9) rfl (hb hby d13_4) rfl ((if0 _ _).trans (feq (by decide : ¬ ((1 : Int32) = (0 : Int32)))).2) (by decide) (by decide) k) ?_
    show OGo _ _ _ _ (T21.setTop (mkF m 9 #[.val (.ref a1), .val (.int (47 : Int32)), .val (.int (5 : Int32)), .val (.int (6 : Int32))] []))
    refine OGo.via (fun _ k => XS.iloadN X21.here hx rfl (hb hby d13_9) rfl (XS.iconst X21.here hx rfl (hb hby d13_10) k)) ?_
    obtain ⟨_, T22, Lc22, X22, hQ22, st22⟩ := own_open X21 (Jvm.LawKit.callS X21 hx (y := own_y1) hown (mvT hZ (own_w hw 65 rfl)) (mvT hZ (own_w hw 66 rfl)) (mvT hZ (own_w hw 67 rfl)) (mvT hZ (own_w hw 68 rfl)) (by decide) (backOf (W := 0) (rm15 l Z a0 hw [] (5 : Int32) (0 : Int32) h0 n0 Z0) hZ (own_w hw 68 rfl) (own_w hw 67 rfl) (by decide) (by decide)) (g := (mkF m 11 #[.val (.ref a1), .val (.int (47 : Int32)), .val (.int (5 : Int32)), .val (.int (6 : Int32))] [(.int (0 : Int32)), (.int (5 : Int32))])) rfl (by rw [hml]; rfl) (argsL := [(.int (5 : Int32)), (.int (0 : Int32))]) (rest := []) (lenOf pd_6 rfl) rfl (by show 2 * 0 + _ ≤ _; exact Nat.le_of_eq rfl) (hb hby d13_11) (fun _ _ => ⟨rfl, r21_0, (by decide : 0 + 0 ≤ _), (by decide : 0 + 0 ≤ _)⟩))
    obtain ⟨rfl, N22q, r22_0⟩ := hQ22
    have N22 := Fr.app N21 N22q
    refine OGo.via st22 ?_
    show OGo _ _ _ _ (T22.setTop (mkF m 14 #[.val (.ref a1), .val (.int (47 : Int32)), .val (.int (5 : Int32)), .val (.int (6 : Int32))] [(.int (if (5 : Int32) < (0 : Int32) then (0 : Int32) else (5 : Int32)))]))
    rw [show (if (5 : Int32) < (0 : Int32) then (0 : Int32) else (5 : Int32)) = (5 : Int32) from by decide]
    show OGo _ _ _ _ (T22.setTop (mkF m 14 #[.val (.ref a1), .val (.int (47 : Int32)), .val (.int (5 : Int32)), .val (.int (6 : Int32))] [(.int (5 : Int32))]))
    refine OGo.via (fun _ k => XS.istoreN X22.here hx rfl (hb hby d13_14) rfl (l' := #[.val (.ref a1), .val (.int (47 : Int32)), .val (.int (5 : Int32)), .val (.int (6 : Int32))]) rfl (XS.iloadN X22.here hx rfl (hb hby d13_15) rfl (XS.aloadN X22.here hx rfl (hb hby d13_16) rfl rfl k))) ?_
    obtain ⟨cl23, Ar23, q23, Sz23, Ng23, Hs23, Gf23⟩ := id V_a1
    refine OGo.via (X22.arraylength hx (by rw [r22_0]; exact Ar23.1) (State.isArrayOf_alike hZ.alike Ar23.2.1) (g := (mkF m 17 #[.val (.ref a1), .val (.int (47 : Int32)), .val (.int (5 : Int32)), .val (.int (6 : Int32))] [(.ref a1), (.int (6 : Int32))])) rfl rfl (hb hby d13_17)) ?_
    rw [len_of Sz23 Ng23]
    show OGo _ _ _ _ (T22.setTop (mkF m 18 #[.val (.ref a1), .val (.int (47 : Int32)), .val (.int (5 : Int32)), .val (.int (6 : Int32))] [(.int (6 : Int32)), (.int (6 : Int32))]))
    obtain ⟨_, T24, Lc24, X24, hQ24, st24⟩ := own_open X22 (Jvm.LawKit.callS X22 hx (y := own_y2) hown (mvT hZ (own_w hw 69 rfl)) (mvT hZ (own_w hw 70 rfl)) (mvT hZ (own_w hw 67 rfl)) (mvT hZ (own_w hw 71 rfl)) (by decide) (backOf (W := 0) (rm16 l Z a0 hw [] (6 : Int32) (6 : Int32) h0 n0 Z0) hZ (own_w hw 71 rfl) (own_w hw 67 rfl) (by decide) (by decide)) (g := (mkF m 18 #[.val (.ref a1), .val (.int (47 : Int32)), .val (.int (5 : Int32)), .val (.int (6 : Int32))] [(.int (6 : Int32)), (.int (6 : Int32))])) rfl (by rw [hml]; rfl) (argsL := [(.int (6 : Int32)), (.int (6 : Int32))]) (rest := []) (lenOf pd_6 rfl) rfl (by show 2 * 0 + _ ≤ _; exact Nat.le_of_eq rfl) (hb hby d13_18) (fun _ _ => ⟨rfl, r22_0, (by decide : 0 + 0 ≤ _), (by decide : 0 + 0 ≤ _)⟩))
    obtain ⟨rfl, N24q, r24_0⟩ := hQ24
    have N24 := Fr.app N22 N24q
    refine OGo.via st24 ?_
    show OGo _ _ _ _ (T24.setTop (mkF m 21 #[.val (.ref a1), .val (.int (47 : Int32)), .val (.int (5 : Int32)), .val (.int (6 : Int32))] [(.int (if (6 : Int32) < (6 : Int32) then (6 : Int32) else (6 : Int32)))]))
    rw [show (if (6 : Int32) < (6 : Int32) then (6 : Int32) else (6 : Int32)) = (6 : Int32) from by decide]
    show OGo _ _ _ _ (T24.setTop (mkF m 21 #[.val (.ref a1), .val (.int (47 : Int32)), .val (.int (5 : Int32)), .val (.int (6 : Int32))] [(.int (6 : Int32))]))
    refine OGo.via (fun _ k => XS.istoreN X24.here hx rfl (hb hby d13_21) rfl (l' := #[.val (.ref a1), .val (.int (47 : Int32)), .val (.int (5 : Int32)), .val (.int (6 : Int32))]) rfl (XS.iloadN X24.here hx rfl (hb hby d13_22) rfl (XS.iloadN X24.here hx rfl (hb hby d13_23) rfl k))) ?_
    refine OGo.via (fun _ k => XS.icmpYes X24.here hx rfl (pc0 := 24) (pc' := 29) rfl (hb hby d13_24) rfl (tlt (by decide : (5 : Int32) < (6 : Int32))).1 (by decide) (by decide) k) ?_
    show OGo _ _ _ _ (T24.setTop (mkF m 29 #[.val (.ref a1), .val (.int (47 : Int32)), .val (.int (5 : Int32)), .val (.int (6 : Int32))] []))
    refine OGo.via (fun _ k => XS.aloadN X24.here hx rfl (hb hby d13_29) rfl rfl (XS.iloadN X24.here hx rfl (hb hby d13_30) rfl (XS.iloadN X24.here hx rfl (hb hby d13_31) rfl (XS.iloadN X24.here hx rfl (hb hby d13_32) rfl k)))) ?_
    obtain ⟨_, T25, Lc25, X25, hQ25, st25⟩ := own_open X24 (Jvm.LawKit.callS X24 hx (y := own_y12) hown (mvT hZ (own_w hw 72 rfl)) (mvT hZ (own_w hw 73 rfl)) (mvT hZ (own_w hw 60 rfl)) (mvT hZ (own_w hw 74 rfl)) (by decide) (backOf (W := 0) (rm17 l Z a0 hw [] a1 (5 : Int32) k1 y0 y1 y2 y3 y4 y5 h0 n0 Z0 V_a1 (by decide)) hZ (own_w hw 74 rfl) (own_w hw 60 rfl) (by decide) (by decide)) (g := (mkF m 33 #[.val (.ref a1), .val (.int (47 : Int32)), .val (.int (5 : Int32)), .val (.int (6 : Int32))] [(.int (6 : Int32)), (.int (5 : Int32)), (.int (47 : Int32)), (.ref a1)])) rfl (by rw [hml]; rfl) (argsL := [(.ref a1), (.int (47 : Int32)), (.int (5 : Int32)), (.int (6 : Int32))]) (rest := []) (lenOf pd_7 rfl) rfl (by show 2 * 0 + _ ≤ _; exact Nat.le_of_eq rfl) (hb hby d13_33) (fun _ _ => ⟨rfl, r24_0, (by decide : 0 + 0 ≤ _), (by decide : 0 + 0 ≤ _)⟩))
    obtain ⟨rfl, N25q, r25_0⟩ := hQ25
    have N25 := Fr.app N24 N25q
    refine OGo.via st25 ?_
    show OGo _ _ _ _ (T25.setTop (mkF m 36 #[.val (.ref a1), .val (.int (47 : Int32)), .val (.int (5 : Int32)), .val (.int (6 : Int32))] [(.int (own_ix (5 : Int32) (own_b y1) (own_b y2) (own_b y3) (own_b y4) (own_b y5)))]))
    show OGo _ _ _ _ (T25.setTop (mkF m 36 #[.val (.ref a1), .val (.int (47 : Int32)), .val (.int (5 : Int32)), .val (.int (6 : Int32))] [(.int (own_ix (5 : Int32) (own_b y1) (own_b y2) (own_b y3) (own_b y4) (own_b y5)))]))
    refine own_retI X25 hx Bd.notSynchronized Bd.returns (hb hby d13_36) (by decide) (by decide) ?_
    show Q_rm13 Z _ _ _ _ _ _ _ _ _ h0 n0 _ T25.heap _
    exact ⟨rfl, N25, r25_0⟩
  · show OGo _ _ _ _ (s₁.setTop (mkF m 0 #[.val (.ref a1), .val (.int (47 : Int32)), .val (.int (6 : Int32)), .val (.int (6 : Int32))] []))
    refine OGo.via (fun _ k => XS.iloadN X0.here hx rfl (hb hby d13_0) rfl k) ?_
    obtain ⟨_, T26, Lc26, X26, hQ26, st26⟩ := own_open X0 (Jvm.LawKit.callS X0 hx (y := own_y11) hown (mvT hZ (own_w hw 62 rfl)) (mvT hZ (own_w hw 63 rfl)) (mvT hZ (own_w hw 60 rfl)) (mvT hZ (own_w hw 64 rfl)) (by decide) (backOf (W := 0) (rm14 l Z a0 hw []  h0 n0 Z0) hZ (own_w hw 64 rfl) (own_w hw 60 rfl) (by decide) (by decide)) (g := (mkF m 1 #[.val (.ref a1), .val (.int (47 : Int32)), .val (.int (6 : Int32)), .val (.int (6 : Int32))] [(.int (47 : Int32))])) rfl (by rw [hml]; rfl) (argsL := [(.int (47 : Int32))]) (rest := []) (lenOf pd_5 rfl) rfl (by show 2 * 0 + _ ≤ _; exact Nat.le_of_eq rfl) (hb hby d13_1) (fun _ _ => ⟨rfl, e0, (by decide : 0 + 0 ≤ _), (by decide : 0 + 0 ≤ _)⟩))
    obtain ⟨rfl, N26q, r26_0⟩ := hQ26
    have N26 := Fr.app N0 N26q
    refine OGo.via st26 ?_
    show OGo _ _ _ _ (T26.setTop (mkF m 4 #[.val (.ref a1), .val (.int (47 : Int32)), .val (.int (6 : Int32)), .val (.int (6 : Int32))] [(.int (1 : Int32))]))
    refine OGo.via (fun _ k => XS.ifYes X26.here hx rfl (pc0 := 4) (pc' := 9) rfl (hb hby d13_4) rfl ((if0 _ _).trans (feq (by decide : ¬ ((1 : Int32) = (0 : Int32)))).2) (by decide) (by decide) k) ?_
    show OGo _ _ _ _ (T26.setTop (mkF m 9 #[.val (.ref a1), .val (.int (47 : Int32)), .val (.int (6 : Int32)), .val (.int (6 : Int32))] []))
    refine OGo.via (fun _ k => XS.iloadN X26.here hx rfl (hb hby d13_9) rfl (XS.iconst X26.here hx rfl (hb hby d13_10) k)) ?_
    obtain ⟨_, T27, Lc27, X27, hQ27, st27⟩ := own_open X26 (Jvm.LawKit.callS X26 hx (y := own_y1) hown (mvT hZ (own_w hw 65 rfl)) (mvT hZ (own_w hw 66 rfl)) (mvT hZ (own_w hw 67 rfl)) (mvT hZ (own_w hw 68 rfl)) (by decide) (backOf (W := 0) (rm15 l Z a0 hw [] (6 : Int32) (0 : Int32) h0 n0 Z0) hZ (own_w hw 68 rfl) (own_w hw 67 rfl) (by decide) (by decide)) (g := (mkF m 11 #[.val (.ref a1), .val (.int (47 : Int32)), .val (.int (6 : Int32)), .val (.int (6 : Int32))] [(.int (0 : Int32)), (.int (6 : Int32))])) rfl (by rw [hml]; rfl) (argsL := [(.int (6 : Int32)), (.int (0 : Int32))]) (rest := []) (lenOf pd_6 rfl) rfl (by show 2 * 0 + _ ≤ _; exact Nat.le_of_eq rfl) (hb hby d13_11) (fun _ _ => ⟨rfl, r26_0, (by decide : 0 + 0 ≤ _), (by decide : 0 + 0 ≤ _)⟩))
    obtain ⟨rfl, N27q, r27_0⟩ := hQ27
    have N27 := Fr.app N26 N27q
    refine OGo.via st27 ?_
    show OGo _ _ _ _ (T27.setTop (mkF m 14 #[.val (.ref a1), .val (.int (47 : Int32)), .val (.int (6 : Int32)), .val (.int (6 : Int32))] [(.int (if (6 : Int32) < (0 : Int32) then (0 : Int32) else (6 : Int32)))]))
    rw [show (if (6 : Int32) < (0 : Int32) then (0 : Int32) else (6 : Int32)) = (6 : Int32) from by decide]
    show OGo _ _ _ _ (T27.setTop (mkF m 14 #[.val (.ref a1), .val (.int (47 : Int32)), .val (.int (6 : Int32)), .val (.int (6 : Int32))] [(.int (6 : Int32))]))
    refine OGo.via (fun _ k => XS.istoreN X27.here hx rfl (hb hby d13_14) rfl (l' := #[.val (.ref a1), .val (.int (47 : Int32)), .val (.int (6 : Int32)), .val (.int (6 : Int32))]) rfl (XS.iloadN X27.here hx rfl (hb hby d13_15) rfl (XS.aloadN X27.here hx rfl (hb hby d13_16) rfl rfl k))) ?_
    obtain ⟨cl28, Ar28, q28, Sz28, Ng28, Hs28, Gf28⟩ := id V_a1
    refine OGo.via (X27.arraylength hx (by rw [r27_0]; exact Ar28.1) (State.isArrayOf_alike hZ.alike Ar28.2.1) (g := (mkF m 17 #[.val (.ref a1), .val (.int (47 : Int32)), .val (.int (6 : Int32)), .val (.int (6 : Int32))] [(.ref a1), (.int (6 : Int32))])) rfl rfl (hb hby d13_17)) ?_
    rw [len_of Sz28 Ng28]
    show OGo _ _ _ _ (T27.setTop (mkF m 18 #[.val (.ref a1), .val (.int (47 : Int32)), .val (.int (6 : Int32)), .val (.int (6 : Int32))] [(.int (6 : Int32)), (.int (6 : Int32))]))
    obtain ⟨_, T29, Lc29, X29, hQ29, st29⟩ := own_open X27 (Jvm.LawKit.callS X27 hx (y := own_y2) hown (mvT hZ (own_w hw 69 rfl)) (mvT hZ (own_w hw 70 rfl)) (mvT hZ (own_w hw 67 rfl)) (mvT hZ (own_w hw 71 rfl)) (by decide) (backOf (W := 0) (rm16 l Z a0 hw [] (6 : Int32) (6 : Int32) h0 n0 Z0) hZ (own_w hw 71 rfl) (own_w hw 67 rfl) (by decide) (by decide)) (g := (mkF m 18 #[.val (.ref a1), .val (.int (47 : Int32)), .val (.int (6 : Int32)), .val (.int (6 : Int32))] [(.int (6 : Int32)), (.int (6 : Int32))])) rfl (by rw [hml]; rfl) (argsL := [(.int (6 : Int32)), (.int (6 : Int32))]) (rest := []) (lenOf pd_6 rfl) rfl (by show 2 * 0 + _ ≤ _; exact Nat.le_of_eq rfl) (hb hby d13_18) (fun _ _ => ⟨rfl, r27_0, (by decide : 0 + 0 ≤ _), (by decide : 0 + 0 ≤ _)⟩))
    obtain ⟨rfl, N29q, r29_0⟩ := hQ29
    have N29 := Fr.app N27 N29q
    refine OGo.via st29 ?_
    show OGo _ _ _ _ (T29.setTop (mkF m 21 #[.val (.ref a1), .val (.int (47 : Int32)), .val (.int (6 : Int32)), .val (.int (6 : Int32))] [(.int (if (6 : Int32) < (6 : Int32) then (6 : Int32) else (6 : Int32)))]))
    rw [show (if (6 : Int32) < (6 : Int32) then (6 : Int32) else (6 : Int32)) = (6 : Int32) from by decide]
    show OGo _ _ _ _ (T29.setTop (mkF m 21 #[.val (.ref a1), .val (.int (47 : Int32)), .val (.int (6 : Int32)), .val (.int (6 : Int32))] [(.int (6 : Int32))]))
    refine OGo.via (fun _ k => XS.istoreN X29.here hx rfl (hb hby d13_21) rfl (l' := #[.val (.ref a1), .val (.int (47 : Int32)), .val (.int (6 : Int32)), .val (.int (6 : Int32))]) rfl (XS.iloadN X29.here hx rfl (hb hby d13_22) rfl (XS.iloadN X29.here hx rfl (hb hby d13_23) rfl k))) ?_
    refine OGo.via (fun _ k => XS.icmpNo X29.here hx rfl (hb hby d13_24) rfl (flt (by decide : ¬ ((6 : Int32) < (6 : Int32)))).1 k) ?_
    show OGo _ _ _ _ (T29.setTop (mkF m 27 #[.val (.ref a1), .val (.int (47 : Int32)), .val (.int (6 : Int32)), .val (.int (6 : Int32))] []))
    refine OGo.via (fun _ k => XS.iconst X29.here hx rfl (hb hby d13_27) k) ?_
    show OGo _ _ _ _ (T29.setTop (mkF m 28 #[.val (.ref a1), .val (.int (47 : Int32)), .val (.int (6 : Int32)), .val (.int (6 : Int32))] [(.int (-1 : Int32))]))
    refine own_retI X29 hx Bd.notSynchronized Bd.returns (hb hby d13_28) (by decide) (by decide) ?_
    show Q_rm13 Z _ _ _ _ _ _ _ _ _ h0 n0 _ T29.heap _
    exact ⟨(by rw [own_ix, if_neg (fun z => absurd z.1 (by decide)), if_neg (fun z => absurd z.1 (by decide)), if_neg (fun z => absurd z.1 (by decide)), if_neg (fun z => absurd z.1 (by decide)), if_neg (fun z => absurd z.1 (by decide))]), N29, r29_0⟩
  · show OGo _ _ _ _ (s₁.setTop (mkF m 0 #[.val (.ref a1), .val (.int (47 : Int32)), .val (.int (7 : Int32)), .val (.int (6 : Int32))] []))
    refine OGo.via (fun _ k => XS.iloadN X0.here hx rfl (hb hby d13_0) rfl k) ?_
    obtain ⟨_, T30, Lc30, X30, hQ30, st30⟩ := own_open X0 (Jvm.LawKit.callS X0 hx (y := own_y11) hown (mvT hZ (own_w hw 62 rfl)) (mvT hZ (own_w hw 63 rfl)) (mvT hZ (own_w hw 60 rfl)) (mvT hZ (own_w hw 64 rfl)) (by decide) (backOf (W := 0) (rm14 l Z a0 hw []  h0 n0 Z0) hZ (own_w hw 64 rfl) (own_w hw 60 rfl) (by decide) (by decide)) (g := (mkF m 1 #[.val (.ref a1), .val (.int (47 : Int32)), .val (.int (7 : Int32)), .val (.int (6 : Int32))] [(.int (47 : Int32))])) rfl (by rw [hml]; rfl) (argsL := [(.int (47 : Int32))]) (rest := []) (lenOf pd_5 rfl) rfl (by show 2 * 0 + _ ≤ _; exact Nat.le_of_eq rfl) (hb hby d13_1) (fun _ _ => ⟨rfl, e0, (by decide : 0 + 0 ≤ _), (by decide : 0 + 0 ≤ _)⟩))
    obtain ⟨rfl, N30q, r30_0⟩ := hQ30
    have N30 := Fr.app N0 N30q
    refine OGo.via st30 ?_
    show OGo _ _ _ _ (T30.setTop (mkF m 4 #[.val (.ref a1), .val (.int (47 : Int32)), .val (.int (7 : Int32)), .val (.int (6 : Int32))] [(.int (1 : Int32))]))
    refine OGo.via (fun _ k => XS.ifYes X30.here hx rfl (pc0 := 4) (pc' := 9) rfl (hb hby d13_4) rfl ((if0 _ _).trans (feq (by decide : ¬ ((1 : Int32) = (0 : Int32)))).2) (by decide) (by decide) k) ?_
    show OGo _ _ _ _ (T30.setTop (mkF m 9 #[.val (.ref a1), .val (.int (47 : Int32)), .val (.int (7 : Int32)), .val (.int (6 : Int32))] []))
    refine OGo.via (fun _ k => XS.iloadN X30.here hx rfl (hb hby d13_9) rfl (XS.iconst X30.here hx rfl (hb hby d13_10) k)) ?_
    obtain ⟨_, T31, Lc31, X31, hQ31, st31⟩ := own_open X30 (Jvm.LawKit.callS X30 hx (y := own_y1) hown (mvT hZ (own_w hw 65 rfl)) (mvT hZ (own_w hw 66 rfl)) (mvT hZ (own_w hw 67 rfl)) (mvT hZ (own_w hw 68 rfl)) (by decide) (backOf (W := 0) (rm15 l Z a0 hw [] (7 : Int32) (0 : Int32) h0 n0 Z0) hZ (own_w hw 68 rfl) (own_w hw 67 rfl) (by decide) (by decide)) (g := (mkF m 11 #[.val (.ref a1), .val (.int (47 : Int32)), .val (.int (7 : Int32)), .val (.int (6 : Int32))] [(.int (0 : Int32)), (.int (7 : Int32))])) rfl (by rw [hml]; rfl) (argsL := [(.int (7 : Int32)), (.int (0 : Int32))]) (rest := []) (lenOf pd_6 rfl) rfl (by show 2 * 0 + _ ≤ _; exact Nat.le_of_eq rfl) (hb hby d13_11) (fun _ _ => ⟨rfl, r30_0, (by decide : 0 + 0 ≤ _), (by decide : 0 + 0 ≤ _)⟩))
    obtain ⟨rfl, N31q, r31_0⟩ := hQ31
    have N31 := Fr.app N30 N31q
    refine OGo.via st31 ?_
    show OGo _ _ _ _ (T31.setTop (mkF m 14 #[.val (.ref a1), .val (.int (47 : Int32)), .val (.int (7 : Int32)), .val (.int (6 : Int32))] [(.int (if (7 : Int32) < (0 : Int32) then (0 : Int32) else (7 : Int32)))]))
    rw [show (if (7 : Int32) < (0 : Int32) then (0 : Int32) else (7 : Int32)) = (7 : Int32) from by decide]
    show OGo _ _ _ _ (T31.setTop (mkF m 14 #[.val (.ref a1), .val (.int (47 : Int32)), .val (.int (7 : Int32)), .val (.int (6 : Int32))] [(.int (7 : Int32))]))
    refine OGo.via (fun _ k => XS.istoreN X31.here hx rfl (hb hby d13_14) rfl (l' := #[.val (.ref a1), .val (.int (47 : Int32)), .val (.int (7 : Int32)), .val (.int (6 : Int32))]) rfl (XS.iloadN X31.here hx rfl (hb hby d13_15) rfl (XS.aloadN X31.here hx rfl (hb hby d13_16) rfl rfl k))) ?_
    obtain ⟨cl32, Ar32, q32, Sz32, Ng32, Hs32, Gf32⟩ := id V_a1
    refine OGo.via (X31.arraylength hx (by rw [r31_0]; exact Ar32.1) (State.isArrayOf_alike hZ.alike Ar32.2.1) (g := (mkF m 17 #[.val (.ref a1), .val (.int (47 : Int32)), .val (.int (7 : Int32)), .val (.int (6 : Int32))] [(.ref a1), (.int (6 : Int32))])) rfl rfl (hb hby d13_17)) ?_
    rw [len_of Sz32 Ng32]
    show OGo _ _ _ _ (T31.setTop (mkF m 18 #[.val (.ref a1), .val (.int (47 : Int32)), .val (.int (7 : Int32)), .val (.int (6 : Int32))] [(.int (6 : Int32)), (.int (6 : Int32))]))
    obtain ⟨_, T33, Lc33, X33, hQ33, st33⟩ := own_open X31 (Jvm.LawKit.callS X31 hx (y := own_y2) hown (mvT hZ (own_w hw 69 rfl)) (mvT hZ (own_w hw 70 rfl)) (mvT hZ (own_w hw 67 rfl)) (mvT hZ (own_w hw 71 rfl)) (by decide) (backOf (W := 0) (rm16 l Z a0 hw [] (6 : Int32) (6 : Int32) h0 n0 Z0) hZ (own_w hw 71 rfl) (own_w hw 67 rfl) (by decide) (by decide)) (g := (mkF m 18 #[.val (.ref a1), .val (.int (47 : Int32)), .val (.int (7 : Int32)), .val (.int (6 : Int32))] [(.int (6 : Int32)), (.int (6 : Int32))])) rfl (by rw [hml]; rfl) (argsL := [(.int (6 : Int32)), (.int (6 : Int32))]) (rest := []) (lenOf pd_6 rfl) rfl (by show 2 * 0 + _ ≤ _; exact Nat.le_of_eq rfl) (hb hby d13_18) (fun _ _ => ⟨rfl, r31_0, (by decide : 0 + 0 ≤ _), (by decide : 0 + 0 ≤ _)⟩))
    obtain ⟨rfl, N33q, r33_0⟩ := hQ33
    have N33 := Fr.app N31 N33q
    refine OGo.via st33 ?_
    show OGo _ _ _ _ (T33.setTop (mkF m 21 #[.val (.ref a1), .val (.int (47 : Int32)), .val (.int (7 : Int32)), .val (.int (6 : Int32))] [(.int (if (6 : Int32) < (6 : Int32) then (6 : Int32) else (6 : Int32)))]))
    rw [show (if (6 : Int32) < (6 : Int32) then (6 : Int32) else (6 : Int32)) = (6 : Int32) from by decide]
    show OGo _ _ _ _ (T33.setTop (mkF m 21 #[.val (.ref a1), .val (.int (47 : Int32)), .val (.int (7 : Int32)), .val (.int (6 : Int32))] [(.int (6 : Int32))]))
    refine OGo.via (fun _ k => XS.istoreN X33.here hx rfl (hb hby d13_21) rfl (l' := #[.val (.ref a1), .val (.int (47 : Int32)), .val (.int (7 : Int32)), .val (.int (6 : Int32))]) rfl (XS.iloadN X33.here hx rfl (hb hby d13_22) rfl (XS.iloadN X33.here hx rfl (hb hby d13_23) rfl k))) ?_
    refine OGo.via (fun _ k => XS.icmpNo X33.here hx rfl (hb hby d13_24) rfl (flt (by decide : ¬ ((7 : Int32) < (6 : Int32)))).1 k) ?_
    show OGo _ _ _ _ (T33.setTop (mkF m 27 #[.val (.ref a1), .val (.int (47 : Int32)), .val (.int (7 : Int32)), .val (.int (6 : Int32))] []))
    refine OGo.via (fun _ k => XS.iconst X33.here hx rfl (hb hby d13_27) k) ?_
    show OGo _ _ _ _ (T33.setTop (mkF m 28 #[.val (.ref a1), .val (.int (47 : Int32)), .val (.int (7 : Int32)), .val (.int (6 : Int32))] [(.int (-1 : Int32))]))
    refine own_retI X33 hx Bd.notSynchronized Bd.returns (hb hby d13_28) (by decide) (by decide) ?_
    show Q_rm13 Z _ _ _ _ _ _ _ _ _ h0 n0 _ T33.heap _
    exact ⟨(by rw [own_ix, if_neg (fun z => absurd z.1 (by decide)), if_neg (fun z => absurd z.1 (by decide)), if_neg (fun z => absurd z.1 (by decide)), if_neg (fun z => absurd z.1 (by decide)), if_neg (fun z => absurd z.1 (by decide))]), N33, r33_0⟩
theorem d9_0 : decode jdk_42_method_80_code 0 = .ok (.aload_n 0, 1) := by decide +kernel
theorem d9_1 : decode jdk_42_method_80_code 1 = .ok (.invokevirtual 492, 3) := by decide +kernel
theorem pd_8 : parseMethodDescriptor "()Z" = some ⟨[], some .boolean⟩ := by decide +kernel
theorem d9_4 : decode jdk_42_method_80_code 4 = .ok (.ifCond .eq 19, 3) := by decide +kernel
theorem d9_7 : decode jdk_42_method_80_code 7 = .ok (.aload_n 0, 1) := by decide +kernel
theorem d9_8 : decode jdk_42_method_80_code 8 = .ok (.getfield 9, 3) := by decide +kernel
theorem d9_11 : decode jdk_42_method_80_code 11 = .ok (.iload_n 1, 1) := by decide +kernel
theorem d9_12 : decode jdk_42_method_80_code 12 = .ok (.iload_n 2, 1) := by decide +kernel
theorem d9_13 : decode jdk_42_method_80_code 13 = .ok (.aload_n 0, 1) := by decide +kernel
theorem d9_14 : decode jdk_42_method_80_code 14 = .ok (.invokevirtual 505, 3) := by decide +kernel
theorem pd_9 : parseMethodDescriptor "()I" = some ⟨[], some .int⟩ := by decide +kernel
theorem d9_17 : decode jdk_42_method_80_code 17 = .ok (.invokestatic 637, 3) := by decide +kernel
theorem d9_20 : decode jdk_42_method_80_code 20 = .ok (.goto 16, 3) := by decide +kernel
theorem d9_36 : decode jdk_42_method_80_code 36 = .ok (.ireturn, 1) := by decide +kernel
theorem ef_rm9 (m : MethodId) (a1 : Addr) (p3 : Int32) : entryFrame m #[(.ref a1), (.int (47 : Int32)), (.int p3)] 3 = mkF m 0 #[.val (.ref a1), .val (.int (47 : Int32)), .val (.int p3)] [] := by first | (simp [entryFrame, mkF, argsToLocals, Value.category]; done) | rfl
def Q_rm9 (Z : State) (a1 : Addr) (p3 : Int32) (w : Int32) (vb : Addr) (kb : ClassId) (y0 : Int32) (y1 : Int32) (y2 : Int32) (y3 : Int32) (y4 : Int32) (y5 : Int32) (h0 : Heap) (n0 : Nat) (v : Option Value) (h : Heap) (L : List Loc) : Prop := v = some (.int (own_ix p3 (own_b y1) (own_b y2) (own_b y3) (own_b y4) (own_b y5))) ∧ Fr n0 L ∧ h = h0
set_option maxRecDepth 65536 in
set_option maxHeartbeats 40000000 in
theorem rm9 (l : Launch) (Z : State) (a0 : Array Value) (hw : ∀ d ∈ tables_1, d.before a0 Z = true) (ws : List Jvm.Cond) (a1 : Addr) (p3 : Int32) (w : Int32) (vb : Addr) (kb : ClassId) (y0 : Int32) (y1 : Int32) (y2 : Int32) (y3 : Int32) (y4 : Int32) (y5 : Int32) (h0 : Heap) (n0 : Nat) (Z0 : n0 ≤ h0.size) (E_a1 : Exa Z h0 a1 "java/lang/String") (F_value_a1 : Fld Z h0 a1 "java/lang/String" "value" "[B" (.ref vb)) (F_coder_a1 : Fld Z h0 a1 "java/lang/String" "coder" "B" (.int (0 : Int32))) (V_vb : Arv Z h0 vb kb .byte (6 : Int32) [(.int y0), (.int y1), (.int y2), (.int y3), (.int y4), (.int y5)] (.int (0 : Int32))) (S_COMPACT_STRINGS : Sta Z h0 "java/lang/String" "COMPACT_STRINGS" "Z" (.int w)) (hw0 : ¬ w = (0 : Int32)) (hf : p3 = (1 : Int32) ∨ p3 = (2 : Int32) ∨ p3 = (3 : Int32) ∨ p3 = (4 : Int32) ∨ p3 = (5 : Int32) ∨ p3 = (6 : Int32) ∨ p3 = (7 : Int32)) :
    MetFree l own_y14 (head1 (Jvm.Cond.code own_y14 jdk_42_method_80_code 3 (some .int) :: ws) ({ frames := 2, cells := 0, slots := 0, locals := 32 } : Room)) (fun a U => a = #[(.ref a1), (.int (47 : Int32)), (.int p3)] ∧ Z.Warmed39 U.vm ∧ U.heap = h0) (fun _ _ _ _ _ => True) (fun _ U o U' => ∃ v L, o = .returned v ∧ Q_rm9 Z a1 p3 w vb kb y0 y1 y2 y3 y4 y5 h0 n0 v U'.heap L ∧ FrameEnd U o U' L ({ frames := 2, cells := 0, slots := 0, locals := 32 } : Room).cells ({ frames := 2, cells := 0, slots := 0, locals := 32 } : Room).slots) := by
  refine MetFree.of_bodySF (plainFor_of_name pn_String) hisR ?_
  intro p e s m args below meth c s₁ Bd hml0 hP hK
  obtain ⟨rfl, hZ, hh⟩ := hP
  have hx := Bd.exec
  have hby := Bd.bytes
  have hml : c.maxLocals = 3 := hml0
  have hown : s.vm.findClass "java/lang/String" = some m.cls := findClass_of_methodNamed Bd.named
  have hnm := (name_of_methodNamed Bd.named Bd.method).1
  have X0 : Stand p l e ({ frames := 2, cells := 0, slots := 0, locals := 32 } : Room) s m #[(.ref a1), (.int (47 : Int32)), (.int p3)] below meth c s₁ [] 0 0 := Stand.of_body Bd
  have e0 : s₁.heap = h0 := by rw [← hh, Bd.state]; rfl
  have N0 := Fr.nil n0
  show OGo p.tables e below (own_Kq s (fun v h L => Q_rm9 Z a1 p3 w vb kb y0 y1 y2 y3 y4 y5 h0 n0 v h L) ({ frames := 2, cells := 0, slots := 0, locals := 32 } : Room).cells ({ frames := 2, cells := 0, slots := 0, locals := 32 } : Room).slots) (s₁.setTop (entryFrame m #[(.ref a1), (.int (47 : Int32)), (.int p3)] 3))
  refine OGo.cast (ef_rm9 m a1 p3) ?_
  show OGo _ _ _ _ (s₁.setTop (mkF m 0 #[.val (.ref a1), .val (.int (47 : Int32)), .val (.int p3)] []))
  refine OGo.via (fun _ k => XS.aloadN X0.here hx rfl (hb hby d9_0) rfl rfl k) ?_
  obtain ⟨cq1, kq1, q1a, q1b, q1c⟩ := isOf hZ e0 E_a1
  obtain ⟨_, T1, Lc1, X1, hQ1, st1⟩ := own_open X0 (X0.virtualBack hx (y := own_y10) (z := own_y10) hown (mvT hZ (own_w hw 43 rfl)) (mvT hZ (own_w hw 44 rfl)) (notFace_of_selects (args := #[]) (mvT hZ (own_w hw 46 rfl))) (mvT hZ (own_w hw 46 rfl)) (mvT hZ (own_w hw 45 rfl)) (by decide) (backOf (W := 0) (rm10 l Z a0 hw [] a1 w vb h0 n0 Z0 E_a1 F_value_a1 F_coder_a1 S_COMPACT_STRINGS hw0) hZ (own_w hw 47 rfl) (own_w hw 7 rfl) (by decide) (by decide)) q1a q1c (g := (mkF m 1 #[.val (.ref a1), .val (.int (47 : Int32)), .val (.int p3)] [(.ref a1)])) rfl (by rw [hml]; rfl) (Steps.refl _) (argsL := []) (rest := []) (lenOf pd_8 rfl) rfl (by show 2 * 0 + _ ≤ _; exact Nat.le_of_eq rfl) (hb hby d9_1) (fun _ _ => ⟨rfl, e0, (by decide : 0 + 0 ≤ _), (by decide : 0 + 0 ≤ _)⟩))
  obtain ⟨rfl, N1q, r1_0⟩ := hQ1
  have N1 := Fr.app N0 N1q
  refine OGo.via (fun _ k => st1.trans k) ?_
  show OGo _ _ _ _ (T1.setTop (mkF m 4 #[.val (.ref a1), .val (.int (47 : Int32)), .val (.int p3)] [(.int (1 : Int32))]))
  refine OGo.via (fun _ k => XS.ifNo X1.here hx rfl (hb hby d9_4) rfl ((if0 _ _).trans (feq (by decide : ¬ ((1 : Int32) = (0 : Int32)))).1) k) ?_
  show OGo _ _ _ _ (T1.setTop (mkF m 7 #[.val (.ref a1), .val (.int (47 : Int32)), .val (.int p3)] []))
  refine OGo.via (fun _ k => XS.aloadN X1.here hx rfl (hb hby d9_7) rfl rfl k) ?_
  obtain ⟨T2, X2, e2, st2⟩ := getF X1 hx hZ hown (host := "") (Or.inl (own_w hw 32 rfl)) Via.refl r1_0 F_value_a1 (g := (mkF m 8 #[.val (.ref a1), .val (.int (47 : Int32)), .val (.int p3)] [(.ref a1)])) rfl rfl (hb hby d9_8)
  refine OGo.via st2 ?_
  show OGo _ _ _ _ (T2.setTop (mkF m 11 #[.val (.ref a1), .val (.int (47 : Int32)), .val (.int p3)] [(.ref vb)]))
  refine OGo.via (fun _ k => XS.iloadN X2.here hx rfl (hb hby d9_11) rfl (XS.iloadN X2.here hx rfl (hb hby d9_12) rfl (XS.aloadN X2.here hx rfl (hb hby d9_13) rfl rfl k))) ?_
  obtain ⟨cq3, kq3, q3a, q3b, q3c⟩ := isOf hZ e2 E_a1
  obtain ⟨_, T3, Lc3, X3, hQ3, st3⟩ := own_open X2 (X2.virtualBack hx (y := own_y9) (z := own_y9) hown (mvT hZ (own_w hw 48 rfl)) (mvT hZ (own_w hw 49 rfl)) (notFace_of_selects (args := #[]) (mvT hZ (own_w hw 51 rfl))) (mvT hZ (own_w hw 51 rfl)) (mvT hZ (own_w hw 50 rfl)) (by decide) (backOf (W := 3) (rm11 l Z a0 hw [] a1 w vb kb [(.int y0), (.int y1), (.int y2), (.int y3), (.int y4), (.int y5)] h0 n0 Z0 E_a1 F_value_a1 F_coder_a1 V_vb S_COMPACT_STRINGS hw0) hZ (own_w hw 52 rfl) (own_w hw 7 rfl) (by decide) (by decide)) q3a q3c (g := (mkF m 14 #[.val (.ref a1), .val (.int (47 : Int32)), .val (.int p3)] [(.ref a1), (.int p3), (.int (47 : Int32)), (.ref vb)])) rfl (by rw [hml]; rfl) (Steps.refl _) (argsL := []) (rest := [(.int p3), (.int (47 : Int32)), (.ref vb)]) (lenOf pd_9 rfl) rfl (by show 2 * 0 + _ ≤ _; exact Nat.le_of_eq rfl) (hb hby d9_14) (fun _ _ => ⟨rfl, e2, (by decide : 0 + 0 ≤ _), (by decide : 0 + 0 ≤ _)⟩))
  obtain ⟨rfl, N3q, r3_0⟩ := hQ3
  have N3 := Fr.app N1 N3q
  refine OGo.via (fun _ k => st3.trans k) ?_
  show OGo _ _ _ _ (T3.setTop (mkF m 17 #[.val (.ref a1), .val (.int (47 : Int32)), .val (.int p3)] [(.int (6 : Int32)), (.int p3), (.int (47 : Int32)), (.ref vb)]))
  obtain ⟨_, T4, Lc4, X4, hQ4, st4⟩ := own_open X3 (Jvm.LawKit.callS X3 hx (y := own_y13) hown (mvT hZ (own_w hw 58 rfl)) (mvT hZ (own_w hw 59 rfl)) (mvT hZ (own_w hw 60 rfl)) (mvT hZ (own_w hw 61 rfl)) (by decide) (backOf (W := 0) (rm13 l Z a0 hw [] vb p3 kb y0 y1 y2 y3 y4 y5 h0 n0 Z0 V_vb hf) hZ (own_w hw 61 rfl) (own_w hw 60 rfl) (by decide) (by decide)) (g := (mkF m 17 #[.val (.ref a1), .val (.int (47 : Int32)), .val (.int p3)] [(.int (6 : Int32)), (.int p3), (.int (47 : Int32)), (.ref vb)])) rfl (by rw [hml]; rfl) (argsL := [(.ref vb), (.int (47 : Int32)), (.int p3), (.int (6 : Int32))]) (rest := []) (lenOf pd_7 rfl) rfl (by show 2 * 0 + _ ≤ _; exact Nat.le_of_eq rfl) (hb hby d9_17) (fun _ _ => ⟨rfl, r3_0, (by decide : 0 + 0 ≤ _), (by decide : 0 + 0 ≤ _)⟩))
  obtain ⟨rfl, N4q, r4_0⟩ := hQ4
  have N4 := Fr.app N3 N4q
  refine OGo.via st4 ?_
  show OGo _ _ _ _ (T4.setTop (mkF m 20 #[.val (.ref a1), .val (.int (47 : Int32)), .val (.int p3)] [(.int (own_ix p3 (own_b y1) (own_b y2) (own_b y3) (own_b y4) (own_b y5)))]))
  refine OGo.via (fun _ k => XS.goto X4.here hx rfl (pc0 := 20) (pc' := 36) rfl (hb hby d9_20) (by decide) (by decide) k) ?_
  show OGo _ _ _ _ (T4.setTop (mkF m 36 #[.val (.ref a1), .val (.int (47 : Int32)), .val (.int p3)] [(.int (own_ix p3 (own_b y1) (own_b y2) (own_b y3) (own_b y4) (own_b y5)))]))
  refine own_retI X4 hx Bd.notSynchronized Bd.returns (hb hby d9_36) (by decide) (by decide) ?_
  show Q_rm9 Z _ _ _ _ _ _ _ _ _ _ _ h0 n0 _ T4.heap _
  exact ⟨rfl, N4, r4_0⟩
theorem own_exit {p : Int32} {j j' : Int32} (h1 : ¬ j < p) (h2 : j' < p) (e : j'.toInt + 1 = j.toInt) : p = j := by
  rw [Int32.lt_iff_toInt_lt] at h1 h2; exact Int32.toInt_inj.mp (by omega)
theorem own_exit0 {p : Int32} (h1 : ¬ (0 : Int32) < p) (h2 : ¬ p < 0) : p = 0 := by
  rw [Int32.lt_iff_toInt_lt] at h1 h2; exact Int32.toInt_inj.mp (by omega)
theorem d8_0 : decode prog_19_method_4_code 0 = .ok (.iconst 0, 1) := by decide +kernel
theorem d8_1 : decode prog_19_method_4_code 1 = .ok (.istore_n 2, 1) := by decide +kernel
theorem d8_2 : decode prog_19_method_4_code 2 = .ok (.iconst 0, 1) := by decide +kernel
theorem d8_3 : decode prog_19_method_4_code 3 = .ok (.istore_n 3, 1) := by decide +kernel
theorem d8_4 : decode prog_19_method_4_code 4 = .ok (.iload_n 3, 1) := by decide +kernel
theorem d8_5 : decode prog_19_method_4_code 5 = .ok (.iload_n 1, 1) := by decide +kernel
theorem d8_6 : decode prog_19_method_4_code 6 = .ok (.if_icmp .ge 35, 3) := by decide +kernel
theorem d8_9 : decode prog_19_method_4_code 9 = .ok (.aload_n 0, 1) := by decide +kernel
theorem d8_10 : decode prog_19_method_4_code 10 = .ok (.bipush 47, 2) := by decide +kernel
theorem d8_12 : decode prog_19_method_4_code 12 = .ok (.iload_n 2, 1) := by decide +kernel
theorem d8_13 : decode prog_19_method_4_code 13 = .ok (.iconst 1, 1) := by decide +kernel
theorem d8_14 : decode prog_19_method_4_code 14 = .ok (.iadd, 1) := by decide +kernel
theorem d8_15 : decode prog_19_method_4_code 15 = .ok (.invokevirtual 72, 3) := by decide +kernel
theorem d8_18 : decode prog_19_method_4_code 18 = .ok (.istore 4, 2) := by decide +kernel
theorem d8_20 : decode prog_19_method_4_code 20 = .ok (.iload 4, 2) := by decide +kernel
theorem d8_22 : decode prog_19_method_4_code 22 = .ok (.ifCond .ge 10, 3) := by decide +kernel
theorem d8_25 : decode prog_19_method_4_code 25 = .ok (.aload_n 0, 1) := by decide +kernel
theorem d8_26 : decode prog_19_method_4_code 26 = .ok (.invokevirtual 76, 3) := by decide +kernel
theorem d8_29 : decode prog_19_method_4_code 29 = .ok (.goto 5, 3) := by decide +kernel
theorem d8_32 : decode prog_19_method_4_code 32 = .ok (.iload 4, 2) := by decide +kernel
theorem d8_34 : decode prog_19_method_4_code 34 = .ok (.istore_n 2, 1) := by decide +kernel
theorem d8_35 : decode prog_19_method_4_code 35 = .ok (.iinc 3 1, 3) := by decide +kernel
theorem d8_38 : decode prog_19_method_4_code 38 = .ok (.goto (-34), 3) := by decide +kernel
theorem d8_41 : decode prog_19_method_4_code 41 = .ok (.iload_n 2, 1) := by decide +kernel
theorem d8_42 : decode prog_19_method_4_code 42 = .ok (.ireturn, 1) := by decide +kernel
theorem pn_ResourcePaths : plainName "com/example/ianus/ianus/server/ResourcePaths" = true := by first | (simp [plainName, overriddenIn]; done) | decide +kernel
theorem ef_rm8 (m : MethodId) (a1 : Addr) (p2 : Int32) : entryFrame m #[(.ref a1), (.int p2)] 5 = mkF m 0 #[.val (.ref a1), .val (.int p2), .unset, .unset, .unset] [] := by first | (simp [entryFrame, mkF, argsToLocals, Value.category]; done) | rfl
def Q_rm8 (Z : State) (a1 : Addr) (p2 : Int32) (w : Int32) (vb : Addr) (kb : ClassId) (y0 : Int32) (y1 : Int32) (y2 : Int32) (y3 : Int32) (y4 : Int32) (y5 : Int32) (h0 : Heap) (n0 : Nat) (v : Option Value) (h : Heap) (L : List Loc) : Prop := v = some (.int (own_be p2 (own_b y1) (own_b y2) (own_b y3) (own_b y4) (own_b y5))) ∧ Fr n0 L ∧ h = h0
set_option maxRecDepth 65536 in
set_option maxHeartbeats 40000000 in
theorem rm8 (l : Launch) (Z : State) (a0 : Array Value) (hw : ∀ d ∈ tables_1, d.before a0 Z = true) (ws : List Jvm.Cond) (a1 : Addr) (p2 : Int32) (w : Int32) (vb : Addr) (kb : ClassId) (y0 : Int32) (y1 : Int32) (y2 : Int32) (y3 : Int32) (y4 : Int32) (y5 : Int32) (h0 : Heap) (n0 : Nat) (Z0 : n0 ≤ h0.size) (E_a1 : Exa Z h0 a1 "java/lang/String") (F_value_a1 : Fld Z h0 a1 "java/lang/String" "value" "[B" (.ref vb)) (F_coder_a1 : Fld Z h0 a1 "java/lang/String" "coder" "B" (.int (0 : Int32))) (V_vb : Arv Z h0 vb kb .byte (6 : Int32) [(.int y0), (.int y1), (.int y2), (.int y3), (.int y4), (.int y5)] (.int (0 : Int32))) (S_COMPACT_STRINGS : Sta Z h0 "java/lang/String" "COMPACT_STRINGS" "Z" (.int w)) (hw0 : ¬ w = (0 : Int32)) (hp7 : ¬ (7 : Int32) < p2) (hp0 : ¬ p2 < (0 : Int32)) :
    MetFree l own_y15 (head1 (Jvm.Cond.code own_y15 prog_19_method_4_code 5 (some .int) :: ws) ({ frames := 3, cells := 0, slots := 0, locals := 46 } : Room)) (fun a U => a = #[(.ref a1), (.int p2)] ∧ Z.Warmed39 U.vm ∧ U.heap = h0) (fun _ _ _ _ _ => True) (fun _ U o U' => ∃ v L, o = .returned v ∧ Q_rm8 Z a1 p2 w vb kb y0 y1 y2 y3 y4 y5 h0 n0 v U'.heap L ∧ FrameEnd U o U' L ({ frames := 3, cells := 0, slots := 0, locals := 46 } : Room).cells ({ frames := 3, cells := 0, slots := 0, locals := 46 } : Room).slots) := by
  refine MetFree.of_bodySF (plainFor_of_name pn_ResourcePaths) hisR ?_
  intro p e s m args below meth c s₁ Bd hml0 hP hK
  obtain ⟨rfl, hZ, hh⟩ := hP
  have hx := Bd.exec
  have hby := Bd.bytes
  have hml : c.maxLocals = 5 := hml0
  have hown : s.vm.findClass "com/example/ianus/ianus/server/ResourcePaths" = some m.cls := findClass_of_methodNamed Bd.named
  have hnm := (name_of_methodNamed Bd.named Bd.method).1
  have X0 : Stand p l e ({ frames := 3, cells := 0, slots := 0, locals := 46 } : Room) s m #[(.ref a1), (.int p2)] below meth c s₁ [] 0 0 := Stand.of_body Bd
  have e0 : s₁.heap = h0 := by rw [← hh, Bd.state]; rfl
  have N0 := Fr.nil n0
  show OGo p.tables e below (own_Kq s (fun v h L => Q_rm8 Z a1 p2 w vb kb y0 y1 y2 y3 y4 y5 h0 n0 v h L) ({ frames := 3, cells := 0, slots := 0, locals := 46 } : Room).cells ({ frames := 3, cells := 0, slots := 0, locals := 46 } : Room).slots) (s₁.setTop (entryFrame m #[(.ref a1), (.int p2)] 5))
  refine OGo.cast (ef_rm8 m a1 p2) ?_
  show OGo _ _ _ _ (s₁.setTop (mkF m 0 #[.val (.ref a1), .val (.int p2), .unset, .unset, .unset] []))
  refine OGo.via (fun _ k => XS.iconst X0.here hx rfl (hb hby d8_0) (XS.istoreN X0.here hx rfl (hb hby d8_1) rfl (l' := #[.val (.ref a1), .val (.int p2), .val (.int (0 : Int32)), .unset, .unset]) rfl (XS.iconst X0.here hx rfl (hb hby d8_2) (XS.istoreN X0.here hx rfl (hb hby d8_3) rfl (l' := #[.val (.ref a1), .val (.int p2), .val (.int (0 : Int32)), .val (.int (0 : Int32)), .unset]) rfl k)))) ?_
  have hq1 : (0 : Int32) = (own_be (0 : Int32) (own_b y1) (own_b y2) (own_b y3) (own_b y4) (own_b y5)) := by rw [own_be, if_pos rfl]
  refine OGo.cast (g' := (mkF m 4 #[.val (.ref a1), .val (.int p2), .val (.int (own_be (0 : Int32) (own_b y1) (own_b y2) (own_b y3) (own_b y4) (own_b y5))), .val (.int (0 : Int32)), .unset] [])) (by rw [← hq1]) ?_
  show OGo _ _ _ _ (s₁.setTop (mkF m 4 #[.val (.ref a1), .val (.int p2), .val (.int (own_be (0 : Int32) (own_b y1) (own_b y2) (own_b y3) (own_b y4) (own_b y5))), .val (.int (0 : Int32)), .unset] []))
  refine OGo.via (fun _ k => XS.iloadN X0.here hx rfl (hb hby d8_4) rfl (XS.iloadN X0.here hx rfl (hb hby d8_5) rfl k)) ?_
  by_cases hl0 : (0 : Int32) < p2
  · refine OGo.via (fun _ k => XS.icmpNo X0.here hx rfl (hb hby d8_6) rfl (tlt hl0).2.1 k) ?_
    show OGo _ _ _ _ (s₁.setTop (mkF m 9 #[.val (.ref a1), .val (.int p2), .val (.int (own_be (0 : Int32) (own_b y1) (own_b y2) (own_b y3) (own_b y4) (own_b y5))), .val (.int (0 : Int32)), .unset] []))
    refine OGo.via (fun _ k => XS.aloadN X0.here hx rfl (hb hby d8_9) rfl rfl (XS.bipush X0.here hx rfl (hb hby d8_10) (XS.iloadN X0.here hx rfl (hb hby d8_12) rfl (XS.iconst X0.here hx rfl (hb hby d8_13) (XS.iadd X0.here hx rfl (hb hby d8_14) rfl k))))) ?_
    obtain ⟨cq2, kq2, q2a, q2b, q2c⟩ := isOf hZ e0 E_a1
    obtain ⟨_, T2, Lc2, X2, hQ2, st2⟩ := own_open X0 (X0.virtualBack hx (y := own_y14) (z := own_y14) hown (mvT hZ (own_w hw 38 rfl)) (mvT hZ (own_w hw 39 rfl)) (notFace_of_selects (args := #[]) (mvT hZ (own_w hw 41 rfl))) (mvT hZ (own_w hw 41 rfl)) (mvT hZ (own_w hw 40 rfl)) (by decide) (backOf (W := 0) (rm9 l Z a0 hw [] a1 ((own_be (0 : Int32) (own_b y1) (own_b y2) (own_b y3) (own_b y4) (own_b y5)) + (1 : Int32)) w vb kb y0 y1 y2 y3 y4 y5 h0 n0 Z0 E_a1 F_value_a1 F_coder_a1 V_vb S_COMPACT_STRINGS hw0 (own_rg y1 y2 y3 y4 y5 0)) hZ (own_w hw 42 rfl) (own_w hw 7 rfl) (by decide) (by decide)) q2a q2c (g := (mkF m 15 #[.val (.ref a1), .val (.int p2), .val (.int (own_be (0 : Int32) (own_b y1) (own_b y2) (own_b y3) (own_b y4) (own_b y5))), .val (.int (0 : Int32)), .unset] [(.int ((own_be (0 : Int32) (own_b y1) (own_b y2) (own_b y3) (own_b y4) (own_b y5)) + (1 : Int32))), (.int (47 : Int32)), (.ref a1)])) rfl (by rw [hml]; rfl) (Steps.refl _) (argsL := [(.int (47 : Int32)), (.int ((own_be (0 : Int32) (own_b y1) (own_b y2) (own_b y3) (own_b y4) (own_b y5)) + (1 : Int32)))]) (rest := []) (lenOf pd_6 rfl) rfl (by show 2 * 0 + _ ≤ _; exact Nat.le_of_eq rfl) (hb hby d8_15) (fun _ _ => ⟨rfl, e0, (by decide : 0 + 0 ≤ _), (by decide : 0 + 0 ≤ _)⟩))
    obtain ⟨rfl, N2q, r2_0⟩ := hQ2
    have N2 := Fr.app N0 N2q
    refine OGo.via (fun _ k => st2.trans k) ?_
    show OGo _ _ _ _ (T2.setTop (mkF m 18 #[.val (.ref a1), .val (.int p2), .val (.int (own_be (0 : Int32) (own_b y1) (own_b y2) (own_b y3) (own_b y4) (own_b y5))), .val (.int (0 : Int32)), .unset] [(.int (own_ix ((own_be (0 : Int32) (own_b y1) (own_b y2) (own_b y3) (own_b y4) (own_b y5)) + (1 : Int32)) (own_b y1) (own_b y2) (own_b y3) (own_b y4) (own_b y5)))]))
    refine OGo.via (fun _ k => XS.istore X2.here hx rfl (hb hby d8_18) rfl (l' := #[.val (.ref a1), .val (.int p2), .val (.int (own_be (0 : Int32) (own_b y1) (own_b y2) (own_b y3) (own_b y4) (own_b y5))), .val (.int (0 : Int32)), .val (.int (own_ix ((own_be (0 : Int32) (own_b y1) (own_b y2) (own_b y3) (own_b y4) (own_b y5)) + (1 : Int32)) (own_b y1) (own_b y2) (own_b y3) (own_b y4) (own_b y5)))]) rfl (XS.iload X2.here hx rfl (hb hby d8_20) rfl k)) ?_
    have jn3 : OJn p.tables e below (fun T' (en1 : Int32) => own_St X2 n0 T' ∧ T'.heap = h0 ∧ (en1 = own_nx (own_be (0 : Int32) (own_b y1) (own_b y2) (own_b y3) (own_b y4) (own_b y5)) (own_b y1) (own_b y2) (own_b y3) (own_b y4) (own_b y5))) (fun en1 => (mkF m 34 #[.val (.ref a1), .val (.int p2), .val (.int (own_be (0 : Int32) (own_b y1) (own_b y2) (own_b y3) (own_b y4) (own_b y5))), .val (.int (0 : Int32)), .val (.int (own_ix ((own_be (0 : Int32) (own_b y1) (own_b y2) (own_b y3) (own_b y4) (own_b y5)) + (1 : Int32)) (own_b y1) (own_b y2) (own_b y3) (own_b y4) (own_b y5)))] [(.int en1)])) (T2.setTop (mkF m 22 #[.val (.ref a1), .val (.int p2), .val (.int (own_be (0 : Int32) (own_b y1) (own_b y2) (own_b y3) (own_b y4) (own_b y5))), .val (.int (0 : Int32)), .val (.int (own_ix ((own_be (0 : Int32) (own_b y1) (own_b y2) (own_b y3) (own_b y4) (own_b y5)) + (1 : Int32)) (own_b y1) (own_b y2) (own_b y3) (own_b y4) (own_b y5)))] [(.int (own_ix ((own_be (0 : Int32) (own_b y1) (own_b y2) (own_b y3) (own_b y4) (own_b y5)) + (1 : Int32)) (own_b y1) (own_b y2) (own_b y3) (own_b y4) (own_b y5)))])) := by
      by_cases hc22_4 : (own_ix ((own_be (0 : Int32) (own_b y1) (own_b y2) (own_b y3) (own_b y4) (own_b y5)) + (1 : Int32)) (own_b y1) (own_b y2) (own_b y3) (own_b y4) (own_b y5)) < (0 : Int32)
      · refine OJn.via (fun _ k => XS.ifNo X2.here hx rfl (hb hby d8_22) rfl ((if0 _ _).trans (tlt hc22_4).2.1) k) ?_
        show OJn _ _ _ _ _ (T2.setTop (mkF m 25 #[.val (.ref a1), .val (.int p2), .val (.int (own_be (0 : Int32) (own_b y1) (own_b y2) (own_b y3) (own_b y4) (own_b y5))), .val (.int (0 : Int32)), .val (.int (own_ix ((own_be (0 : Int32) (own_b y1) (own_b y2) (own_b y3) (own_b y4) (own_b y5)) + (1 : Int32)) (own_b y1) (own_b y2) (own_b y3) (own_b y4) (own_b y5)))] []))
        refine OJn.via (fun _ k => XS.aloadN X2.here hx rfl (hb hby d8_25) rfl rfl k) ?_
        obtain ⟨cq5, kq5, q5a, q5b, q5c⟩ := isOf hZ r2_0 E_a1
        obtain ⟨_, T5, Lc5, X5, hQ5, st5⟩ := own_open X2 (X2.virtualBack hx (y := own_y9) (z := own_y9) hown (mvT hZ (own_w hw 75 rfl)) (mvT hZ (own_w hw 49 rfl)) (notFace_of_selects (args := #[]) (mvT hZ (own_w hw 51 rfl))) (mvT hZ (own_w hw 51 rfl)) (mvT hZ (own_w hw 50 rfl)) (by decide) (backOf (W := 0) (rm11 l Z a0 hw [] a1 w vb kb [(.int y0), (.int y1), (.int y2), (.int y3), (.int y4), (.int y5)] h0 n0 Z0 E_a1 F_value_a1 F_coder_a1 V_vb S_COMPACT_STRINGS hw0) hZ (own_w hw 52 rfl) (own_w hw 7 rfl) (by decide) (by decide)) q5a q5c (g := (mkF m 26 #[.val (.ref a1), .val (.int p2), .val (.int (own_be (0 : Int32) (own_b y1) (own_b y2) (own_b y3) (own_b y4) (own_b y5))), .val (.int (0 : Int32)), .val (.int (own_ix ((own_be (0 : Int32) (own_b y1) (own_b y2) (own_b y3) (own_b y4) (own_b y5)) + (1 : Int32)) (own_b y1) (own_b y2) (own_b y3) (own_b y4) (own_b y5)))] [(.ref a1)])) rfl (by rw [hml]; rfl) (Steps.refl _) (argsL := []) (rest := []) (lenOf pd_9 rfl) rfl (by show 2 * 0 + _ ≤ _; exact Nat.le_of_eq rfl) (hb hby d8_26) (fun _ _ => ⟨rfl, r2_0, (by decide : 0 + 0 ≤ _), (by decide : 0 + 0 ≤ _)⟩))
        obtain ⟨rfl, N5q, r5_0⟩ := hQ5
        have N5 := Fr.app N2 N5q
        refine OJn.via (fun _ k => st5.trans k) ?_
        show OJn _ _ _ _ _ (T5.setTop (mkF m 29 #[.val (.ref a1), .val (.int p2), .val (.int (own_be (0 : Int32) (own_b y1) (own_b y2) (own_b y3) (own_b y4) (own_b y5))), .val (.int (0 : Int32)), .val (.int (own_ix ((own_be (0 : Int32) (own_b y1) (own_b y2) (own_b y3) (own_b y4) (own_b y5)) + (1 : Int32)) (own_b y1) (own_b y2) (own_b y3) (own_b y4) (own_b y5)))] [(.int (6 : Int32))]))
        refine OJn.via (fun _ k => XS.goto X5.here hx rfl (pc0 := 29) (pc' := 34) rfl (hb hby d8_29) (by decide) (by decide) k) ?_
        show OJn _ _ _ _ _ (T5.setTop (mkF m 34 #[.val (.ref a1), .val (.int p2), .val (.int (own_be (0 : Int32) (own_b y1) (own_b y2) (own_b y3) (own_b y4) (own_b y5))), .val (.int (0 : Int32)), .val (.int (own_ix ((own_be (0 : Int32) (own_b y1) (own_b y2) (own_b y3) (own_b y4) (own_b y5)) + (1 : Int32)) (own_b y1) (own_b y2) (own_b y3) (own_b y4) (own_b y5)))] [(.int (6 : Int32))]))
        exact ⟨_, (6 : Int32), ⟨⟨_, X5, N5⟩, r5_0, (by rw [own_nx, if_pos hc22_4])⟩, fun _ k => k⟩
      · refine OJn.via (fun _ k => XS.ifYes X2.here hx rfl (pc0 := 22) (pc' := 32) rfl (hb hby d8_22) rfl ((if0 _ _).trans (flt hc22_4).2.1) (by decide) (by decide) k) ?_
        show OJn _ _ _ _ _ (T2.setTop (mkF m 32 #[.val (.ref a1), .val (.int p2), .val (.int (own_be (0 : Int32) (own_b y1) (own_b y2) (own_b y3) (own_b y4) (own_b y5))), .val (.int (0 : Int32)), .val (.int (own_ix ((own_be (0 : Int32) (own_b y1) (own_b y2) (own_b y3) (own_b y4) (own_b y5)) + (1 : Int32)) (own_b y1) (own_b y2) (own_b y3) (own_b y4) (own_b y5)))] []))
        refine OJn.via (fun _ k => XS.iload X2.here hx rfl (hb hby d8_32) rfl k) ?_
        show OJn _ _ _ _ _ (T2.setTop (mkF m 34 #[.val (.ref a1), .val (.int p2), .val (.int (own_be (0 : Int32) (own_b y1) (own_b y2) (own_b y3) (own_b y4) (own_b y5))), .val (.int (0 : Int32)), .val (.int (own_ix ((own_be (0 : Int32) (own_b y1) (own_b y2) (own_b y3) (own_b y4) (own_b y5)) + (1 : Int32)) (own_b y1) (own_b y2) (own_b y3) (own_b y4) (own_b y5)))] [(.int (own_ix ((own_be (0 : Int32) (own_b y1) (own_b y2) (own_b y3) (own_b y4) (own_b y5)) + (1 : Int32)) (own_b y1) (own_b y2) (own_b y3) (own_b y4) (own_b y5)))]))
        exact ⟨_, (own_ix ((own_be (0 : Int32) (own_b y1) (own_b y2) (own_b y3) (own_b y4) (own_b y5)) + (1 : Int32)) (own_b y1) (own_b y2) (own_b y3) (own_b y4) (own_b y5)), ⟨⟨_, X2, N2⟩, r2_0, (by rw [own_nx, if_neg hc22_4])⟩, fun _ k => k⟩
    obtain ⟨T3, en1, ⟨⟨locs3, X3, N3⟩, e3, hj3⟩, st3⟩ := jn3
    refine OGo.via st3 ?_
    show OGo _ _ _ _ (T3.setTop (mkF m 34 #[.val (.ref a1), .val (.int p2), .val (.int (own_be (0 : Int32) (own_b y1) (own_b y2) (own_b y3) (own_b y4) (own_b y5))), .val (.int (0 : Int32)), .val (.int (own_ix ((own_be (0 : Int32) (own_b y1) (own_b y2) (own_b y3) (own_b y4) (own_b y5)) + (1 : Int32)) (own_b y1) (own_b y2) (own_b y3) (own_b y4) (own_b y5)))] [(.int en1)]))
    have he1 : en1 = (own_be (1 : Int32) (own_b y1) (own_b y2) (own_b y3) (own_b y4) (own_b y5)) := by rw [hj3]; exact own_stp y1 y2 y3 y4 y5 0
    rw [he1]
    show OGo _ _ _ _ (T3.setTop (mkF m 34 #[.val (.ref a1), .val (.int p2), .val (.int (own_be (0 : Int32) (own_b y1) (own_b y2) (own_b y3) (own_b y4) (own_b y5))), .val (.int (0 : Int32)), .val (.int (own_ix ((own_be (0 : Int32) (own_b y1) (own_b y2) (own_b y3) (own_b y4) (own_b y5)) + (1 : Int32)) (own_b y1) (own_b y2) (own_b y3) (own_b y4) (own_b y5)))] [(.int (own_be (1 : Int32) (own_b y1) (own_b y2) (own_b y3) (own_b y4) (own_b y5)))]))
    refine OGo.via (fun _ k => XS.istoreN X3.here hx rfl (hb hby d8_34) rfl (l' := #[.val (.ref a1), .val (.int p2), .val (.int (own_be (1 : Int32) (own_b y1) (own_b y2) (own_b y3) (own_b y4) (own_b y5))), .val (.int (0 : Int32)), .val (.int (own_ix ((own_be (0 : Int32) (own_b y1) (own_b y2) (own_b y3) (own_b y4) (own_b y5)) + (1 : Int32)) (own_b y1) (own_b y2) (own_b y3) (own_b y4) (own_b y5)))]) rfl (XS.iinc X3.here hx rfl (hb hby d8_35) rfl (l' := #[.val (.ref a1), .val (.int p2), .val (.int (own_be (1 : Int32) (own_b y1) (own_b y2) (own_b y3) (own_b y4) (own_b y5))), .val (.int ((0 : Int32) + (1 : Int32))), .val (.int (own_ix ((own_be (0 : Int32) (own_b y1) (own_b y2) (own_b y3) (own_b y4) (own_b y5)) + (1 : Int32)) (own_b y1) (own_b y2) (own_b y3) (own_b y4) (own_b y5)))]) rfl k)) ?_
    show OGo _ _ _ _ (T3.setTop (mkF m 38 #[.val (.ref a1), .val (.int p2), .val (.int (own_be (1 : Int32) (own_b y1) (own_b y2) (own_b y3) (own_b y4) (own_b y5))), .val (.int ((0 : Int32) + (1 : Int32))), .val (.int (own_ix ((own_be (0 : Int32) (own_b y1) (own_b y2) (own_b y3) (own_b y4) (own_b y5)) + (1 : Int32)) (own_b y1) (own_b y2) (own_b y3) (own_b y4) (own_b y5)))] []))
    rw [show ((0 : Int32) + (1 : Int32)) = (1 : Int32) from by decide]
    refine OGo.via (fun _ k => XS.goto X3.here hx rfl (pc0 := 38) (pc' := 4) rfl (hb hby d8_38) (by decide) (by decide) k) ?_
    refine OGo.via (fun _ k => XS.iloadN X3.here hx rfl (hb hby d8_4) rfl (XS.iloadN X3.here hx rfl (hb hby d8_5) rfl k)) ?_
    by_cases hl1 : (1 : Int32) < p2
    · refine OGo.via (fun _ k => XS.icmpNo X3.here hx rfl (hb hby d8_6) rfl (tlt hl1).2.1 k) ?_
      show OGo _ _ _ _ (T3.setTop (mkF m 9 #[.val (.ref a1), .val (.int p2), .val (.int (own_be (1 : Int32) (own_b y1) (own_b y2) (own_b y3) (own_b y4) (own_b y5))), .val (.int (1 : Int32)), .val (.int (own_ix ((own_be (0 : Int32) (own_b y1) (own_b y2) (own_b y3) (own_b y4) (own_b y5)) + (1 : Int32)) (own_b y1) (own_b y2) (own_b y3) (own_b y4) (own_b y5)))] []))
      refine OGo.via (fun _ k => XS.aloadN X3.here hx rfl (hb hby d8_9) rfl rfl (XS.bipush X3.here hx rfl (hb hby d8_10) (XS.iloadN X3.here hx rfl (hb hby d8_12) rfl (XS.iconst X3.here hx rfl (hb hby d8_13) (XS.iadd X3.here hx rfl (hb hby d8_14) rfl k))))) ?_
      obtain ⟨cq7, kq7, q7a, q7b, q7c⟩ := isOf hZ e3 E_a1
      obtain ⟨_, T7, Lc7, X7, hQ7, st7⟩ := own_open X3 (X3.virtualBack hx (y := own_y14) (z := own_y14) hown (mvT hZ (own_w hw 38 rfl)) (mvT hZ (own_w hw 39 rfl)) (notFace_of_selects (args := #[]) (mvT hZ (own_w hw 41 rfl))) (mvT hZ (own_w hw 41 rfl)) (mvT hZ (own_w hw 40 rfl)) (by decide) (backOf (W := 0) (rm9 l Z a0 hw [] a1 ((own_be (1 : Int32) (own_b y1) (own_b y2) (own_b y3) (own_b y4) (own_b y5)) + (1 : Int32)) w vb kb y0 y1 y2 y3 y4 y5 h0 n0 Z0 E_a1 F_value_a1 F_coder_a1 V_vb S_COMPACT_STRINGS hw0 (own_rg y1 y2 y3 y4 y5 1)) hZ (own_w hw 42 rfl) (own_w hw 7 rfl) (by decide) (by decide)) q7a q7c (g := (mkF m 15 #[.val (.ref a1), .val (.int p2), .val (.int (own_be (1 : Int32) (own_b y1) (own_b y2) (own_b y3) (own_b y4) (own_b y5))), .val (.int (1 : Int32)), .val (.int (own_ix ((own_be (0 : Int32) (own_b y1) (own_b y2) (own_b y3) (own_b y4) (own_b y5)) + (1 : Int32)) (own_b y1) (own_b y2) (own_b y3) (own_b y4) (own_b y5)))] [(.int ((own_be (1 : Int32) (own_b y1) (own_b y2) (own_b y3) (own_b y4) (own_b y5)) + (1 : Int32))), (.int (47 : Int32)), (.ref a1)])) rfl (by rw [hml]; rfl) (Steps.refl _) (argsL := [(.int (47 : Int32)), (.int ((own_be (1 : Int32) (own_b y1) (own_b y2) (own_b y3) (own_b y4) (own_b y5)) + (1 : Int32)))]) (rest := []) (lenOf pd_6 rfl) rfl (by show 2 * 0 + _ ≤ _; exact Nat.le_of_eq rfl) (hb hby d8_15) (fun _ _ => ⟨rfl, e3, (by decide : 0 + 0 ≤ _), (by decide : 0 + 0 ≤ _)⟩))
      obtain ⟨rfl, N7q, r7_0⟩ := hQ7
      have N7 := Fr.app N3 N7q
      refine OGo.via (fun _ k => st7.trans k) ?_
      show OGo _ _ _ _ (T7.setTop (mkF m 18 #[.val (.ref a1), .val (.int p2), .val (.int (own_be (1 : Int32) (own_b y1) (own_b y2) (own_b y3) (own_b y4) (own_b y5))), .val (.int (1 : Int32)), .val (.int (own_ix ((own_be (0 : Int32) (own_b y1) (own_b y2) (own_b y3) (own_b y4) (own_b y5)) + (1 : Int32)) (own_b y1) (own_b y2) (own_b y3) (own_b y4) (own_b y5)))] [(.int (own_ix ((own_be (1 : Int32) (own_b y1) (own_b y2) (own_b y3) (own_b y4) (own_b y5)) + (1 : Int32)) (own_b y1) (own_b y2) (own_b y3) (own_b y4) (own_b y5)))]))
      refine OGo.via (fun _ k => XS.istore X7.here hx rfl (hb hby d8_18) rfl (l' := #[.val (.ref a1), .val (.int p2), .val (.int (own_be (1 : Int32) (own_b y1) (own_b y2) (own_b y3) (own_b y4) (own_b y5))), .val (.int (1 : Int32)), .val (.int (own_ix ((own_be (1 : Int32) (own_b y1) (own_b y2) (own_b y3) (own_b y4) (own_b y5)) + (1 : Int32)) (own_b y1) (own_b y2) (own_b y3) (own_b y4) (own_b y5)))]) rfl (XS.iload X7.here hx rfl (hb hby d8_20) rfl k)) ?_
      have jn8 : OJn p.tables e below (fun T' (en2 : Int32) => own_St X7 n0 T' ∧ T'.heap = h0 ∧ (en2 = own_nx (own_be (1 : Int32) (own_b y1) (own_b y2) (own_b y3) (own_b y4) (own_b y5)) (own_b y1) (own_b y2) (own_b y3) (own_b y4) (own_b y5))) (fun en2 => (mkF m 34 #[.val (.ref a1), .val (.int p2), .val (.int (own_be (1 : Int32) (own_b y1) (own_b y2) (own_b y3) (own_b y4) (own_b y5))), .val (.int (1 : Int32)), .val (.int (own_ix ((own_be (1 : Int32) (own_b y1) (own_b y2) (own_b y3) (own_b y4) (own_b y5)) + (1 : Int32)) (own_b y1) (own_b y2) (own_b y3) (own_b y4) (own_b y5)))] [(.int en2)])) (T7.setTop (mkF m 22 #[.val (.ref a1), .val (.int p2), .val (.int (own_be (1 : Int32) (own_b y1) (own_b y2) (own_b y3) (own_b y4) (own_b y5))), .val (.int (1 : Int32)), .val (.int (own_ix ((own_be (1 : Int32) (own_b y1) (own_b y2) (own_b y3) (own_b y4) (own_b y5)) + (1 : Int32)) (own_b y1) (own_b y2) (own_b y3) (own_b y4) (own_b y5)))] [(.int (own_ix ((own_be (1 : Int32) (own_b y1) (own_b y2) (own_b y3) (own_b y4) (own_b y5)) + (1 : Int32)) (own_b y1) (own_b y2) (own_b y3) (own_b y4) (own_b y5)))])) := by
        by_cases hc22_9 : (own_ix ((own_be (1 : Int32) (own_b y1) (own_b y2) (own_b y3) (own_b y4) (own_b y5)) + (1 : Int32)) (own_b y1) (own_b y2) (own_b y3) (own_b y4) (own_b y5)) < (0 : Int32)
        · refine OJn.via (fun _ k => XS.ifNo X7.here hx rfl (hb hby d8_22) rfl ((if0 _ _).trans (tlt hc22_9).2.1) k) ?_
          show OJn _ _ _ _ _ (T7.setTop (mkF m 25 #[.val (.ref a1), .val (.int p2), .val (.int (own_be (1 : Int32) (own_b y1) (own_b y2) (own_b y3) (own_b y4) (own_b y5))), .val (.int (1 : Int32)), .val (.int (own_ix ((own_be (1 : Int32) (own_b y1) (own_b y2) (own_b y3) (own_b y4) (own_b y5)) + (1 : Int32)) (own_b y1) (own_b y2) (own_b y3) (own_b y4) (own_b y5)))] []))
          refine OJn.via (fun _ k => XS.aloadN X7.here hx rfl (hb hby d8_25) rfl rfl k) ?_
          obtain ⟨cq10, kq10, q10a, q10b, q10c⟩ := isOf hZ r7_0 E_a1
          obtain ⟨_, T10, Lc10, X10, hQ10, st10⟩ := own_open X7 (X7.virtualBack hx (y := own_y9) (z := own_y9) hown (mvT hZ (own_w hw 75 rfl)) (mvT hZ (own_w hw 49 rfl)) (notFace_of_selects (args := #[]) (mvT hZ (own_w hw 51 rfl))) (mvT hZ (own_w hw 51 rfl)) (mvT hZ (own_w hw 50 rfl)) (by decide) (backOf (W := 0) (rm11 l Z a0 hw [] a1 w vb kb [(.int y0), (.int y1), (.int y2), (.int y3), (.int y4), (.int y5)] h0 n0 Z0 E_a1 F_value_a1 F_coder_a1 V_vb S_COMPACT_STRINGS hw0) hZ (own_w hw 52 rfl) (own_w hw 7 rfl) (by decide) (by decide)) q10a q10c (g := (mkF m 26 #[.val (.ref a1), .val (.int p2), .val (.int (own_be (1 : Int32) (own_b y1) (own_b y2) (own_b y3) (own_b y4) (own_b y5))), .val (.int (1 : Int32)), .val (.int (own_ix ((own_be (1 : Int32) (own_b y1) (own_b y2) (own_b y3) (own_b y4) (own_b y5)) + (1 : Int32)) (own_b y1) (own_b y2) (own_b y3) (own_b y4) (own_b y5)))] [(.ref a1)])) rfl (by rw [hml]; rfl) (Steps.refl _) (argsL := []) (rest := []) (lenOf pd_9 rfl) rfl (by show 2 * 0 + _ ≤ _; exact Nat.le_of_eq rfl) (hb hby d8_26) (fun _ _ => ⟨rfl, r7_0, (by decide : 0 + 0 ≤ _), (by decide : 0 + 0 ≤ _)⟩))
          obtain ⟨rfl, N10q, r10_0⟩ := hQ10
          have N10 := Fr.app N7 N10q
          refine OJn.via (fun _ k => st10.trans k) ?_
          show OJn _ _ _ _ _ (T10.setTop (mkF m 29 #[.val (.ref a1), .val (.int p2), .val (.int (own_be (1 : Int32) (own_b y1) (own_b y2) (own_b y3) (own_b y4) (own_b y5))), .val (.int (1 : Int32)), .val (.int (own_ix ((own_be (1 : Int32) (own_b y1) (own_b y2) (own_b y3) (own_b y4) (own_b y5)) + (1 : Int32)) (own_b y1) (own_b y2) (own_b y3) (own_b y4) (own_b y5)))] [(.int (6 : Int32))]))
          refine OJn.via (fun _ k => XS.goto X10.here hx rfl (pc0 := 29) (pc' := 34) rfl (hb hby d8_29) (by decide) (by decide) k) ?_
          show OJn _ _ _ _ _ (T10.setTop (mkF m 34 #[.val (.ref a1), .val (.int p2), .val (.int (own_be (1 : Int32) (own_b y1) (own_b y2) (own_b y3) (own_b y4) (own_b y5))), .val (.int (1 : Int32)), .val (.int (own_ix ((own_be (1 : Int32) (own_b y1) (own_b y2) (own_b y3) (own_b y4) (own_b y5)) + (1 : Int32)) (own_b y1) (own_b y2) (own_b y3) (own_b y4) (own_b y5)))] [(.int (6 : Int32))]))
          exact ⟨_, (6 : Int32), ⟨⟨_, X10, N10⟩, r10_0, (by rw [own_nx, if_pos hc22_9])⟩, fun _ k => k⟩
        · refine OJn.via (fun _ k => XS.ifYes X7.here hx rfl (pc0 := 22) (pc' := 32) rfl (hb hby d8_22) rfl ((if0 _ _).trans (flt hc22_9).2.1) (by decide) (by decide) k) ?_
          show OJn _ _ _ _ _ (T7.setTop (mkF m 32 #[.val (.ref a1), .val (.int p2), .val (.int (own_be (1 : Int32) (own_b y1) (own_b y2) (own_b y3) (own_b y4) (own_b y5))), .val (.int (1 : Int32)), .val (.int (own_ix ((own_be (1 : Int32) (own_b y1) (own_b y2) (own_b y3) (own_b y4) (own_b y5)) + (1 : Int32)) (own_b y1) (own_b y2) (own_b y3) (own_b y4) (own_b y5)))] []))
          refine OJn.via (fun _ k => XS.iload X7.here hx rfl (hb hby d8_32) rfl k) ?_
          show OJn _ _ _ _ _ (T7.setTop (mkF m 34 #[.val (.ref a1), .val (.int p2), .val (.int (own_be (1 : Int32) (own_b y1) (own_b y2) (own_b y3) (own_b y4) (own_b y5))), .val (.int (1 : Int32)), .val (.int (own_ix ((own_be (1 : Int32) (own_b y1) (own_b y2) (own_b y3) (own_b y4) (own_b y5)) + (1 : Int32)) (own_b y1) (own_b y2) (own_b y3) (own_b y4) (own_b y5)))] [(.int (own_ix ((own_be (1 : Int32) (own_b y1) (own_b y2) (own_b y3) (own_b y4) (own_b y5)) + (1 : Int32)) (own_b y1) (own_b y2) (own_b y3) (own_b y4) (own_b y5)))]))
          exact ⟨_, (own_ix ((own_be (1 : Int32) (own_b y1) (own_b y2) (own_b y3) (own_b y4) (own_b y5)) + (1 : Int32)) (own_b y1) (own_b y2) (own_b y3) (own_b y4) (own_b y5)), ⟨⟨_, X7, N7⟩, r7_0, (by rw [own_nx, if_neg hc22_9])⟩, fun _ k => k⟩
      obtain ⟨T8, en2, ⟨⟨locs8, X8, N8⟩, e8, hj8⟩, st8⟩ := jn8
      refine OGo.via st8 ?_
      show OGo _ _ _ _ (T8.setTop (mkF m 34 #[.val (.ref a1), .val (.int p2), .val (.int (own_be (1 : Int32) (own_b y1) (own_b y2) (own_b y3) (own_b y4) (own_b y5))), .val (.int (1 : Int32)), .val (.int (own_ix ((own_be (1 : Int32) (own_b y1) (own_b y2) (own_b y3) (own_b y4) (own_b y5)) + (1 : Int32)) (own_b y1) (own_b y2) (own_b y3) (own_b y4) (own_b y5)))] [(.int en2)]))
      have he2 : en2 = (own_be (2 : Int32) (own_b y1) (own_b y2) (own_b y3) (own_b y4) (own_b y5)) := by rw [hj8]; exact own_stp y1 y2 y3 y4 y5 1
      rw [he2]
      show OGo _ _ _ _ (T8.setTop (mkF m 34 #[.val (.ref a1), .val (.int p2), .val (.int (own_be (1 : Int32) (own_b y1) (own_b y2) (own_b y3) (own_b y4) (own_b y5))), .val (.int (1 : Int32)), .val (.int (own_ix ((own_be (1 : Int32) (own_b y1) (own_b y2) (own_b y3) (own_b y4) (own_b y5)) + (1 : Int32)) (own_b y1) (own_b y2) (own_b y3) (own_b y4) (own_b y5)))] [(.int (own_be (2 : Int32) (own_b y1) (own_b y2) (own_b y3) (own_b y4) (own_b y5)))]))
      refine OGo.via (fun _ k => XS.istoreN X8.here hx rfl (hb hby d8_34) rfl (l' := #[.val (.ref a1), .val (.int p2), .val (.int (own_be (2 : Int32) (own_b y1) (own_b y2) (own_b y3) (own_b y4) (own_b y5))), .val (.int (1 : Int32)), .val (.int (own_ix ((own_be (1 : Int32) (own_b y1) (own_b y2) (own_b y3) (own_b y4) (own_b y5)) + (1 : Int32)) (own_b y1) (own_b y2) (own_b y3) (own_b y4) (own_b y5)))]) rfl (XS.iinc X8.here hx rfl (hb hby d8_35) rfl (l' := #[.val (.ref a1), .val (.int p2), .val (.int (own_be (2 : Int32) (own_b y1) (own_b y2) (own_b y3) (own_b y4) (own_b y5))), .val (.int ((1 : Int32) + (1 : Int32))), .val (.int (own_ix ((own_be (1 : Int32) (own_b y1) (own_b y2) (own_b y3) (own_b y4) (own_b y5)) + (1 : Int32)) (own_b y1) (own_b y2) (own_b y3) (own_b y4) (own_b y5)))]) rfl k)) ?_
      show OGo _ _ _ _ (T8.setTop (mkF m 38 #[.val (.ref a1), .val (.int p2), .val (.int (own_be (2 : Int32) (own_b y1) (own_b y2) (own_b y3) (own_b y4) (own_b y5))), .val (.int ((1 : Int32) + (1 : Int32))), .val (.int (own_ix ((own_be (1 : Int32) (own_b y1) (own_b y2) (own_b y3) (own_b y4) (own_b y5)) + (1 : Int32)) (own_b y1) (own_b y2) (own_b y3) (own_b y4) (own_b y5)))] []))
      rw [show ((1 : Int32) + (1 : Int32)) = (2 : Int32) from by decide]
      refine OGo.via (fun _ k => XS.goto X8.here hx rfl (pc0 := 38) (pc' := 4) rfl (hb hby d8_38) (by decide) (by decide) k) ?_
      refine OGo.via (fun _ k => XS.iloadN X8.here hx rfl (hb hby d8_4) rfl (XS.iloadN X8.here hx rfl (hb hby d8_5) rfl k)) ?_
      by_cases hl2 : (2 : Int32) < p2
      · refine OGo.via (fun _ k => XS.icmpNo X8.here hx rfl (hb hby d8_6) rfl (tlt hl2).2.1 k) ?_
        show OGo _ _ _ _ (T8.setTop (mkF m 9 #[.val (.ref a1), .val (.int p2), .val (.int (own_be (2 : Int32) (own_b y1) (own_b y2) (own_b y3) (own_b y4) (own_b y5))), .val (.int (2 : Int32)), .val (.int (own_ix ((own_be (1 : Int32) (own_b y1) (own_b y2) (own_b y3) (own_b y4) (own_b y5)) + (1 : Int32)) (own_b y1) (own_b y2) (own_b y3) (own_b y4) (own_b y5)))] []))
        refine OGo.via (fun _ k => XS.aloadN X8.here hx rfl (hb hby d8_9) rfl rfl (XS.bipush X8.here hx rfl (hb hby d8_10) (XS.iloadN X8.here hx rfl (hb hby d8_12) rfl (XS.iconst X8.here hx rfl (hb hby d8_13) (XS.iadd X8.here hx rfl (hb hby d8_14) rfl k))))) ?_
        obtain ⟨cq12, kq12, q12a, q12b, q12c⟩ := isOf hZ e8 E_a1
        obtain ⟨_, T12, Lc12, X12, hQ12, st12⟩ := own_open X8 (X8.virtualBack hx (y := own_y14) (z := own_y14) hown (mvT hZ (own_w hw 38 rfl)) (mvT hZ (own_w hw 39 rfl)) (notFace_of_selects (args := #[]) (mvT hZ (own_w hw 41 rfl))) (mvT hZ (own_w hw 41 rfl)) (mvT hZ (own_w hw 40 rfl)) (by decide) (backOf (W := 0) (rm9 l Z a0 hw [] a1 ((own_be (2 : Int32) (own_b y1) (own_b y2) (own_b y3) (own_b y4) (own_b y5)) + (1 : Int32)) w vb kb y0 y1 y2 y3 y4 y5 h0 n0 Z0 E_a1 F_value_a1 F_coder_a1 V_vb S_COMPACT_STRINGS hw0 (own_rg y1 y2 y3 y4 y5 2)) hZ (own_w hw 42 rfl) (own_w hw 7 rfl) (by decide) (by decide)) q12a q12c (g := (mkF m 15 #[.val (.ref a1), .val (.int p2), .val (.int (own_be (2 : Int32) (own_b y1) (own_b y2) (own_b y3) (own_b y4) (own_b y5))), .val (.int (2 : Int32)), .val (.int (own_ix ((own_be (1 : Int32) (own_b y1) (own_b y2) (own_b y3) (own_b y4) (own_b y5)) + (1 : Int32)) (own_b y1) (own_b y2) (own_b y3) (own_b y4) (own_b y5)))] [(.int ((own_be (2 : Int32) (own_b y1) (own_b y2) (own_b y3) (own_b y4) (own_b y5)) + (1 : Int32))), (.int (47 : Int32)), (.ref a1)])) rfl (by rw [hml]; rfl) (Steps.refl _) (argsL := [(.int (47 : Int32)), (.int ((own_be (2 : Int32) (own_b y1) (own_b y2) (own_b y3) (own_b y4) (own_b y5)) + (1 : Int32)))]) (rest := []) (lenOf pd_6 rfl) rfl (by show 2 * 0 + _ ≤ _; exact Nat.le_of_eq rfl) (hb hby d8_15) (fun _ _ => ⟨rfl, e8, (by decide : 0 + 0 ≤ _), (by decide : 0 + 0 ≤ _)⟩))
        obtain ⟨rfl, N12q, r12_0⟩ := hQ12
        have N12 := Fr.app N8 N12q
        refine OGo.via (fun _ k => st12.trans k) ?_
        show OGo _ _ _ _ (T12.setTop (mkF m 18 #[.val (.ref a1), .val (.int p2), .val (.int (own_be (2 : Int32) (own_b y1) (own_b y2) (own_b y3) (own_b y4) (own_b y5))), .val (.int (2 : Int32)), .val (.int (own_ix ((own_be (1 : Int32) (own_b y1) (own_b y2) (own_b y3) (own_b y4) (own_b y5)) + (1 : Int32)) (own_b y1) (own_b y2) (own_b y3) (own_b y4) (own_b y5)))] [(.int (own_ix ((own_be (2 : Int32) (own_b y1) (own_b y2) (own_b y3) (own_b y4) (own_b y5)) + (1 : Int32)) (own_b y1) (own_b y2) (own_b y3) (own_b y4) (own_b y5)))]))
        refine OGo.via (fun _ k => XS.istore X12.here hx rfl (hb hby d8_18) rfl (l' := #[.val (.ref a1), .val (.int p2), .val (.int (own_be (2 : Int32) (own_b y1) (own_b y2) (own_b y3) (own_b y4) (own_b y5))), .val (.int (2 : Int32)), .val (.int (own_ix ((own_be (2 : Int32) (own_b y1) (own_b y2) (own_b y3) (own_b y4) (own_b y5)) + (1 : Int32)) (own_b y1) (own_b y2) (own_b y3) (own_b y4) (own_b y5)))]) rfl (XS.iload X12.here hx rfl (hb hby d8_20) rfl k)) ?_
        have jn13 : OJn p.tables e below (fun T' (en3 : Int32) => own_St X12 n0 T' ∧ T'.heap = h0 ∧ (en3 = own_nx (own_be (2 : Int32) (own_b y1) (own_b y2) (own_b y3) (own_b y4) (own_b y5)) (own_b y1) (own_b y2) (own_b y3) (own_b y4) (own_b y5))) (fun en3 => (mkF m 34 #[.val (.ref a1), .val (.int p2), .val (.int (own_be (2 : Int32) (own_b y1) (own_b y2) (own_b y3) (own_b y4) (own_b y5))), .val (.int (2 : Int32)), .val (.int (own_ix ((own_be (2 : Int32) (own_b y1) (own_b y2) (own_b y3) (own_b y4) (own_b y5)) + (1 : Int32)) (own_b y1) (own_b y2) (own_b y3) (own_b y4) (own_b y5)))] [(.int en3)])) (T12.setTop (mkF m 22 #[.val (.ref a1), .val (.int p2), .val (.int (own_be (2 : Int32) (own_b y1) (own_b y2) (own_b y3) (own_b y4) (own_b y5))), .val (.int (2 : Int32)), .val (.int (own_ix ((own_be (2 : Int32) (own_b y1) (own_b y2) (own_b y3) (own_b y4) (own_b y5)) + (1 : Int32)) (own_b y1) (own_b y2) (own_b y3) (own_b y4) (own_b y5)))] [(.int (own_ix ((own_be (2 : Int32) (own_b y1) (own_b y2) (own_b y3) (own_b y4) (own_b y5)) + (1 : Int32)) (own_b y1) (own_b y2) (own_b y3) (own_b y4) (own_b y5)))])) := by
          by_cases hc22_14 : (own_ix ((own_be (2 : Int32) (own_b y1) (own_b y2) (own_b y3) (own_b y4) (own_b y5)) + (1 : Int32)) (own_b y1) (own_b y2) (own_b y3) (own_b y4) (own_b y5)) < (0 : Int32)
          · refine OJn.via (fun _ k => XS.ifNo X12.here hx rfl (hb hby d8_22) rfl ((if0 _ _).trans (tlt hc22_14).2.1) k) ?_
            show OJn _ _ _ _ _ (T12.setTop (mkF m 25 #[.val (.ref a1), .val (.int p2), .val (.int (own_be (2 : Int32) (own_b y1) (own_b y2) (own_b y3) (own_b y4) (own_b y5))), .val (.int (2 : Int32)), .val (.int (own_ix ((own_be (2 : Int32) (own_b y1) (own_b y2) (own_b y3) (own_b y4) (own_b y5)) + (1 : Int32)) (own_b y1) (own_b y2) (own_b y3) (own_b y4) (own_b y5)))] []))
            refine OJn.via (fun _ k => XS.aloadN X12.here hx rfl (hb hby d8_25) rfl rfl k) ?_
            obtain ⟨cq15, kq15, q15a, q15b, q15c⟩ := isOf hZ r12_0 E_a1
            obtain ⟨_, T15, Lc15, X15, hQ15, st15⟩ := own_open X12 (X12.virtualBack hx (y := own_y9) (z := own_y9) hown (mvT hZ (own_w hw 75 rfl)) (mvT hZ (own_w hw 49 rfl)) (notFace_of_selects (args := #[]) (mvT hZ (own_w hw 51 rfl))) (mvT hZ (own_w hw 51 rfl)) (mvT hZ (own_w hw 50 rfl)) (by decide) (backOf (W := 0) (rm11 l Z a0 hw [] a1 w vb kb [(.int y0), (.int y1), (.int y2), (.int y3), (.int y4), (.int y5)] h0 n0 Z0 E_a1 F_value_a1 F_coder_a1 V_vb S_COMPACT_STRINGS hw0) hZ (own_w hw 52 rfl) (own_w hw 7 rfl) (by decide) (by decide)) q15a q15c (g := (mkF m 26 #[.val (.ref a1), .val (.int p2), .val (.int (own_be (2 : Int32) (own_b y1) (own_b y2) (own_b y3) (own_b y4) (own_b y5))), .val (.int (2 : Int32)), .val (.int (own_ix ((own_be (2 : Int32) (own_b y1) (own_b y2) (own_b y3) (own_b y4) (own_b y5)) + (1 : Int32)) (own_b y1) (own_b y2) (own_b y3) (own_b y4) (own_b y5)))] [(.ref a1)])) rfl (by rw [hml]; rfl) (Steps.refl _) (argsL := []) (rest := []) (lenOf pd_9 rfl) rfl (by show 2 * 0 + _ ≤ _; exact Nat.le_of_eq rfl) (hb hby d8_26) (fun _ _ => ⟨rfl, r12_0, (by decide : 0 + 0 ≤ _), (by decide : 0 + 0 ≤ _)⟩))
            obtain ⟨rfl, N15q, r15_0⟩ := hQ15
            have N15 := Fr.app N12 N15q
            refine OJn.via (fun _ k => st15.trans k) ?_
            show OJn _ _ _ _ _ (T15.setTop (mkF m 29 #[.val (.ref a1), .val (.int p2), .val (.int (own_be (2 : Int32) (own_b y1) (own_b y2) (own_b y3) (own_b y4) (own_b y5))), .val (.int (2 : Int32)), .val (.int (own_ix ((own_be (2 : Int32) (own_b y1) (own_b y2) (own_b y3) (own_b y4) (own_b y5)) + (1 : Int32)) (own_b y1) (own_b y2) (own_b y3) (own_b y4) (own_b y5)))] [(.int (6 : Int32))]))
            refine OJn.via (fun _ k => XS.goto X15.here hx rfl (pc0 := 29) (pc' := 34) rfl (hb hby d8_29) (by decide) (by decide) k) ?_
            show OJn _ _ _ _ _ (T15.setTop (mkF m 34 #[.val (.ref a1), .val (.int p2), .val (.int (own_be (2 : Int32) (own_b y1) (own_b y2) (own_b y3) (own_b y4) (own_b y5))), .val (.int (2 : Int32)), .val (.int (own_ix ((own_be (2 : Int32) (own_b y1) (own_b y2) (own_b y3) (own_b y4) (own_b y5)) + (1 : Int32)) (own_b y1) (own_b y2) (own_b y3) (own_b y4) (own_b y5)))] [(.int (6 : Int32))]))
            exact ⟨_, (6 : Int32), ⟨⟨_, X15, N15⟩, r15_0, (by rw [own_nx, if_pos hc22_14])⟩, fun _ k => k⟩
          · refine OJn.via (fun _ k => XS.ifYes X12.here hx rfl (pc0 := 22) (pc' := 32) rfl (hb hby d8_22) rfl ((if0 _ _).trans (flt hc22_14).2.1) (by decide) (by decide) k) ?_
            show OJn _ _ _ _ _ (T12.setTop (mkF m 32 #[.val (.ref a1), .val (.int p2), .val (.int (own_be (2 : Int32) (own_b y1) (own_b y2) (own_b y3) (own_b y4) (own_b y5))), .val (.int (2 : Int32)), .val (.int (own_ix ((own_be (2 : Int32) (own_b y1) (own_b y2) (own_b y3) (own_b y4) (own_b y5)) + (1 : Int32)) (own_b y1) (own_b y2) (own_b y3) (own_b y4) (own_b y5)))] []))
            refine OJn.via (fun _ k => XS.iload X12.here hx rfl (hb hby d8_32) rfl k) ?_
            show OJn _ _ _ _ _ (T12.setTop (mkF m 34 #[.val (.ref a1), .val (.int p2), .val (.int (own_be (2 : Int32) (own_b y1) (own_b y2) (own_b y3) (own_b y4) (own_b y5))), .val (.int (2 : Int32)), .val (.int (own_ix ((own_be (2 : Int32) (own_b y1) (own_b y2) (own_b y3) (own_b y4) (own_b y5)) + (1 : Int32)) (own_b y1) (own_b y2) (own_b y3) (own_b y4) (own_b y5)))] [(.int (own_ix ((own_be (2 : Int32) (own_b y1) (own_b y2) (own_b y3) (own_b y4) (own_b y5)) + (1 : Int32)) (own_b y1) (own_b y2) (own_b y3) (own_b y4) (own_b y5)))]))
            exact ⟨_, (own_ix ((own_be (2 : Int32) (own_b y1) (own_b y2) (own_b y3) (own_b y4) (own_b y5)) + (1 : Int32)) (own_b y1) (own_b y2) (own_b y3) (own_b y4) (own_b y5)), ⟨⟨_, X12, N12⟩, r12_0, (by rw [own_nx, if_neg hc22_14])⟩, fun _ k => k⟩
        obtain ⟨T13, en3, ⟨⟨locs13, X13, N13⟩, e13, hj13⟩, st13⟩ := jn13
        refine OGo.via st13 ?_
        show OGo _ _ _ _ (T13.setTop (mkF m 34 #[.val (.ref a1), .val (.int p2), .val (.int (own_be (2 : Int32) (own_b y1) (own_b y2) (own_b y3) (own_b y4) (own_b y5))), .val (.int (2 : Int32)), .val (.int (own_ix ((own_be (2 : Int32) (own_b y1) (own_b y2) (own_b y3) (own_b y4) (own_b y5)) + (1 : Int32)) (own_b y1) (own_b y2) (own_b y3) (own_b y4) (own_b y5)))] [(.int en3)]))
        have he3 : en3 = (own_be (3 : Int32) (own_b y1) (own_b y2) (own_b y3) (own_b y4) (own_b y5)) := by rw [hj13]; exact own_stp y1 y2 y3 y4 y5 2
        rw [he3]
        show OGo _ _ _ _ (T13.setTop (mkF m 34 #[.val (.ref a1), .val (.int p2), .val (.int (own_be (2 : Int32) (own_b y1) (own_b y2) (own_b y3) (own_b y4) (own_b y5))), .val (.int (2 : Int32)), .val (.int (own_ix ((own_be (2 : Int32) (own_b y1) (own_b y2) (own_b y3) (own_b y4) (own_b y5)) + (1 : Int32)) (own_b y1) (own_b y2) (own_b y3) (own_b y4) (own_b y5)))] [(.int (own_be (3 : Int32) (own_b y1) (own_b y2) (own_b y3) (own_b y4) (own_b y5)))]))
        refine OGo.via (fun _ k => XS.istoreN X13.here hx rfl (hb hby d8_34) rfl (l' := #[.val (.ref a1), .val (.int p2), .val (.int (own_be (3 : Int32) (own_b y1) (own_b y2) (own_b y3) (own_b y4) (own_b y5))), .val (.int (2 : Int32)), .val (.int (own_ix ((own_be (2 : Int32) (own_b y1) (own_b y2) (own_b y3) (own_b y4) (own_b y5)) + (1 : Int32)) (own_b y1) (own_b y2) (own_b y3) (own_b y4) (own_b y5)))]) rfl (XS.iinc X13.here hx rfl (hb hby d8_35) rfl (l' := #[.val (.ref a1), .val (.int p2), .val (.int (own_be (3 : Int32) (own_b y1) (own_b y2) (own_b y3) (own_b y4) (own_b y5))), .val (.int ((2 : Int32) + (1 : Int32))), .val (.int (own_ix ((own_be (2 : Int32) (own_b y1) (own_b y2) (own_b y3) (own_b y4) (own_b y5)) + (1 : Int32)) (own_b y1) (own_b y2) (own_b y3) (own_b y4) (own_b y5)))]) rfl k)) ?_
        show OGo _ _ _ _ (T13.setTop (mkF m 38 #[.val (.ref a1), .val (.int p2), .val (.int (own_be (3 : Int32) (own_b y1) (own_b y2) (own_b y3) (own_b y4) (own_b y5))), .val (.int ((2 : Int32) + (1 : Int32))), .val (.int (own_ix ((own_be (2 : Int32) (own_b y1) (own_b y2) (own_b y3) (own_b y4) (own_b y5)) + (1 : Int32)) (own_b y1) (own_b y2) (own_b y3) (own_b y4) (own_b y5)))] []))
        rw [show ((2 : Int32) + (1 : Int32)) = (3 : Int32) from by decide]
        refine OGo.via (fun _ k => XS.goto X13.here hx rfl (pc0 := 38) (pc' := 4) rfl (hb hby d8_38) (by decide) (by decide) k) ?_
        refine OGo.via (fun _ k => XS.iloadN X13.here hx rfl (hb hby d8_4) rfl (XS.iloadN X13.here hx rfl (hb hby d8_5) rfl k)) ?_
        by_cases hl3 : (3 : Int32) < p2
        · refine OGo.via (fun _ k => XS.icmpNo X13.here hx rfl (hb hby d8_6) rfl (tlt hl3).2.1 k) ?_
          show OGo _ _ _ _ (T13.setTop (mkF m 9 #[.val (.ref a1), .val (.int p2), .val (.int (own_be (3 : Int32) (own_b y1) (own_b y2) (own_b y3) (own_b y4) (own_b y5))), .val (.int (3 : Int32)), .val (.int (own_ix ((own_be (2 : Int32) (own_b y1) (own_b y2) (own_b y3) (own_b y4) (own_b y5)) + (1 : Int32)) (own_b y1) (own_b y2) (own_b y3) (own_b y4) (own_b y5)))] []))
          refine OGo.via (fun _ k => XS.aloadN X13.here hx rfl (hb hby d8_9) rfl rfl (XS.bipush X13.here hx rfl (hb hby d8_10) (XS.iloadN X13.here hx rfl (hb hby d8_12) rfl (XS.iconst X13.here hx rfl (hb hby d8_13) (XS.iadd X13.here hx rfl (hb hby d8_14) rfl k))))) ?_
          obtain ⟨cq17, kq17, q17a, q17b, q17c⟩ := isOf hZ e13 E_a1
          obtain ⟨_, T17, Lc17, X17, hQ17, st17⟩ := own_open X13 (X13.virtualBack hx (y := own_y14) (z := own_y14) hown (mvT hZ (own_w hw 38 rfl)) (mvT hZ (own_w hw 39 rfl)) (notFace_of_selects (args := #[]) (mvT hZ (own_w hw 41 rfl))) (mvT hZ (own_w hw 41 rfl)) (mvT hZ (own_w hw 40 rfl)) (by decide) (backOf (W := 0) (rm9 l Z a0 hw [] a1 ((own_be (3 : Int32) (own_b y1) (own_b y2) (own_b y3) (own_b y4) (own_b y5)) + (1 : Int32)) w vb kb y0 y1 y2 y3 y4 y5 h0 n0 Z0 E_a1 F_value_a1 F_coder_a1 V_vb S_COMPACT_STRINGS hw0 (own_rg y1 y2 y3 y4 y5 3)) hZ (own_w hw 42 rfl) (own_w hw 7 rfl) (by decide) (by decide)) q17a q17c (g := (mkF m 15 #[.val (.ref a1), .val (.int p2), .val (.int (own_be (3 : Int32) (own_b y1) (own_b y2) (own_b y3) (own_b y4) (own_b y5))), .val (.int (3 : Int32)), .val (.int (own_ix ((own_be (2 : Int32) (own_b y1) (own_b y2) (own_b y3) (own_b y4) (own_b y5)) + (1 : Int32)) (own_b y1) (own_b y2) (own_b y3) (own_b y4) (own_b y5)))] [(.int ((own_be (3 : Int32) (own_b y1) (own_b y2) (own_b y3) (own_b y4) (own_b y5)) + (1 : Int32))), (.int (47 : Int32)), (.ref a1)])) rfl (by rw [hml]; rfl) (Steps.refl _) (argsL := [(.int (47 : Int32)), (.int ((own_be (3 : Int32) (own_b y1) (own_b y2) (own_b y3) (own_b y4) (own_b y5)) + (1 : Int32)))]) (rest := []) (lenOf pd_6 rfl) rfl (by show 2 * 0 + _ ≤ _; exact Nat.le_of_eq rfl) (hb hby d8_15) (fun _ _ => ⟨rfl, e13, (by decide : 0 + 0 ≤ _), (by decide : 0 + 0 ≤ _)⟩))
          obtain ⟨rfl, N17q, r17_0⟩ := hQ17
          have N17 := Fr.app N13 N17q
          refine OGo.via (fun _ k => st17.trans k) ?_
          show OGo _ _ _ _ (T17.setTop (mkF m 18 #[.val (.ref a1), .val (.int p2), .val (.int (own_be (3 : Int32) (own_b y1) (own_b y2) (own_b y3) (own_b y4) (own_b y5))), .val (.int (3 : Int32)), .val (.int (own_ix ((own_be (2 : Int32) (own_b y1) (own_b y2) (own_b y3) (own_b y4) (own_b y5)) + (1 : Int32)) (own_b y1) (own_b y2) (own_b y3) (own_b y4) (own_b y5)))] [(.int (own_ix ((own_be (3 : Int32) (own_b y1) (own_b y2) (own_b y3) (own_b y4) (own_b y5)) + (1 : Int32)) (own_b y1) (own_b y2) (own_b y3) (own_b y4) (own_b y5)))]))
          refine OGo.via (fun _ k => XS.istore X17.here hx rfl (hb hby d8_18) rfl (l' := #[.val (.ref a1), .val (.int p2), .val (.int (own_be (3 : Int32) (own_b y1) (own_b y2) (own_b y3) (own_b y4) (own_b y5))), .val (.int (3 : Int32)), .val (.int (own_ix ((own_be (3 : Int32) (own_b y1) (own_b y2) (own_b y3) (own_b y4) (own_b y5)) + (1 : Int32)) (own_b y1) (own_b y2) (own_b y3) (own_b y4) (own_b y5)))]) rfl (XS.iload X17.here hx rfl (hb hby d8_20) rfl k)) ?_
          have jn18 : OJn p.tables e below (fun T' (en4 : Int32) => own_St X17 n0 T' ∧ T'.heap = h0 ∧ (en4 = own_nx (own_be (3 : Int32) (own_b y1) (own_b y2) (own_b y3) (own_b y4) (own_b y5)) (own_b y1) (own_b y2) (own_b y3) (own_b y4) (own_b y5))) (fun en4 => (mkF m 34 #[.val (.ref a1), .val (.int p2), .val (.int (own_be (3 : Int32) (own_b y1) (own_b y2) (own_b y3) (own_b y4) (own_b y5))), .val (.int (3 : Int32)), .val (.int (own_ix ((own_be (3 : Int32) (own_b y1) (own_b y2) (own_b y3) (own_b y4) (own_b y5)) + (1 : Int32)) (own_b y1) (own_b y2) (own_b y3) (own_b y4) (own_b y5)))] [(.int en4)])) (T17.setTop (mkF m 22 #[.val (.ref a1), .val (.int p2), .val (.int (own_be (3 : Int32) (own_b y1) (own_b y2) (own_b y3) (own_b y4) (own_b y5))), .val (.int (3 : Int32)), .val (.int (own_ix ((own_be (3 : Int32) (own_b y1) (own_b y2) (own_b y3) (own_b y4) (own_b y5)) + (1 : Int32)) (own_b y1) (own_b y2) (own_b y3) (own_b y4) (own_b y5)))] [(.int (own_ix ((own_be (3 : Int32) (own_b y1) (own_b y2) (own_b y3) (own_b y4) (own_b y5)) + (1 : Int32)) (own_b y1) (own_b y2) (own_b y3) (own_b y4) (own_b y5)))])) := by
            by_cases hc22_19 : (own_ix ((own_be (3 : Int32) (own_b y1) (own_b y2) (own_b y3) (own_b y4) (own_b y5)) + (1 : Int32)) (own_b y1) (own_b y2) (own_b y3) (own_b y4) (own_b y5)) < (0 : Int32)
            · refine OJn.via (fun _ k => XS.ifNo X17.here hx rfl (hb hby d8_22) rfl ((if0 _ _).trans (tlt hc22_19).2.1) k) ?_
              show OJn _ _ _ _ _ (T17.setTop (mkF m 25 #[.val (.ref a1), .val (.int p2), .val (.int (own_be (3 : Int32) (own_b y1) (own_b y2) (own_b y3) (own_b y4) (own_b y5))), .val (.int (3 : Int32)), .val (.int (own_ix ((own_be (3 : Int32) (own_b y1) (own_b y2) (own_b y3) (own_b y4) (own_b y5)) + (1 : Int32)) (own_b y1) (own_b y2) (own_b y3) (own_b y4) (own_b y5)))] []))
              refine OJn.via (fun _ k => XS.aloadN X17.here hx rfl (hb hby d8_25) rfl rfl k) ?_
              obtain ⟨cq20, kq20, q20a, q20b, q20c⟩ := isOf hZ r17_0 E_a1
              obtain ⟨_, T20, Lc20, X20, hQ20, st20⟩ := own_open X17 (X17.virtualBack hx (y := own_y9) (z := own_y9) hown (mvT hZ (own_w hw 75 rfl)) (mvT hZ (own_w hw 49 rfl)) (notFace_of_selects (args := #[]) (mvT hZ (own_w hw 51 rfl))) (mvT hZ (own_w hw 51 rfl)) (mvT hZ (own_w hw 50 rfl)) (by decide) (backOf (W := 0) (rm11 l Z a0 hw [] a1 w vb kb [(.int y0), (.int y1), (.int y2), (.int y3), (.int y4), (.int y5)] h0 n0 Z0 E_a1 F_value_a1 F_coder_a1 V_vb S_COMPACT_STRINGS hw0) hZ (own_w hw 52 rfl) (own_w hw 7 rfl) (by decide) (by decide)) q20a q20c (g := (mkF m 26 #[.val (.ref a1), .val (.int p2), .val (.int (own_be (3 : Int32) (own_b y1) (own_b y2) (own_b y3) (own_b y4) (own_b y5))), .val (.int (3 : Int32)), .val (.int (own_ix ((own_be (3 : Int32) (own_b y1) (own_b y2) (own_b y3) (own_b y4) (own_b y5)) + (1 : Int32)) (own_b y1) (own_b y2) (own_b y3) (own_b y4) (own_b y5)))] [(.ref a1)])) rfl (by rw [hml]; rfl) (Steps.refl _) (argsL := []) (rest := []) (lenOf pd_9 rfl) rfl (by show 2 * 0 + _ ≤ _; exact Nat.le_of_eq rfl) (hb hby d8_26) (fun _ _ => ⟨rfl, r17_0, (by decide : 0 + 0 ≤ _), (by decide : 0 + 0 ≤ _)⟩))
              obtain ⟨rfl, N20q, r20_0⟩ := hQ20
              have N20 := Fr.app N17 N20q
              refine OJn.via (fun _ k => st20.trans k) ?_
              show OJn _ _ _ _ _ (T20.setTop (mkF m 29 #[.val (.ref a1), .val (.int p2), .val (.int (own_be (3 : Int32) (own_b y1) (own_b y2) (own_b y3) (own_b y4) (own_b y5))), .val (.int (3 : Int32)), .val (.int (own_ix ((own_be (3 : Int32) (own_b y1) (own_b y2) (own_b y3) (own_b y4) (own_b y5)) + (1 : Int32)) (own_b y1) (own_b y2) (own_b y3) (own_b y4) (own_b y5)))] [(.int (6 : Int32))]))
              refine OJn.via (fun _ k => XS.goto X20.here hx rfl (pc0 := 29) (pc' := 34) rfl (hb hby d8_29) (by decide) (by decide) k) ?_
              show OJn _ _ _ _ _ (T20.setTop (mkF m 34 #[.val (.ref a1), .val (.int p2), .val (.int (own_be (3 : Int32) (own_b y1) (own_b y2) (own_b y3) (own_b y4) (own_b y5))), .val (.int (3 : Int32)), .val (.int (own_ix ((own_be (3 : Int32) (own_b y1) (own_b y2) (own_b y3) (own_b y4) (own_b y5)) + (1 : Int32)) (own_b y1) (own_b y2) (own_b y3) (own_b y4) (own_b y5)))] [(.int (6 : Int32))]))
              exact ⟨_, (6 : Int32), ⟨⟨_, X20, N20⟩, r20_0, (by rw [own_nx, if_pos hc22_19])⟩, fun _ k => k⟩
            · refine OJn.via (fun _ k => XS.ifYes X17.here hx rfl (pc0 := 22) (pc' := 32) rfl (hb hby d8_22) rfl ((if0 _ _).trans (flt hc22_19).2.1) (by decide) (by decide) k) ?_
              show OJn _ _ _ _ _ (T17.setTop (mkF m 32 #[.val (.ref a1), .val (.int p2), .val (.int (own_be (3 : Int32) (own_b y1) (own_b y2) (own_b y3) (own_b y4) (own_b y5))), .val (.int (3 : Int32)), .val (.int (own_ix ((own_be (3 : Int32) (own_b y1) (own_b y2) (own_b y3) (own_b y4) (own_b y5)) + (1 : Int32)) (own_b y1) (own_b y2) (own_b y3) (own_b y4) (own_b y5)))] []))
              refine OJn.via (fun _ k => XS.iload X17.here hx rfl (hb hby d8_32) rfl k) ?_
              show OJn _ _ _ _ _ (T17.setTop (mkF m 34 #[.val (.ref a1), .val (.int p2), .val (.int (own_be (3 : Int32) (own_b y1) (own_b y2) (own_b y3) (own_b y4) (own_b y5))), .val (.int (3 : Int32)), .val (.int (own_ix ((own_be (3 : Int32) (own_b y1) (own_b y2) (own_b y3) (own_b y4) (own_b y5)) + (1 : Int32)) (own_b y1) (own_b y2) (own_b y3) (own_b y4) (own_b y5)))] [(.int (own_ix ((own_be (3 : Int32) (own_b y1) (own_b y2) (own_b y3) (own_b y4) (own_b y5)) + (1 : Int32)) (own_b y1) (own_b y2) (own_b y3) (own_b y4) (own_b y5)))]))
              exact ⟨_, (own_ix ((own_be (3 : Int32) (own_b y1) (own_b y2) (own_b y3) (own_b y4) (own_b y5)) + (1 : Int32)) (own_b y1) (own_b y2) (own_b y3) (own_b y4) (own_b y5)), ⟨⟨_, X17, N17⟩, r17_0, (by rw [own_nx, if_neg hc22_19])⟩, fun _ k => k⟩
          obtain ⟨T18, en4, ⟨⟨locs18, X18, N18⟩, e18, hj18⟩, st18⟩ := jn18
          refine OGo.via st18 ?_
          show OGo _ _ _ _ (T18.setTop (mkF m 34 #[.val (.ref a1), .val (.int p2), .val (.int (own_be (3 : Int32) (own_b y1) (own_b y2) (own_b y3) (own_b y4) (own_b y5))), .val (.int (3 : Int32)), .val (.int (own_ix ((own_be (3 : Int32) (own_b y1) (own_b y2) (own_b y3) (own_b y4) (own_b y5)) + (1 : Int32)) (own_b y1) (own_b y2) (own_b y3) (own_b y4) (own_b y5)))] [(.int en4)]))
          have he4 : en4 = (own_be (4 : Int32) (own_b y1) (own_b y2) (own_b y3) (own_b y4) (own_b y5)) := by rw [hj18]; exact own_stp y1 y2 y3 y4 y5 3
          rw [he4]
          show OGo _ _ _ _ (T18.setTop (mkF m 34 #[.val (.ref a1), .val (.int p2), .val (.int (own_be (3 : Int32) (own_b y1) (own_b y2) (own_b y3) (own_b y4) (own_b y5))), .val (.int (3 : Int32)), .val (.int (own_ix ((own_be (3 : Int32) (own_b y1) (own_b y2) (own_b y3) (own_b y4) (own_b y5)) + (1 : Int32)) (own_b y1) (own_b y2) (own_b y3) (own_b y4) (own_b y5)))] [(.int (own_be (4 : Int32) (own_b y1) (own_b y2) (own_b y3) (own_b y4) (own_b y5)))]))
          refine OGo.via (fun _ k => XS.istoreN X18.here hx rfl (hb hby d8_34) rfl (l' := #[.val (.ref a1), .val (.int p2), .val (.int (own_be (4 : Int32) (own_b y1) (own_b y2) (own_b y3) (own_b y4) (own_b y5))), .val (.int (3 : Int32)), .val (.int (own_ix ((own_be (3 : Int32) (own_b y1) (own_b y2) (own_b y3) (own_b y4) (own_b y5)) + (1 : Int32)) (own_b y1) (own_b y2) (own_b y3) (own_b y4) (own_b y5)))]) rfl (XS.iinc X18.here hx rfl (hb hby d8_35) rfl (l' := #[.val (.ref a1), .val (.int p2), .val (.int (own_be (4 : Int32) (own_b y1) (own_b y2) (own_b y3) (own_b y4) (own_b y5))), .val (.int ((3 : Int32) + (1 : Int32))), .val (.int (own_ix ((own_be (3 : Int32) (own_b y1) (own_b y2) (own_b y3) (own_b y4) (own_b y5)) + (1 : Int32)) (own_b y1) (own_b y2) (own_b y3) (own_b y4) (own_b y5)))]) rfl k)) ?_
          show OGo _ _ _ _ (T18.setTop (mkF m 38 #[.val (.ref a1), .val (.int p2), .val (.int (own_be (4 : Int32) (own_b y1) (own_b y2) (own_b y3) (own_b y4) (own_b y5))), .val (.int ((3 : Int32) + (1 : Int32))), .val (.int (own_ix ((own_be (3 : Int32) (own_b y1) (own_b y2) (own_b y3) (own_b y4) (own_b y5)) + (1 : Int32)) (own_b y1) (own_b y2) (own_b y3) (own_b y4) (own_b y5)))] []))
          rw [show ((3 : Int32) + (1 : Int32)) = (4 : Int32) from by decide]
          refine OGo.via (fun _ k => XS.goto X18.here hx rfl (pc0 := 38) (pc' := 4) rfl (hb hby d8_38) (by decide) (by decide) k) ?_
          refine OGo.via (fun _ k => XS.iloadN X18.here hx rfl (hb hby d8_4) rfl (XS.iloadN X18.here hx rfl (hb hby d8_5) rfl k)) ?_
          by_cases hl4 : (4 : Int32) < p2
          · refine OGo.via (fun _ k => XS.icmpNo X18.here hx rfl (hb hby d8_6) rfl (tlt hl4).2.1 k) ?_
            show OGo _ _ _ _ (T18.setTop (mkF m 9 #[.val (.ref a1), .val (.int p2), .val (.int (own_be (4 : Int32) (own_b y1) (own_b y2) (own_b y3) (own_b y4) (own_b y5))), .val (.int (4 : Int32)), .val (.int (own_ix ((own_be (3 : Int32) (own_b y1) (own_b y2) (own_b y3) (own_b y4) (own_b y5)) + (1 : Int32)) (own_b y1) (own_b y2) (own_b y3) (own_b y4) (own_b y5)))] []))
            refine OGo.via (fun _ k => XS.aloadN X18.here hx rfl (hb hby d8_9) rfl rfl (XS.bipush X18.here hx rfl (hb hby d8_10) (XS.iloadN X18.here hx rfl (hb hby d8_12) rfl (XS.iconst X18.here hx rfl (hb hby d8_13) (XS.iadd X18.here hx rfl (hb hby d8_14) rfl k))))) ?_
            obtain ⟨cq22, kq22, q22a, q22b, q22c⟩ := isOf hZ e18 E_a1
            obtain ⟨_, T22, Lc22, X22, hQ22, st22⟩ := own_open X18 (X18.virtualBack hx (y := own_y14) (z := own_y14) hown (mvT hZ (own_w hw 38 rfl)) (mvT hZ (own_w hw 39 rfl)) (notFace_of_selects (args := #[]) (mvT hZ (own_w hw 41 rfl))) (mvT hZ (own_w hw 41 rfl)) (mvT hZ (own_w hw 40 rfl)) (by decide) (backOf (W := 0) (rm9 l Z a0 hw [] a1 ((own_be (4 : Int32) (own_b y1) (own_b y2) (own_b y3) (own_b y4) (own_b y5)) + (1 : Int32)) w vb kb y0 y1 y2 y3 y4 y5 h0 n0 Z0 E_a1 F_value_a1 F_coder_a1 V_vb S_COMPACT_STRINGS hw0 (own_rg y1 y2 y3 y4 y5 4)) hZ (own_w hw 42 rfl) (own_w hw 7 rfl) (by decide) (by decide)) q22a q22c (g := (mkF m 15 #[.val (.ref a1), .val (.int p2), .val (.int (own_be (4 : Int32) (own_b y1) (own_b y2) (own_b y3) (own_b y4) (own_b y5))), .val (.int (4 : Int32)), .val (.int (own_ix ((own_be (3 : Int32) (own_b y1) (own_b y2) (own_b y3) (own_b y4) (own_b y5)) + (1 : Int32)) (own_b y1) (own_b y2) (own_b y3) (own_b y4) (own_b y5)))] [(.int ((own_be (4 : Int32) (own_b y1) (own_b y2) (own_b y3) (own_b y4) (own_b y5)) + (1 : Int32))), (.int (47 : Int32)), (.ref a1)])) rfl (by rw [hml]; rfl) (Steps.refl _) (argsL := [(.int (47 : Int32)), (.int ((own_be (4 : Int32) (own_b y1) (own_b y2) (own_b y3) (own_b y4) (own_b y5)) + (1 : Int32)))]) (rest := []) (lenOf pd_6 rfl) rfl (by show 2 * 0 + _ ≤ _; exact Nat.le_of_eq rfl) (hb hby d8_15) (fun _ _ => ⟨rfl, e18, (by decide : 0 + 0 ≤ _), (by decide : 0 + 0 ≤ _)⟩))
            obtain ⟨rfl, N22q, r22_0⟩ := hQ22
            have N22 := Fr.app N18 N22q
            refine OGo.via (fun _ k => st22.trans k) ?_
            show OGo _ _ _ _ (T22.setTop (mkF m 18 #[.val (.ref a1), .val (.int p2), .val (.int (own_be (4 : Int32) (own_b y1) (own_b y2) (own_b y3) (own_b y4) (own_b y5))), .val (.int (4 : Int32)), .val (.int (own_ix ((own_be (3 : Int32) (own_b y1) (own_b y2) (own_b y3) (own_b y4) (own_b y5)) + (1 : Int32)) (own_b y1) (own_b y2) (own_b y3) (own_b y4) (own_b y5)))] [(.int (own_ix ((own_be (4 : Int32) (own_b y1) (own_b y2) (own_b y3) (own_b y4) (own_b y5)) + (1 : Int32)) (own_b y1) (own_b y2) (own_b y3) (own_b y4) (own_b y5)))]))
            refine OGo.via (fun _ k => XS.istore X22.here hx rfl (hb hby d8_18) rfl (l' := #[.val (.ref a1), .val (.int p2), .val (.int (own_be (4 : Int32) (own_b y1) (own_b y2) (own_b y3) (own_b y4) (own_b y5))), .val (.int (4 : Int32)), .val (.int (own_ix ((own_be (4 : Int32) (own_b y1) (own_b y2) (own_b y3) (own_b y4) (own_b y5)) + (1 : Int32)) (own_b y1) (own_b y2) (own_b y3) (own_b y4) (own_b y5)))]) rfl (XS.iload X22.here hx rfl (hb hby d8_20) rfl k)) ?_
            have jn23 : OJn p.tables e below (fun T' (en5 : Int32) => own_St X22 n0 T' ∧ T'.heap = h0 ∧ (en5 = own_nx (own_be (4 : Int32) (own_b y1) (own_b y2) (own_b y3) (own_b y4) (own_b y5)) (own_b y1) (own_b y2) (own_b y3) (own_b y4) (own_b y5))) (fun en5 => (mkF m 34 #[.val (.ref a1), .val (.int p2), .val (.int (own_be (4 : Int32) (own_b y1) (own_b y2) (own_b y3) (own_b y4) (own_b y5))), .val (.int (4 : Int32)), .val (.int (own_ix ((own_be (4 : Int32) (own_b y1) (own_b y2) (own_b y3) (own_b y4) (own_b y5)) + (1 : Int32)) (own_b y1) (own_b y2) (own_b y3) (own_b y4) (own_b y5)))] [(.int en5)])) (T22.setTop (mkF m 22 #[.val (.ref a1), .val (.int p2), .val (.int (own_be (4 : Int32) (own_b y1) (own_b y2) (own_b y3) (own_b y4) (own_b y5))), .val (.int (4 : Int32)), .val (.int (own_ix ((own_be (4 : Int32) (own_b y1) (own_b y2) (own_b y3) (own_b y4) (own_b y5)) + (1 : Int32)) (own_b y1) (own_b y2) (own_b y3) (own_b y4) (own_b y5)))] [(.int (own_ix ((own_be (4 : Int32) (own_b y1) (own_b y2) (own_b y3) (own_b y4) (own_b y5)) + (1 : Int32)) (own_b y1) (own_b y2) (own_b y3) (own_b y4) (own_b y5)))])) := by
              by_cases hc22_24 : (own_ix ((own_be (4 : Int32) (own_b y1) (own_b y2) (own_b y3) (own_b y4) (own_b y5)) + (1 : Int32)) (own_b y1) (own_b y2) (own_b y3) (own_b y4) (own_b y5)) < (0 : Int32)
              · refine OJn.via (fun _ k => XS.ifNo X22.here hx rfl (hb hby d8_22) rfl ((if0 _ _).trans (tlt hc22_24).2.1) k) ?_
                show OJn _ _ _ _ _ (T22.setTop (mkF m 25 #[.val (.ref a1), .val (.int p2), .val (.int (own_be (4 : Int32) (own_b y1) (own_b y2) (own_b y3) (own_b y4) (own_b y5))), .val (.int (4 : Int32)), .val (.int (own_ix ((own_be (4 : Int32) (own_b y1) (own_b y2) (own_b y3) (own_b y4) (own_b y5)) + (1 : Int32)) (own_b y1) (own_b y2) (own_b y3) (own_b y4) (own_b y5)))] []))
                refine OJn.via (fun _ k => XS.aloadN X22.here hx rfl (hb hby d8_25) rfl rfl k) ?_
                obtain ⟨cq25, kq25, q25a, q25b, q25c⟩ := isOf hZ r22_0 E_a1
                obtain ⟨_, T25, Lc25, X25, hQ25, st25⟩ := own_open X22 (X22.virtualBack hx (y := own_y9) (z := own_y9) hown (mvT hZ (own_w hw 75 rfl)) (mvT hZ (own_w hw 49 rfl)) (notFace_of_selects (args := #[]) (mvT hZ (own_w hw 51 rfl))) (mvT hZ (own_w hw 51 rfl)) (mvT hZ (own_w hw 50 rfl)) (by decide) (backOf (W := 0) (rm11 l Z a0 hw [] a1 w vb kb [(.int y0), (.int y1), (.int y2), (.int y3), (.int y4), (.int y5)] h0 n0 Z0 E_a1 F_value_a1 F_coder_a1 V_vb S_COMPACT_STRINGS hw0) hZ (own_w hw 52 rfl) (own_w hw 7 rfl) (by decide) (by decide)) q25a q25c (g := (mkF m 26 #[.val (.ref a1), .val (.int p2), .val (.int (own_be (4 : Int32) (own_b y1) (own_b y2) (own_b y3) (own_b y4) (own_b y5))), .val (.int (4 : Int32)), .val (.int (own_ix ((own_be (4 : Int32) (own_b y1) (own_b y2) (own_b y3) (own_b y4) (own_b y5)) + (1 : Int32)) (own_b y1) (own_b y2) (own_b y3) (own_b y4) (own_b y5)))] [(.ref a1)])) rfl (by rw [hml]; rfl) (Steps.refl _) (argsL := []) (rest := []) (lenOf pd_9 rfl) rfl (by show 2 * 0 + _ ≤ _; exact Nat.le_of_eq rfl) (hb hby d8_26) (fun _ _ => ⟨rfl, r22_0, (by decide : 0 + 0 ≤ _), (by decide : 0 + 0 ≤ _)⟩))
                obtain ⟨rfl, N25q, r25_0⟩ := hQ25
                have N25 := Fr.app N22 N25q
                refine OJn.via (fun _ k => st25.trans k) ?_
                show OJn _ _ _ _ _ (T25.setTop (mkF m 29 #[.val (.ref a1), .val (.int p2), .val (.int (own_be (4 : Int32) (own_b y1) (own_b y2) (own_b y3) (own_b y4) (own_b y5))), .val (.int (4 : Int32)), .val (.int (own_ix ((own_be (4 : Int32) (own_b y1) (own_b y2) (own_b y3) (own_b y4) (own_b y5)) + (1 : Int32)) (own_b y1) (own_b y2) (own_b y3) (own_b y4) (own_b y5)))] [(.int (6 : Int32))]))
                refine OJn.via (fun _ k => XS.goto X25.here hx rfl (pc0 := 29) (pc' := 34) rfl (hb hby d8_29) (by decide) (by decide) k) ?_
                show OJn _ _ _ _ _ (T25.setTop (mkF m 34 #[.val (.ref a1), .val (.int p2), .val (.int (own_be (4 : Int32) (own_b y1) (own_b y2) (own_b y3) (own_b y4) (own_b y5))), .val (.int (4 : Int32)), .val (.int (own_ix ((own_be (4 : Int32) (own_b y1) (own_b y2) (own_b y3) (own_b y4) (own_b y5)) + (1 : Int32)) (own_b y1) (own_b y2) (own_b y3) (own_b y4) (own_b y5)))] [(.int (6 : Int32))]))
                exact ⟨_, (6 : Int32), ⟨⟨_, X25, N25⟩, r25_0, (by rw [own_nx, if_pos hc22_24])⟩, fun _ k => k⟩
              · refine OJn.via (fun _ k => XS.ifYes X22.here hx rfl (pc0 := 22) (pc' := 32) rfl (hb hby d8_22) rfl ((if0 _ _).trans (flt hc22_24).2.1) (by decide) (by decide) k) ?_
                show OJn _ _ _ _ _ (T22.setTop (mkF m 32 #[.val (.ref a1), .val (.int p2), .val (.int (own_be (4 : Int32) (own_b y1) (own_b y2) (own_b y3) (own_b y4) (own_b y5))), .val (.int (4 : Int32)), .val (.int (own_ix ((own_be (4 : Int32) (own_b y1) (own_b y2) (own_b y3) (own_b y4) (own_b y5)) + (1 : Int32)) (own_b y1) (own_b y2) (own_b y3) (own_b y4) (own_b y5)))] []))
                refine OJn.via (fun _ k => XS.iload X22.here hx rfl (hb hby d8_32) rfl k) ?_
                show OJn _ _ _ _ _ (T22.setTop (mkF m 34 #[.val (.ref a1), .val (.int p2), .val (.int (own_be (4 : Int32) (own_b y1) (own_b y2) (own_b y3) (own_b y4) (own_b y5))), .val (.int (4 : Int32)), .val (.int (own_ix ((own_be (4 : Int32) (own_b y1) (own_b y2) (own_b y3) (own_b y4) (own_b y5)) + (1 : Int32)) (own_b y1) (own_b y2) (own_b y3) (own_b y4) (own_b y5)))] [(.int (own_ix ((own_be (4 : Int32) (own_b y1) (own_b y2) (own_b y3) (own_b y4) (own_b y5)) + (1 : Int32)) (own_b y1) (own_b y2) (own_b y3) (own_b y4) (own_b y5)))]))
                exact ⟨_, (own_ix ((own_be (4 : Int32) (own_b y1) (own_b y2) (own_b y3) (own_b y4) (own_b y5)) + (1 : Int32)) (own_b y1) (own_b y2) (own_b y3) (own_b y4) (own_b y5)), ⟨⟨_, X22, N22⟩, r22_0, (by rw [own_nx, if_neg hc22_24])⟩, fun _ k => k⟩
            obtain ⟨T23, en5, ⟨⟨locs23, X23, N23⟩, e23, hj23⟩, st23⟩ := jn23
            refine OGo.via st23 ?_
            show OGo _ _ _ _ (T23.setTop (mkF m 34 #[.val (.ref a1), .val (.int p2), .val (.int (own_be (4 : Int32) (own_b y1) (own_b y2) (own_b y3) (own_b y4) (own_b y5))), .val (.int (4 : Int32)), .val (.int (own_ix ((own_be (4 : Int32) (own_b y1) (own_b y2) (own_b y3) (own_b y4) (own_b y5)) + (1 : Int32)) (own_b y1) (own_b y2) (own_b y3) (own_b y4) (own_b y5)))] [(.int en5)]))
            have he5 : en5 = (own_be (5 : Int32) (own_b y1) (own_b y2) (own_b y3) (own_b y4) (own_b y5)) := by rw [hj23]; exact own_stp y1 y2 y3 y4 y5 4
            rw [he5]
            show OGo _ _ _ _ (T23.setTop (mkF m 34 #[.val (.ref a1), .val (.int p2), .val (.int (own_be (4 : Int32) (own_b y1) (own_b y2) (own_b y3) (own_b y4) (own_b y5))), .val (.int (4 : Int32)), .val (.int (own_ix ((own_be (4 : Int32) (own_b y1) (own_b y2) (own_b y3) (own_b y4) (own_b y5)) + (1 : Int32)) (own_b y1) (own_b y2) (own_b y3) (own_b y4) (own_b y5)))] [(.int (own_be (5 : Int32) (own_b y1) (own_b y2) (own_b y3) (own_b y4) (own_b y5)))]))
            refine OGo.via (fun _ k => XS.istoreN X23.here hx rfl (hb hby d8_34) rfl (l' := #[.val (.ref a1), .val (.int p2), .val (.int (own_be (5 : Int32) (own_b y1) (own_b y2) (own_b y3) (own_b y4) (own_b y5))), .val (.int (4 : Int32)), .val (.int (own_ix ((own_be (4 : Int32) (own_b y1) (own_b y2) (own_b y3) (own_b y4) (own_b y5)) + (1 : Int32)) (own_b y1) (own_b y2) (own_b y3) (own_b y4) (own_b y5)))]) rfl (XS.iinc X23.here hx rfl (hb hby d8_35) rfl (l' := #[.val (.ref a1), .val (.int p2), .val (.int (own_be (5 : Int32) (own_b y1) (own_b y2) (own_b y3) (own_b y4) (own_b y5))), .val (.int ((4 : Int32) + (1 : Int32))), .val (.int (own_ix ((own_be (4 : Int32) (own_b y1) (own_b y2) (own_b y3) (own_b y4) (own_b y5)) + (1 : Int32)) (own_b y1) (own_b y2) (own_b y3) (own_b y4) (own_b y5)))]) rfl k)) ?_
            show OGo _ _ _ _ (T23.setTop (mkF m 38 #[.val (.ref a1), .val (.int p2), .val (.int (own_be (5 : Int32) (own_b y1) (own_b y2) (own_b y3) (own_b y4) (own_b y5))), .val (.int ((4 : Int32) + (1 : Int32))), .val (.int (own_ix ((own_be (4 : Int32) (own_b y1) (own_b y2) (own_b y3) (own_b y4) (own_b y5)) + (1 : Int32)) (own_b y1) (own_b y2) (own_b y3) (own_b y4) (own_b y5)))] []))
            rw [show ((4 : Int32) + (1 : Int32)) = (5 : Int32) from by decide]
            refine OGo.via (fun _ k => XS.goto X23.here hx rfl (pc0 := 38) (pc' := 4) rfl (hb hby d8_38) (by decide) (by decide) k) ?_
            refine OGo.via (fun _ k => XS.iloadN X23.here hx rfl (hb hby d8_4) rfl (XS.iloadN X23.here hx rfl (hb hby d8_5) rfl k)) ?_
            by_cases hl5 : (5 : Int32) < p2
            · refine OGo.via (fun _ k => XS.icmpNo X23.here hx rfl (hb hby d8_6) rfl (tlt hl5).2.1 k) ?_
              show OGo _ _ _ _ (T23.setTop (mkF m 9 #[.val (.ref a1), .val (.int p2), .val (.int (own_be (5 : Int32) (own_b y1) (own_b y2) (own_b y3) (own_b y4) (own_b y5))), .val (.int (5 : Int32)), .val (.int (own_ix ((own_be (4 : Int32) (own_b y1) (own_b y2) (own_b y3) (own_b y4) (own_b y5)) + (1 : Int32)) (own_b y1) (own_b y2) (own_b y3) (own_b y4) (own_b y5)))] []))
              refine OGo.via (fun _ k => XS.aloadN X23.here hx rfl (hb hby d8_9) rfl rfl (XS.bipush X23.here hx rfl (hb hby d8_10) (XS.iloadN X23.here hx rfl (hb hby d8_12) rfl (XS.iconst X23.here hx rfl (hb hby d8_13) (XS.iadd X23.here hx rfl (hb hby d8_14) rfl k))))) ?_
              obtain ⟨cq27, kq27, q27a, q27b, q27c⟩ := isOf hZ e23 E_a1
              obtain ⟨_, T27, Lc27, X27, hQ27, st27⟩ := own_open X23 (X23.virtualBack hx (y := own_y14) (z := own_y14) hown (mvT hZ (own_w hw 38 rfl)) (mvT hZ (own_w hw 39 rfl)) (notFace_of_selects (args := #[]) (mvT hZ (own_w hw 41 rfl))) (mvT hZ (own_w hw 41 rfl)) (mvT hZ (own_w hw 40 rfl)) (by decide) (backOf (W := 0) (rm9 l Z a0 hw [] a1 ((own_be (5 : Int32) (own_b y1) (own_b y2) (own_b y3) (own_b y4) (own_b y5)) + (1 : Int32)) w vb kb y0 y1 y2 y3 y4 y5 h0 n0 Z0 E_a1 F_value_a1 F_coder_a1 V_vb S_COMPACT_STRINGS hw0 (own_rg y1 y2 y3 y4 y5 5)) hZ (own_w hw 42 rfl) (own_w hw 7 rfl) (by decide) (by decide)) q27a q27c (g := (mkF m 15 #[.val (.ref a1), .val (.int p2), .val (.int (own_be (5 : Int32) (own_b y1) (own_b y2) (own_b y3) (own_b y4) (own_b y5))), .val (.int (5 : Int32)), .val (.int (own_ix ((own_be (4 : Int32) (own_b y1) (own_b y2) (own_b y3) (own_b y4) (own_b y5)) + (1 : Int32)) (own_b y1) (own_b y2) (own_b y3) (own_b y4) (own_b y5)))] [(.int ((own_be (5 : Int32) (own_b y1) (own_b y2) (own_b y3) (own_b y4) (own_b y5)) + (1 : Int32))), (.int (47 : Int32)), (.ref a1)])) rfl (by rw [hml]; rfl) (Steps.refl _) (argsL := [(.int (47 : Int32)), (.int ((own_be (5 : Int32) (own_b y1) (own_b y2) (own_b y3) (own_b y4) (own_b y5)) + (1 : Int32)))]) (rest := []) (lenOf pd_6 rfl) rfl (by show 2 * 0 + _ ≤ _; exact Nat.le_of_eq rfl) (hb hby d8_15) (fun _ _ => ⟨rfl, e23, (by decide : 0 + 0 ≤ _), (by decide : 0 + 0 ≤ _)⟩))
              obtain ⟨rfl, N27q, r27_0⟩ := hQ27
              have N27 := Fr.app N23 N27q
              refine OGo.via (fun _ k => st27.trans k) ?_
              show OGo _ _ _ _ (T27.setTop (mkF m 18 #[.val (.ref a1), .val (.int p2), .val (.int (own_be (5 : Int32) (own_b y1) (own_b y2) (own_b y3) (own_b y4) (own_b y5))), .val (.int (5 : Int32)), .val (.int (own_ix ((own_be (4 : Int32) (own_b y1) (own_b y2) (own_b y3) (own_b y4) (own_b y5)) + (1 : Int32)) (own_b y1) (own_b y2) (own_b y3) (own_b y4) (own_b y5)))] [(.int (own_ix ((own_be (5 : Int32) (own_b y1) (own_b y2) (own_b y3) (own_b y4) (own_b y5)) + (1 : Int32)) (own_b y1) (own_b y2) (own_b y3) (own_b y4) (own_b y5)))]))
              refine OGo.via (fun _ k => XS.istore X27.here hx rfl (hb hby d8_18) rfl (l' := #[.val (.ref a1), .val (.int p2), .val (.int (own_be (5 : Int32) (own_b y1) (own_b y2) (own_b y3) (own_b y4) (own_b y5))), .val (.int (5 : Int32)), .val (.int (own_ix ((own_be (5 : Int32) (own_b y1) (own_b y2) (own_b y3) (own_b y4) (own_b y5)) + (1 : Int32)) (own_b y1) (own_b y2) (own_b y3) (own_b y4) (own_b y5)))]) rfl (XS.iload X27.here hx rfl (hb hby d8_20) rfl k)) ?_
              have jn28 : OJn p.tables e below (fun T' (en6 : Int32) => own_St X27 n0 T' ∧ T'.heap = h0 ∧ (en6 = own_nx (own_be (5 : Int32) (own_b y1) (own_b y2) (own_b y3) (own_b y4) (own_b y5)) (own_b y1) (own_b y2) (own_b y3) (own_b y4) (own_b y5))) (fun en6 => (mkF m 34 #[.val (.ref a1), .val (.int p2), .val (.int (own_be (5 : Int32) (own_b y1) (own_b y2) (own_b y3) (own_b y4) (own_b y5))), .val (.int (5 : Int32)), .val (.int (own_ix ((own_be (5 : Int32) (own_b y1) (own_b y2) (own_b y3) (own_b y4) (own_b y5)) + (1 : Int32)) (own_b y1) (own_b y2) (own_b y3) (own_b y4) (own_b y5)))] [(.int en6)])) (T27.setTop (mkF m 22 #[.val (.ref a1), .val (.int p2), .val (.int (own_be (5 : Int32) (own_b y1) (own_b y2) (own_b y3) (own_b y4) (own_b y5))), .val (.int (5 : Int32)), .val (.int (own_ix ((own_be (5 : Int32) (own_b y1) (own_b y2) (own_b y3) (own_b y4) (own_b y5)) + (1 : Int32)) (own_b y1) (own_b y2) (own_b y3) (own_b y4) (own_b y5)))] [(.int (own_ix ((own_be (5 : Int32) (own_b y1) (own_b y2) (own_b y3) (own_b y4) (own_b y5)) + (1 : Int32)) (own_b y1) (own_b y2) (own_b y3) (own_b y4) (own_b y5)))])) := by
                by_cases hc22_29 : (own_ix ((own_be (5 : Int32) (own_b y1) (own_b y2) (own_b y3) (own_b y4) (own_b y5)) + (1 : Int32)) (own_b y1) (own_b y2) (own_b y3) (own_b y4) (own_b y5)) < (0 : Int32)
                · refine OJn.via (fun _ k => XS.ifNo X27.here hx rfl (hb hby d8_22) rfl ((if0 _ _).trans (tlt hc22_29).2.1) k) ?_
                  show OJn _ _ _ _ _ (T27.setTop (mkF m 25 #[.val (.ref a1), .val (.int p2), .val (.int (own_be (5 : Int32) (own_b y1) (own_b y2) (own_b y3) (own_b y4) (own_b y5))), .val (.int (5 : Int32)), .val (.int (own_ix ((own_be (5 : Int32) (own_b y1) (own_b y2) (own_b y3) (own_b y4) (own_b y5)) + (1 : Int32)) (own_b y1) (own_b y2) (own_b y3) (own_b y4) (own_b y5)))] []))
                  refine OJn.via (fun _ k => XS.aloadN X27.here hx rfl (hb hby d8_25) rfl rfl k) ?_
                  obtain ⟨cq30, kq30, q30a, q30b, q30c⟩ := isOf hZ r27_0 E_a1
                  obtain ⟨_, T30, Lc30, X30, hQ30, st30⟩ := own_open X27 (X27.virtualBack hx (y := own_y9) (z := own_y9) hown (mvT hZ (own_w hw 75 rfl)) (mvT hZ (own_w hw 49 rfl)) (notFace_of_selects (args := #[]) (mvT hZ (own_w hw 51 rfl))) (mvT hZ (own_w hw 51 rfl)) (mvT hZ (own_w hw 50 rfl)) (by decide) (backOf (W := 0) (rm11 l Z a0 hw [] a1 w vb kb [(.int y0), (.int y1), (.int y2), (.int y3), (.int y4), (.int y5)] h0 n0 Z0 E_a1 F_value_a1 F_coder_a1 V_vb S_COMPACT_STRINGS hw0) hZ (own_w hw 52 rfl) (own_w hw 7 rfl) (by decide) (by decide)) q30a q30c (g := (mkF m 26 #[.val (.ref a1), .val (.int p2), .val (.int (own_be (5 : Int32) (own_b y1) (own_b y2) (own_b y3) (own_b y4) (own_b y5))), .val (.int (5 : Int32)), .val (.int (own_ix ((own_be (5 : Int32) (own_b y1) (own_b y2) (own_b y3) (own_b y4) (own_b y5)) + (1 : Int32)) (own_b y1) (own_b y2) (own_b y3) (own_b y4) (own_b y5)))] [(.ref a1)])) rfl (by rw [hml]; rfl) (Steps.refl _) (argsL := []) (rest := []) (lenOf pd_9 rfl) rfl (by show 2 * 0 + _ ≤ _; exact Nat.le_of_eq rfl) (hb hby d8_26) (fun _ _ => ⟨rfl, r27_0, (by decide : 0 + 0 ≤ _), (by decide : 0 + 0 ≤ _)⟩))
                  obtain ⟨rfl, N30q, r30_0⟩ := hQ30
                  have N30 := Fr.app N27 N30q
                  refine OJn.via (fun _ k => st30.trans k) ?_
                  show OJn _ _ _ _ _ (T30.setTop (mkF m 29 #[.val (.ref a1), .val (.int p2), .val (.int (own_be (5 : Int32) (own_b y1) (own_b y2) (own_b y3) (own_b y4) (own_b y5))), .val (.int (5 : Int32)), .val (.int (own_ix ((own_be (5 : Int32) (own_b y1) (own_b y2) (own_b y3) (own_b y4) (own_b y5)) + (1 : Int32)) (own_b y1) (own_b y2) (own_b y3) (own_b y4) (own_b y5)))] [(.int (6 : Int32))]))
                  refine OJn.via (fun _ k => XS.goto X30.here hx rfl (pc0 := 29) (pc' := 34) rfl (hb hby d8_29) (by decide) (by decide) k) ?_
                  show OJn _ _ _ _ _ (T30.setTop (mkF m 34 #[.val (.ref a1), .val (.int p2), .val (.int (own_be (5 : Int32) (own_b y1) (own_b y2) (own_b y3) (own_b y4) (own_b y5))), .val (.int (5 : Int32)), .val (.int (own_ix ((own_be (5 : Int32) (own_b y1) (own_b y2) (own_b y3) (own_b y4) (own_b y5)) + (1 : Int32)) (own_b y1) (own_b y2) (own_b y3) (own_b y4) (own_b y5)))] [(.int (6 : Int32))]))
                  exact ⟨_, (6 : Int32), ⟨⟨_, X30, N30⟩, r30_0, (by rw [own_nx, if_pos hc22_29])⟩, fun _ k => k⟩
                · refine OJn.via (fun _ k => XS.ifYes X27.here hx rfl (pc0 := 22) (pc' := 32) rfl (hb hby d8_22) rfl ((if0 _ _).trans (flt hc22_29).2.1) (by decide) (by decide) k) ?_
                  show OJn _ _ _ _ _ (T27.setTop (mkF m 32 #[.val (.ref a1), .val (.int p2), .val (.int (own_be (5 : Int32) (own_b y1) (own_b y2) (own_b y3) (own_b y4) (own_b y5))), .val (.int (5 : Int32)), .val (.int (own_ix ((own_be (5 : Int32) (own_b y1) (own_b y2) (own_b y3) (own_b y4) (own_b y5)) + (1 : Int32)) (own_b y1) (own_b y2) (own_b y3) (own_b y4) (own_b y5)))] []))
                  refine OJn.via (fun _ k => XS.iload X27.here hx rfl (hb hby d8_32) rfl k) ?_
                  show OJn _ _ _ _ _ (T27.setTop (mkF m 34 #[.val (.ref a1), .val (.int p2), .val (.int (own_be (5 : Int32) (own_b y1) (own_b y2) (own_b y3) (own_b y4) (own_b y5))), .val (.int (5 : Int32)), .val (.int (own_ix ((own_be (5 : Int32) (own_b y1) (own_b y2) (own_b y3) (own_b y4) (own_b y5)) + (1 : Int32)) (own_b y1) (own_b y2) (own_b y3) (own_b y4) (own_b y5)))] [(.int (own_ix ((own_be (5 : Int32) (own_b y1) (own_b y2) (own_b y3) (own_b y4) (own_b y5)) + (1 : Int32)) (own_b y1) (own_b y2) (own_b y3) (own_b y4) (own_b y5)))]))
                  exact ⟨_, (own_ix ((own_be (5 : Int32) (own_b y1) (own_b y2) (own_b y3) (own_b y4) (own_b y5)) + (1 : Int32)) (own_b y1) (own_b y2) (own_b y3) (own_b y4) (own_b y5)), ⟨⟨_, X27, N27⟩, r27_0, (by rw [own_nx, if_neg hc22_29])⟩, fun _ k => k⟩
              obtain ⟨T28, en6, ⟨⟨locs28, X28, N28⟩, e28, hj28⟩, st28⟩ := jn28
              refine OGo.via st28 ?_
              show OGo _ _ _ _ (T28.setTop (mkF m 34 #[.val (.ref a1), .val (.int p2), .val (.int (own_be (5 : Int32) (own_b y1) (own_b y2) (own_b y3) (own_b y4) (own_b y5))), .val (.int (5 : Int32)), .val (.int (own_ix ((own_be (5 : Int32) (own_b y1) (own_b y2) (own_b y3) (own_b y4) (own_b y5)) + (1 : Int32)) (own_b y1) (own_b y2) (own_b y3) (own_b y4) (own_b y5)))] [(.int en6)]))
              have he6 : en6 = (own_be (6 : Int32) (own_b y1) (own_b y2) (own_b y3) (own_b y4) (own_b y5)) := by rw [hj28]; exact own_stp y1 y2 y3 y4 y5 5
              rw [he6]
              show OGo _ _ _ _ (T28.setTop (mkF m 34 #[.val (.ref a1), .val (.int p2), .val (.int (own_be (5 : Int32) (own_b y1) (own_b y2) (own_b y3) (own_b y4) (own_b y5))), .val (.int (5 : Int32)), .val (.int (own_ix ((own_be (5 : Int32) (own_b y1) (own_b y2) (own_b y3) (own_b y4) (own_b y5)) + (1 : Int32)) (own_b y1) (own_b y2) (own_b y3) (own_b y4) (own_b y5)))] [(.int (own_be (6 : Int32) (own_b y1) (own_b y2) (own_b y3) (own_b y4) (own_b y5)))]))
              refine OGo.via (fun _ k => XS.istoreN X28.here hx rfl (hb hby d8_34) rfl (l' := #[.val (.ref a1), .val (.int p2), .val (.int (own_be (6 : Int32) (own_b y1) (own_b y2) (own_b y3) (own_b y4) (own_b y5))), .val (.int (5 : Int32)), .val (.int (own_ix ((own_be (5 : Int32) (own_b y1) (own_b y2) (own_b y3) (own_b y4) (own_b y5)) + (1 : Int32)) (own_b y1) (own_b y2) (own_b y3) (own_b y4) (own_b y5)))]) rfl (XS.iinc X28.here hx rfl (hb hby d8_35) rfl (l' := #[.val (.ref a1), .val (.int p2), .val (.int (own_be (6 : Int32) (own_b y1) (own_b y2) (own_b y3) (own_b y4) (own_b y5))), .val (.int ((5 : Int32) + (1 : Int32))), .val (.int (own_ix ((own_be (5 : Int32) (own_b y1) (own_b y2) (own_b y3) (own_b y4) (own_b y5)) + (1 : Int32)) (own_b y1) (own_b y2) (own_b y3) (own_b y4) (own_b y5)))]) rfl k)) ?_
              show OGo _ _ _ _ (T28.setTop (mkF m 38 #[.val (.ref a1), .val (.int p2), .val (.int (own_be (6 : Int32) (own_b y1) (own_b y2) (own_b y3) (own_b y4) (own_b y5))), .val (.int ((5 : Int32) + (1 : Int32))), .val (.int (own_ix ((own_be (5 : Int32) (own_b y1) (own_b y2) (own_b y3) (own_b y4) (own_b y5)) + (1 : Int32)) (own_b y1) (own_b y2) (own_b y3) (own_b y4) (own_b y5)))] []))
              rw [show ((5 : Int32) + (1 : Int32)) = (6 : Int32) from by decide]
              refine OGo.via (fun _ k => XS.goto X28.here hx rfl (pc0 := 38) (pc' := 4) rfl (hb hby d8_38) (by decide) (by decide) k) ?_
              refine OGo.via (fun _ k => XS.iloadN X28.here hx rfl (hb hby d8_4) rfl (XS.iloadN X28.here hx rfl (hb hby d8_5) rfl k)) ?_
              by_cases hl6 : (6 : Int32) < p2
              · refine OGo.via (fun _ k => XS.icmpNo X28.here hx rfl (hb hby d8_6) rfl (tlt hl6).2.1 k) ?_
                show OGo _ _ _ _ (T28.setTop (mkF m 9 #[.val (.ref a1), .val (.int p2), .val (.int (own_be (6 : Int32) (own_b y1) (own_b y2) (own_b y3) (own_b y4) (own_b y5))), .val (.int (6 : Int32)), .val (.int (own_ix ((own_be (5 : Int32) (own_b y1) (own_b y2) (own_b y3) (own_b y4) (own_b y5)) + (1 : Int32)) (own_b y1) (own_b y2) (own_b y3) (own_b y4) (own_b y5)))] []))
                refine OGo.via (fun _ k => XS.aloadN X28.here hx rfl (hb hby d8_9) rfl rfl (XS.bipush X28.here hx rfl (hb hby d8_10) (XS.iloadN X28.here hx rfl (hb hby d8_12) rfl (XS.iconst X28.here hx rfl (hb hby d8_13) (XS.iadd X28.here hx rfl (hb hby d8_14) rfl k))))) ?_
                obtain ⟨cq32, kq32, q32a, q32b, q32c⟩ := isOf hZ e28 E_a1
                obtain ⟨_, T32, Lc32, X32, hQ32, st32⟩ := own_open X28 (X28.virtualBack hx (y := own_y14) (z := own_y14) hown (mvT hZ (own_w hw 38 rfl)) (mvT hZ (own_w hw 39 rfl)) (notFace_of_selects (args := #[]) (mvT hZ (own_w hw 41 rfl))) (mvT hZ (own_w hw 41 rfl)) (mvT hZ (own_w hw 40 rfl)) (by decide) (backOf (W := 0) (rm9 l Z a0 hw [] a1 ((own_be (6 : Int32) (own_b y1) (own_b y2) (own_b y3) (own_b y4) (own_b y5)) + (1 : Int32)) w vb kb y0 y1 y2 y3 y4 y5 h0 n0 Z0 E_a1 F_value_a1 F_coder_a1 V_vb S_COMPACT_STRINGS hw0 (own_rg y1 y2 y3 y4 y5 6)) hZ (own_w hw 42 rfl) (own_w hw 7 rfl) (by decide) (by decide)) q32a q32c (g := (mkF m 15 #[.val (.ref a1), .val (.int p2), .val (.int (own_be (6 : Int32) (own_b y1) (own_b y2) (own_b y3) (own_b y4) (own_b y5))), .val (.int (6 : Int32)), .val (.int (own_ix ((own_be (5 : Int32) (own_b y1) (own_b y2) (own_b y3) (own_b y4) (own_b y5)) + (1 : Int32)) (own_b y1) (own_b y2) (own_b y3) (own_b y4) (own_b y5)))] [(.int ((own_be (6 : Int32) (own_b y1) (own_b y2) (own_b y3) (own_b y4) (own_b y5)) + (1 : Int32))), (.int (47 : Int32)), (.ref a1)])) rfl (by rw [hml]; rfl) (Steps.refl _) (argsL := [(.int (47 : Int32)), (.int ((own_be (6 : Int32) (own_b y1) (own_b y2) (own_b y3) (own_b y4) (own_b y5)) + (1 : Int32)))]) (rest := []) (lenOf pd_6 rfl) rfl (by show 2 * 0 + _ ≤ _; exact Nat.le_of_eq rfl) (hb hby d8_15) (fun _ _ => ⟨rfl, e28, (by decide : 0 + 0 ≤ _), (by decide : 0 + 0 ≤ _)⟩))
                obtain ⟨rfl, N32q, r32_0⟩ := hQ32
                have N32 := Fr.app N28 N32q
                refine OGo.via (fun _ k => st32.trans k) ?_
                show OGo _ _ _ _ (T32.setTop (mkF m 18 #[.val (.ref a1), .val (.int p2), .val (.int (own_be (6 : Int32) (own_b y1) (own_b y2) (own_b y3) (own_b y4) (own_b y5))), .val (.int (6 : Int32)), .val (.int (own_ix ((own_be (5 : Int32) (own_b y1) (own_b y2) (own_b y3) (own_b y4) (own_b y5)) + (1 : Int32)) (own_b y1) (own_b y2) (own_b y3) (own_b y4) (own_b y5)))] [(.int (own_ix ((own_be (6 : Int32) (own_b y1) (own_b y2) (own_b y3) (own_b y4) (own_b y5)) + (1 : Int32)) (own_b y1) (own_b y2) (own_b y3) (own_b y4) (own_b y5)))]))
                refine OGo.via (fun _ k => XS.istore X32.here hx rfl (hb hby d8_18) rfl (l' := #[.val (.ref a1), .val (.int p2), .val (.int (own_be (6 : Int32) (own_b y1) (own_b y2) (own_b y3) (own_b y4) (own_b y5))), .val (.int (6 : Int32)), .val (.int (own_ix ((own_be (6 : Int32) (own_b y1) (own_b y2) (own_b y3) (own_b y4) (own_b y5)) + (1 : Int32)) (own_b y1) (own_b y2) (own_b y3) (own_b y4) (own_b y5)))]) rfl (XS.iload X32.here hx rfl (hb hby d8_20) rfl k)) ?_
                have jn33 : OJn p.tables e below (fun T' (en7 : Int32) => own_St X32 n0 T' ∧ T'.heap = h0 ∧ (en7 = own_nx (own_be (6 : Int32) (own_b y1) (own_b y2) (own_b y3) (own_b y4) (own_b y5)) (own_b y1) (own_b y2) (own_b y3) (own_b y4) (own_b y5))) (fun en7 => (mkF m 34 #[.val (.ref a1), .val (.int p2), .val (.int (own_be (6 : Int32) (own_b y1) (own_b y2) (own_b y3) (own_b y4) (own_b y5))), .val (.int (6 : Int32)), .val (.int (own_ix ((own_be (6 : Int32) (own_b y1) (own_b y2) (own_b y3) (own_b y4) (own_b y5)) + (1 : Int32)) (own_b y1) (own_b y2) (own_b y3) (own_b y4) (own_b y5)))] [(.int en7)])) (T32.setTop (mkF m 22 #[.val (.ref a1), .val (.int p2), .val (.int (own_be (6 : Int32) (own_b y1) (own_b y2) (own_b y3) (own_b y4) (own_b y5))), .val (.int (6 : Int32)), .val (.int (own_ix ((own_be (6 : Int32) (own_b y1) (own_b y2) (own_b y3) (own_b y4) (own_b y5)) + (1 : Int32)) (own_b y1) (own_b y2) (own_b y3) (own_b y4) (own_b y5)))] [(.int (own_ix ((own_be (6 : Int32) (own_b y1) (own_b y2) (own_b y3) (own_b y4) (own_b y5)) + (1 : Int32)) (own_b y1) (own_b y2) (own_b y3) (own_b y4) (own_b y5)))])) := by
                  by_cases hc22_34 : (own_ix ((own_be (6 : Int32) (own_b y1) (own_b y2) (own_b y3) (own_b y4) (own_b y5)) + (1 : Int32)) (own_b y1) (own_b y2) (own_b y3) (own_b y4) (own_b y5)) < (0 : Int32)
                  · refine OJn.via (fun _ k => XS.ifNo X32.here hx rfl (hb hby d8_22) rfl ((if0 _ _).trans (tlt hc22_34).2.1) k) ?_
                    show OJn _ _ _ _ _ (T32.setTop (mkF m 25 #[.val (.ref a1), .val (.int p2), .val (.int (own_be (6 : Int32) (own_b y1) (own_b y2) (own_b y3) (own_b y4) (own_b y5))), .val (.int (6 : Int32)), .val (.int (own_ix ((own_be (6 : Int32) (own_b y1) (own_b y2) (own_b y3) (own_b y4) (own_b y5)) + (1 : Int32)) (own_b y1) (own_b y2) (own_b y3) (own_b y4) (own_b y5)))] []))
                    refine OJn.via (fun _ k => XS.aloadN X32.here hx rfl (hb hby d8_25) rfl rfl k) ?_
                    obtain ⟨cq35, kq35, q35a, q35b, q35c⟩ := isOf hZ r32_0 E_a1
                    obtain ⟨_, T35, Lc35, X35, hQ35, st35⟩ := own_open X32 (X32.virtualBack hx (y := own_y9) (z := own_y9) hown (mvT hZ (own_w hw 75 rfl)) (mvT hZ (own_w hw 49 rfl)) (notFace_of_selects (args := #[]) (mvT hZ (own_w hw 51 rfl))) (mvT hZ (own_w hw 51 rfl)) (mvT hZ (own_w hw 50 rfl)) (by decide) (backOf (W := 0) (rm11 l Z a0 hw [] a1 w vb kb [(.int y0), (.int y1), (.int y2), (.int y3), (.int y4), (.int y5)] h0 n0 Z0 E_a1 F_value_a1 F_coder_a1 V_vb S_COMPACT_STRINGS hw0) hZ (own_w hw 52 rfl) (own_w hw 7 rfl) (by decide) (by decide)) q35a q35c (g := (mkF m 26 #[.val (.ref a1), .val (.int p2), .val (.int (own_be (6 : Int32) (own_b y1) (own_b y2) (own_b y3) (own_b y4) (own_b y5))), .val (.int (6 : Int32)), .val (.int (own_ix ((own_be (6 : Int32) (own_b y1) (own_b y2) (own_b y3) (own_b y4) (own_b y5)) + (1 : Int32)) (own_b y1) (own_b y2) (own_b y3) (own_b y4) (own_b y5)))] [(.ref a1)])) rfl (by rw [hml]; rfl) (Steps.refl _) (argsL := []) (rest := []) (lenOf pd_9 rfl) rfl (by show 2 * 0 + _ ≤ _; exact Nat.le_of_eq rfl) (hb hby d8_26) (fun _ _ => ⟨rfl, r32_0, (by decide : 0 + 0 ≤ _), (by decide : 0 + 0 ≤ _)⟩))
                    obtain ⟨rfl, N35q, r35_0⟩ := hQ35
                    have N35 := Fr.app N32 N35q
                    refine OJn.via (fun _ k => st35.trans k) ?_
                    show OJn _ _ _ _ _ (T35.setTop (mkF m 29 #[.val (.ref a1), .val (.int p2), .val (.int (own_be (6 : Int32) (own_b y1) (own_b y2) (own_b y3) (own_b y4) (own_b y5))), .val (.int (6 : Int32)), .val (.int (own_ix ((own_be (6 : Int32) (own_b y1) (own_b y2) (own_b y3) (own_b y4) (own_b y5)) + (1 : Int32)) (own_b y1) (own_b y2) (own_b y3) (own_b y4) (own_b y5)))] [(.int (6 : Int32))]))
                    refine OJn.via (fun _ k => XS.goto X35.here hx rfl (pc0 := 29) (pc' := 34) rfl (hb hby d8_29) (by decide) (by decide) k) ?_
                    show OJn _ _ _ _ _ (T35.setTop (mkF m 34 #[.val (.ref a1), .val (.int p2), .val (.int (own_be (6 : Int32) (own_b y1) (own_b y2) (own_b y3) (own_b y4) (own_b y5))), .val (.int (6 : Int32)), .val (.int (own_ix ((own_be (6 : Int32) (own_b y1) (own_b y2) (own_b y3) (own_b y4) (own_b y5)) + (1 : Int32)) (own_b y1) (own_b y2) (own_b y3) (own_b y4) (own_b y5)))] [(.int (6 : Int32))]))
                    exact ⟨_, (6 : Int32), ⟨⟨_, X35, N35⟩, r35_0, (by rw [own_nx, if_pos hc22_34])⟩, fun _ k => k⟩
                  · refine OJn.via (fun _ k => XS.ifYes X32.here hx rfl (pc0 := 22) (pc' := 32) rfl (hb hby d8_22) rfl ((if0 _ _).trans (flt hc22_34).2.1) (by decide) (by decide) k) ?_
                    show OJn _ _ _ _ _ (T32.setTop (mkF m 32 #[.val (.ref a1), .val (.int p2), .val (.int (own_be (6 : Int32) (own_b y1) (own_b y2) (own_b y3) (own_b y4) (own_b y5))), .val (.int (6 : Int32)), .val (.int (own_ix ((own_be (6 : Int32) (own_b y1) (own_b y2) (own_b y3) (own_b y4) (own_b y5)) + (1 : Int32)) (own_b y1) (own_b y2) (own_b y3) (own_b y4) (own_b y5)))] []))
                    refine OJn.via (fun _ k => XS.iload X32.here hx rfl (hb hby d8_32) rfl k) ?_
                    show OJn _ _ _ _ _ (T32.setTop (mkF m 34 #[.val (.ref a1), .val (.int p2), .val (.int (own_be (6 : Int32) (own_b y1) (own_b y2) (own_b y3) (own_b y4) (own_b y5))), .val (.int (6 : Int32)), .val (.int (own_ix ((own_be (6 : Int32) (own_b y1) (own_b y2) (own_b y3) (own_b y4) (own_b y5)) + (1 : Int32)) (own_b y1) (own_b y2) (own_b y3) (own_b y4) (own_b y5)))] [(.int (own_ix ((own_be (6 : Int32) (own_b y1) (own_b y2) (own_b y3) (own_b y4) (own_b y5)) + (1 : Int32)) (own_b y1) (own_b y2) (own_b y3) (own_b y4) (own_b y5)))]))
                    exact ⟨_, (own_ix ((own_be (6 : Int32) (own_b y1) (own_b y2) (own_b y3) (own_b y4) (own_b y5)) + (1 : Int32)) (own_b y1) (own_b y2) (own_b y3) (own_b y4) (own_b y5)), ⟨⟨_, X32, N32⟩, r32_0, (by rw [own_nx, if_neg hc22_34])⟩, fun _ k => k⟩
                obtain ⟨T33, en7, ⟨⟨locs33, X33, N33⟩, e33, hj33⟩, st33⟩ := jn33
                refine OGo.via st33 ?_
                show OGo _ _ _ _ (T33.setTop (mkF m 34 #[.val (.ref a1), .val (.int p2), .val (.int (own_be (6 : Int32) (own_b y1) (own_b y2) (own_b y3) (own_b y4) (own_b y5))), .val (.int (6 : Int32)), .val (.int (own_ix ((own_be (6 : Int32) (own_b y1) (own_b y2) (own_b y3) (own_b y4) (own_b y5)) + (1 : Int32)) (own_b y1) (own_b y2) (own_b y3) (own_b y4) (own_b y5)))] [(.int en7)]))
                have he7 : en7 = (own_be (7 : Int32) (own_b y1) (own_b y2) (own_b y3) (own_b y4) (own_b y5)) := by rw [hj33]; exact own_stp y1 y2 y3 y4 y5 6
                rw [he7]
                show OGo _ _ _ _ (T33.setTop (mkF m 34 #[.val (.ref a1), .val (.int p2), .val (.int (own_be (6 : Int32) (own_b y1) (own_b y2) (own_b y3) (own_b y4) (own_b y5))), .val (.int (6 : Int32)), .val (.int (own_ix ((own_be (6 : Int32) (own_b y1) (own_b y2) (own_b y3) (own_b y4) (own_b y5)) + (1 : Int32)) (own_b y1) (own_b y2) (own_b y3) (own_b y4) (own_b y5)))] [(.int (own_be (7 : Int32) (own_b y1) (own_b y2) (own_b y3) (own_b y4) (own_b y5)))]))
                refine OGo.via (fun _ k => XS.istoreN X33.here hx rfl (hb hby d8_34) rfl (l' := #[.val (.ref a1), .val (.int p2), .val (.int (own_be (7 : Int32) (own_b y1) (own_b y2) (own_b y3) (own_b y4) (own_b y5))), .val (.int (6 : Int32)), .val (.int (own_ix ((own_be (6 : Int32) (own_b y1) (own_b y2) (own_b y3) (own_b y4) (own_b y5)) + (1 : Int32)) (own_b y1) (own_b y2) (own_b y3) (own_b y4) (own_b y5)))]) rfl (XS.iinc X33.here hx rfl (hb hby d8_35) rfl (l' := #[.val (.ref a1), .val (.int p2), .val (.int (own_be (7 : Int32) (own_b y1) (own_b y2) (own_b y3) (own_b y4) (own_b y5))), .val (.int ((6 : Int32) + (1 : Int32))), .val (.int (own_ix ((own_be (6 : Int32) (own_b y1) (own_b y2) (own_b y3) (own_b y4) (own_b y5)) + (1 : Int32)) (own_b y1) (own_b y2) (own_b y3) (own_b y4) (own_b y5)))]) rfl k)) ?_
                show OGo _ _ _ _ (T33.setTop (mkF m 38 #[.val (.ref a1), .val (.int p2), .val (.int (own_be (7 : Int32) (own_b y1) (own_b y2) (own_b y3) (own_b y4) (own_b y5))), .val (.int ((6 : Int32) + (1 : Int32))), .val (.int (own_ix ((own_be (6 : Int32) (own_b y1) (own_b y2) (own_b y3) (own_b y4) (own_b y5)) + (1 : Int32)) (own_b y1) (own_b y2) (own_b y3) (own_b y4) (own_b y5)))] []))
                rw [show ((6 : Int32) + (1 : Int32)) = (7 : Int32) from by decide]
                refine OGo.via (fun _ k => XS.goto X33.here hx rfl (pc0 := 38) (pc' := 4) rfl (hb hby d8_38) (by decide) (by decide) k) ?_
                refine OGo.via (fun _ k => XS.iloadN X33.here hx rfl (hb hby d8_4) rfl (XS.iloadN X33.here hx rfl (hb hby d8_5) rfl k)) ?_
                refine OGo.via (fun _ k => XS.icmpYes X33.here hx rfl (pc0 := 6) (pc' := 41) rfl (hb hby d8_6) rfl (flt hp7).2.1 (by decide) (by decide) k) ?_
                show OGo _ _ _ _ (T33.setTop (mkF m 41 #[.val (.ref a1), .val (.int p2), .val (.int (own_be (7 : Int32) (own_b y1) (own_b y2) (own_b y3) (own_b y4) (own_b y5))), .val (.int (7 : Int32)), .val (.int (own_ix ((own_be (6 : Int32) (own_b y1) (own_b y2) (own_b y3) (own_b y4) (own_b y5)) + (1 : Int32)) (own_b y1) (own_b y2) (own_b y3) (own_b y4) (own_b y5)))] []))
                refine OGo.via (fun _ k => XS.iloadN X33.here hx rfl (hb hby d8_41) rfl k) ?_
                show OGo _ _ _ _ (T33.setTop (mkF m 42 #[.val (.ref a1), .val (.int p2), .val (.int (own_be (7 : Int32) (own_b y1) (own_b y2) (own_b y3) (own_b y4) (own_b y5))), .val (.int (7 : Int32)), .val (.int (own_ix ((own_be (6 : Int32) (own_b y1) (own_b y2) (own_b y3) (own_b y4) (own_b y5)) + (1 : Int32)) (own_b y1) (own_b y2) (own_b y3) (own_b y4) (own_b y5)))] [(.int (own_be (7 : Int32) (own_b y1) (own_b y2) (own_b y3) (own_b y4) (own_b y5)))]))
                refine own_retI X33 hx Bd.notSynchronized Bd.returns (hb hby d8_42) (by decide) (by decide) ?_
                show Q_rm8 Z _ _ _ _ _ _ _ _ _ _ _ h0 n0 _ T33.heap _
                exact ⟨(by rw [own_exit hp7 hl6 (by decide)]), N33, e33⟩
              · refine OGo.via (fun _ k => XS.icmpYes X28.here hx rfl (pc0 := 6) (pc' := 41) rfl (hb hby d8_6) rfl (flt hl6).2.1 (by decide) (by decide) k) ?_
                show OGo _ _ _ _ (T28.setTop (mkF m 41 #[.val (.ref a1), .val (.int p2), .val (.int (own_be (6 : Int32) (own_b y1) (own_b y2) (own_b y3) (own_b y4) (own_b y5))), .val (.int (6 : Int32)), .val (.int (own_ix ((own_be (5 : Int32) (own_b y1) (own_b y2) (own_b y3) (own_b y4) (own_b y5)) + (1 : Int32)) (own_b y1) (own_b y2) (own_b y3) (own_b y4) (own_b y5)))] []))
                refine OGo.via (fun _ k => XS.iloadN X28.here hx rfl (hb hby d8_41) rfl k) ?_
                show OGo _ _ _ _ (T28.setTop (mkF m 42 #[.val (.ref a1), .val (.int p2), .val (.int (own_be (6 : Int32) (own_b y1) (own_b y2) (own_b y3) (own_b y4) (own_b y5))), .val (.int (6 : Int32)), .val (.int (own_ix ((own_be (5 : Int32) (own_b y1) (own_b y2) (own_b y3) (own_b y4) (own_b y5)) + (1 : Int32)) (own_b y1) (own_b y2) (own_b y3) (own_b y4) (own_b y5)))] [(.int (own_be (6 : Int32) (own_b y1) (own_b y2) (own_b y3) (own_b y4) (own_b y5)))]))
                refine own_retI X28 hx Bd.notSynchronized Bd.returns (hb hby d8_42) (by decide) (by decide) ?_
                show Q_rm8 Z _ _ _ _ _ _ _ _ _ _ _ h0 n0 _ T28.heap _
                exact ⟨(by rw [own_exit hl6 hl5 (by decide)]), N28, e28⟩
            · refine OGo.via (fun _ k => XS.icmpYes X23.here hx rfl (pc0 := 6) (pc' := 41) rfl (hb hby d8_6) rfl (flt hl5).2.1 (by decide) (by decide) k) ?_
              show OGo _ _ _ _ (T23.setTop (mkF m 41 #[.val (.ref a1), .val (.int p2), .val (.int (own_be (5 : Int32) (own_b y1) (own_b y2) (own_b y3) (own_b y4) (own_b y5))), .val (.int (5 : Int32)), .val (.int (own_ix ((own_be (4 : Int32) (own_b y1) (own_b y2) (own_b y3) (own_b y4) (own_b y5)) + (1 : Int32)) (own_b y1) (own_b y2) (own_b y3) (own_b y4) (own_b y5)))] []))
              refine OGo.via (fun _ k => XS.iloadN X23.here hx rfl (hb hby d8_41) rfl k) ?_
              show OGo _ _ _ _ (T23.setTop (mkF m 42 #[.val (.ref a1), .val (.int p2), .val (.int (own_be (5 : Int32) (own_b y1) (own_b y2) (own_b y3) (own_b y4) (own_b y5))), .val (.int (5 : Int32)), .val (.int (own_ix ((own_be (4 : Int32) (own_b y1) (own_b y2) (own_b y3) (own_b y4) (own_b y5)) + (1 : Int32)) (own_b y1) (own_b y2) (own_b y3) (own_b y4) (own_b y5)))] [(.int (own_be (5 : Int32) (own_b y1) (own_b y2) (own_b y3) (own_b y4) (own_b y5)))]))
              refine own_retI X23 hx Bd.notSynchronized Bd.returns (hb hby d8_42) (by decide) (by decide) ?_
              show Q_rm8 Z _ _ _ _ _ _ _ _ _ _ _ h0 n0 _ T23.heap _
              exact ⟨(by rw [own_exit hl5 hl4 (by decide)]), N23, e23⟩
          · refine OGo.via (fun _ k => XS.icmpYes X18.here hx rfl (pc0 := 6) (pc' := 41) rfl (hb hby d8_6) rfl (flt hl4).2.1 (by decide) (by decide) k) ?_
            show OGo _ _ _ _ (T18.setTop (mkF m 41 #[.val (.ref a1), .val (.int p2), .val (.int (own_be (4 : Int32) (own_b y1) (own_b y2) (own_b y3) (own_b y4) (own_b y5))), .val (.int (4 : Int32)), .val (.int (own_ix ((own_be (3 : Int32) (own_b y1) (own_b y2) (own_b y3) (own_b y4) (own_b y5)) + (1 : Int32)) (own_b y1) (own_b y2) (own_b y3) (own_b y4) (own_b y5)))] []))
            refine OGo.via (fun _ k => XS.iloadN X18.here hx rfl (hb hby d8_41) rfl k) ?_
            show OGo _ _ _ _ (T18.setTop (mkF m 42 #[.val (.ref a1), .val (.int p2), .val (.int (own_be (4 : Int32) (own_b y1) (own_b y2) (own_b y3) (own_b y4) (own_b y5))), .val (.int (4 : Int32)), .val (.int (own_ix ((own_be (3 : Int32) (own_b y1) (own_b y2) (own_b y3) (own_b y4) (own_b y5)) + (1 : Int32)) (own_b y1) (own_b y2) (own_b y3) (own_b y4) (own_b y5)))] [(.int (own_be (4 : Int32) (own_b y1) (own_b y2) (own_b y3) (own_b y4) (own_b y5)))]))
            refine own_retI X18 hx Bd.notSynchronized Bd.returns (hb hby d8_42) (by decide) (by decide) ?_
            show Q_rm8 Z _ _ _ _ _ _ _ _ _ _ _ h0 n0 _ T18.heap _
            exact ⟨(by rw [own_exit hl4 hl3 (by decide)]), N18, e18⟩
        · refine OGo.via (fun _ k => XS.icmpYes X13.here hx rfl (pc0 := 6) (pc' := 41) rfl (hb hby d8_6) rfl (flt hl3).2.1 (by decide) (by decide) k) ?_
          show OGo _ _ _ _ (T13.setTop (mkF m 41 #[.val (.ref a1), .val (.int p2), .val (.int (own_be (3 : Int32) (own_b y1) (own_b y2) (own_b y3) (own_b y4) (own_b y5))), .val (.int (3 : Int32)), .val (.int (own_ix ((own_be (2 : Int32) (own_b y1) (own_b y2) (own_b y3) (own_b y4) (own_b y5)) + (1 : Int32)) (own_b y1) (own_b y2) (own_b y3) (own_b y4) (own_b y5)))] []))
          refine OGo.via (fun _ k => XS.iloadN X13.here hx rfl (hb hby d8_41) rfl k) ?_
          show OGo _ _ _ _ (T13.setTop (mkF m 42 #[.val (.ref a1), .val (.int p2), .val (.int (own_be (3 : Int32) (own_b y1) (own_b y2) (own_b y3) (own_b y4) (own_b y5))), .val (.int (3 : Int32)), .val (.int (own_ix ((own_be (2 : Int32) (own_b y1) (own_b y2) (own_b y3) (own_b y4) (own_b y5)) + (1 : Int32)) (own_b y1) (own_b y2) (own_b y3) (own_b y4) (own_b y5)))] [(.int (own_be (3 : Int32) (own_b y1) (own_b y2) (own_b y3) (own_b y4) (own_b y5)))]))
          refine own_retI X13 hx Bd.notSynchronized Bd.returns (hb hby d8_42) (by decide) (by decide) ?_
          show Q_rm8 Z _ _ _ _ _ _ _ _ _ _ _ h0 n0 _ T13.heap _
          exact ⟨(by rw [own_exit hl3 hl2 (by decide)]), N13, e13⟩
      · refine OGo.via (fun _ k => XS.icmpYes X8.here hx rfl (pc0 := 6) (pc' := 41) rfl (hb hby d8_6) rfl (flt hl2).2.1 (by decide) (by decide) k) ?_
        show OGo _ _ _ _ (T8.setTop (mkF m 41 #[.val (.ref a1), .val (.int p2), .val (.int (own_be (2 : Int32) (own_b y1) (own_b y2) (own_b y3) (own_b y4) (own_b y5))), .val (.int (2 : Int32)), .val (.int (own_ix ((own_be (1 : Int32) (own_b y1) (own_b y2) (own_b y3) (own_b y4) (own_b y5)) + (1 : Int32)) (own_b y1) (own_b y2) (own_b y3) (own_b y4) (own_b y5)))] []))
        refine OGo.via (fun _ k => XS.iloadN X8.here hx rfl (hb hby d8_41) rfl k) ?_
        show OGo _ _ _ _ (T8.setTop (mkF m 42 #[.val (.ref a1), .val (.int p2), .val (.int (own_be (2 : Int32) (own_b y1) (own_b y2) (own_b y3) (own_b y4) (own_b y5))), .val (.int (2 : Int32)), .val (.int (own_ix ((own_be (1 : Int32) (own_b y1) (own_b y2) (own_b y3) (own_b y4) (own_b y5)) + (1 : Int32)) (own_b y1) (own_b y2) (own_b y3) (own_b y4) (own_b y5)))] [(.int (own_be (2 : Int32) (own_b y1) (own_b y2) (own_b y3) (own_b y4) (own_b y5)))]))
        refine own_retI X8 hx Bd.notSynchronized Bd.returns (hb hby d8_42) (by decide) (by decide) ?_
        show Q_rm8 Z _ _ _ _ _ _ _ _ _ _ _ h0 n0 _ T8.heap _
        exact ⟨(by rw [own_exit hl2 hl1 (by decide)]), N8, e8⟩
    · refine OGo.via (fun _ k => XS.icmpYes X3.here hx rfl (pc0 := 6) (pc' := 41) rfl (hb hby d8_6) rfl (flt hl1).2.1 (by decide) (by decide) k) ?_
      show OGo _ _ _ _ (T3.setTop (mkF m 41 #[.val (.ref a1), .val (.int p2), .val (.int (own_be (1 : Int32) (own_b y1) (own_b y2) (own_b y3) (own_b y4) (own_b y5))), .val (.int (1 : Int32)), .val (.int (own_ix ((own_be (0 : Int32) (own_b y1) (own_b y2) (own_b y3) (own_b y4) (own_b y5)) + (1 : Int32)) (own_b y1) (own_b y2) (own_b y3) (own_b y4) (own_b y5)))] []))
      refine OGo.via (fun _ k => XS.iloadN X3.here hx rfl (hb hby d8_41) rfl k) ?_
      show OGo _ _ _ _ (T3.setTop (mkF m 42 #[.val (.ref a1), .val (.int p2), .val (.int (own_be (1 : Int32) (own_b y1) (own_b y2) (own_b y3) (own_b y4) (own_b y5))), .val (.int (1 : Int32)), .val (.int (own_ix ((own_be (0 : Int32) (own_b y1) (own_b y2) (own_b y3) (own_b y4) (own_b y5)) + (1 : Int32)) (own_b y1) (own_b y2) (own_b y3) (own_b y4) (own_b y5)))] [(.int (own_be (1 : Int32) (own_b y1) (own_b y2) (own_b y3) (own_b y4) (own_b y5)))]))
      refine own_retI X3 hx Bd.notSynchronized Bd.returns (hb hby d8_42) (by decide) (by decide) ?_
      show Q_rm8 Z _ _ _ _ _ _ _ _ _ _ _ h0 n0 _ T3.heap _
      exact ⟨(by rw [own_exit hl1 hl0 (by decide)]), N3, e3⟩
  · refine OGo.via (fun _ k => XS.icmpYes X0.here hx rfl (pc0 := 6) (pc' := 41) rfl (hb hby d8_6) rfl (flt hl0).2.1 (by decide) (by decide) k) ?_
    show OGo _ _ _ _ (s₁.setTop (mkF m 41 #[.val (.ref a1), .val (.int p2), .val (.int (own_be (0 : Int32) (own_b y1) (own_b y2) (own_b y3) (own_b y4) (own_b y5))), .val (.int (0 : Int32)), .unset] []))
    refine OGo.via (fun _ k => XS.iloadN X0.here hx rfl (hb hby d8_41) rfl k) ?_
    show OGo _ _ _ _ (s₁.setTop (mkF m 42 #[.val (.ref a1), .val (.int p2), .val (.int (own_be (0 : Int32) (own_b y1) (own_b y2) (own_b y3) (own_b y4) (own_b y5))), .val (.int (0 : Int32)), .unset] [(.int (own_be (0 : Int32) (own_b y1) (own_b y2) (own_b y3) (own_b y4) (own_b y5)))]))
    refine own_retI X0 hx Bd.notSynchronized Bd.returns (hb hby d8_42) (by decide) (by decide) ?_
    show Q_rm8 Z _ _ _ _ _ _ _ _ _ _ _ h0 n0 _ s₁.heap _
    exact ⟨(by rw [own_exit0 hl0 hp0]), N0, e0⟩
theorem pd_10 : parseMethodDescriptor "(I)C" = some ⟨[.int], some .char⟩ := by decide +kernel
theorem pd_11 : parseMethodDescriptor "([C)V" = some ⟨[(.array .char)], none⟩ := by decide +kernel
theorem pd_12 : parseMethodDescriptor "(Ljava/lang/String;I)I" = some ⟨[(.object "java/lang/String"), .int], some .int⟩ := by decide +kernel
theorem ef_rm0 (m : MethodId) (p1 : Int32) (p2 : Int32) (p3 : Int32) (p4 : Int32) (p5 : Int32) (p6 : Int32) : entryFrame m #[(.int p1), (.int p2), (.int p3), (.int p4), (.int p5), (.int p6)] maxLocals = mkF m 0 #[.val (.int p1), .val (.int p2), .val (.int p3), .val (.int p4), .val (.int p5), .val (.int p6), .unset, .unset, .unset, .unset, .unset, .unset, .unset, .unset, .unset, .unset, .unset, .unset, .unset, .unset, .unset] [] := by first | (simp [entryFrame, mkF, argsToLocals, Value.category, maxLocals]; done) | rfl
def Q_rm0 (Z : State) (p1 : Int32) (p2 : Int32) (p3 : Int32) (p4 : Int32) (p5 : Int32) (p6 : Int32) (w : Int32) (h0 : Heap) (n0 : Nat) (v : Option Value) (h : Heap) (L : List Loc) : Prop := v = some (.int (1 : Int32)) ∧ Fr n0 L
set_option maxRecDepth 65536 in
set_option maxHeartbeats 40000000 in
theorem rm0 (l : Launch) (Z : State) (a0 : Array Value) (hw : ∀ d ∈ tables_1, d.before a0 Z = true) (ws : List Jvm.Cond) (p1 : Int32) (p2 : Int32) (p3 : Int32) (p4 : Int32) (p5 : Int32) (p6 : Int32) (w : Int32) (h0 : Heap) (n0 : Nat) (Z0 : n0 ≤ h0.size) (S_COMPACT_STRINGS : Sta Z h0 "java/lang/String" "COMPACT_STRINGS" "Z" (.int w)) (hw0 : ¬ w = (0 : Int32)) :
    MetFree l x (head1 (Jvm.Cond.code x code maxLocals ret :: ws) room_1) (fun a U => a = #[(.int p1), (.int p2), (.int p3), (.int p4), (.int p5), (.int p6)] ∧ Z.Warmed39 U.vm ∧ U.heap = h0) (fun _ _ _ _ _ => True) (fun _ U o U' => ∃ v L, o = .returned v ∧ Q_rm0 Z p1 p2 p3 p4 p5 p6 w h0 n0 v U'.heap L ∧ FrameEnd U o U' L room_1.cells room_1.slots) := by
  refine MetFree.of_bodySF (plainFor_of_name pn_ResourcePathsBaseEndPinLaw) hisR ?_
  intro p e s m args below meth c s₁ Bd hml0 hP hK
  obtain ⟨rfl, hZ, hh⟩ := hP
  have hx := Bd.exec
  have hby := Bd.bytes
  have hml : c.maxLocals = 21 := hml0
  have hown : s.vm.findClass "com/example/ianus/ianus/server/ResourcePathsBaseEndPinLaw" = some m.cls := findClass_of_methodNamed Bd.named
  have hnm := (name_of_methodNamed Bd.named Bd.method).1
  have X0 : Stand p l e room_1 s m #[(.int p1), (.int p2), (.int p3), (.int p4), (.int p5), (.int p6)] below meth c s₁ [] 0 0 := Stand.of_body Bd
  have e0 : s₁.heap = h0 := by rw [← hh, Bd.state]; rfl
  have N0 := Fr.nil n0
  show OGo p.tables e below (own_Kq s (fun v h L => Q_rm0 Z p1 p2 p3 p4 p5 p6 w h0 n0 v h L) room_1.cells room_1.slots) (s₁.setTop (entryFrame m #[(.int p1), (.int p2), (.int p3), (.int p4), (.int p5), (.int p6)] maxLocals))
  refine OGo.cast (ef_rm0 m p1 p2 p3 p4 p5 p6) ?_
  show OGo _ _ _ _ (s₁.setTop (mkF m 0 #[.val (.int p1), .val (.int p2), .val (.int p3), .val (.int p4), .val (.int p5), .val (.int p6), .unset, .unset, .unset, .unset, .unset, .unset, .unset, .unset, .unset, .unset, .unset, .unset, .unset, .unset, .unset] []))
  refine OGo.via (fun _ k => XS.bipush X0.here hx rfl (hb hby at_0) k) ?_
  obtain ⟨T1, h1, ka1, X1, e1, E1, A1, Y1, st1⟩ := newPE (ad := "[C") X0 hx hZ (own_w hw 0 rfl) e0 (g := (mkF m 2 #[.val (.int p1), .val (.int p2), .val (.int p3), .val (.int p4), .val (.int p5), .val (.int p6), .unset, .unset, .unset, .unset, .unset, .unset, .unset, .unset, .unset, .unset, .unset, .unset, .unset, .unset, .unset] [(.int (6 : Int32))])) rfl (hb hby at_2) rfl (by decide) (cap := 6) (by decide) (by decide) (by decide) (by decide) (by decide)
  obtain ⟨b1, g1⟩ : ∃ z, z = h0.size := ⟨_, rfl⟩
  rw [← g1] at A1 Y1 st1
  refine OGo.via st1 ?_
  have K1 : Keep h0 h1 [] := (Keep.refl h0 []).ext E1
  have sz_b1 : h0.size ≤ b1 := Nat.le_trans (Keep.refl h0 []).1 (Nat.le_of_eq g1.symm)
  have g_b1 : n0 ≤ b1 := Nat.le_trans Z0 sz_b1
  have V1 : Arv Z h1 b1 ka1 .char (6 : Int32) [(.int (0 : Int32)), (.int (0 : Int32)), (.int (0 : Int32)), (.int (0 : Int32)), (.int (0 : Int32)), (.int (0 : Int32))] (.int (0 : Int32)) := (Arv.new A1 (by decide)).pad (pad_rep [] (.int (0 : Int32)) 6)
  show OGo _ _ _ _ (T1.setTop (mkF m 4 #[.val (.int p1), .val (.int p2), .val (.int p3), .val (.int p4), .val (.int p5), .val (.int p6), .unset, .unset, .unset, .unset, .unset, .unset, .unset, .unset, .unset, .unset, .unset, .unset, .unset, .unset, .unset] [(.ref b1)]))
  refine OGo.via (fun _ k => XS.astore X1.here hx rfl (hb hby at_4) rfl rfl (l' := #[.val (.int p1), .val (.int p2), .val (.int p3), .val (.int p4), .val (.int p5), .val (.int p6), .val (.ref b1), .unset, .unset, .unset, .unset, .unset, .unset, .unset, .unset, .unset, .unset, .unset, .unset, .unset, .unset]) rfl (XS.aload X1.here hx rfl (hb hby at_6) rfl rfl (XS.iconst X1.here hx rfl (hb hby at_8) (XS.bipush X1.here hx rfl (hb hby at_9) k)))) ?_
  obtain ⟨cl2, Ar2, q2, Sz2, Ng2, Hs2, Gf2⟩ := id V1
  have hin2 : ¬ ((0 : Int32) < 0 ∨ cl2.slots.size ≤ ((0 : Int32)).toNatClampNeg) := inb_of Sz2 ⟨by decide, by decide⟩
  obtain ⟨T2, h2, X2, e2, W2, st2⟩ := stC X1 hx hZ e1 Ar2 (j := (0 : Int32)) hin2 (g := (mkF m 11 #[.val (.int p1), .val (.int p2), .val (.int p3), .val (.int p4), .val (.int p5), .val (.int p6), .val (.ref b1), .unset, .unset, .unset, .unset, .unset, .unset, .unset, .unset, .unset, .unset, .unset, .unset, .unset, .unset] [(.int (47 : Int32)), (.int (0 : Int32)), (.ref b1)])) rfl rfl (hb hby at_11)
  refine OGo.via st2 ?_
  have V2 : Arv Z h2 b1 ka1 .char (6 : Int32) [(.int (nar .char (47 : Int32))), (.int (0 : Int32)), (.int (0 : Int32)), (.int (0 : Int32)), (.int (0 : Int32)), (.int (0 : Int32))] (.int (0 : Int32)) := Arv.set Ar2 q2 Sz2 Ng2 Hs2 Gf2 (fits_nar_char _) W2 0 rfl (Nat.le_of_ble_eq_true rfl)
  have K2 : Keep h0 h2 [] := K1.wr W2 (Or.inr sz_b1)
  have N2 := Fr.snoc X2 N0 g_b1
  show OGo _ _ _ _ (T2.setTop (mkF m 12 #[.val (.int p1), .val (.int p2), .val (.int p3), .val (.int p4), .val (.int p5), .val (.int p6), .val (.ref b1), .unset, .unset, .unset, .unset, .unset, .unset, .unset, .unset, .unset, .unset, .unset, .unset, .unset, .unset] []))
  refine OGo.via (fun _ k => XS.aload X2.here hx rfl (hb hby at_12) rfl rfl (XS.iconst X2.here hx rfl (hb hby at_14) (XS.iloadN X2.here hx rfl (hb hby at_15) rfl k))) ?_
  obtain ⟨_, T3, Lc3, X3, hQ3, st3⟩ := own_open X2 (Jvm.LawKit.callS X2 hx (y := own_y0) hown (mvT hZ (own_w hw 1 rfl)) (mvT hZ (own_w hw 2 rfl)) (mvT hZ (own_w hw 3 rfl)) (mvT hZ (own_w hw 4 rfl)) (by decide) (backOf (W := 2) (rm1 l Z a0 hw [] p1 h2 n0 (Nat.le_trans Z0 K2.1)) hZ (own_w hw 4 rfl) (own_w hw 3 rfl) (by decide) (by decide)) (g := (mkF m 16 #[.val (.int p1), .val (.int p2), .val (.int p3), .val (.int p4), .val (.int p5), .val (.int p6), .val (.ref b1), .unset, .unset, .unset, .unset, .unset, .unset, .unset, .unset, .unset, .unset, .unset, .unset, .unset, .unset] [(.int p1), (.int (1 : Int32)), (.ref b1)])) rfl (by rw [hml]; rfl) (argsL := [(.int p1)]) (rest := [(.int (1 : Int32)), (.ref b1)]) (lenOf pd_10 rfl) rfl (by show 2 * 0 + _ ≤ _; exact Nat.le_of_eq rfl) (hb hby at_16) (fun _ _ => ⟨rfl, e2, (by decide : 1 + 0 ≤ _), (by decide : 6 + 0 ≤ _)⟩))
  obtain ⟨d1, rfl, N3q, r3_0, r3_1⟩ := hQ3
  have N3 := Fr.app N2 N3q
  refine OGo.via st3 ?_
  show OGo _ _ _ _ (T3.setTop (mkF m 19 #[.val (.int p1), .val (.int p2), .val (.int p3), .val (.int p4), .val (.int p5), .val (.int p6), .val (.ref b1), .unset, .unset, .unset, .unset, .unset, .unset, .unset, .unset, .unset, .unset, .unset, .unset, .unset, .unset] [(.int d1), (.int (1 : Int32)), (.ref b1)]))
  obtain ⟨cl4, Ar4, q4, Sz4, Ng4, Hs4, Gf4⟩ := id V2
  have hin4 : ¬ ((1 : Int32) < 0 ∨ cl4.slots.size ≤ ((1 : Int32)).toNatClampNeg) := inb_of Sz4 ⟨by decide, by decide⟩
  obtain ⟨T4, h4, X4, e4, W4, st4⟩ := stC X3 hx hZ r3_0 Ar4 (j := (1 : Int32)) hin4 (g := (mkF m 19 #[.val (.int p1), .val (.int p2), .val (.int p3), .val (.int p4), .val (.int p5), .val (.int p6), .val (.ref b1), .unset, .unset, .unset, .unset, .unset, .unset, .unset, .unset, .unset, .unset, .unset, .unset, .unset, .unset] [(.int d1), (.int (1 : Int32)), (.ref b1)])) rfl rfl (hb hby at_19)
  refine OGo.via st4 ?_
  have V4 : Arv Z h4 b1 ka1 .char (6 : Int32) [(.int (nar .char (47 : Int32))), (.int (nar .char d1)), (.int (0 : Int32)), (.int (0 : Int32)), (.int (0 : Int32)), (.int (0 : Int32))] (.int (0 : Int32)) := Arv.set Ar4 q4 Sz4 Ng4 Hs4 Gf4 (fits_nar_char _) W4 1 rfl (Nat.le_of_ble_eq_true rfl)
  have K4 : Keep h0 h4 [] := K2.wr W4 (Or.inr sz_b1)
  have N4 := Fr.snoc X4 N3 g_b1
  show OGo _ _ _ _ (T4.setTop (mkF m 20 #[.val (.int p1), .val (.int p2), .val (.int p3), .val (.int p4), .val (.int p5), .val (.int p6), .val (.ref b1), .unset, .unset, .unset, .unset, .unset, .unset, .unset, .unset, .unset, .unset, .unset, .unset, .unset, .unset] []))
  refine OGo.via (fun _ k => XS.aload X4.here hx rfl (hb hby at_20) rfl rfl (XS.iconst X4.here hx rfl (hb hby at_22) (XS.iloadN X4.here hx rfl (hb hby at_23) rfl k))) ?_
  obtain ⟨_, T5, Lc5, X5, hQ5, st5⟩ := own_open X4 (Jvm.LawKit.callS X4 hx (y := own_y0) hown (mvT hZ (own_w hw 1 rfl)) (mvT hZ (own_w hw 2 rfl)) (mvT hZ (own_w hw 3 rfl)) (mvT hZ (own_w hw 4 rfl)) (by decide) (backOf (W := 2) (rm1 l Z a0 hw [] p2 h4 n0 (Nat.le_trans Z0 K4.1)) hZ (own_w hw 4 rfl) (own_w hw 3 rfl) (by decide) (by decide)) (g := (mkF m 24 #[.val (.int p1), .val (.int p2), .val (.int p3), .val (.int p4), .val (.int p5), .val (.int p6), .val (.ref b1), .unset, .unset, .unset, .unset, .unset, .unset, .unset, .unset, .unset, .unset, .unset, .unset, .unset, .unset] [(.int p2), (.int (2 : Int32)), (.ref b1)])) rfl (by rw [hml]; rfl) (argsL := [(.int p2)]) (rest := [(.int (2 : Int32)), (.ref b1)]) (lenOf pd_10 rfl) rfl (by show 2 * 0 + _ ≤ _; exact Nat.le_of_eq rfl) (hb hby at_24) (fun _ _ => ⟨rfl, e4, (by decide : 1 + 0 ≤ _), (by decide : 6 + 0 ≤ _)⟩))
  obtain ⟨d2, rfl, N5q, r5_0, r5_1⟩ := hQ5
  have N5 := Fr.app N4 N5q
  refine OGo.via st5 ?_
  show OGo _ _ _ _ (T5.setTop (mkF m 27 #[.val (.int p1), .val (.int p2), .val (.int p3), .val (.int p4), .val (.int p5), .val (.int p6), .val (.ref b1), .unset, .unset, .unset, .unset, .unset, .unset, .unset, .unset, .unset, .unset, .unset, .unset, .unset, .unset] [(.int d2), (.int (2 : Int32)), (.ref b1)]))
  obtain ⟨cl6, Ar6, q6, Sz6, Ng6, Hs6, Gf6⟩ := id V4
  have hin6 : ¬ ((2 : Int32) < 0 ∨ cl6.slots.size ≤ ((2 : Int32)).toNatClampNeg) := inb_of Sz6 ⟨by decide, by decide⟩
  obtain ⟨T6, h6, X6, e6, W6, st6⟩ := stC X5 hx hZ r5_0 Ar6 (j := (2 : Int32)) hin6 (g := (mkF m 27 #[.val (.int p1), .val (.int p2), .val (.int p3), .val (.int p4), .val (.int p5), .val (.int p6), .val (.ref b1), .unset, .unset, .unset, .unset, .unset, .unset, .unset, .unset, .unset, .unset, .unset, .unset, .unset, .unset] [(.int d2), (.int (2 : Int32)), (.ref b1)])) rfl rfl (hb hby at_27)
  refine OGo.via st6 ?_
  have V6 : Arv Z h6 b1 ka1 .char (6 : Int32) [(.int (nar .char (47 : Int32))), (.int (nar .char d1)), (.int (nar .char d2)), (.int (0 : Int32)), (.int (0 : Int32)), (.int (0 : Int32))] (.int (0 : Int32)) := Arv.set Ar6 q6 Sz6 Ng6 Hs6 Gf6 (fits_nar_char _) W6 2 rfl (Nat.le_of_ble_eq_true rfl)
  have K6 : Keep h0 h6 [] := K4.wr W6 (Or.inr sz_b1)
  have N6 := Fr.snoc X6 N5 g_b1
  show OGo _ _ _ _ (T6.setTop (mkF m 28 #[.val (.int p1), .val (.int p2), .val (.int p3), .val (.int p4), .val (.int p5), .val (.int p6), .val (.ref b1), .unset, .unset, .unset, .unset, .unset, .unset, .unset, .unset, .unset, .unset, .unset, .unset, .unset, .unset] []))
  refine OGo.via (fun _ k => XS.aload X6.here hx rfl (hb hby at_28) rfl rfl (XS.iconst X6.here hx rfl (hb hby at_30) (XS.iloadN X6.here hx rfl (hb hby at_31) rfl k))) ?_
  obtain ⟨_, T7, Lc7, X7, hQ7, st7⟩ := own_open X6 (Jvm.LawKit.callS X6 hx (y := own_y0) hown (mvT hZ (own_w hw 1 rfl)) (mvT hZ (own_w hw 2 rfl)) (mvT hZ (own_w hw 3 rfl)) (mvT hZ (own_w hw 4 rfl)) (by decide) (backOf (W := 2) (rm1 l Z a0 hw [] p3 h6 n0 (Nat.le_trans Z0 K6.1)) hZ (own_w hw 4 rfl) (own_w hw 3 rfl) (by decide) (by decide)) (g := (mkF m 32 #[.val (.int p1), .val (.int p2), .val (.int p3), .val (.int p4), .val (.int p5), .val (.int p6), .val (.ref b1), .unset, .unset, .unset, .unset, .unset, .unset, .unset, .unset, .unset, .unset, .unset, .unset, .unset, .unset] [(.int p3), (.int (3 : Int32)), (.ref b1)])) rfl (by rw [hml]; rfl) (argsL := [(.int p3)]) (rest := [(.int (3 : Int32)), (.ref b1)]) (lenOf pd_10 rfl) rfl (by show 2 * 0 + _ ≤ _; exact Nat.le_of_eq rfl) (hb hby at_32) (fun _ _ => ⟨rfl, e6, (by decide : 1 + 0 ≤ _), (by decide : 6 + 0 ≤ _)⟩))
  obtain ⟨d3, rfl, N7q, r7_0, r7_1⟩ := hQ7
  have N7 := Fr.app N6 N7q
  refine OGo.via st7 ?_
  show OGo _ _ _ _ (T7.setTop (mkF m 35 #[.val (.int p1), .val (.int p2), .val (.int p3), .val (.int p4), .val (.int p5), .val (.int p6), .val (.ref b1), .unset, .unset, .unset, .unset, .unset, .unset, .unset, .unset, .unset, .unset, .unset, .unset, .unset, .unset] [(.int d3), (.int (3 : Int32)), (.ref b1)]))
  obtain ⟨cl8, Ar8, q8, Sz8, Ng8, Hs8, Gf8⟩ := id V6
  have hin8 : ¬ ((3 : Int32) < 0 ∨ cl8.slots.size ≤ ((3 : Int32)).toNatClampNeg) := inb_of Sz8 ⟨by decide, by decide⟩
  obtain ⟨T8, h8, X8, e8, W8, st8⟩ := stC X7 hx hZ r7_0 Ar8 (j := (3 : Int32)) hin8 (g := (mkF m 35 #[.val (.int p1), .val (.int p2), .val (.int p3), .val (.int p4), .val (.int p5), .val (.int p6), .val (.ref b1), .unset, .unset, .unset, .unset, .unset, .unset, .unset, .unset, .unset, .unset, .unset, .unset, .unset, .unset] [(.int d3), (.int (3 : Int32)), (.ref b1)])) rfl rfl (hb hby at_35)
  refine OGo.via st8 ?_
  have V8 : Arv Z h8 b1 ka1 .char (6 : Int32) [(.int (nar .char (47 : Int32))), (.int (nar .char d1)), (.int (nar .char d2)), (.int (nar .char d3)), (.int (0 : Int32)), (.int (0 : Int32))] (.int (0 : Int32)) := Arv.set Ar8 q8 Sz8 Ng8 Hs8 Gf8 (fits_nar_char _) W8 3 rfl (Nat.le_of_ble_eq_true rfl)
  have K8 : Keep h0 h8 [] := K6.wr W8 (Or.inr sz_b1)
  have N8 := Fr.snoc X8 N7 g_b1
  show OGo _ _ _ _ (T8.setTop (mkF m 36 #[.val (.int p1), .val (.int p2), .val (.int p3), .val (.int p4), .val (.int p5), .val (.int p6), .val (.ref b1), .unset, .unset, .unset, .unset, .unset, .unset, .unset, .unset, .unset, .unset, .unset, .unset, .unset, .unset] []))
  refine OGo.via (fun _ k => XS.aload X8.here hx rfl (hb hby at_36) rfl rfl (XS.iconst X8.here hx rfl (hb hby at_38) (XS.iloadN X8.here hx rfl (hb hby at_39) rfl k))) ?_
  obtain ⟨_, T9, Lc9, X9, hQ9, st9⟩ := own_open X8 (Jvm.LawKit.callS X8 hx (y := own_y0) hown (mvT hZ (own_w hw 1 rfl)) (mvT hZ (own_w hw 2 rfl)) (mvT hZ (own_w hw 3 rfl)) (mvT hZ (own_w hw 4 rfl)) (by decide) (backOf (W := 2) (rm1 l Z a0 hw [] p4 h8 n0 (Nat.le_trans Z0 K8.1)) hZ (own_w hw 4 rfl) (own_w hw 3 rfl) (by decide) (by decide)) (g := (mkF m 40 #[.val (.int p1), .val (.int p2), .val (.int p3), .val (.int p4), .val (.int p5), .val (.int p6), .val (.ref b1), .unset, .unset, .unset, .unset, .unset, .unset, .unset, .unset, .unset, .unset, .unset, .unset, .unset, .unset] [(.int p4), (.int (4 : Int32)), (.ref b1)])) rfl (by rw [hml]; rfl) (argsL := [(.int p4)]) (rest := [(.int (4 : Int32)), (.ref b1)]) (lenOf pd_10 rfl) rfl (by show 2 * 0 + _ ≤ _; exact Nat.le_of_eq rfl) (hb hby at_40) (fun _ _ => ⟨rfl, e8, (by decide : 1 + 0 ≤ _), (by decide : 6 + 0 ≤ _)⟩))
  obtain ⟨d4, rfl, N9q, r9_0, r9_1⟩ := hQ9
  have N9 := Fr.app N8 N9q
  refine OGo.via st9 ?_
  show OGo _ _ _ _ (T9.setTop (mkF m 43 #[.val (.int p1), .val (.int p2), .val (.int p3), .val (.int p4), .val (.int p5), .val (.int p6), .val (.ref b1), .unset, .unset, .unset, .unset, .unset, .unset, .unset, .unset, .unset, .unset, .unset, .unset, .unset, .unset] [(.int d4), (.int (4 : Int32)), (.ref b1)]))
  obtain ⟨cl10, Ar10, q10, Sz10, Ng10, Hs10, Gf10⟩ := id V8
  have hin10 : ¬ ((4 : Int32) < 0 ∨ cl10.slots.size ≤ ((4 : Int32)).toNatClampNeg) := inb_of Sz10 ⟨by decide, by decide⟩
  obtain ⟨T10, h10, X10, e10, W10, st10⟩ := stC X9 hx hZ r9_0 Ar10 (j := (4 : Int32)) hin10 (g := (mkF m 43 #[.val (.int p1), .val (.int p2), .val (.int p3), .val (.int p4), .val (.int p5), .val (.int p6), .val (.ref b1), .unset, .unset, .unset, .unset, .unset, .unset, .unset, .unset, .unset, .unset, .unset, .unset, .unset, .unset] [(.int d4), (.int (4 : Int32)), (.ref b1)])) rfl rfl (hb hby at_43)
  refine OGo.via st10 ?_
  have V10 : Arv Z h10 b1 ka1 .char (6 : Int32) [(.int (nar .char (47 : Int32))), (.int (nar .char d1)), (.int (nar .char d2)), (.int (nar .char d3)), (.int (nar .char d4)), (.int (0 : Int32))] (.int (0 : Int32)) := Arv.set Ar10 q10 Sz10 Ng10 Hs10 Gf10 (fits_nar_char _) W10 4 rfl (Nat.le_of_ble_eq_true rfl)
  have K10 : Keep h0 h10 [] := K8.wr W10 (Or.inr sz_b1)
  have N10 := Fr.snoc X10 N9 g_b1
  show OGo _ _ _ _ (T10.setTop (mkF m 44 #[.val (.int p1), .val (.int p2), .val (.int p3), .val (.int p4), .val (.int p5), .val (.int p6), .val (.ref b1), .unset, .unset, .unset, .unset, .unset, .unset, .unset, .unset, .unset, .unset, .unset, .unset, .unset, .unset] []))
  refine OGo.via (fun _ k => XS.aload X10.here hx rfl (hb hby at_44) rfl rfl (XS.iconst X10.here hx rfl (hb hby at_46) (XS.iload X10.here hx rfl (hb hby at_47) rfl k))) ?_
  obtain ⟨_, T11, Lc11, X11, hQ11, st11⟩ := own_open X10 (Jvm.LawKit.callS X10 hx (y := own_y0) hown (mvT hZ (own_w hw 1 rfl)) (mvT hZ (own_w hw 2 rfl)) (mvT hZ (own_w hw 3 rfl)) (mvT hZ (own_w hw 4 rfl)) (by decide) (backOf (W := 2) (rm1 l Z a0 hw [] p5 h10 n0 (Nat.le_trans Z0 K10.1)) hZ (own_w hw 4 rfl) (own_w hw 3 rfl) (by decide) (by decide)) (g := (mkF m 49 #[.val (.int p1), .val (.int p2), .val (.int p3), .val (.int p4), .val (.int p5), .val (.int p6), .val (.ref b1), .unset, .unset, .unset, .unset, .unset, .unset, .unset, .unset, .unset, .unset, .unset, .unset, .unset, .unset] [(.int p5), (.int (5 : Int32)), (.ref b1)])) rfl (by rw [hml]; rfl) (argsL := [(.int p5)]) (rest := [(.int (5 : Int32)), (.ref b1)]) (lenOf pd_10 rfl) rfl (by show 2 * 0 + _ ≤ _; exact Nat.le_of_eq rfl) (hb hby at_49) (fun _ _ => ⟨rfl, e10, (by decide : 1 + 0 ≤ _), (by decide : 6 + 0 ≤ _)⟩))
  obtain ⟨d5, rfl, N11q, r11_0, r11_1⟩ := hQ11
  have N11 := Fr.app N10 N11q
  refine OGo.via st11 ?_
  show OGo _ _ _ _ (T11.setTop (mkF m 52 #[.val (.int p1), .val (.int p2), .val (.int p3), .val (.int p4), .val (.int p5), .val (.int p6), .val (.ref b1), .unset, .unset, .unset, .unset, .unset, .unset, .unset, .unset, .unset, .unset, .unset, .unset, .unset, .unset] [(.int d5), (.int (5 : Int32)), (.ref b1)]))
  obtain ⟨cl12, Ar12, q12, Sz12, Ng12, Hs12, Gf12⟩ := id V10
  have hin12 : ¬ ((5 : Int32) < 0 ∨ cl12.slots.size ≤ ((5 : Int32)).toNatClampNeg) := inb_of Sz12 ⟨by decide, by decide⟩
  obtain ⟨T12, h12, X12, e12, W12, st12⟩ := stC X11 hx hZ r11_0 Ar12 (j := (5 : Int32)) hin12 (g := (mkF m 52 #[.val (.int p1), .val (.int p2), .val (.int p3), .val (.int p4), .val (.int p5), .val (.int p6), .val (.ref b1), .unset, .unset, .unset, .unset, .unset, .unset, .unset, .unset, .unset, .unset, .unset, .unset, .unset, .unset] [(.int d5), (.int (5 : Int32)), (.ref b1)])) rfl rfl (hb hby at_52)
  refine OGo.via st12 ?_
  have V12 : Arv Z h12 b1 ka1 .char (6 : Int32) [(.int (nar .char (47 : Int32))), (.int (nar .char d1)), (.int (nar .char d2)), (.int (nar .char d3)), (.int (nar .char d4)), (.int (nar .char d5))] (.int (0 : Int32)) := Arv.set Ar12 q12 Sz12 Ng12 Hs12 Gf12 (fits_nar_char _) W12 5 rfl (Nat.le_of_ble_eq_true rfl)
  have K12 : Keep h0 h12 [] := K10.wr W12 (Or.inr sz_b1)
  have N12 := Fr.snoc X12 N11 g_b1
  show OGo _ _ _ _ (T12.setTop (mkF m 53 #[.val (.int p1), .val (.int p2), .val (.int p3), .val (.int p4), .val (.int p5), .val (.int p6), .val (.ref b1), .unset, .unset, .unset, .unset, .unset, .unset, .unset, .unset, .unset, .unset, .unset, .unset, .unset, .unset] []))
  obtain ⟨c1, hc1⟩ : ∃ z, z = nar .char d1 := ⟨_, rfl⟩
  have hu1 := r3_1
  rw [← hc1] at hu1
  obtain ⟨c2, hc2⟩ : ∃ z, z = nar .char d2 := ⟨_, rfl⟩
  have hu2 := r5_1
  rw [← hc2] at hu2
  obtain ⟨c3, hc3⟩ : ∃ z, z = nar .char d3 := ⟨_, rfl⟩
  have hu3 := r7_1
  rw [← hc3] at hu3
  obtain ⟨c4, hc4⟩ : ∃ z, z = nar .char d4 := ⟨_, rfl⟩
  have hu4 := r9_1
  rw [← hc4] at hu4
  obtain ⟨c5, hc5⟩ : ∃ z, z = nar .char d5 := ⟨_, rfl⟩
  have hu5 := r11_1
  rw [← hc5] at hu5
  have h47 : nar .char (47 : Int32) = 47 := by decide
  rw [h47, ← hc1, ← hc2, ← hc3, ← hc4, ← hc5] at V12
  have f14 := Y1.wr W2
  have f15 := f14.wr W4
  have f16 := f15.wr W6
  have f17 := f16.wr W8
  have f18 := f17.wr W10
  have f19 := f18.wr W12
  obtain ⟨T13, h13, X13, e13, E13, A13, D13, -, st13⟩ := newO X12 hx hZ hown (own_w hw 5 rfl) (own_w hw 6 rfl) (own_w hw 7 rfl) e12 (g := (mkF m 53 #[.val (.int p1), .val (.int p2), .val (.int p3), .val (.int p4), .val (.int p5), .val (.int p6), .val (.ref b1), .unset, .unset, .unset, .unset, .unset, .unset, .unset, .unset, .unset, .unset, .unset, .unset, .unset, .unset] [])) rfl (hb hby at_53) (by decide) (by decide)
  obtain ⟨b13, g13⟩ : ∃ z, z = h12.size := ⟨_, rfl⟩
  rw [← g13] at A13 D13 st13
  refine OGo.via st13 ?_
  have K13 : Keep h0 h13 [] := K12.ext E13
  have lt_b1_b13 : b1 < b13 := Nat.lt_of_lt_of_le f19.lt (Nat.le_of_eq g13.symm)
  have sz_b13 : h0.size ≤ b13 := Nat.le_trans K12.1 (Nat.le_of_eq g13.symm)
  have g_b13 : n0 ≤ b13 := Nat.le_trans Z0 sz_b13
  have F13_coder : Fld Z h13 b13 "java/lang/String" "coder" "B" (.int (0 : Int32)) := D13 (Or.inr (own_w hw 31 rfl)) (ty := .byte) (by decide)
  have F13_value : Fld Z h13 b13 "java/lang/String" "value" "[B" .null := D13 (Or.inr (own_w hw 33 rfl)) (ty := (.array .byte)) (by decide)
  show OGo _ _ _ _ (T13.setTop (mkF m 56 #[.val (.int p1), .val (.int p2), .val (.int p3), .val (.int p4), .val (.int p5), .val (.int p6), .val (.ref b1), .unset, .unset, .unset, .unset, .unset, .unset, .unset, .unset, .unset, .unset, .unset, .unset, .unset, .unset] [(.ref b13)]))
  refine OGo.via (fun _ k => XS.dup X13.here hx rfl (hb hby at_56) rfl rfl (XS.aload X13.here hx rfl (hb hby at_57) rfl rfl k)) ?_
  have f21 := V12.ext E13
  have f22 := own_staKeep0 S_COMPACT_STRINGS K13
  have f23 := f19.ext E13
  obtain ⟨_, T20, Lc20, X20, hQ20, st20⟩ := own_open X13 (X13.specialBack hx (y := own_y7) rfl hown (mvT hZ (own_w hw 8 rfl)) (mvT hZ (own_w hw 9 rfl)) (mvT hZ (own_w hw 10 rfl)) (by decide) (backOf (W := 1) (rm2 l Z a0 hw [] b13 b1 ka1 w (47 : Int32) c1 c2 c3 c4 c5 h13 n0 (Nat.le_trans Z0 K13.1) A13 F13_value F13_coder f21 f22 g_b13 hw0 (by decide) hu1.1 hu2.1 hu3.1 hu4.1 hu5.1) hZ (own_w hw 10 rfl) (own_w hw 7 rfl) (by decide) (by decide)) (g := (mkF m 59 #[.val (.int p1), .val (.int p2), .val (.int p3), .val (.int p4), .val (.int p5), .val (.int p6), .val (.ref b1), .unset, .unset, .unset, .unset, .unset, .unset, .unset, .unset, .unset, .unset, .unset, .unset, .unset, .unset] [(.ref b1), (.ref b13), (.ref b13)])) rfl (by rw [hml]; rfl) (Steps.refl _) (a := b13) (argsL := [(.ref b1)]) (rest := [(.ref b13)]) (lenOf pd_11 rfl) rfl (by show 2 * 0 + _ ≤ _; exact Nat.le_of_eq rfl) (hb hby at_59) (fun _ _ => ⟨rfl, e13, (by decide : 2 + 1 ≤ _), (by decide : 10 + 6 ≤ _)⟩))
  obtain ⟨vb, kb, rfl, N20q, r20_0, r20_1, r20_2, r20_3, r20_4, r20_5, r20_6⟩ := hQ20
  have N20 := Fr.app N12 N20q
  have K20 : Keep h0 T20.heap [] := K13.trans r20_0 (allS (Or.inr sz_b13) all0)
  have lt_b1_vb : b1 < vb := Nat.lt_of_lt_of_le f23.lt r20_1
  have lt_b13_vb : b13 < vb := Nat.lt_of_lt_of_le A13.lt r20_1
  have sz_vb : h0.size ≤ vb := Nat.le_trans K13.1 r20_1
  have g_vb : n0 ≤ vb := Nat.le_trans Z0 sz_vb
  refine OGo.via (fun _ k => st20.trans k) ?_
  show OGo _ _ _ _ (T20.setTop (mkF m 62 #[.val (.int p1), .val (.int p2), .val (.int p3), .val (.int p4), .val (.int p5), .val (.int p6), .val (.ref b1), .unset, .unset, .unset, .unset, .unset, .unset, .unset, .unset, .unset, .unset, .unset, .unset, .unset, .unset] [(.ref b13)]))
  refine OGo.via (fun _ k => XS.astore X20.here hx rfl (hb hby at_62) rfl rfl (l' := #[.val (.int p1), .val (.int p2), .val (.int p3), .val (.int p4), .val (.int p5), .val (.int p6), .val (.ref b1), .val (.ref b13), .unset, .unset, .unset, .unset, .unset, .unset, .unset, .unset, .unset, .unset, .unset, .unset, .unset]) rfl (XS.iload X20.here hx rfl (hb hby at_64) rfl (XS.bipush X20.here hx rfl (hb hby at_66) (XS.iand X20.here hx rfl (hb hby at_68) rfl k)))) ?_
  have hk := own_and7 p6
  show OGo _ _ _ _ (T20.setTop (mkF m 69 #[.val (.int p1), .val (.int p2), .val (.int p3), .val (.int p4), .val (.int p5), .val (.int p6), .val (.ref b1), .val (.ref b13), .unset, .unset, .unset, .unset, .unset, .unset, .unset, .unset, .unset, .unset, .unset, .unset, .unset] [(.int (p6 &&& (7 : Int32)))]))
  obtain ⟨kk, hkk⟩ : ∃ z, z = (p6 &&& (7 : Int32)) := ⟨_, rfl⟩
  rw [← hkk]
  show OGo _ _ _ _ (T20.setTop (mkF m 69 #[.val (.int p1), .val (.int p2), .val (.int p3), .val (.int p4), .val (.int p5), .val (.int p6), .val (.ref b1), .val (.ref b13), .unset, .unset, .unset, .unset, .unset, .unset, .unset, .unset, .unset, .unset, .unset, .unset, .unset] [(.int kk)]))
  rw [← hkk] at hk
  refine OGo.via (fun _ k => XS.istore X20.here hx rfl (hb hby at_69) rfl (l' := #[.val (.int p1), .val (.int p2), .val (.int p3), .val (.int p4), .val (.int p5), .val (.int p6), .val (.ref b1), .val (.ref b13), .val (.int kk), .unset, .unset, .unset, .unset, .unset, .unset, .unset, .unset, .unset, .unset, .unset, .unset]) rfl (XS.aload X20.here hx rfl (hb hby at_71) rfl rfl (XS.iload X20.here hx rfl (hb hby at_73) rfl k))) ?_
  obtain ⟨_, T24, Lc24, X24, hQ24, st24⟩ := own_open X20 (Jvm.LawKit.callS X20 hx (y := own_y15) hown (mvT hZ (own_w hw 34 rfl)) (mvT hZ (own_w hw 35 rfl)) (mvT hZ (own_w hw 36 rfl)) (mvT hZ (own_w hw 37 rfl)) (by decide) (backOf (W := 0) (rm8 l Z a0 hw [] b13 kk w vb kb (((47 : Int32).toInt8.toInt32).toInt8.toInt32) ((c1.toInt8.toInt32).toInt8.toInt32) ((c2.toInt8.toInt32).toInt8.toInt32) ((c3.toInt8.toInt32).toInt8.toInt32) ((c4.toInt8.toInt32).toInt8.toInt32) ((c5.toInt8.toInt32).toInt8.toInt32) T20.heap n0 (Nat.le_trans Z0 K20.1) r20_2 r20_3 r20_4 r20_5 r20_6 hw0 hk.1 hk.2) hZ (own_w hw 37 rfl) (own_w hw 36 rfl) (by decide) (by decide)) (g := (mkF m 75 #[.val (.int p1), .val (.int p2), .val (.int p3), .val (.int p4), .val (.int p5), .val (.int p6), .val (.ref b1), .val (.ref b13), .val (.int kk), .unset, .unset, .unset, .unset, .unset, .unset, .unset, .unset, .unset, .unset, .unset, .unset] [(.int kk), (.ref b13)])) rfl (by rw [hml]; rfl) (argsL := [(.ref b13), (.int kk)]) (rest := []) (lenOf pd_12 rfl) rfl (by show 2 * 0 + _ ≤ _; exact Nat.le_of_eq rfl) (hb hby at_75) (fun _ _ => ⟨rfl, rfl, (by decide : 3 + 0 ≤ _), (by decide : 16 + 0 ≤ _)⟩))
  obtain ⟨rfl, N24q, r24_0⟩ := hQ24
  have N24 := Fr.app N20 N24q
  refine OGo.via st24 ?_
  show OGo _ _ _ _ (T24.setTop (mkF m 78 #[.val (.int p1), .val (.int p2), .val (.int p3), .val (.int p4), .val (.int p5), .val (.int p6), .val (.ref b1), .val (.ref b13), .val (.int kk), .unset, .unset, .unset, .unset, .unset, .unset, .unset, .unset, .unset, .unset, .unset, .unset] [(.int (own_be kk (own_b ((c1.toInt8.toInt32).toInt8.toInt32)) (own_b ((c2.toInt8.toInt32).toInt8.toInt32)) (own_b ((c3.toInt8.toInt32).toInt8.toInt32)) (own_b ((c4.toInt8.toInt32).toInt8.toInt32)) (own_b ((c5.toInt8.toInt32).toInt8.toInt32))))]))
  rw [show own_b ((c1.toInt8.toInt32).toInt8.toInt32) = own_b c1 from own_byb hu1.2 hu1.1, show own_b ((c2.toInt8.toInt32).toInt8.toInt32) = own_b c2 from own_byb hu2.2 hu2.1, show own_b ((c3.toInt8.toInt32).toInt8.toInt32) = own_b c3 from own_byb hu3.2 hu3.1, show own_b ((c4.toInt8.toInt32).toInt8.toInt32) = own_b c4 from own_byb hu4.2 hu4.1, show own_b ((c5.toInt8.toInt32).toInt8.toInt32) = own_b c5 from own_byb hu5.2 hu5.1]
  show OGo _ _ _ _ (T24.setTop (mkF m 78 #[.val (.int p1), .val (.int p2), .val (.int p3), .val (.int p4), .val (.int p5), .val (.int p6), .val (.ref b1), .val (.ref b13), .val (.int kk), .unset, .unset, .unset, .unset, .unset, .unset, .unset, .unset, .unset, .unset, .unset, .unset] [(.int (own_be kk (own_b c1) (own_b c2) (own_b c3) (own_b c4) (own_b c5)))]))
  refine OGo.via (fun _ k => XS.istore X24.here hx rfl (hb hby at_78) rfl (l' := #[.val (.int p1), .val (.int p2), .val (.int p3), .val (.int p4), .val (.int p5), .val (.int p6), .val (.ref b1), .val (.ref b13), .val (.int kk), .val (.int (own_be kk (own_b c1) (own_b c2) (own_b c3) (own_b c4) (own_b c5))), .unset, .unset, .unset, .unset, .unset, .unset, .unset, .unset, .unset, .unset, .unset]) rfl (XS.aload X24.here hx rfl (hb hby at_80) rfl rfl (XS.iconst X24.here hx rfl (hb hby at_82) k))) ?_
  have f26 := f21.keep r20_0 (ninS (Nat.ne_of_lt lt_b1_b13) nin0)
  obtain ⟨cl25, Ar25, q25, Sz25, Ng25, Hs25, Gf25⟩ := id f26
  have hin25 : ¬ ((1 : Int32) < 0 ∨ cl25.slots.size ≤ ((1 : Int32)).toNatClampNeg) := inb_of Sz25 ⟨by decide, by decide⟩
  have hat25 : cl25.slots[((1 : Int32)).toNatClampNeg]? = some (.int c1) := Hs25.at hin25 rfl
  refine OGo.via (X24.caload hx (j := (1 : Int32)) (v := (.int c1)) (by rw [r24_0]; exact Ar25.1) (State.isArrayOf_alike hZ.alike Ar25.2.1) Ar25.2.2 hin25 hat25 (g := (mkF m 83 #[.val (.int p1), .val (.int p2), .val (.int p3), .val (.int p4), .val (.int p5), .val (.int p6), .val (.ref b1), .val (.ref b13), .val (.int kk), .val (.int (own_be kk (own_b c1) (own_b c2) (own_b c3) (own_b c4) (own_b c5))), .unset, .unset, .unset, .unset, .unset, .unset, .unset, .unset, .unset, .unset, .unset] [(.int (1 : Int32)), (.ref b1)])) rfl rfl (hb hby at_83)) ?_
  show OGo _ _ _ _ (T24.setTop (mkF m 84 #[.val (.int p1), .val (.int p2), .val (.int p3), .val (.int p4), .val (.int p5), .val (.int p6), .val (.ref b1), .val (.ref b13), .val (.int kk), .val (.int (own_be kk (own_b c1) (own_b c2) (own_b c3) (own_b c4) (own_b c5))), .unset, .unset, .unset, .unset, .unset, .unset, .unset, .unset, .unset, .unset, .unset] [(.int c1)]))
  refine OGo.via (fun _ k => XS.bipush X24.here hx rfl (hb hby at_84) k) ?_
  have jn27 : OJn p.tables e below (fun T' (s1 : Int32) => own_St X24 n0 T' ∧ T'.heap = T20.heap ∧ (s1 = own_b c1)) (fun s1 => (mkF m 94 #[.val (.int p1), .val (.int p2), .val (.int p3), .val (.int p4), .val (.int p5), .val (.int p6), .val (.ref b1), .val (.ref b13), .val (.int kk), .val (.int (own_be kk (own_b c1) (own_b c2) (own_b c3) (own_b c4) (own_b c5))), .unset, .unset, .unset, .unset, .unset, .unset, .unset, .unset, .unset, .unset, .unset] [(.int s1)])) (T24.setTop (mkF m 86 #[.val (.int p1), .val (.int p2), .val (.int p3), .val (.int p4), .val (.int p5), .val (.int p6), .val (.ref b1), .val (.ref b13), .val (.int kk), .val (.int (own_be kk (own_b c1) (own_b c2) (own_b c3) (own_b c4) (own_b c5))), .unset, .unset, .unset, .unset, .unset, .unset, .unset, .unset, .unset, .unset, .unset] [(.int (47 : Int32)), (.int c1)])) := by
    by_cases hc86_28 : c1 = (47 : Int32)
    · refine OJn.via (fun _ k => XS.icmpNo X24.here hx rfl (hb hby at_86) rfl (teq hc86_28).2 k) ?_
      show OJn _ _ _ _ _ (T24.setTop (mkF m 89 #[.val (.int p1), .val (.int p2), .val (.int p3), .val (.int p4), .val (.int p5), .val (.int p6), .val (.ref b1), .val (.ref b13), .val (.int kk), .val (.int (own_be kk (own_b c1) (own_b c2) (own_b c3) (own_b c4) (own_b c5))), .unset, .unset, .unset, .unset, .unset, .unset, .unset, .unset, .unset, .unset, .unset] []))
      refine OJn.via (fun _ k => XS.iconst X24.here hx rfl (hb hby at_89) (XS.goto X24.here hx rfl (pc0 := 90) (pc' := 94) rfl (hb hby at_90) (by decide) (by decide) k)) ?_
      show OJn _ _ _ _ _ (T24.setTop (mkF m 94 #[.val (.int p1), .val (.int p2), .val (.int p3), .val (.int p4), .val (.int p5), .val (.int p6), .val (.ref b1), .val (.ref b13), .val (.int kk), .val (.int (own_be kk (own_b c1) (own_b c2) (own_b c3) (own_b c4) (own_b c5))), .unset, .unset, .unset, .unset, .unset, .unset, .unset, .unset, .unset, .unset, .unset] [(.int (1 : Int32))]))
      exact ⟨_, (1 : Int32), ⟨⟨_, X24, N24⟩, r24_0, (by rw [own_b, if_pos hc86_28])⟩, fun _ k => k⟩
    · refine OJn.via (fun _ k => XS.icmpYes X24.here hx rfl (pc0 := 86) (pc' := 93) rfl (hb hby at_86) rfl (feq hc86_28).2 (by decide) (by decide) k) ?_
      show OJn _ _ _ _ _ (T24.setTop (mkF m 93 #[.val (.int p1), .val (.int p2), .val (.int p3), .val (.int p4), .val (.int p5), .val (.int p6), .val (.ref b1), .val (.ref b13), .val (.int kk), .val (.int (own_be kk (own_b c1) (own_b c2) (own_b c3) (own_b c4) (own_b c5))), .unset, .unset, .unset, .unset, .unset, .unset, .unset, .unset, .unset, .unset, .unset] []))
      refine OJn.via (fun _ k => XS.iconst X24.here hx rfl (hb hby at_93) k) ?_
      show OJn _ _ _ _ _ (T24.setTop (mkF m 94 #[.val (.int p1), .val (.int p2), .val (.int p3), .val (.int p4), .val (.int p5), .val (.int p6), .val (.ref b1), .val (.ref b13), .val (.int kk), .val (.int (own_be kk (own_b c1) (own_b c2) (own_b c3) (own_b c4) (own_b c5))), .unset, .unset, .unset, .unset, .unset, .unset, .unset, .unset, .unset, .unset, .unset] [(.int (0 : Int32))]))
      exact ⟨_, (0 : Int32), ⟨⟨_, X24, N24⟩, r24_0, (by rw [own_b, if_neg hc86_28])⟩, fun _ k => k⟩
  obtain ⟨T27, s1, ⟨⟨locs27, X27, N27⟩, e27, hj27⟩, st27⟩ := jn27
  refine OGo.via st27 ?_
  show OGo _ _ _ _ (T27.setTop (mkF m 94 #[.val (.int p1), .val (.int p2), .val (.int p3), .val (.int p4), .val (.int p5), .val (.int p6), .val (.ref b1), .val (.ref b13), .val (.int kk), .val (.int (own_be kk (own_b c1) (own_b c2) (own_b c3) (own_b c4) (own_b c5))), .unset, .unset, .unset, .unset, .unset, .unset, .unset, .unset, .unset, .unset, .unset] [(.int s1)]))
  rw [hj27]
  show OGo _ _ _ _ (T27.setTop (mkF m 94 #[.val (.int p1), .val (.int p2), .val (.int p3), .val (.int p4), .val (.int p5), .val (.int p6), .val (.ref b1), .val (.ref b13), .val (.int kk), .val (.int (own_be kk (own_b c1) (own_b c2) (own_b c3) (own_b c4) (own_b c5))), .unset, .unset, .unset, .unset, .unset, .unset, .unset, .unset, .unset, .unset, .unset] [(.int (own_b c1))]))
  refine OGo.via (fun _ k => XS.istore X27.here hx rfl (hb hby at_94) rfl (l' := #[.val (.int p1), .val (.int p2), .val (.int p3), .val (.int p4), .val (.int p5), .val (.int p6), .val (.ref b1), .val (.ref b13), .val (.int kk), .val (.int (own_be kk (own_b c1) (own_b c2) (own_b c3) (own_b c4) (own_b c5))), .val (.int (own_b c1)), .unset, .unset, .unset, .unset, .unset, .unset, .unset, .unset, .unset, .unset]) rfl (XS.aload X27.here hx rfl (hb hby at_96) rfl rfl (XS.iconst X27.here hx rfl (hb hby at_98) k))) ?_
  obtain ⟨cl29, Ar29, q29, Sz29, Ng29, Hs29, Gf29⟩ := id f26
  have hin29 : ¬ ((2 : Int32) < 0 ∨ cl29.slots.size ≤ ((2 : Int32)).toNatClampNeg) := inb_of Sz29 ⟨by decide, by decide⟩
  have hat29 : cl29.slots[((2 : Int32)).toNatClampNeg]? = some (.int c2) := Hs29.at hin29 rfl
  refine OGo.via (X27.caload hx (j := (2 : Int32)) (v := (.int c2)) (by rw [e27]; exact Ar29.1) (State.isArrayOf_alike hZ.alike Ar29.2.1) Ar29.2.2 hin29 hat29 (g := (mkF m 99 #[.val (.int p1), .val (.int p2), .val (.int p3), .val (.int p4), .val (.int p5), .val (.int p6), .val (.ref b1), .val (.ref b13), .val (.int kk), .val (.int (own_be kk (own_b c1) (own_b c2) (own_b c3) (own_b c4) (own_b c5))), .val (.int (own_b c1)), .unset, .unset, .unset, .unset, .unset, .unset, .unset, .unset, .unset, .unset] [(.int (2 : Int32)), (.ref b1)])) rfl rfl (hb hby at_99)) ?_
  show OGo _ _ _ _ (T27.setTop (mkF m 100 #[.val (.int p1), .val (.int p2), .val (.int p3), .val (.int p4), .val (.int p5), .val (.int p6), .val (.ref b1), .val (.ref b13), .val (.int kk), .val (.int (own_be kk (own_b c1) (own_b c2) (own_b c3) (own_b c4) (own_b c5))), .val (.int (own_b c1)), .unset, .unset, .unset, .unset, .unset, .unset, .unset, .unset, .unset, .unset] [(.int c2)]))
  refine OGo.via (fun _ k => XS.bipush X27.here hx rfl (hb hby at_100) k) ?_
  have jn30 : OJn p.tables e below (fun T' (s2 : Int32) => own_St X27 n0 T' ∧ T'.heap = T20.heap ∧ (s2 = own_b c2)) (fun s2 => (mkF m 110 #[.val (.int p1), .val (.int p2), .val (.int p3), .val (.int p4), .val (.int p5), .val (.int p6), .val (.ref b1), .val (.ref b13), .val (.int kk), .val (.int (own_be kk (own_b c1) (own_b c2) (own_b c3) (own_b c4) (own_b c5))), .val (.int (own_b c1)), .unset, .unset, .unset, .unset, .unset, .unset, .unset, .unset, .unset, .unset] [(.int s2)])) (T27.setTop (mkF m 102 #[.val (.int p1), .val (.int p2), .val (.int p3), .val (.int p4), .val (.int p5), .val (.int p6), .val (.ref b1), .val (.ref b13), .val (.int kk), .val (.int (own_be kk (own_b c1) (own_b c2) (own_b c3) (own_b c4) (own_b c5))), .val (.int (own_b c1)), .unset, .unset, .unset, .unset, .unset, .unset, .unset, .unset, .unset, .unset] [(.int (47 : Int32)), (.int c2)])) := by
    by_cases hc102_31 : c2 = (47 : Int32)
    · refine OJn.via (fun _ k => XS.icmpNo X27.here hx rfl (hb hby at_102) rfl (teq hc102_31).2 k) ?_
      show OJn _ _ _ _ _ (T27.setTop (mkF m 105 #[.val (.int p1), .val (.int p2), .val (.int p3), .val (.int p4), .val (.int p5), .val (.int p6), .val (.ref b1), .val (.ref b13), .val (.int kk), .val (.int (own_be kk (own_b c1) (own_b c2) (own_b c3) (own_b c4) (own_b c5))), .val (.int (own_b c1)), .unset, .unset, .unset, .unset, .unset, .unset, .unset, .unset, .unset, .unset] []))
      refine OJn.via (fun _ k => XS.iconst X27.here hx rfl (hb hby at_105) (XS.goto X27.here hx rfl (pc0 := 106) (pc' := 110) rfl (hb hby at_106) (by decide) (by decide) k)) ?_
      show OJn _ _ _ _ _ (T27.setTop (mkF m 110 #[.val (.int p1), .val (.int p2), .val (.int p3), .val (.int p4), .val (.int p5), .val (.int p6), .val (.ref b1), .val (.ref b13), .val (.int kk), .val (.int (own_be kk (own_b c1) (own_b c2) (own_b c3) (own_b c4) (own_b c5))), .val (.int (own_b c1)), .unset, .unset, .unset, .unset, .unset, .unset, .unset, .unset, .unset, .unset] [(.int (1 : Int32))]))
      exact ⟨_, (1 : Int32), ⟨⟨_, X27, N27⟩, e27, (by rw [own_b, if_pos hc102_31])⟩, fun _ k => k⟩
    · refine OJn.via (fun _ k => XS.icmpYes X27.here hx rfl (pc0 := 102) (pc' := 109) rfl (hb hby at_102) rfl (feq hc102_31).2 (by decide) (by decide) k) ?_
      show OJn _ _ _ _ _ (T27.setTop (mkF m 109 #[.val (.int p1), .val (.int p2), .val (.int p3), .val (.int p4), .val (.int p5), .val (.int p6), .val (.ref b1), .val (.ref b13), .val (.int kk), .val (.int (own_be kk (own_b c1) (own_b c2) (own_b c3) (own_b c4) (own_b c5))), .val (.int (own_b c1)), .unset, .unset, .unset, .unset, .unset, .unset, .unset, .unset, .unset, .unset] []))
      refine OJn.via (fun _ k => XS.iconst X27.here hx rfl (hb hby at_109) k) ?_
      show OJn _ _ _ _ _ (T27.setTop (mkF m 110 #[.val (.int p1), .val (.int p2), .val (.int p3), .val (.int p4), .val (.int p5), .val (.int p6), .val (.ref b1), .val (.ref b13), .val (.int kk), .val (.int (own_be kk (own_b c1) (own_b c2) (own_b c3) (own_b c4) (own_b c5))), .val (.int (own_b c1)), .unset, .unset, .unset, .unset, .unset, .unset, .unset, .unset, .unset, .unset] [(.int (0 : Int32))]))
      exact ⟨_, (0 : Int32), ⟨⟨_, X27, N27⟩, e27, (by rw [own_b, if_neg hc102_31])⟩, fun _ k => k⟩
  obtain ⟨T30, s2, ⟨⟨locs30, X30, N30⟩, e30, hj30⟩, st30⟩ := jn30
  refine OGo.via st30 ?_
  show OGo _ _ _ _ (T30.setTop (mkF m 110 #[.val (.int p1), .val (.int p2), .val (.int p3), .val (.int p4), .val (.int p5), .val (.int p6), .val (.ref b1), .val (.ref b13), .val (.int kk), .val (.int (own_be kk (own_b c1) (own_b c2) (own_b c3) (own_b c4) (own_b c5))), .val (.int (own_b c1)), .unset, .unset, .unset, .unset, .unset, .unset, .unset, .unset, .unset, .unset] [(.int s2)]))
  rw [hj30]
  show OGo _ _ _ _ (T30.setTop (mkF m 110 #[.val (.int p1), .val (.int p2), .val (.int p3), .val (.int p4), .val (.int p5), .val (.int p6), .val (.ref b1), .val (.ref b13), .val (.int kk), .val (.int (own_be kk (own_b c1) (own_b c2) (own_b c3) (own_b c4) (own_b c5))), .val (.int (own_b c1)), .unset, .unset, .unset, .unset, .unset, .unset, .unset, .unset, .unset, .unset] [(.int (own_b c2))]))
  refine OGo.via (fun _ k => XS.istore X30.here hx rfl (hb hby at_110) rfl (l' := #[.val (.int p1), .val (.int p2), .val (.int p3), .val (.int p4), .val (.int p5), .val (.int p6), .val (.ref b1), .val (.ref b13), .val (.int kk), .val (.int (own_be kk (own_b c1) (own_b c2) (own_b c3) (own_b c4) (own_b c5))), .val (.int (own_b c1)), .val (.int (own_b c2)), .unset, .unset, .unset, .unset, .unset, .unset, .unset, .unset, .unset]) rfl (XS.aload X30.here hx rfl (hb hby at_112) rfl rfl (XS.iconst X30.here hx rfl (hb hby at_114) k))) ?_
  obtain ⟨cl32, Ar32, q32, Sz32, Ng32, Hs32, Gf32⟩ := id f26
  have hin32 : ¬ ((3 : Int32) < 0 ∨ cl32.slots.size ≤ ((3 : Int32)).toNatClampNeg) := inb_of Sz32 ⟨by decide, by decide⟩
  have hat32 : cl32.slots[((3 : Int32)).toNatClampNeg]? = some (.int c3) := Hs32.at hin32 rfl
  refine OGo.via (X30.caload hx (j := (3 : Int32)) (v := (.int c3)) (by rw [e30]; exact Ar32.1) (State.isArrayOf_alike hZ.alike Ar32.2.1) Ar32.2.2 hin32 hat32 (g := (mkF m 115 #[.val (.int p1), .val (.int p2), .val (.int p3), .val (.int p4), .val (.int p5), .val (.int p6), .val (.ref b1), .val (.ref b13), .val (.int kk), .val (.int (own_be kk (own_b c1) (own_b c2) (own_b c3) (own_b c4) (own_b c5))), .val (.int (own_b c1)), .val (.int (own_b c2)), .unset, .unset, .unset, .unset, .unset, .unset, .unset, .unset, .unset] [(.int (3 : Int32)), (.ref b1)])) rfl rfl (hb hby at_115)) ?_
  show OGo _ _ _ _ (T30.setTop (mkF m 116 #[.val (.int p1), .val (.int p2), .val (.int p3), .val (.int p4), .val (.int p5), .val (.int p6), .val (.ref b1), .val (.ref b13), .val (.int kk), .val (.int (own_be kk (own_b c1) (own_b c2) (own_b c3) (own_b c4) (own_b c5))), .val (.int (own_b c1)), .val (.int (own_b c2)), .unset, .unset, .unset, .unset, .unset, .unset, .unset, .unset, .unset] [(.int c3)]))
  refine OGo.via (fun _ k => XS.bipush X30.here hx rfl (hb hby at_116) k) ?_
  have jn33 : OJn p.tables e below (fun T' (s3 : Int32) => own_St X30 n0 T' ∧ T'.heap = T20.heap ∧ (s3 = own_b c3)) (fun s3 => (mkF m 126 #[.val (.int p1), .val (.int p2), .val (.int p3), .val (.int p4), .val (.int p5), .val (.int p6), .val (.ref b1), .val (.ref b13), .val (.int kk), .val (.int (own_be kk (own_b c1) (own_b c2) (own_b c3) (own_b c4) (own_b c5))), .val (.int (own_b c1)), .val (.int (own_b c2)), .unset, .unset, .unset, .unset, .unset, .unset, .unset, .unset, .unset] [(.int s3)])) (T30.setTop (mkF m 118 #[.val (.int p1), .val (.int p2), .val (.int p3), .val (.int p4), .val (.int p5), .val (.int p6), .val (.ref b1), .val (.ref b13), .val (.int kk), .val (.int (own_be kk (own_b c1) (own_b c2) (own_b c3) (own_b c4) (own_b c5))), .val (.int (own_b c1)), .val (.int (own_b c2)), .unset, .unset, .unset, .unset, .unset, .unset, .unset, .unset, .unset] [(.int (47 : Int32)), (.int c3)])) := by
    by_cases hc118_34 : c3 = (47 : Int32)
    · refine OJn.via (fun _ k => XS.icmpNo X30.here hx rfl (hb hby at_118) rfl (teq hc118_34).2 k) ?_
      show OJn _ _ _ _ _ (T30.setTop (mkF m 121 #[.val (.int p1), .val (.int p2), .val (.int p3), .val (.int p4), .val (.int p5), .val (.int p6), .val (.ref b1), .val (.ref b13), .val (.int kk), .val (.int (own_be kk (own_b c1) (own_b c2) (own_b c3) (own_b c4) (own_b c5))), .val (.int (own_b c1)), .val (.int (own_b c2)), .unset, .unset, .unset, .unset, .unset, .unset, .unset, .unset, .unset] []))
      refine OJn.via (fun _ k => XS.iconst X30.here hx rfl (hb hby at_121) (XS.goto X30.here hx rfl (pc0 := 122) (pc' := 126) rfl (hb hby at_122) (by decide) (by decide) k)) ?_
      show OJn _ _ _ _ _ (T30.setTop (mkF m 126 #[.val (.int p1), .val (.int p2), .val (.int p3), .val (.int p4), .val (.int p5), .val (.int p6), .val (.ref b1), .val (.ref b13), .val (.int kk), .val (.int (own_be kk (own_b c1) (own_b c2) (own_b c3) (own_b c4) (own_b c5))), .val (.int (own_b c1)), .val (.int (own_b c2)), .unset, .unset, .unset, .unset, .unset, .unset, .unset, .unset, .unset] [(.int (1 : Int32))]))
      exact ⟨_, (1 : Int32), ⟨⟨_, X30, N30⟩, e30, (by rw [own_b, if_pos hc118_34])⟩, fun _ k => k⟩
    · refine OJn.via (fun _ k => XS.icmpYes X30.here hx rfl (pc0 := 118) (pc' := 125) rfl (hb hby at_118) rfl (feq hc118_34).2 (by decide) (by decide) k) ?_
      show OJn _ _ _ _ _ (T30.setTop (mkF m 125 #[.val (.int p1), .val (.int p2), .val (.int p3), .val (.int p4), .val (.int p5), .val (.int p6), .val (.ref b1), .val (.ref b13), .val (.int kk), .val (.int (own_be kk (own_b c1) (own_b c2) (own_b c3) (own_b c4) (own_b c5))), .val (.int (own_b c1)), .val (.int (own_b c2)), .unset, .unset, .unset, .unset, .unset, .unset, .unset, .unset, .unset] []))
      refine OJn.via (fun _ k => XS.iconst X30.here hx rfl (hb hby at_125) k) ?_
      show OJn _ _ _ _ _ (T30.setTop (mkF m 126 #[.val (.int p1), .val (.int p2), .val (.int p3), .val (.int p4), .val (.int p5), .val (.int p6), .val (.ref b1), .val (.ref b13), .val (.int kk), .val (.int (own_be kk (own_b c1) (own_b c2) (own_b c3) (own_b c4) (own_b c5))), .val (.int (own_b c1)), .val (.int (own_b c2)), .unset, .unset, .unset, .unset, .unset, .unset, .unset, .unset, .unset] [(.int (0 : Int32))]))
      exact ⟨_, (0 : Int32), ⟨⟨_, X30, N30⟩, e30, (by rw [own_b, if_neg hc118_34])⟩, fun _ k => k⟩
  obtain ⟨T33, s3, ⟨⟨locs33, X33, N33⟩, e33, hj33⟩, st33⟩ := jn33
  refine OGo.via st33 ?_
  show OGo _ _ _ _ (T33.setTop (mkF m 126 #[.val (.int p1), .val (.int p2), .val (.int p3), .val (.int p4), .val (.int p5), .val (.int p6), .val (.ref b1), .val (.ref b13), .val (.int kk), .val (.int (own_be kk (own_b c1) (own_b c2) (own_b c3) (own_b c4) (own_b c5))), .val (.int (own_b c1)), .val (.int (own_b c2)), .unset, .unset, .unset, .unset, .unset, .unset, .unset, .unset, .unset] [(.int s3)]))
  rw [hj33]
  show OGo _ _ _ _ (T33.setTop (mkF m 126 #[.val (.int p1), .val (.int p2), .val (.int p3), .val (.int p4), .val (.int p5), .val (.int p6), .val (.ref b1), .val (.ref b13), .val (.int kk), .val (.int (own_be kk (own_b c1) (own_b c2) (own_b c3) (own_b c4) (own_b c5))), .val (.int (own_b c1)), .val (.int (own_b c2)), .unset, .unset, .unset, .unset, .unset, .unset, .unset, .unset, .unset] [(.int (own_b c3))]))
  refine OGo.via (fun _ k => XS.istore X33.here hx rfl (hb hby at_126) rfl (l' := #[.val (.int p1), .val (.int p2), .val (.int p3), .val (.int p4), .val (.int p5), .val (.int p6), .val (.ref b1), .val (.ref b13), .val (.int kk), .val (.int (own_be kk (own_b c1) (own_b c2) (own_b c3) (own_b c4) (own_b c5))), .val (.int (own_b c1)), .val (.int (own_b c2)), .val (.int (own_b c3)), .unset, .unset, .unset, .unset, .unset, .unset, .unset, .unset]) rfl (XS.aload X33.here hx rfl (hb hby at_128) rfl rfl (XS.iconst X33.here hx rfl (hb hby at_130) k))) ?_
  obtain ⟨cl35, Ar35, q35, Sz35, Ng35, Hs35, Gf35⟩ := id f26
  have hin35 : ¬ ((4 : Int32) < 0 ∨ cl35.slots.size ≤ ((4 : Int32)).toNatClampNeg) := inb_of Sz35 ⟨by decide, by decide⟩
  have hat35 : cl35.slots[((4 : Int32)).toNatClampNeg]? = some (.int c4) := Hs35.at hin35 rfl
  refine OGo.via (X33.caload hx (j := (4 : Int32)) (v := (.int c4)) (by rw [e33]; exact Ar35.1) (State.isArrayOf_alike hZ.alike Ar35.2.1) Ar35.2.2 hin35 hat35 (g := (mkF m 131 #[.val (.int p1), .val (.int p2), .val (.int p3), .val (.int p4), .val (.int p5), .val (.int p6), .val (.ref b1), .val (.ref b13), .val (.int kk), .val (.int (own_be kk (own_b c1) (own_b c2) (own_b c3) (own_b c4) (own_b c5))), .val (.int (own_b c1)), .val (.int (own_b c2)), .val (.int (own_b c3)), .unset, .unset, .unset, .unset, .unset, .unset, .unset, .unset] [(.int (4 : Int32)), (.ref b1)])) rfl rfl (hb hby at_131)) ?_
  show OGo _ _ _ _ (T33.setTop (mkF m 132 #[.val (.int p1), .val (.int p2), .val (.int p3), .val (.int p4), .val (.int p5), .val (.int p6), .val (.ref b1), .val (.ref b13), .val (.int kk), .val (.int (own_be kk (own_b c1) (own_b c2) (own_b c3) (own_b c4) (own_b c5))), .val (.int (own_b c1)), .val (.int (own_b c2)), .val (.int (own_b c3)), .unset, .unset, .unset, .unset, .unset, .unset, .unset, .unset] [(.int c4)]))
  refine OGo.via (fun _ k => XS.bipush X33.here hx rfl (hb hby at_132) k) ?_
  have jn36 : OJn p.tables e below (fun T' (s4 : Int32) => own_St X33 n0 T' ∧ T'.heap = T20.heap ∧ (s4 = own_b c4)) (fun s4 => (mkF m 142 #[.val (.int p1), .val (.int p2), .val (.int p3), .val (.int p4), .val (.int p5), .val (.int p6), .val (.ref b1), .val (.ref b13), .val (.int kk), .val (.int (own_be kk (own_b c1) (own_b c2) (own_b c3) (own_b c4) (own_b c5))), .val (.int (own_b c1)), .val (.int (own_b c2)), .val (.int (own_b c3)), .unset, .unset, .unset, .unset, .unset, .unset, .unset, .unset] [(.int s4)])) (T33.setTop (mkF m 134 #[.val (.int p1), .val (.int p2), .val (.int p3), .val (.int p4), .val (.int p5), .val (.int p6), .val (.ref b1), .val (.ref b13), .val (.int kk), .val (.int (own_be kk (own_b c1) (own_b c2) (own_b c3) (own_b c4) (own_b c5))), .val (.int (own_b c1)), .val (.int (own_b c2)), .val (.int (own_b c3)), .unset, .unset, .unset, .unset, .unset, .unset, .unset, .unset] [(.int (47 : Int32)), (.int c4)])) := by
    by_cases hc134_37 : c4 = (47 : Int32)
    · refine OJn.via (fun _ k => XS.icmpNo X33.here hx rfl (hb hby at_134) rfl (teq hc134_37).2 k) ?_
      show OJn _ _ _ _ _ (T33.setTop (mkF m 137 #[.val (.int p1), .val (.int p2), .val (.int p3), .val (.int p4), .val (.int p5), .val (.int p6), .val (.ref b1), .val (.ref b13), .val (.int kk), .val (.int (own_be kk (own_b c1) (own_b c2) (own_b c3) (own_b c4) (own_b c5))), .val (.int (own_b c1)), .val (.int (own_b c2)), .val (.int (own_b c3)), .unset, .unset, .unset, .unset, .unset, .unset, .unset, .unset] []))
      refine OJn.via (fun _ k => XS.iconst X33.here hx rfl (hb hby at_137) (XS.goto X33.here hx rfl (pc0 := 138) (pc' := 142) rfl (hb hby at_138) (by decide) (by decide) k)) ?_
      show OJn _ _ _ _ _ (T33.setTop (mkF m 142 #[.val (.int p1), .val (.int p2), .val (.int p3), .val (.int p4), .val (.int p5), .val (.int p6), .val (.ref b1), .val (.ref b13), .val (.int kk), .val (.int (own_be kk (own_b c1) (own_b c2) (own_b c3) (own_b c4) (own_b c5))), .val (.int (own_b c1)), .val (.int (own_b c2)), .val (.int (own_b c3)), .unset, .unset, .unset, .unset, .unset, .unset, .unset, .unset] [(.int (1 : Int32))]))
      exact ⟨_, (1 : Int32), ⟨⟨_, X33, N33⟩, e33, (by rw [own_b, if_pos hc134_37])⟩, fun _ k => k⟩
    · refine OJn.via (fun _ k => XS.icmpYes X33.here hx rfl (pc0 := 134) (pc' := 141) rfl (hb hby at_134) rfl (feq hc134_37).2 (by decide) (by decide) k) ?_
      show OJn _ _ _ _ _ (T33.setTop (mkF m 141 #[.val (.int p1), .val (.int p2), .val (.int p3), .val (.int p4), .val (.int p5), .val (.int p6), .val (.ref b1), .val (.ref b13), .val (.int kk), .val (.int (own_be kk (own_b c1) (own_b c2) (own_b c3) (own_b c4) (own_b c5))), .val (.int (own_b c1)), .val (.int (own_b c2)), .val (.int (own_b c3)), .unset, .unset, .unset, .unset, .unset, .unset, .unset, .unset] []))
      refine OJn.via (fun _ k => XS.iconst X33.here hx rfl (hb hby at_141) k) ?_
      show OJn _ _ _ _ _ (T33.setTop (mkF m 142 #[.val (.int p1), .val (.int p2), .val (.int p3), .val (.int p4), .val (.int p5), .val (.int p6), .val (.ref b1), .val (.ref b13), .val (.int kk), .val (.int (own_be kk (own_b c1) (own_b c2) (own_b c3) (own_b c4) (own_b c5))), .val (.int (own_b c1)), .val (.int (own_b c2)), .val (.int (own_b c3)), .unset, .unset, .unset, .unset, .unset, .unset, .unset, .unset] [(.int (0 : Int32))]))
      exact ⟨_, (0 : Int32), ⟨⟨_, X33, N33⟩, e33, (by rw [own_b, if_neg hc134_37])⟩, fun _ k => k⟩
  obtain ⟨T36, s4, ⟨⟨locs36, X36, N36⟩, e36, hj36⟩, st36⟩ := jn36
  refine OGo.via st36 ?_
  show OGo _ _ _ _ (T36.setTop (mkF m 142 #[.val (.int p1), .val (.int p2), .val (.int p3), .val (.int p4), .val (.int p5), .val (.int p6), .val (.ref b1), .val (.ref b13), .val (.int kk), .val (.int (own_be kk (own_b c1) (own_b c2) (own_b c3) (own_b c4) (own_b c5))), .val (.int (own_b c1)), .val (.int (own_b c2)), .val (.int (own_b c3)), .unset, .unset, .unset, .unset, .unset, .unset, .unset, .unset] [(.int s4)]))
  rw [hj36]
  show OGo _ _ _ _ (T36.setTop (mkF m 142 #[.val (.int p1), .val (.int p2), .val (.int p3), .val (.int p4), .val (.int p5), .val (.int p6), .val (.ref b1), .val (.ref b13), .val (.int kk), .val (.int (own_be kk (own_b c1) (own_b c2) (own_b c3) (own_b c4) (own_b c5))), .val (.int (own_b c1)), .val (.int (own_b c2)), .val (.int (own_b c3)), .unset, .unset, .unset, .unset, .unset, .unset, .unset, .unset] [(.int (own_b c4))]))
  refine OGo.via (fun _ k => XS.istore X36.here hx rfl (hb hby at_142) rfl (l' := #[.val (.int p1), .val (.int p2), .val (.int p3), .val (.int p4), .val (.int p5), .val (.int p6), .val (.ref b1), .val (.ref b13), .val (.int kk), .val (.int (own_be kk (own_b c1) (own_b c2) (own_b c3) (own_b c4) (own_b c5))), .val (.int (own_b c1)), .val (.int (own_b c2)), .val (.int (own_b c3)), .val (.int (own_b c4)), .unset, .unset, .unset, .unset, .unset, .unset, .unset]) rfl (XS.aload X36.here hx rfl (hb hby at_144) rfl rfl (XS.iconst X36.here hx rfl (hb hby at_146) k))) ?_
  obtain ⟨cl38, Ar38, q38, Sz38, Ng38, Hs38, Gf38⟩ := id f26
  have hin38 : ¬ ((5 : Int32) < 0 ∨ cl38.slots.size ≤ ((5 : Int32)).toNatClampNeg) := inb_of Sz38 ⟨by decide, by decide⟩
  have hat38 : cl38.slots[((5 : Int32)).toNatClampNeg]? = some (.int c5) := Hs38.at hin38 rfl
  refine OGo.via (X36.caload hx (j := (5 : Int32)) (v := (.int c5)) (by rw [e36]; exact Ar38.1) (State.isArrayOf_alike hZ.alike Ar38.2.1) Ar38.2.2 hin38 hat38 (g := (mkF m 147 #[.val (.int p1), .val (.int p2), .val (.int p3), .val (.int p4), .val (.int p5), .val (.int p6), .val (.ref b1), .val (.ref b13), .val (.int kk), .val (.int (own_be kk (own_b c1) (own_b c2) (own_b c3) (own_b c4) (own_b c5))), .val (.int (own_b c1)), .val (.int (own_b c2)), .val (.int (own_b c3)), .val (.int (own_b c4)), .unset, .unset, .unset, .unset, .unset, .unset, .unset] [(.int (5 : Int32)), (.ref b1)])) rfl rfl (hb hby at_147)) ?_
  show OGo _ _ _ _ (T36.setTop (mkF m 148 #[.val (.int p1), .val (.int p2), .val (.int p3), .val (.int p4), .val (.int p5), .val (.int p6), .val (.ref b1), .val (.ref b13), .val (.int kk), .val (.int (own_be kk (own_b c1) (own_b c2) (own_b c3) (own_b c4) (own_b c5))), .val (.int (own_b c1)), .val (.int (own_b c2)), .val (.int (own_b c3)), .val (.int (own_b c4)), .unset, .unset, .unset, .unset, .unset, .unset, .unset] [(.int c5)]))
  refine OGo.via (fun _ k => XS.bipush X36.here hx rfl (hb hby at_148) k) ?_
  have jn39 : OJn p.tables e below (fun T' (s5 : Int32) => own_St X36 n0 T' ∧ T'.heap = T20.heap ∧ (s5 = own_b c5)) (fun s5 => (mkF m 158 #[.val (.int p1), .val (.int p2), .val (.int p3), .val (.int p4), .val (.int p5), .val (.int p6), .val (.ref b1), .val (.ref b13), .val (.int kk), .val (.int (own_be kk (own_b c1) (own_b c2) (own_b c3) (own_b c4) (own_b c5))), .val (.int (own_b c1)), .val (.int (own_b c2)), .val (.int (own_b c3)), .val (.int (own_b c4)), .unset, .unset, .unset, .unset, .unset, .unset, .unset] [(.int s5)])) (T36.setTop (mkF m 150 #[.val (.int p1), .val (.int p2), .val (.int p3), .val (.int p4), .val (.int p5), .val (.int p6), .val (.ref b1), .val (.ref b13), .val (.int kk), .val (.int (own_be kk (own_b c1) (own_b c2) (own_b c3) (own_b c4) (own_b c5))), .val (.int (own_b c1)), .val (.int (own_b c2)), .val (.int (own_b c3)), .val (.int (own_b c4)), .unset, .unset, .unset, .unset, .unset, .unset, .unset] [(.int (47 : Int32)), (.int c5)])) := by
    by_cases hc150_40 : c5 = (47 : Int32)
    · refine OJn.via (fun _ k => XS.icmpNo X36.here hx rfl (hb hby at_150) rfl (teq hc150_40).2 k) ?_
      show OJn _ _ _ _ _ (T36.setTop (mkF m 153 #[.val (.int p1), .val (.int p2), .val (.int p3), .val (.int p4), .val (.int p5), .val (.int p6), .val (.ref b1), .val (.ref b13), .val (.int kk), .val (.int (own_be kk (own_b c1) (own_b c2) (own_b c3) (own_b c4) (own_b c5))), .val (.int (own_b c1)), .val (.int (own_b c2)), .val (.int (own_b c3)), .val (.int (own_b c4)), .unset, .unset, .unset, .unset, .unset, .unset, .unset] []))
      refine OJn.via (fun _ k => XS.iconst X36.here hx rfl (hb hby at_153) (XS.goto X36.here hx rfl (pc0 := 154) (pc' := 158) rfl (hb hby at_154) (by decide) (by decide) k)) ?_
      show OJn _ _ _ _ _ (T36.setTop (mkF m 158 #[.val (.int p1), .val (.int p2), .val (.int p3), .val (.int p4), .val (.int p5), .val (.int p6), .val (.ref b1), .val (.ref b13), .val (.int kk), .val (.int (own_be kk (own_b c1) (own_b c2) (own_b c3) (own_b c4) (own_b c5))), .val (.int (own_b c1)), .val (.int (own_b c2)), .val (.int (own_b c3)), .val (.int (own_b c4)), .unset, .unset, .unset, .unset, .unset, .unset, .unset] [(.int (1 : Int32))]))
      exact ⟨_, (1 : Int32), ⟨⟨_, X36, N36⟩, e36, (by rw [own_b, if_pos hc150_40])⟩, fun _ k => k⟩
    · refine OJn.via (fun _ k => XS.icmpYes X36.here hx rfl (pc0 := 150) (pc' := 157) rfl (hb hby at_150) rfl (feq hc150_40).2 (by decide) (by decide) k) ?_
      show OJn _ _ _ _ _ (T36.setTop (mkF m 157 #[.val (.int p1), .val (.int p2), .val (.int p3), .val (.int p4), .val (.int p5), .val (.int p6), .val (.ref b1), .val (.ref b13), .val (.int kk), .val (.int (own_be kk (own_b c1) (own_b c2) (own_b c3) (own_b c4) (own_b c5))), .val (.int (own_b c1)), .val (.int (own_b c2)), .val (.int (own_b c3)), .val (.int (own_b c4)), .unset, .unset, .unset, .unset, .unset, .unset, .unset] []))
      refine OJn.via (fun _ k => XS.iconst X36.here hx rfl (hb hby at_157) k) ?_
      show OJn _ _ _ _ _ (T36.setTop (mkF m 158 #[.val (.int p1), .val (.int p2), .val (.int p3), .val (.int p4), .val (.int p5), .val (.int p6), .val (.ref b1), .val (.ref b13), .val (.int kk), .val (.int (own_be kk (own_b c1) (own_b c2) (own_b c3) (own_b c4) (own_b c5))), .val (.int (own_b c1)), .val (.int (own_b c2)), .val (.int (own_b c3)), .val (.int (own_b c4)), .unset, .unset, .unset, .unset, .unset, .unset, .unset] [(.int (0 : Int32))]))
      exact ⟨_, (0 : Int32), ⟨⟨_, X36, N36⟩, e36, (by rw [own_b, if_neg hc150_40])⟩, fun _ k => k⟩
  obtain ⟨T39, s5, ⟨⟨locs39, X39, N39⟩, e39, hj39⟩, st39⟩ := jn39
  refine OGo.via st39 ?_
  show OGo _ _ _ _ (T39.setTop (mkF m 158 #[.val (.int p1), .val (.int p2), .val (.int p3), .val (.int p4), .val (.int p5), .val (.int p6), .val (.ref b1), .val (.ref b13), .val (.int kk), .val (.int (own_be kk (own_b c1) (own_b c2) (own_b c3) (own_b c4) (own_b c5))), .val (.int (own_b c1)), .val (.int (own_b c2)), .val (.int (own_b c3)), .val (.int (own_b c4)), .unset, .unset, .unset, .unset, .unset, .unset, .unset] [(.int s5)]))
  rw [hj39]
  show OGo _ _ _ _ (T39.setTop (mkF m 158 #[.val (.int p1), .val (.int p2), .val (.int p3), .val (.int p4), .val (.int p5), .val (.int p6), .val (.ref b1), .val (.ref b13), .val (.int kk), .val (.int (own_be kk (own_b c1) (own_b c2) (own_b c3) (own_b c4) (own_b c5))), .val (.int (own_b c1)), .val (.int (own_b c2)), .val (.int (own_b c3)), .val (.int (own_b c4)), .unset, .unset, .unset, .unset, .unset, .unset, .unset] [(.int (own_b c5))]))
  refine OGo.via (fun _ k => XS.istore X39.here hx rfl (hb hby at_158) rfl (l' := #[.val (.int p1), .val (.int p2), .val (.int p3), .val (.int p4), .val (.int p5), .val (.int p6), .val (.ref b1), .val (.ref b13), .val (.int kk), .val (.int (own_be kk (own_b c1) (own_b c2) (own_b c3) (own_b c4) (own_b c5))), .val (.int (own_b c1)), .val (.int (own_b c2)), .val (.int (own_b c3)), .val (.int (own_b c4)), .val (.int (own_b c5)), .unset, .unset, .unset, .unset, .unset, .unset]) rfl (XS.iload X39.here hx rfl (hb hby at_160) rfl k)) ?_
  have jn41 : OJn p.tables e below (fun T' (m1 : Int32) => own_St X39 n0 T' ∧ T'.heap = T20.heap ∧ (m1 = own_b c1)) (fun m1 => (mkF m 170 #[.val (.int p1), .val (.int p2), .val (.int p3), .val (.int p4), .val (.int p5), .val (.int p6), .val (.ref b1), .val (.ref b13), .val (.int kk), .val (.int (own_be kk (own_b c1) (own_b c2) (own_b c3) (own_b c4) (own_b c5))), .val (.int (own_b c1)), .val (.int (own_b c2)), .val (.int (own_b c3)), .val (.int (own_b c4)), .val (.int (own_b c5)), .unset, .unset, .unset, .unset, .unset, .unset] [(.int m1)])) (T39.setTop (mkF m 162 #[.val (.int p1), .val (.int p2), .val (.int p3), .val (.int p4), .val (.int p5), .val (.int p6), .val (.ref b1), .val (.ref b13), .val (.int kk), .val (.int (own_be kk (own_b c1) (own_b c2) (own_b c3) (own_b c4) (own_b c5))), .val (.int (own_b c1)), .val (.int (own_b c2)), .val (.int (own_b c3)), .val (.int (own_b c4)), .val (.int (own_b c5)), .unset, .unset, .unset, .unset, .unset, .unset] [(.int (own_b c1))])) := by
    by_cases hc162_42 : (own_b c1) = (0 : Int32)
    · refine OJn.via (fun _ k => XS.ifYes X39.here hx rfl (pc0 := 162) (pc' := 169) rfl (hb hby at_162) rfl ((if0 _ _).trans (teq hc162_42).1) (by decide) (by decide) k) ?_
      show OJn _ _ _ _ _ (T39.setTop (mkF m 169 #[.val (.int p1), .val (.int p2), .val (.int p3), .val (.int p4), .val (.int p5), .val (.int p6), .val (.ref b1), .val (.ref b13), .val (.int kk), .val (.int (own_be kk (own_b c1) (own_b c2) (own_b c3) (own_b c4) (own_b c5))), .val (.int (own_b c1)), .val (.int (own_b c2)), .val (.int (own_b c3)), .val (.int (own_b c4)), .val (.int (own_b c5)), .unset, .unset, .unset, .unset, .unset, .unset] []))
      refine OJn.via (fun _ k => XS.iconst X39.here hx rfl (hb hby at_169) k) ?_
      show OJn _ _ _ _ _ (T39.setTop (mkF m 170 #[.val (.int p1), .val (.int p2), .val (.int p3), .val (.int p4), .val (.int p5), .val (.int p6), .val (.ref b1), .val (.ref b13), .val (.int kk), .val (.int (own_be kk (own_b c1) (own_b c2) (own_b c3) (own_b c4) (own_b c5))), .val (.int (own_b c1)), .val (.int (own_b c2)), .val (.int (own_b c3)), .val (.int (own_b c4)), .val (.int (own_b c5)), .unset, .unset, .unset, .unset, .unset, .unset] [(.int (0 : Int32))]))
      exact ⟨_, (0 : Int32), ⟨⟨_, X39, N39⟩, e39, (hc162_42.symm)⟩, fun _ k => k⟩
    · refine OJn.via (fun _ k => XS.ifNo X39.here hx rfl (hb hby at_162) rfl ((if0 _ _).trans (feq hc162_42).1) k) ?_
      show OJn _ _ _ _ _ (T39.setTop (mkF m 165 #[.val (.int p1), .val (.int p2), .val (.int p3), .val (.int p4), .val (.int p5), .val (.int p6), .val (.ref b1), .val (.ref b13), .val (.int kk), .val (.int (own_be kk (own_b c1) (own_b c2) (own_b c3) (own_b c4) (own_b c5))), .val (.int (own_b c1)), .val (.int (own_b c2)), .val (.int (own_b c3)), .val (.int (own_b c4)), .val (.int (own_b c5)), .unset, .unset, .unset, .unset, .unset, .unset] []))
      refine OJn.via (fun _ k => XS.iconst X39.here hx rfl (hb hby at_165) (XS.goto X39.here hx rfl (pc0 := 166) (pc' := 170) rfl (hb hby at_166) (by decide) (by decide) k)) ?_
      show OJn _ _ _ _ _ (T39.setTop (mkF m 170 #[.val (.int p1), .val (.int p2), .val (.int p3), .val (.int p4), .val (.int p5), .val (.int p6), .val (.ref b1), .val (.ref b13), .val (.int kk), .val (.int (own_be kk (own_b c1) (own_b c2) (own_b c3) (own_b c4) (own_b c5))), .val (.int (own_b c1)), .val (.int (own_b c2)), .val (.int (own_b c3)), .val (.int (own_b c4)), .val (.int (own_b c5)), .unset, .unset, .unset, .unset, .unset, .unset] [(.int (1 : Int32))]))
      exact ⟨_, (1 : Int32), ⟨⟨_, X39, N39⟩, e39, (own_b1 hc162_42).symm⟩, fun _ k => k⟩
  obtain ⟨T41, m1, ⟨⟨locs41, X41, N41⟩, e41, hj41⟩, st41⟩ := jn41
  refine OGo.via st41 ?_
  show OGo _ _ _ _ (T41.setTop (mkF m 170 #[.val (.int p1), .val (.int p2), .val (.int p3), .val (.int p4), .val (.int p5), .val (.int p6), .val (.ref b1), .val (.ref b13), .val (.int kk), .val (.int (own_be kk (own_b c1) (own_b c2) (own_b c3) (own_b c4) (own_b c5))), .val (.int (own_b c1)), .val (.int (own_b c2)), .val (.int (own_b c3)), .val (.int (own_b c4)), .val (.int (own_b c5)), .unset, .unset, .unset, .unset, .unset, .unset] [(.int m1)]))
  rw [hj41]
  show OGo _ _ _ _ (T41.setTop (mkF m 170 #[.val (.int p1), .val (.int p2), .val (.int p3), .val (.int p4), .val (.int p5), .val (.int p6), .val (.ref b1), .val (.ref b13), .val (.int kk), .val (.int (own_be kk (own_b c1) (own_b c2) (own_b c3) (own_b c4) (own_b c5))), .val (.int (own_b c1)), .val (.int (own_b c2)), .val (.int (own_b c3)), .val (.int (own_b c4)), .val (.int (own_b c5)), .unset, .unset, .unset, .unset, .unset, .unset] [(.int (own_b c1))]))
  refine OGo.via (fun _ k => XS.istore X41.here hx rfl (hb hby at_170) rfl (l' := #[.val (.int p1), .val (.int p2), .val (.int p3), .val (.int p4), .val (.int p5), .val (.int p6), .val (.ref b1), .val (.ref b13), .val (.int kk), .val (.int (own_be kk (own_b c1) (own_b c2) (own_b c3) (own_b c4) (own_b c5))), .val (.int (own_b c1)), .val (.int (own_b c2)), .val (.int (own_b c3)), .val (.int (own_b c4)), .val (.int (own_b c5)), .val (.int (own_b c1)), .unset, .unset, .unset, .unset, .unset]) rfl (XS.iload X41.here hx rfl (hb hby at_172) rfl (XS.iload X41.here hx rfl (hb hby at_174) rfl k))) ?_
  have jn43 : OJn p.tables e below (fun T' (m2 : Int32) => own_St X41 n0 T' ∧ T'.heap = T20.heap ∧ (m2 = own_b c2)) (fun m2 => (mkF m 184 #[.val (.int p1), .val (.int p2), .val (.int p3), .val (.int p4), .val (.int p5), .val (.int p6), .val (.ref b1), .val (.ref b13), .val (.int kk), .val (.int (own_be kk (own_b c1) (own_b c2) (own_b c3) (own_b c4) (own_b c5))), .val (.int (own_b c1)), .val (.int (own_b c2)), .val (.int (own_b c3)), .val (.int (own_b c4)), .val (.int (own_b c5)), .val (.int (own_b c1)), .unset, .unset, .unset, .unset, .unset] [(.int m2), (.int (own_b c1))])) (T41.setTop (mkF m 176 #[.val (.int p1), .val (.int p2), .val (.int p3), .val (.int p4), .val (.int p5), .val (.int p6), .val (.ref b1), .val (.ref b13), .val (.int kk), .val (.int (own_be kk (own_b c1) (own_b c2) (own_b c3) (own_b c4) (own_b c5))), .val (.int (own_b c1)), .val (.int (own_b c2)), .val (.int (own_b c3)), .val (.int (own_b c4)), .val (.int (own_b c5)), .val (.int (own_b c1)), .unset, .unset, .unset, .unset, .unset] [(.int (own_b c2)), (.int (own_b c1))])) := by
    by_cases hc176_44 : (own_b c2) = (0 : Int32)
    · refine OJn.via (fun _ k => XS.ifYes X41.here hx rfl (pc0 := 176) (pc' := 183) rfl (hb hby at_176) rfl ((if0 _ _).trans (teq hc176_44).1) (by decide) (by decide) k) ?_
      show OJn _ _ _ _ _ (T41.setTop (mkF m 183 #[.val (.int p1), .val (.int p2), .val (.int p3), .val (.int p4), .val (.int p5), .val (.int p6), .val (.ref b1), .val (.ref b13), .val (.int kk), .val (.int (own_be kk (own_b c1) (own_b c2) (own_b c3) (own_b c4) (own_b c5))), .val (.int (own_b c1)), .val (.int (own_b c2)), .val (.int (own_b c3)), .val (.int (own_b c4)), .val (.int (own_b c5)), .val (.int (own_b c1)), .unset, .unset, .unset, .unset, .unset] [(.int (own_b c1))]))
      refine OJn.via (fun _ k => XS.iconst X41.here hx rfl (hb hby at_183) k) ?_
      show OJn _ _ _ _ _ (T41.setTop (mkF m 184 #[.val (.int p1), .val (.int p2), .val (.int p3), .val (.int p4), .val (.int p5), .val (.int p6), .val (.ref b1), .val (.ref b13), .val (.int kk), .val (.int (own_be kk (own_b c1) (own_b c2) (own_b c3) (own_b c4) (own_b c5))), .val (.int (own_b c1)), .val (.int (own_b c2)), .val (.int (own_b c3)), .val (.int (own_b c4)), .val (.int (own_b c5)), .val (.int (own_b c1)), .unset, .unset, .unset, .unset, .unset] [(.int (0 : Int32)), (.int (own_b c1))]))
      exact ⟨_, (0 : Int32), ⟨⟨_, X41, N41⟩, e41, (hc176_44.symm)⟩, fun _ k => k⟩
    · refine OJn.via (fun _ k => XS.ifNo X41.here hx rfl (hb hby at_176) rfl ((if0 _ _).trans (feq hc176_44).1) k) ?_
      show OJn _ _ _ _ _ (T41.setTop (mkF m 179 #[.val (.int p1), .val (.int p2), .val (.int p3), .val (.int p4), .val (.int p5), .val (.int p6), .val (.ref b1), .val (.ref b13), .val (.int kk), .val (.int (own_be kk (own_b c1) (own_b c2) (own_b c3) (own_b c4) (own_b c5))), .val (.int (own_b c1)), .val (.int (own_b c2)), .val (.int (own_b c3)), .val (.int (own_b c4)), .val (.int (own_b c5)), .val (.int (own_b c1)), .unset, .unset, .unset, .unset, .unset] [(.int (own_b c1))]))
      refine OJn.via (fun _ k => XS.iconst X41.here hx rfl (hb hby at_179) (XS.goto X41.here hx rfl (pc0 := 180) (pc' := 184) rfl (hb hby at_180) (by decide) (by decide) k)) ?_
      show OJn _ _ _ _ _ (T41.setTop (mkF m 184 #[.val (.int p1), .val (.int p2), .val (.int p3), .val (.int p4), .val (.int p5), .val (.int p6), .val (.ref b1), .val (.ref b13), .val (.int kk), .val (.int (own_be kk (own_b c1) (own_b c2) (own_b c3) (own_b c4) (own_b c5))), .val (.int (own_b c1)), .val (.int (own_b c2)), .val (.int (own_b c3)), .val (.int (own_b c4)), .val (.int (own_b c5)), .val (.int (own_b c1)), .unset, .unset, .unset, .unset, .unset] [(.int (1 : Int32)), (.int (own_b c1))]))
      exact ⟨_, (1 : Int32), ⟨⟨_, X41, N41⟩, e41, (own_b1 hc176_44).symm⟩, fun _ k => k⟩
  obtain ⟨T43, m2, ⟨⟨locs43, X43, N43⟩, e43, hj43⟩, st43⟩ := jn43
  refine OGo.via st43 ?_
  show OGo _ _ _ _ (T43.setTop (mkF m 184 #[.val (.int p1), .val (.int p2), .val (.int p3), .val (.int p4), .val (.int p5), .val (.int p6), .val (.ref b1), .val (.ref b13), .val (.int kk), .val (.int (own_be kk (own_b c1) (own_b c2) (own_b c3) (own_b c4) (own_b c5))), .val (.int (own_b c1)), .val (.int (own_b c2)), .val (.int (own_b c3)), .val (.int (own_b c4)), .val (.int (own_b c5)), .val (.int (own_b c1)), .unset, .unset, .unset, .unset, .unset] [(.int m2), (.int (own_b c1))]))
  rw [hj43]
  show OGo _ _ _ _ (T43.setTop (mkF m 184 #[.val (.int p1), .val (.int p2), .val (.int p3), .val (.int p4), .val (.int p5), .val (.int p6), .val (.ref b1), .val (.ref b13), .val (.int kk), .val (.int (own_be kk (own_b c1) (own_b c2) (own_b c3) (own_b c4) (own_b c5))), .val (.int (own_b c1)), .val (.int (own_b c2)), .val (.int (own_b c3)), .val (.int (own_b c4)), .val (.int (own_b c5)), .val (.int (own_b c1)), .unset, .unset, .unset, .unset, .unset] [(.int (own_b c2)), (.int (own_b c1))]))
  refine OGo.via (fun _ k => XS.iadd X43.here hx rfl (hb hby at_184) rfl (XS.istore X43.here hx rfl (hb hby at_185) rfl (l' := #[.val (.int p1), .val (.int p2), .val (.int p3), .val (.int p4), .val (.int p5), .val (.int p6), .val (.ref b1), .val (.ref b13), .val (.int kk), .val (.int (own_be kk (own_b c1) (own_b c2) (own_b c3) (own_b c4) (own_b c5))), .val (.int (own_b c1)), .val (.int (own_b c2)), .val (.int (own_b c3)), .val (.int (own_b c4)), .val (.int (own_b c5)), .val (.int (own_b c1)), .val (.int ((own_b c1) + (own_b c2))), .unset, .unset, .unset, .unset]) rfl (XS.iload X43.here hx rfl (hb hby at_187) rfl (XS.iload X43.here hx rfl (hb hby at_189) rfl k)))) ?_
  have jn45 : OJn p.tables e below (fun T' (m3 : Int32) => own_St X43 n0 T' ∧ T'.heap = T20.heap ∧ (m3 = own_b c3)) (fun m3 => (mkF m 199 #[.val (.int p1), .val (.int p2), .val (.int p3), .val (.int p4), .val (.int p5), .val (.int p6), .val (.ref b1), .val (.ref b13), .val (.int kk), .val (.int (own_be kk (own_b c1) (own_b c2) (own_b c3) (own_b c4) (own_b c5))), .val (.int (own_b c1)), .val (.int (own_b c2)), .val (.int (own_b c3)), .val (.int (own_b c4)), .val (.int (own_b c5)), .val (.int (own_b c1)), .val (.int ((own_b c1) + (own_b c2))), .unset, .unset, .unset, .unset] [(.int m3), (.int ((own_b c1) + (own_b c2)))])) (T43.setTop (mkF m 191 #[.val (.int p1), .val (.int p2), .val (.int p3), .val (.int p4), .val (.int p5), .val (.int p6), .val (.ref b1), .val (.ref b13), .val (.int kk), .val (.int (own_be kk (own_b c1) (own_b c2) (own_b c3) (own_b c4) (own_b c5))), .val (.int (own_b c1)), .val (.int (own_b c2)), .val (.int (own_b c3)), .val (.int (own_b c4)), .val (.int (own_b c5)), .val (.int (own_b c1)), .val (.int ((own_b c1) + (own_b c2))), .unset, .unset, .unset, .unset] [(.int (own_b c3)), (.int ((own_b c1) + (own_b c2)))])) := by
    by_cases hc191_46 : (own_b c3) = (0 : Int32)
    · refine OJn.via (fun _ k => XS.ifYes X43.here hx rfl (pc0 := 191) (pc' := 198) rfl (hb hby at_191) rfl ((if0 _ _).trans (teq hc191_46).1) (by decide) (by decide) k) ?_
      show OJn _ _ _ _ _ (T43.setTop (mkF m 198 #[.val (.int p1), .val (.int p2), .val (.int p3), .val (.int p4), .val (.int p5), .val (.int p6), .val (.ref b1), .val (.ref b13), .val (.int kk), .val (.int (own_be kk (own_b c1) (own_b c2) (own_b c3) (own_b c4) (own_b c5))), .val (.int (own_b c1)), .val (.int (own_b c2)), .val (.int (own_b c3)), .val (.int (own_b c4)), .val (.int (own_b c5)), .val (.int (own_b c1)), .val (.int ((own_b c1) + (own_b c2))), .unset, .unset, .unset, .unset] [(.int ((own_b c1) + (own_b c2)))]))
      refine OJn.via (fun _ k => XS.iconst X43.here hx rfl (hb hby at_198) k) ?_
      show OJn _ _ _ _ _ (T43.setTop (mkF m 199 #[.val (.int p1), .val (.int p2), .val (.int p3), .val (.int p4), .val (.int p5), .val (.int p6), .val (.ref b1), .val (.ref b13), .val (.int kk), .val (.int (own_be kk (own_b c1) (own_b c2) (own_b c3) (own_b c4) (own_b c5))), .val (.int (own_b c1)), .val (.int (own_b c2)), .val (.int (own_b c3)), .val (.int (own_b c4)), .val (.int (own_b c5)), .val (.int (own_b c1)), .val (.int ((own_b c1) + (own_b c2))), .unset, .unset, .unset, .unset] [(.int (0 : Int32)), (.int ((own_b c1) + (own_b c2)))]))
      exact ⟨_, (0 : Int32), ⟨⟨_, X43, N43⟩, e43, (hc191_46.symm)⟩, fun _ k => k⟩
    · refine OJn.via (fun _ k => XS.ifNo X43.here hx rfl (hb hby at_191) rfl ((if0 _ _).trans (feq hc191_46).1) k) ?_
      show OJn _ _ _ _ _ (T43.setTop (mkF m 194 #[.val (.int p1), .val (.int p2), .val (.int p3), .val (.int p4), .val (.int p5), .val (.int p6), .val (.ref b1), .val (.ref b13), .val (.int kk), .val (.int (own_be kk (own_b c1) (own_b c2) (own_b c3) (own_b c4) (own_b c5))), .val (.int (own_b c1)), .val (.int (own_b c2)), .val (.int (own_b c3)), .val (.int (own_b c4)), .val (.int (own_b c5)), .val (.int (own_b c1)), .val (.int ((own_b c1) + (own_b c2))), .unset, .unset, .unset, .unset] [(.int ((own_b c1) + (own_b c2)))]))
      refine OJn.via (fun _ k => XS.iconst X43.here hx rfl (hb hby at_194) (XS.goto X43.here hx rfl (pc0 := 195) (pc' := 199) rfl (hb hby at_195) (by decide) (by decide) k)) ?_
      show OJn _ _ _ _ _ (T43.setTop (mkF m 199 #[.val (.int p1), .val (.int p2), .val (.int p3), .val (.int p4), .val (.int p5), .val (.int p6), .val (.ref b1), .val (.ref b13), .val (.int kk), .val (.int (own_be kk (own_b c1) (own_b c2) (own_b c3) (own_b c4) (own_b c5))), .val (.int (own_b c1)), .val (.int (own_b c2)), .val (.int (own_b c3)), .val (.int (own_b c4)), .val (.int (own_b c5)), .val (.int (own_b c1)), .val (.int ((own_b c1) + (own_b c2))), .unset, .unset, .unset, .unset] [(.int (1 : Int32)), (.int ((own_b c1) + (own_b c2)))]))
      exact ⟨_, (1 : Int32), ⟨⟨_, X43, N43⟩, e43, (own_b1 hc191_46).symm⟩, fun _ k => k⟩
  obtain ⟨T45, m3, ⟨⟨locs45, X45, N45⟩, e45, hj45⟩, st45⟩ := jn45
  refine OGo.via st45 ?_
  show OGo _ _ _ _ (T45.setTop (mkF m 199 #[.val (.int p1), .val (.int p2), .val (.int p3), .val (.int p4), .val (.int p5), .val (.int p6), .val (.ref b1), .val (.ref b13), .val (.int kk), .val (.int (own_be kk (own_b c1) (own_b c2) (own_b c3) (own_b c4) (own_b c5))), .val (.int (own_b c1)), .val (.int (own_b c2)), .val (.int (own_b c3)), .val (.int (own_b c4)), .val (.int (own_b c5)), .val (.int (own_b c1)), .val (.int ((own_b c1) + (own_b c2))), .unset, .unset, .unset, .unset] [(.int m3), (.int ((own_b c1) + (own_b c2)))]))
  rw [hj45]
  show OGo _ _ _ _ (T45.setTop (mkF m 199 #[.val (.int p1), .val (.int p2), .val (.int p3), .val (.int p4), .val (.int p5), .val (.int p6), .val (.ref b1), .val (.ref b13), .val (.int kk), .val (.int (own_be kk (own_b c1) (own_b c2) (own_b c3) (own_b c4) (own_b c5))), .val (.int (own_b c1)), .val (.int (own_b c2)), .val (.int (own_b c3)), .val (.int (own_b c4)), .val (.int (own_b c5)), .val (.int (own_b c1)), .val (.int ((own_b c1) + (own_b c2))), .unset, .unset, .unset, .unset] [(.int (own_b c3)), (.int ((own_b c1) + (own_b c2)))]))
  refine OGo.via (fun _ k => XS.iadd X45.here hx rfl (hb hby at_199) rfl (XS.istore X45.here hx rfl (hb hby at_200) rfl (l' := #[.val (.int p1), .val (.int p2), .val (.int p3), .val (.int p4), .val (.int p5), .val (.int p6), .val (.ref b1), .val (.ref b13), .val (.int kk), .val (.int (own_be kk (own_b c1) (own_b c2) (own_b c3) (own_b c4) (own_b c5))), .val (.int (own_b c1)), .val (.int (own_b c2)), .val (.int (own_b c3)), .val (.int (own_b c4)), .val (.int (own_b c5)), .val (.int (own_b c1)), .val (.int ((own_b c1) + (own_b c2))), .val (.int (((own_b c1) + (own_b c2)) + (own_b c3))), .unset, .unset, .unset]) rfl (XS.iload X45.here hx rfl (hb hby at_202) rfl (XS.iload X45.here hx rfl (hb hby at_204) rfl k)))) ?_
  have jn47 : OJn p.tables e below (fun T' (m4 : Int32) => own_St X45 n0 T' ∧ T'.heap = T20.heap ∧ (m4 = own_b c4)) (fun m4 => (mkF m 214 #[.val (.int p1), .val (.int p2), .val (.int p3), .val (.int p4), .val (.int p5), .val (.int p6), .val (.ref b1), .val (.ref b13), .val (.int kk), .val (.int (own_be kk (own_b c1) (own_b c2) (own_b c3) (own_b c4) (own_b c5))), .val (.int (own_b c1)), .val (.int (own_b c2)), .val (.int (own_b c3)), .val (.int (own_b c4)), .val (.int (own_b c5)), .val (.int (own_b c1)), .val (.int ((own_b c1) + (own_b c2))), .val (.int (((own_b c1) + (own_b c2)) + (own_b c3))), .unset, .unset, .unset] [(.int m4), (.int (((own_b c1) + (own_b c2)) + (own_b c3)))])) (T45.setTop (mkF m 206 #[.val (.int p1), .val (.int p2), .val (.int p3), .val (.int p4), .val (.int p5), .val (.int p6), .val (.ref b1), .val (.ref b13), .val (.int kk), .val (.int (own_be kk (own_b c1) (own_b c2) (own_b c3) (own_b c4) (own_b c5))), .val (.int (own_b c1)), .val (.int (own_b c2)), .val (.int (own_b c3)), .val (.int (own_b c4)), .val (.int (own_b c5)), .val (.int (own_b c1)), .val (.int ((own_b c1) + (own_b c2))), .val (.int (((own_b c1) + (own_b c2)) + (own_b c3))), .unset, .unset, .unset] [(.int (own_b c4)), (.int (((own_b c1) + (own_b c2)) + (own_b c3)))])) := by
    by_cases hc206_48 : (own_b c4) = (0 : Int32)
    · refine OJn.via (fun _ k => XS.ifYes X45.here hx rfl (pc0 := 206) (pc' := 213) rfl (hb hby at_206) rfl ((if0 _ _).trans (teq hc206_48).1) (by decide) (by decide) k) ?_
      show OJn _ _ _ _ _ (T45.setTop (mkF m 213 #[.val (.int p1), .val (.int p2), .val (.int p3), .val (.int p4), .val (.int p5), .val (.int p6), .val (.ref b1), .val (.ref b13), .val (.int kk), .val (.int (own_be kk (own_b c1) (own_b c2) (own_b c3) (own_b c4) (own_b c5))), .val (.int (own_b c1)), .val (.int (own_b c2)), .val (.int (own_b c3)), .val (.int (own_b c4)), .val (.int (own_b c5)), .val (.int (own_b c1)), .val (.int ((own_b c1) + (own_b c2))), .val (.int (((own_b c1) + (own_b c2)) + (own_b c3))), .unset, .unset, .unset] [(.int (((own_b c1) + (own_b c2)) + (own_b c3)))]))
      refine OJn.via (fun _ k => XS.iconst X45.here hx rfl (hb hby at_213) k) ?_
      show OJn _ _ _ _ _ (T45.setTop (mkF m 214 #[.val (.int p1), .val (.int p2), .val (.int p3), .val (.int p4), .val (.int p5), .val (.int p6), .val (.ref b1), .val (.ref b13), .val (.int kk), .val (.int (own_be kk (own_b c1) (own_b c2) (own_b c3) (own_b c4) (own_b c5))), .val (.int (own_b c1)), .val (.int (own_b c2)), .val (.int (own_b c3)), .val (.int (own_b c4)), .val (.int (own_b c5)), .val (.int (own_b c1)), .val (.int ((own_b c1) + (own_b c2))), .val (.int (((own_b c1) + (own_b c2)) + (own_b c3))), .unset, .unset, .unset] [(.int (0 : Int32)), (.int (((own_b c1) + (own_b c2)) + (own_b c3)))]))
      exact ⟨_, (0 : Int32), ⟨⟨_, X45, N45⟩, e45, (hc206_48.symm)⟩, fun _ k => k⟩
    · refine OJn.via (fun _ k => XS.ifNo X45.here hx rfl (hb hby at_206) rfl ((if0 _ _).trans (feq hc206_48).1) k) ?_
      show OJn _ _ _ _ _ (T45.setTop (mkF m 209 #[.val (.int p1), .val (.int p2), .val (.int p3), .val (.int p4), .val (.int p5), .val (.int p6), .val (.ref b1), .val (.ref b13), .val (.int kk), .val (.int (own_be kk (own_b c1) (own_b c2) (own_b c3) (own_b c4) (own_b c5))), .val (.int (own_b c1)), .val (.int (own_b c2)), .val (.int (own_b c3)), .val (.int (own_b c4)), .val (.int (own_b c5)), .val (.int (own_b c1)), .val (.int ((own_b c1) + (own_b c2))), .val (.int (((own_b c1) + (own_b c2)) + (own_b c3))), .unset, .unset, .unset] [(.int (((own_b c1) + (own_b c2)) + (own_b c3)))]))
      refine OJn.via (fun _ k => XS.iconst X45.here hx rfl (hb hby at_209) (XS.goto X45.here hx rfl (pc0 := 210) (pc' := 214) rfl (hb hby at_210) (by decide) (by decide) k)) ?_
      show OJn _ _ _ _ _ (T45.setTop (mkF m 214 #[.val (.int p1), .val (.int p2), .val (.int p3), .val (.int p4), .val (.int p5), .val (.int p6), .val (.ref b1), .val (.ref b13), .val (.int kk), .val (.int (own_be kk (own_b c1) (own_b c2) (own_b c3) (own_b c4) (own_b c5))), .val (.int (own_b c1)), .val (.int (own_b c2)), .val (.int (own_b c3)), .val (.int (own_b c4)), .val (.int (own_b c5)), .val (.int (own_b c1)), .val (.int ((own_b c1) + (own_b c2))), .val (.int (((own_b c1) + (own_b c2)) + (own_b c3))), .unset, .unset, .unset] [(.int (1 : Int32)), (.int (((own_b c1) + (own_b c2)) + (own_b c3)))]))
      exact ⟨_, (1 : Int32), ⟨⟨_, X45, N45⟩, e45, (own_b1 hc206_48).symm⟩, fun _ k => k⟩
  obtain ⟨T47, m4, ⟨⟨locs47, X47, N47⟩, e47, hj47⟩, st47⟩ := jn47
  refine OGo.via st47 ?_
  show OGo _ _ _ _ (T47.setTop (mkF m 214 #[.val (.int p1), .val (.int p2), .val (.int p3), .val (.int p4), .val (.int p5), .val (.int p6), .val (.ref b1), .val (.ref b13), .val (.int kk), .val (.int (own_be kk (own_b c1) (own_b c2) (own_b c3) (own_b c4) (own_b c5))), .val (.int (own_b c1)), .val (.int (own_b c2)), .val (.int (own_b c3)), .val (.int (own_b c4)), .val (.int (own_b c5)), .val (.int (own_b c1)), .val (.int ((own_b c1) + (own_b c2))), .val (.int (((own_b c1) + (own_b c2)) + (own_b c3))), .unset, .unset, .unset] [(.int m4), (.int (((own_b c1) + (own_b c2)) + (own_b c3)))]))
  rw [hj47]
  show OGo _ _ _ _ (T47.setTop (mkF m 214 #[.val (.int p1), .val (.int p2), .val (.int p3), .val (.int p4), .val (.int p5), .val (.int p6), .val (.ref b1), .val (.ref b13), .val (.int kk), .val (.int (own_be kk (own_b c1) (own_b c2) (own_b c3) (own_b c4) (own_b c5))), .val (.int (own_b c1)), .val (.int (own_b c2)), .val (.int (own_b c3)), .val (.int (own_b c4)), .val (.int (own_b c5)), .val (.int (own_b c1)), .val (.int ((own_b c1) + (own_b c2))), .val (.int (((own_b c1) + (own_b c2)) + (own_b c3))), .unset, .unset, .unset] [(.int (own_b c4)), (.int (((own_b c1) + (own_b c2)) + (own_b c3)))]))
  refine OGo.via (fun _ k => XS.iadd X47.here hx rfl (hb hby at_214) rfl (XS.istore X47.here hx rfl (hb hby at_215) rfl (l' := #[.val (.int p1), .val (.int p2), .val (.int p3), .val (.int p4), .val (.int p5), .val (.int p6), .val (.ref b1), .val (.ref b13), .val (.int kk), .val (.int (own_be kk (own_b c1) (own_b c2) (own_b c3) (own_b c4) (own_b c5))), .val (.int (own_b c1)), .val (.int (own_b c2)), .val (.int (own_b c3)), .val (.int (own_b c4)), .val (.int (own_b c5)), .val (.int (own_b c1)), .val (.int ((own_b c1) + (own_b c2))), .val (.int (((own_b c1) + (own_b c2)) + (own_b c3))), .val (.int ((((own_b c1) + (own_b c2)) + (own_b c3)) + (own_b c4))), .unset, .unset]) rfl (XS.iload X47.here hx rfl (hb hby at_217) rfl (XS.iload X47.here hx rfl (hb hby at_219) rfl k)))) ?_
  have jn49 : OJn p.tables e below (fun T' (m5 : Int32) => own_St X47 n0 T' ∧ T'.heap = T20.heap ∧ (m5 = own_b c5)) (fun m5 => (mkF m 229 #[.val (.int p1), .val (.int p2), .val (.int p3), .val (.int p4), .val (.int p5), .val (.int p6), .val (.ref b1), .val (.ref b13), .val (.int kk), .val (.int (own_be kk (own_b c1) (own_b c2) (own_b c3) (own_b c4) (own_b c5))), .val (.int (own_b c1)), .val (.int (own_b c2)), .val (.int (own_b c3)), .val (.int (own_b c4)), .val (.int (own_b c5)), .val (.int (own_b c1)), .val (.int ((own_b c1) + (own_b c2))), .val (.int (((own_b c1) + (own_b c2)) + (own_b c3))), .val (.int ((((own_b c1) + (own_b c2)) + (own_b c3)) + (own_b c4))), .unset, .unset] [(.int m5), (.int ((((own_b c1) + (own_b c2)) + (own_b c3)) + (own_b c4)))])) (T47.setTop (mkF m 221 #[.val (.int p1), .val (.int p2), .val (.int p3), .val (.int p4), .val (.int p5), .val (.int p6), .val (.ref b1), .val (.ref b13), .val (.int kk), .val (.int (own_be kk (own_b c1) (own_b c2) (own_b c3) (own_b c4) (own_b c5))), .val (.int (own_b c1)), .val (.int (own_b c2)), .val (.int (own_b c3)), .val (.int (own_b c4)), .val (.int (own_b c5)), .val (.int (own_b c1)), .val (.int ((own_b c1) + (own_b c2))), .val (.int (((own_b c1) + (own_b c2)) + (own_b c3))), .val (.int ((((own_b c1) + (own_b c2)) + (own_b c3)) + (own_b c4))), .unset, .unset] [(.int (own_b c5)), (.int ((((own_b c1) + (own_b c2)) + (own_b c3)) + (own_b c4)))])) := by
    by_cases hc221_50 : (own_b c5) = (0 : Int32)
    · refine OJn.via (fun _ k => XS.ifYes X47.here hx rfl (pc0 := 221) (pc' := 228) rfl (hb hby at_221) rfl ((if0 _ _).trans (teq hc221_50).1) (by decide) (by decide) k) ?_
      show OJn _ _ _ _ _ (T47.setTop (mkF m 228 #[.val (.int p1), .val (.int p2), .val (.int p3), .val (.int p4), .val (.int p5), .val (.int p6), .val (.ref b1), .val (.ref b13), .val (.int kk), .val (.int (own_be kk (own_b c1) (own_b c2) (own_b c3) (own_b c4) (own_b c5))), .val (.int (own_b c1)), .val (.int (own_b c2)), .val (.int (own_b c3)), .val (.int (own_b c4)), .val (.int (own_b c5)), .val (.int (own_b c1)), .val (.int ((own_b c1) + (own_b c2))), .val (.int (((own_b c1) + (own_b c2)) + (own_b c3))), .val (.int ((((own_b c1) + (own_b c2)) + (own_b c3)) + (own_b c4))), .unset, .unset] [(.int ((((own_b c1) + (own_b c2)) + (own_b c3)) + (own_b c4)))]))
      refine OJn.via (fun _ k => XS.iconst X47.here hx rfl (hb hby at_228) k) ?_
      show OJn _ _ _ _ _ (T47.setTop (mkF m 229 #[.val (.int p1), .val (.int p2), .val (.int p3), .val (.int p4), .val (.int p5), .val (.int p6), .val (.ref b1), .val (.ref b13), .val (.int kk), .val (.int (own_be kk (own_b c1) (own_b c2) (own_b c3) (own_b c4) (own_b c5))), .val (.int (own_b c1)), .val (.int (own_b c2)), .val (.int (own_b c3)), .val (.int (own_b c4)), .val (.int (own_b c5)), .val (.int (own_b c1)), .val (.int ((own_b c1) + (own_b c2))), .val (.int (((own_b c1) + (own_b c2)) + (own_b c3))), .val (.int ((((own_b c1) + (own_b c2)) + (own_b c3)) + (own_b c4))), .unset, .unset] [(.int (0 : Int32)), (.int ((((own_b c1) + (own_b c2)) + (own_b c3)) + (own_b c4)))]))
      exact ⟨_, (0 : Int32), ⟨⟨_, X47, N47⟩, e47, (hc221_50.symm)⟩, fun _ k => k⟩
    · refine OJn.via (fun _ k => XS.ifNo X47.here hx rfl (hb hby at_221) rfl ((if0 _ _).trans (feq hc221_50).1) k) ?_
      show OJn _ _ _ _ _ (T47.setTop (mkF m 224 #[.val (.int p1), .val (.int p2), .val (.int p3), .val (.int p4), .val (.int p5), .val (.int p6), .val (.ref b1), .val (.ref b13), .val (.int kk), .val (.int (own_be kk (own_b c1) (own_b c2) (own_b c3) (own_b c4) (own_b c5))), .val (.int (own_b c1)), .val (.int (own_b c2)), .val (.int (own_b c3)), .val (.int (own_b c4)), .val (.int (own_b c5)), .val (.int (own_b c1)), .val (.int ((own_b c1) + (own_b c2))), .val (.int (((own_b c1) + (own_b c2)) + (own_b c3))), .val (.int ((((own_b c1) + (own_b c2)) + (own_b c3)) + (own_b c4))), .unset, .unset] [(.int ((((own_b c1) + (own_b c2)) + (own_b c3)) + (own_b c4)))]))
      refine OJn.via (fun _ k => XS.iconst X47.here hx rfl (hb hby at_224) (XS.goto X47.here hx rfl (pc0 := 225) (pc' := 229) rfl (hb hby at_225) (by decide) (by decide) k)) ?_
      show OJn _ _ _ _ _ (T47.setTop (mkF m 229 #[.val (.int p1), .val (.int p2), .val (.int p3), .val (.int p4), .val (.int p5), .val (.int p6), .val (.ref b1), .val (.ref b13), .val (.int kk), .val (.int (own_be kk (own_b c1) (own_b c2) (own_b c3) (own_b c4) (own_b c5))), .val (.int (own_b c1)), .val (.int (own_b c2)), .val (.int (own_b c3)), .val (.int (own_b c4)), .val (.int (own_b c5)), .val (.int (own_b c1)), .val (.int ((own_b c1) + (own_b c2))), .val (.int (((own_b c1) + (own_b c2)) + (own_b c3))), .val (.int ((((own_b c1) + (own_b c2)) + (own_b c3)) + (own_b c4))), .unset, .unset] [(.int (1 : Int32)), (.int ((((own_b c1) + (own_b c2)) + (own_b c3)) + (own_b c4)))]))
      exact ⟨_, (1 : Int32), ⟨⟨_, X47, N47⟩, e47, (own_b1 hc221_50).symm⟩, fun _ k => k⟩
  obtain ⟨T49, m5, ⟨⟨locs49, X49, N49⟩, e49, hj49⟩, st49⟩ := jn49
  refine OGo.via st49 ?_
  show OGo _ _ _ _ (T49.setTop (mkF m 229 #[.val (.int p1), .val (.int p2), .val (.int p3), .val (.int p4), .val (.int p5), .val (.int p6), .val (.ref b1), .val (.ref b13), .val (.int kk), .val (.int (own_be kk (own_b c1) (own_b c2) (own_b c3) (own_b c4) (own_b c5))), .val (.int (own_b c1)), .val (.int (own_b c2)), .val (.int (own_b c3)), .val (.int (own_b c4)), .val (.int (own_b c5)), .val (.int (own_b c1)), .val (.int ((own_b c1) + (own_b c2))), .val (.int (((own_b c1) + (own_b c2)) + (own_b c3))), .val (.int ((((own_b c1) + (own_b c2)) + (own_b c3)) + (own_b c4))), .unset, .unset] [(.int m5), (.int ((((own_b c1) + (own_b c2)) + (own_b c3)) + (own_b c4)))]))
  rw [hj49]
  show OGo _ _ _ _ (T49.setTop (mkF m 229 #[.val (.int p1), .val (.int p2), .val (.int p3), .val (.int p4), .val (.int p5), .val (.int p6), .val (.ref b1), .val (.ref b13), .val (.int kk), .val (.int (own_be kk (own_b c1) (own_b c2) (own_b c3) (own_b c4) (own_b c5))), .val (.int (own_b c1)), .val (.int (own_b c2)), .val (.int (own_b c3)), .val (.int (own_b c4)), .val (.int (own_b c5)), .val (.int (own_b c1)), .val (.int ((own_b c1) + (own_b c2))), .val (.int (((own_b c1) + (own_b c2)) + (own_b c3))), .val (.int ((((own_b c1) + (own_b c2)) + (own_b c3)) + (own_b c4))), .unset, .unset] [(.int (own_b c5)), (.int ((((own_b c1) + (own_b c2)) + (own_b c3)) + (own_b c4)))]))
  refine OGo.via (fun _ k => XS.iadd X49.here hx rfl (hb hby at_229) rfl (XS.istore X49.here hx rfl (hb hby at_230) rfl (l' := #[.val (.int p1), .val (.int p2), .val (.int p3), .val (.int p4), .val (.int p5), .val (.int p6), .val (.ref b1), .val (.ref b13), .val (.int kk), .val (.int (own_be kk (own_b c1) (own_b c2) (own_b c3) (own_b c4) (own_b c5))), .val (.int (own_b c1)), .val (.int (own_b c2)), .val (.int (own_b c3)), .val (.int (own_b c4)), .val (.int (own_b c5)), .val (.int (own_b c1)), .val (.int ((own_b c1) + (own_b c2))), .val (.int (((own_b c1) + (own_b c2)) + (own_b c3))), .val (.int ((((own_b c1) + (own_b c2)) + (own_b c3)) + (own_b c4))), .val (.int (((((own_b c1) + (own_b c2)) + (own_b c3)) + (own_b c4)) + (own_b c5))), .unset]) rfl (XS.iload X49.here hx rfl (hb hby at_232) rfl k))) ?_
  show OGo _ _ _ _ (T49.setTop (mkF m 234 #[.val (.int p1), .val (.int p2), .val (.int p3), .val (.int p4), .val (.int p5), .val (.int p6), .val (.ref b1), .val (.ref b13), .val (.int kk), .val (.int (own_be kk (own_b c1) (own_b c2) (own_b c3) (own_b c4) (own_b c5))), .val (.int (own_b c1)), .val (.int (own_b c2)), .val (.int (own_b c3)), .val (.int (own_b c4)), .val (.int (own_b c5)), .val (.int (own_b c1)), .val (.int ((own_b c1) + (own_b c2))), .val (.int (((own_b c1) + (own_b c2)) + (own_b c3))), .val (.int ((((own_b c1) + (own_b c2)) + (own_b c3)) + (own_b c4))), .val (.int (((((own_b c1) + (own_b c2)) + (own_b c3)) + (own_b c4)) + (own_b c5))), .unset] [(.int kk)]))
  by_cases hkz : kk = (0 : Int32)
  · refine OGo.via (fun _ k => XS.ifNo X49.here hx rfl (hb hby at_234) rfl ((if0 _ _).trans (teq hkz).2) k) ?_
    show OGo _ _ _ _ (T49.setTop (mkF m 237 #[.val (.int p1), .val (.int p2), .val (.int p3), .val (.int p4), .val (.int p5), .val (.int p6), .val (.ref b1), .val (.ref b13), .val (.int kk), .val (.int (own_be kk (own_b c1) (own_b c2) (own_b c3) (own_b c4) (own_b c5))), .val (.int (own_b c1)), .val (.int (own_b c2)), .val (.int (own_b c3)), .val (.int (own_b c4)), .val (.int (own_b c5)), .val (.int (own_b c1)), .val (.int ((own_b c1) + (own_b c2))), .val (.int (((own_b c1) + (own_b c2)) + (own_b c3))), .val (.int ((((own_b c1) + (own_b c2)) + (own_b c3)) + (own_b c4))), .val (.int (((((own_b c1) + (own_b c2)) + (own_b c3)) + (own_b c4)) + (own_b c5))), .unset] []))
    refine OGo.via (fun _ k => XS.iconst X49.here hx rfl (hb hby at_237) (XS.istore X49.here hx rfl (hb hby at_238) rfl (l' := #[.val (.int p1), .val (.int p2), .val (.int p3), .val (.int p4), .val (.int p5), .val (.int p6), .val (.ref b1), .val (.ref b13), .val (.int kk), .val (.int (own_be kk (own_b c1) (own_b c2) (own_b c3) (own_b c4) (own_b c5))), .val (.int (own_b c1)), .val (.int (own_b c2)), .val (.int (own_b c3)), .val (.int (own_b c4)), .val (.int (own_b c5)), .val (.int (own_b c1)), .val (.int ((own_b c1) + (own_b c2))), .val (.int (((own_b c1) + (own_b c2)) + (own_b c3))), .val (.int ((((own_b c1) + (own_b c2)) + (own_b c3)) + (own_b c4))), .val (.int (((((own_b c1) + (own_b c2)) + (own_b c3)) + (own_b c4)) + (own_b c5))), .val (.int (0 : Int32))]) rfl (XS.goto X49.here hx rfl (pc0 := 240) (pc' := 337) rfl (hb hby at_240) (by decide) (by decide) (XS.iload X49.here hx rfl (hb hby at_337) rfl (XS.iload X49.here hx rfl (hb hby at_339) rfl k))))) ?_
    refine OGo.via (fun _ k => XS.icmpNo X49.here hx rfl (hb hby at_341) rfl (teq (by rw [own_be, if_pos hkz])).2 k) ?_
    show OGo _ _ _ _ (T49.setTop (mkF m 344 #[.val (.int p1), .val (.int p2), .val (.int p3), .val (.int p4), .val (.int p5), .val (.int p6), .val (.ref b1), .val (.ref b13), .val (.int kk), .val (.int (own_be kk (own_b c1) (own_b c2) (own_b c3) (own_b c4) (own_b c5))), .val (.int (own_b c1)), .val (.int (own_b c2)), .val (.int (own_b c3)), .val (.int (own_b c4)), .val (.int (own_b c5)), .val (.int (own_b c1)), .val (.int ((own_b c1) + (own_b c2))), .val (.int (((own_b c1) + (own_b c2)) + (own_b c3))), .val (.int ((((own_b c1) + (own_b c2)) + (own_b c3)) + (own_b c4))), .val (.int (((((own_b c1) + (own_b c2)) + (own_b c3)) + (own_b c4)) + (own_b c5))), .val (.int (0 : Int32))] []))
    refine OGo.via (fun _ k => XS.iconst X49.here hx rfl (hb hby at_344) (XS.goto X49.here hx rfl (pc0 := 345) (pc' := 349) rfl (hb hby at_345) (by decide) (by decide) k)) ?_
    show OGo _ _ _ _ (T49.setTop (mkF m 349 #[.val (.int p1), .val (.int p2), .val (.int p3), .val (.int p4), .val (.int p5), .val (.int p6), .val (.ref b1), .val (.ref b13), .val (.int kk), .val (.int (own_be kk (own_b c1) (own_b c2) (own_b c3) (own_b c4) (own_b c5))), .val (.int (own_b c1)), .val (.int (own_b c2)), .val (.int (own_b c3)), .val (.int (own_b c4)), .val (.int (own_b c5)), .val (.int (own_b c1)), .val (.int ((own_b c1) + (own_b c2))), .val (.int (((own_b c1) + (own_b c2)) + (own_b c3))), .val (.int ((((own_b c1) + (own_b c2)) + (own_b c3)) + (own_b c4))), .val (.int (((((own_b c1) + (own_b c2)) + (own_b c3)) + (own_b c4)) + (own_b c5))), .val (.int (0 : Int32))] [(.int (1 : Int32))]))
    refine own_retN (t := .boolean) (by simp) X49 hx Bd.notSynchronized Bd.returns (hb hby at_349) (by decide) (by decide) ?_
    show Q_rm0 Z _ _ _ _ _ _ _ h0 n0 _ T49.heap _
    rw [e49]
    exact ⟨rfl, N49⟩
  · refine OGo.via (fun _ k => XS.ifYes X49.here hx rfl (pc0 := 234) (pc' := 243) rfl (hb hby at_234) rfl ((if0 _ _).trans (feq hkz).2) (by decide) (by decide) k) ?_
    show OGo _ _ _ _ (T49.setTop (mkF m 243 #[.val (.int p1), .val (.int p2), .val (.int p3), .val (.int p4), .val (.int p5), .val (.int p6), .val (.ref b1), .val (.ref b13), .val (.int kk), .val (.int (own_be kk (own_b c1) (own_b c2) (own_b c3) (own_b c4) (own_b c5))), .val (.int (own_b c1)), .val (.int (own_b c2)), .val (.int (own_b c3)), .val (.int (own_b c4)), .val (.int (own_b c5)), .val (.int (own_b c1)), .val (.int ((own_b c1) + (own_b c2))), .val (.int (((own_b c1) + (own_b c2)) + (own_b c3))), .val (.int ((((own_b c1) + (own_b c2)) + (own_b c3)) + (own_b c4))), .val (.int (((((own_b c1) + (own_b c2)) + (own_b c3)) + (own_b c4)) + (own_b c5))), .unset] []))
    by_cases hq0 : ¬ (own_b c1) = 0 ∧ (own_b c1) = kk
    · refine OGo.via (fun _ k => XS.iload X49.here hx rfl (hb hby at_243) rfl k) ?_
      refine OGo.via (fun _ k => XS.ifNo X49.here hx rfl (hb hby at_245) rfl ((if0 _ _).trans (feq hq0.1).1) k) ?_
      show OGo _ _ _ _ (T49.setTop (mkF m 248 #[.val (.int p1), .val (.int p2), .val (.int p3), .val (.int p4), .val (.int p5), .val (.int p6), .val (.ref b1), .val (.ref b13), .val (.int kk), .val (.int (own_be kk (own_b c1) (own_b c2) (own_b c3) (own_b c4) (own_b c5))), .val (.int (own_b c1)), .val (.int (own_b c2)), .val (.int (own_b c3)), .val (.int (own_b c4)), .val (.int (own_b c5)), .val (.int (own_b c1)), .val (.int ((own_b c1) + (own_b c2))), .val (.int (((own_b c1) + (own_b c2)) + (own_b c3))), .val (.int ((((own_b c1) + (own_b c2)) + (own_b c3)) + (own_b c4))), .val (.int (((((own_b c1) + (own_b c2)) + (own_b c3)) + (own_b c4)) + (own_b c5))), .unset] []))
      refine OGo.via (fun _ k => XS.iload X49.here hx rfl (hb hby at_248) rfl (XS.iload X49.here hx rfl (hb hby at_250) rfl k)) ?_
      refine OGo.via (fun _ k => XS.icmpNo X49.here hx rfl (hb hby at_252) rfl (teq hq0.2).2 k) ?_
      show OGo _ _ _ _ (T49.setTop (mkF m 255 #[.val (.int p1), .val (.int p2), .val (.int p3), .val (.int p4), .val (.int p5), .val (.int p6), .val (.ref b1), .val (.ref b13), .val (.int kk), .val (.int (own_be kk (own_b c1) (own_b c2) (own_b c3) (own_b c4) (own_b c5))), .val (.int (own_b c1)), .val (.int (own_b c2)), .val (.int (own_b c3)), .val (.int (own_b c4)), .val (.int (own_b c5)), .val (.int (own_b c1)), .val (.int ((own_b c1) + (own_b c2))), .val (.int (((own_b c1) + (own_b c2)) + (own_b c3))), .val (.int ((((own_b c1) + (own_b c2)) + (own_b c3)) + (own_b c4))), .val (.int (((((own_b c1) + (own_b c2)) + (own_b c3)) + (own_b c4)) + (own_b c5))), .unset] []))
      refine OGo.via (fun _ k => XS.iconst X49.here hx rfl (hb hby at_255) (XS.istore X49.here hx rfl (hb hby at_256) rfl (l' := #[.val (.int p1), .val (.int p2), .val (.int p3), .val (.int p4), .val (.int p5), .val (.int p6), .val (.ref b1), .val (.ref b13), .val (.int kk), .val (.int (own_be kk (own_b c1) (own_b c2) (own_b c3) (own_b c4) (own_b c5))), .val (.int (own_b c1)), .val (.int (own_b c2)), .val (.int (own_b c3)), .val (.int (own_b c4)), .val (.int (own_b c5)), .val (.int (own_b c1)), .val (.int ((own_b c1) + (own_b c2))), .val (.int (((own_b c1) + (own_b c2)) + (own_b c3))), .val (.int ((((own_b c1) + (own_b c2)) + (own_b c3)) + (own_b c4))), .val (.int (((((own_b c1) + (own_b c2)) + (own_b c3)) + (own_b c4)) + (own_b c5))), .val (.int (1 : Int32))]) rfl (XS.goto X49.here hx rfl (pc0 := 258) (pc' := 337) rfl (hb hby at_258) (by decide) (by decide) (XS.iload X49.here hx rfl (hb hby at_337) rfl (XS.iload X49.here hx rfl (hb hby at_339) rfl k))))) ?_
      refine OGo.via (fun _ k => XS.icmpNo X49.here hx rfl (hb hby at_341) rfl (teq (by rw [own_be, if_neg hkz, if_pos hq0])).2 k) ?_
      show OGo _ _ _ _ (T49.setTop (mkF m 344 #[.val (.int p1), .val (.int p2), .val (.int p3), .val (.int p4), .val (.int p5), .val (.int p6), .val (.ref b1), .val (.ref b13), .val (.int kk), .val (.int (own_be kk (own_b c1) (own_b c2) (own_b c3) (own_b c4) (own_b c5))), .val (.int (own_b c1)), .val (.int (own_b c2)), .val (.int (own_b c3)), .val (.int (own_b c4)), .val (.int (own_b c5)), .val (.int (own_b c1)), .val (.int ((own_b c1) + (own_b c2))), .val (.int (((own_b c1) + (own_b c2)) + (own_b c3))), .val (.int ((((own_b c1) + (own_b c2)) + (own_b c3)) + (own_b c4))), .val (.int (((((own_b c1) + (own_b c2)) + (own_b c3)) + (own_b c4)) + (own_b c5))), .val (.int (1 : Int32))] []))
      refine OGo.via (fun _ k => XS.iconst X49.here hx rfl (hb hby at_344) (XS.goto X49.here hx rfl (pc0 := 345) (pc' := 349) rfl (hb hby at_345) (by decide) (by decide) k)) ?_
      show OGo _ _ _ _ (T49.setTop (mkF m 349 #[.val (.int p1), .val (.int p2), .val (.int p3), .val (.int p4), .val (.int p5), .val (.int p6), .val (.ref b1), .val (.ref b13), .val (.int kk), .val (.int (own_be kk (own_b c1) (own_b c2) (own_b c3) (own_b c4) (own_b c5))), .val (.int (own_b c1)), .val (.int (own_b c2)), .val (.int (own_b c3)), .val (.int (own_b c4)), .val (.int (own_b c5)), .val (.int (own_b c1)), .val (.int ((own_b c1) + (own_b c2))), .val (.int (((own_b c1) + (own_b c2)) + (own_b c3))), .val (.int ((((own_b c1) + (own_b c2)) + (own_b c3)) + (own_b c4))), .val (.int (((((own_b c1) + (own_b c2)) + (own_b c3)) + (own_b c4)) + (own_b c5))), .val (.int (1 : Int32))] [(.int (1 : Int32))]))
      refine own_retN (t := .boolean) (by simp) X49 hx Bd.notSynchronized Bd.returns (hb hby at_349) (by decide) (by decide) ?_
      show Q_rm0 Z _ _ _ _ _ _ _ h0 n0 _ T49.heap _
      rw [e49]
      exact ⟨rfl, N49⟩
    · have st51 : ∀ t, Steps p.tables e below (T49.setTop (mkF m 261 #[.val (.int p1), .val (.int p2), .val (.int p3), .val (.int p4), .val (.int p5), .val (.int p6), .val (.ref b1), .val (.ref b13), .val (.int kk), .val (.int (own_be kk (own_b c1) (own_b c2) (own_b c3) (own_b c4) (own_b c5))), .val (.int (own_b c1)), .val (.int (own_b c2)), .val (.int (own_b c3)), .val (.int (own_b c4)), .val (.int (own_b c5)), .val (.int (own_b c1)), .val (.int ((own_b c1) + (own_b c2))), .val (.int (((own_b c1) + (own_b c2)) + (own_b c3))), .val (.int ((((own_b c1) + (own_b c2)) + (own_b c3)) + (own_b c4))), .val (.int (((((own_b c1) + (own_b c2)) + (own_b c3)) + (own_b c4)) + (own_b c5))), .unset] [])) t → Steps p.tables e below (T49.setTop (mkF m 243 #[.val (.int p1), .val (.int p2), .val (.int p3), .val (.int p4), .val (.int p5), .val (.int p6), .val (.ref b1), .val (.ref b13), .val (.int kk), .val (.int (own_be kk (own_b c1) (own_b c2) (own_b c3) (own_b c4) (own_b c5))), .val (.int (own_b c1)), .val (.int (own_b c2)), .val (.int (own_b c3)), .val (.int (own_b c4)), .val (.int (own_b c5)), .val (.int (own_b c1)), .val (.int ((own_b c1) + (own_b c2))), .val (.int (((own_b c1) + (own_b c2)) + (own_b c3))), .val (.int ((((own_b c1) + (own_b c2)) + (own_b c3)) + (own_b c4))), .val (.int (((((own_b c1) + (own_b c2)) + (own_b c3)) + (own_b c4)) + (own_b c5))), .unset] [])) t := by
        intro t kk'
        refine XS.iload X49.here hx rfl (hb hby at_243) rfl ?_
        by_cases hz : (own_b c1) = (0 : Int32)
        · refine XS.ifYes X49.here hx rfl (pc0 := 245) (pc' := 261) rfl (hb hby at_245) rfl ((if0 _ _).trans (teq hz).1) (by decide) (by decide) ?_
          exact kk'
        · refine XS.ifNo X49.here hx rfl (hb hby at_245) rfl ((if0 _ _).trans (feq hz).1) ?_
          show Steps p.tables e below (T49.setTop (mkF m 248 #[.val (.int p1), .val (.int p2), .val (.int p3), .val (.int p4), .val (.int p5), .val (.int p6), .val (.ref b1), .val (.ref b13), .val (.int kk), .val (.int (own_be kk (own_b c1) (own_b c2) (own_b c3) (own_b c4) (own_b c5))), .val (.int (own_b c1)), .val (.int (own_b c2)), .val (.int (own_b c3)), .val (.int (own_b c4)), .val (.int (own_b c5)), .val (.int (own_b c1)), .val (.int ((own_b c1) + (own_b c2))), .val (.int (((own_b c1) + (own_b c2)) + (own_b c3))), .val (.int ((((own_b c1) + (own_b c2)) + (own_b c3)) + (own_b c4))), .val (.int (((((own_b c1) + (own_b c2)) + (own_b c3)) + (own_b c4)) + (own_b c5))), .unset] [])) _
          refine XS.iload X49.here hx rfl (hb hby at_248) rfl (XS.iload X49.here hx rfl (hb hby at_250) rfl ?_)
          refine XS.icmpYes X49.here hx rfl (pc0 := 252) (pc' := 261) rfl (hb hby at_252) rfl (feq (fun q => hq0 ⟨hz, q⟩)).2 (by decide) (by decide) ?_
          exact kk'
      refine OGo.via st51 ?_
      show OGo _ _ _ _ (T49.setTop (mkF m 261 #[.val (.int p1), .val (.int p2), .val (.int p3), .val (.int p4), .val (.int p5), .val (.int p6), .val (.ref b1), .val (.ref b13), .val (.int kk), .val (.int (own_be kk (own_b c1) (own_b c2) (own_b c3) (own_b c4) (own_b c5))), .val (.int (own_b c1)), .val (.int (own_b c2)), .val (.int (own_b c3)), .val (.int (own_b c4)), .val (.int (own_b c5)), .val (.int (own_b c1)), .val (.int ((own_b c1) + (own_b c2))), .val (.int (((own_b c1) + (own_b c2)) + (own_b c3))), .val (.int ((((own_b c1) + (own_b c2)) + (own_b c3)) + (own_b c4))), .val (.int (((((own_b c1) + (own_b c2)) + (own_b c3)) + (own_b c4)) + (own_b c5))), .unset] []))
      by_cases hq1 : ¬ (own_b c2) = 0 ∧ ((own_b c1) + (own_b c2)) = kk
      · refine OGo.via (fun _ k => XS.iload X49.here hx rfl (hb hby at_261) rfl k) ?_
        refine OGo.via (fun _ k => XS.ifNo X49.here hx rfl (hb hby at_263) rfl ((if0 _ _).trans (feq hq1.1).1) k) ?_
        show OGo _ _ _ _ (T49.setTop (mkF m 266 #[.val (.int p1), .val (.int p2), .val (.int p3), .val (.int p4), .val (.int p5), .val (.int p6), .val (.ref b1), .val (.ref b13), .val (.int kk), .val (.int (own_be kk (own_b c1) (own_b c2) (own_b c3) (own_b c4) (own_b c5))), .val (.int (own_b c1)), .val (.int (own_b c2)), .val (.int (own_b c3)), .val (.int (own_b c4)), .val (.int (own_b c5)), .val (.int (own_b c1)), .val (.int ((own_b c1) + (own_b c2))), .val (.int (((own_b c1) + (own_b c2)) + (own_b c3))), .val (.int ((((own_b c1) + (own_b c2)) + (own_b c3)) + (own_b c4))), .val (.int (((((own_b c1) + (own_b c2)) + (own_b c3)) + (own_b c4)) + (own_b c5))), .unset] []))
        refine OGo.via (fun _ k => XS.iload X49.here hx rfl (hb hby at_266) rfl (XS.iload X49.here hx rfl (hb hby at_268) rfl k)) ?_
        refine OGo.via (fun _ k => XS.icmpNo X49.here hx rfl (hb hby at_270) rfl (teq hq1.2).2 k) ?_
        show OGo _ _ _ _ (T49.setTop (mkF m 273 #[.val (.int p1), .val (.int p2), .val (.int p3), .val (.int p4), .val (.int p5), .val (.int p6), .val (.ref b1), .val (.ref b13), .val (.int kk), .val (.int (own_be kk (own_b c1) (own_b c2) (own_b c3) (own_b c4) (own_b c5))), .val (.int (own_b c1)), .val (.int (own_b c2)), .val (.int (own_b c3)), .val (.int (own_b c4)), .val (.int (own_b c5)), .val (.int (own_b c1)), .val (.int ((own_b c1) + (own_b c2))), .val (.int (((own_b c1) + (own_b c2)) + (own_b c3))), .val (.int ((((own_b c1) + (own_b c2)) + (own_b c3)) + (own_b c4))), .val (.int (((((own_b c1) + (own_b c2)) + (own_b c3)) + (own_b c4)) + (own_b c5))), .unset] []))
        refine OGo.via (fun _ k => XS.iconst X49.here hx rfl (hb hby at_273) (XS.istore X49.here hx rfl (hb hby at_274) rfl (l' := #[.val (.int p1), .val (.int p2), .val (.int p3), .val (.int p4), .val (.int p5), .val (.int p6), .val (.ref b1), .val (.ref b13), .val (.int kk), .val (.int (own_be kk (own_b c1) (own_b c2) (own_b c3) (own_b c4) (own_b c5))), .val (.int (own_b c1)), .val (.int (own_b c2)), .val (.int (own_b c3)), .val (.int (own_b c4)), .val (.int (own_b c5)), .val (.int (own_b c1)), .val (.int ((own_b c1) + (own_b c2))), .val (.int (((own_b c1) + (own_b c2)) + (own_b c3))), .val (.int ((((own_b c1) + (own_b c2)) + (own_b c3)) + (own_b c4))), .val (.int (((((own_b c1) + (own_b c2)) + (own_b c3)) + (own_b c4)) + (own_b c5))), .val (.int (2 : Int32))]) rfl (XS.goto X49.here hx rfl (pc0 := 276) (pc' := 337) rfl (hb hby at_276) (by decide) (by decide) (XS.iload X49.here hx rfl (hb hby at_337) rfl (XS.iload X49.here hx rfl (hb hby at_339) rfl k))))) ?_
        refine OGo.via (fun _ k => XS.icmpNo X49.here hx rfl (hb hby at_341) rfl (teq (by rw [own_be, if_neg hkz, if_neg hq0, if_pos hq1])).2 k) ?_
        show OGo _ _ _ _ (T49.setTop (mkF m 344 #[.val (.int p1), .val (.int p2), .val (.int p3), .val (.int p4), .val (.int p5), .val (.int p6), .val (.ref b1), .val (.ref b13), .val (.int kk), .val (.int (own_be kk (own_b c1) (own_b c2) (own_b c3) (own_b c4) (own_b c5))), .val (.int (own_b c1)), .val (.int (own_b c2)), .val (.int (own_b c3)), .val (.int (own_b c4)), .val (.int (own_b c5)), .val (.int (own_b c1)), .val (.int ((own_b c1) + (own_b c2))), .val (.int (((own_b c1) + (own_b c2)) + (own_b c3))), .val (.int ((((own_b c1) + (own_b c2)) + (own_b c3)) + (own_b c4))), .val (.int (((((own_b c1) + (own_b c2)) + (own_b c3)) + (own_b c4)) + (own_b c5))), .val (.int (2 : Int32))] []))
        refine OGo.via (fun _ k => XS.iconst X49.here hx rfl (hb hby at_344) (XS.goto X49.here hx rfl (pc0 := 345) (pc' := 349) rfl (hb hby at_345) (by decide) (by decide) k)) ?_
        show OGo _ _ _ _ (T49.setTop (mkF m 349 #[.val (.int p1), .val (.int p2), .val (.int p3), .val (.int p4), .val (.int p5), .val (.int p6), .val (.ref b1), .val (.ref b13), .val (.int kk), .val (.int (own_be kk (own_b c1) (own_b c2) (own_b c3) (own_b c4) (own_b c5))), .val (.int (own_b c1)), .val (.int (own_b c2)), .val (.int (own_b c3)), .val (.int (own_b c4)), .val (.int (own_b c5)), .val (.int (own_b c1)), .val (.int ((own_b c1) + (own_b c2))), .val (.int (((own_b c1) + (own_b c2)) + (own_b c3))), .val (.int ((((own_b c1) + (own_b c2)) + (own_b c3)) + (own_b c4))), .val (.int (((((own_b c1) + (own_b c2)) + (own_b c3)) + (own_b c4)) + (own_b c5))), .val (.int (2 : Int32))] [(.int (1 : Int32))]))
        refine own_retN (t := .boolean) (by simp) X49 hx Bd.notSynchronized Bd.returns (hb hby at_349) (by decide) (by decide) ?_
        show Q_rm0 Z _ _ _ _ _ _ _ h0 n0 _ T49.heap _
        rw [e49]
        exact ⟨rfl, N49⟩
      · have st52 : ∀ t, Steps p.tables e below (T49.setTop (mkF m 279 #[.val (.int p1), .val (.int p2), .val (.int p3), .val (.int p4), .val (.int p5), .val (.int p6), .val (.ref b1), .val (.ref b13), .val (.int kk), .val (.int (own_be kk (own_b c1) (own_b c2) (own_b c3) (own_b c4) (own_b c5))), .val (.int (own_b c1)), .val (.int (own_b c2)), .val (.int (own_b c3)), .val (.int (own_b c4)), .val (.int (own_b c5)), .val (.int (own_b c1)), .val (.int ((own_b c1) + (own_b c2))), .val (.int (((own_b c1) + (own_b c2)) + (own_b c3))), .val (.int ((((own_b c1) + (own_b c2)) + (own_b c3)) + (own_b c4))), .val (.int (((((own_b c1) + (own_b c2)) + (own_b c3)) + (own_b c4)) + (own_b c5))), .unset] [])) t → Steps p.tables e below (T49.setTop (mkF m 261 #[.val (.int p1), .val (.int p2), .val (.int p3), .val (.int p4), .val (.int p5), .val (.int p6), .val (.ref b1), .val (.ref b13), .val (.int kk), .val (.int (own_be kk (own_b c1) (own_b c2) (own_b c3) (own_b c4) (own_b c5))), .val (.int (own_b c1)), .val (.int (own_b c2)), .val (.int (own_b c3)), .val (.int (own_b c4)), .val (.int (own_b c5)), .val (.int (own_b c1)), .val (.int ((own_b c1) + (own_b c2))), .val (.int (((own_b c1) + (own_b c2)) + (own_b c3))), .val (.int ((((own_b c1) + (own_b c2)) + (own_b c3)) + (own_b c4))), .val (.int (((((own_b c1) + (own_b c2)) + (own_b c3)) + (own_b c4)) + (own_b c5))), .unset] [])) t := by
          intro t kk'
          refine XS.iload X49.here hx rfl (hb hby at_261) rfl ?_
          by_cases hz : (own_b c2) = (0 : Int32)
          · refine XS.ifYes X49.here hx rfl (pc0 := 263) (pc' := 279) rfl (hb hby at_263) rfl ((if0 _ _).trans (teq hz).1) (by decide) (by decide) ?_
            exact kk'
          · refine XS.ifNo X49.here hx rfl (hb hby at_263) rfl ((if0 _ _).trans (feq hz).1) ?_
            show Steps p.tables e below (T49.setTop (mkF m 266 #[.val (.int p1), .val (.int p2), .val (.int p3), .val (.int p4), .val (.int p5), .val (.int p6), .val (.ref b1), .val (.ref b13), .val (.int kk), .val (.int (own_be kk (own_b c1) (own_b c2) (own_b c3) (own_b c4) (own_b c5))), .val (.int (own_b c1)), .val (.int (own_b c2)), .val (.int (own_b c3)), .val (.int (own_b c4)), .val (.int (own_b c5)), .val (.int (own_b c1)), .val (.int ((own_b c1) + (own_b c2))), .val (.int (((own_b c1) + (own_b c2)) + (own_b c3))), .val (.int ((((own_b c1) + (own_b c2)) + (own_b c3)) + (own_b c4))), .val (.int (((((own_b c1) + (own_b c2)) + (own_b c3)) + (own_b c4)) + (own_b c5))), .unset] [])) _
            refine XS.iload X49.here hx rfl (hb hby at_266) rfl (XS.iload X49.here hx rfl (hb hby at_268) rfl ?_)
            refine XS.icmpYes X49.here hx rfl (pc0 := 270) (pc' := 279) rfl (hb hby at_270) rfl (feq (fun q => hq1 ⟨hz, q⟩)).2 (by decide) (by decide) ?_
            exact kk'
        refine OGo.via st52 ?_
        show OGo _ _ _ _ (T49.setTop (mkF m 279 #[.val (.int p1), .val (.int p2), .val (.int p3), .val (.int p4), .val (.int p5), .val (.int p6), .val (.ref b1), .val (.ref b13), .val (.int kk), .val (.int (own_be kk (own_b c1) (own_b c2) (own_b c3) (own_b c4) (own_b c5))), .val (.int (own_b c1)), .val (.int (own_b c2)), .val (.int (own_b c3)), .val (.int (own_b c4)), .val (.int (own_b c5)), .val (.int (own_b c1)), .val (.int ((own_b c1) + (own_b c2))), .val (.int (((own_b c1) + (own_b c2)) + (own_b c3))), .val (.int ((((own_b c1) + (own_b c2)) + (own_b c3)) + (own_b c4))), .val (.int (((((own_b c1) + (own_b c2)) + (own_b c3)) + (own_b c4)) + (own_b c5))), .unset] []))
        by_cases hq2 : ¬ (own_b c3) = 0 ∧ (((own_b c1) + (own_b c2)) + (own_b c3)) = kk
        · refine OGo.via (fun _ k => XS.iload X49.here hx rfl (hb hby at_279) rfl k) ?_
          refine OGo.via (fun _ k => XS.ifNo X49.here hx rfl (hb hby at_281) rfl ((if0 _ _).trans (feq hq2.1).1) k) ?_
          show OGo _ _ _ _ (T49.setTop (mkF m 284 #[.val (.int p1), .val (.int p2), .val (.int p3), .val (.int p4), .val (.int p5), .val (.int p6), .val (.ref b1), .val (.ref b13), .val (.int kk), .val (.int (own_be kk (own_b c1) (own_b c2) (own_b c3) (own_b c4) (own_b c5))), .val (.int (own_b c1)), .val (.int (own_b c2)), .val (.int (own_b c3)), .val (.int (own_b c4)), .val (.int (own_b c5)), .val (.int (own_b c1)), .val (.int ((own_b c1) + (own_b c2))), .val (.int (((own_b c1) + (own_b c2)) + (own_b c3))), .val (.int ((((own_b c1) + (own_b c2)) + (own_b c3)) + (own_b c4))), .val (.int (((((own_b c1) + (own_b c2)) + (own_b c3)) + (own_b c4)) + (own_b c5))), .unset] []))
          refine OGo.via (fun _ k => XS.iload X49.here hx rfl (hb hby at_284) rfl (XS.iload X49.here hx rfl (hb hby at_286) rfl k)) ?_
          refine OGo.via (fun _ k => XS.icmpNo X49.here hx rfl (hb hby at_288) rfl (teq hq2.2).2 k) ?_
          show OGo _ _ _ _ (T49.setTop (mkF m 291 #[.val (.int p1), .val (.int p2), .val (.int p3), .val (.int p4), .val (.int p5), .val (.int p6), .val (.ref b1), .val (.ref b13), .val (.int kk), .val (.int (own_be kk (own_b c1) (own_b c2) (own_b c3) (own_b c4) (own_b c5))), .val (.int (own_b c1)), .val (.int (own_b c2)), .val (.int (own_b c3)), .val (.int (own_b c4)), .val (.int (own_b c5)), .val (.int (own_b c1)), .val (.int ((own_b c1) + (own_b c2))), .val (.int (((own_b c1) + (own_b c2)) + (own_b c3))), .val (.int ((((own_b c1) + (own_b c2)) + (own_b c3)) + (own_b c4))), .val (.int (((((own_b c1) + (own_b c2)) + (own_b c3)) + (own_b c4)) + (own_b c5))), .unset] []))
          refine OGo.via (fun _ k => XS.iconst X49.here hx rfl (hb hby at_291) (XS.istore X49.here hx rfl (hb hby at_292) rfl (l' := #[.val (.int p1), .val (.int p2), .val (.int p3), .val (.int p4), .val (.int p5), .val (.int p6), .val (.ref b1), .val (.ref b13), .val (.int kk), .val (.int (own_be kk (own_b c1) (own_b c2) (own_b c3) (own_b c4) (own_b c5))), .val (.int (own_b c1)), .val (.int (own_b c2)), .val (.int (own_b c3)), .val (.int (own_b c4)), .val (.int (own_b c5)), .val (.int (own_b c1)), .val (.int ((own_b c1) + (own_b c2))), .val (.int (((own_b c1) + (own_b c2)) + (own_b c3))), .val (.int ((((own_b c1) + (own_b c2)) + (own_b c3)) + (own_b c4))), .val (.int (((((own_b c1) + (own_b c2)) + (own_b c3)) + (own_b c4)) + (own_b c5))), .val (.int (3 : Int32))]) rfl (XS.goto X49.here hx rfl (pc0 := 294) (pc' := 337) rfl (hb hby at_294) (by decide) (by decide) (XS.iload X49.here hx rfl (hb hby at_337) rfl (XS.iload X49.here hx rfl (hb hby at_339) rfl k))))) ?_
          refine OGo.via (fun _ k => XS.icmpNo X49.here hx rfl (hb hby at_341) rfl (teq (by rw [own_be, if_neg hkz, if_neg hq0, if_neg hq1, if_pos hq2])).2 k) ?_
          show OGo _ _ _ _ (T49.setTop (mkF m 344 #[.val (.int p1), .val (.int p2), .val (.int p3), .val (.int p4), .val (.int p5), .val (.int p6), .val (.ref b1), .val (.ref b13), .val (.int kk), .val (.int (own_be kk (own_b c1) (own_b c2) (own_b c3) (own_b c4) (own_b c5))), .val (.int (own_b c1)), .val (.int (own_b c2)), .val (.int (own_b c3)), .val (.int (own_b c4)), .val (.int (own_b c5)), .val (.int (own_b c1)), .val (.int ((own_b c1) + (own_b c2))), .val (.int (((own_b c1) + (own_b c2)) + (own_b c3))), .val (.int ((((own_b c1) + (own_b c2)) + (own_b c3)) + (own_b c4))), .val (.int (((((own_b c1) + (own_b c2)) + (own_b c3)) + (own_b c4)) + (own_b c5))), .val (.int (3 : Int32))] []))
          refine OGo.via (fun _ k => XS.iconst X49.here hx rfl (hb hby at_344) (XS.goto X49.here hx rfl (pc0 := 345) (pc' := 349) rfl (hb hby at_345) (by decide) (by decide) k)) ?_
          show OGo _ _ _ _ (T49.setTop (mkF m 349 #[.val (.int p1), .val (.int p2), .val (.int p3), .val (.int p4), .val (.int p5), .val (.int p6), .val (.ref b1), .val (.ref b13), .val (.int kk), .val (.int (own_be kk (own_b c1) (own_b c2) (own_b c3) (own_b c4) (own_b c5))), .val (.int (own_b c1)), .val (.int (own_b c2)), .val (.int (own_b c3)), .val (.int (own_b c4)), .val (.int (own_b c5)), .val (.int (own_b c1)), .val (.int ((own_b c1) + (own_b c2))), .val (.int (((own_b c1) + (own_b c2)) + (own_b c3))), .val (.int ((((own_b c1) + (own_b c2)) + (own_b c3)) + (own_b c4))), .val (.int (((((own_b c1) + (own_b c2)) + (own_b c3)) + (own_b c4)) + (own_b c5))), .val (.int (3 : Int32))] [(.int (1 : Int32))]))
          refine own_retN (t := .boolean) (by simp) X49 hx Bd.notSynchronized Bd.returns (hb hby at_349) (by decide) (by decide) ?_
          show Q_rm0 Z _ _ _ _ _ _ _ h0 n0 _ T49.heap _
          rw [e49]
          exact ⟨rfl, N49⟩
        · have st53 : ∀ t, Steps p.tables e below (T49.setTop (mkF m 297 #[.val (.int p1), .val (.int p2), .val (.int p3), .val (.int p4), .val (.int p5), .val (.int p6), .val (.ref b1), .val (.ref b13), .val (.int kk), .val (.int (own_be kk (own_b c1) (own_b c2) (own_b c3) (own_b c4) (own_b c5))), .val (.int (own_b c1)), .val (.int (own_b c2)), .val (.int (own_b c3)), .val (.int (own_b c4)), .val (.int (own_b c5)), .val (.int (own_b c1)), .val (.int ((own_b c1) + (own_b c2))), .val (.int (((own_b c1) + (own_b c2)) + (own_b c3))), .val (.int ((((own_b c1) + (own_b c2)) + (own_b c3)) + (own_b c4))), .val (.int (((((own_b c1) + (own_b c2)) + (own_b c3)) + (own_b c4)) + (own_b c5))), .unset] [])) t → Steps p.tables e below (T49.setTop (mkF m 279 #[.val (.int p1), .val (.int p2), .val (.int p3), .val (.int p4), .val (.int p5), .val (.int p6), .val (.ref b1), .val (.ref b13), .val (.int kk), .val (.int (own_be kk (own_b c1) (own_b c2) (own_b c3) (own_b c4) (own_b c5))), .val (.int (own_b c1)), .val (.int (own_b c2)), .val (.int (own_b c3)), .val (.int (own_b c4)), .val (.int (own_b c5)), .val (.int (own_b c1)), .val (.int ((own_b c1) + (own_b c2))), .val (.int (((own_b c1) + (own_b c2)) + (own_b c3))), .val (.int ((((own_b c1) + (own_b c2)) + (own_b c3)) + (own_b c4))), .val (.int (((((own_b c1) + (own_b c2)) + (own_b c3)) + (own_b c4)) + (own_b c5))), .unset] [])) t := by
            intro t kk'
            refine XS.iload X49.here hx rfl (hb hby at_279) rfl ?_
            by_cases hz : (own_b c3) = (0 : Int32)
            · refine XS.ifYes X49.here hx rfl (pc0 := 281) (pc' := 297) rfl (hb hby at_281) rfl ((if0 _ _).trans (teq hz).1) (by decide) (by decide) ?_
              exact kk'
            · refine XS.ifNo X49.here hx rfl (hb hby at_281) rfl ((if0 _ _).trans (feq hz).1) ?_
              show Steps p.tables e below (T49.setTop (mkF m 284 #[.val (.int p1), .val (.int p2), .val (.int p3), .val (.int p4), .val (.int p5), .val (.int p6), .val (.ref b1), .val (.ref b13), .val (.int kk), .val (.int (own_be kk (own_b c1) (own_b c2) (own_b c3) (own_b c4) (own_b c5))), .val (.int (own_b c1)), .val (.int (own_b c2)), .val (.int (own_b c3)), .val (.int (own_b c4)), .val (.int (own_b c5)), .val (.int (own_b c1)), .val (.int ((own_b c1) + (own_b c2))), .val (.int (((own_b c1) + (own_b c2)) + (own_b c3))), .val (.int ((((own_b c1) + (own_b c2)) + (own_b c3)) + (own_b c4))), .val (.int (((((own_b c1) + (own_b c2)) + (own_b c3)) + (own_b c4)) + (own_b c5))), .unset] [])) _
              refine XS.iload X49.here hx rfl (hb hby at_284) rfl (XS.iload X49.here hx rfl (hb hby at_286) rfl ?_)
              refine XS.icmpYes X49.here hx rfl (pc0 := 288) (pc' := 297) rfl (hb hby at_288) rfl (feq (fun q => hq2 ⟨hz, q⟩)).2 (by decide) (by decide) ?_
              exact kk'
          refine OGo.via st53 ?_
          show OGo _ _ _ _ (T49.setTop (mkF m 297 #[.val (.int p1), .val (.int p2), .val (.int p3), .val (.int p4), .val (.int p5), .val (.int p6), .val (.ref b1), .val (.ref b13), .val (.int kk), .val (.int (own_be kk (own_b c1) (own_b c2) (own_b c3) (own_b c4) (own_b c5))), .val (.int (own_b c1)), .val (.int (own_b c2)), .val (.int (own_b c3)), .val (.int (own_b c4)), .val (.int (own_b c5)), .val (.int (own_b c1)), .val (.int ((own_b c1) + (own_b c2))), .val (.int (((own_b c1) + (own_b c2)) + (own_b c3))), .val (.int ((((own_b c1) + (own_b c2)) + (own_b c3)) + (own_b c4))), .val (.int (((((own_b c1) + (own_b c2)) + (own_b c3)) + (own_b c4)) + (own_b c5))), .unset] []))
          by_cases hq3 : ¬ (own_b c4) = 0 ∧ ((((own_b c1) + (own_b c2)) + (own_b c3)) + (own_b c4)) = kk
          · refine OGo.via (fun _ k => XS.iload X49.here hx rfl (hb hby at_297) rfl k) ?_
            refine OGo.via (fun _ k => XS.ifNo X49.here hx rfl (hb hby at_299) rfl ((if0 _ _).trans (feq hq3.1).1) k) ?_
            show OGo _ _ _ _ (T49.setTop (mkF m 302 #[.val (.int p1), .val (.int p2), .val (.int p3), .val (.int p4), .val (.int p5), .val (.int p6), .val (.ref b1), .val (.ref b13), .val (.int kk), .val (.int (own_be kk (own_b c1) (own_b c2) (own_b c3) (own_b c4) (own_b c5))), .val (.int (own_b c1)), .val (.int (own_b c2)), .val (.int (own_b c3)), .val (.int (own_b c4)), .val (.int (own_b c5)), .val (.int (own_b c1)), .val (.int ((own_b c1) + (own_b c2))), .val (.int (((own_b c1) + (own_b c2)) + (own_b c3))), .val (.int ((((own_b c1) + (own_b c2)) + (own_b c3)) + (own_b c4))), .val (.int (((((own_b c1) + (own_b c2)) + (own_b c3)) + (own_b c4)) + (own_b c5))), .unset] []))
            refine OGo.via (fun _ k => XS.iload X49.here hx rfl (hb hby at_302) rfl (XS.iload X49.here hx rfl (hb hby at_304) rfl k)) ?_
            refine OGo.via (fun _ k => XS.icmpNo X49.here hx rfl (hb hby at_306) rfl (teq hq3.2).2 k) ?_
            show OGo _ _ _ _ (T49.setTop (mkF m 309 #[.val (.int p1), .val (.int p2), .val (.int p3), .val (.int p4), .val (.int p5), .val (.int p6), .val (.ref b1), .val (.ref b13), .val (.int kk), .val (.int (own_be kk (own_b c1) (own_b c2) (own_b c3) (own_b c4) (own_b c5))), .val (.int (own_b c1)), .val (.int (own_b c2)), .val (.int (own_b c3)), .val (.int (own_b c4)), .val (.int (own_b c5)), .val (.int (own_b c1)), .val (.int ((own_b c1) + (own_b c2))), .val (.int (((own_b c1) + (own_b c2)) + (own_b c3))), .val (.int ((((own_b c1) + (own_b c2)) + (own_b c3)) + (own_b c4))), .val (.int (((((own_b c1) + (own_b c2)) + (own_b c3)) + (own_b c4)) + (own_b c5))), .unset] []))
            refine OGo.via (fun _ k => XS.iconst X49.here hx rfl (hb hby at_309) (XS.istore X49.here hx rfl (hb hby at_310) rfl (l' := #[.val (.int p1), .val (.int p2), .val (.int p3), .val (.int p4), .val (.int p5), .val (.int p6), .val (.ref b1), .val (.ref b13), .val (.int kk), .val (.int (own_be kk (own_b c1) (own_b c2) (own_b c3) (own_b c4) (own_b c5))), .val (.int (own_b c1)), .val (.int (own_b c2)), .val (.int (own_b c3)), .val (.int (own_b c4)), .val (.int (own_b c5)), .val (.int (own_b c1)), .val (.int ((own_b c1) + (own_b c2))), .val (.int (((own_b c1) + (own_b c2)) + (own_b c3))), .val (.int ((((own_b c1) + (own_b c2)) + (own_b c3)) + (own_b c4))), .val (.int (((((own_b c1) + (own_b c2)) + (own_b c3)) + (own_b c4)) + (own_b c5))), .val (.int (4 : Int32))]) rfl (XS.goto X49.here hx rfl (pc0 := 312) (pc' := 337) rfl (hb hby at_312) (by decide) (by decide) (XS.iload X49.here hx rfl (hb hby at_337) rfl (XS.iload X49.here hx rfl (hb hby at_339) rfl k))))) ?_
            refine OGo.via (fun _ k => XS.icmpNo X49.here hx rfl (hb hby at_341) rfl (teq (by rw [own_be, if_neg hkz, if_neg hq0, if_neg hq1, if_neg hq2, if_pos hq3])).2 k) ?_
            show OGo _ _ _ _ (T49.setTop (mkF m 344 #[.val (.int p1), .val (.int p2), .val (.int p3), .val (.int p4), .val (.int p5), .val (.int p6), .val (.ref b1), .val (.ref b13), .val (.int kk), .val (.int (own_be kk (own_b c1) (own_b c2) (own_b c3) (own_b c4) (own_b c5))), .val (.int (own_b c1)), .val (.int (own_b c2)), .val (.int (own_b c3)), .val (.int (own_b c4)), .val (.int (own_b c5)), .val (.int (own_b c1)), .val (.int ((own_b c1) + (own_b c2))), .val (.int (((own_b c1) + (own_b c2)) + (own_b c3))), .val (.int ((((own_b c1) + (own_b c2)) + (own_b c3)) + (own_b c4))), .val (.int (((((own_b c1) + (own_b c2)) + (own_b c3)) + (own_b c4)) + (own_b c5))), .val (.int (4 : Int32))] []))
            refine OGo.via (fun _ k => XS.iconst X49.here hx rfl (hb hby at_344) (XS.goto X49.here hx rfl (pc0 := 345) (pc' := 349) rfl (hb hby at_345) (by decide) (by decide) k)) ?_
            show OGo _ _ _ _ (T49.setTop (mkF m 349 #[.val (.int p1), .val (.int p2), .val (.int p3), .val (.int p4), .val (.int p5), .val (.int p6), .val (.ref b1), .val (.ref b13), .val (.int kk), .val (.int (own_be kk (own_b c1) (own_b c2) (own_b c3) (own_b c4) (own_b c5))), .val (.int (own_b c1)), .val (.int (own_b c2)), .val (.int (own_b c3)), .val (.int (own_b c4)), .val (.int (own_b c5)), .val (.int (own_b c1)), .val (.int ((own_b c1) + (own_b c2))), .val (.int (((own_b c1) + (own_b c2)) + (own_b c3))), .val (.int ((((own_b c1) + (own_b c2)) + (own_b c3)) + (own_b c4))), .val (.int (((((own_b c1) + (own_b c2)) + (own_b c3)) + (own_b c4)) + (own_b c5))), .val (.int (4 : Int32))] [(.int (1 : Int32))]))
            refine own_retN (t := .boolean) (by simp) X49 hx Bd.notSynchronized Bd.returns (hb hby at_349) (by decide) (by decide) ?_
            show Q_rm0 Z _ _ _ _ _ _ _ h0 n0 _ T49.heap _
            rw [e49]
            exact ⟨rfl, N49⟩
          · have st54 : ∀ t, Steps p.tables e below (T49.setTop (mkF m 315 #[.val (.int p1), .val (.int p2), .val (.int p3), .val (.int p4), .val (.int p5), .val (.int p6), .val (.ref b1), .val (.ref b13), .val (.int kk), .val (.int (own_be kk (own_b c1) (own_b c2) (own_b c3) (own_b c4) (own_b c5))), .val (.int (own_b c1)), .val (.int (own_b c2)), .val (.int (own_b c3)), .val (.int (own_b c4)), .val (.int (own_b c5)), .val (.int (own_b c1)), .val (.int ((own_b c1) + (own_b c2))), .val (.int (((own_b c1) + (own_b c2)) + (own_b c3))), .val (.int ((((own_b c1) + (own_b c2)) + (own_b c3)) + (own_b c4))), .val (.int (((((own_b c1) + (own_b c2)) + (own_b c3)) + (own_b c4)) + (own_b c5))), .unset] [])) t → Steps p.tables e below (T49.setTop (mkF m 297 #[.val (.int p1), .val (.int p2), .val (.int p3), .val (.int p4), .val (.int p5), .val (.int p6), .val (.ref b1), .val (.ref b13), .val (.int kk), .val (.int (own_be kk (own_b c1) (own_b c2) (own_b c3) (own_b c4) (own_b c5))), .val (.int (own_b c1)), .val (.int (own_b c2)), .val (.int (own_b c3)), .val (.int (own_b c4)), .val (.int (own_b c5)), .val (.int (own_b c1)), .val (.int ((own_b c1) + (own_b c2))), .val (.int (((own_b c1) + (own_b c2)) + (own_b c3))), .val (.int ((((own_b c1) + (own_b c2)) + (own_b c3)) + (own_b c4))), .val (.int (((((own_b c1) + (own_b c2)) + (own_b c3)) + (own_b c4)) + (own_b c5))), .unset] [])) t := by
              intro t kk'
              refine XS.iload X49.here hx rfl (hb hby at_297) rfl ?_
              by_cases hz : (own_b c4) = (0 : Int32)
              · refine XS.ifYes X49.here hx rfl (pc0 := 299) (pc' := 315) rfl (hb hby at_299) rfl ((if0 _ _).trans (teq hz).1) (by decide) (by decide) ?_
                exact kk'
              · refine XS.ifNo X49.here hx rfl (hb hby at_299) rfl ((if0 _ _).trans (feq hz).1) ?_
                show Steps p.tables e below (T49.setTop (mkF m 302 #[.val (.int p1), .val (.int p2), .val (.int p3), .val (.int p4), .val (.int p5), .val (.int p6), .val (.ref b1), .val (.ref b13), .val (.int kk), .val (.int (own_be kk (own_b c1) (own_b c2) (own_b c3) (own_b c4) (own_b c5))), .val (.int (own_b c1)), .val (.int (own_b c2)), .val (.int (own_b c3)), .val (.int (own_b c4)), .val (.int (own_b c5)), .val (.int (own_b c1)), .val (.int ((own_b c1) + (own_b c2))), .val (.int (((own_b c1) + (own_b c2)) + (own_b c3))), .val (.int ((((own_b c1) + (own_b c2)) + (own_b c3)) + (own_b c4))), .val (.int (((((own_b c1) + (own_b c2)) + (own_b c3)) + (own_b c4)) + (own_b c5))), .unset] [])) _
                refine XS.iload X49.here hx rfl (hb hby at_302) rfl (XS.iload X49.here hx rfl (hb hby at_304) rfl ?_)
                refine XS.icmpYes X49.here hx rfl (pc0 := 306) (pc' := 315) rfl (hb hby at_306) rfl (feq (fun q => hq3 ⟨hz, q⟩)).2 (by decide) (by decide) ?_
                exact kk'
            refine OGo.via st54 ?_
            show OGo _ _ _ _ (T49.setTop (mkF m 315 #[.val (.int p1), .val (.int p2), .val (.int p3), .val (.int p4), .val (.int p5), .val (.int p6), .val (.ref b1), .val (.ref b13), .val (.int kk), .val (.int (own_be kk (own_b c1) (own_b c2) (own_b c3) (own_b c4) (own_b c5))), .val (.int (own_b c1)), .val (.int (own_b c2)), .val (.int (own_b c3)), .val (.int (own_b c4)), .val (.int (own_b c5)), .val (.int (own_b c1)), .val (.int ((own_b c1) + (own_b c2))), .val (.int (((own_b c1) + (own_b c2)) + (own_b c3))), .val (.int ((((own_b c1) + (own_b c2)) + (own_b c3)) + (own_b c4))), .val (.int (((((own_b c1) + (own_b c2)) + (own_b c3)) + (own_b c4)) + (own_b c5))), .unset] []))
            by_cases hq4 : ¬ (own_b c5) = 0 ∧ (((((own_b c1) + (own_b c2)) + (own_b c3)) + (own_b c4)) + (own_b c5)) = kk
            · refine OGo.via (fun _ k => XS.iload X49.here hx rfl (hb hby at_315) rfl k) ?_
              refine OGo.via (fun _ k => XS.ifNo X49.here hx rfl (hb hby at_317) rfl ((if0 _ _).trans (feq hq4.1).1) k) ?_
              show OGo _ _ _ _ (T49.setTop (mkF m 320 #[.val (.int p1), .val (.int p2), .val (.int p3), .val (.int p4), .val (.int p5), .val (.int p6), .val (.ref b1), .val (.ref b13), .val (.int kk), .val (.int (own_be kk (own_b c1) (own_b c2) (own_b c3) (own_b c4) (own_b c5))), .val (.int (own_b c1)), .val (.int (own_b c2)), .val (.int (own_b c3)), .val (.int (own_b c4)), .val (.int (own_b c5)), .val (.int (own_b c1)), .val (.int ((own_b c1) + (own_b c2))), .val (.int (((own_b c1) + (own_b c2)) + (own_b c3))), .val (.int ((((own_b c1) + (own_b c2)) + (own_b c3)) + (own_b c4))), .val (.int (((((own_b c1) + (own_b c2)) + (own_b c3)) + (own_b c4)) + (own_b c5))), .unset] []))
              refine OGo.via (fun _ k => XS.iload X49.here hx rfl (hb hby at_320) rfl (XS.iload X49.here hx rfl (hb hby at_322) rfl k)) ?_
              refine OGo.via (fun _ k => XS.icmpNo X49.here hx rfl (hb hby at_324) rfl (teq hq4.2).2 k) ?_
              show OGo _ _ _ _ (T49.setTop (mkF m 327 #[.val (.int p1), .val (.int p2), .val (.int p3), .val (.int p4), .val (.int p5), .val (.int p6), .val (.ref b1), .val (.ref b13), .val (.int kk), .val (.int (own_be kk (own_b c1) (own_b c2) (own_b c3) (own_b c4) (own_b c5))), .val (.int (own_b c1)), .val (.int (own_b c2)), .val (.int (own_b c3)), .val (.int (own_b c4)), .val (.int (own_b c5)), .val (.int (own_b c1)), .val (.int ((own_b c1) + (own_b c2))), .val (.int (((own_b c1) + (own_b c2)) + (own_b c3))), .val (.int ((((own_b c1) + (own_b c2)) + (own_b c3)) + (own_b c4))), .val (.int (((((own_b c1) + (own_b c2)) + (own_b c3)) + (own_b c4)) + (own_b c5))), .unset] []))
              refine OGo.via (fun _ k => XS.iconst X49.here hx rfl (hb hby at_327) (XS.istore X49.here hx rfl (hb hby at_328) rfl (l' := #[.val (.int p1), .val (.int p2), .val (.int p3), .val (.int p4), .val (.int p5), .val (.int p6), .val (.ref b1), .val (.ref b13), .val (.int kk), .val (.int (own_be kk (own_b c1) (own_b c2) (own_b c3) (own_b c4) (own_b c5))), .val (.int (own_b c1)), .val (.int (own_b c2)), .val (.int (own_b c3)), .val (.int (own_b c4)), .val (.int (own_b c5)), .val (.int (own_b c1)), .val (.int ((own_b c1) + (own_b c2))), .val (.int (((own_b c1) + (own_b c2)) + (own_b c3))), .val (.int ((((own_b c1) + (own_b c2)) + (own_b c3)) + (own_b c4))), .val (.int (((((own_b c1) + (own_b c2)) + (own_b c3)) + (own_b c4)) + (own_b c5))), .val (.int (5 : Int32))]) rfl (XS.goto X49.here hx rfl (pc0 := 330) (pc' := 337) rfl (hb hby at_330) (by decide) (by decide) (XS.iload X49.here hx rfl (hb hby at_337) rfl (XS.iload X49.here hx rfl (hb hby at_339) rfl k))))) ?_
              refine OGo.via (fun _ k => XS.icmpNo X49.here hx rfl (hb hby at_341) rfl (teq (by rw [own_be, if_neg hkz, if_neg hq0, if_neg hq1, if_neg hq2, if_neg hq3, if_pos hq4])).2 k) ?_
              show OGo _ _ _ _ (T49.setTop (mkF m 344 #[.val (.int p1), .val (.int p2), .val (.int p3), .val (.int p4), .val (.int p5), .val (.int p6), .val (.ref b1), .val (.ref b13), .val (.int kk), .val (.int (own_be kk (own_b c1) (own_b c2) (own_b c3) (own_b c4) (own_b c5))), .val (.int (own_b c1)), .val (.int (own_b c2)), .val (.int (own_b c3)), .val (.int (own_b c4)), .val (.int (own_b c5)), .val (.int (own_b c1)), .val (.int ((own_b c1) + (own_b c2))), .val (.int (((own_b c1) + (own_b c2)) + (own_b c3))), .val (.int ((((own_b c1) + (own_b c2)) + (own_b c3)) + (own_b c4))), .val (.int (((((own_b c1) + (own_b c2)) + (own_b c3)) + (own_b c4)) + (own_b c5))), .val (.int (5 : Int32))] []))
              refine OGo.via (fun _ k => XS.iconst X49.here hx rfl (hb hby at_344) (XS.goto X49.here hx rfl (pc0 := 345) (pc' := 349) rfl (hb hby at_345) (by decide) (by decide) k)) ?_
              show OGo _ _ _ _ (T49.setTop (mkF m 349 #[.val (.int p1), .val (.int p2), .val (.int p3), .val (.int p4), .val (.int p5), .val (.int p6), .val (.ref b1), .val (.ref b13), .val (.int kk), .val (.int (own_be kk (own_b c1) (own_b c2) (own_b c3) (own_b c4) (own_b c5))), .val (.int (own_b c1)), .val (.int (own_b c2)), .val (.int (own_b c3)), .val (.int (own_b c4)), .val (.int (own_b c5)), .val (.int (own_b c1)), .val (.int ((own_b c1) + (own_b c2))), .val (.int (((own_b c1) + (own_b c2)) + (own_b c3))), .val (.int ((((own_b c1) + (own_b c2)) + (own_b c3)) + (own_b c4))), .val (.int (((((own_b c1) + (own_b c2)) + (own_b c3)) + (own_b c4)) + (own_b c5))), .val (.int (5 : Int32))] [(.int (1 : Int32))]))
              refine own_retN (t := .boolean) (by simp) X49 hx Bd.notSynchronized Bd.returns (hb hby at_349) (by decide) (by decide) ?_
              show Q_rm0 Z _ _ _ _ _ _ _ h0 n0 _ T49.heap _
              rw [e49]
              exact ⟨rfl, N49⟩
            · have st55 : ∀ t, Steps p.tables e below (T49.setTop (mkF m 333 #[.val (.int p1), .val (.int p2), .val (.int p3), .val (.int p4), .val (.int p5), .val (.int p6), .val (.ref b1), .val (.ref b13), .val (.int kk), .val (.int (own_be kk (own_b c1) (own_b c2) (own_b c3) (own_b c4) (own_b c5))), .val (.int (own_b c1)), .val (.int (own_b c2)), .val (.int (own_b c3)), .val (.int (own_b c4)), .val (.int (own_b c5)), .val (.int (own_b c1)), .val (.int ((own_b c1) + (own_b c2))), .val (.int (((own_b c1) + (own_b c2)) + (own_b c3))), .val (.int ((((own_b c1) + (own_b c2)) + (own_b c3)) + (own_b c4))), .val (.int (((((own_b c1) + (own_b c2)) + (own_b c3)) + (own_b c4)) + (own_b c5))), .unset] [])) t → Steps p.tables e below (T49.setTop (mkF m 315 #[.val (.int p1), .val (.int p2), .val (.int p3), .val (.int p4), .val (.int p5), .val (.int p6), .val (.ref b1), .val (.ref b13), .val (.int kk), .val (.int (own_be kk (own_b c1) (own_b c2) (own_b c3) (own_b c4) (own_b c5))), .val (.int (own_b c1)), .val (.int (own_b c2)), .val (.int (own_b c3)), .val (.int (own_b c4)), .val (.int (own_b c5)), .val (.int (own_b c1)), .val (.int ((own_b c1) + (own_b c2))), .val (.int (((own_b c1) + (own_b c2)) + (own_b c3))), .val (.int ((((own_b c1) + (own_b c2)) + (own_b c3)) + (own_b c4))), .val (.int (((((own_b c1) + (own_b c2)) + (own_b c3)) + (own_b c4)) + (own_b c5))), .unset] [])) t := by
                intro t kk'
                refine XS.iload X49.here hx rfl (hb hby at_315) rfl ?_
                by_cases hz : (own_b c5) = (0 : Int32)
                · refine XS.ifYes X49.here hx rfl (pc0 := 317) (pc' := 333) rfl (hb hby at_317) rfl ((if0 _ _).trans (teq hz).1) (by decide) (by decide) ?_
                  exact kk'
                · refine XS.ifNo X49.here hx rfl (hb hby at_317) rfl ((if0 _ _).trans (feq hz).1) ?_
                  show Steps p.tables e below (T49.setTop (mkF m 320 #[.val (.int p1), .val (.int p2), .val (.int p3), .val (.int p4), .val (.int p5), .val (.int p6), .val (.ref b1), .val (.ref b13), .val (.int kk), .val (.int (own_be kk (own_b c1) (own_b c2) (own_b c3) (own_b c4) (own_b c5))), .val (.int (own_b c1)), .val (.int (own_b c2)), .val (.int (own_b c3)), .val (.int (own_b c4)), .val (.int (own_b c5)), .val (.int (own_b c1)), .val (.int ((own_b c1) + (own_b c2))), .val (.int (((own_b c1) + (own_b c2)) + (own_b c3))), .val (.int ((((own_b c1) + (own_b c2)) + (own_b c3)) + (own_b c4))), .val (.int (((((own_b c1) + (own_b c2)) + (own_b c3)) + (own_b c4)) + (own_b c5))), .unset] [])) _
                  refine XS.iload X49.here hx rfl (hb hby at_320) rfl (XS.iload X49.here hx rfl (hb hby at_322) rfl ?_)
                  refine XS.icmpYes X49.here hx rfl (pc0 := 324) (pc' := 333) rfl (hb hby at_324) rfl (feq (fun q => hq4 ⟨hz, q⟩)).2 (by decide) (by decide) ?_
                  exact kk'
              refine OGo.via st55 ?_
              show OGo _ _ _ _ (T49.setTop (mkF m 333 #[.val (.int p1), .val (.int p2), .val (.int p3), .val (.int p4), .val (.int p5), .val (.int p6), .val (.ref b1), .val (.ref b13), .val (.int kk), .val (.int (own_be kk (own_b c1) (own_b c2) (own_b c3) (own_b c4) (own_b c5))), .val (.int (own_b c1)), .val (.int (own_b c2)), .val (.int (own_b c3)), .val (.int (own_b c4)), .val (.int (own_b c5)), .val (.int (own_b c1)), .val (.int ((own_b c1) + (own_b c2))), .val (.int (((own_b c1) + (own_b c2)) + (own_b c3))), .val (.int ((((own_b c1) + (own_b c2)) + (own_b c3)) + (own_b c4))), .val (.int (((((own_b c1) + (own_b c2)) + (own_b c3)) + (own_b c4)) + (own_b c5))), .unset] []))
              refine OGo.via (fun _ k => XS.bipush X49.here hx rfl (hb hby at_333) (XS.istore X49.here hx rfl (hb hby at_335) rfl (l' := #[.val (.int p1), .val (.int p2), .val (.int p3), .val (.int p4), .val (.int p5), .val (.int p6), .val (.ref b1), .val (.ref b13), .val (.int kk), .val (.int (own_be kk (own_b c1) (own_b c2) (own_b c3) (own_b c4) (own_b c5))), .val (.int (own_b c1)), .val (.int (own_b c2)), .val (.int (own_b c3)), .val (.int (own_b c4)), .val (.int (own_b c5)), .val (.int (own_b c1)), .val (.int ((own_b c1) + (own_b c2))), .val (.int (((own_b c1) + (own_b c2)) + (own_b c3))), .val (.int ((((own_b c1) + (own_b c2)) + (own_b c3)) + (own_b c4))), .val (.int (((((own_b c1) + (own_b c2)) + (own_b c3)) + (own_b c4)) + (own_b c5))), .val (.int (6 : Int32))]) rfl (XS.iload X49.here hx rfl (hb hby at_337) rfl (XS.iload X49.here hx rfl (hb hby at_339) rfl k)))) ?_
              refine OGo.via (fun _ k => XS.icmpNo X49.here hx rfl (hb hby at_341) rfl (teq (by rw [own_be, if_neg hkz, if_neg hq0, if_neg hq1, if_neg hq2, if_neg hq3, if_neg hq4])).2 k) ?_
              show OGo _ _ _ _ (T49.setTop (mkF m 344 #[.val (.int p1), .val (.int p2), .val (.int p3), .val (.int p4), .val (.int p5), .val (.int p6), .val (.ref b1), .val (.ref b13), .val (.int kk), .val (.int (own_be kk (own_b c1) (own_b c2) (own_b c3) (own_b c4) (own_b c5))), .val (.int (own_b c1)), .val (.int (own_b c2)), .val (.int (own_b c3)), .val (.int (own_b c4)), .val (.int (own_b c5)), .val (.int (own_b c1)), .val (.int ((own_b c1) + (own_b c2))), .val (.int (((own_b c1) + (own_b c2)) + (own_b c3))), .val (.int ((((own_b c1) + (own_b c2)) + (own_b c3)) + (own_b c4))), .val (.int (((((own_b c1) + (own_b c2)) + (own_b c3)) + (own_b c4)) + (own_b c5))), .val (.int (6 : Int32))] []))
              refine OGo.via (fun _ k => XS.iconst X49.here hx rfl (hb hby at_344) (XS.goto X49.here hx rfl (pc0 := 345) (pc' := 349) rfl (hb hby at_345) (by decide) (by decide) k)) ?_
              show OGo _ _ _ _ (T49.setTop (mkF m 349 #[.val (.int p1), .val (.int p2), .val (.int p3), .val (.int p4), .val (.int p5), .val (.int p6), .val (.ref b1), .val (.ref b13), .val (.int kk), .val (.int (own_be kk (own_b c1) (own_b c2) (own_b c3) (own_b c4) (own_b c5))), .val (.int (own_b c1)), .val (.int (own_b c2)), .val (.int (own_b c3)), .val (.int (own_b c4)), .val (.int (own_b c5)), .val (.int (own_b c1)), .val (.int ((own_b c1) + (own_b c2))), .val (.int (((own_b c1) + (own_b c2)) + (own_b c3))), .val (.int ((((own_b c1) + (own_b c2)) + (own_b c3)) + (own_b c4))), .val (.int (((((own_b c1) + (own_b c2)) + (own_b c3)) + (own_b c4)) + (own_b c5))), .val (.int (6 : Int32))] [(.int (1 : Int32))]))
              refine own_retN (t := .boolean) (by simp) X49 hx Bd.notSynchronized Bd.returns (hb hby at_349) (by decide) (by decide) ?_
              show Q_rm0 Z _ _ _ _ _ _ _ h0 n0 _ T49.heap _
              rw [e49]
              exact ⟨rfl, N49⟩
set_option maxRecDepth 65536 in
set_option maxHeartbeats 40000000 in
theorem comes_1 {Post : Tables → Env → Array Value → State → Outcome → State → Prop} (hpost : ∀ tb e args s v u, (limb_1_1.after args s (.returned v) u = true ∧ limb_1_2.after args s (.returned v) u = true ∧ True) → FrameEnd s (.returned v) u (Jvm.fieldLocs frame_1_writes args s ++ Jvm.arrayLocs frame_1_arrays args s ++ Jvm.staticLocs frame_1_statics s) 16 128 → Post tb e args s (.returned v) u) :
    ArmFor flags0 classFile x code maxLocals ret World_1 tables_1 room_1 Calls_1 rest_1 Pre_1 Post := by
  intro l hfl _ _ p e ha hc hk s m args below hf hA hF happ hP
  obtain ⟨hcalls, hrest, hpre⟩ := hP
  obtain ⟨-, -, -, hnamed, -, -, -, hat⟩ := (Spec.applies_iff hf).mp happ
  obtain ⟨hg, hn⟩ := and_e (Cond.before_iff.mp (show (Jvm.Cond.and given_1 narrow_1).before args s = true from hpre))
  obtain ⟨gc, gv0⟩ := and_e hg
  obtain ⟨ga0, gv1⟩ := and_e gv0
  obtain ⟨ga1, gv2⟩ := and_e gv1
  obtain ⟨ga2, gv3⟩ := and_e gv2
  obtain ⟨ga3, gv4⟩ := and_e gv3
  obtain ⟨ga4, gv5⟩ := and_e gv4
  have ga5 := gv5
  obtain ⟨w0, w1, w2, w3, w4, w5, rfl⟩ : ∃ w0 w1 w2 w3 w4 w5 : Value, args = #[w0, w1, w2, w3, w4, w5] := by
    have hs : args.size = 6 := by simpa [Cond.value, given_1] using gc
    obtain ⟨L⟩ := args
    match L, hs with
    | [w0, w1, w2, w3, w4, w5], _ => exact ⟨w0, w1, w2, w3, w4, w5, rfl⟩
  have hw := fun d (hd : d ∈ tables_1) => atoms_spec (ws := Jvm.Cond.code x code maxLocals ret :: tables_1) hat d (List.mem_cons_of_mem _ hd)
  have hfit : Fit s := fun {y c} hc i hi => by
    obtain ⟨ha, rfl⟩ := Array.getElem?_eq_some_iff.mp hc
    have q := List.all_eq_true.mp ((Array.all_eq_true_iff_forall_mem.mp hF) _ (Array.getElem_mem ha)) i (List.mem_range.mpr hi)
    simpa [Array.getElem?_eq_getElem hi] using q
  obtain ⟨hsets, hown0⟩ := atoms_of _ (rest_1_c_eq ▸ (show rest_1_c.before _ s = true from hrest))
  have hr0 := Cond.before_iff.mp hown0
  obtain ⟨i0, ei0⟩ := is_v ga0
  obtain rfl : w0 = (.int i0) := Option.some.inj ei0
  obtain ⟨i1, ei1⟩ := is_v ga1
  obtain rfl : w1 = (.int i1) := Option.some.inj ei1
  obtain ⟨i2, ei2⟩ := is_v ga2
  obtain rfl : w2 = (.int i2) := Option.some.inj ei2
  obtain ⟨i3, ei3⟩ := is_v ga3
  obtain rfl : w3 = (.int i3) := Option.some.inj ei3
  obtain ⟨i4, ei4⟩ := is_v ga4
  obtain rfl : w4 = (.int i4) := Option.some.inj ei4
  obtain ⟨i5, ei5⟩ := is_v ga5
  obtain rfl : w5 = (.int i5) := Option.some.inj ei5
  obtain ⟨w, ew⟩ := is_v (Cond.before_iff.mp (hsets _ (List.mem_of_getElem? (i := 1) rfl)))
  have hw0 : ¬ w = (0 : Int32) := by
    have z := not_v (Cond.before_iff.mp (hsets _ (List.mem_of_getElem? (i := 2) rfl)))
    intro q; subst q
    simp [Jvm.Cond.value, ew, Term.int_eval] at z
  obtain ⟨n, o, h1, h2, h3, _, L, rfl, ⟨rfl, N⟩, hq⟩ := rm0 l s _ hw tables_1 i0 i1 i2 i3 i4 i5 w s.heap s.heap.size (Nat.le_refl _) (Sta.start ew (Or.inl (hsets _ (List.mem_of_getElem? (i := 0) rfl)))) hw0 p e ha hc hk s m _ below hf ((Spec.applies_iff_loose hf).mp happ).1 ⟨rfl, State.Warmed39.refl s, rfl⟩ trivial
  refine ⟨n, _, h1, h2, h3, hpost _ _ _ _ _ _ ⟨Cond.after_iff.mpr rfl, Cond.after_iff.mpr (eq_i res_at (Term.int_eval (1)) rfl), trivial⟩ ⟨hq.1, hq.2.1, (hq.2.2.sift fun y hy => Or.inr (N y hy)).mono (by decide) (by decide)⟩⟩
theorem main_1_1 : Claimed_1_1 := comes_1 fun _ _ _ _ _ _ h hF => ⟨h.1, hF⟩
theorem main_1_2 : Claimed_1_2 := comes_1 fun _ _ _ _ _ _ h hF => ⟨h.2.1, hF⟩
end Jvm.Pilot.@@N@@
namespace Jvm.Pilot.@@N@@
open Jvm Jvm.ClassFile Sem Op Lib Jvm.Free Jvm.Stand Jvm.Pilot.@@N@@.Jvm.D
/-! MADE BY PROGRAM (witnessworld.py) out of the Statement's table words and the real class files: 21 classes; the members and pool entries that the words name. The judged class is class 1, her method 2. -/
namespace start1
open Jvm.ClassFile
def u (s : String) : CpInfo := .utf8 (stringToUtf16 s)
/-- a pool by its gaps: so many unusable entries, then the entry; so many at the end -/
def gap : Nat → List CpInfo → List CpInfo
  | 0, r => r
  | n + 1, r => .unusable :: gap n r
def poolList (es : List (Nat × CpInfo)) (last : Nat) : List CpInfo := es.foldr (fun e r => gap e.1 (e.2 :: r)) (gap last [])
def pool (es : List (Nat × CpInfo)) (last : Nat) : Array CpInfo := ⟨poolList es last⟩
def fileOf (pool : Array CpInfo) (this : Nat) (attrs : Array Attribute := #[]) (ms : Array MethodInfo := #[]) (fl : Nat := 33) (sup : Nat := 0) (ifs : Array Nat := #[]) (fds : Array FieldInfo := #[]) : ClassFile where
  minorVersion := 0
  majorVersion := 65
  constantPool := pool
  accessFlags := fl
  thisClass := this
  superClass := sup
  interfaces := ifs
  fields := fds
  methods := ms
  attributes := attrs
def plain (name : String) (sup : Option ClassId) : Class where
  name := name
  kind := .ordinary
  loader := none
  accessFlags := 33
  super := sup
  interfaces := #[]
  cf := none
  fields := #[]
  methods := #[]
  instanceTypes := #[]
  staticTypes := #[]
  resolved := #[]
  callSites := []
  init := .initialized
  statics := none
  mirror := none

def pool0 : Array CpInfo := pool [(5, u "<init>"), (0, u "()V"), (1, .class_ 10), (1, u "java/lang/Object")] 113

def k0c0 : Code := { maxStack := 0, maxLocals := 1, code := object_method_1_code, exceptionTable := #[], attributes := #[] }
def k0m0 : Method := { name := "<init>", desc := "()V", sig := { parameters := [], returnType := none }, accessFlags := 1, code := some k0c0 }
/-- java/lang/Object -/
def k0 : Class := { plain "java/lang/Object" none with
  accessFlags := 33
  interfaces := #[]
  cf := some (fileOf pool0 8 #[] #[{ accessFlags := 1, nameIndex := 5, descriptorIndex := 6, attributes := #[] }] 33 0 #[] #[])
  fields := #[]
  methods := #[k0m0]
  instanceTypes := #[]
  staticTypes := #[]
  resolved := Array.replicate 124 none
  statics := none }

def pool1 : Array CpInfo := pool [(2, .class_ 4), (1, u "java/lang/Object"), (0, u "<init>"), (0, u "()V"), (0, .methodref 8 9), (0, .class_ 10), (0, .nameAndType 11 12), (0, u "com/example/ianus/ianus/server/ResourcePathsBaseEndPinLaw"), (0, u "draw"), (0, u "(I)C"), (0, .class_ 14), (0, u "java/lang/String"), (0, .methodref 13 16), (0, .nameAndType 5 17), (0, u "([C)V"), (0, .methodref 19 20), (0, .class_ 21), (0, .nameAndType 22 23), (0, u "com/example/ianus/ianus/server/ResourcePaths"), (0, u "baseEnd"), (0, u "(Ljava/lang/String;I)I"), (3, u "law"), (0, u "(IIIIII)Z")] 4

def k1m0 : Method := { name := "<init>", desc := "()V", sig := { parameters := [], returnType := none }, accessFlags := 2, code := none }
def k1c1 : Code := { maxStack := 2, maxLocals := 1, code := method_2_code, exceptionTable := #[], attributes := #[] }
def k1m1 : Method := { name := "draw", desc := "(I)C", sig := { parameters := [.int], returnType := some .char }, accessFlags := 10, code := some k1c1 }
def k1c2 : Code := { maxStack := 3, maxLocals := 21, code := code, exceptionTable := #[], attributes := #[] }
def k1m2 : Method := { name := "law", desc := "(IIIIII)Z", sig := { parameters := [.int, .int, .int, .int, .int, .int], returnType := some .boolean }, accessFlags := 9, code := some k1c2 }
/-- com/example/ianus/ianus/server/ResourcePathsBaseEndPinLaw -/
def k1 : Class := { plain "com/example/ianus/ianus/server/ResourcePathsBaseEndPinLaw" (some 0) with
  accessFlags := 49
  interfaces := #[]
  cf := some (fileOf pool1 8 #[] #[{ accessFlags := 2, nameIndex := 5, descriptorIndex := 6, attributes := #[] }, { accessFlags := 10, nameIndex := 11, descriptorIndex := 12, attributes := #[] }, { accessFlags := 9, nameIndex := 27, descriptorIndex := 28, attributes := #[] }] 49 2 #[] #[])
  fields := #[]
  methods := #[k1m0, k1m1, k1m2]
  instanceTypes := #[]
  staticTypes := #[]
  resolved := Array.replicate 33 none
  statics := none }

def pool2 : Array CpInfo := pool [(1, .class_ 2), (0, u "java/io/Serializable"), (0, .class_ 4), (0, u "java/lang/Object")] 2

/-- java/io/Serializable -/
def k2 : Class := { plain "java/io/Serializable" (some 0) with
  accessFlags := 1537
  interfaces := #[]
  cf := some (fileOf pool2 1 #[] #[] 1537 3 #[] #[])
  fields := #[]
  methods := #[]
  instanceTypes := #[]
  staticTypes := #[]
  resolved := Array.replicate 7 none
  statics := none }

def pool3 : Array CpInfo := pool [(1, .class_ 2), (0, u "java/lang/Comparable"), (0, .class_ 4), (0, u "java/lang/Object")] 7

/-- java/lang/Comparable -/
def k3 : Class := { plain "java/lang/Comparable" (some 0) with
  accessFlags := 1537
  interfaces := #[]
  cf := some (fileOf pool3 1 #[] #[] 1537 3 #[] #[])
  fields := #[]
  methods := #[]
  instanceTypes := #[]
  staticTypes := #[]
  resolved := Array.replicate 12 none
  statics := none }

def pool4 : Array CpInfo := pool [(2, .class_ 4), (1, u "java/lang/CharSequence"), (42, .class_ 48), (0, u "java/lang/CharSequence$1CodePointIterator"), (10, .class_ 60), (0, u "java/lang/CharSequence$1CharIterator"), (5, .class_ 67), (0, u "java/lang/Object")] 63

/-- java/lang/CharSequence -/
def k4 : Class := { plain "java/lang/CharSequence" (some 0) with
  accessFlags := 1537
  interfaces := #[]
  cf := some (fileOf pool4 2 #[.nestMembers #[47, 59]] #[] 1537 66 #[] #[])
  fields := #[]
  methods := #[]
  instanceTypes := #[]
  staticTypes := #[]
  resolved := Array.replicate 131 none
  statics := none }

def pool5 : Array CpInfo := pool [(1, .class_ 2), (0, u "java/lang/constant/Constable"), (0, .class_ 4), (0, u "java/lang/Object")] 6

/-- java/lang/constant/Constable -/
def k5 : Class := { plain "java/lang/constant/Constable" (some 0) with
  accessFlags := 1537
  interfaces := #[]
  cf := some (fileOf pool5 1 #[] #[] 1537 3 #[] #[])
  fields := #[]
  methods := #[]
  instanceTypes := #[]
  staticTypes := #[]
  resolved := Array.replicate 11 none
  statics := none }

def pool6 : Array CpInfo := pool [(1, .class_ 2), (0, u "java/lang/constant/ConstantDesc"), (0, .class_ 4), (0, u "java/lang/Object")] 32

/-- java/lang/constant/ConstantDesc -/
def k6 : Class := { plain "java/lang/constant/ConstantDesc" (some 0) with
  accessFlags := 1537
  interfaces := #[]
  cf := some (fileOf pool6 1 #[] #[] 1537 3 #[] #[])
  fields := #[]
  methods := #[]
  instanceTypes := #[]
  staticTypes := #[]
  resolved := Array.replicate 37 none
  statics := none }

def pool7 : Array CpInfo := pool [(1, .methodref 2 3), (0, .class_ 4), (0, .nameAndType 5 6), (0, u "java/lang/Object"), (0, u "<init>"), (0, u "()V"), (2, .fieldref 10 11), (0, .class_ 12), (0, .nameAndType 13 14), (0, u "java/lang/String"), (0, u "value"), (0, u "[B"), (0, .fieldref 10 16), (0, .nameAndType 17 18), (0, u "coder"), (0, u "B"), (2, u "hash"), (0, u "I"), (2, u "hashIsZero"), (0, u "Z"), (0, .methodref 10 28), (0, .nameAndType 5 29), (0, u "([CIILjava/lang/Void;)V"), (8, .fieldref 10 39), (0, .nameAndType 40 26), (0, u "COMPACT_STRINGS"), (1, .class_ 44), (1, u "java/lang/StringUTF16"), (0, u "compress"), (1, .methodref 42 48), (0, .nameAndType 49 50), (0, u "coderFromArrayLen"), (0, u "([BI)B"), (56, .class_ 109), (1, u "java/lang/StringLatin1"), (32, u "()Z"), (34, .methodref 42 178), (0, .nameAndType 45 179), (0, u "([CII)[B"), (154, u "()I"), (0, .methodref 10 336), (0, .nameAndType 17 337), (0, u "()B"), (154, .methodref 10 493), (0, .nameAndType 494 142), (0, u "isLatin1"), (10, .methodref 10 506), (0, .nameAndType 507 334), (0, u "length"), (67, .class_ 576), (0, u "java/lang/CharSequence"), (22, u "CASE_INSENSITIVE_ORDER"), (0, u "Ljava/util/Comparator;"), (34, u "indexOf"), (0, u "(II)I"), (0, .methodref 107 638), (0, .nameAndType 635 639), (0, u "([BIII)I"), (370, u "([C)V"), (90, u "serialPersistentFields"), (0, u "[Ljava/io/ObjectStreamField;"), (0, .class_ 1104), (0, u "java/lang/String$CaseInsensitiveComparator"), (1, .class_ 1107), (0, u "java/io/Serializable"), (0, .class_ 1109), (0, u "java/lang/Comparable"), (0, .class_ 1111), (0, u "java/lang/constant/Constable"), (0, .class_ 1113), (0, u "java/lang/constant/ConstantDesc"), (2, u "serialVersionUID"), (0, u "J"), (3, u "REPL"), (0, u "C"), (2, u "LATIN1"), (1, u "UTF16")] 323

def k7m0 : Method := { name := "<init>", desc := "()V", sig := { parameters := [], returnType := none }, accessFlags := 1, code := none }
def k7c1 : Code := { maxStack := 5, maxLocals := 2, code := jdk_42_method_3_code, exceptionTable := #[], attributes := #[] }
def k7m1 : Method := { name := "<init>", desc := "([C)V", sig := { parameters := [(.array .char)], returnType := none }, accessFlags := 1, code := some k7c1 }
def k7c2 : Code := { maxStack := 2, maxLocals := 1, code := jdk_42_method_54_code, exceptionTable := #[], attributes := #[] }
def k7m2 : Method := { name := "length", desc := "()I", sig := { parameters := [], returnType := some .int }, accessFlags := 1, code := some k7c2 }
def k7c3 : Code := { maxStack := 4, maxLocals := 3, code := jdk_42_method_80_code, exceptionTable := #[], attributes := #[] }
def k7m3 : Method := { name := "indexOf", desc := "(II)I", sig := { parameters := [.int, .int], returnType := some .int }, accessFlags := 1, code := some k7c3 }
def k7c4 : Code := { maxStack := 4, maxLocals := 6, code := jdk_42_method_149_code, exceptionTable := #[], attributes := #[] }
def k7m4 : Method := { name := "<init>", desc := "([CIILjava/lang/Void;)V", sig := { parameters := [(.array .char), .int, .int, (.object "java/lang/Void")], returnType := none }, accessFlags := 2, code := some k7c4 }
def k7c5 : Code := { maxStack := 1, maxLocals := 1, code := jdk_42_method_152_code, exceptionTable := #[], attributes := #[] }
def k7m5 : Method := { name := "coder", desc := "()B", sig := { parameters := [], returnType := some .byte }, accessFlags := 0, code := some k7c5 }
def k7c6 : Code := { maxStack := 1, maxLocals := 1, code := jdk_42_method_154_code, exceptionTable := #[], attributes := #[] }
def k7m6 : Method := { name := "isLatin1", desc := "()Z", sig := { parameters := [], returnType := some .boolean }, accessFlags := 0, code := some k7c6 }
/-- java/lang/String -/
def k7 : Class := { plain "java/lang/String" (some 0) with
  accessFlags := 49
  interfaces := #[2, 3, 4, 5, 6]
  cf := some (fileOf pool7 10 #[.nestMembers #[1103]] #[{ accessFlags := 1, nameIndex := 5, descriptorIndex := 6, attributes := #[] }, { accessFlags := 1, nameIndex := 5, descriptorIndex := 1010, attributes := #[] }, { accessFlags := 1, nameIndex := 507, descriptorIndex := 334, attributes := #[] }, { accessFlags := 1, nameIndex := 635, descriptorIndex := 636, attributes := #[] }, { accessFlags := 2, nameIndex := 5, descriptorIndex := 29, attributes := #[] }, { accessFlags := 0, nameIndex := 17, descriptorIndex := 337, attributes := #[] }, { accessFlags := 0, nameIndex := 494, descriptorIndex := 142, attributes := #[] }] 49 2 #[1106, 1108, 575, 1110, 1112] #[{ accessFlags := 18, nameIndex := 13, descriptorIndex := 14, attributes := #[] }, { accessFlags := 18, nameIndex := 17, descriptorIndex := 18, attributes := #[] }, { accessFlags := 2, nameIndex := 21, descriptorIndex := 22, attributes := #[] }, { accessFlags := 2, nameIndex := 25, descriptorIndex := 26, attributes := #[] }, { accessFlags := 26, nameIndex := 1116, descriptorIndex := 1117, attributes := #[] }, { accessFlags := 24, nameIndex := 40, descriptorIndex := 26, attributes := #[] }, { accessFlags := 26, nameIndex := 1101, descriptorIndex := 1102, attributes := #[] }, { accessFlags := 26, nameIndex := 1121, descriptorIndex := 1122, attributes := #[] }, { accessFlags := 25, nameIndex := 599, descriptorIndex := 600, attributes := #[] }, { accessFlags := 24, nameIndex := 1125, descriptorIndex := 18, attributes := #[] }, { accessFlags := 24, nameIndex := 1127, descriptorIndex := 18, attributes := #[] }])
  fields := #[{ name := "value", type := (.array .byte), accessFlags := 18, slot := 0, constantValue := 0 }, { name := "coder", type := .byte, accessFlags := 18, slot := 1, constantValue := 0 }, { name := "hash", type := .int, accessFlags := 2, slot := 2, constantValue := 0 }, { name := "hashIsZero", type := .boolean, accessFlags := 2, slot := 3, constantValue := 0 }, { name := "serialVersionUID", type := .long, accessFlags := 26, slot := 0, constantValue := 0 }, { name := "COMPACT_STRINGS", type := .boolean, accessFlags := 24, slot := 1, constantValue := 0 }, { name := "serialPersistentFields", type := (.array (.object "java/io/ObjectStreamField")), accessFlags := 26, slot := 2, constantValue := 0 }, { name := "REPL", type := .char, accessFlags := 26, slot := 3, constantValue := 0 }, { name := "CASE_INSENSITIVE_ORDER", type := (.object "java/util/Comparator"), accessFlags := 25, slot := 4, constantValue := 0 }, { name := "LATIN1", type := .byte, accessFlags := 24, slot := 5, constantValue := 0 }, { name := "UTF16", type := .byte, accessFlags := 24, slot := 6, constantValue := 0 }]
  methods := #[k7m0, k7m1, k7m2, k7m3, k7m4, k7m5, k7m6]
  instanceTypes := #[(.array .byte), .byte, .int, .boolean]
  staticTypes := #[.long, .boolean, (.array (.object "java/io/ObjectStreamField")), .char, (.object "java/util/Comparator"), .byte, .byte]
  resolved := Array.replicate 1451 none
  statics := some 0 }

def pool8 : Array CpInfo := pool [(6, .class_ 8), (1, u "java/lang/Object"), (0, u "<init>"), (0, u "()V"), (1, .class_ 14), (1, u "java/lang/StringUTF16"), (31, u "$assertionsDisabled"), (0, u "Z"), (13, u "HI_BYTE_SHIFT"), (0, u "I"), (2, u "LO_BYTE_SHIFT"), (49, .methodref 12 116), (0, .nameAndType 117 118), (0, u "compress"), (0, u "([CI[BII)I"), (3, u "([CII)[B"), (138, u "coderFromArrayLen"), (0, u "([BI)B"), (106, .class_ 371), (1, u "java/lang/StringUTF16$LinesSpliterator"), (58, u "MAX_LENGTH"), (196, .class_ 628), (0, u "java/lang/StringUTF16$CodePointsSpliterator"), (0, .class_ 630), (0, u "java/lang/StringUTF16$CharsSpliterator")] 4

def k8m0 : Method := { name := "<init>", desc := "()V", sig := { parameters := [], returnType := none }, accessFlags := 0, code := none }
def k8c1 : Code := { maxStack := 2, maxLocals := 2, code := jdk_52_method_15_code, exceptionTable := #[], attributes := #[] }
def k8m1 : Method := { name := "coderFromArrayLen", desc := "([BI)B", sig := { parameters := [(.array .byte), .int], returnType := some .byte }, accessFlags := 8, code := some k8c1 }
def k8c2 : Code := { maxStack := 5, maxLocals := 6, code := jdk_52_method_16_code, exceptionTable := #[], attributes := #[] }
def k8m2 : Method := { name := "compress", desc := "([CII)[B", sig := { parameters := [(.array .char), .int, .int], returnType := some (.array .byte) }, accessFlags := 9, code := some k8c2 }
def k8c3 : Code := { maxStack := 3, maxLocals := 7, code := jdk_52_method_21_code, exceptionTable := #[], attributes := #[] }
def k8m3 : Method := { name := "compress", desc := "([CI[BII)I", sig := { parameters := [(.array .char), .int, (.array .byte), .int, .int], returnType := some .int }, accessFlags := 9, code := some k8c3 }
/-- java/lang/StringUTF16 -/
def k8 : Class := { plain "java/lang/StringUTF16" (some 0) with
  accessFlags := 48
  interfaces := #[]
  cf := some (fileOf pool8 12 #[.nestMembers #[627, 629, 369]] #[{ accessFlags := 0, nameIndex := 9, descriptorIndex := 10, attributes := #[] }, { accessFlags := 8, nameIndex := 261, descriptorIndex := 262, attributes := #[] }, { accessFlags := 9, nameIndex := 117, descriptorIndex := 122, attributes := #[] }, { accessFlags := 9, nameIndex := 117, descriptorIndex := 118, attributes := #[] }] 48 6 #[] #[{ accessFlags := 26, nameIndex := 61, descriptorIndex := 62, attributes := #[] }, { accessFlags := 26, nameIndex := 65, descriptorIndex := 62, attributes := #[] }, { accessFlags := 24, nameIndex := 430, descriptorIndex := 62, attributes := #[] }, { accessFlags := 4120, nameIndex := 46, descriptorIndex := 47, attributes := #[] }])
  fields := #[{ name := "HI_BYTE_SHIFT", type := .int, accessFlags := 26, slot := 0, constantValue := 0 }, { name := "LO_BYTE_SHIFT", type := .int, accessFlags := 26, slot := 1, constantValue := 0 }, { name := "MAX_LENGTH", type := .int, accessFlags := 24, slot := 2, constantValue := 0 }, { name := "$assertionsDisabled", type := .boolean, accessFlags := 4120, slot := 3, constantValue := 0 }]
  methods := #[k8m0, k8m1, k8m2, k8m3]
  instanceTypes := #[]
  staticTypes := #[.int, .int, .int, .boolean]
  resolved := Array.replicate 635 none
  statics := none }

def pool9 : Array CpInfo := pool [(2, .class_ 4), (1, u "java/lang/Object"), (0, u "<init>"), (0, u "()V"), (9, .class_ 18), (1, u "java/lang/String"), (42, u "()I"), (10, .methodref 16 73), (0, .nameAndType 74 75), (0, u "indexOf"), (0, u "(II)I"), (0, .methodref 16 77), (0, .nameAndType 78 61), (0, u "length"), (0, .class_ 80), (0, u "com/example/ianus/ianus/server/ResourcePaths"), (7, u "baseEnd"), (0, u "(Ljava/lang/String;I)I")] 19

def k9m0 : Method := { name := "<init>", desc := "()V", sig := { parameters := [], returnType := none }, accessFlags := 2, code := none }
def k9c1 : Code := { maxStack := 4, maxLocals := 5, code := prog_19_method_4_code, exceptionTable := #[], attributes := #[] }
def k9m1 : Method := { name := "baseEnd", desc := "(Ljava/lang/String;I)I", sig := { parameters := [(.object "java/lang/String"), .int], returnType := some .int }, accessFlags := 8, code := some k9c1 }
/-- com/example/ianus/ianus/server/ResourcePaths -/
def k9 : Class := { plain "com/example/ianus/ianus/server/ResourcePaths" (some 0) with
  accessFlags := 48
  interfaces := #[]
  cf := some (fileOf pool9 79 #[] #[{ accessFlags := 2, nameIndex := 5, descriptorIndex := 6, attributes := #[] }, { accessFlags := 8, nameIndex := 88, descriptorIndex := 89, attributes := #[] }] 48 2 #[] #[])
  fields := #[]
  methods := #[k9m0, k9m1]
  instanceTypes := #[]
  staticTypes := #[]
  resolved := Array.replicate 109 none
  statics := none }

def pool10 : Array CpInfo := pool [(4, .class_ 6), (1, u "java/lang/Object"), (0, u "<init>"), (0, u "()V"), (5, .class_ 16), (1, u "java/lang/StringLatin1"), (21, .methodref 39 40), (0, .class_ 41), (0, .nameAndType 42 43), (0, u "java/lang/Math"), (0, u "min"), (0, u "(II)I"), (44, .methodref 14 89), (0, .nameAndType 90 91), (0, u "canEncode"), (0, u "(I)Z"), (0, .methodref 39 93), (0, .nameAndType 94 43), (0, u "max"), (0, .methodref 14 96), (0, .nameAndType 97 98), (0, u "indexOfChar"), (0, u "([BIII)I"), (2, u "indexOf"), (19, u "$assertionsDisabled"), (0, u "Z"), (98, .class_ 223), (1, u "java/lang/StringLatin1$LinesSpliterator"), (166, .class_ 391), (0, u "java/lang/StringLatin1$CharsSpliterator")] 3

def k10m0 : Method := { name := "<init>", desc := "()V", sig := { parameters := [], returnType := none }, accessFlags := 0, code := none }
def k10c1 : Code := { maxStack := 2, maxLocals := 1, code := jdk_43_method_4_code, exceptionTable := #[], attributes := #[] }
def k10m1 : Method := { name := "canEncode", desc := "(I)Z", sig := { parameters := [.int], returnType := some .boolean }, accessFlags := 9, code := some k10c1 }
def k10c2 : Code := { maxStack := 4, maxLocals := 4, code := jdk_43_method_22_code, exceptionTable := #[], attributes := #[] }
def k10m2 : Method := { name := "indexOf", desc := "([BIII)I", sig := { parameters := [(.array .byte), .int, .int, .int], returnType := some .int }, accessFlags := 9, code := some k10c2 }
def k10c3 : Code := { maxStack := 2, maxLocals := 6, code := jdk_43_method_23_code, exceptionTable := #[], attributes := #[] }
def k10m3 : Method := { name := "indexOfChar", desc := "([BIII)I", sig := { parameters := [(.array .byte), .int, .int, .int], returnType := some .int }, accessFlags := 10, code := some k10c3 }
/-- java/lang/StringLatin1 -/
def k10 : Class := { plain "java/lang/StringLatin1" (some 0) with
  accessFlags := 48
  interfaces := #[]
  cf := some (fileOf pool10 14 #[.nestMembers #[390, 221]] #[{ accessFlags := 0, nameIndex := 7, descriptorIndex := 8, attributes := #[] }, { accessFlags := 9, nameIndex := 90, descriptorIndex := 91, attributes := #[] }, { accessFlags := 9, nameIndex := 101, descriptorIndex := 98, attributes := #[] }, { accessFlags := 10, nameIndex := 97, descriptorIndex := 98, attributes := #[] }] 48 4 #[] #[{ accessFlags := 4120, nameIndex := 121, descriptorIndex := 122, attributes := #[] }])
  fields := #[{ name := "$assertionsDisabled", type := .boolean, accessFlags := 4120, slot := 0, constantValue := 0 }]
  methods := #[k10m0, k10m1, k10m2, k10m3]
  instanceTypes := #[]
  staticTypes := #[.boolean]
  resolved := Array.replicate 395 none
  statics := none }

def pool11 : Array CpInfo := pool [(1, .class_ 2), (0, u "java/lang/Math"), (1, .class_ 6), (1, u "java/lang/Object"), (0, u "<init>"), (0, u "()V"), (89, .class_ 100), (1, u "java/lang/Math$RandomNumberGeneratorHolder"), (71, u "negativeZeroFloatBits"), (0, u "J"), (2, u "negativeZeroDoubleBits"), (21, u "max"), (2, u "min"), (43, u "$assertionsDisabled"), (0, u "Z"), (88, u "(II)I"), (2, u "twoToTheDoubleScaleDown"), (0, u "D"), (4, u "twoToTheDoubleScaleUp"), (9, u "E"), (3, u "PI"), (2, u "TAU"), (2, u "DEGREES_TO_RADIANS"), (0, u "RADIANS_TO_DEGREES")] 94

def k11m0 : Method := { name := "<init>", desc := "()V", sig := { parameters := [], returnType := none }, accessFlags := 2, code := none }
def k11c1 : Code := { maxStack := 2, maxLocals := 2, code := jdk_29_method_65_code, exceptionTable := #[], attributes := #[] }
def k11m1 : Method := { name := "max", desc := "(II)I", sig := { parameters := [.int, .int], returnType := some .int }, accessFlags := 9, code := some k11c1 }
def k11c2 : Code := { maxStack := 2, maxLocals := 2, code := jdk_29_method_69_code, exceptionTable := #[], attributes := #[] }
def k11m2 : Method := { name := "min", desc := "(II)I", sig := { parameters := [.int, .int], returnType := some .int }, accessFlags := 9, code := some k11c2 }
/-- java/lang/Math -/
def k11 : Class := { plain "java/lang/Math" (some 0) with
  accessFlags := 49
  interfaces := #[]
  cf := some (fileOf pool11 1 #[.nestMembers #[98]] #[{ accessFlags := 2, nameIndex := 7, descriptorIndex := 8, attributes := #[] }, { accessFlags := 9, nameIndex := 198, descriptorIndex := 335, attributes := #[] }, { accessFlags := 9, nameIndex := 201, descriptorIndex := 335, attributes := #[] }] 49 4 #[] #[{ accessFlags := 25, nameIndex := 354, descriptorIndex := 339, attributes := #[] }, { accessFlags := 25, nameIndex := 358, descriptorIndex := 339, attributes := #[] }, { accessFlags := 25, nameIndex := 361, descriptorIndex := 339, attributes := #[] }, { accessFlags := 26, nameIndex := 364, descriptorIndex := 339, attributes := #[] }, { accessFlags := 26, nameIndex := 365, descriptorIndex := 339, attributes := #[] }, { accessFlags := 26, nameIndex := 172, descriptorIndex := 173, attributes := #[] }, { accessFlags := 26, nameIndex := 176, descriptorIndex := 173, attributes := #[] }, { accessFlags := 8, nameIndex := 344, descriptorIndex := 339, attributes := #[] }, { accessFlags := 8, nameIndex := 338, descriptorIndex := 339, attributes := #[] }, { accessFlags := 4120, nameIndex := 245, descriptorIndex := 246, attributes := #[] }])
  fields := #[{ name := "E", type := .double, accessFlags := 25, slot := 0, constantValue := 0 }, { name := "PI", type := .double, accessFlags := 25, slot := 1, constantValue := 0 }, { name := "TAU", type := .double, accessFlags := 25, slot := 2, constantValue := 0 }, { name := "DEGREES_TO_RADIANS", type := .double, accessFlags := 26, slot := 3, constantValue := 0 }, { name := "RADIANS_TO_DEGREES", type := .double, accessFlags := 26, slot := 4, constantValue := 0 }, { name := "negativeZeroFloatBits", type := .long, accessFlags := 26, slot := 5, constantValue := 0 }, { name := "negativeZeroDoubleBits", type := .long, accessFlags := 26, slot := 6, constantValue := 0 }, { name := "twoToTheDoubleScaleUp", type := .double, accessFlags := 8, slot := 7, constantValue := 0 }, { name := "twoToTheDoubleScaleDown", type := .double, accessFlags := 8, slot := 8, constantValue := 0 }, { name := "$assertionsDisabled", type := .boolean, accessFlags := 4120, slot := 9, constantValue := 0 }]
  methods := #[k11m0, k11m1, k11m2]
  instanceTypes := #[]
  staticTypes := #[.double, .double, .double, .double, .double, .long, .long, .double, .double, .boolean]
  resolved := Array.replicate 460 none
  statics := none }

def pool12 : Array CpInfo := pool [(2, .class_ 4), (1, u "java/lang/Object"), (0, u "<init>"), (0, u "()V"), (17, .class_ 26), (1, u "jdk/internal/util/Preconditions"), (28, .class_ 56), (0, u "jdk/internal/util/Preconditions$4"), (57, .class_ 115), (0, u "jdk/internal/util/Preconditions$1"), (7, u "SIOOBE_FORMATTER"), (0, u "Ljava/util/function/BiFunction;"), (0, .class_ 126), (0, u "jdk/internal/util/Preconditions$2"), (3, u "AIOOBE_FORMATTER"), (0, .class_ 132), (0, u "jdk/internal/util/Preconditions$3"), (3, u "IOOBE_FORMATTER")] 57

def k12m0 : Method := { name := "<init>", desc := "()V", sig := { parameters := [], returnType := none }, accessFlags := 1, code := none }
/-- jdk/internal/util/Preconditions -/
def k12 : Class := { plain "jdk/internal/util/Preconditions" (some 0) with
  accessFlags := 33
  interfaces := #[]
  cf := some (fileOf pool12 24 #[.nestMembers #[55, 131, 125, 114]] #[{ accessFlags := 1, nameIndex := 5, descriptorIndex := 6, attributes := #[] }] 33 2 #[] #[{ accessFlags := 25, nameIndex := 123, descriptorIndex := 124, attributes := #[] }, { accessFlags := 25, nameIndex := 130, descriptorIndex := 124, attributes := #[] }, { accessFlags := 25, nameIndex := 136, descriptorIndex := 124, attributes := #[] }])
  fields := #[{ name := "SIOOBE_FORMATTER", type := (.object "java/util/function/BiFunction"), accessFlags := 25, slot := 0, constantValue := 0 }, { name := "AIOOBE_FORMATTER", type := (.object "java/util/function/BiFunction"), accessFlags := 25, slot := 1, constantValue := 0 }, { name := "IOOBE_FORMATTER", type := (.object "java/util/function/BiFunction"), accessFlags := 25, slot := 2, constantValue := 0 }]
  methods := #[k12m0]
  instanceTypes := #[]
  staticTypes := #[(.object "java/util/function/BiFunction"), (.object "java/util/function/BiFunction"), (.object "java/util/function/BiFunction")]
  resolved := Array.replicate 194 none
  statics := some 1 }

def pool13 : Array CpInfo := pool [(9, u "<init>"), (6, .class_ 18), (1, u "java/lang/Object"), (0, u "()V"), (1, .class_ 23), (1, u "jdk/internal/util/ArraysSupport"), (0, u "LOG2_ARRAY_LONG_INDEX_SCALE"), (0, u "I"), (2, u "U"), (0, u "Ljdk/internal/misc/Unsafe;"), (8, u "BIG_ENDIAN"), (0, u "Z"), (8, u "LOG2_BYTE_BIT_SIZE"), (4, u "LOG2_ARRAY_INT_INDEX_SCALE"), (54, u "JLA"), (0, u "Ljdk/internal/access/JavaLangAccess;"), (11, u "LOG2_ARRAY_BOOLEAN_INDEX_SCALE"), (9, u "LOG2_ARRAY_BYTE_INDEX_SCALE"), (5, u "LOG2_ARRAY_CHAR_INDEX_SCALE"), (5, u "LOG2_ARRAY_SHORT_INDEX_SCALE"), (18, u "LOG2_ARRAY_FLOAT_INDEX_SCALE"), (24, u "LOG2_ARRAY_DOUBLE_INDEX_SCALE"), (89, u "T_BOOLEAN"), (2, u "T_CHAR"), (1, u "T_FLOAT"), (1, u "T_DOUBLE"), (1, u "T_BYTE"), (1, u "T_SHORT"), (1, u "T_INT"), (1, u "T_LONG"), (1, u "SOFT_MAX_ARRAY_LENGTH")] 83

def k13m0 : Method := { name := "<init>", desc := "()V", sig := { parameters := [], returnType := none }, accessFlags := 2, code := none }
/-- jdk/internal/util/ArraysSupport -/
def k13 : Class := { plain "jdk/internal/util/ArraysSupport" (some 0) with
  accessFlags := 33
  interfaces := #[]
  cf := some (fileOf pool13 21 #[] #[{ accessFlags := 2, nameIndex := 9, descriptorIndex := 19, attributes := #[] }] 33 16 #[] #[{ accessFlags := 24, nameIndex := 28, descriptorIndex := 29, attributes := #[] }, { accessFlags := 26, nameIndex := 38, descriptorIndex := 39, attributes := #[] }, { accessFlags := 25, nameIndex := 121, descriptorIndex := 25, attributes := #[] }, { accessFlags := 25, nameIndex := 131, descriptorIndex := 25, attributes := #[] }, { accessFlags := 25, nameIndex := 137, descriptorIndex := 25, attributes := #[] }, { accessFlags := 25, nameIndex := 143, descriptorIndex := 25, attributes := #[] }, { accessFlags := 25, nameIndex := 53, descriptorIndex := 25, attributes := #[] }, { accessFlags := 25, nameIndex := 24, descriptorIndex := 25, attributes := #[] }, { accessFlags := 25, nameIndex := 162, descriptorIndex := 25, attributes := #[] }, { accessFlags := 25, nameIndex := 187, descriptorIndex := 25, attributes := #[] }, { accessFlags := 26, nameIndex := 48, descriptorIndex := 25, attributes := #[] }, { accessFlags := 25, nameIndex := 277, descriptorIndex := 25, attributes := #[] }, { accessFlags := 25, nameIndex := 280, descriptorIndex := 25, attributes := #[] }, { accessFlags := 25, nameIndex := 282, descriptorIndex := 25, attributes := #[] }, { accessFlags := 25, nameIndex := 284, descriptorIndex := 25, attributes := #[] }, { accessFlags := 25, nameIndex := 286, descriptorIndex := 25, attributes := #[] }, { accessFlags := 25, nameIndex := 288, descriptorIndex := 25, attributes := #[] }, { accessFlags := 25, nameIndex := 290, descriptorIndex := 25, attributes := #[] }, { accessFlags := 25, nameIndex := 292, descriptorIndex := 25, attributes := #[] }, { accessFlags := 26, nameIndex := 108, descriptorIndex := 109, attributes := #[] }, { accessFlags := 25, nameIndex := 294, descriptorIndex := 25, attributes := #[] }])
  fields := #[{ name := "U", type := (.object "jdk/internal/misc/Unsafe"), accessFlags := 24, slot := 0, constantValue := 0 }, { name := "BIG_ENDIAN", type := .boolean, accessFlags := 26, slot := 1, constantValue := 0 }, { name := "LOG2_ARRAY_BOOLEAN_INDEX_SCALE", type := .int, accessFlags := 25, slot := 2, constantValue := 0 }, { name := "LOG2_ARRAY_BYTE_INDEX_SCALE", type := .int, accessFlags := 25, slot := 3, constantValue := 0 }, { name := "LOG2_ARRAY_CHAR_INDEX_SCALE", type := .int, accessFlags := 25, slot := 4, constantValue := 0 }, { name := "LOG2_ARRAY_SHORT_INDEX_SCALE", type := .int, accessFlags := 25, slot := 5, constantValue := 0 }, { name := "LOG2_ARRAY_INT_INDEX_SCALE", type := .int, accessFlags := 25, slot := 6, constantValue := 0 }, { name := "LOG2_ARRAY_LONG_INDEX_SCALE", type := .int, accessFlags := 25, slot := 7, constantValue := 0 }, { name := "LOG2_ARRAY_FLOAT_INDEX_SCALE", type := .int, accessFlags := 25, slot := 8, constantValue := 0 }, { name := "LOG2_ARRAY_DOUBLE_INDEX_SCALE", type := .int, accessFlags := 25, slot := 9, constantValue := 0 }, { name := "LOG2_BYTE_BIT_SIZE", type := .int, accessFlags := 26, slot := 10, constantValue := 0 }, { name := "T_BOOLEAN", type := .int, accessFlags := 25, slot := 11, constantValue := 0 }, { name := "T_CHAR", type := .int, accessFlags := 25, slot := 12, constantValue := 0 }, { name := "T_FLOAT", type := .int, accessFlags := 25, slot := 13, constantValue := 0 }, { name := "T_DOUBLE", type := .int, accessFlags := 25, slot := 14, constantValue := 0 }, { name := "T_BYTE", type := .int, accessFlags := 25, slot := 15, constantValue := 0 }, { name := "T_SHORT", type := .int, accessFlags := 25, slot := 16, constantValue := 0 }, { name := "T_INT", type := .int, accessFlags := 25, slot := 17, constantValue := 0 }, { name := "T_LONG", type := .int, accessFlags := 25, slot := 18, constantValue := 0 }, { name := "JLA", type := (.object "jdk/internal/access/JavaLangAccess"), accessFlags := 26, slot := 19, constantValue := 0 }, { name := "SOFT_MAX_ARRAY_LENGTH", type := .int, accessFlags := 25, slot := 20, constantValue := 0 }]
  methods := #[k13m0]
  instanceTypes := #[]
  staticTypes := #[(.object "jdk/internal/misc/Unsafe"), .boolean, .int, .int, .int, .int, .int, .int, .int, .int, .int, .int, .int, .int, .int, .int, .int, .int, .int, (.object "jdk/internal/access/JavaLangAccess"), .int]
  resolved := Array.replicate 378 none
  statics := none }

def pool14 : Array CpInfo := pool [(1, u "java/lang/Cloneable"), (0, .class_ 1), (0, u "java/lang/Object"), (0, .class_ 3)] 3

/-- java/lang/Cloneable -/
def k14 : Class := { plain "java/lang/Cloneable" (some 0) with
  accessFlags := 1537
  interfaces := #[]
  cf := some (fileOf pool14 2 #[] #[] 1537 4 #[] #[])
  fields := #[]
  methods := #[]
  instanceTypes := #[]
  staticTypes := #[]
  resolved := Array.replicate 8 none
  statics := none }

/-- the primitive byte -/
def k15 : Class := { plain "byte" none with kind := .primitive 'B', accessFlags := 0x411 }
/-- [B -/
def k16 : Class := { plain "[B" (some 0) with kind := .array 15 .byte, interfaces := #[14, 2], accessFlags := 1041 }

/-- the primitive char -/
def k17 : Class := { plain "char" none with kind := .primitive 'C', accessFlags := 0x411 }
/-- [C -/
def k18 : Class := { plain "[C" (some 0) with kind := .array 17 .char, interfaces := #[14, 2], accessFlags := 1041 }

/-- the primitive int -/
def k19 : Class := { plain "int" none with kind := .primitive 'I', accessFlags := 0x411 }
/-- [I -/
def k20 : Class := { plain "[I" (some 0) with kind := .array 19 .int, interfaces := #[14, 2], accessFlags := 1041 }

def heap : Heap := #[{ cls := 7, slots := #[.long 0, .int 1, .null, .int 0, .null, .int 0, .int 0], vm := .statics 7 },
  { cls := 12, slots := #[.null, .null, .null], vm := .statics 12 }]
def classes : Array Class := #[k0, k1, k2, k3, k4, k5, k6, k7, k8, k9, k10, k11, k12, k13, k14, k15, k16, k17, k18, k19, k20]
def interned : List (Array UInt16 × Addr) := []
def slotsUsed : Nat := 10
def theMethod : MethodId := ⟨1, 2⟩
def args0 : Array Value := #[.int 5, .int 300, .int 7, .int 8, .int 9, .int 2]
def aboutOver (below : List Frame) : State where
  vm := { classes := classes, interned := interned.toArray }
  heap := heap
  slotsUsed := slotsUsed
  threads := #[{ frames := .invoking theMethod args0 :: below }]
def below0 : List Frame := [.native { method := ⟨0, 0⟩, args := #[] }]
def about1 : State := aboutOver below0
def p0 : Program := .bare "" "" ""
def e0 : Env := launch0.env 0 0 0
theorem w_frames : about1.frames = Frame.invoking theMethod args0 :: below0 := rfl
set_option maxRecDepth 65536 in
theorem w_args : argsFit about1.vm theMethod args0 = true := by decide +kernel
set_option maxRecDepth 65536 in
theorem w_heap : heapFits about1 = true := by decide +kernel
set_option maxRecDepth 65536 in
theorem w_runnable : about1.curStatus? = some .runnable := by decide +kernel
set_option maxRecDepth 65536 in
theorem w_alone : about1.alone = true := by decide +kernel
set_option maxRecDepth 65536 in
theorem w_named : about1.methodNamed? x = some theMethod := by decide +kernel
set_option maxRecDepth 65536 in
theorem w_hears : about1.hears theMethod below0 = true := by decide +kernel
set_option maxRecDepth 65536 in
theorem w_ripe : about1.ripe theMethod args0 below0 = true := by decide +kernel
theorem w_running : about1.status = .running := rfl
set_option maxRecDepth 65536 in
theorem w_room : about1.hasRoom e0.platform room_1 = true :=
  launch0.hasRoom_least _ room_1 (by decide +kernel) (by decide +kernel) (by decide +kernel) (by decide +kernel) (by decide +kernel) (by decide +kernel)
theorem allAtoms_all (ts : List Jvm.Cond) (a : Array Jvm.Value) (st : Jvm.State) : (allAtoms ts).before a st = ts.all (fun c => c.before a st) := by
  induction ts with
  | nil => rfl
  | cons c t ih =>
    show (Jvm.Cond.and c (allAtoms t)).before a st = _
    rw [Jvm.Cond.before_and, ih, List.all_cons]
def words1 : List Jvm.Cond := Jvm.Cond.code x code maxLocals ret :: tables_1
/-- a 'code' word, met by the world's own term for the bytes: nothing is compared byte by byte -/
theorem code_word {y : MethodName} {bytes : ByteArray} {mx : Nat} {rt : Option FieldType} {a : Array Value} {s : State} {m : MethodId} {meth : Method} {c : Code} (h1 : s.methodNamed? y = some m) (h2 : s.vm.method? m = some meth) (h3 : meth.code = some c) (h4 : c.code = bytes)
    (h5 : (c.maxLocals == mx && c.exceptionTable.isEmpty && decide (c.maxStack ≤ mostOperands) && decide (meth.sig.returnType = rt) && !meth.locks && decide (parseMethodDescriptor y.desc = some meth.sig)) = true) : (Jvm.Cond.code y bytes mx rt).before a s = true := by
  simp only [Bool.and_eq_true, beq_iff_eq, Bool.not_eq_true', decide_eq_true_eq] at h5
  obtain ⟨⟨⟨⟨⟨g1, g2⟩, g3⟩, g4⟩, g5⟩, g6⟩ := h5
  simp [Cond.before, Cond.holds, Cond.value, h1, h2, h3, h4, g1, g2, g3, g4, g5, g6]
def isCode : Jvm.Cond → Bool
  | .code _ _ _ _ => true
  | _ => false
theorem all_split {L : List Jvm.Cond} {P : Jvm.Cond → Bool} (h1 : L.all (fun c => isCode c || P c) = true) (h2 : ∀ c ∈ L.filter isCode, P c = true) : L.all P = true := by
  refine List.all_eq_true.mpr fun c hc => ?_
  have h := List.all_eq_true.mp h1 c hc
  rcases Bool.eq_false_or_eq_true (isCode c) with hi | hi
  · exact h2 c (List.mem_filter.mpr ⟨hc, hi⟩)
  · simpa [hi] using h
set_option maxRecDepth 65536 in
theorem w_c0 : (Jvm.Cond.code x code maxLocals ret).before args0 about1 = true := code_word (m := ⟨1, 2⟩) (meth := k1m2) (c := k1c2) (by decide +kernel) rfl rfl rfl (by decide +kernel)
set_option maxRecDepth 65536 in
theorem w_c1 : (Jvm.Cond.code ({ cls := "com/example/ianus/ianus/server/ResourcePathsBaseEndPinLaw", name := "draw", desc := "(I)C" } : Jvm.MethodName) method_2_code (1 : Nat) (Option.some Jvm.ClassFile.FieldType.char)).before args0 about1 = true := code_word (m := ⟨1, 1⟩) (meth := k1m1) (c := k1c1) (by decide +kernel) rfl rfl rfl (by decide +kernel)
set_option maxRecDepth 65536 in
theorem w_c2 : (Jvm.Cond.code ({ cls := "java/lang/String", name := "<init>", desc := "([C)V" } : Jvm.MethodName) jdk_42_method_3_code (2 : Nat) (Option.none : Option Jvm.ClassFile.FieldType)).before args0 about1 = true := code_word (m := ⟨7, 1⟩) (meth := k7m1) (c := k7c1) (by decide +kernel) rfl rfl rfl (by decide +kernel)
set_option maxRecDepth 65536 in
theorem w_c3 : (Jvm.Cond.code ({ cls := "java/lang/String", name := "<init>", desc := "([CIILjava/lang/Void;)V" } : Jvm.MethodName) jdk_42_method_149_code (6 : Nat) (Option.none : Option Jvm.ClassFile.FieldType)).before args0 about1 = true := code_word (m := ⟨7, 4⟩) (meth := k7m4) (c := k7c4) (by decide +kernel) rfl rfl rfl (by decide +kernel)
set_option maxRecDepth 65536 in
theorem w_c4 : (Jvm.Cond.code ({ cls := "java/lang/Object", name := "<init>", desc := "()V" } : Jvm.MethodName) object_method_1_code (1 : Nat) (Option.none : Option Jvm.ClassFile.FieldType)).before args0 about1 = true := code_word (m := ⟨0, 0⟩) (meth := k0m0) (c := k0c0) (by decide +kernel) rfl rfl rfl (by decide +kernel)
set_option maxRecDepth 65536 in
theorem w_c5 : (Jvm.Cond.code ({ cls := "java/lang/StringUTF16", name := "compress", desc := "([CII)[B" } : Jvm.MethodName) jdk_52_method_16_code (6 : Nat) (Option.some (Jvm.ClassFile.FieldType.array Jvm.ClassFile.FieldType.byte))).before args0 about1 = true := code_word (m := ⟨8, 2⟩) (meth := k8m2) (c := k8c2) (by decide +kernel) rfl rfl rfl (by decide +kernel)
set_option maxRecDepth 65536 in
theorem w_c6 : (Jvm.Cond.code ({ cls := "java/lang/StringUTF16", name := "compress", desc := "([CI[BII)I" } : Jvm.MethodName) jdk_52_method_21_code (7 : Nat) (Option.some Jvm.ClassFile.FieldType.int)).before args0 about1 = true := code_word (m := ⟨8, 3⟩) (meth := k8m3) (c := k8c3) (by decide +kernel) rfl rfl rfl (by decide +kernel)
set_option maxRecDepth 65536 in
theorem w_c7 : (Jvm.Cond.code ({ cls := "java/lang/StringUTF16", name := "coderFromArrayLen", desc := "([BI)B" } : Jvm.MethodName) jdk_52_method_15_code (2 : Nat) (Option.some Jvm.ClassFile.FieldType.byte)).before args0 about1 = true := code_word (m := ⟨8, 1⟩) (meth := k8m1) (c := k8c1) (by decide +kernel) rfl rfl rfl (by decide +kernel)
set_option maxRecDepth 65536 in
theorem w_c8 : (Jvm.Cond.code ({ cls := "com/example/ianus/ianus/server/ResourcePaths", name := "baseEnd", desc := "(Ljava/lang/String;I)I" } : Jvm.MethodName) prog_19_method_4_code (5 : Nat) (Option.some Jvm.ClassFile.FieldType.int)).before args0 about1 = true := code_word (m := ⟨9, 1⟩) (meth := k9m1) (c := k9c1) (by decide +kernel) rfl rfl rfl (by decide +kernel)
set_option maxRecDepth 65536 in
theorem w_c9 : (Jvm.Cond.code ({ cls := "java/lang/String", name := "indexOf", desc := "(II)I" } : Jvm.MethodName) jdk_42_method_80_code (3 : Nat) (Option.some Jvm.ClassFile.FieldType.int)).before args0 about1 = true := code_word (m := ⟨7, 3⟩) (meth := k7m3) (c := k7c3) (by decide +kernel) rfl rfl rfl (by decide +kernel)
set_option maxRecDepth 65536 in
theorem w_c10 : (Jvm.Cond.code ({ cls := "java/lang/String", name := "isLatin1", desc := "()Z" } : Jvm.MethodName) jdk_42_method_154_code (1 : Nat) (Option.some Jvm.ClassFile.FieldType.boolean)).before args0 about1 = true := code_word (m := ⟨7, 6⟩) (meth := k7m6) (c := k7c6) (by decide +kernel) rfl rfl rfl (by decide +kernel)
set_option maxRecDepth 65536 in
theorem w_c11 : (Jvm.Cond.code ({ cls := "java/lang/String", name := "length", desc := "()I" } : Jvm.MethodName) jdk_42_method_54_code (1 : Nat) (Option.some Jvm.ClassFile.FieldType.int)).before args0 about1 = true := code_word (m := ⟨7, 2⟩) (meth := k7m2) (c := k7c2) (by decide +kernel) rfl rfl rfl (by decide +kernel)
set_option maxRecDepth 65536 in
theorem w_c12 : (Jvm.Cond.code ({ cls := "java/lang/String", name := "coder", desc := "()B" } : Jvm.MethodName) jdk_42_method_152_code (1 : Nat) (Option.some Jvm.ClassFile.FieldType.byte)).before args0 about1 = true := code_word (m := ⟨7, 5⟩) (meth := k7m5) (c := k7c5) (by decide +kernel) rfl rfl rfl (by decide +kernel)
set_option maxRecDepth 65536 in
theorem w_c13 : (Jvm.Cond.code ({ cls := "java/lang/StringLatin1", name := "indexOf", desc := "([BIII)I" } : Jvm.MethodName) jdk_43_method_22_code (4 : Nat) (Option.some Jvm.ClassFile.FieldType.int)).before args0 about1 = true := code_word (m := ⟨10, 2⟩) (meth := k10m2) (c := k10c2) (by decide +kernel) rfl rfl rfl (by decide +kernel)
set_option maxRecDepth 65536 in
theorem w_c14 : (Jvm.Cond.code ({ cls := "java/lang/StringLatin1", name := "canEncode", desc := "(I)Z" } : Jvm.MethodName) jdk_43_method_4_code (1 : Nat) (Option.some Jvm.ClassFile.FieldType.boolean)).before args0 about1 = true := code_word (m := ⟨10, 1⟩) (meth := k10m1) (c := k10c1) (by decide +kernel) rfl rfl rfl (by decide +kernel)
set_option maxRecDepth 65536 in
theorem w_c15 : (Jvm.Cond.code ({ cls := "java/lang/Math", name := "max", desc := "(II)I" } : Jvm.MethodName) jdk_29_method_65_code (2 : Nat) (Option.some Jvm.ClassFile.FieldType.int)).before args0 about1 = true := code_word (m := ⟨11, 1⟩) (meth := k11m1) (c := k11c1) (by decide +kernel) rfl rfl rfl (by decide +kernel)
set_option maxRecDepth 65536 in
theorem w_c16 : (Jvm.Cond.code ({ cls := "java/lang/Math", name := "min", desc := "(II)I" } : Jvm.MethodName) jdk_29_method_69_code (2 : Nat) (Option.some Jvm.ClassFile.FieldType.int)).before args0 about1 = true := code_word (m := ⟨11, 2⟩) (meth := k11m2) (c := k11c2) (by decide +kernel) rfl rfl rfl (by decide +kernel)
set_option maxRecDepth 65536 in
theorem w_c17 : (Jvm.Cond.code ({ cls := "java/lang/StringLatin1", name := "indexOfChar", desc := "([BIII)I" } : Jvm.MethodName) jdk_43_method_23_code (6 : Nat) (Option.some Jvm.ClassFile.FieldType.int)).before args0 about1 = true := code_word (m := ⟨10, 3⟩) (meth := k10m3) (c := k10c3) (by decide +kernel) rfl rfl rfl (by decide +kernel)
def codes1 : List Jvm.Cond := [Jvm.Cond.code x code maxLocals ret, Jvm.Cond.code ({ cls := "com/example/ianus/ianus/server/ResourcePathsBaseEndPinLaw", name := "draw", desc := "(I)C" } : Jvm.MethodName) method_2_code (1 : Nat) (Option.some Jvm.ClassFile.FieldType.char), Jvm.Cond.code ({ cls := "java/lang/String", name := "<init>", desc := "([C)V" } : Jvm.MethodName) jdk_42_method_3_code (2 : Nat) (Option.none : Option Jvm.ClassFile.FieldType), Jvm.Cond.code ({ cls := "java/lang/String", name := "<init>", desc := "([CIILjava/lang/Void;)V" } : Jvm.MethodName) jdk_42_method_149_code (6 : Nat) (Option.none : Option Jvm.ClassFile.FieldType), Jvm.Cond.code ({ cls := "java/lang/Object", name := "<init>", desc := "()V" } : Jvm.MethodName) object_method_1_code (1 : Nat) (Option.none : Option Jvm.ClassFile.FieldType), Jvm.Cond.code ({ cls := "java/lang/StringUTF16", name := "compress", desc := "([CII)[B" } : Jvm.MethodName) jdk_52_method_16_code (6 : Nat) (Option.some (Jvm.ClassFile.FieldType.array Jvm.ClassFile.FieldType.byte)), Jvm.Cond.code ({ cls := "java/lang/StringUTF16", name := "compress", desc := "([CI[BII)I" } : Jvm.MethodName) jdk_52_method_21_code (7 : Nat) (Option.some Jvm.ClassFile.FieldType.int), Jvm.Cond.code ({ cls := "java/lang/StringUTF16", name := "coderFromArrayLen", desc := "([BI)B" } : Jvm.MethodName) jdk_52_method_15_code (2 : Nat) (Option.some Jvm.ClassFile.FieldType.byte), Jvm.Cond.code ({ cls := "com/example/ianus/ianus/server/ResourcePaths", name := "baseEnd", desc := "(Ljava/lang/String;I)I" } : Jvm.MethodName) prog_19_method_4_code (5 : Nat) (Option.some Jvm.ClassFile.FieldType.int), Jvm.Cond.code ({ cls := "java/lang/String", name := "indexOf", desc := "(II)I" } : Jvm.MethodName) jdk_42_method_80_code (3 : Nat) (Option.some Jvm.ClassFile.FieldType.int), Jvm.Cond.code ({ cls := "java/lang/String", name := "isLatin1", desc := "()Z" } : Jvm.MethodName) jdk_42_method_154_code (1 : Nat) (Option.some Jvm.ClassFile.FieldType.boolean), Jvm.Cond.code ({ cls := "java/lang/String", name := "length", desc := "()I" } : Jvm.MethodName) jdk_42_method_54_code (1 : Nat) (Option.some Jvm.ClassFile.FieldType.int), Jvm.Cond.code ({ cls := "java/lang/String", name := "coder", desc := "()B" } : Jvm.MethodName) jdk_42_method_152_code (1 : Nat) (Option.some Jvm.ClassFile.FieldType.byte), Jvm.Cond.code ({ cls := "java/lang/StringLatin1", name := "indexOf", desc := "([BIII)I" } : Jvm.MethodName) jdk_43_method_22_code (4 : Nat) (Option.some Jvm.ClassFile.FieldType.int), Jvm.Cond.code ({ cls := "java/lang/StringLatin1", name := "canEncode", desc := "(I)Z" } : Jvm.MethodName) jdk_43_method_4_code (1 : Nat) (Option.some Jvm.ClassFile.FieldType.boolean), Jvm.Cond.code ({ cls := "java/lang/Math", name := "max", desc := "(II)I" } : Jvm.MethodName) jdk_29_method_65_code (2 : Nat) (Option.some Jvm.ClassFile.FieldType.int), Jvm.Cond.code ({ cls := "java/lang/Math", name := "min", desc := "(II)I" } : Jvm.MethodName) jdk_29_method_69_code (2 : Nat) (Option.some Jvm.ClassFile.FieldType.int), Jvm.Cond.code ({ cls := "java/lang/StringLatin1", name := "indexOfChar", desc := "([BIII)I" } : Jvm.MethodName) jdk_43_method_23_code (6 : Nat) (Option.some Jvm.ClassFile.FieldType.int)]
set_option maxRecDepth 65536 in
theorem codes_eq : words1.filter isCode = codes1 := rfl
theorem w_codes : ∀ c ∈ words1.filter isCode, c.before args0 about1 = true := by
  rw [codes_eq]
  intro c hc
  simp only [codes1, List.mem_cons, List.not_mem_nil, or_false] at hc
  rcases hc with rfl | rfl | rfl | rfl | rfl | rfl | rfl | rfl | rfl | rfl | rfl | rfl | rfl | rfl | rfl | rfl | rfl | rfl
  · exact w_c0
  · exact w_c1
  · exact w_c2
  · exact w_c3
  · exact w_c4
  · exact w_c5
  · exact w_c6
  · exact w_c7
  · exact w_c8
  · exact w_c9
  · exact w_c10
  · exact w_c11
  · exact w_c12
  · exact w_c13
  · exact w_c14
  · exact w_c15
  · exact w_c16
  · exact w_c17
set_option maxRecDepth 65536 in
theorem w_t1 : (words1.take 24).all (fun c => isCode c || c.before args0 about1) = true := by decide +kernel
set_option maxRecDepth 65536 in
theorem w_t2 : ((words1.drop 24).take 24).all (fun c => isCode c || c.before args0 about1) = true := by decide +kernel
set_option maxRecDepth 65536 in
theorem w_t3 : (((words1.drop 24).drop 24).take 24).all (fun c => isCode c || c.before args0 about1) = true := by decide +kernel
set_option maxRecDepth 65536 in
theorem w_t4 : (((words1.drop 24).drop 24).drop 24).all (fun c => isCode c || c.before args0 about1) = true := by decide +kernel
theorem w_tables : (allAtoms (Jvm.Cond.code x code maxLocals ret :: tables_1)).before args0 about1 = true := by
  rw [allAtoms_all]
  show words1.all (fun c => c.before args0 about1) = true
  refine all_split ?_ w_codes
  rw [← List.take_append_drop 24 words1, List.all_append, w_t1, ← List.take_append_drop 24 (words1.drop 24), List.all_append, w_t2, ← List.take_append_drop 24 ((words1.drop 24).drop 24), List.all_append, w_t3, w_t4]
  rfl
set_option maxRecDepth 65536 in
theorem w_rest : rest_1_c.before args0 about1 = true := by decide +kernel
set_option maxRecDepth 65536 in
theorem w_case : (Jvm.Cond.and given_1 narrow_1).before args0 about1 = true := by decide +kernel
theorem w_applies : (headSpec (Jvm.Cond.code x code maxLocals ret :: tables_1) room_1).applies x e0.platform about1 = true :=
  (Spec.applies_iff w_frames).mpr ⟨w_running, w_runnable, w_alone, w_named, w_hears, w_ripe, w_room, w_tables⟩
theorem atStart : AtStart classFile x code maxLocals ret World_1 tables_1 room_1 Calls_1 rest_1 Pre_1 launch0 p0 e0 about1 theMethod args0 below0 :=
  ⟨lists_1, trivial, launch0.admits_env _ _ _, launch0.least_env, fairChoices_fair.cas, fairChoices_fair.clock, w_frames, w_args, w_heap, w_applies, trivial, w_rest, w_case⟩
end start1
theorem witness_1 : WitnessClaimed_1 := ⟨start1.p0, start1.e0, start1.about1, start1.theMethod, start1.args0, start1.below0, start1.atStart⟩
end Jvm.Pilot.@@N@@
