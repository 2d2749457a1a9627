import JvmDerived
import JvmDerived.Pilot.@@N@@Statement
import JvmDerived.Pilot.@@N@@Code
set_option linter.unusedVariables false
set_option linter.unusedSimpArgs false
namespace Jvm.Pilot.@@N@@
open Jvm Jvm.ClassFile Sem Op Lib Jvm.Free Jvm.Stand Jvm.LawKit Jvm.RoadKit Bundle Jvm.Pilot.@@N@@.Jvm.D
def own_Kq (s : State) (Q : Option Value → Heap → List Loc → Prop) (cl sl : Nat) (o : Outcome) (U : State) : Prop := ∃ v L, o = .returned v ∧ Q v U.heap L ∧ FrameEnd s o U L cl sl
def OGo (tb : Tables) (e : Env) (below : List Frame) (K : Outcome → State → Prop) (U : State) : Prop := ∃ s₂ o, Steps tb e below U s₂ ∧ s₂.status = .running ∧ Ended s₂ below o ∧ K o s₂
section Own
variable {p : Program} {l : Launch} {e : Env} {R : Room} {s : State} {m : MethodId} {args : Array Value} {below : List Frame} {meth : Method} {c : Code} {T : State} {locs : List Loc} {cells slots : Nat} {tb : Tables} {K : Outcome → State → Prop} {Q : Option Value → Heap → List Loc → Prop} {cl sl : Nat}
theorem OGo.via {U U' : State} (st : ∀ t, Steps tb e below U' t → Steps tb e below U t) (k : OGo tb e below K U') : OGo tb e below K U := by
  obtain ⟨s₂, o, h, r⟩ := k; exact ⟨s₂, o, st _ h, r⟩
theorem OGo.cast {g g' : JFrame} (q : g = g') (k : OGo tb e below K (T.setTop g')) : OGo tb e below K (T.setTop g) := q ▸ k
theorem own_w {Z : State} {a0 : Array Value} (hw : ∀ d ∈ tables_1, d.before a0 Z = true) (i : Nat) {d : Jvm.Cond} (h : tables_1[i]? = some d) : d.before a0 Z = true := hw d (List.mem_of_getElem? h)
theorem own_staKeep0 {Z : State} {h h' : Heap} {C n d : String} {v : Value} (F : Sta Z h C n d v) (K : Keep h h' []) : Sta Z h' C n d v := by
  obtain ⟨cf, i, k, f, st, cell, h1, h2, h3, h4, h5, r⟩ := F; exact ⟨cf, i, k, f, st, cell, h1, h2, h3, h4, K.2.1 _ _ h5 nin0, r⟩
theorem own_irr (x : Int32) : ¬ x < x := Int32.lt_irrefl
theorem own_stepI (X : Stand p l e R s m args below meth c T locs cells slots) (hx : p.tables.exec = Jvm.exec) {pc : Nat} {Ls : Array Slot} {z : Int32} {rest : List Value} (hret : meth.sig.returnType = some .int) (hd : decode c.code pc = .ok (.ireturn, 1)) {fs : List Frame}
    (hl : ∀ (f : JFrame) (acts : List Action), f.method = m → f.locked = none → f.entered = [] → (doReturn e (T.setTop f) acts (some (.int z))).1 = T.setFrames fs) : Steps p.tables e below (T.setTop (mkF m pc Ls (.int z :: rest))) (T.setFrames fs) := by
  have hm' : T.vm.method? m = some meth := X.method'
  have hn : narrow .int (.int z) = .int z := rfl
  show Steps p.tables e below (T.setTop { method := m, pc := pc, locals := Ls, stack := _ :: rest, locked := none }) _
  jvm_step X.here [X.here.top, hx, hd, hm', hret, hn]
  first | (intro acts; rw [hl _ acts rfl rfl rfl]) | rw [hl _ _ rfl rfl rfl]
  exact Steps.refl _
theorem own_retI (X : Stand p l e R s m args below meth c T locs cells slots) (hx : p.tables.exec = Jvm.exec) (hk : meth.locks = false) (hret : meth.sig.returnType = some .int) {pc : Nat} {Ls : Array Slot} {z : Int32} {rest : List Value} (hd : decode c.code pc = .ok (.ireturn, 1)) (hc : cells ≤ cl) (hs : slots ≤ sl) (hQ : Q (some (.int z)) T.heap locs) :
    OGo p.tables e below (own_Kq s Q cl sl) (T.setTop (mkF m pc Ls (.int z :: rest))) := by
  obtain ⟨fs, hr, hrun, hended, hW, hsame⟩ := X.leave (v := some (.int z)) (fun h => by rw [hret] at h; cases h) hk
  exact ⟨_, _, own_stepI X hx hret hd hr, hrun, hended, _, _, rfl, hQ, ⟨_, rfl⟩, hW, hsame.mono hc hs⟩
theorem own_retN {t : FieldType} (ht : t = .boolean ∨ t = .byte ∨ t = .char ∨ t = .short) (X : Stand p l e R s m args below meth c T locs cells slots) (hx : p.tables.exec = Jvm.exec) (hk : meth.locks = false) (hret : meth.sig.returnType = some t) {pc : Nat} {Ls : Array Slot} {z : Int32} {rest : List Value} (hd : decode c.code pc = .ok (.ireturn, 1)) (hc : cells ≤ cl) (hs : slots ≤ sl) (hQ : Q (some (.int (nar t z))) T.heap locs) :
    OGo p.tables e below (own_Kq s Q cl sl) (T.setTop (mkF m pc Ls (.int z :: rest))) := by
  obtain ⟨fs, hr, hrun, hended, hW, hsame⟩ := X.leave (v := some (.int (nar t z))) (fun h => by rw [hret] at h; cases h) hk
  exact ⟨_, _, retN X hx hret ht hd hr, hrun, hended, _, _, rfl, hQ, ⟨_, rfl⟩, hW, hsame.mono hc hs⟩
theorem own_retL (X : Stand p l e R s m args below meth c T locs cells slots) (hx : p.tables.exec = Jvm.exec) (hk : meth.locks = false) (hret : meth.sig.returnType = some .long) {pc : Nat} {Ls : Array Slot} {z : Int64} (hd : decode c.code pc = .ok (.lreturn, 1)) (hc : cells ≤ cl) (hs : slots ≤ sl) (hQ : Q (some (.long z)) T.heap locs) :
    OGo p.tables e below (own_Kq s Q cl sl) (T.setTop (mkF m pc Ls [.long z])) := by
  obtain ⟨fs, hr, hrun, hended, hW, hsame⟩ := X.leave (v := some (.long z)) (fun h => by rw [hret] at h; cases h) hk
  exact ⟨_, _, X.lreturnOut hx hret hd hr, hrun, hended, _, _, rfl, hQ, ⟨_, rfl⟩, hW, hsame.mono hc hs⟩
theorem own_retA {t : FieldType} (X : Stand p l e R s m args below meth c T locs cells slots) (hx : p.tables.exec = Jvm.exec) (hk : meth.locks = false) (hret : meth.sig.returnType = some t) {pc : Nat} {Ls : Array Slot} {w : Value} (hw : w.isRef = true) (ht : t.isReference = true) (hd : decode c.code pc = .ok (.areturn, 1)) (hc : cells ≤ cl) (hs : slots ≤ sl) (hQ : Q (some w) T.heap locs) :
    OGo p.tables e below (own_Kq s Q cl sl) (T.setTop (mkF m pc Ls [w])) := by
  obtain ⟨fs, hr, hrun, hended, hW, hsame⟩ := X.leave (v := some w) (fun h => by rw [hret] at h; cases h) hk
  exact ⟨_, _, X.areturnOut hx hw hret ht hd hr, hrun, hended, _, _, rfl, hQ, ⟨_, rfl⟩, hW, hsame.mono hc hs⟩
theorem own_retV (X : Stand p l e R s m args below meth c T locs cells slots) (hx : p.tables.exec = Jvm.exec) (hk : meth.locks = false) (hret : meth.sig.returnType = none) {pc : Nat} {Ls : Array Slot} (hd : decode c.code pc = .ok (.return_, 1)) (hc : cells ≤ cl) (hs : slots ≤ sl) (hQ : Q none T.heap locs) :
    OGo p.tables e below (own_Kq s Q cl sl) (T.setTop (mkF m pc Ls [])) := by
  obtain ⟨fs, hr, hrun, hended, hW, hsame⟩ := X.leave (v := none) (fun _ => rfl) hk
  exact ⟨_, _, X.returnOut hx hret hd hr, hrun, hended, _, _, rfl, hQ, ⟨_, rfl⟩, hW, hsame.mono hc hs⟩
end Own
theorem own_open {p : Program} {l : Launch} {e : Env} {R : Room} {s : State} {m : MethodId} {args : Array Value} {below : List Frame} {meth : Method} {c : Code} {T : State} {locs : List Loc} {cells slots rc rs : Nat} (X : Stand p l e R s m args below meth c T locs cells slots) {Qp : Option Value → Pt → List Loc → Prop} {S : Option Value → Pt → Prop}
    (h : ∃ (v : Option Value) (vm₁ : Vm) (B : Pt), s.WarmedH vm₁ ∧ Stand p l e R s m args below meth c B.U B.locs B.cells B.slots ∧ (∃ L, Qp v B L ∧ B.locs = locs ++ L ∧ B.cells = cells + rc ∧ B.slots = slots + rs) ∧ S v B) :
    ∃ (v : Option Value) (T' : State) (L : List Loc), Stand p l e R s m args below meth c T' (locs ++ L) (cells + rc) (slots + rs) ∧ Qp v (T', locs ++ L, cells + rc, slots + rs) L ∧ S v (T', locs ++ L, cells + rc, slots + rs) := by
  obtain ⟨v, vm₁, ⟨T', L', k', n'⟩, -, X, ⟨L, hQ, hl, hk, hn⟩, hs⟩ := h
  dsimp only [Pt.U, Pt.locs, Pt.cells, Pt.slots] at X hl hk hn
  subst hl hk hn
  exact ⟨v, T', L, X, hQ, hs⟩
def own_St {p : Program} {l : Launch} {e : Env} {R : Room} {s : State} {m : MethodId} {args : Array Value} {below : List Frame} {meth : Method} {c : Code} {T : State} {locs : List Loc} {cells slots : Nat} (_ : Stand p l e R s m args below meth c T locs cells slots) (n0 : Nat) (T' : State) : Prop := ∃ locs', Stand p l e R s m args below meth c T' locs' cells slots ∧ Fr n0 locs'
def OJn {α : Type} (tb : Tables) (e : Env) (below : List Frame) (P : State → α → Prop) (tgt : α → JFrame) (U : State) : Prop := ∃ T' v, P T' v ∧ ∀ t, Steps tb e below (T'.setTop (tgt v)) t → Steps tb e below U t
theorem OJn.via {α : Type} {tb : Tables} {e : Env} {below : List Frame} {P : State → α → Prop} {tgt : α → JFrame} {U U' : State} (st : ∀ t, Steps tb e below U' t → Steps tb e below U t) (k : OJn tb e below P tgt U') : OJn tb e below P tgt U := by
  obtain ⟨T', v, h, r⟩ := k; exact ⟨T', v, h, fun t q => st _ (r _ q)⟩
abbrev own_y0 : MethodName := ⟨"com/example/fetch_pages/fetchpages/db/ColumnType", "of", "(I)Lcom/example/fetch_pages/fetchpages/db/ColumnType;"⟩
abbrev own_y1 : MethodName := ⟨"com/example/fetch_pages/fetchpages/db/ColumnTypeOfPinLaw", "expected", "(I)Lcom/example/fetch_pages/fetchpages/db/ColumnType;"⟩
theorem own_lsw {tb : Tables} [Ours tb] {e : Env} {below : List Frame} {T target : State} {m : MethodId} {c : Code} {g : JFrame} (h : At T m c below) (hx : tb.exec = Jvm.exec) (hg : g.method = m) {dflt : Int} {pairs : Array (Int × Int)} {len : Nat} {o : Int} {pc0 pc' : Nat} (hpc : g.pc = pc0) (hd : decode c.code g.pc = .ok (.lookupswitch dflt pairs, len)) {i : Int32} {rest : List Value} (hs : g.stack = .int i :: rest)
    (hsorted : (pairs.toList.zip (pairs.toList.drop 1)).all (fun (a, next) => a.1 < next.1) = true) (hoff : lookupswitch.offset pairs.toList dflt i.toInt = o) (ho : 0 ≤ (pc0 : Int) + o) (hp : ((pc0 : Int) + o).toNat = pc')
    (hr : Steps tb e below (T.setTop { g with pc := pc', stack := rest }) target) : Steps tb e below (T.setTop g) target := by
  subst hg hpc hp hoff
  jvm_step h [h.top, hx, hd, hs, ho, lookupswitch.wp_chain]
  exact ⟨by simpa using hsorted, hr⟩

def own_col (t : Int32) (w0 : Addr) (w1 : Addr) (w2 : Addr) (w3 : Addr) (w4 : Addr) (w5 : Addr) (w6 : Addr) (w7 : Addr) (w8 : Addr) (w9 : Addr) : Addr := if t = (-6 : Int32) ∨ t = (5 : Int32) ∨ t = (4 : Int32) then w0 else if t = (-5 : Int32) then w1 else if t = (7 : Int32) ∨ t = (6 : Int32) ∨ t = (8 : Int32) then w2 else if t = (2 : Int32) ∨ t = (3 : Int32) then w3 else if t = (-7 : Int32) ∨ t = (16 : Int32) then w4 else if t = (91 : Int32) then w5 else if t = (92 : Int32) ∨ t = (2013 : Int32) then w6 else if t = (93 : Int32) ∨ t = (2014 : Int32) then w7 else if t = (-2 : Int32) ∨ t = (-3 : Int32) ∨ t = (-4 : Int32) ∨ t = (2004 : Int32) then w8 else w9
theorem own_ieq (x y : Int32) : (y.toInt = x.toInt) ↔ (x = y) := ⟨fun h => (Int32.toInt_inj.mp h).symm, fun h => h ▸ rfl⟩
theorem own_and31 (x : Int32) : ¬ (x &&& 31) < 0 ∧ (x &&& 31) < 32 := by
  have h := c_and x 31 (by decide)
  rw [Int32.lt_iff_toInt_lt, Int32.lt_iff_toInt_lt]
  have a : (0 : Int32).toInt = 0 := rfl
  have b : (32 : Int32).toInt = 32 := rfl
  have d : (31 : Int32).toInt = 31 := rfl
  omega
theorem own_getInt (xs : List Int32) : ∀ i : Nat, (xs.map Value.int).getD i (.int (0 : Int32)) = .int (xs.getD i 0) := by
  induction xs with
  | nil => intro i; simp
  | cons x xs ih => intro i; cases i with
    | zero => simp
    | succ i => simpa using ih i
theorem own_getX (vs : List Value) (xs : List Int32) (e : vs = xs.map Value.int) (i : Nat) : ∃ x : Int32, vs.getD i (.int (0 : Int32)) = .int x := ⟨xs.getD i 0, by rw [e]; exact own_getInt xs i⟩
theorem d1_0 : decode prog_4_method_5_code 0 = .ok (.iload_n 0, 1) := by decide +kernel
theorem d1_1 : decode prog_4_method_5_code 1 = .ok (.lookupswitch 225 #[((-7), 195), ((-6), 171), ((-5), 177), ((-4), 219), ((-3), 219), ((-2), 219), (2, 189), (3, 189), (4, 171), (5, 171), (6, 183), (7, 183), (8, 183), (16, 195), (91, 201), (92, 207), (93, 213), (2004, 219), (2013, 207), (2014, 213)], 171) := by decide +kernel
theorem d1_196 : decode prog_4_method_5_code 196 = .ok (.getstatic 19, 3) := by decide +kernel
theorem d1_199 : decode prog_4_method_5_code 199 = .ok (.goto 30, 3) := by decide +kernel
theorem d1_229 : decode prog_4_method_5_code 229 = .ok (.areturn, 1) := by decide +kernel
theorem d1_172 : decode prog_4_method_5_code 172 = .ok (.getstatic 3, 3) := by decide +kernel
theorem d1_175 : decode prog_4_method_5_code 175 = .ok (.goto 54, 3) := by decide +kernel
theorem d1_178 : decode prog_4_method_5_code 178 = .ok (.getstatic 7, 3) := by decide +kernel
theorem d1_181 : decode prog_4_method_5_code 181 = .ok (.goto 48, 3) := by decide +kernel
theorem d1_220 : decode prog_4_method_5_code 220 = .ok (.getstatic 31, 3) := by decide +kernel
theorem d1_223 : decode prog_4_method_5_code 223 = .ok (.goto 6, 3) := by decide +kernel
theorem d1_190 : decode prog_4_method_5_code 190 = .ok (.getstatic 13, 3) := by decide +kernel
theorem d1_193 : decode prog_4_method_5_code 193 = .ok (.goto 36, 3) := by decide +kernel
theorem d1_184 : decode prog_4_method_5_code 184 = .ok (.getstatic 10, 3) := by decide +kernel
theorem d1_187 : decode prog_4_method_5_code 187 = .ok (.goto 42, 3) := by decide +kernel
theorem d1_202 : decode prog_4_method_5_code 202 = .ok (.getstatic 22, 3) := by decide +kernel
theorem d1_205 : decode prog_4_method_5_code 205 = .ok (.goto 24, 3) := by decide +kernel
theorem d1_208 : decode prog_4_method_5_code 208 = .ok (.getstatic 25, 3) := by decide +kernel
theorem d1_211 : decode prog_4_method_5_code 211 = .ok (.goto 18, 3) := by decide +kernel
theorem d1_214 : decode prog_4_method_5_code 214 = .ok (.getstatic 28, 3) := by decide +kernel
theorem d1_217 : decode prog_4_method_5_code 217 = .ok (.goto 12, 3) := by decide +kernel
theorem d1_226 : decode prog_4_method_5_code 226 = .ok (.getstatic 16, 3) := by decide +kernel
theorem pn_ColumnType : plainName "com/example/fetch_pages/fetchpages/db/ColumnType" = true := by first | (simp [plainName, overriddenIn]; done) | decide +kernel
theorem ef_rm1 (m : MethodId) (p1 : Int32) : entryFrame m #[(.int p1)] 1 = mkF m 0 #[.val (.int p1)] [] := by first | (simp [entryFrame, mkF, argsToLocals, Value.category]; done) | rfl
def Q_rm1 (Z : State) (p1 : Int32) (w0 : Addr) (w1 : Addr) (w2 : Addr) (w3 : Addr) (w4 : Addr) (w5 : Addr) (w6 : Addr) (w7 : Addr) (w8 : Addr) (w9 : Addr) (h0 : Heap) (n0 : Nat) (v : Option Value) (h : Heap) (L : List Loc) : Prop := v = some (.ref (own_col p1 w0 w1 w2 w3 w4 w5 w6 w7 w8 w9)) ∧ Fr n0 L ∧ h = h0
set_option maxRecDepth 65536 in
set_option maxHeartbeats 40000000 in
theorem rm1 (l : Launch) (Z : State) (a0 : Array Value) (hw : ∀ d ∈ tables_1, d.before a0 Z = true) (ws : List Jvm.Cond) (p1 : Int32) (w0 : Addr) (w1 : Addr) (w2 : Addr) (w3 : Addr) (w4 : Addr) (w5 : Addr) (w6 : Addr) (w7 : Addr) (w8 : Addr) (w9 : Addr) (h0 : Heap) (n0 : Nat) (Z0 : n0 ≤ h0.size) (S_INTEGER : Sta Z h0 "com/example/fetch_pages/fetchpages/db/ColumnType" "INTEGER" "Lcom/example/fetch_pages/fetchpages/db/ColumnType;" (.ref w0)) (S_LONG : Sta Z h0 "com/example/fetch_pages/fetchpages/db/ColumnType" "LONG" "Lcom/example/fetch_pages/fetchpages/db/ColumnType;" (.ref w1)) (S_DOUBLE : Sta Z h0 "com/example/fetch_pages/fetchpages/db/ColumnType" "DOUBLE" "Lcom/example/fetch_pages/fetchpages/db/ColumnType;" (.ref w2)) (S_DECIMAL : Sta Z h0 "com/example/fetch_pages/fetchpages/db/ColumnType" "DECIMAL" "Lcom/example/fetch_pages/fetchpages/db/ColumnType;" (.ref w3)) (S_BOOLEAN : Sta Z h0 "com/example/fetch_pages/fetchpages/db/ColumnType" "BOOLEAN" "Lcom/example/fetch_pages/fetchpages/db/ColumnType;" (.ref w4)) (S_DATE : Sta Z h0 "com/example/fetch_pages/fetchpages/db/ColumnType" "DATE" "Lcom/example/fetch_pages/fetchpages/db/ColumnType;" (.ref w5)) (S_TIME : Sta Z h0 "com/example/fetch_pages/fetchpages/db/ColumnType" "TIME" "Lcom/example/fetch_pages/fetchpages/db/ColumnType;" (.ref w6)) (S_TIMESTAMP : Sta Z h0 "com/example/fetch_pages/fetchpages/db/ColumnType" "TIMESTAMP" "Lcom/example/fetch_pages/fetchpages/db/ColumnType;" (.ref w7)) (S_BINARY : Sta Z h0 "com/example/fetch_pages/fetchpages/db/ColumnType" "BINARY" "Lcom/example/fetch_pages/fetchpages/db/ColumnType;" (.ref w8)) (S_STRING : Sta Z h0 "com/example/fetch_pages/fetchpages/db/ColumnType" "STRING" "Lcom/example/fetch_pages/fetchpages/db/ColumnType;" (.ref w9)) :
    MetFree l own_y0 (head1 (Jvm.Cond.code own_y0 prog_4_method_5_code 1 (some (.object "com/example/fetch_pages/fetchpages/db/ColumnType")) :: ws) ({ frames := 0, cells := 0, slots := 0, locals := 0 } : Room)) (fun a U => a = #[(.int p1)] ∧ Z.Warmed39 U.vm ∧ U.heap = h0) (fun _ _ _ _ _ => True) (fun _ U o U' => ∃ v L, o = .returned v ∧ Q_rm1 Z p1 w0 w1 w2 w3 w4 w5 w6 w7 w8 w9 h0 n0 v U'.heap L ∧ FrameEnd U o U' L ({ frames := 0, cells := 0, slots := 0, locals := 0 } : Room).cells ({ frames := 0, cells := 0, slots := 0, locals := 0 } : Room).slots) := by
  refine MetFree.of_bodySF (plainFor_of_name pn_ColumnType) hisR ?_
  intro p e s m args below meth c s₁ Bd hml0 hP hK
  obtain ⟨rfl, hZ, hh⟩ := hP
  have hx := Bd.exec
  have hby := Bd.bytes
  have hml : c.maxLocals = 1 := hml0
  have hown : s.vm.findClass "com/example/fetch_pages/fetchpages/db/ColumnType" = some m.cls := findClass_of_methodNamed Bd.named
  have hnm := (name_of_methodNamed Bd.named Bd.method).1
  have X0 : Stand p l e ({ frames := 0, cells := 0, slots := 0, locals := 0 } : Room) s m #[(.int p1)] below meth c s₁ [] 0 0 := Stand.of_body Bd
  have e0 : s₁.heap = h0 := by rw [← hh, Bd.state]; rfl
  have N0 := Fr.nil n0
  show OGo p.tables e below (own_Kq s (fun v h L => Q_rm1 Z p1 w0 w1 w2 w3 w4 w5 w6 w7 w8 w9 h0 n0 v h L) ({ frames := 0, cells := 0, slots := 0, locals := 0 } : Room).cells ({ frames := 0, cells := 0, slots := 0, locals := 0 } : Room).slots) (s₁.setTop (entryFrame m #[(.int p1)] 1))
  refine OGo.cast (ef_rm1 m p1) ?_
  show OGo _ _ _ _ (s₁.setTop (mkF m 0 #[.val (.int p1)] []))
  refine OGo.via (fun _ k => XS.iloadN X0.here hx rfl (hb hby d1_0) rfl k) ?_
  by_cases hs1_1 : p1 = (-7 : Int32)
  · refine OGo.via (fun _ k => own_lsw X0.here hx rfl (pc0 := 1) (pc' := 196) (o := 195) rfl (hb hby d1_1) rfl (by decide) (by rw [hs1_1]; rfl) (by decide) (by decide) k) ?_
    show OGo _ _ _ _ (s₁.setTop (mkF m 196 #[.val (.int p1)] []))
    obtain ⟨T2, X2, e2, st2⟩ := getS2 X0 hx hZ hown (host := "") (Or.inl (own_w hw 27 rfl)) Via.refl e0 S_BOOLEAN (g := (mkF m 196 #[.val (.int p1)] [])) rfl (hb hby d1_196)
    refine OGo.via st2 ?_
    show OGo _ _ _ _ (T2.setTop (mkF m 199 #[.val (.int p1)] [(.ref w4)]))
    refine OGo.via (fun _ k => XS.goto X2.here hx rfl (pc0 := 199) (pc' := 229) rfl (hb hby d1_199) (by decide) (by decide) k) ?_
    show OGo _ _ _ _ (T2.setTop (mkF m 229 #[.val (.int p1)] [(.ref w4)]))
    refine own_retA X2 hx Bd.notSynchronized Bd.returns rfl rfl (hb hby d1_229) (by decide) (by decide) ?_
    show Q_rm1 Z _ _ _ _ _ _ _ _ _ _ _ h0 n0 _ T2.heap _
    exact ⟨(by simp [own_col, hs1_1]), N0, e2⟩
  · by_cases hs1_3 : p1 = (-6 : Int32)
    · refine OGo.via (fun _ k => own_lsw X0.here hx rfl (pc0 := 1) (pc' := 172) (o := 171) rfl (hb hby d1_1) rfl (by decide) (by rw [hs1_3]; rfl) (by decide) (by decide) k) ?_
      show OGo _ _ _ _ (s₁.setTop (mkF m 172 #[.val (.int p1)] []))
      obtain ⟨T4, X4, e4, st4⟩ := getS2 X0 hx hZ hown (host := "") (Or.inl (own_w hw 5 rfl)) Via.refl e0 S_INTEGER (g := (mkF m 172 #[.val (.int p1)] [])) rfl (hb hby d1_172)
      refine OGo.via st4 ?_
      show OGo _ _ _ _ (T4.setTop (mkF m 175 #[.val (.int p1)] [(.ref w0)]))
      refine OGo.via (fun _ k => XS.goto X4.here hx rfl (pc0 := 175) (pc' := 229) rfl (hb hby d1_175) (by decide) (by decide) k) ?_
      show OGo _ _ _ _ (T4.setTop (mkF m 229 #[.val (.int p1)] [(.ref w0)]))
      refine own_retA X4 hx Bd.notSynchronized Bd.returns rfl rfl (hb hby d1_229) (by decide) (by decide) ?_
      show Q_rm1 Z _ _ _ _ _ _ _ _ _ _ _ h0 n0 _ T4.heap _
      exact ⟨(by simp [own_col, hs1_1, hs1_3]), N0, e4⟩
    · by_cases hs1_5 : p1 = (-5 : Int32)
      · refine OGo.via (fun _ k => own_lsw X0.here hx rfl (pc0 := 1) (pc' := 178) (o := 177) rfl (hb hby d1_1) rfl (by decide) (by rw [hs1_5]; rfl) (by decide) (by decide) k) ?_
        show OGo _ _ _ _ (s₁.setTop (mkF m 178 #[.val (.int p1)] []))
        obtain ⟨T6, X6, e6, st6⟩ := getS2 X0 hx hZ hown (host := "") (Or.inl (own_w hw 21 rfl)) Via.refl e0 S_LONG (g := (mkF m 178 #[.val (.int p1)] [])) rfl (hb hby d1_178)
        refine OGo.via st6 ?_
        show OGo _ _ _ _ (T6.setTop (mkF m 181 #[.val (.int p1)] [(.ref w1)]))
        refine OGo.via (fun _ k => XS.goto X6.here hx rfl (pc0 := 181) (pc' := 229) rfl (hb hby d1_181) (by decide) (by decide) k) ?_
        show OGo _ _ _ _ (T6.setTop (mkF m 229 #[.val (.int p1)] [(.ref w1)]))
        refine own_retA X6 hx Bd.notSynchronized Bd.returns rfl rfl (hb hby d1_229) (by decide) (by decide) ?_
        show Q_rm1 Z _ _ _ _ _ _ _ _ _ _ _ h0 n0 _ T6.heap _
        exact ⟨(by simp [own_col, hs1_1, hs1_3, hs1_5]), N0, e6⟩
      · by_cases hs1_7 : p1 = (-4 : Int32)
        · refine OGo.via (fun _ k => own_lsw X0.here hx rfl (pc0 := 1) (pc' := 220) (o := 219) rfl (hb hby d1_1) rfl (by decide) (by rw [hs1_7]; rfl) (by decide) (by decide) k) ?_
          show OGo _ _ _ _ (s₁.setTop (mkF m 220 #[.val (.int p1)] []))
          obtain ⟨T8, X8, e8, st8⟩ := getS2 X0 hx hZ hown (host := "") (Or.inl (own_w hw 30 rfl)) Via.refl e0 S_BINARY (g := (mkF m 220 #[.val (.int p1)] [])) rfl (hb hby d1_220)
          refine OGo.via st8 ?_
          show OGo _ _ _ _ (T8.setTop (mkF m 223 #[.val (.int p1)] [(.ref w8)]))
          refine OGo.via (fun _ k => XS.goto X8.here hx rfl (pc0 := 223) (pc' := 229) rfl (hb hby d1_223) (by decide) (by decide) k) ?_
          show OGo _ _ _ _ (T8.setTop (mkF m 229 #[.val (.int p1)] [(.ref w8)]))
          refine own_retA X8 hx Bd.notSynchronized Bd.returns rfl rfl (hb hby d1_229) (by decide) (by decide) ?_
          show Q_rm1 Z _ _ _ _ _ _ _ _ _ _ _ h0 n0 _ T8.heap _
          exact ⟨(by simp [own_col, hs1_1, hs1_3, hs1_5, hs1_7]), N0, e8⟩
        · by_cases hs1_9 : p1 = (-3 : Int32)
          · refine OGo.via (fun _ k => own_lsw X0.here hx rfl (pc0 := 1) (pc' := 220) (o := 219) rfl (hb hby d1_1) rfl (by decide) (by rw [hs1_9]; rfl) (by decide) (by decide) k) ?_
            show OGo _ _ _ _ (s₁.setTop (mkF m 220 #[.val (.int p1)] []))
            obtain ⟨T10, X10, e10, st10⟩ := getS2 X0 hx hZ hown (host := "") (Or.inl (own_w hw 30 rfl)) Via.refl e0 S_BINARY (g := (mkF m 220 #[.val (.int p1)] [])) rfl (hb hby d1_220)
            refine OGo.via st10 ?_
            show OGo _ _ _ _ (T10.setTop (mkF m 223 #[.val (.int p1)] [(.ref w8)]))
            refine OGo.via (fun _ k => XS.goto X10.here hx rfl (pc0 := 223) (pc' := 229) rfl (hb hby d1_223) (by decide) (by decide) k) ?_
            show OGo _ _ _ _ (T10.setTop (mkF m 229 #[.val (.int p1)] [(.ref w8)]))
            refine own_retA X10 hx Bd.notSynchronized Bd.returns rfl rfl (hb hby d1_229) (by decide) (by decide) ?_
            show Q_rm1 Z _ _ _ _ _ _ _ _ _ _ _ h0 n0 _ T10.heap _
            exact ⟨(by simp [own_col, hs1_1, hs1_3, hs1_5, hs1_7, hs1_9]), N0, e10⟩
          · by_cases hs1_11 : p1 = (-2 : Int32)
            · refine OGo.via (fun _ k => own_lsw X0.here hx rfl (pc0 := 1) (pc' := 220) (o := 219) rfl (hb hby d1_1) rfl (by decide) (by rw [hs1_11]; rfl) (by decide) (by decide) k) ?_
              show OGo _ _ _ _ (s₁.setTop (mkF m 220 #[.val (.int p1)] []))
              obtain ⟨T12, X12, e12, st12⟩ := getS2 X0 hx hZ hown (host := "") (Or.inl (own_w hw 30 rfl)) Via.refl e0 S_BINARY (g := (mkF m 220 #[.val (.int p1)] [])) rfl (hb hby d1_220)
              refine OGo.via st12 ?_
              show OGo _ _ _ _ (T12.setTop (mkF m 223 #[.val (.int p1)] [(.ref w8)]))
              refine OGo.via (fun _ k => XS.goto X12.here hx rfl (pc0 := 223) (pc' := 229) rfl (hb hby d1_223) (by decide) (by decide) k) ?_
              show OGo _ _ _ _ (T12.setTop (mkF m 229 #[.val (.int p1)] [(.ref w8)]))
              refine own_retA X12 hx Bd.notSynchronized Bd.returns rfl rfl (hb hby d1_229) (by decide) (by decide) ?_
              show Q_rm1 Z _ _ _ _ _ _ _ _ _ _ _ h0 n0 _ T12.heap _
              exact ⟨(by simp [own_col, hs1_1, hs1_3, hs1_5, hs1_7, hs1_9, hs1_11]), N0, e12⟩
            · by_cases hs1_13 : p1 = (2 : Int32)
              · refine OGo.via (fun _ k => own_lsw X0.here hx rfl (pc0 := 1) (pc' := 190) (o := 189) rfl (hb hby d1_1) rfl (by decide) (by rw [hs1_13]; rfl) (by decide) (by decide) k) ?_
                show OGo _ _ _ _ (s₁.setTop (mkF m 190 #[.val (.int p1)] []))
                obtain ⟨T14, X14, e14, st14⟩ := getS2 X0 hx hZ hown (host := "") (Or.inl (own_w hw 12 rfl)) Via.refl e0 S_DECIMAL (g := (mkF m 190 #[.val (.int p1)] [])) rfl (hb hby d1_190)
                refine OGo.via st14 ?_
                show OGo _ _ _ _ (T14.setTop (mkF m 193 #[.val (.int p1)] [(.ref w3)]))
                refine OGo.via (fun _ k => XS.goto X14.here hx rfl (pc0 := 193) (pc' := 229) rfl (hb hby d1_193) (by decide) (by decide) k) ?_
                show OGo _ _ _ _ (T14.setTop (mkF m 229 #[.val (.int p1)] [(.ref w3)]))
                refine own_retA X14 hx Bd.notSynchronized Bd.returns rfl rfl (hb hby d1_229) (by decide) (by decide) ?_
                show Q_rm1 Z _ _ _ _ _ _ _ _ _ _ _ h0 n0 _ T14.heap _
                exact ⟨(by simp [own_col, hs1_1, hs1_3, hs1_5, hs1_7, hs1_9, hs1_11, hs1_13]), N0, e14⟩
              · by_cases hs1_15 : p1 = (3 : Int32)
                · refine OGo.via (fun _ k => own_lsw X0.here hx rfl (pc0 := 1) (pc' := 190) (o := 189) rfl (hb hby d1_1) rfl (by decide) (by rw [hs1_15]; rfl) (by decide) (by decide) k) ?_
                  show OGo _ _ _ _ (s₁.setTop (mkF m 190 #[.val (.int p1)] []))
                  obtain ⟨T16, X16, e16, st16⟩ := getS2 X0 hx hZ hown (host := "") (Or.inl (own_w hw 12 rfl)) Via.refl e0 S_DECIMAL (g := (mkF m 190 #[.val (.int p1)] [])) rfl (hb hby d1_190)
                  refine OGo.via st16 ?_
                  show OGo _ _ _ _ (T16.setTop (mkF m 193 #[.val (.int p1)] [(.ref w3)]))
                  refine OGo.via (fun _ k => XS.goto X16.here hx rfl (pc0 := 193) (pc' := 229) rfl (hb hby d1_193) (by decide) (by decide) k) ?_
                  show OGo _ _ _ _ (T16.setTop (mkF m 229 #[.val (.int p1)] [(.ref w3)]))
                  refine own_retA X16 hx Bd.notSynchronized Bd.returns rfl rfl (hb hby d1_229) (by decide) (by decide) ?_
                  show Q_rm1 Z _ _ _ _ _ _ _ _ _ _ _ h0 n0 _ T16.heap _
                  exact ⟨(by simp [own_col, hs1_1, hs1_3, hs1_5, hs1_7, hs1_9, hs1_11, hs1_13, hs1_15]), N0, e16⟩
                · by_cases hs1_17 : p1 = (4 : Int32)
                  · refine OGo.via (fun _ k => own_lsw X0.here hx rfl (pc0 := 1) (pc' := 172) (o := 171) rfl (hb hby d1_1) rfl (by decide) (by rw [hs1_17]; rfl) (by decide) (by decide) k) ?_
                    show OGo _ _ _ _ (s₁.setTop (mkF m 172 #[.val (.int p1)] []))
                    obtain ⟨T18, X18, e18, st18⟩ := getS2 X0 hx hZ hown (host := "") (Or.inl (own_w hw 5 rfl)) Via.refl e0 S_INTEGER (g := (mkF m 172 #[.val (.int p1)] [])) rfl (hb hby d1_172)
                    refine OGo.via st18 ?_
                    show OGo _ _ _ _ (T18.setTop (mkF m 175 #[.val (.int p1)] [(.ref w0)]))
                    refine OGo.via (fun _ k => XS.goto X18.here hx rfl (pc0 := 175) (pc' := 229) rfl (hb hby d1_175) (by decide) (by decide) k) ?_
                    show OGo _ _ _ _ (T18.setTop (mkF m 229 #[.val (.int p1)] [(.ref w0)]))
                    refine own_retA X18 hx Bd.notSynchronized Bd.returns rfl rfl (hb hby d1_229) (by decide) (by decide) ?_
                    show Q_rm1 Z _ _ _ _ _ _ _ _ _ _ _ h0 n0 _ T18.heap _
                    exact ⟨(by simp [own_col, hs1_1, hs1_3, hs1_5, hs1_7, hs1_9, hs1_11, hs1_13, hs1_15, hs1_17]), N0, e18⟩
                  · by_cases hs1_19 : p1 = (5 : Int32)
                    · refine OGo.via (fun _ k => own_lsw X0.here hx rfl (pc0 := 1) (pc' := 172) (o := 171) rfl (hb hby d1_1) rfl (by decide) (by rw [hs1_19]; rfl) (by decide) (by decide) k) ?_
                      show OGo _ _ _ _ (s₁.setTop (mkF m 172 #[.val (.int p1)] []))
                      obtain ⟨T20, X20, e20, st20⟩ := getS2 X0 hx hZ hown (host := "") (Or.inl (own_w hw 5 rfl)) Via.refl e0 S_INTEGER (g := (mkF m 172 #[.val (.int p1)] [])) rfl (hb hby d1_172)
                      refine OGo.via st20 ?_
                      show OGo _ _ _ _ (T20.setTop (mkF m 175 #[.val (.int p1)] [(.ref w0)]))
                      refine OGo.via (fun _ k => XS.goto X20.here hx rfl (pc0 := 175) (pc' := 229) rfl (hb hby d1_175) (by decide) (by decide) k) ?_
                      show OGo _ _ _ _ (T20.setTop (mkF m 229 #[.val (.int p1)] [(.ref w0)]))
                      refine own_retA X20 hx Bd.notSynchronized Bd.returns rfl rfl (hb hby d1_229) (by decide) (by decide) ?_
                      show Q_rm1 Z _ _ _ _ _ _ _ _ _ _ _ h0 n0 _ T20.heap _
                      exact ⟨(by simp [own_col, hs1_1, hs1_3, hs1_5, hs1_7, hs1_9, hs1_11, hs1_13, hs1_15, hs1_17, hs1_19]), N0, e20⟩
                    · by_cases hs1_21 : p1 = (6 : Int32)
                      · refine OGo.via (fun _ k => own_lsw X0.here hx rfl (pc0 := 1) (pc' := 184) (o := 183) rfl (hb hby d1_1) rfl (by decide) (by rw [hs1_21]; rfl) (by decide) (by decide) k) ?_
                        show OGo _ _ _ _ (s₁.setTop (mkF m 184 #[.val (.int p1)] []))
                        obtain ⟨T22, X22, e22, st22⟩ := getS2 X0 hx hZ hown (host := "") (Or.inl (own_w hw 18 rfl)) Via.refl e0 S_DOUBLE (g := (mkF m 184 #[.val (.int p1)] [])) rfl (hb hby d1_184)
                        refine OGo.via st22 ?_
                        show OGo _ _ _ _ (T22.setTop (mkF m 187 #[.val (.int p1)] [(.ref w2)]))
                        refine OGo.via (fun _ k => XS.goto X22.here hx rfl (pc0 := 187) (pc' := 229) rfl (hb hby d1_187) (by decide) (by decide) k) ?_
                        show OGo _ _ _ _ (T22.setTop (mkF m 229 #[.val (.int p1)] [(.ref w2)]))
                        refine own_retA X22 hx Bd.notSynchronized Bd.returns rfl rfl (hb hby d1_229) (by decide) (by decide) ?_
                        show Q_rm1 Z _ _ _ _ _ _ _ _ _ _ _ h0 n0 _ T22.heap _
                        exact ⟨(by simp [own_col, hs1_1, hs1_3, hs1_5, hs1_7, hs1_9, hs1_11, hs1_13, hs1_15, hs1_17, hs1_19, hs1_21]), N0, e22⟩
                      · by_cases hs1_23 : p1 = (7 : Int32)
                        · refine OGo.via (fun _ k => own_lsw X0.here hx rfl (pc0 := 1) (pc' := 184) (o := 183) rfl (hb hby d1_1) rfl (by decide) (by rw [hs1_23]; rfl) (by decide) (by decide) k) ?_
                          show OGo _ _ _ _ (s₁.setTop (mkF m 184 #[.val (.int p1)] []))
                          obtain ⟨T24, X24, e24, st24⟩ := getS2 X0 hx hZ hown (host := "") (Or.inl (own_w hw 18 rfl)) Via.refl e0 S_DOUBLE (g := (mkF m 184 #[.val (.int p1)] [])) rfl (hb hby d1_184)
                          refine OGo.via st24 ?_
                          show OGo _ _ _ _ (T24.setTop (mkF m 187 #[.val (.int p1)] [(.ref w2)]))
                          refine OGo.via (fun _ k => XS.goto X24.here hx rfl (pc0 := 187) (pc' := 229) rfl (hb hby d1_187) (by decide) (by decide) k) ?_
                          show OGo _ _ _ _ (T24.setTop (mkF m 229 #[.val (.int p1)] [(.ref w2)]))
                          refine own_retA X24 hx Bd.notSynchronized Bd.returns rfl rfl (hb hby d1_229) (by decide) (by decide) ?_
                          show Q_rm1 Z _ _ _ _ _ _ _ _ _ _ _ h0 n0 _ T24.heap _
                          exact ⟨(by simp [own_col, hs1_1, hs1_3, hs1_5, hs1_7, hs1_9, hs1_11, hs1_13, hs1_15, hs1_17, hs1_19, hs1_21, hs1_23]), N0, e24⟩
                        · by_cases hs1_25 : p1 = (8 : Int32)
                          · refine OGo.via (fun _ k => own_lsw X0.here hx rfl (pc0 := 1) (pc' := 184) (o := 183) rfl (hb hby d1_1) rfl (by decide) (by rw [hs1_25]; rfl) (by decide) (by decide) k) ?_
                            show OGo _ _ _ _ (s₁.setTop (mkF m 184 #[.val (.int p1)] []))
                            obtain ⟨T26, X26, e26, st26⟩ := getS2 X0 hx hZ hown (host := "") (Or.inl (own_w hw 18 rfl)) Via.refl e0 S_DOUBLE (g := (mkF m 184 #[.val (.int p1)] [])) rfl (hb hby d1_184)
                            refine OGo.via st26 ?_
                            show OGo _ _ _ _ (T26.setTop (mkF m 187 #[.val (.int p1)] [(.ref w2)]))
                            refine OGo.via (fun _ k => XS.goto X26.here hx rfl (pc0 := 187) (pc' := 229) rfl (hb hby d1_187) (by decide) (by decide) k) ?_
                            show OGo _ _ _ _ (T26.setTop (mkF m 229 #[.val (.int p1)] [(.ref w2)]))
                            refine own_retA X26 hx Bd.notSynchronized Bd.returns rfl rfl (hb hby d1_229) (by decide) (by decide) ?_
                            show Q_rm1 Z _ _ _ _ _ _ _ _ _ _ _ h0 n0 _ T26.heap _
                            exact ⟨(by simp [own_col, hs1_1, hs1_3, hs1_5, hs1_7, hs1_9, hs1_11, hs1_13, hs1_15, hs1_17, hs1_19, hs1_21, hs1_23, hs1_25]), N0, e26⟩
                          · by_cases hs1_27 : p1 = (16 : Int32)
                            · refine OGo.via (fun _ k => own_lsw X0.here hx rfl (pc0 := 1) (pc' := 196) (o := 195) rfl (hb hby d1_1) rfl (by decide) (by rw [hs1_27]; rfl) (by decide) (by decide) k) ?_
                              show OGo _ _ _ _ (s₁.setTop (mkF m 196 #[.val (.int p1)] []))
                              obtain ⟨T28, X28, e28, st28⟩ := getS2 X0 hx hZ hown (host := "") (Or.inl (own_w hw 27 rfl)) Via.refl e0 S_BOOLEAN (g := (mkF m 196 #[.val (.int p1)] [])) rfl (hb hby d1_196)
                              refine OGo.via st28 ?_
                              show OGo _ _ _ _ (T28.setTop (mkF m 199 #[.val (.int p1)] [(.ref w4)]))
                              refine OGo.via (fun _ k => XS.goto X28.here hx rfl (pc0 := 199) (pc' := 229) rfl (hb hby d1_199) (by decide) (by decide) k) ?_
                              show OGo _ _ _ _ (T28.setTop (mkF m 229 #[.val (.int p1)] [(.ref w4)]))
                              refine own_retA X28 hx Bd.notSynchronized Bd.returns rfl rfl (hb hby d1_229) (by decide) (by decide) ?_
                              show Q_rm1 Z _ _ _ _ _ _ _ _ _ _ _ h0 n0 _ T28.heap _
                              exact ⟨(by simp [own_col, hs1_1, hs1_3, hs1_5, hs1_7, hs1_9, hs1_11, hs1_13, hs1_15, hs1_17, hs1_19, hs1_21, hs1_23, hs1_25, hs1_27]), N0, e28⟩
                            · by_cases hs1_29 : p1 = (91 : Int32)
                              · refine OGo.via (fun _ k => own_lsw X0.here hx rfl (pc0 := 1) (pc' := 202) (o := 201) rfl (hb hby d1_1) rfl (by decide) (by rw [hs1_29]; rfl) (by decide) (by decide) k) ?_
                                show OGo _ _ _ _ (s₁.setTop (mkF m 202 #[.val (.int p1)] []))
                                obtain ⟨T30, X30, e30, st30⟩ := getS2 X0 hx hZ hown (host := "") (Or.inl (own_w hw 36 rfl)) Via.refl e0 S_DATE (g := (mkF m 202 #[.val (.int p1)] [])) rfl (hb hby d1_202)
                                refine OGo.via st30 ?_
                                show OGo _ _ _ _ (T30.setTop (mkF m 205 #[.val (.int p1)] [(.ref w5)]))
                                refine OGo.via (fun _ k => XS.goto X30.here hx rfl (pc0 := 205) (pc' := 229) rfl (hb hby d1_205) (by decide) (by decide) k) ?_
                                show OGo _ _ _ _ (T30.setTop (mkF m 229 #[.val (.int p1)] [(.ref w5)]))
                                refine own_retA X30 hx Bd.notSynchronized Bd.returns rfl rfl (hb hby d1_229) (by decide) (by decide) ?_
                                show Q_rm1 Z _ _ _ _ _ _ _ _ _ _ _ h0 n0 _ T30.heap _
                                exact ⟨(by simp [own_col, hs1_1, hs1_3, hs1_5, hs1_7, hs1_9, hs1_11, hs1_13, hs1_15, hs1_17, hs1_19, hs1_21, hs1_23, hs1_25, hs1_27, hs1_29]), N0, e30⟩
                              · by_cases hs1_31 : p1 = (92 : Int32)
                                · refine OGo.via (fun _ k => own_lsw X0.here hx rfl (pc0 := 1) (pc' := 208) (o := 207) rfl (hb hby d1_1) rfl (by decide) (by rw [hs1_31]; rfl) (by decide) (by decide) k) ?_
                                  show OGo _ _ _ _ (s₁.setTop (mkF m 208 #[.val (.int p1)] []))
                                  obtain ⟨T32, X32, e32, st32⟩ := getS2 X0 hx hZ hown (host := "") (Or.inl (own_w hw 33 rfl)) Via.refl e0 S_TIME (g := (mkF m 208 #[.val (.int p1)] [])) rfl (hb hby d1_208)
                                  refine OGo.via st32 ?_
                                  show OGo _ _ _ _ (T32.setTop (mkF m 211 #[.val (.int p1)] [(.ref w6)]))
                                  refine OGo.via (fun _ k => XS.goto X32.here hx rfl (pc0 := 211) (pc' := 229) rfl (hb hby d1_211) (by decide) (by decide) k) ?_
                                  show OGo _ _ _ _ (T32.setTop (mkF m 229 #[.val (.int p1)] [(.ref w6)]))
                                  refine own_retA X32 hx Bd.notSynchronized Bd.returns rfl rfl (hb hby d1_229) (by decide) (by decide) ?_
                                  show Q_rm1 Z _ _ _ _ _ _ _ _ _ _ _ h0 n0 _ T32.heap _
                                  exact ⟨(by simp [own_col, hs1_1, hs1_3, hs1_5, hs1_7, hs1_9, hs1_11, hs1_13, hs1_15, hs1_17, hs1_19, hs1_21, hs1_23, hs1_25, hs1_27, hs1_29, hs1_31]), N0, e32⟩
                                · by_cases hs1_33 : p1 = (93 : Int32)
                                  · refine OGo.via (fun _ k => own_lsw X0.here hx rfl (pc0 := 1) (pc' := 214) (o := 213) rfl (hb hby d1_1) rfl (by decide) (by rw [hs1_33]; rfl) (by decide) (by decide) k) ?_
                                    show OGo _ _ _ _ (s₁.setTop (mkF m 214 #[.val (.int p1)] []))
                                    obtain ⟨T34, X34, e34, st34⟩ := getS2 X0 hx hZ hown (host := "") (Or.inl (own_w hw 24 rfl)) Via.refl e0 S_TIMESTAMP (g := (mkF m 214 #[.val (.int p1)] [])) rfl (hb hby d1_214)
                                    refine OGo.via st34 ?_
                                    show OGo _ _ _ _ (T34.setTop (mkF m 217 #[.val (.int p1)] [(.ref w7)]))
                                    refine OGo.via (fun _ k => XS.goto X34.here hx rfl (pc0 := 217) (pc' := 229) rfl (hb hby d1_217) (by decide) (by decide) k) ?_
                                    show OGo _ _ _ _ (T34.setTop (mkF m 229 #[.val (.int p1)] [(.ref w7)]))
                                    refine own_retA X34 hx Bd.notSynchronized Bd.returns rfl rfl (hb hby d1_229) (by decide) (by decide) ?_
                                    show Q_rm1 Z _ _ _ _ _ _ _ _ _ _ _ h0 n0 _ T34.heap _
                                    exact ⟨(by simp [own_col, hs1_1, hs1_3, hs1_5, hs1_7, hs1_9, hs1_11, hs1_13, hs1_15, hs1_17, hs1_19, hs1_21, hs1_23, hs1_25, hs1_27, hs1_29, hs1_31, hs1_33]), N0, e34⟩
                                  · by_cases hs1_35 : p1 = (2004 : Int32)
                                    · refine OGo.via (fun _ k => own_lsw X0.here hx rfl (pc0 := 1) (pc' := 220) (o := 219) rfl (hb hby d1_1) rfl (by decide) (by rw [hs1_35]; rfl) (by decide) (by decide) k) ?_
                                      show OGo _ _ _ _ (s₁.setTop (mkF m 220 #[.val (.int p1)] []))
                                      obtain ⟨T36, X36, e36, st36⟩ := getS2 X0 hx hZ hown (host := "") (Or.inl (own_w hw 30 rfl)) Via.refl e0 S_BINARY (g := (mkF m 220 #[.val (.int p1)] [])) rfl (hb hby d1_220)
                                      refine OGo.via st36 ?_
                                      show OGo _ _ _ _ (T36.setTop (mkF m 223 #[.val (.int p1)] [(.ref w8)]))
                                      refine OGo.via (fun _ k => XS.goto X36.here hx rfl (pc0 := 223) (pc' := 229) rfl (hb hby d1_223) (by decide) (by decide) k) ?_
                                      show OGo _ _ _ _ (T36.setTop (mkF m 229 #[.val (.int p1)] [(.ref w8)]))
                                      refine own_retA X36 hx Bd.notSynchronized Bd.returns rfl rfl (hb hby d1_229) (by decide) (by decide) ?_
                                      show Q_rm1 Z _ _ _ _ _ _ _ _ _ _ _ h0 n0 _ T36.heap _
                                      exact ⟨(by simp [own_col, hs1_1, hs1_3, hs1_5, hs1_7, hs1_9, hs1_11, hs1_13, hs1_15, hs1_17, hs1_19, hs1_21, hs1_23, hs1_25, hs1_27, hs1_29, hs1_31, hs1_33, hs1_35]), N0, e36⟩
                                    · by_cases hs1_37 : p1 = (2013 : Int32)
                                      · refine OGo.via (fun _ k => own_lsw X0.here hx rfl (pc0 := 1) (pc' := 208) (o := 207) rfl (hb hby d1_1) rfl (by decide) (by rw [hs1_37]; rfl) (by decide) (by decide) k) ?_
                                        show OGo _ _ _ _ (s₁.setTop (mkF m 208 #[.val (.int p1)] []))
                                        obtain ⟨T38, X38, e38, st38⟩ := getS2 X0 hx hZ hown (host := "") (Or.inl (own_w hw 33 rfl)) Via.refl e0 S_TIME (g := (mkF m 208 #[.val (.int p1)] [])) rfl (hb hby d1_208)
                                        refine OGo.via st38 ?_
                                        show OGo _ _ _ _ (T38.setTop (mkF m 211 #[.val (.int p1)] [(.ref w6)]))
                                        refine OGo.via (fun _ k => XS.goto X38.here hx rfl (pc0 := 211) (pc' := 229) rfl (hb hby d1_211) (by decide) (by decide) k) ?_
                                        show OGo _ _ _ _ (T38.setTop (mkF m 229 #[.val (.int p1)] [(.ref w6)]))
                                        refine own_retA X38 hx Bd.notSynchronized Bd.returns rfl rfl (hb hby d1_229) (by decide) (by decide) ?_
                                        show Q_rm1 Z _ _ _ _ _ _ _ _ _ _ _ h0 n0 _ T38.heap _
                                        exact ⟨(by simp [own_col, hs1_1, hs1_3, hs1_5, hs1_7, hs1_9, hs1_11, hs1_13, hs1_15, hs1_17, hs1_19, hs1_21, hs1_23, hs1_25, hs1_27, hs1_29, hs1_31, hs1_33, hs1_35, hs1_37]), N0, e38⟩
                                      · by_cases hs1_39 : p1 = (2014 : Int32)
                                        · refine OGo.via (fun _ k => own_lsw X0.here hx rfl (pc0 := 1) (pc' := 214) (o := 213) rfl (hb hby d1_1) rfl (by decide) (by rw [hs1_39]; rfl) (by decide) (by decide) k) ?_
                                          show OGo _ _ _ _ (s₁.setTop (mkF m 214 #[.val (.int p1)] []))
                                          obtain ⟨T40, X40, e40, st40⟩ := getS2 X0 hx hZ hown (host := "") (Or.inl (own_w hw 24 rfl)) Via.refl e0 S_TIMESTAMP (g := (mkF m 214 #[.val (.int p1)] [])) rfl (hb hby d1_214)
                                          refine OGo.via st40 ?_
                                          show OGo _ _ _ _ (T40.setTop (mkF m 217 #[.val (.int p1)] [(.ref w7)]))
                                          refine OGo.via (fun _ k => XS.goto X40.here hx rfl (pc0 := 217) (pc' := 229) rfl (hb hby d1_217) (by decide) (by decide) k) ?_
                                          show OGo _ _ _ _ (T40.setTop (mkF m 229 #[.val (.int p1)] [(.ref w7)]))
                                          refine own_retA X40 hx Bd.notSynchronized Bd.returns rfl rfl (hb hby d1_229) (by decide) (by decide) ?_
                                          show Q_rm1 Z _ _ _ _ _ _ _ _ _ _ _ h0 n0 _ T40.heap _
                                          exact ⟨(by simp [own_col, hs1_1, hs1_3, hs1_5, hs1_7, hs1_9, hs1_11, hs1_13, hs1_15, hs1_17, hs1_19, hs1_21, hs1_23, hs1_25, hs1_27, hs1_29, hs1_31, hs1_33, hs1_35, hs1_37, hs1_39]), N0, e40⟩
                                        · have hof41 : lookupswitch.offset [((-7), 195), ((-6), 171), ((-5), 177), ((-4), 219), ((-3), 219), ((-2), 219), (2, 189), (3, 189), (4, 171), (5, 171), (6, 183), (7, 183), (8, 183), (16, 195), (91, 201), (92, 207), (93, 213), (2004, 219), (2013, 207), (2014, 213)] 225 p1.toInt = 225 := by
                                            simp only [lookupswitch.offset]
                                            rw [if_neg (fun q : ((-7) : Int) = p1.toInt => hs1_1 (Int32.toInt_inj.mp q.symm))]
                                            rw [if_neg (fun q : ((-6) : Int) = p1.toInt => hs1_3 (Int32.toInt_inj.mp q.symm))]
                                            rw [if_neg (fun q : ((-5) : Int) = p1.toInt => hs1_5 (Int32.toInt_inj.mp q.symm))]
                                            rw [if_neg (fun q : ((-4) : Int) = p1.toInt => hs1_7 (Int32.toInt_inj.mp q.symm))]
                                            rw [if_neg (fun q : ((-3) : Int) = p1.toInt => hs1_9 (Int32.toInt_inj.mp q.symm))]
                                            rw [if_neg (fun q : ((-2) : Int) = p1.toInt => hs1_11 (Int32.toInt_inj.mp q.symm))]
                                            rw [if_neg (fun q : (2 : Int) = p1.toInt => hs1_13 (Int32.toInt_inj.mp q.symm))]
                                            rw [if_neg (fun q : (3 : Int) = p1.toInt => hs1_15 (Int32.toInt_inj.mp q.symm))]
                                            rw [if_neg (fun q : (4 : Int) = p1.toInt => hs1_17 (Int32.toInt_inj.mp q.symm))]
                                            rw [if_neg (fun q : (5 : Int) = p1.toInt => hs1_19 (Int32.toInt_inj.mp q.symm))]
                                            rw [if_neg (fun q : (6 : Int) = p1.toInt => hs1_21 (Int32.toInt_inj.mp q.symm))]
                                            rw [if_neg (fun q : (7 : Int) = p1.toInt => hs1_23 (Int32.toInt_inj.mp q.symm))]
                                            rw [if_neg (fun q : (8 : Int) = p1.toInt => hs1_25 (Int32.toInt_inj.mp q.symm))]
                                            rw [if_neg (fun q : (16 : Int) = p1.toInt => hs1_27 (Int32.toInt_inj.mp q.symm))]
                                            rw [if_neg (fun q : (91 : Int) = p1.toInt => hs1_29 (Int32.toInt_inj.mp q.symm))]
                                            rw [if_neg (fun q : (92 : Int) = p1.toInt => hs1_31 (Int32.toInt_inj.mp q.symm))]
                                            rw [if_neg (fun q : (93 : Int) = p1.toInt => hs1_33 (Int32.toInt_inj.mp q.symm))]
                                            rw [if_neg (fun q : (2004 : Int) = p1.toInt => hs1_35 (Int32.toInt_inj.mp q.symm))]
                                            rw [if_neg (fun q : (2013 : Int) = p1.toInt => hs1_37 (Int32.toInt_inj.mp q.symm))]
                                            rw [if_neg (fun q : (2014 : Int) = p1.toInt => hs1_39 (Int32.toInt_inj.mp q.symm))]
                                          refine OGo.via (fun _ k => own_lsw X0.here hx rfl (pc0 := 1) (pc' := 226) (o := 225) rfl (hb hby d1_1) rfl (by decide) hof41 (by decide) (by decide) k) ?_
                                          show OGo _ _ _ _ (s₁.setTop (mkF m 226 #[.val (.int p1)] []))
                                          obtain ⟨T42, X42, e42, st42⟩ := getS2 X0 hx hZ hown (host := "") (Or.inl (own_w hw 15 rfl)) Via.refl e0 S_STRING (g := (mkF m 226 #[.val (.int p1)] [])) rfl (hb hby d1_226)
                                          refine OGo.via st42 ?_
                                          show OGo _ _ _ _ (T42.setTop (mkF m 229 #[.val (.int p1)] [(.ref w9)]))
                                          show OGo _ _ _ _ (T42.setTop (mkF m 229 #[.val (.int p1)] [(.ref w9)]))
                                          refine own_retA X42 hx Bd.notSynchronized Bd.returns rfl rfl (hb hby d1_229) (by decide) (by decide) ?_
                                          show Q_rm1 Z _ _ _ _ _ _ _ _ _ _ _ h0 n0 _ T42.heap _
                                          exact ⟨(by simp [own_col, hs1_1, hs1_3, hs1_5, hs1_7, hs1_9, hs1_11, hs1_13, hs1_15, hs1_17, hs1_19, hs1_21, hs1_23, hs1_25, hs1_27, hs1_29, hs1_31, hs1_33, hs1_35, hs1_37, hs1_39]), N0, e42⟩
theorem d2_0 : decode method_2_code 0 = .ok (.iload_n 0, 1) := by decide +kernel
theorem d2_1 : decode method_2_code 1 = .ok (.bipush (-6), 2) := by decide +kernel
theorem d2_3 : decode method_2_code 3 = .ok (.if_icmp .eq 13, 3) := by decide +kernel
theorem d2_16 : decode method_2_code 16 = .ok (.getstatic 7, 3) := by decide +kernel
theorem d2_19 : decode method_2_code 19 = .ok (.areturn, 1) := by decide +kernel
theorem d2_6 : decode method_2_code 6 = .ok (.iload_n 0, 1) := by decide +kernel
theorem d2_7 : decode method_2_code 7 = .ok (.iconst 5, 1) := by decide +kernel
theorem d2_8 : decode method_2_code 8 = .ok (.if_icmp .eq 8, 3) := by decide +kernel
theorem d2_11 : decode method_2_code 11 = .ok (.iload_n 0, 1) := by decide +kernel
theorem d2_12 : decode method_2_code 12 = .ok (.iconst 4, 1) := by decide +kernel
theorem d2_13 : decode method_2_code 13 = .ok (.if_icmp .ne 7, 3) := by decide +kernel
theorem d2_20 : decode method_2_code 20 = .ok (.iload_n 0, 1) := by decide +kernel
theorem d2_21 : decode method_2_code 21 = .ok (.bipush (-5), 2) := by decide +kernel
theorem d2_23 : decode method_2_code 23 = .ok (.if_icmp .ne 7, 3) := by decide +kernel
theorem d2_26 : decode method_2_code 26 = .ok (.getstatic 13, 3) := by decide +kernel
theorem d2_29 : decode method_2_code 29 = .ok (.areturn, 1) := by decide +kernel
theorem d2_30 : decode method_2_code 30 = .ok (.iload_n 0, 1) := by decide +kernel
theorem d2_31 : decode method_2_code 31 = .ok (.bipush 7, 2) := by decide +kernel
theorem d2_33 : decode method_2_code 33 = .ok (.if_icmp .eq 15, 3) := by decide +kernel
theorem d2_48 : decode method_2_code 48 = .ok (.getstatic 16, 3) := by decide +kernel
theorem d2_51 : decode method_2_code 51 = .ok (.areturn, 1) := by decide +kernel
theorem d2_36 : decode method_2_code 36 = .ok (.iload_n 0, 1) := by decide +kernel
theorem d2_37 : decode method_2_code 37 = .ok (.bipush 6, 2) := by decide +kernel
theorem d2_39 : decode method_2_code 39 = .ok (.if_icmp .eq 9, 3) := by decide +kernel
theorem d2_42 : decode method_2_code 42 = .ok (.iload_n 0, 1) := by decide +kernel
theorem d2_43 : decode method_2_code 43 = .ok (.bipush 8, 2) := by decide +kernel
theorem d2_45 : decode method_2_code 45 = .ok (.if_icmp .ne 7, 3) := by decide +kernel
theorem d2_52 : decode method_2_code 52 = .ok (.iload_n 0, 1) := by decide +kernel
theorem d2_53 : decode method_2_code 53 = .ok (.iconst 2, 1) := by decide +kernel
theorem d2_54 : decode method_2_code 54 = .ok (.if_icmp .eq 8, 3) := by decide +kernel
theorem d2_62 : decode method_2_code 62 = .ok (.getstatic 19, 3) := by decide +kernel
theorem d2_65 : decode method_2_code 65 = .ok (.areturn, 1) := by decide +kernel
theorem d2_57 : decode method_2_code 57 = .ok (.iload_n 0, 1) := by decide +kernel
theorem d2_58 : decode method_2_code 58 = .ok (.iconst 3, 1) := by decide +kernel
theorem d2_59 : decode method_2_code 59 = .ok (.if_icmp .ne 7, 3) := by decide +kernel
theorem d2_66 : decode method_2_code 66 = .ok (.iload_n 0, 1) := by decide +kernel
theorem d2_67 : decode method_2_code 67 = .ok (.bipush (-7), 2) := by decide +kernel
theorem d2_69 : decode method_2_code 69 = .ok (.if_icmp .eq 9, 3) := by decide +kernel
theorem d2_78 : decode method_2_code 78 = .ok (.getstatic 22, 3) := by decide +kernel
theorem d2_81 : decode method_2_code 81 = .ok (.areturn, 1) := by decide +kernel
theorem d2_72 : decode method_2_code 72 = .ok (.iload_n 0, 1) := by decide +kernel
theorem d2_73 : decode method_2_code 73 = .ok (.bipush 16, 2) := by decide +kernel
theorem d2_75 : decode method_2_code 75 = .ok (.if_icmp .ne 7, 3) := by decide +kernel
theorem d2_82 : decode method_2_code 82 = .ok (.iload_n 0, 1) := by decide +kernel
theorem d2_83 : decode method_2_code 83 = .ok (.bipush 91, 2) := by decide +kernel
theorem d2_85 : decode method_2_code 85 = .ok (.if_icmp .ne 7, 3) := by decide +kernel
theorem d2_88 : decode method_2_code 88 = .ok (.getstatic 25, 3) := by decide +kernel
theorem d2_91 : decode method_2_code 91 = .ok (.areturn, 1) := by decide +kernel
theorem d2_92 : decode method_2_code 92 = .ok (.iload_n 0, 1) := by decide +kernel
theorem d2_93 : decode method_2_code 93 = .ok (.bipush 92, 2) := by decide +kernel
theorem d2_95 : decode method_2_code 95 = .ok (.if_icmp .eq 10, 3) := by decide +kernel
theorem d2_105 : decode method_2_code 105 = .ok (.getstatic 28, 3) := by decide +kernel
theorem d2_108 : decode method_2_code 108 = .ok (.areturn, 1) := by decide +kernel
theorem d2_98 : decode method_2_code 98 = .ok (.iload_n 0, 1) := by decide +kernel
theorem d2_99 : decode method_2_code 99 = .ok (.sipush 2013, 3) := by decide +kernel
theorem d2_102 : decode method_2_code 102 = .ok (.if_icmp .ne 7, 3) := by decide +kernel
theorem d2_109 : decode method_2_code 109 = .ok (.iload_n 0, 1) := by decide +kernel
theorem d2_110 : decode method_2_code 110 = .ok (.bipush 93, 2) := by decide +kernel
theorem d2_112 : decode method_2_code 112 = .ok (.if_icmp .eq 10, 3) := by decide +kernel
theorem d2_122 : decode method_2_code 122 = .ok (.getstatic 31, 3) := by decide +kernel
theorem d2_125 : decode method_2_code 125 = .ok (.areturn, 1) := by decide +kernel
theorem d2_115 : decode method_2_code 115 = .ok (.iload_n 0, 1) := by decide +kernel
theorem d2_116 : decode method_2_code 116 = .ok (.sipush 2014, 3) := by decide +kernel
theorem d2_119 : decode method_2_code 119 = .ok (.if_icmp .ne 7, 3) := by decide +kernel
theorem d2_126 : decode method_2_code 126 = .ok (.iload_n 0, 1) := by decide +kernel
theorem d2_127 : decode method_2_code 127 = .ok (.bipush (-2), 2) := by decide +kernel
theorem d2_129 : decode method_2_code 129 = .ok (.if_icmp .eq 22, 3) := by decide +kernel
theorem d2_151 : decode method_2_code 151 = .ok (.getstatic 34, 3) := by decide +kernel
theorem d2_154 : decode method_2_code 154 = .ok (.areturn, 1) := by decide +kernel
theorem d2_132 : decode method_2_code 132 = .ok (.iload_n 0, 1) := by decide +kernel
theorem d2_133 : decode method_2_code 133 = .ok (.bipush (-3), 2) := by decide +kernel
theorem d2_135 : decode method_2_code 135 = .ok (.if_icmp .eq 16, 3) := by decide +kernel
theorem d2_138 : decode method_2_code 138 = .ok (.iload_n 0, 1) := by decide +kernel
theorem d2_139 : decode method_2_code 139 = .ok (.bipush (-4), 2) := by decide +kernel
theorem d2_141 : decode method_2_code 141 = .ok (.if_icmp .eq 10, 3) := by decide +kernel
theorem d2_144 : decode method_2_code 144 = .ok (.iload_n 0, 1) := by decide +kernel
theorem d2_145 : decode method_2_code 145 = .ok (.sipush 2004, 3) := by decide +kernel
theorem d2_148 : decode method_2_code 148 = .ok (.if_icmp .ne 7, 3) := by decide +kernel
theorem d2_155 : decode method_2_code 155 = .ok (.getstatic 37, 3) := by decide +kernel
theorem d2_158 : decode method_2_code 158 = .ok (.areturn, 1) := by decide +kernel
theorem pn_ColumnTypeOfPinLaw : plainName "com/example/fetch_pages/fetchpages/db/ColumnTypeOfPinLaw" = true := by first | (simp [plainName, overriddenIn]; done) | decide +kernel
theorem ef_rm2 (m : MethodId) (p1 : Int32) : entryFrame m #[(.int p1)] 1 = mkF m 0 #[.val (.int p1)] [] := by first | (simp [entryFrame, mkF, argsToLocals, Value.category]; done) | rfl
def Q_rm2 (Z : State) (p1 : Int32) (w0 : Addr) (w1 : Addr) (w2 : Addr) (w3 : Addr) (w4 : Addr) (w5 : Addr) (w6 : Addr) (w7 : Addr) (w8 : Addr) (w9 : Addr) (h0 : Heap) (n0 : Nat) (v : Option Value) (h : Heap) (L : List Loc) : Prop := v = some (.ref (own_col p1 w0 w1 w2 w3 w4 w5 w6 w7 w8 w9)) ∧ Fr n0 L ∧ h = h0
set_option maxRecDepth 65536 in
set_option maxHeartbeats 40000000 in
theorem rm2 (l : Launch) (Z : State) (a0 : Array Value) (hw : ∀ d ∈ tables_1, d.before a0 Z = true) (ws : List Jvm.Cond) (p1 : Int32) (w0 : Addr) (w1 : Addr) (w2 : Addr) (w3 : Addr) (w4 : Addr) (w5 : Addr) (w6 : Addr) (w7 : Addr) (w8 : Addr) (w9 : Addr) (h0 : Heap) (n0 : Nat) (Z0 : n0 ≤ h0.size) (S_INTEGER : Sta Z h0 "com/example/fetch_pages/fetchpages/db/ColumnType" "INTEGER" "Lcom/example/fetch_pages/fetchpages/db/ColumnType;" (.ref w0)) (S_LONG : Sta Z h0 "com/example/fetch_pages/fetchpages/db/ColumnType" "LONG" "Lcom/example/fetch_pages/fetchpages/db/ColumnType;" (.ref w1)) (S_DOUBLE : Sta Z h0 "com/example/fetch_pages/fetchpages/db/ColumnType" "DOUBLE" "Lcom/example/fetch_pages/fetchpages/db/ColumnType;" (.ref w2)) (S_DECIMAL : Sta Z h0 "com/example/fetch_pages/fetchpages/db/ColumnType" "DECIMAL" "Lcom/example/fetch_pages/fetchpages/db/ColumnType;" (.ref w3)) (S_BOOLEAN : Sta Z h0 "com/example/fetch_pages/fetchpages/db/ColumnType" "BOOLEAN" "Lcom/example/fetch_pages/fetchpages/db/ColumnType;" (.ref w4)) (S_DATE : Sta Z h0 "com/example/fetch_pages/fetchpages/db/ColumnType" "DATE" "Lcom/example/fetch_pages/fetchpages/db/ColumnType;" (.ref w5)) (S_TIME : Sta Z h0 "com/example/fetch_pages/fetchpages/db/ColumnType" "TIME" "Lcom/example/fetch_pages/fetchpages/db/ColumnType;" (.ref w6)) (S_TIMESTAMP : Sta Z h0 "com/example/fetch_pages/fetchpages/db/ColumnType" "TIMESTAMP" "Lcom/example/fetch_pages/fetchpages/db/ColumnType;" (.ref w7)) (S_BINARY : Sta Z h0 "com/example/fetch_pages/fetchpages/db/ColumnType" "BINARY" "Lcom/example/fetch_pages/fetchpages/db/ColumnType;" (.ref w8)) (S_STRING : Sta Z h0 "com/example/fetch_pages/fetchpages/db/ColumnType" "STRING" "Lcom/example/fetch_pages/fetchpages/db/ColumnType;" (.ref w9)) :
    MetFree l own_y1 (head1 (Jvm.Cond.code own_y1 method_2_code 1 (some (.object "com/example/fetch_pages/fetchpages/db/ColumnType")) :: ws) ({ frames := 0, cells := 0, slots := 0, locals := 0 } : Room)) (fun a U => a = #[(.int p1)] ∧ Z.Warmed39 U.vm ∧ U.heap = h0) (fun _ _ _ _ _ => True) (fun _ U o U' => ∃ v L, o = .returned v ∧ Q_rm2 Z p1 w0 w1 w2 w3 w4 w5 w6 w7 w8 w9 h0 n0 v U'.heap L ∧ FrameEnd U o U' L ({ frames := 0, cells := 0, slots := 0, locals := 0 } : Room).cells ({ frames := 0, cells := 0, slots := 0, locals := 0 } : Room).slots) := by
  refine MetFree.of_bodySF (plainFor_of_name pn_ColumnTypeOfPinLaw) hisR ?_
  intro p e s m args below meth c s₁ Bd hml0 hP hK
  obtain ⟨rfl, hZ, hh⟩ := hP
  have hx := Bd.exec
  have hby := Bd.bytes
  have hml : c.maxLocals = 1 := hml0
  have hown : s.vm.findClass "com/example/fetch_pages/fetchpages/db/ColumnTypeOfPinLaw" = some m.cls := findClass_of_methodNamed Bd.named
  have hnm := (name_of_methodNamed Bd.named Bd.method).1
  have X0 : Stand p l e ({ frames := 0, cells := 0, slots := 0, locals := 0 } : Room) s m #[(.int p1)] below meth c s₁ [] 0 0 := Stand.of_body Bd
  have e0 : s₁.heap = h0 := by rw [← hh, Bd.state]; rfl
  have N0 := Fr.nil n0
  show OGo p.tables e below (own_Kq s (fun v h L => Q_rm2 Z p1 w0 w1 w2 w3 w4 w5 w6 w7 w8 w9 h0 n0 v h L) ({ frames := 0, cells := 0, slots := 0, locals := 0 } : Room).cells ({ frames := 0, cells := 0, slots := 0, locals := 0 } : Room).slots) (s₁.setTop (entryFrame m #[(.int p1)] 1))
  refine OGo.cast (ef_rm2 m p1) ?_
  show OGo _ _ _ _ (s₁.setTop (mkF m 0 #[.val (.int p1)] []))
  refine OGo.via (fun _ k => XS.iloadN X0.here hx rfl (hb hby d2_0) rfl (XS.bipush X0.here hx rfl (hb hby d2_1) k)) ?_
  by_cases hc3_1 : p1 = (-6 : Int32)
  · refine OGo.via (fun _ k => XS.icmpYes X0.here hx rfl (pc0 := 3) (pc' := 16) rfl (hb hby d2_3) rfl (teq hc3_1).1 (by decide) (by decide) k) ?_
    show OGo _ _ _ _ (s₁.setTop (mkF m 16 #[.val (.int p1)] []))
    obtain ⟨T2, X2, e2, st2⟩ := getS2 X0 hx hZ hown (host := "") (Or.inl (own_w hw 11 rfl)) Via.refl e0 S_INTEGER (g := (mkF m 16 #[.val (.int p1)] [])) rfl (hb hby d2_16)
    refine OGo.via st2 ?_
    show OGo _ _ _ _ (T2.setTop (mkF m 19 #[.val (.int p1)] [(.ref w0)]))
    show OGo _ _ _ _ (T2.setTop (mkF m 19 #[.val (.int p1)] [(.ref w0)]))
    refine own_retA X2 hx Bd.notSynchronized Bd.returns rfl rfl (hb hby d2_19) (by decide) (by decide) ?_
    show Q_rm2 Z _ _ _ _ _ _ _ _ _ _ _ h0 n0 _ T2.heap _
    exact ⟨(by simp [own_col, hc3_1]), N0, e2⟩
  · refine OGo.via (fun _ k => XS.icmpNo X0.here hx rfl (hb hby d2_3) rfl (feq hc3_1).1 k) ?_
    show OGo _ _ _ _ (s₁.setTop (mkF m 6 #[.val (.int p1)] []))
    refine OGo.via (fun _ k => XS.iloadN X0.here hx rfl (hb hby d2_6) rfl (XS.iconst X0.here hx rfl (hb hby d2_7) k)) ?_
    by_cases hc8_3 : p1 = (5 : Int32)
    · refine OGo.via (fun _ k => XS.icmpYes X0.here hx rfl (pc0 := 8) (pc' := 16) rfl (hb hby d2_8) rfl (teq hc8_3).1 (by decide) (by decide) k) ?_
      show OGo _ _ _ _ (s₁.setTop (mkF m 16 #[.val (.int p1)] []))
      obtain ⟨T4, X4, e4, st4⟩ := getS2 X0 hx hZ hown (host := "") (Or.inl (own_w hw 11 rfl)) Via.refl e0 S_INTEGER (g := (mkF m 16 #[.val (.int p1)] [])) rfl (hb hby d2_16)
      refine OGo.via st4 ?_
      show OGo _ _ _ _ (T4.setTop (mkF m 19 #[.val (.int p1)] [(.ref w0)]))
      show OGo _ _ _ _ (T4.setTop (mkF m 19 #[.val (.int p1)] [(.ref w0)]))
      refine own_retA X4 hx Bd.notSynchronized Bd.returns rfl rfl (hb hby d2_19) (by decide) (by decide) ?_
      show Q_rm2 Z _ _ _ _ _ _ _ _ _ _ _ h0 n0 _ T4.heap _
      exact ⟨(by simp [own_col, hc3_1, hc8_3]), N0, e4⟩
    · refine OGo.via (fun _ k => XS.icmpNo X0.here hx rfl (hb hby d2_8) rfl (feq hc8_3).1 k) ?_
      show OGo _ _ _ _ (s₁.setTop (mkF m 11 #[.val (.int p1)] []))
      refine OGo.via (fun _ k => XS.iloadN X0.here hx rfl (hb hby d2_11) rfl (XS.iconst X0.here hx rfl (hb hby d2_12) k)) ?_
      by_cases hc13_5 : p1 = (4 : Int32)
      · refine OGo.via (fun _ k => XS.icmpNo X0.here hx rfl (hb hby d2_13) rfl (teq hc13_5).2 k) ?_
        show OGo _ _ _ _ (s₁.setTop (mkF m 16 #[.val (.int p1)] []))
        obtain ⟨T6, X6, e6, st6⟩ := getS2 X0 hx hZ hown (host := "") (Or.inl (own_w hw 11 rfl)) Via.refl e0 S_INTEGER (g := (mkF m 16 #[.val (.int p1)] [])) rfl (hb hby d2_16)
        refine OGo.via st6 ?_
        show OGo _ _ _ _ (T6.setTop (mkF m 19 #[.val (.int p1)] [(.ref w0)]))
        show OGo _ _ _ _ (T6.setTop (mkF m 19 #[.val (.int p1)] [(.ref w0)]))
        refine own_retA X6 hx Bd.notSynchronized Bd.returns rfl rfl (hb hby d2_19) (by decide) (by decide) ?_
        show Q_rm2 Z _ _ _ _ _ _ _ _ _ _ _ h0 n0 _ T6.heap _
        exact ⟨(by simp [own_col, hc3_1, hc8_3, hc13_5]), N0, e6⟩
      · refine OGo.via (fun _ k => XS.icmpYes X0.here hx rfl (pc0 := 13) (pc' := 20) rfl (hb hby d2_13) rfl (feq hc13_5).2 (by decide) (by decide) k) ?_
        show OGo _ _ _ _ (s₁.setTop (mkF m 20 #[.val (.int p1)] []))
        refine OGo.via (fun _ k => XS.iloadN X0.here hx rfl (hb hby d2_20) rfl (XS.bipush X0.here hx rfl (hb hby d2_21) k)) ?_
        by_cases hc23_7 : p1 = (-5 : Int32)
        · refine OGo.via (fun _ k => XS.icmpNo X0.here hx rfl (hb hby d2_23) rfl (teq hc23_7).2 k) ?_
          show OGo _ _ _ _ (s₁.setTop (mkF m 26 #[.val (.int p1)] []))
          obtain ⟨T8, X8, e8, st8⟩ := getS2 X0 hx hZ hown (host := "") (Or.inl (own_w hw 23 rfl)) Via.refl e0 S_LONG (g := (mkF m 26 #[.val (.int p1)] [])) rfl (hb hby d2_26)
          refine OGo.via st8 ?_
          show OGo _ _ _ _ (T8.setTop (mkF m 29 #[.val (.int p1)] [(.ref w1)]))
          show OGo _ _ _ _ (T8.setTop (mkF m 29 #[.val (.int p1)] [(.ref w1)]))
          refine own_retA X8 hx Bd.notSynchronized Bd.returns rfl rfl (hb hby d2_29) (by decide) (by decide) ?_
          show Q_rm2 Z _ _ _ _ _ _ _ _ _ _ _ h0 n0 _ T8.heap _
          exact ⟨(by simp [own_col, hc3_1, hc8_3, hc13_5, hc23_7]), N0, e8⟩
        · refine OGo.via (fun _ k => XS.icmpYes X0.here hx rfl (pc0 := 23) (pc' := 30) rfl (hb hby d2_23) rfl (feq hc23_7).2 (by decide) (by decide) k) ?_
          show OGo _ _ _ _ (s₁.setTop (mkF m 30 #[.val (.int p1)] []))
          refine OGo.via (fun _ k => XS.iloadN X0.here hx rfl (hb hby d2_30) rfl (XS.bipush X0.here hx rfl (hb hby d2_31) k)) ?_
          by_cases hc33_9 : p1 = (7 : Int32)
          · refine OGo.via (fun _ k => XS.icmpYes X0.here hx rfl (pc0 := 33) (pc' := 48) rfl (hb hby d2_33) rfl (teq hc33_9).1 (by decide) (by decide) k) ?_
            show OGo _ _ _ _ (s₁.setTop (mkF m 48 #[.val (.int p1)] []))
            obtain ⟨T10, X10, e10, st10⟩ := getS2 X0 hx hZ hown (host := "") (Or.inl (own_w hw 20 rfl)) Via.refl e0 S_DOUBLE (g := (mkF m 48 #[.val (.int p1)] [])) rfl (hb hby d2_48)
            refine OGo.via st10 ?_
            show OGo _ _ _ _ (T10.setTop (mkF m 51 #[.val (.int p1)] [(.ref w2)]))
            show OGo _ _ _ _ (T10.setTop (mkF m 51 #[.val (.int p1)] [(.ref w2)]))
            refine own_retA X10 hx Bd.notSynchronized Bd.returns rfl rfl (hb hby d2_51) (by decide) (by decide) ?_
            show Q_rm2 Z _ _ _ _ _ _ _ _ _ _ _ h0 n0 _ T10.heap _
            exact ⟨(by simp [own_col, hc3_1, hc8_3, hc13_5, hc23_7, hc33_9]), N0, e10⟩
          · refine OGo.via (fun _ k => XS.icmpNo X0.here hx rfl (hb hby d2_33) rfl (feq hc33_9).1 k) ?_
            show OGo _ _ _ _ (s₁.setTop (mkF m 36 #[.val (.int p1)] []))
            refine OGo.via (fun _ k => XS.iloadN X0.here hx rfl (hb hby d2_36) rfl (XS.bipush X0.here hx rfl (hb hby d2_37) k)) ?_
            by_cases hc39_11 : p1 = (6 : Int32)
            · refine OGo.via (fun _ k => XS.icmpYes X0.here hx rfl (pc0 := 39) (pc' := 48) rfl (hb hby d2_39) rfl (teq hc39_11).1 (by decide) (by decide) k) ?_
              show OGo _ _ _ _ (s₁.setTop (mkF m 48 #[.val (.int p1)] []))
              obtain ⟨T12, X12, e12, st12⟩ := getS2 X0 hx hZ hown (host := "") (Or.inl (own_w hw 20 rfl)) Via.refl e0 S_DOUBLE (g := (mkF m 48 #[.val (.int p1)] [])) rfl (hb hby d2_48)
              refine OGo.via st12 ?_
              show OGo _ _ _ _ (T12.setTop (mkF m 51 #[.val (.int p1)] [(.ref w2)]))
              show OGo _ _ _ _ (T12.setTop (mkF m 51 #[.val (.int p1)] [(.ref w2)]))
              refine own_retA X12 hx Bd.notSynchronized Bd.returns rfl rfl (hb hby d2_51) (by decide) (by decide) ?_
              show Q_rm2 Z _ _ _ _ _ _ _ _ _ _ _ h0 n0 _ T12.heap _
              exact ⟨(by simp [own_col, hc3_1, hc8_3, hc13_5, hc23_7, hc33_9, hc39_11]), N0, e12⟩
            · refine OGo.via (fun _ k => XS.icmpNo X0.here hx rfl (hb hby d2_39) rfl (feq hc39_11).1 k) ?_
              show OGo _ _ _ _ (s₁.setTop (mkF m 42 #[.val (.int p1)] []))
              refine OGo.via (fun _ k => XS.iloadN X0.here hx rfl (hb hby d2_42) rfl (XS.bipush X0.here hx rfl (hb hby d2_43) k)) ?_
              by_cases hc45_13 : p1 = (8 : Int32)
              · refine OGo.via (fun _ k => XS.icmpNo X0.here hx rfl (hb hby d2_45) rfl (teq hc45_13).2 k) ?_
                show OGo _ _ _ _ (s₁.setTop (mkF m 48 #[.val (.int p1)] []))
                obtain ⟨T14, X14, e14, st14⟩ := getS2 X0 hx hZ hown (host := "") (Or.inl (own_w hw 20 rfl)) Via.refl e0 S_DOUBLE (g := (mkF m 48 #[.val (.int p1)] [])) rfl (hb hby d2_48)
                refine OGo.via st14 ?_
                show OGo _ _ _ _ (T14.setTop (mkF m 51 #[.val (.int p1)] [(.ref w2)]))
                show OGo _ _ _ _ (T14.setTop (mkF m 51 #[.val (.int p1)] [(.ref w2)]))
                refine own_retA X14 hx Bd.notSynchronized Bd.returns rfl rfl (hb hby d2_51) (by decide) (by decide) ?_
                show Q_rm2 Z _ _ _ _ _ _ _ _ _ _ _ h0 n0 _ T14.heap _
                exact ⟨(by simp [own_col, hc3_1, hc8_3, hc13_5, hc23_7, hc33_9, hc39_11, hc45_13]), N0, e14⟩
              · refine OGo.via (fun _ k => XS.icmpYes X0.here hx rfl (pc0 := 45) (pc' := 52) rfl (hb hby d2_45) rfl (feq hc45_13).2 (by decide) (by decide) k) ?_
                show OGo _ _ _ _ (s₁.setTop (mkF m 52 #[.val (.int p1)] []))
                refine OGo.via (fun _ k => XS.iloadN X0.here hx rfl (hb hby d2_52) rfl (XS.iconst X0.here hx rfl (hb hby d2_53) k)) ?_
                by_cases hc54_15 : p1 = (2 : Int32)
                · refine OGo.via (fun _ k => XS.icmpYes X0.here hx rfl (pc0 := 54) (pc' := 62) rfl (hb hby d2_54) rfl (teq hc54_15).1 (by decide) (by decide) k) ?_
                  show OGo _ _ _ _ (s₁.setTop (mkF m 62 #[.val (.int p1)] []))
                  obtain ⟨T16, X16, e16, st16⟩ := getS2 X0 hx hZ hown (host := "") (Or.inl (own_w hw 14 rfl)) Via.refl e0 S_DECIMAL (g := (mkF m 62 #[.val (.int p1)] [])) rfl (hb hby d2_62)
                  refine OGo.via st16 ?_
                  show OGo _ _ _ _ (T16.setTop (mkF m 65 #[.val (.int p1)] [(.ref w3)]))
                  show OGo _ _ _ _ (T16.setTop (mkF m 65 #[.val (.int p1)] [(.ref w3)]))
                  refine own_retA X16 hx Bd.notSynchronized Bd.returns rfl rfl (hb hby d2_65) (by decide) (by decide) ?_
                  show Q_rm2 Z _ _ _ _ _ _ _ _ _ _ _ h0 n0 _ T16.heap _
                  exact ⟨(by simp [own_col, hc3_1, hc8_3, hc13_5, hc23_7, hc33_9, hc39_11, hc45_13, hc54_15]), N0, e16⟩
                · refine OGo.via (fun _ k => XS.icmpNo X0.here hx rfl (hb hby d2_54) rfl (feq hc54_15).1 k) ?_
                  show OGo _ _ _ _ (s₁.setTop (mkF m 57 #[.val (.int p1)] []))
                  refine OGo.via (fun _ k => XS.iloadN X0.here hx rfl (hb hby d2_57) rfl (XS.iconst X0.here hx rfl (hb hby d2_58) k)) ?_
                  by_cases hc59_17 : p1 = (3 : Int32)
                  · refine OGo.via (fun _ k => XS.icmpNo X0.here hx rfl (hb hby d2_59) rfl (teq hc59_17).2 k) ?_
                    show OGo _ _ _ _ (s₁.setTop (mkF m 62 #[.val (.int p1)] []))
                    obtain ⟨T18, X18, e18, st18⟩ := getS2 X0 hx hZ hown (host := "") (Or.inl (own_w hw 14 rfl)) Via.refl e0 S_DECIMAL (g := (mkF m 62 #[.val (.int p1)] [])) rfl (hb hby d2_62)
                    refine OGo.via st18 ?_
                    show OGo _ _ _ _ (T18.setTop (mkF m 65 #[.val (.int p1)] [(.ref w3)]))
                    show OGo _ _ _ _ (T18.setTop (mkF m 65 #[.val (.int p1)] [(.ref w3)]))
                    refine own_retA X18 hx Bd.notSynchronized Bd.returns rfl rfl (hb hby d2_65) (by decide) (by decide) ?_
                    show Q_rm2 Z _ _ _ _ _ _ _ _ _ _ _ h0 n0 _ T18.heap _
                    exact ⟨(by simp [own_col, hc3_1, hc8_3, hc13_5, hc23_7, hc33_9, hc39_11, hc45_13, hc54_15, hc59_17]), N0, e18⟩
                  · refine OGo.via (fun _ k => XS.icmpYes X0.here hx rfl (pc0 := 59) (pc' := 66) rfl (hb hby d2_59) rfl (feq hc59_17).2 (by decide) (by decide) k) ?_
                    show OGo _ _ _ _ (s₁.setTop (mkF m 66 #[.val (.int p1)] []))
                    refine OGo.via (fun _ k => XS.iloadN X0.here hx rfl (hb hby d2_66) rfl (XS.bipush X0.here hx rfl (hb hby d2_67) k)) ?_
                    by_cases hc69_19 : p1 = (-7 : Int32)
                    · refine OGo.via (fun _ k => XS.icmpYes X0.here hx rfl (pc0 := 69) (pc' := 78) rfl (hb hby d2_69) rfl (teq hc69_19).1 (by decide) (by decide) k) ?_
                      show OGo _ _ _ _ (s₁.setTop (mkF m 78 #[.val (.int p1)] []))
                      obtain ⟨T20, X20, e20, st20⟩ := getS2 X0 hx hZ hown (host := "") (Or.inl (own_w hw 29 rfl)) Via.refl e0 S_BOOLEAN (g := (mkF m 78 #[.val (.int p1)] [])) rfl (hb hby d2_78)
                      refine OGo.via st20 ?_
                      show OGo _ _ _ _ (T20.setTop (mkF m 81 #[.val (.int p1)] [(.ref w4)]))
                      show OGo _ _ _ _ (T20.setTop (mkF m 81 #[.val (.int p1)] [(.ref w4)]))
                      refine own_retA X20 hx Bd.notSynchronized Bd.returns rfl rfl (hb hby d2_81) (by decide) (by decide) ?_
                      show Q_rm2 Z _ _ _ _ _ _ _ _ _ _ _ h0 n0 _ T20.heap _
                      exact ⟨(by simp [own_col, hc3_1, hc8_3, hc13_5, hc23_7, hc33_9, hc39_11, hc45_13, hc54_15, hc59_17, hc69_19]), N0, e20⟩
                    · refine OGo.via (fun _ k => XS.icmpNo X0.here hx rfl (hb hby d2_69) rfl (feq hc69_19).1 k) ?_
                      show OGo _ _ _ _ (s₁.setTop (mkF m 72 #[.val (.int p1)] []))
                      refine OGo.via (fun _ k => XS.iloadN X0.here hx rfl (hb hby d2_72) rfl (XS.bipush X0.here hx rfl (hb hby d2_73) k)) ?_
                      by_cases hc75_21 : p1 = (16 : Int32)
                      · refine OGo.via (fun _ k => XS.icmpNo X0.here hx rfl (hb hby d2_75) rfl (teq hc75_21).2 k) ?_
                        show OGo _ _ _ _ (s₁.setTop (mkF m 78 #[.val (.int p1)] []))
                        obtain ⟨T22, X22, e22, st22⟩ := getS2 X0 hx hZ hown (host := "") (Or.inl (own_w hw 29 rfl)) Via.refl e0 S_BOOLEAN (g := (mkF m 78 #[.val (.int p1)] [])) rfl (hb hby d2_78)
                        refine OGo.via st22 ?_
                        show OGo _ _ _ _ (T22.setTop (mkF m 81 #[.val (.int p1)] [(.ref w4)]))
                        show OGo _ _ _ _ (T22.setTop (mkF m 81 #[.val (.int p1)] [(.ref w4)]))
                        refine own_retA X22 hx Bd.notSynchronized Bd.returns rfl rfl (hb hby d2_81) (by decide) (by decide) ?_
                        show Q_rm2 Z _ _ _ _ _ _ _ _ _ _ _ h0 n0 _ T22.heap _
                        exact ⟨(by simp [own_col, hc3_1, hc8_3, hc13_5, hc23_7, hc33_9, hc39_11, hc45_13, hc54_15, hc59_17, hc69_19, hc75_21]), N0, e22⟩
                      · refine OGo.via (fun _ k => XS.icmpYes X0.here hx rfl (pc0 := 75) (pc' := 82) rfl (hb hby d2_75) rfl (feq hc75_21).2 (by decide) (by decide) k) ?_
                        show OGo _ _ _ _ (s₁.setTop (mkF m 82 #[.val (.int p1)] []))
                        refine OGo.via (fun _ k => XS.iloadN X0.here hx rfl (hb hby d2_82) rfl (XS.bipush X0.here hx rfl (hb hby d2_83) k)) ?_
                        by_cases hc85_23 : p1 = (91 : Int32)
                        · refine OGo.via (fun _ k => XS.icmpNo X0.here hx rfl (hb hby d2_85) rfl (teq hc85_23).2 k) ?_
                          show OGo _ _ _ _ (s₁.setTop (mkF m 88 #[.val (.int p1)] []))
                          obtain ⟨T24, X24, e24, st24⟩ := getS2 X0 hx hZ hown (host := "") (Or.inl (own_w hw 38 rfl)) Via.refl e0 S_DATE (g := (mkF m 88 #[.val (.int p1)] [])) rfl (hb hby d2_88)
                          refine OGo.via st24 ?_
                          show OGo _ _ _ _ (T24.setTop (mkF m 91 #[.val (.int p1)] [(.ref w5)]))
                          show OGo _ _ _ _ (T24.setTop (mkF m 91 #[.val (.int p1)] [(.ref w5)]))
                          refine own_retA X24 hx Bd.notSynchronized Bd.returns rfl rfl (hb hby d2_91) (by decide) (by decide) ?_
                          show Q_rm2 Z _ _ _ _ _ _ _ _ _ _ _ h0 n0 _ T24.heap _
                          exact ⟨(by simp [own_col, hc3_1, hc8_3, hc13_5, hc23_7, hc33_9, hc39_11, hc45_13, hc54_15, hc59_17, hc69_19, hc75_21, hc85_23]), N0, e24⟩
                        · refine OGo.via (fun _ k => XS.icmpYes X0.here hx rfl (pc0 := 85) (pc' := 92) rfl (hb hby d2_85) rfl (feq hc85_23).2 (by decide) (by decide) k) ?_
                          show OGo _ _ _ _ (s₁.setTop (mkF m 92 #[.val (.int p1)] []))
                          refine OGo.via (fun _ k => XS.iloadN X0.here hx rfl (hb hby d2_92) rfl (XS.bipush X0.here hx rfl (hb hby d2_93) k)) ?_
                          by_cases hc95_25 : p1 = (92 : Int32)
                          · refine OGo.via (fun _ k => XS.icmpYes X0.here hx rfl (pc0 := 95) (pc' := 105) rfl (hb hby d2_95) rfl (teq hc95_25).1 (by decide) (by decide) k) ?_
                            show OGo _ _ _ _ (s₁.setTop (mkF m 105 #[.val (.int p1)] []))
                            obtain ⟨T26, X26, e26, st26⟩ := getS2 X0 hx hZ hown (host := "") (Or.inl (own_w hw 35 rfl)) Via.refl e0 S_TIME (g := (mkF m 105 #[.val (.int p1)] [])) rfl (hb hby d2_105)
                            refine OGo.via st26 ?_
                            show OGo _ _ _ _ (T26.setTop (mkF m 108 #[.val (.int p1)] [(.ref w6)]))
                            show OGo _ _ _ _ (T26.setTop (mkF m 108 #[.val (.int p1)] [(.ref w6)]))
                            refine own_retA X26 hx Bd.notSynchronized Bd.returns rfl rfl (hb hby d2_108) (by decide) (by decide) ?_
                            show Q_rm2 Z _ _ _ _ _ _ _ _ _ _ _ h0 n0 _ T26.heap _
                            exact ⟨(by simp [own_col, hc3_1, hc8_3, hc13_5, hc23_7, hc33_9, hc39_11, hc45_13, hc54_15, hc59_17, hc69_19, hc75_21, hc85_23, hc95_25]), N0, e26⟩
                          · refine OGo.via (fun _ k => XS.icmpNo X0.here hx rfl (hb hby d2_95) rfl (feq hc95_25).1 k) ?_
                            show OGo _ _ _ _ (s₁.setTop (mkF m 98 #[.val (.int p1)] []))
                            refine OGo.via (fun _ k => XS.iloadN X0.here hx rfl (hb hby d2_98) rfl (XS.sipush X0.here hx rfl (hb hby d2_99) k)) ?_
                            by_cases hc102_27 : p1 = (2013 : Int32)
                            · refine OGo.via (fun _ k => XS.icmpNo X0.here hx rfl (hb hby d2_102) rfl (teq hc102_27).2 k) ?_
                              show OGo _ _ _ _ (s₁.setTop (mkF m 105 #[.val (.int p1)] []))
                              obtain ⟨T28, X28, e28, st28⟩ := getS2 X0 hx hZ hown (host := "") (Or.inl (own_w hw 35 rfl)) Via.refl e0 S_TIME (g := (mkF m 105 #[.val (.int p1)] [])) rfl (hb hby d2_105)
                              refine OGo.via st28 ?_
                              show OGo _ _ _ _ (T28.setTop (mkF m 108 #[.val (.int p1)] [(.ref w6)]))
                              show OGo _ _ _ _ (T28.setTop (mkF m 108 #[.val (.int p1)] [(.ref w6)]))
                              refine own_retA X28 hx Bd.notSynchronized Bd.returns rfl rfl (hb hby d2_108) (by decide) (by decide) ?_
                              show Q_rm2 Z _ _ _ _ _ _ _ _ _ _ _ h0 n0 _ T28.heap _
                              exact ⟨(by simp [own_col, hc3_1, hc8_3, hc13_5, hc23_7, hc33_9, hc39_11, hc45_13, hc54_15, hc59_17, hc69_19, hc75_21, hc85_23, hc95_25, hc102_27]), N0, e28⟩
                            · refine OGo.via (fun _ k => XS.icmpYes X0.here hx rfl (pc0 := 102) (pc' := 109) rfl (hb hby d2_102) rfl (feq hc102_27).2 (by decide) (by decide) k) ?_
                              show OGo _ _ _ _ (s₁.setTop (mkF m 109 #[.val (.int p1)] []))
                              refine OGo.via (fun _ k => XS.iloadN X0.here hx rfl (hb hby d2_109) rfl (XS.bipush X0.here hx rfl (hb hby d2_110) k)) ?_
                              by_cases hc112_29 : p1 = (93 : Int32)
                              · refine OGo.via (fun _ k => XS.icmpYes X0.here hx rfl (pc0 := 112) (pc' := 122) rfl (hb hby d2_112) rfl (teq hc112_29).1 (by decide) (by decide) k) ?_
                                show OGo _ _ _ _ (s₁.setTop (mkF m 122 #[.val (.int p1)] []))
                                obtain ⟨T30, X30, e30, st30⟩ := getS2 X0 hx hZ hown (host := "") (Or.inl (own_w hw 26 rfl)) Via.refl e0 S_TIMESTAMP (g := (mkF m 122 #[.val (.int p1)] [])) rfl (hb hby d2_122)
                                refine OGo.via st30 ?_
                                show OGo _ _ _ _ (T30.setTop (mkF m 125 #[.val (.int p1)] [(.ref w7)]))
                                show OGo _ _ _ _ (T30.setTop (mkF m 125 #[.val (.int p1)] [(.ref w7)]))
                                refine own_retA X30 hx Bd.notSynchronized Bd.returns rfl rfl (hb hby d2_125) (by decide) (by decide) ?_
                                show Q_rm2 Z _ _ _ _ _ _ _ _ _ _ _ h0 n0 _ T30.heap _
                                exact ⟨(by simp [own_col, hc3_1, hc8_3, hc13_5, hc23_7, hc33_9, hc39_11, hc45_13, hc54_15, hc59_17, hc69_19, hc75_21, hc85_23, hc95_25, hc102_27, hc112_29]), N0, e30⟩
                              · refine OGo.via (fun _ k => XS.icmpNo X0.here hx rfl (hb hby d2_112) rfl (feq hc112_29).1 k) ?_
                                show OGo _ _ _ _ (s₁.setTop (mkF m 115 #[.val (.int p1)] []))
                                refine OGo.via (fun _ k => XS.iloadN X0.here hx rfl (hb hby d2_115) rfl (XS.sipush X0.here hx rfl (hb hby d2_116) k)) ?_
                                by_cases hc119_31 : p1 = (2014 : Int32)
                                · refine OGo.via (fun _ k => XS.icmpNo X0.here hx rfl (hb hby d2_119) rfl (teq hc119_31).2 k) ?_
                                  show OGo _ _ _ _ (s₁.setTop (mkF m 122 #[.val (.int p1)] []))
                                  obtain ⟨T32, X32, e32, st32⟩ := getS2 X0 hx hZ hown (host := "") (Or.inl (own_w hw 26 rfl)) Via.refl e0 S_TIMESTAMP (g := (mkF m 122 #[.val (.int p1)] [])) rfl (hb hby d2_122)
                                  refine OGo.via st32 ?_
                                  show OGo _ _ _ _ (T32.setTop (mkF m 125 #[.val (.int p1)] [(.ref w7)]))
                                  show OGo _ _ _ _ (T32.setTop (mkF m 125 #[.val (.int p1)] [(.ref w7)]))
                                  refine own_retA X32 hx Bd.notSynchronized Bd.returns rfl rfl (hb hby d2_125) (by decide) (by decide) ?_
                                  show Q_rm2 Z _ _ _ _ _ _ _ _ _ _ _ h0 n0 _ T32.heap _
                                  exact ⟨(by simp [own_col, hc3_1, hc8_3, hc13_5, hc23_7, hc33_9, hc39_11, hc45_13, hc54_15, hc59_17, hc69_19, hc75_21, hc85_23, hc95_25, hc102_27, hc112_29, hc119_31]), N0, e32⟩
                                · refine OGo.via (fun _ k => XS.icmpYes X0.here hx rfl (pc0 := 119) (pc' := 126) rfl (hb hby d2_119) rfl (feq hc119_31).2 (by decide) (by decide) k) ?_
                                  show OGo _ _ _ _ (s₁.setTop (mkF m 126 #[.val (.int p1)] []))
                                  refine OGo.via (fun _ k => XS.iloadN X0.here hx rfl (hb hby d2_126) rfl (XS.bipush X0.here hx rfl (hb hby d2_127) k)) ?_
                                  by_cases hc129_33 : p1 = (-2 : Int32)
                                  · refine OGo.via (fun _ k => XS.icmpYes X0.here hx rfl (pc0 := 129) (pc' := 151) rfl (hb hby d2_129) rfl (teq hc129_33).1 (by decide) (by decide) k) ?_
                                    show OGo _ _ _ _ (s₁.setTop (mkF m 151 #[.val (.int p1)] []))
                                    obtain ⟨T34, X34, e34, st34⟩ := getS2 X0 hx hZ hown (host := "") (Or.inl (own_w hw 32 rfl)) Via.refl e0 S_BINARY (g := (mkF m 151 #[.val (.int p1)] [])) rfl (hb hby d2_151)
                                    refine OGo.via st34 ?_
                                    show OGo _ _ _ _ (T34.setTop (mkF m 154 #[.val (.int p1)] [(.ref w8)]))
                                    show OGo _ _ _ _ (T34.setTop (mkF m 154 #[.val (.int p1)] [(.ref w8)]))
                                    refine own_retA X34 hx Bd.notSynchronized Bd.returns rfl rfl (hb hby d2_154) (by decide) (by decide) ?_
                                    show Q_rm2 Z _ _ _ _ _ _ _ _ _ _ _ h0 n0 _ T34.heap _
                                    exact ⟨(by simp [own_col, hc3_1, hc8_3, hc13_5, hc23_7, hc33_9, hc39_11, hc45_13, hc54_15, hc59_17, hc69_19, hc75_21, hc85_23, hc95_25, hc102_27, hc112_29, hc119_31, hc129_33]), N0, e34⟩
                                  · refine OGo.via (fun _ k => XS.icmpNo X0.here hx rfl (hb hby d2_129) rfl (feq hc129_33).1 k) ?_
                                    show OGo _ _ _ _ (s₁.setTop (mkF m 132 #[.val (.int p1)] []))
                                    refine OGo.via (fun _ k => XS.iloadN X0.here hx rfl (hb hby d2_132) rfl (XS.bipush X0.here hx rfl (hb hby d2_133) k)) ?_
                                    by_cases hc135_35 : p1 = (-3 : Int32)
                                    · refine OGo.via (fun _ k => XS.icmpYes X0.here hx rfl (pc0 := 135) (pc' := 151) rfl (hb hby d2_135) rfl (teq hc135_35).1 (by decide) (by decide) k) ?_
                                      show OGo _ _ _ _ (s₁.setTop (mkF m 151 #[.val (.int p1)] []))
                                      obtain ⟨T36, X36, e36, st36⟩ := getS2 X0 hx hZ hown (host := "") (Or.inl (own_w hw 32 rfl)) Via.refl e0 S_BINARY (g := (mkF m 151 #[.val (.int p1)] [])) rfl (hb hby d2_151)
                                      refine OGo.via st36 ?_
                                      show OGo _ _ _ _ (T36.setTop (mkF m 154 #[.val (.int p1)] [(.ref w8)]))
                                      show OGo _ _ _ _ (T36.setTop (mkF m 154 #[.val (.int p1)] [(.ref w8)]))
                                      refine own_retA X36 hx Bd.notSynchronized Bd.returns rfl rfl (hb hby d2_154) (by decide) (by decide) ?_
                                      show Q_rm2 Z _ _ _ _ _ _ _ _ _ _ _ h0 n0 _ T36.heap _
                                      exact ⟨(by simp [own_col, hc3_1, hc8_3, hc13_5, hc23_7, hc33_9, hc39_11, hc45_13, hc54_15, hc59_17, hc69_19, hc75_21, hc85_23, hc95_25, hc102_27, hc112_29, hc119_31, hc129_33, hc135_35]), N0, e36⟩
                                    · refine OGo.via (fun _ k => XS.icmpNo X0.here hx rfl (hb hby d2_135) rfl (feq hc135_35).1 k) ?_
                                      show OGo _ _ _ _ (s₁.setTop (mkF m 138 #[.val (.int p1)] []))
                                      refine OGo.via (fun _ k => XS.iloadN X0.here hx rfl (hb hby d2_138) rfl (XS.bipush X0.here hx rfl (hb hby d2_139) k)) ?_
                                      by_cases hc141_37 : p1 = (-4 : Int32)
                                      · refine OGo.via (fun _ k => XS.icmpYes X0.here hx rfl (pc0 := 141) (pc' := 151) rfl (hb hby d2_141) rfl (teq hc141_37).1 (by decide) (by decide) k) ?_
                                        show OGo _ _ _ _ (s₁.setTop (mkF m 151 #[.val (.int p1)] []))
                                        obtain ⟨T38, X38, e38, st38⟩ := getS2 X0 hx hZ hown (host := "") (Or.inl (own_w hw 32 rfl)) Via.refl e0 S_BINARY (g := (mkF m 151 #[.val (.int p1)] [])) rfl (hb hby d2_151)
                                        refine OGo.via st38 ?_
                                        show OGo _ _ _ _ (T38.setTop (mkF m 154 #[.val (.int p1)] [(.ref w8)]))
                                        show OGo _ _ _ _ (T38.setTop (mkF m 154 #[.val (.int p1)] [(.ref w8)]))
                                        refine own_retA X38 hx Bd.notSynchronized Bd.returns rfl rfl (hb hby d2_154) (by decide) (by decide) ?_
                                        show Q_rm2 Z _ _ _ _ _ _ _ _ _ _ _ h0 n0 _ T38.heap _
                                        exact ⟨(by simp [own_col, hc3_1, hc8_3, hc13_5, hc23_7, hc33_9, hc39_11, hc45_13, hc54_15, hc59_17, hc69_19, hc75_21, hc85_23, hc95_25, hc102_27, hc112_29, hc119_31, hc129_33, hc135_35, hc141_37]), N0, e38⟩
                                      · refine OGo.via (fun _ k => XS.icmpNo X0.here hx rfl (hb hby d2_141) rfl (feq hc141_37).1 k) ?_
                                        show OGo _ _ _ _ (s₁.setTop (mkF m 144 #[.val (.int p1)] []))
                                        refine OGo.via (fun _ k => XS.iloadN X0.here hx rfl (hb hby d2_144) rfl (XS.sipush X0.here hx rfl (hb hby d2_145) k)) ?_
                                        by_cases hc148_39 : p1 = (2004 : Int32)
                                        · refine OGo.via (fun _ k => XS.icmpNo X0.here hx rfl (hb hby d2_148) rfl (teq hc148_39).2 k) ?_
                                          show OGo _ _ _ _ (s₁.setTop (mkF m 151 #[.val (.int p1)] []))
                                          obtain ⟨T40, X40, e40, st40⟩ := getS2 X0 hx hZ hown (host := "") (Or.inl (own_w hw 32 rfl)) Via.refl e0 S_BINARY (g := (mkF m 151 #[.val (.int p1)] [])) rfl (hb hby d2_151)
                                          refine OGo.via st40 ?_
                                          show OGo _ _ _ _ (T40.setTop (mkF m 154 #[.val (.int p1)] [(.ref w8)]))
                                          show OGo _ _ _ _ (T40.setTop (mkF m 154 #[.val (.int p1)] [(.ref w8)]))
                                          refine own_retA X40 hx Bd.notSynchronized Bd.returns rfl rfl (hb hby d2_154) (by decide) (by decide) ?_
                                          show Q_rm2 Z _ _ _ _ _ _ _ _ _ _ _ h0 n0 _ T40.heap _
                                          exact ⟨(by simp [own_col, hc3_1, hc8_3, hc13_5, hc23_7, hc33_9, hc39_11, hc45_13, hc54_15, hc59_17, hc69_19, hc75_21, hc85_23, hc95_25, hc102_27, hc112_29, hc119_31, hc129_33, hc135_35, hc141_37, hc148_39]), N0, e40⟩
                                        · refine OGo.via (fun _ k => XS.icmpYes X0.here hx rfl (pc0 := 148) (pc' := 155) rfl (hb hby d2_148) rfl (feq hc148_39).2 (by decide) (by decide) k) ?_
                                          show OGo _ _ _ _ (s₁.setTop (mkF m 155 #[.val (.int p1)] []))
                                          obtain ⟨T41, X41, e41, st41⟩ := getS2 X0 hx hZ hown (host := "") (Or.inl (own_w hw 17 rfl)) Via.refl e0 S_STRING (g := (mkF m 155 #[.val (.int p1)] [])) rfl (hb hby d2_155)
                                          refine OGo.via st41 ?_
                                          show OGo _ _ _ _ (T41.setTop (mkF m 158 #[.val (.int p1)] [(.ref w9)]))
                                          show OGo _ _ _ _ (T41.setTop (mkF m 158 #[.val (.int p1)] [(.ref w9)]))
                                          refine own_retA X41 hx Bd.notSynchronized Bd.returns rfl rfl (hb hby d2_158) (by decide) (by decide) ?_
                                          show Q_rm2 Z _ _ _ _ _ _ _ _ _ _ _ h0 n0 _ T41.heap _
                                          exact ⟨(by simp [own_col, hc3_1, hc8_3, hc13_5, hc23_7, hc33_9, hc39_11, hc45_13, hc54_15, hc59_17, hc69_19, hc75_21, hc85_23, hc95_25, hc102_27, hc112_29, hc119_31, hc129_33, hc135_35, hc141_37, hc148_39]), N0, e41⟩
theorem pd_0 : parseMethodDescriptor "(I)Lcom/example/fetch_pages/fetchpages/db/ColumnType;" = some ⟨[.int], some (.object "com/example/fetch_pages/fetchpages/db/ColumnType")⟩ := by decide +kernel
theorem ef_rm0 (m : MethodId) (p1 : Int32) (p2 : Int32) : entryFrame m #[(.int p1), (.int p2)] maxLocals = mkF m 0 #[.val (.int p1), .val (.int p2), .unset, .unset, .unset] [] := by first | (simp [entryFrame, mkF, argsToLocals, Value.category, maxLocals]; done) | rfl
def Q_rm0 (Z : State) (p1 : Int32) (p2 : Int32) (w0 : Addr) (w1 : Addr) (w2 : Addr) (w3 : Addr) (w4 : Addr) (w5 : Addr) (w6 : Addr) (w7 : Addr) (w8 : Addr) (w9 : Addr) (h0 : Heap) (n0 : Nat) (v : Option Value) (h : Heap) (L : List Loc) : Prop := v = some (.int (1 : Int32)) ∧ Fr n0 L
set_option maxRecDepth 65536 in
set_option maxHeartbeats 40000000 in
theorem rm0 (l : Launch) (Z : State) (a0 : Array Value) (hw : ∀ d ∈ tables_1, d.before a0 Z = true) (ws : List Jvm.Cond) (p1 : Int32) (p2 : Int32) (w0 : Addr) (w1 : Addr) (w2 : Addr) (w3 : Addr) (w4 : Addr) (w5 : Addr) (w6 : Addr) (w7 : Addr) (w8 : Addr) (w9 : Addr) (h0 : Heap) (n0 : Nat) (Z0 : n0 ≤ h0.size) (S_INTEGER : Sta Z h0 "com/example/fetch_pages/fetchpages/db/ColumnType" "INTEGER" "Lcom/example/fetch_pages/fetchpages/db/ColumnType;" (.ref w0)) (S_LONG : Sta Z h0 "com/example/fetch_pages/fetchpages/db/ColumnType" "LONG" "Lcom/example/fetch_pages/fetchpages/db/ColumnType;" (.ref w1)) (S_DOUBLE : Sta Z h0 "com/example/fetch_pages/fetchpages/db/ColumnType" "DOUBLE" "Lcom/example/fetch_pages/fetchpages/db/ColumnType;" (.ref w2)) (S_DECIMAL : Sta Z h0 "com/example/fetch_pages/fetchpages/db/ColumnType" "DECIMAL" "Lcom/example/fetch_pages/fetchpages/db/ColumnType;" (.ref w3)) (S_BOOLEAN : Sta Z h0 "com/example/fetch_pages/fetchpages/db/ColumnType" "BOOLEAN" "Lcom/example/fetch_pages/fetchpages/db/ColumnType;" (.ref w4)) (S_DATE : Sta Z h0 "com/example/fetch_pages/fetchpages/db/ColumnType" "DATE" "Lcom/example/fetch_pages/fetchpages/db/ColumnType;" (.ref w5)) (S_TIME : Sta Z h0 "com/example/fetch_pages/fetchpages/db/ColumnType" "TIME" "Lcom/example/fetch_pages/fetchpages/db/ColumnType;" (.ref w6)) (S_TIMESTAMP : Sta Z h0 "com/example/fetch_pages/fetchpages/db/ColumnType" "TIMESTAMP" "Lcom/example/fetch_pages/fetchpages/db/ColumnType;" (.ref w7)) (S_BINARY : Sta Z h0 "com/example/fetch_pages/fetchpages/db/ColumnType" "BINARY" "Lcom/example/fetch_pages/fetchpages/db/ColumnType;" (.ref w8)) (S_STRING : Sta Z h0 "com/example/fetch_pages/fetchpages/db/ColumnType" "STRING" "Lcom/example/fetch_pages/fetchpages/db/ColumnType;" (.ref w9)) :
    MetFree l x (head1 (Jvm.Cond.code x code maxLocals ret :: ws) room_1) (fun a U => a = #[(.int p1), (.int p2)] ∧ Z.Warmed39 U.vm ∧ U.heap = h0) (fun _ _ _ _ _ => True) (fun _ U o U' => ∃ v L, o = .returned v ∧ Q_rm0 Z p1 p2 w0 w1 w2 w3 w4 w5 w6 w7 w8 w9 h0 n0 v U'.heap L ∧ FrameEnd U o U' L room_1.cells room_1.slots) := by
  refine MetFree.of_bodySF (plainFor_of_name pn_ColumnTypeOfPinLaw) hisR ?_
  intro p e s m args below meth c s₁ Bd hml0 hP hK
  obtain ⟨rfl, hZ, hh⟩ := hP
  have hx := Bd.exec
  have hby := Bd.bytes
  have hml : c.maxLocals = 5 := hml0
  have hown : s.vm.findClass "com/example/fetch_pages/fetchpages/db/ColumnTypeOfPinLaw" = some m.cls := findClass_of_methodNamed Bd.named
  have hnm := (name_of_methodNamed Bd.named Bd.method).1
  have X0 : Stand p l e room_1 s m #[(.int p1), (.int p2)] below meth c s₁ [] 0 0 := Stand.of_body Bd
  have e0 : s₁.heap = h0 := by rw [← hh, Bd.state]; rfl
  have N0 := Fr.nil n0
  show OGo p.tables e below (own_Kq s (fun v h L => Q_rm0 Z p1 p2 w0 w1 w2 w3 w4 w5 w6 w7 w8 w9 h0 n0 v h L) room_1.cells room_1.slots) (s₁.setTop (entryFrame m #[(.int p1), (.int p2)] maxLocals))
  refine OGo.cast (ef_rm0 m p1 p2) ?_
  show OGo _ _ _ _ (s₁.setTop (mkF m 0 #[.val (.int p1), .val (.int p2), .unset, .unset, .unset] []))
  refine OGo.via (fun _ k => XS.bipush X0.here hx rfl (hb hby at_0) k) ?_
  obtain ⟨T1, h1, ka1, X1, e1, E1, A1, Y1, st1⟩ := newPE (ad := "[I") X0 hx hZ (own_w hw 0 rfl) e0 (g := (mkF m 2 #[.val (.int p1), .val (.int p2), .unset, .unset, .unset] [(.int (32 : Int32))])) rfl (hb hby at_2) rfl (by decide) (cap := 32) (by decide) (by decide) (by decide) (by decide) (by decide)
  obtain ⟨b1, g1⟩ : ∃ z, z = h0.size := ⟨_, rfl⟩
  rw [← g1] at A1 Y1 st1
  refine OGo.via st1 ?_
  have K1 : Keep h0 h1 [] := (Keep.refl h0 []).ext E1
  have sz_b1 : h0.size ≤ b1 := Nat.le_trans (Keep.refl h0 []).1 (Nat.le_of_eq g1.symm)
  have g_b1 : n0 ≤ b1 := Nat.le_trans Z0 sz_b1
  have V1 : Arv Z h1 b1 ka1 .int (32 : Int32) [(.int (0 : Int32)), (.int (0 : Int32)), (.int (0 : Int32)), (.int (0 : Int32)), (.int (0 : Int32)), (.int (0 : Int32)), (.int (0 : Int32)), (.int (0 : Int32)), (.int (0 : Int32)), (.int (0 : Int32)), (.int (0 : Int32)), (.int (0 : Int32)), (.int (0 : Int32)), (.int (0 : Int32)), (.int (0 : Int32)), (.int (0 : Int32)), (.int (0 : Int32)), (.int (0 : Int32)), (.int (0 : Int32)), (.int (0 : Int32)), (.int (0 : Int32)), (.int (0 : Int32)), (.int (0 : Int32)), (.int (0 : Int32)), (.int (0 : Int32)), (.int (0 : Int32)), (.int (0 : Int32)), (.int (0 : Int32)), (.int (0 : Int32)), (.int (0 : Int32)), (.int (0 : Int32)), (.int (0 : Int32))] (.int (0 : Int32)) := (Arv.new A1 (by decide)).pad (pad_rep [] (.int (0 : Int32)) 32)
  show OGo _ _ _ _ (T1.setTop (mkF m 4 #[.val (.int p1), .val (.int p2), .unset, .unset, .unset] [(.ref b1)]))
  refine OGo.via (fun _ k => XS.dup X1.here hx rfl (hb hby at_4) rfl rfl (XS.iconst X1.here hx rfl (hb hby at_5) (XS.bipush X1.here hx rfl (hb hby at_6) k))) ?_
  obtain ⟨cl2, Ar2, q2, Sz2, Ng2, Hs2, Gf2⟩ := id V1
  have hin2 : ¬ ((0 : Int32) < 0 ∨ cl2.slots.size ≤ ((0 : Int32)).toNatClampNeg) := inb_of Sz2 ⟨by decide, by decide⟩
  obtain ⟨T2, h2, X2, e2, W2, st2⟩ := stI X1 hx hZ e1 Ar2 (j := (0 : Int32)) hin2 (g := (mkF m 8 #[.val (.int p1), .val (.int p2), .unset, .unset, .unset] [(.int (-6 : Int32)), (.int (0 : Int32)), (.ref b1), (.ref b1)])) rfl rfl (hb hby at_8)
  refine OGo.via st2 ?_
  have V2 : Arv Z h2 b1 ka1 .int (32 : Int32) [(.int (-6 : Int32)), (.int (0 : Int32)), (.int (0 : Int32)), (.int (0 : Int32)), (.int (0 : Int32)), (.int (0 : Int32)), (.int (0 : Int32)), (.int (0 : Int32)), (.int (0 : Int32)), (.int (0 : Int32)), (.int (0 : Int32)), (.int (0 : Int32)), (.int (0 : Int32)), (.int (0 : Int32)), (.int (0 : Int32)), (.int (0 : Int32)), (.int (0 : Int32)), (.int (0 : Int32)), (.int (0 : Int32)), (.int (0 : Int32)), (.int (0 : Int32)), (.int (0 : Int32)), (.int (0 : Int32)), (.int (0 : Int32)), (.int (0 : Int32)), (.int (0 : Int32)), (.int (0 : Int32)), (.int (0 : Int32)), (.int (0 : Int32)), (.int (0 : Int32)), (.int (0 : Int32)), (.int (0 : Int32))] (.int (0 : Int32)) := Arv.set Ar2 q2 Sz2 Ng2 Hs2 Gf2 rfl W2 0 rfl (Nat.le_of_ble_eq_true rfl)
  have K2 : Keep h0 h2 [] := K1.wr W2 (Or.inr sz_b1)
  have N2 := Fr.snoc X2 N0 g_b1
  show OGo _ _ _ _ (T2.setTop (mkF m 9 #[.val (.int p1), .val (.int p2), .unset, .unset, .unset] [(.ref b1)]))
  refine OGo.via (fun _ k => XS.dup X2.here hx rfl (hb hby at_9) rfl rfl (XS.iconst X2.here hx rfl (hb hby at_10) (XS.iconst X2.here hx rfl (hb hby at_11) k))) ?_
  obtain ⟨cl3, Ar3, q3, Sz3, Ng3, Hs3, Gf3⟩ := id V2
  have hin3 : ¬ ((1 : Int32) < 0 ∨ cl3.slots.size ≤ ((1 : Int32)).toNatClampNeg) := inb_of Sz3 ⟨by decide, by decide⟩
  obtain ⟨T3, h3, X3, e3, W3, st3⟩ := stI X2 hx hZ e2 Ar3 (j := (1 : Int32)) hin3 (g := (mkF m 12 #[.val (.int p1), .val (.int p2), .unset, .unset, .unset] [(.int (5 : Int32)), (.int (1 : Int32)), (.ref b1), (.ref b1)])) rfl rfl (hb hby at_12)
  refine OGo.via st3 ?_
  have V3 : Arv Z h3 b1 ka1 .int (32 : Int32) [(.int (-6 : Int32)), (.int (5 : Int32)), (.int (0 : Int32)), (.int (0 : Int32)), (.int (0 : Int32)), (.int (0 : Int32)), (.int (0 : Int32)), (.int (0 : Int32)), (.int (0 : Int32)), (.int (0 : Int32)), (.int (0 : Int32)), (.int (0 : Int32)), (.int (0 : Int32)), (.int (0 : Int32)), (.int (0 : Int32)), (.int (0 : Int32)), (.int (0 : Int32)), (.int (0 : Int32)), (.int (0 : Int32)), (.int (0 : Int32)), (.int (0 : Int32)), (.int (0 : Int32)), (.int (0 : Int32)), (.int (0 : Int32)), (.int (0 : Int32)), (.int (0 : Int32)), (.int (0 : Int32)), (.int (0 : Int32)), (.int (0 : Int32)), (.int (0 : Int32)), (.int (0 : Int32)), (.int (0 : Int32))] (.int (0 : Int32)) := Arv.set Ar3 q3 Sz3 Ng3 Hs3 Gf3 rfl W3 1 rfl (Nat.le_of_ble_eq_true rfl)
  have K3 : Keep h0 h3 [] := K2.wr W3 (Or.inr sz_b1)
  have N3 := Fr.snoc X3 N2 g_b1
  show OGo _ _ _ _ (T3.setTop (mkF m 13 #[.val (.int p1), .val (.int p2), .unset, .unset, .unset] [(.ref b1)]))
  refine OGo.via (fun _ k => XS.dup X3.here hx rfl (hb hby at_13) rfl rfl (XS.iconst X3.here hx rfl (hb hby at_14) (XS.iconst X3.here hx rfl (hb hby at_15) k))) ?_
  obtain ⟨cl4, Ar4, q4, Sz4, Ng4, Hs4, Gf4⟩ := id V3
  have hin4 : ¬ ((2 : Int32) < 0 ∨ cl4.slots.size ≤ ((2 : Int32)).toNatClampNeg) := inb_of Sz4 ⟨by decide, by decide⟩
  obtain ⟨T4, h4, X4, e4, W4, st4⟩ := stI X3 hx hZ e3 Ar4 (j := (2 : Int32)) hin4 (g := (mkF m 16 #[.val (.int p1), .val (.int p2), .unset, .unset, .unset] [(.int (4 : Int32)), (.int (2 : Int32)), (.ref b1), (.ref b1)])) rfl rfl (hb hby at_16)
  refine OGo.via st4 ?_
  have V4 : Arv Z h4 b1 ka1 .int (32 : Int32) [(.int (-6 : Int32)), (.int (5 : Int32)), (.int (4 : Int32)), (.int (0 : Int32)), (.int (0 : Int32)), (.int (0 : Int32)), (.int (0 : Int32)), (.int (0 : Int32)), (.int (0 : Int32)), (.int (0 : Int32)), (.int (0 : Int32)), (.int (0 : Int32)), (.int (0 : Int32)), (.int (0 : Int32)), (.int (0 : Int32)), (.int (0 : Int32)), (.int (0 : Int32)), (.int (0 : Int32)), (.int (0 : Int32)), (.int (0 : Int32)), (.int (0 : Int32)), (.int (0 : Int32)), (.int (0 : Int32)), (.int (0 : Int32)), (.int (0 : Int32)), (.int (0 : Int32)), (.int (0 : Int32)), (.int (0 : Int32)), (.int (0 : Int32)), (.int (0 : Int32)), (.int (0 : Int32)), (.int (0 : Int32))] (.int (0 : Int32)) := Arv.set Ar4 q4 Sz4 Ng4 Hs4 Gf4 rfl W4 2 rfl (Nat.le_of_ble_eq_true rfl)
  have K4 : Keep h0 h4 [] := K3.wr W4 (Or.inr sz_b1)
  have N4 := Fr.snoc X4 N3 g_b1
  show OGo _ _ _ _ (T4.setTop (mkF m 17 #[.val (.int p1), .val (.int p2), .unset, .unset, .unset] [(.ref b1)]))
  refine OGo.via (fun _ k => XS.dup X4.here hx rfl (hb hby at_17) rfl rfl (XS.iconst X4.here hx rfl (hb hby at_18) (XS.bipush X4.here hx rfl (hb hby at_19) k))) ?_
  obtain ⟨cl5, Ar5, q5, Sz5, Ng5, Hs5, Gf5⟩ := id V4
  have hin5 : ¬ ((3 : Int32) < 0 ∨ cl5.slots.size ≤ ((3 : Int32)).toNatClampNeg) := inb_of Sz5 ⟨by decide, by decide⟩
  obtain ⟨T5, h5, X5, e5, W5, st5⟩ := stI X4 hx hZ e4 Ar5 (j := (3 : Int32)) hin5 (g := (mkF m 21 #[.val (.int p1), .val (.int p2), .unset, .unset, .unset] [(.int (-5 : Int32)), (.int (3 : Int32)), (.ref b1), (.ref b1)])) rfl rfl (hb hby at_21)
  refine OGo.via st5 ?_
  have V5 : Arv Z h5 b1 ka1 .int (32 : Int32) [(.int (-6 : Int32)), (.int (5 : Int32)), (.int (4 : Int32)), (.int (-5 : Int32)), (.int (0 : Int32)), (.int (0 : Int32)), (.int (0 : Int32)), (.int (0 : Int32)), (.int (0 : Int32)), (.int (0 : Int32)), (.int (0 : Int32)), (.int (0 : Int32)), (.int (0 : Int32)), (.int (0 : Int32)), (.int (0 : Int32)), (.int (0 : Int32)), (.int (0 : Int32)), (.int (0 : Int32)), (.int (0 : Int32)), (.int (0 : Int32)), (.int (0 : Int32)), (.int (0 : Int32)), (.int (0 : Int32)), (.int (0 : Int32)), (.int (0 : Int32)), (.int (0 : Int32)), (.int (0 : Int32)), (.int (0 : Int32)), (.int (0 : Int32)), (.int (0 : Int32)), (.int (0 : Int32)), (.int (0 : Int32))] (.int (0 : Int32)) := Arv.set Ar5 q5 Sz5 Ng5 Hs5 Gf5 rfl W5 3 rfl (Nat.le_of_ble_eq_true rfl)
  have K5 : Keep h0 h5 [] := K4.wr W5 (Or.inr sz_b1)
  have N5 := Fr.snoc X5 N4 g_b1
  show OGo _ _ _ _ (T5.setTop (mkF m 22 #[.val (.int p1), .val (.int p2), .unset, .unset, .unset] [(.ref b1)]))
  refine OGo.via (fun _ k => XS.dup X5.here hx rfl (hb hby at_22) rfl rfl (XS.iconst X5.here hx rfl (hb hby at_23) (XS.bipush X5.here hx rfl (hb hby at_24) k))) ?_
  obtain ⟨cl6, Ar6, q6, Sz6, Ng6, Hs6, Gf6⟩ := id V5
  have hin6 : ¬ ((4 : Int32) < 0 ∨ cl6.slots.size ≤ ((4 : Int32)).toNatClampNeg) := inb_of Sz6 ⟨by decide, by decide⟩
  obtain ⟨T6, h6, X6, e6, W6, st6⟩ := stI X5 hx hZ e5 Ar6 (j := (4 : Int32)) hin6 (g := (mkF m 26 #[.val (.int p1), .val (.int p2), .unset, .unset, .unset] [(.int (7 : Int32)), (.int (4 : Int32)), (.ref b1), (.ref b1)])) rfl rfl (hb hby at_26)
  refine OGo.via st6 ?_
  have V6 : Arv Z h6 b1 ka1 .int (32 : Int32) [(.int (-6 : Int32)), (.int (5 : Int32)), (.int (4 : Int32)), (.int (-5 : Int32)), (.int (7 : Int32)), (.int (0 : Int32)), (.int (0 : Int32)), (.int (0 : Int32)), (.int (0 : Int32)), (.int (0 : Int32)), (.int (0 : Int32)), (.int (0 : Int32)), (.int (0 : Int32)), (.int (0 : Int32)), (.int (0 : Int32)), (.int (0 : Int32)), (.int (0 : Int32)), (.int (0 : Int32)), (.int (0 : Int32)), (.int (0 : Int32)), (.int (0 : Int32)), (.int (0 : Int32)), (.int (0 : Int32)), (.int (0 : Int32)), (.int (0 : Int32)), (.int (0 : Int32)), (.int (0 : Int32)), (.int (0 : Int32)), (.int (0 : Int32)), (.int (0 : Int32)), (.int (0 : Int32)), (.int (0 : Int32))] (.int (0 : Int32)) := Arv.set Ar6 q6 Sz6 Ng6 Hs6 Gf6 rfl W6 4 rfl (Nat.le_of_ble_eq_true rfl)
  have K6 : Keep h0 h6 [] := K5.wr W6 (Or.inr sz_b1)
  have N6 := Fr.snoc X6 N5 g_b1
  show OGo _ _ _ _ (T6.setTop (mkF m 27 #[.val (.int p1), .val (.int p2), .unset, .unset, .unset] [(.ref b1)]))
  refine OGo.via (fun _ k => XS.dup X6.here hx rfl (hb hby at_27) rfl rfl (XS.iconst X6.here hx rfl (hb hby at_28) (XS.bipush X6.here hx rfl (hb hby at_29) k))) ?_
  obtain ⟨cl7, Ar7, q7, Sz7, Ng7, Hs7, Gf7⟩ := id V6
  have hin7 : ¬ ((5 : Int32) < 0 ∨ cl7.slots.size ≤ ((5 : Int32)).toNatClampNeg) := inb_of Sz7 ⟨by decide, by decide⟩
  obtain ⟨T7, h7, X7, e7, W7, st7⟩ := stI X6 hx hZ e6 Ar7 (j := (5 : Int32)) hin7 (g := (mkF m 31 #[.val (.int p1), .val (.int p2), .unset, .unset, .unset] [(.int (6 : Int32)), (.int (5 : Int32)), (.ref b1), (.ref b1)])) rfl rfl (hb hby at_31)
  refine OGo.via st7 ?_
  have V7 : Arv Z h7 b1 ka1 .int (32 : Int32) [(.int (-6 : Int32)), (.int (5 : Int32)), (.int (4 : Int32)), (.int (-5 : Int32)), (.int (7 : Int32)), (.int (6 : Int32)), (.int (0 : Int32)), (.int (0 : Int32)), (.int (0 : Int32)), (.int (0 : Int32)), (.int (0 : Int32)), (.int (0 : Int32)), (.int (0 : Int32)), (.int (0 : Int32)), (.int (0 : Int32)), (.int (0 : Int32)), (.int (0 : Int32)), (.int (0 : Int32)), (.int (0 : Int32)), (.int (0 : Int32)), (.int (0 : Int32)), (.int (0 : Int32)), (.int (0 : Int32)), (.int (0 : Int32)), (.int (0 : Int32)), (.int (0 : Int32)), (.int (0 : Int32)), (.int (0 : Int32)), (.int (0 : Int32)), (.int (0 : Int32)), (.int (0 : Int32)), (.int (0 : Int32))] (.int (0 : Int32)) := Arv.set Ar7 q7 Sz7 Ng7 Hs7 Gf7 rfl W7 5 rfl (Nat.le_of_ble_eq_true rfl)
  have K7 : Keep h0 h7 [] := K6.wr W7 (Or.inr sz_b1)
  have N7 := Fr.snoc X7 N6 g_b1
  show OGo _ _ _ _ (T7.setTop (mkF m 32 #[.val (.int p1), .val (.int p2), .unset, .unset, .unset] [(.ref b1)]))
  refine OGo.via (fun _ k => XS.dup X7.here hx rfl (hb hby at_32) rfl rfl (XS.bipush X7.here hx rfl (hb hby at_33) (XS.bipush X7.here hx rfl (hb hby at_35) k))) ?_
  obtain ⟨cl8, Ar8, q8, Sz8, Ng8, Hs8, Gf8⟩ := id V7
  have hin8 : ¬ ((6 : Int32) < 0 ∨ cl8.slots.size ≤ ((6 : Int32)).toNatClampNeg) := inb_of Sz8 ⟨by decide, by decide⟩
  obtain ⟨T8, h8, X8, e8, W8, st8⟩ := stI X7 hx hZ e7 Ar8 (j := (6 : Int32)) hin8 (g := (mkF m 37 #[.val (.int p1), .val (.int p2), .unset, .unset, .unset] [(.int (8 : Int32)), (.int (6 : Int32)), (.ref b1), (.ref b1)])) rfl rfl (hb hby at_37)
  refine OGo.via st8 ?_
  have V8 : Arv Z h8 b1 ka1 .int (32 : Int32) [(.int (-6 : Int32)), (.int (5 : Int32)), (.int (4 : Int32)), (.int (-5 : Int32)), (.int (7 : Int32)), (.int (6 : Int32)), (.int (8 : Int32)), (.int (0 : Int32)), (.int (0 : Int32)), (.int (0 : Int32)), (.int (0 : Int32)), (.int (0 : Int32)), (.int (0 : Int32)), (.int (0 : Int32)), (.int (0 : Int32)), (.int (0 : Int32)), (.int (0 : Int32)), (.int (0 : Int32)), (.int (0 : Int32)), (.int (0 : Int32)), (.int (0 : Int32)), (.int (0 : Int32)), (.int (0 : Int32)), (.int (0 : Int32)), (.int (0 : Int32)), (.int (0 : Int32)), (.int (0 : Int32)), (.int (0 : Int32)), (.int (0 : Int32)), (.int (0 : Int32)), (.int (0 : Int32)), (.int (0 : Int32))] (.int (0 : Int32)) := Arv.set Ar8 q8 Sz8 Ng8 Hs8 Gf8 rfl W8 6 rfl (Nat.le_of_ble_eq_true rfl)
  have K8 : Keep h0 h8 [] := K7.wr W8 (Or.inr sz_b1)
  have N8 := Fr.snoc X8 N7 g_b1
  show OGo _ _ _ _ (T8.setTop (mkF m 38 #[.val (.int p1), .val (.int p2), .unset, .unset, .unset] [(.ref b1)]))
  refine OGo.via (fun _ k => XS.dup X8.here hx rfl (hb hby at_38) rfl rfl (XS.bipush X8.here hx rfl (hb hby at_39) (XS.iconst X8.here hx rfl (hb hby at_41) k))) ?_
  obtain ⟨cl9, Ar9, q9, Sz9, Ng9, Hs9, Gf9⟩ := id V8
  have hin9 : ¬ ((7 : Int32) < 0 ∨ cl9.slots.size ≤ ((7 : Int32)).toNatClampNeg) := inb_of Sz9 ⟨by decide, by decide⟩
  obtain ⟨T9, h9, X9, e9, W9, st9⟩ := stI X8 hx hZ e8 Ar9 (j := (7 : Int32)) hin9 (g := (mkF m 42 #[.val (.int p1), .val (.int p2), .unset, .unset, .unset] [(.int (2 : Int32)), (.int (7 : Int32)), (.ref b1), (.ref b1)])) rfl rfl (hb hby at_42)
  refine OGo.via st9 ?_
  have V9 : Arv Z h9 b1 ka1 .int (32 : Int32) [(.int (-6 : Int32)), (.int (5 : Int32)), (.int (4 : Int32)), (.int (-5 : Int32)), (.int (7 : Int32)), (.int (6 : Int32)), (.int (8 : Int32)), (.int (2 : Int32)), (.int (0 : Int32)), (.int (0 : Int32)), (.int (0 : Int32)), (.int (0 : Int32)), (.int (0 : Int32)), (.int (0 : Int32)), (.int (0 : Int32)), (.int (0 : Int32)), (.int (0 : Int32)), (.int (0 : Int32)), (.int (0 : Int32)), (.int (0 : Int32)), (.int (0 : Int32)), (.int (0 : Int32)), (.int (0 : Int32)), (.int (0 : Int32)), (.int (0 : Int32)), (.int (0 : Int32)), (.int (0 : Int32)), (.int (0 : Int32)), (.int (0 : Int32)), (.int (0 : Int32)), (.int (0 : Int32)), (.int (0 : Int32))] (.int (0 : Int32)) := Arv.set Ar9 q9 Sz9 Ng9 Hs9 Gf9 rfl W9 7 rfl (Nat.le_of_ble_eq_true rfl)
  have K9 : Keep h0 h9 [] := K8.wr W9 (Or.inr sz_b1)
  have N9 := Fr.snoc X9 N8 g_b1
  show OGo _ _ _ _ (T9.setTop (mkF m 43 #[.val (.int p1), .val (.int p2), .unset, .unset, .unset] [(.ref b1)]))
  refine OGo.via (fun _ k => XS.dup X9.here hx rfl (hb hby at_43) rfl rfl (XS.bipush X9.here hx rfl (hb hby at_44) (XS.iconst X9.here hx rfl (hb hby at_46) k))) ?_
  obtain ⟨cl10, Ar10, q10, Sz10, Ng10, Hs10, Gf10⟩ := id V9
  have hin10 : ¬ ((8 : Int32) < 0 ∨ cl10.slots.size ≤ ((8 : Int32)).toNatClampNeg) := inb_of Sz10 ⟨by decide, by decide⟩
  obtain ⟨T10, h10, X10, e10, W10, st10⟩ := stI X9 hx hZ e9 Ar10 (j := (8 : Int32)) hin10 (g := (mkF m 47 #[.val (.int p1), .val (.int p2), .unset, .unset, .unset] [(.int (3 : Int32)), (.int (8 : Int32)), (.ref b1), (.ref b1)])) rfl rfl (hb hby at_47)
  refine OGo.via st10 ?_
  have V10 : Arv Z h10 b1 ka1 .int (32 : Int32) [(.int (-6 : Int32)), (.int (5 : Int32)), (.int (4 : Int32)), (.int (-5 : Int32)), (.int (7 : Int32)), (.int (6 : Int32)), (.int (8 : Int32)), (.int (2 : Int32)), (.int (3 : Int32)), (.int (0 : Int32)), (.int (0 : Int32)), (.int (0 : Int32)), (.int (0 : Int32)), (.int (0 : Int32)), (.int (0 : Int32)), (.int (0 : Int32)), (.int (0 : Int32)), (.int (0 : Int32)), (.int (0 : Int32)), (.int (0 : Int32)), (.int (0 : Int32)), (.int (0 : Int32)), (.int (0 : Int32)), (.int (0 : Int32)), (.int (0 : Int32)), (.int (0 : Int32)), (.int (0 : Int32)), (.int (0 : Int32)), (.int (0 : Int32)), (.int (0 : Int32)), (.int (0 : Int32)), (.int (0 : Int32))] (.int (0 : Int32)) := Arv.set Ar10 q10 Sz10 Ng10 Hs10 Gf10 rfl W10 8 rfl (Nat.le_of_ble_eq_true rfl)
  have K10 : Keep h0 h10 [] := K9.wr W10 (Or.inr sz_b1)
  have N10 := Fr.snoc X10 N9 g_b1
  show OGo _ _ _ _ (T10.setTop (mkF m 48 #[.val (.int p1), .val (.int p2), .unset, .unset, .unset] [(.ref b1)]))
  refine OGo.via (fun _ k => XS.dup X10.here hx rfl (hb hby at_48) rfl rfl (XS.bipush X10.here hx rfl (hb hby at_49) (XS.bipush X10.here hx rfl (hb hby at_51) k))) ?_
  obtain ⟨cl11, Ar11, q11, Sz11, Ng11, Hs11, Gf11⟩ := id V10
  have hin11 : ¬ ((9 : Int32) < 0 ∨ cl11.slots.size ≤ ((9 : Int32)).toNatClampNeg) := inb_of Sz11 ⟨by decide, by decide⟩
  obtain ⟨T11, h11, X11, e11, W11, st11⟩ := stI X10 hx hZ e10 Ar11 (j := (9 : Int32)) hin11 (g := (mkF m 53 #[.val (.int p1), .val (.int p2), .unset, .unset, .unset] [(.int (-7 : Int32)), (.int (9 : Int32)), (.ref b1), (.ref b1)])) rfl rfl (hb hby at_53)
  refine OGo.via st11 ?_
  have V11 : Arv Z h11 b1 ka1 .int (32 : Int32) [(.int (-6 : Int32)), (.int (5 : Int32)), (.int (4 : Int32)), (.int (-5 : Int32)), (.int (7 : Int32)), (.int (6 : Int32)), (.int (8 : Int32)), (.int (2 : Int32)), (.int (3 : Int32)), (.int (-7 : Int32)), (.int (0 : Int32)), (.int (0 : Int32)), (.int (0 : Int32)), (.int (0 : Int32)), (.int (0 : Int32)), (.int (0 : Int32)), (.int (0 : Int32)), (.int (0 : Int32)), (.int (0 : Int32)), (.int (0 : Int32)), (.int (0 : Int32)), (.int (0 : Int32)), (.int (0 : Int32)), (.int (0 : Int32)), (.int (0 : Int32)), (.int (0 : Int32)), (.int (0 : Int32)), (.int (0 : Int32)), (.int (0 : Int32)), (.int (0 : Int32)), (.int (0 : Int32)), (.int (0 : Int32))] (.int (0 : Int32)) := Arv.set Ar11 q11 Sz11 Ng11 Hs11 Gf11 rfl W11 9 rfl (Nat.le_of_ble_eq_true rfl)
  have K11 : Keep h0 h11 [] := K10.wr W11 (Or.inr sz_b1)
  have N11 := Fr.snoc X11 N10 g_b1
  show OGo _ _ _ _ (T11.setTop (mkF m 54 #[.val (.int p1), .val (.int p2), .unset, .unset, .unset] [(.ref b1)]))
  refine OGo.via (fun _ k => XS.dup X11.here hx rfl (hb hby at_54) rfl rfl (XS.bipush X11.here hx rfl (hb hby at_55) (XS.bipush X11.here hx rfl (hb hby at_57) k))) ?_
  obtain ⟨cl12, Ar12, q12, Sz12, Ng12, Hs12, Gf12⟩ := id V11
  have hin12 : ¬ ((10 : Int32) < 0 ∨ cl12.slots.size ≤ ((10 : Int32)).toNatClampNeg) := inb_of Sz12 ⟨by decide, by decide⟩
  obtain ⟨T12, h12, X12, e12, W12, st12⟩ := stI X11 hx hZ e11 Ar12 (j := (10 : Int32)) hin12 (g := (mkF m 59 #[.val (.int p1), .val (.int p2), .unset, .unset, .unset] [(.int (16 : Int32)), (.int (10 : Int32)), (.ref b1), (.ref b1)])) rfl rfl (hb hby at_59)
  refine OGo.via st12 ?_
  have V12 : Arv Z h12 b1 ka1 .int (32 : Int32) [(.int (-6 : Int32)), (.int (5 : Int32)), (.int (4 : Int32)), (.int (-5 : Int32)), (.int (7 : Int32)), (.int (6 : Int32)), (.int (8 : Int32)), (.int (2 : Int32)), (.int (3 : Int32)), (.int (-7 : Int32)), (.int (16 : Int32)), (.int (0 : Int32)), (.int (0 : Int32)), (.int (0 : Int32)), (.int (0 : Int32)), (.int (0 : Int32)), (.int (0 : Int32)), (.int (0 : Int32)), (.int (0 : Int32)), (.int (0 : Int32)), (.int (0 : Int32)), (.int (0 : Int32)), (.int (0 : Int32)), (.int (0 : Int32)), (.int (0 : Int32)), (.int (0 : Int32)), (.int (0 : Int32)), (.int (0 : Int32)), (.int (0 : Int32)), (.int (0 : Int32)), (.int (0 : Int32)), (.int (0 : Int32))] (.int (0 : Int32)) := Arv.set Ar12 q12 Sz12 Ng12 Hs12 Gf12 rfl W12 10 rfl (Nat.le_of_ble_eq_true rfl)
  have K12 : Keep h0 h12 [] := K11.wr W12 (Or.inr sz_b1)
  have N12 := Fr.snoc X12 N11 g_b1
  show OGo _ _ _ _ (T12.setTop (mkF m 60 #[.val (.int p1), .val (.int p2), .unset, .unset, .unset] [(.ref b1)]))
  refine OGo.via (fun _ k => XS.dup X12.here hx rfl (hb hby at_60) rfl rfl (XS.bipush X12.here hx rfl (hb hby at_61) (XS.bipush X12.here hx rfl (hb hby at_63) k))) ?_
  obtain ⟨cl13, Ar13, q13, Sz13, Ng13, Hs13, Gf13⟩ := id V12
  have hin13 : ¬ ((11 : Int32) < 0 ∨ cl13.slots.size ≤ ((11 : Int32)).toNatClampNeg) := inb_of Sz13 ⟨by decide, by decide⟩
  obtain ⟨T13, h13, X13, e13, W13, st13⟩ := stI X12 hx hZ e12 Ar13 (j := (11 : Int32)) hin13 (g := (mkF m 65 #[.val (.int p1), .val (.int p2), .unset, .unset, .unset] [(.int (91 : Int32)), (.int (11 : Int32)), (.ref b1), (.ref b1)])) rfl rfl (hb hby at_65)
  refine OGo.via st13 ?_
  have V13 : Arv Z h13 b1 ka1 .int (32 : Int32) [(.int (-6 : Int32)), (.int (5 : Int32)), (.int (4 : Int32)), (.int (-5 : Int32)), (.int (7 : Int32)), (.int (6 : Int32)), (.int (8 : Int32)), (.int (2 : Int32)), (.int (3 : Int32)), (.int (-7 : Int32)), (.int (16 : Int32)), (.int (91 : Int32)), (.int (0 : Int32)), (.int (0 : Int32)), (.int (0 : Int32)), (.int (0 : Int32)), (.int (0 : Int32)), (.int (0 : Int32)), (.int (0 : Int32)), (.int (0 : Int32)), (.int (0 : Int32)), (.int (0 : Int32)), (.int (0 : Int32)), (.int (0 : Int32)), (.int (0 : Int32)), (.int (0 : Int32)), (.int (0 : Int32)), (.int (0 : Int32)), (.int (0 : Int32)), (.int (0 : Int32)), (.int (0 : Int32)), (.int (0 : Int32))] (.int (0 : Int32)) := Arv.set Ar13 q13 Sz13 Ng13 Hs13 Gf13 rfl W13 11 rfl (Nat.le_of_ble_eq_true rfl)
  have K13 : Keep h0 h13 [] := K12.wr W13 (Or.inr sz_b1)
  have N13 := Fr.snoc X13 N12 g_b1
  show OGo _ _ _ _ (T13.setTop (mkF m 66 #[.val (.int p1), .val (.int p2), .unset, .unset, .unset] [(.ref b1)]))
  refine OGo.via (fun _ k => XS.dup X13.here hx rfl (hb hby at_66) rfl rfl (XS.bipush X13.here hx rfl (hb hby at_67) (XS.bipush X13.here hx rfl (hb hby at_69) k))) ?_
  obtain ⟨cl14, Ar14, q14, Sz14, Ng14, Hs14, Gf14⟩ := id V13
  have hin14 : ¬ ((12 : Int32) < 0 ∨ cl14.slots.size ≤ ((12 : Int32)).toNatClampNeg) := inb_of Sz14 ⟨by decide, by decide⟩
  obtain ⟨T14, h14, X14, e14, W14, st14⟩ := stI X13 hx hZ e13 Ar14 (j := (12 : Int32)) hin14 (g := (mkF m 71 #[.val (.int p1), .val (.int p2), .unset, .unset, .unset] [(.int (92 : Int32)), (.int (12 : Int32)), (.ref b1), (.ref b1)])) rfl rfl (hb hby at_71)
  refine OGo.via st14 ?_
  have V14 : Arv Z h14 b1 ka1 .int (32 : Int32) [(.int (-6 : Int32)), (.int (5 : Int32)), (.int (4 : Int32)), (.int (-5 : Int32)), (.int (7 : Int32)), (.int (6 : Int32)), (.int (8 : Int32)), (.int (2 : Int32)), (.int (3 : Int32)), (.int (-7 : Int32)), (.int (16 : Int32)), (.int (91 : Int32)), (.int (92 : Int32)), (.int (0 : Int32)), (.int (0 : Int32)), (.int (0 : Int32)), (.int (0 : Int32)), (.int (0 : Int32)), (.int (0 : Int32)), (.int (0 : Int32)), (.int (0 : Int32)), (.int (0 : Int32)), (.int (0 : Int32)), (.int (0 : Int32)), (.int (0 : Int32)), (.int (0 : Int32)), (.int (0 : Int32)), (.int (0 : Int32)), (.int (0 : Int32)), (.int (0 : Int32)), (.int (0 : Int32)), (.int (0 : Int32))] (.int (0 : Int32)) := Arv.set Ar14 q14 Sz14 Ng14 Hs14 Gf14 rfl W14 12 rfl (Nat.le_of_ble_eq_true rfl)
  have K14 : Keep h0 h14 [] := K13.wr W14 (Or.inr sz_b1)
  have N14 := Fr.snoc X14 N13 g_b1
  show OGo _ _ _ _ (T14.setTop (mkF m 72 #[.val (.int p1), .val (.int p2), .unset, .unset, .unset] [(.ref b1)]))
  refine OGo.via (fun _ k => XS.dup X14.here hx rfl (hb hby at_72) rfl rfl (XS.bipush X14.here hx rfl (hb hby at_73) (XS.sipush X14.here hx rfl (hb hby at_75) k))) ?_
  obtain ⟨cl15, Ar15, q15, Sz15, Ng15, Hs15, Gf15⟩ := id V14
  have hin15 : ¬ ((13 : Int32) < 0 ∨ cl15.slots.size ≤ ((13 : Int32)).toNatClampNeg) := inb_of Sz15 ⟨by decide, by decide⟩
  obtain ⟨T15, h15, X15, e15, W15, st15⟩ := stI X14 hx hZ e14 Ar15 (j := (13 : Int32)) hin15 (g := (mkF m 78 #[.val (.int p1), .val (.int p2), .unset, .unset, .unset] [(.int (2013 : Int32)), (.int (13 : Int32)), (.ref b1), (.ref b1)])) rfl rfl (hb hby at_78)
  refine OGo.via st15 ?_
  have V15 : Arv Z h15 b1 ka1 .int (32 : Int32) [(.int (-6 : Int32)), (.int (5 : Int32)), (.int (4 : Int32)), (.int (-5 : Int32)), (.int (7 : Int32)), (.int (6 : Int32)), (.int (8 : Int32)), (.int (2 : Int32)), (.int (3 : Int32)), (.int (-7 : Int32)), (.int (16 : Int32)), (.int (91 : Int32)), (.int (92 : Int32)), (.int (2013 : Int32)), (.int (0 : Int32)), (.int (0 : Int32)), (.int (0 : Int32)), (.int (0 : Int32)), (.int (0 : Int32)), (.int (0 : Int32)), (.int (0 : Int32)), (.int (0 : Int32)), (.int (0 : Int32)), (.int (0 : Int32)), (.int (0 : Int32)), (.int (0 : Int32)), (.int (0 : Int32)), (.int (0 : Int32)), (.int (0 : Int32)), (.int (0 : Int32)), (.int (0 : Int32)), (.int (0 : Int32))] (.int (0 : Int32)) := Arv.set Ar15 q15 Sz15 Ng15 Hs15 Gf15 rfl W15 13 rfl (Nat.le_of_ble_eq_true rfl)
  have K15 : Keep h0 h15 [] := K14.wr W15 (Or.inr sz_b1)
  have N15 := Fr.snoc X15 N14 g_b1
  show OGo _ _ _ _ (T15.setTop (mkF m 79 #[.val (.int p1), .val (.int p2), .unset, .unset, .unset] [(.ref b1)]))
  refine OGo.via (fun _ k => XS.dup X15.here hx rfl (hb hby at_79) rfl rfl (XS.bipush X15.here hx rfl (hb hby at_80) (XS.bipush X15.here hx rfl (hb hby at_82) k))) ?_
  obtain ⟨cl16, Ar16, q16, Sz16, Ng16, Hs16, Gf16⟩ := id V15
  have hin16 : ¬ ((14 : Int32) < 0 ∨ cl16.slots.size ≤ ((14 : Int32)).toNatClampNeg) := inb_of Sz16 ⟨by decide, by decide⟩
  obtain ⟨T16, h16, X16, e16, W16, st16⟩ := stI X15 hx hZ e15 Ar16 (j := (14 : Int32)) hin16 (g := (mkF m 84 #[.val (.int p1), .val (.int p2), .unset, .unset, .unset] [(.int (93 : Int32)), (.int (14 : Int32)), (.ref b1), (.ref b1)])) rfl rfl (hb hby at_84)
  refine OGo.via st16 ?_
  have V16 : Arv Z h16 b1 ka1 .int (32 : Int32) [(.int (-6 : Int32)), (.int (5 : Int32)), (.int (4 : Int32)), (.int (-5 : Int32)), (.int (7 : Int32)), (.int (6 : Int32)), (.int (8 : Int32)), (.int (2 : Int32)), (.int (3 : Int32)), (.int (-7 : Int32)), (.int (16 : Int32)), (.int (91 : Int32)), (.int (92 : Int32)), (.int (2013 : Int32)), (.int (93 : Int32)), (.int (0 : Int32)), (.int (0 : Int32)), (.int (0 : Int32)), (.int (0 : Int32)), (.int (0 : Int32)), (.int (0 : Int32)), (.int (0 : Int32)), (.int (0 : Int32)), (.int (0 : Int32)), (.int (0 : Int32)), (.int (0 : Int32)), (.int (0 : Int32)), (.int (0 : Int32)), (.int (0 : Int32)), (.int (0 : Int32)), (.int (0 : Int32)), (.int (0 : Int32))] (.int (0 : Int32)) := Arv.set Ar16 q16 Sz16 Ng16 Hs16 Gf16 rfl W16 14 rfl (Nat.le_of_ble_eq_true rfl)
  have K16 : Keep h0 h16 [] := K15.wr W16 (Or.inr sz_b1)
  have N16 := Fr.snoc X16 N15 g_b1
  show OGo _ _ _ _ (T16.setTop (mkF m 85 #[.val (.int p1), .val (.int p2), .unset, .unset, .unset] [(.ref b1)]))
  refine OGo.via (fun _ k => XS.dup X16.here hx rfl (hb hby at_85) rfl rfl (XS.bipush X16.here hx rfl (hb hby at_86) (XS.sipush X16.here hx rfl (hb hby at_88) k))) ?_
  obtain ⟨cl17, Ar17, q17, Sz17, Ng17, Hs17, Gf17⟩ := id V16
  have hin17 : ¬ ((15 : Int32) < 0 ∨ cl17.slots.size ≤ ((15 : Int32)).toNatClampNeg) := inb_of Sz17 ⟨by decide, by decide⟩
  obtain ⟨T17, h17, X17, e17, W17, st17⟩ := stI X16 hx hZ e16 Ar17 (j := (15 : Int32)) hin17 (g := (mkF m 91 #[.val (.int p1), .val (.int p2), .unset, .unset, .unset] [(.int (2014 : Int32)), (.int (15 : Int32)), (.ref b1), (.ref b1)])) rfl rfl (hb hby at_91)
  refine OGo.via st17 ?_
  have V17 : Arv Z h17 b1 ka1 .int (32 : Int32) [(.int (-6 : Int32)), (.int (5 : Int32)), (.int (4 : Int32)), (.int (-5 : Int32)), (.int (7 : Int32)), (.int (6 : Int32)), (.int (8 : Int32)), (.int (2 : Int32)), (.int (3 : Int32)), (.int (-7 : Int32)), (.int (16 : Int32)), (.int (91 : Int32)), (.int (92 : Int32)), (.int (2013 : Int32)), (.int (93 : Int32)), (.int (2014 : Int32)), (.int (0 : Int32)), (.int (0 : Int32)), (.int (0 : Int32)), (.int (0 : Int32)), (.int (0 : Int32)), (.int (0 : Int32)), (.int (0 : Int32)), (.int (0 : Int32)), (.int (0 : Int32)), (.int (0 : Int32)), (.int (0 : Int32)), (.int (0 : Int32)), (.int (0 : Int32)), (.int (0 : Int32)), (.int (0 : Int32)), (.int (0 : Int32))] (.int (0 : Int32)) := Arv.set Ar17 q17 Sz17 Ng17 Hs17 Gf17 rfl W17 15 rfl (Nat.le_of_ble_eq_true rfl)
  have K17 : Keep h0 h17 [] := K16.wr W17 (Or.inr sz_b1)
  have N17 := Fr.snoc X17 N16 g_b1
  show OGo _ _ _ _ (T17.setTop (mkF m 92 #[.val (.int p1), .val (.int p2), .unset, .unset, .unset] [(.ref b1)]))
  refine OGo.via (fun _ k => XS.dup X17.here hx rfl (hb hby at_92) rfl rfl (XS.bipush X17.here hx rfl (hb hby at_93) (XS.bipush X17.here hx rfl (hb hby at_95) k))) ?_
  obtain ⟨cl18, Ar18, q18, Sz18, Ng18, Hs18, Gf18⟩ := id V17
  have hin18 : ¬ ((16 : Int32) < 0 ∨ cl18.slots.size ≤ ((16 : Int32)).toNatClampNeg) := inb_of Sz18 ⟨by decide, by decide⟩
  obtain ⟨T18, h18, X18, e18, W18, st18⟩ := stI X17 hx hZ e17 Ar18 (j := (16 : Int32)) hin18 (g := (mkF m 97 #[.val (.int p1), .val (.int p2), .unset, .unset, .unset] [(.int (-2 : Int32)), (.int (16 : Int32)), (.ref b1), (.ref b1)])) rfl rfl (hb hby at_97)
  refine OGo.via st18 ?_
  have V18 : Arv Z h18 b1 ka1 .int (32 : Int32) [(.int (-6 : Int32)), (.int (5 : Int32)), (.int (4 : Int32)), (.int (-5 : Int32)), (.int (7 : Int32)), (.int (6 : Int32)), (.int (8 : Int32)), (.int (2 : Int32)), (.int (3 : Int32)), (.int (-7 : Int32)), (.int (16 : Int32)), (.int (91 : Int32)), (.int (92 : Int32)), (.int (2013 : Int32)), (.int (93 : Int32)), (.int (2014 : Int32)), (.int (-2 : Int32)), (.int (0 : Int32)), (.int (0 : Int32)), (.int (0 : Int32)), (.int (0 : Int32)), (.int (0 : Int32)), (.int (0 : Int32)), (.int (0 : Int32)), (.int (0 : Int32)), (.int (0 : Int32)), (.int (0 : Int32)), (.int (0 : Int32)), (.int (0 : Int32)), (.int (0 : Int32)), (.int (0 : Int32)), (.int (0 : Int32))] (.int (0 : Int32)) := Arv.set Ar18 q18 Sz18 Ng18 Hs18 Gf18 rfl W18 16 rfl (Nat.le_of_ble_eq_true rfl)
  have K18 : Keep h0 h18 [] := K17.wr W18 (Or.inr sz_b1)
  have N18 := Fr.snoc X18 N17 g_b1
  show OGo _ _ _ _ (T18.setTop (mkF m 98 #[.val (.int p1), .val (.int p2), .unset, .unset, .unset] [(.ref b1)]))
  refine OGo.via (fun _ k => XS.dup X18.here hx rfl (hb hby at_98) rfl rfl (XS.bipush X18.here hx rfl (hb hby at_99) (XS.bipush X18.here hx rfl (hb hby at_101) k))) ?_
  obtain ⟨cl19, Ar19, q19, Sz19, Ng19, Hs19, Gf19⟩ := id V18
  have hin19 : ¬ ((17 : Int32) < 0 ∨ cl19.slots.size ≤ ((17 : Int32)).toNatClampNeg) := inb_of Sz19 ⟨by decide, by decide⟩
  obtain ⟨T19, h19, X19, e19, W19, st19⟩ := stI X18 hx hZ e18 Ar19 (j := (17 : Int32)) hin19 (g := (mkF m 103 #[.val (.int p1), .val (.int p2), .unset, .unset, .unset] [(.int (-3 : Int32)), (.int (17 : Int32)), (.ref b1), (.ref b1)])) rfl rfl (hb hby at_103)
  refine OGo.via st19 ?_
  have V19 : Arv Z h19 b1 ka1 .int (32 : Int32) [(.int (-6 : Int32)), (.int (5 : Int32)), (.int (4 : Int32)), (.int (-5 : Int32)), (.int (7 : Int32)), (.int (6 : Int32)), (.int (8 : Int32)), (.int (2 : Int32)), (.int (3 : Int32)), (.int (-7 : Int32)), (.int (16 : Int32)), (.int (91 : Int32)), (.int (92 : Int32)), (.int (2013 : Int32)), (.int (93 : Int32)), (.int (2014 : Int32)), (.int (-2 : Int32)), (.int (-3 : Int32)), (.int (0 : Int32)), (.int (0 : Int32)), (.int (0 : Int32)), (.int (0 : Int32)), (.int (0 : Int32)), (.int (0 : Int32)), (.int (0 : Int32)), (.int (0 : Int32)), (.int (0 : Int32)), (.int (0 : Int32)), (.int (0 : Int32)), (.int (0 : Int32)), (.int (0 : Int32)), (.int (0 : Int32))] (.int (0 : Int32)) := Arv.set Ar19 q19 Sz19 Ng19 Hs19 Gf19 rfl W19 17 rfl (Nat.le_of_ble_eq_true rfl)
  have K19 : Keep h0 h19 [] := K18.wr W19 (Or.inr sz_b1)
  have N19 := Fr.snoc X19 N18 g_b1
  show OGo _ _ _ _ (T19.setTop (mkF m 104 #[.val (.int p1), .val (.int p2), .unset, .unset, .unset] [(.ref b1)]))
  refine OGo.via (fun _ k => XS.dup X19.here hx rfl (hb hby at_104) rfl rfl (XS.bipush X19.here hx rfl (hb hby at_105) (XS.bipush X19.here hx rfl (hb hby at_107) k))) ?_
  obtain ⟨cl20, Ar20, q20, Sz20, Ng20, Hs20, Gf20⟩ := id V19
  have hin20 : ¬ ((18 : Int32) < 0 ∨ cl20.slots.size ≤ ((18 : Int32)).toNatClampNeg) := inb_of Sz20 ⟨by decide, by decide⟩
  obtain ⟨T20, h20, X20, e20, W20, st20⟩ := stI X19 hx hZ e19 Ar20 (j := (18 : Int32)) hin20 (g := (mkF m 109 #[.val (.int p1), .val (.int p2), .unset, .unset, .unset] [(.int (-4 : Int32)), (.int (18 : Int32)), (.ref b1), (.ref b1)])) rfl rfl (hb hby at_109)
  refine OGo.via st20 ?_
  have V20 : Arv Z h20 b1 ka1 .int (32 : Int32) [(.int (-6 : Int32)), (.int (5 : Int32)), (.int (4 : Int32)), (.int (-5 : Int32)), (.int (7 : Int32)), (.int (6 : Int32)), (.int (8 : Int32)), (.int (2 : Int32)), (.int (3 : Int32)), (.int (-7 : Int32)), (.int (16 : Int32)), (.int (91 : Int32)), (.int (92 : Int32)), (.int (2013 : Int32)), (.int (93 : Int32)), (.int (2014 : Int32)), (.int (-2 : Int32)), (.int (-3 : Int32)), (.int (-4 : Int32)), (.int (0 : Int32)), (.int (0 : Int32)), (.int (0 : Int32)), (.int (0 : Int32)), (.int (0 : Int32)), (.int (0 : Int32)), (.int (0 : Int32)), (.int (0 : Int32)), (.int (0 : Int32)), (.int (0 : Int32)), (.int (0 : Int32)), (.int (0 : Int32)), (.int (0 : Int32))] (.int (0 : Int32)) := Arv.set Ar20 q20 Sz20 Ng20 Hs20 Gf20 rfl W20 18 rfl (Nat.le_of_ble_eq_true rfl)
  have K20 : Keep h0 h20 [] := K19.wr W20 (Or.inr sz_b1)
  have N20 := Fr.snoc X20 N19 g_b1
  show OGo _ _ _ _ (T20.setTop (mkF m 110 #[.val (.int p1), .val (.int p2), .unset, .unset, .unset] [(.ref b1)]))
  refine OGo.via (fun _ k => XS.dup X20.here hx rfl (hb hby at_110) rfl rfl (XS.bipush X20.here hx rfl (hb hby at_111) (XS.sipush X20.here hx rfl (hb hby at_113) k))) ?_
  obtain ⟨cl21, Ar21, q21, Sz21, Ng21, Hs21, Gf21⟩ := id V20
  have hin21 : ¬ ((19 : Int32) < 0 ∨ cl21.slots.size ≤ ((19 : Int32)).toNatClampNeg) := inb_of Sz21 ⟨by decide, by decide⟩
  obtain ⟨T21, h21, X21, e21, W21, st21⟩ := stI X20 hx hZ e20 Ar21 (j := (19 : Int32)) hin21 (g := (mkF m 116 #[.val (.int p1), .val (.int p2), .unset, .unset, .unset] [(.int (2004 : Int32)), (.int (19 : Int32)), (.ref b1), (.ref b1)])) rfl rfl (hb hby at_116)
  refine OGo.via st21 ?_
  have V21 : Arv Z h21 b1 ka1 .int (32 : Int32) [(.int (-6 : Int32)), (.int (5 : Int32)), (.int (4 : Int32)), (.int (-5 : Int32)), (.int (7 : Int32)), (.int (6 : Int32)), (.int (8 : Int32)), (.int (2 : Int32)), (.int (3 : Int32)), (.int (-7 : Int32)), (.int (16 : Int32)), (.int (91 : Int32)), (.int (92 : Int32)), (.int (2013 : Int32)), (.int (93 : Int32)), (.int (2014 : Int32)), (.int (-2 : Int32)), (.int (-3 : Int32)), (.int (-4 : Int32)), (.int (2004 : Int32)), (.int (0 : Int32)), (.int (0 : Int32)), (.int (0 : Int32)), (.int (0 : Int32)), (.int (0 : Int32)), (.int (0 : Int32)), (.int (0 : Int32)), (.int (0 : Int32)), (.int (0 : Int32)), (.int (0 : Int32)), (.int (0 : Int32)), (.int (0 : Int32))] (.int (0 : Int32)) := Arv.set Ar21 q21 Sz21 Ng21 Hs21 Gf21 rfl W21 19 rfl (Nat.le_of_ble_eq_true rfl)
  have K21 : Keep h0 h21 [] := K20.wr W21 (Or.inr sz_b1)
  have N21 := Fr.snoc X21 N20 g_b1
  show OGo _ _ _ _ (T21.setTop (mkF m 117 #[.val (.int p1), .val (.int p2), .unset, .unset, .unset] [(.ref b1)]))
  refine OGo.via (fun _ k => XS.dup X21.here hx rfl (hb hby at_117) rfl rfl (XS.bipush X21.here hx rfl (hb hby at_118) (XS.iconst X21.here hx rfl (hb hby at_120) k))) ?_
  obtain ⟨cl22, Ar22, q22, Sz22, Ng22, Hs22, Gf22⟩ := id V21
  have hin22 : ¬ ((20 : Int32) < 0 ∨ cl22.slots.size ≤ ((20 : Int32)).toNatClampNeg) := inb_of Sz22 ⟨by decide, by decide⟩
  obtain ⟨T22, h22, X22, e22, W22, st22⟩ := stI X21 hx hZ e21 Ar22 (j := (20 : Int32)) hin22 (g := (mkF m 121 #[.val (.int p1), .val (.int p2), .unset, .unset, .unset] [(.int (1 : Int32)), (.int (20 : Int32)), (.ref b1), (.ref b1)])) rfl rfl (hb hby at_121)
  refine OGo.via st22 ?_
  have V22 : Arv Z h22 b1 ka1 .int (32 : Int32) [(.int (-6 : Int32)), (.int (5 : Int32)), (.int (4 : Int32)), (.int (-5 : Int32)), (.int (7 : Int32)), (.int (6 : Int32)), (.int (8 : Int32)), (.int (2 : Int32)), (.int (3 : Int32)), (.int (-7 : Int32)), (.int (16 : Int32)), (.int (91 : Int32)), (.int (92 : Int32)), (.int (2013 : Int32)), (.int (93 : Int32)), (.int (2014 : Int32)), (.int (-2 : Int32)), (.int (-3 : Int32)), (.int (-4 : Int32)), (.int (2004 : Int32)), (.int (1 : Int32)), (.int (0 : Int32)), (.int (0 : Int32)), (.int (0 : Int32)), (.int (0 : Int32)), (.int (0 : Int32)), (.int (0 : Int32)), (.int (0 : Int32)), (.int (0 : Int32)), (.int (0 : Int32)), (.int (0 : Int32)), (.int (0 : Int32))] (.int (0 : Int32)) := Arv.set Ar22 q22 Sz22 Ng22 Hs22 Gf22 rfl W22 20 rfl (Nat.le_of_ble_eq_true rfl)
  have K22 : Keep h0 h22 [] := K21.wr W22 (Or.inr sz_b1)
  have N22 := Fr.snoc X22 N21 g_b1
  show OGo _ _ _ _ (T22.setTop (mkF m 122 #[.val (.int p1), .val (.int p2), .unset, .unset, .unset] [(.ref b1)]))
  refine OGo.via (fun _ k => XS.dup X22.here hx rfl (hb hby at_122) rfl rfl (XS.bipush X22.here hx rfl (hb hby at_123) (XS.bipush X22.here hx rfl (hb hby at_125) k))) ?_
  obtain ⟨cl23, Ar23, q23, Sz23, Ng23, Hs23, Gf23⟩ := id V22
  have hin23 : ¬ ((21 : Int32) < 0 ∨ cl23.slots.size ≤ ((21 : Int32)).toNatClampNeg) := inb_of Sz23 ⟨by decide, by decide⟩
  obtain ⟨T23, h23, X23, e23, W23, st23⟩ := stI X22 hx hZ e22 Ar23 (j := (21 : Int32)) hin23 (g := (mkF m 127 #[.val (.int p1), .val (.int p2), .unset, .unset, .unset] [(.int (12 : Int32)), (.int (21 : Int32)), (.ref b1), (.ref b1)])) rfl rfl (hb hby at_127)
  refine OGo.via st23 ?_
  have V23 : Arv Z h23 b1 ka1 .int (32 : Int32) [(.int (-6 : Int32)), (.int (5 : Int32)), (.int (4 : Int32)), (.int (-5 : Int32)), (.int (7 : Int32)), (.int (6 : Int32)), (.int (8 : Int32)), (.int (2 : Int32)), (.int (3 : Int32)), (.int (-7 : Int32)), (.int (16 : Int32)), (.int (91 : Int32)), (.int (92 : Int32)), (.int (2013 : Int32)), (.int (93 : Int32)), (.int (2014 : Int32)), (.int (-2 : Int32)), (.int (-3 : Int32)), (.int (-4 : Int32)), (.int (2004 : Int32)), (.int (1 : Int32)), (.int (12 : Int32)), (.int (0 : Int32)), (.int (0 : Int32)), (.int (0 : Int32)), (.int (0 : Int32)), (.int (0 : Int32)), (.int (0 : Int32)), (.int (0 : Int32)), (.int (0 : Int32)), (.int (0 : Int32)), (.int (0 : Int32))] (.int (0 : Int32)) := Arv.set Ar23 q23 Sz23 Ng23 Hs23 Gf23 rfl W23 21 rfl (Nat.le_of_ble_eq_true rfl)
  have K23 : Keep h0 h23 [] := K22.wr W23 (Or.inr sz_b1)
  have N23 := Fr.snoc X23 N22 g_b1
  show OGo _ _ _ _ (T23.setTop (mkF m 128 #[.val (.int p1), .val (.int p2), .unset, .unset, .unset] [(.ref b1)]))
  refine OGo.via (fun _ k => XS.dup X23.here hx rfl (hb hby at_128) rfl rfl (XS.bipush X23.here hx rfl (hb hby at_129) (XS.iconst X23.here hx rfl (hb hby at_131) k))) ?_
  obtain ⟨cl24, Ar24, q24, Sz24, Ng24, Hs24, Gf24⟩ := id V23
  have hin24 : ¬ ((22 : Int32) < 0 ∨ cl24.slots.size ≤ ((22 : Int32)).toNatClampNeg) := inb_of Sz24 ⟨by decide, by decide⟩
  obtain ⟨T24, h24, X24, e24, W24, st24⟩ := stI X23 hx hZ e23 Ar24 (j := (22 : Int32)) hin24 (g := (mkF m 132 #[.val (.int p1), .val (.int p2), .unset, .unset, .unset] [(.int (-1 : Int32)), (.int (22 : Int32)), (.ref b1), (.ref b1)])) rfl rfl (hb hby at_132)
  refine OGo.via st24 ?_
  have V24 : Arv Z h24 b1 ka1 .int (32 : Int32) [(.int (-6 : Int32)), (.int (5 : Int32)), (.int (4 : Int32)), (.int (-5 : Int32)), (.int (7 : Int32)), (.int (6 : Int32)), (.int (8 : Int32)), (.int (2 : Int32)), (.int (3 : Int32)), (.int (-7 : Int32)), (.int (16 : Int32)), (.int (91 : Int32)), (.int (92 : Int32)), (.int (2013 : Int32)), (.int (93 : Int32)), (.int (2014 : Int32)), (.int (-2 : Int32)), (.int (-3 : Int32)), (.int (-4 : Int32)), (.int (2004 : Int32)), (.int (1 : Int32)), (.int (12 : Int32)), (.int (-1 : Int32)), (.int (0 : Int32)), (.int (0 : Int32)), (.int (0 : Int32)), (.int (0 : Int32)), (.int (0 : Int32)), (.int (0 : Int32)), (.int (0 : Int32)), (.int (0 : Int32)), (.int (0 : Int32))] (.int (0 : Int32)) := Arv.set Ar24 q24 Sz24 Ng24 Hs24 Gf24 rfl W24 22 rfl (Nat.le_of_ble_eq_true rfl)
  have K24 : Keep h0 h24 [] := K23.wr W24 (Or.inr sz_b1)
  have N24 := Fr.snoc X24 N23 g_b1
  show OGo _ _ _ _ (T24.setTop (mkF m 133 #[.val (.int p1), .val (.int p2), .unset, .unset, .unset] [(.ref b1)]))
  refine OGo.via (fun _ k => XS.dup X24.here hx rfl (hb hby at_133) rfl rfl (XS.bipush X24.here hx rfl (hb hby at_134) (XS.iconst X24.here hx rfl (hb hby at_136) k))) ?_
  obtain ⟨cl25, Ar25, q25, Sz25, Ng25, Hs25, Gf25⟩ := id V24
  have hin25 : ¬ ((23 : Int32) < 0 ∨ cl25.slots.size ≤ ((23 : Int32)).toNatClampNeg) := inb_of Sz25 ⟨by decide, by decide⟩
  obtain ⟨T25, h25, X25, e25, W25, st25⟩ := stI X24 hx hZ e24 Ar25 (j := (23 : Int32)) hin25 (g := (mkF m 137 #[.val (.int p1), .val (.int p2), .unset, .unset, .unset] [(.int (0 : Int32)), (.int (23 : Int32)), (.ref b1), (.ref b1)])) rfl rfl (hb hby at_137)
  refine OGo.via st25 ?_
  have V25 : Arv Z h25 b1 ka1 .int (32 : Int32) [(.int (-6 : Int32)), (.int (5 : Int32)), (.int (4 : Int32)), (.int (-5 : Int32)), (.int (7 : Int32)), (.int (6 : Int32)), (.int (8 : Int32)), (.int (2 : Int32)), (.int (3 : Int32)), (.int (-7 : Int32)), (.int (16 : Int32)), (.int (91 : Int32)), (.int (92 : Int32)), (.int (2013 : Int32)), (.int (93 : Int32)), (.int (2014 : Int32)), (.int (-2 : Int32)), (.int (-3 : Int32)), (.int (-4 : Int32)), (.int (2004 : Int32)), (.int (1 : Int32)), (.int (12 : Int32)), (.int (-1 : Int32)), (.int (0 : Int32)), (.int (0 : Int32)), (.int (0 : Int32)), (.int (0 : Int32)), (.int (0 : Int32)), (.int (0 : Int32)), (.int (0 : Int32)), (.int (0 : Int32)), (.int (0 : Int32))] (.int (0 : Int32)) := Arv.set Ar25 q25 Sz25 Ng25 Hs25 Gf25 rfl W25 23 rfl (Nat.le_of_ble_eq_true rfl)
  have K25 : Keep h0 h25 [] := K24.wr W25 (Or.inr sz_b1)
  have N25 := Fr.snoc X25 N24 g_b1
  show OGo _ _ _ _ (T25.setTop (mkF m 138 #[.val (.int p1), .val (.int p2), .unset, .unset, .unset] [(.ref b1)]))
  refine OGo.via (fun _ k => XS.dup X25.here hx rfl (hb hby at_138) rfl rfl (XS.bipush X25.here hx rfl (hb hby at_139) (XS.sipush X25.here hx rfl (hb hby at_141) k))) ?_
  obtain ⟨cl26, Ar26, q26, Sz26, Ng26, Hs26, Gf26⟩ := id V25
  have hin26 : ¬ ((24 : Int32) < 0 ∨ cl26.slots.size ≤ ((24 : Int32)).toNatClampNeg) := inb_of Sz26 ⟨by decide, by decide⟩
  obtain ⟨T26, h26, X26, e26, W26, st26⟩ := stI X25 hx hZ e25 Ar26 (j := (24 : Int32)) hin26 (g := (mkF m 144 #[.val (.int p1), .val (.int p2), .unset, .unset, .unset] [(.int (1111 : Int32)), (.int (24 : Int32)), (.ref b1), (.ref b1)])) rfl rfl (hb hby at_144)
  refine OGo.via st26 ?_
  have V26 : Arv Z h26 b1 ka1 .int (32 : Int32) [(.int (-6 : Int32)), (.int (5 : Int32)), (.int (4 : Int32)), (.int (-5 : Int32)), (.int (7 : Int32)), (.int (6 : Int32)), (.int (8 : Int32)), (.int (2 : Int32)), (.int (3 : Int32)), (.int (-7 : Int32)), (.int (16 : Int32)), (.int (91 : Int32)), (.int (92 : Int32)), (.int (2013 : Int32)), (.int (93 : Int32)), (.int (2014 : Int32)), (.int (-2 : Int32)), (.int (-3 : Int32)), (.int (-4 : Int32)), (.int (2004 : Int32)), (.int (1 : Int32)), (.int (12 : Int32)), (.int (-1 : Int32)), (.int (0 : Int32)), (.int (1111 : Int32)), (.int (0 : Int32)), (.int (0 : Int32)), (.int (0 : Int32)), (.int (0 : Int32)), (.int (0 : Int32)), (.int (0 : Int32)), (.int (0 : Int32))] (.int (0 : Int32)) := Arv.set Ar26 q26 Sz26 Ng26 Hs26 Gf26 rfl W26 24 rfl (Nat.le_of_ble_eq_true rfl)
  have K26 : Keep h0 h26 [] := K25.wr W26 (Or.inr sz_b1)
  have N26 := Fr.snoc X26 N25 g_b1
  show OGo _ _ _ _ (T26.setTop (mkF m 145 #[.val (.int p1), .val (.int p2), .unset, .unset, .unset] [(.ref b1)]))
  refine OGo.via (fun _ k => XS.dup X26.here hx rfl (hb hby at_145) rfl rfl (XS.bipush X26.here hx rfl (hb hby at_146) (XS.sipush X26.here hx rfl (hb hby at_148) k))) ?_
  obtain ⟨cl27, Ar27, q27, Sz27, Ng27, Hs27, Gf27⟩ := id V26
  have hin27 : ¬ ((25 : Int32) < 0 ∨ cl27.slots.size ≤ ((25 : Int32)).toNatClampNeg) := inb_of Sz27 ⟨by decide, by decide⟩
  obtain ⟨T27, h27, X27, e27, W27, st27⟩ := stI X26 hx hZ e26 Ar27 (j := (25 : Int32)) hin27 (g := (mkF m 151 #[.val (.int p1), .val (.int p2), .unset, .unset, .unset] [(.int (2003 : Int32)), (.int (25 : Int32)), (.ref b1), (.ref b1)])) rfl rfl (hb hby at_151)
  refine OGo.via st27 ?_
  have V27 : Arv Z h27 b1 ka1 .int (32 : Int32) [(.int (-6 : Int32)), (.int (5 : Int32)), (.int (4 : Int32)), (.int (-5 : Int32)), (.int (7 : Int32)), (.int (6 : Int32)), (.int (8 : Int32)), (.int (2 : Int32)), (.int (3 : Int32)), (.int (-7 : Int32)), (.int (16 : Int32)), (.int (91 : Int32)), (.int (92 : Int32)), (.int (2013 : Int32)), (.int (93 : Int32)), (.int (2014 : Int32)), (.int (-2 : Int32)), (.int (-3 : Int32)), (.int (-4 : Int32)), (.int (2004 : Int32)), (.int (1 : Int32)), (.int (12 : Int32)), (.int (-1 : Int32)), (.int (0 : Int32)), (.int (1111 : Int32)), (.int (2003 : Int32)), (.int (0 : Int32)), (.int (0 : Int32)), (.int (0 : Int32)), (.int (0 : Int32)), (.int (0 : Int32)), (.int (0 : Int32))] (.int (0 : Int32)) := Arv.set Ar27 q27 Sz27 Ng27 Hs27 Gf27 rfl W27 25 rfl (Nat.le_of_ble_eq_true rfl)
  have K27 : Keep h0 h27 [] := K26.wr W27 (Or.inr sz_b1)
  have N27 := Fr.snoc X27 N26 g_b1
  show OGo _ _ _ _ (T27.setTop (mkF m 152 #[.val (.int p1), .val (.int p2), .unset, .unset, .unset] [(.ref b1)]))
  refine OGo.via (fun _ k => XS.dup X27.here hx rfl (hb hby at_152) rfl rfl (XS.bipush X27.here hx rfl (hb hby at_153) (XS.sipush X27.here hx rfl (hb hby at_155) k))) ?_
  obtain ⟨cl28, Ar28, q28, Sz28, Ng28, Hs28, Gf28⟩ := id V27
  have hin28 : ¬ ((26 : Int32) < 0 ∨ cl28.slots.size ≤ ((26 : Int32)).toNatClampNeg) := inb_of Sz28 ⟨by decide, by decide⟩
  obtain ⟨T28, h28, X28, e28, W28, st28⟩ := stI X27 hx hZ e27 Ar28 (j := (26 : Int32)) hin28 (g := (mkF m 158 #[.val (.int p1), .val (.int p2), .unset, .unset, .unset] [(.int (2005 : Int32)), (.int (26 : Int32)), (.ref b1), (.ref b1)])) rfl rfl (hb hby at_158)
  refine OGo.via st28 ?_
  have V28 : Arv Z h28 b1 ka1 .int (32 : Int32) [(.int (-6 : Int32)), (.int (5 : Int32)), (.int (4 : Int32)), (.int (-5 : Int32)), (.int (7 : Int32)), (.int (6 : Int32)), (.int (8 : Int32)), (.int (2 : Int32)), (.int (3 : Int32)), (.int (-7 : Int32)), (.int (16 : Int32)), (.int (91 : Int32)), (.int (92 : Int32)), (.int (2013 : Int32)), (.int (93 : Int32)), (.int (2014 : Int32)), (.int (-2 : Int32)), (.int (-3 : Int32)), (.int (-4 : Int32)), (.int (2004 : Int32)), (.int (1 : Int32)), (.int (12 : Int32)), (.int (-1 : Int32)), (.int (0 : Int32)), (.int (1111 : Int32)), (.int (2003 : Int32)), (.int (2005 : Int32)), (.int (0 : Int32)), (.int (0 : Int32)), (.int (0 : Int32)), (.int (0 : Int32)), (.int (0 : Int32))] (.int (0 : Int32)) := Arv.set Ar28 q28 Sz28 Ng28 Hs28 Gf28 rfl W28 26 rfl (Nat.le_of_ble_eq_true rfl)
  have K28 : Keep h0 h28 [] := K27.wr W28 (Or.inr sz_b1)
  have N28 := Fr.snoc X28 N27 g_b1
  show OGo _ _ _ _ (T28.setTop (mkF m 159 #[.val (.int p1), .val (.int p2), .unset, .unset, .unset] [(.ref b1)]))
  refine OGo.via (fun _ k => XS.dup X28.here hx rfl (hb hby at_159) rfl rfl (XS.bipush X28.here hx rfl (hb hby at_160) (XS.bipush X28.here hx rfl (hb hby at_162) k))) ?_
  obtain ⟨cl29, Ar29, q29, Sz29, Ng29, Hs29, Gf29⟩ := id V28
  have hin29 : ¬ ((27 : Int32) < 0 ∨ cl29.slots.size ≤ ((27 : Int32)).toNatClampNeg) := inb_of Sz29 ⟨by decide, by decide⟩
  obtain ⟨T29, h29, X29, e29, W29, st29⟩ := stI X28 hx hZ e28 Ar29 (j := (27 : Int32)) hin29 (g := (mkF m 164 #[.val (.int p1), .val (.int p2), .unset, .unset, .unset] [(.int (-8 : Int32)), (.int (27 : Int32)), (.ref b1), (.ref b1)])) rfl rfl (hb hby at_164)
  refine OGo.via st29 ?_
  have V29 : Arv Z h29 b1 ka1 .int (32 : Int32) [(.int (-6 : Int32)), (.int (5 : Int32)), (.int (4 : Int32)), (.int (-5 : Int32)), (.int (7 : Int32)), (.int (6 : Int32)), (.int (8 : Int32)), (.int (2 : Int32)), (.int (3 : Int32)), (.int (-7 : Int32)), (.int (16 : Int32)), (.int (91 : Int32)), (.int (92 : Int32)), (.int (2013 : Int32)), (.int (93 : Int32)), (.int (2014 : Int32)), (.int (-2 : Int32)), (.int (-3 : Int32)), (.int (-4 : Int32)), (.int (2004 : Int32)), (.int (1 : Int32)), (.int (12 : Int32)), (.int (-1 : Int32)), (.int (0 : Int32)), (.int (1111 : Int32)), (.int (2003 : Int32)), (.int (2005 : Int32)), (.int (-8 : Int32)), (.int (0 : Int32)), (.int (0 : Int32)), (.int (0 : Int32)), (.int (0 : Int32))] (.int (0 : Int32)) := Arv.set Ar29 q29 Sz29 Ng29 Hs29 Gf29 rfl W29 27 rfl (Nat.le_of_ble_eq_true rfl)
  have K29 : Keep h0 h29 [] := K28.wr W29 (Or.inr sz_b1)
  have N29 := Fr.snoc X29 N28 g_b1
  show OGo _ _ _ _ (T29.setTop (mkF m 165 #[.val (.int p1), .val (.int p2), .unset, .unset, .unset] [(.ref b1)]))
  refine OGo.via (fun _ k => XS.dup X29.here hx rfl (hb hby at_165) rfl rfl (XS.bipush X29.here hx rfl (hb hby at_166) (XS.sipush X29.here hx rfl (hb hby at_168) k))) ?_
  obtain ⟨cl30, Ar30, q30, Sz30, Ng30, Hs30, Gf30⟩ := id V29
  have hin30 : ¬ ((28 : Int32) < 0 ∨ cl30.slots.size ≤ ((28 : Int32)).toNatClampNeg) := inb_of Sz30 ⟨by decide, by decide⟩
  obtain ⟨T30, h30, X30, e30, W30, st30⟩ := stI X29 hx hZ e29 Ar30 (j := (28 : Int32)) hin30 (g := (mkF m 171 #[.val (.int p1), .val (.int p2), .unset, .unset, .unset] [(.int (2012 : Int32)), (.int (28 : Int32)), (.ref b1), (.ref b1)])) rfl rfl (hb hby at_171)
  refine OGo.via st30 ?_
  have V30 : Arv Z h30 b1 ka1 .int (32 : Int32) [(.int (-6 : Int32)), (.int (5 : Int32)), (.int (4 : Int32)), (.int (-5 : Int32)), (.int (7 : Int32)), (.int (6 : Int32)), (.int (8 : Int32)), (.int (2 : Int32)), (.int (3 : Int32)), (.int (-7 : Int32)), (.int (16 : Int32)), (.int (91 : Int32)), (.int (92 : Int32)), (.int (2013 : Int32)), (.int (93 : Int32)), (.int (2014 : Int32)), (.int (-2 : Int32)), (.int (-3 : Int32)), (.int (-4 : Int32)), (.int (2004 : Int32)), (.int (1 : Int32)), (.int (12 : Int32)), (.int (-1 : Int32)), (.int (0 : Int32)), (.int (1111 : Int32)), (.int (2003 : Int32)), (.int (2005 : Int32)), (.int (-8 : Int32)), (.int (2012 : Int32)), (.int (0 : Int32)), (.int (0 : Int32)), (.int (0 : Int32))] (.int (0 : Int32)) := Arv.set Ar30 q30 Sz30 Ng30 Hs30 Gf30 rfl W30 28 rfl (Nat.le_of_ble_eq_true rfl)
  have K30 : Keep h0 h30 [] := K29.wr W30 (Or.inr sz_b1)
  have N30 := Fr.snoc X30 N29 g_b1
  show OGo _ _ _ _ (T30.setTop (mkF m 172 #[.val (.int p1), .val (.int p2), .unset, .unset, .unset] [(.ref b1)]))
  refine OGo.via (fun _ k => XS.dup X30.here hx rfl (hb hby at_172) rfl rfl (XS.bipush X30.here hx rfl (hb hby at_173) (XS.bipush X30.here hx rfl (hb hby at_175) k))) ?_
  obtain ⟨cl31, Ar31, q31, Sz31, Ng31, Hs31, Gf31⟩ := id V30
  have hin31 : ¬ ((29 : Int32) < 0 ∨ cl31.slots.size ≤ ((29 : Int32)).toNatClampNeg) := inb_of Sz31 ⟨by decide, by decide⟩
  obtain ⟨T31, h31, X31, e31, W31, st31⟩ := stI X30 hx hZ e30 Ar31 (j := (29 : Int32)) hin31 (g := (mkF m 177 #[.val (.int p1), .val (.int p2), .unset, .unset, .unset] [(.int (-9 : Int32)), (.int (29 : Int32)), (.ref b1), (.ref b1)])) rfl rfl (hb hby at_177)
  refine OGo.via st31 ?_
  have V31 : Arv Z h31 b1 ka1 .int (32 : Int32) [(.int (-6 : Int32)), (.int (5 : Int32)), (.int (4 : Int32)), (.int (-5 : Int32)), (.int (7 : Int32)), (.int (6 : Int32)), (.int (8 : Int32)), (.int (2 : Int32)), (.int (3 : Int32)), (.int (-7 : Int32)), (.int (16 : Int32)), (.int (91 : Int32)), (.int (92 : Int32)), (.int (2013 : Int32)), (.int (93 : Int32)), (.int (2014 : Int32)), (.int (-2 : Int32)), (.int (-3 : Int32)), (.int (-4 : Int32)), (.int (2004 : Int32)), (.int (1 : Int32)), (.int (12 : Int32)), (.int (-1 : Int32)), (.int (0 : Int32)), (.int (1111 : Int32)), (.int (2003 : Int32)), (.int (2005 : Int32)), (.int (-8 : Int32)), (.int (2012 : Int32)), (.int (-9 : Int32)), (.int (0 : Int32)), (.int (0 : Int32))] (.int (0 : Int32)) := Arv.set Ar31 q31 Sz31 Ng31 Hs31 Gf31 rfl W31 29 rfl (Nat.le_of_ble_eq_true rfl)
  have K31 : Keep h0 h31 [] := K30.wr W31 (Or.inr sz_b1)
  have N31 := Fr.snoc X31 N30 g_b1
  show OGo _ _ _ _ (T31.setTop (mkF m 178 #[.val (.int p1), .val (.int p2), .unset, .unset, .unset] [(.ref b1)]))
  refine OGo.via (fun _ k => XS.dup X31.here hx rfl (hb hby at_178) rfl rfl (XS.bipush X31.here hx rfl (hb hby at_179) (XS.sipush X31.here hx rfl (hb hby at_181) k))) ?_
  obtain ⟨cl32, Ar32, q32, Sz32, Ng32, Hs32, Gf32⟩ := id V31
  have hin32 : ¬ ((30 : Int32) < 0 ∨ cl32.slots.size ≤ ((30 : Int32)).toNatClampNeg) := inb_of Sz32 ⟨by decide, by decide⟩
  obtain ⟨T32, h32, X32, e32, W32, st32⟩ := stI X31 hx hZ e31 Ar32 (j := (30 : Int32)) hin32 (g := (mkF m 184 #[.val (.int p1), .val (.int p2), .unset, .unset, .unset] [(.int (2011 : Int32)), (.int (30 : Int32)), (.ref b1), (.ref b1)])) rfl rfl (hb hby at_184)
  refine OGo.via st32 ?_
  have V32 : Arv Z h32 b1 ka1 .int (32 : Int32) [(.int (-6 : Int32)), (.int (5 : Int32)), (.int (4 : Int32)), (.int (-5 : Int32)), (.int (7 : Int32)), (.int (6 : Int32)), (.int (8 : Int32)), (.int (2 : Int32)), (.int (3 : Int32)), (.int (-7 : Int32)), (.int (16 : Int32)), (.int (91 : Int32)), (.int (92 : Int32)), (.int (2013 : Int32)), (.int (93 : Int32)), (.int (2014 : Int32)), (.int (-2 : Int32)), (.int (-3 : Int32)), (.int (-4 : Int32)), (.int (2004 : Int32)), (.int (1 : Int32)), (.int (12 : Int32)), (.int (-1 : Int32)), (.int (0 : Int32)), (.int (1111 : Int32)), (.int (2003 : Int32)), (.int (2005 : Int32)), (.int (-8 : Int32)), (.int (2012 : Int32)), (.int (-9 : Int32)), (.int (2011 : Int32)), (.int (0 : Int32))] (.int (0 : Int32)) := Arv.set Ar32 q32 Sz32 Ng32 Hs32 Gf32 rfl W32 30 rfl (Nat.le_of_ble_eq_true rfl)
  have K32 : Keep h0 h32 [] := K31.wr W32 (Or.inr sz_b1)
  have N32 := Fr.snoc X32 N31 g_b1
  show OGo _ _ _ _ (T32.setTop (mkF m 185 #[.val (.int p1), .val (.int p2), .unset, .unset, .unset] [(.ref b1)]))
  refine OGo.via (fun _ k => XS.dup X32.here hx rfl (hb hby at_185) rfl rfl (XS.bipush X32.here hx rfl (hb hby at_186) (XS.bipush X32.here hx rfl (hb hby at_188) k))) ?_
  obtain ⟨cl33, Ar33, q33, Sz33, Ng33, Hs33, Gf33⟩ := id V32
  have hin33 : ¬ ((31 : Int32) < 0 ∨ cl33.slots.size ≤ ((31 : Int32)).toNatClampNeg) := inb_of Sz33 ⟨by decide, by decide⟩
  obtain ⟨T33, h33, X33, e33, W33, st33⟩ := stI X32 hx hZ e32 Ar33 (j := (31 : Int32)) hin33 (g := (mkF m 190 #[.val (.int p1), .val (.int p2), .unset, .unset, .unset] [(.int (70 : Int32)), (.int (31 : Int32)), (.ref b1), (.ref b1)])) rfl rfl (hb hby at_190)
  refine OGo.via st33 ?_
  have V33 : Arv Z h33 b1 ka1 .int (32 : Int32) [(.int (-6 : Int32)), (.int (5 : Int32)), (.int (4 : Int32)), (.int (-5 : Int32)), (.int (7 : Int32)), (.int (6 : Int32)), (.int (8 : Int32)), (.int (2 : Int32)), (.int (3 : Int32)), (.int (-7 : Int32)), (.int (16 : Int32)), (.int (91 : Int32)), (.int (92 : Int32)), (.int (2013 : Int32)), (.int (93 : Int32)), (.int (2014 : Int32)), (.int (-2 : Int32)), (.int (-3 : Int32)), (.int (-4 : Int32)), (.int (2004 : Int32)), (.int (1 : Int32)), (.int (12 : Int32)), (.int (-1 : Int32)), (.int (0 : Int32)), (.int (1111 : Int32)), (.int (2003 : Int32)), (.int (2005 : Int32)), (.int (-8 : Int32)), (.int (2012 : Int32)), (.int (-9 : Int32)), (.int (2011 : Int32)), (.int (70 : Int32))] (.int (0 : Int32)) := Arv.set Ar33 q33 Sz33 Ng33 Hs33 Gf33 rfl W33 31 rfl (Nat.le_of_ble_eq_true rfl)
  have K33 : Keep h0 h33 [] := K32.wr W33 (Or.inr sz_b1)
  have N33 := Fr.snoc X33 N32 g_b1
  show OGo _ _ _ _ (T33.setTop (mkF m 191 #[.val (.int p1), .val (.int p2), .unset, .unset, .unset] [(.ref b1)]))
  refine OGo.via (fun _ k => XS.astoreN X33.here hx rfl (hb hby at_191) rfl rfl (l' := #[.val (.int p1), .val (.int p2), .val (.ref b1), .unset, .unset]) rfl (XS.iloadN X33.here hx rfl (hb hby at_192) rfl (XS.iconst X33.here hx rfl (hb hby at_193) (XS.iand X33.here hx rfl (hb hby at_194) rfl k)))) ?_
  by_cases hc195_34 : (p1 &&& (1 : Int32)) = (0 : Int32)
  · refine OGo.via (fun _ k => XS.ifYes X33.here hx rfl (pc0 := 195) (pc' := 203) rfl (hb hby at_195) rfl ((if0 _ _).trans (teq hc195_34).1) (by decide) (by decide) k) ?_
    show OGo _ _ _ _ (T33.setTop (mkF m 203 #[.val (.int p1), .val (.int p2), .val (.ref b1), .unset, .unset] []))
    refine OGo.via (fun _ k => XS.aloadN X33.here hx rfl (hb hby at_203) rfl rfl (XS.iloadN X33.here hx rfl (hb hby at_204) rfl (XS.iconst X33.here hx rfl (hb hby at_205) (XS.iushr X33.here hx rfl (hb hby at_206) rfl (XS.bipush X33.here hx rfl (hb hby at_207) (XS.iand X33.here hx rfl (hb hby at_209) rfl k)))))) ?_
    obtain ⟨cl35, Ar35, q35, Sz35, Ng35, Hs35, Gf35⟩ := id V33
    have hin35 : ¬ ((((p1.toUInt32 >>> ((1 : Int32) &&& 31).toUInt32).toInt32) &&& (31 : Int32)) < 0 ∨ cl35.slots.size ≤ ((((p1.toUInt32 >>> ((1 : Int32) &&& 31).toUInt32).toInt32) &&& (31 : Int32))).toNatClampNeg) := inb_of Sz35 (own_and31 _)
    obtain ⟨tv, htv⟩ := own_getX [(.int (-6 : Int32)), (.int (5 : Int32)), (.int (4 : Int32)), (.int (-5 : Int32)), (.int (7 : Int32)), (.int (6 : Int32)), (.int (8 : Int32)), (.int (2 : Int32)), (.int (3 : Int32)), (.int (-7 : Int32)), (.int (16 : Int32)), (.int (91 : Int32)), (.int (92 : Int32)), (.int (2013 : Int32)), (.int (93 : Int32)), (.int (2014 : Int32)), (.int (-2 : Int32)), (.int (-3 : Int32)), (.int (-4 : Int32)), (.int (2004 : Int32)), (.int (1 : Int32)), (.int (12 : Int32)), (.int (-1 : Int32)), (.int (0 : Int32)), (.int (1111 : Int32)), (.int (2003 : Int32)), (.int (2005 : Int32)), (.int (-8 : Int32)), (.int (2012 : Int32)), (.int (-9 : Int32)), (.int (2011 : Int32)), (.int (70 : Int32))] [(-6 : Int32), (5 : Int32), (4 : Int32), (-5 : Int32), (7 : Int32), (6 : Int32), (8 : Int32), (2 : Int32), (3 : Int32), (-7 : Int32), (16 : Int32), (91 : Int32), (92 : Int32), (2013 : Int32), (93 : Int32), (2014 : Int32), (-2 : Int32), (-3 : Int32), (-4 : Int32), (2004 : Int32), (1 : Int32), (12 : Int32), (-1 : Int32), (0 : Int32), (1111 : Int32), (2003 : Int32), (2005 : Int32), (-8 : Int32), (2012 : Int32), (-9 : Int32), (2011 : Int32), (70 : Int32)] rfl ((((p1.toUInt32 >>> ((1 : Int32) &&& 31).toUInt32).toInt32) &&& (31 : Int32))).toNatClampNeg
    have hat35 : cl35.slots[((((p1.toUInt32 >>> ((1 : Int32) &&& 31).toUInt32).toInt32) &&& (31 : Int32))).toNatClampNeg]? = some (.int tv) := Hs35.at hin35 htv
    refine OGo.via (X33.iaload hx (j := (((p1.toUInt32 >>> ((1 : Int32) &&& 31).toUInt32).toInt32) &&& (31 : Int32))) (v := (.int tv)) (by rw [e33]; exact Ar35.1) (State.isArrayOf_alike hZ.alike Ar35.2.1) Ar35.2.2 hin35 hat35 (g := (mkF m 210 #[.val (.int p1), .val (.int p2), .val (.ref b1), .unset, .unset] [(.int (((p1.toUInt32 >>> ((1 : Int32) &&& 31).toUInt32).toInt32) &&& (31 : Int32))), (.ref b1)])) rfl rfl (hb hby at_210)) ?_
    show OGo _ _ _ _ (T33.setTop (mkF m 211 #[.val (.int p1), .val (.int p2), .val (.ref b1), .unset, .unset] [(.int tv)]))
    refine OGo.via (fun _ k => XS.istoreN X33.here hx rfl (hb hby at_211) rfl (l' := #[.val (.int p1), .val (.int p2), .val (.ref b1), .val (.int tv), .unset]) rfl (XS.iloadN X33.here hx rfl (hb hby at_212) rfl k)) ?_
    have f37 := own_staKeep0 S_INTEGER K33
    have f38 := own_staKeep0 S_LONG K33
    have f39 := own_staKeep0 S_DOUBLE K33
    have f40 := own_staKeep0 S_DECIMAL K33
    have f41 := own_staKeep0 S_BOOLEAN K33
    have f42 := own_staKeep0 S_DATE K33
    have f43 := own_staKeep0 S_TIME K33
    have f44 := own_staKeep0 S_TIMESTAMP K33
    have f45 := own_staKeep0 S_BINARY K33
    have f46 := own_staKeep0 S_STRING K33
    obtain ⟨_, T36, Lc36, X36, hQ36, st36⟩ := own_open X33 (Jvm.LawKit.callS X33 hx (y := own_y0) hown (mvT hZ (own_w hw 1 rfl)) (mvT hZ (own_w hw 2 rfl)) (mvT hZ (own_w hw 3 rfl)) (mvT hZ (own_w hw 4 rfl)) (by decide) (backOf (W := 0) (rm1 l Z a0 hw [] tv w0 w1 w2 w3 w4 w5 w6 w7 w8 w9 h33 n0 (Nat.le_trans Z0 K33.1) f37 f38 f39 f40 f41 f42 f43 f44 f45 f46) hZ (own_w hw 4 rfl) (own_w hw 3 rfl) (by decide) (by decide)) (g := (mkF m 213 #[.val (.int p1), .val (.int p2), .val (.ref b1), .val (.int tv), .unset] [(.int tv)])) rfl (by rw [hml]; rfl) (argsL := [(.int tv)]) (rest := []) (lenOf pd_0 rfl) rfl (by show 2 * 0 + _ ≤ _; exact Nat.le_of_eq rfl) (hb hby at_213) (fun _ _ => ⟨rfl, e33, (by decide : 1 + 0 ≤ _), (by decide : 32 + 0 ≤ _)⟩))
    obtain ⟨rfl, N36q, r36_0⟩ := hQ36
    have N36 := Fr.app N33 N36q
    refine OGo.via st36 ?_
    show OGo _ _ _ _ (T36.setTop (mkF m 216 #[.val (.int p1), .val (.int p2), .val (.ref b1), .val (.int tv), .unset] [(.ref (own_col tv w0 w1 w2 w3 w4 w5 w6 w7 w8 w9))]))
    refine OGo.via (fun _ k => XS.astore X36.here hx rfl (hb hby at_216) rfl rfl (l' := #[.val (.int p1), .val (.int p2), .val (.ref b1), .val (.int tv), .val (.ref (own_col tv w0 w1 w2 w3 w4 w5 w6 w7 w8 w9))]) rfl (XS.aload X36.here hx rfl (hb hby at_218) rfl rfl (XS.iloadN X36.here hx rfl (hb hby at_220) rfl k))) ?_
    obtain ⟨_, T47, Lc47, X47, hQ47, st47⟩ := own_open X36 (Jvm.LawKit.callS X36 hx (y := own_y1) hown (mvT hZ (own_w hw 7 rfl)) (mvT hZ (own_w hw 8 rfl)) (mvT hZ (own_w hw 9 rfl)) (mvT hZ (own_w hw 10 rfl)) (by decide) (backOf (W := 1) (rm2 l Z a0 hw [] tv w0 w1 w2 w3 w4 w5 w6 w7 w8 w9 h33 n0 (Nat.le_trans Z0 K33.1) f37 f38 f39 f40 f41 f42 f43 f44 f45 f46) hZ (own_w hw 10 rfl) (own_w hw 9 rfl) (by decide) (by decide)) (g := (mkF m 221 #[.val (.int p1), .val (.int p2), .val (.ref b1), .val (.int tv), .val (.ref (own_col tv w0 w1 w2 w3 w4 w5 w6 w7 w8 w9))] [(.int tv), (.ref (own_col tv w0 w1 w2 w3 w4 w5 w6 w7 w8 w9))])) rfl (by rw [hml]; rfl) (argsL := [(.int tv)]) (rest := [(.ref (own_col tv w0 w1 w2 w3 w4 w5 w6 w7 w8 w9))]) (lenOf pd_0 rfl) rfl (by show 2 * 0 + _ ≤ _; exact Nat.le_of_eq rfl) (hb hby at_221) (fun _ _ => ⟨rfl, r36_0, (by decide : 1 + 0 ≤ _), (by decide : 32 + 0 ≤ _)⟩))
    obtain ⟨rfl, N47q, r47_0⟩ := hQ47
    have N47 := Fr.app N36 N47q
    refine OGo.via st47 ?_
    show OGo _ _ _ _ (T47.setTop (mkF m 224 #[.val (.int p1), .val (.int p2), .val (.ref b1), .val (.int tv), .val (.ref (own_col tv w0 w1 w2 w3 w4 w5 w6 w7 w8 w9))] [(.ref (own_col tv w0 w1 w2 w3 w4 w5 w6 w7 w8 w9)), (.ref (own_col tv w0 w1 w2 w3 w4 w5 w6 w7 w8 w9))]))
    refine OGo.via (fun _ k => Jvm.RoadKit.acmp (g := (mkF m 224 #[.val (.int p1), .val (.int p2), .val (.ref b1), .val (.int tv), .val (.ref (own_col tv w0 w1 w2 w3 w4 w5 w6 w7 w8 w9))] [(.ref (own_col tv w0 w1 w2 w3 w4 w5 w6 w7 w8 w9)), (.ref (own_col tv w0 w1 w2 w3 w4 w5 w6 w7 w8 w9))])) X47 hx rfl rfl rfl (pc0 := 224) (pc' := 227) (same := true) rfl (hb hby at_224) rfl (decide_eq_true rfl) (by decide) (by decide) k) ?_
    show OGo _ _ _ _ (T47.setTop (mkF m 227 #[.val (.int p1), .val (.int p2), .val (.ref b1), .val (.int tv), .val (.ref (own_col tv w0 w1 w2 w3 w4 w5 w6 w7 w8 w9))] []))
    refine OGo.via (fun _ k => XS.iconst X47.here hx rfl (hb hby at_227) (XS.goto X47.here hx rfl (pc0 := 228) (pc' := 232) rfl (hb hby at_228) (by decide) (by decide) k)) ?_
    show OGo _ _ _ _ (T47.setTop (mkF m 232 #[.val (.int p1), .val (.int p2), .val (.ref b1), .val (.int tv), .val (.ref (own_col tv w0 w1 w2 w3 w4 w5 w6 w7 w8 w9))] [(.int (1 : Int32))]))
    refine own_retN (t := .boolean) (by simp) X47 hx Bd.notSynchronized Bd.returns (hb hby at_232) (by decide) (by decide) ?_
    show Q_rm0 Z _ _ _ _ _ _ _ _ _ _ _ _ h0 n0 _ T47.heap _
    rw [r47_0]
    exact ⟨rfl, N47⟩
  · refine OGo.via (fun _ k => XS.ifNo X33.here hx rfl (hb hby at_195) rfl ((if0 _ _).trans (feq hc195_34).1) k) ?_
    show OGo _ _ _ _ (T33.setTop (mkF m 198 #[.val (.int p1), .val (.int p2), .val (.ref b1), .unset, .unset] []))
    refine OGo.via (fun _ k => XS.iloadN X33.here hx rfl (hb hby at_198) rfl (XS.istoreN X33.here hx rfl (hb hby at_199) rfl (l' := #[.val (.int p1), .val (.int p2), .val (.ref b1), .val (.int p2), .unset]) rfl (XS.goto X33.here hx rfl (pc0 := 200) (pc' := 212) rfl (hb hby at_200) (by decide) (by decide) (XS.iloadN X33.here hx rfl (hb hby at_212) rfl k)))) ?_
    have f49 := own_staKeep0 S_INTEGER K33
    have f50 := own_staKeep0 S_LONG K33
    have f51 := own_staKeep0 S_DOUBLE K33
    have f52 := own_staKeep0 S_DECIMAL K33
    have f53 := own_staKeep0 S_BOOLEAN K33
    have f54 := own_staKeep0 S_DATE K33
    have f55 := own_staKeep0 S_TIME K33
    have f56 := own_staKeep0 S_TIMESTAMP K33
    have f57 := own_staKeep0 S_BINARY K33
    have f58 := own_staKeep0 S_STRING K33
    obtain ⟨_, T48, Lc48, X48, hQ48, st48⟩ := own_open X33 (Jvm.LawKit.callS X33 hx (y := own_y0) hown (mvT hZ (own_w hw 1 rfl)) (mvT hZ (own_w hw 2 rfl)) (mvT hZ (own_w hw 3 rfl)) (mvT hZ (own_w hw 4 rfl)) (by decide) (backOf (W := 0) (rm1 l Z a0 hw [] p2 w0 w1 w2 w3 w4 w5 w6 w7 w8 w9 h33 n0 (Nat.le_trans Z0 K33.1) f49 f50 f51 f52 f53 f54 f55 f56 f57 f58) hZ (own_w hw 4 rfl) (own_w hw 3 rfl) (by decide) (by decide)) (g := (mkF m 213 #[.val (.int p1), .val (.int p2), .val (.ref b1), .val (.int p2), .unset] [(.int p2)])) rfl (by rw [hml]; rfl) (argsL := [(.int p2)]) (rest := []) (lenOf pd_0 rfl) rfl (by show 2 * 0 + _ ≤ _; exact Nat.le_of_eq rfl) (hb hby at_213) (fun _ _ => ⟨rfl, e33, (by decide : 1 + 0 ≤ _), (by decide : 32 + 0 ≤ _)⟩))
    obtain ⟨rfl, N48q, r48_0⟩ := hQ48
    have N48 := Fr.app N33 N48q
    refine OGo.via st48 ?_
    show OGo _ _ _ _ (T48.setTop (mkF m 216 #[.val (.int p1), .val (.int p2), .val (.ref b1), .val (.int p2), .unset] [(.ref (own_col p2 w0 w1 w2 w3 w4 w5 w6 w7 w8 w9))]))
    refine OGo.via (fun _ k => XS.astore X48.here hx rfl (hb hby at_216) rfl rfl (l' := #[.val (.int p1), .val (.int p2), .val (.ref b1), .val (.int p2), .val (.ref (own_col p2 w0 w1 w2 w3 w4 w5 w6 w7 w8 w9))]) rfl (XS.aload X48.here hx rfl (hb hby at_218) rfl rfl (XS.iloadN X48.here hx rfl (hb hby at_220) rfl k))) ?_
    obtain ⟨_, T59, Lc59, X59, hQ59, st59⟩ := own_open X48 (Jvm.LawKit.callS X48 hx (y := own_y1) hown (mvT hZ (own_w hw 7 rfl)) (mvT hZ (own_w hw 8 rfl)) (mvT hZ (own_w hw 9 rfl)) (mvT hZ (own_w hw 10 rfl)) (by decide) (backOf (W := 1) (rm2 l Z a0 hw [] p2 w0 w1 w2 w3 w4 w5 w6 w7 w8 w9 h33 n0 (Nat.le_trans Z0 K33.1) f49 f50 f51 f52 f53 f54 f55 f56 f57 f58) hZ (own_w hw 10 rfl) (own_w hw 9 rfl) (by decide) (by decide)) (g := (mkF m 221 #[.val (.int p1), .val (.int p2), .val (.ref b1), .val (.int p2), .val (.ref (own_col p2 w0 w1 w2 w3 w4 w5 w6 w7 w8 w9))] [(.int p2), (.ref (own_col p2 w0 w1 w2 w3 w4 w5 w6 w7 w8 w9))])) rfl (by rw [hml]; rfl) (argsL := [(.int p2)]) (rest := [(.ref (own_col p2 w0 w1 w2 w3 w4 w5 w6 w7 w8 w9))]) (lenOf pd_0 rfl) rfl (by show 2 * 0 + _ ≤ _; exact Nat.le_of_eq rfl) (hb hby at_221) (fun _ _ => ⟨rfl, r48_0, (by decide : 1 + 0 ≤ _), (by decide : 32 + 0 ≤ _)⟩))
    obtain ⟨rfl, N59q, r59_0⟩ := hQ59
    have N59 := Fr.app N48 N59q
    refine OGo.via st59 ?_
    show OGo _ _ _ _ (T59.setTop (mkF m 224 #[.val (.int p1), .val (.int p2), .val (.ref b1), .val (.int p2), .val (.ref (own_col p2 w0 w1 w2 w3 w4 w5 w6 w7 w8 w9))] [(.ref (own_col p2 w0 w1 w2 w3 w4 w5 w6 w7 w8 w9)), (.ref (own_col p2 w0 w1 w2 w3 w4 w5 w6 w7 w8 w9))]))
    refine OGo.via (fun _ k => Jvm.RoadKit.acmp (g := (mkF m 224 #[.val (.int p1), .val (.int p2), .val (.ref b1), .val (.int p2), .val (.ref (own_col p2 w0 w1 w2 w3 w4 w5 w6 w7 w8 w9))] [(.ref (own_col p2 w0 w1 w2 w3 w4 w5 w6 w7 w8 w9)), (.ref (own_col p2 w0 w1 w2 w3 w4 w5 w6 w7 w8 w9))])) X59 hx rfl rfl rfl (pc0 := 224) (pc' := 227) (same := true) rfl (hb hby at_224) rfl (decide_eq_true rfl) (by decide) (by decide) k) ?_
    show OGo _ _ _ _ (T59.setTop (mkF m 227 #[.val (.int p1), .val (.int p2), .val (.ref b1), .val (.int p2), .val (.ref (own_col p2 w0 w1 w2 w3 w4 w5 w6 w7 w8 w9))] []))
    refine OGo.via (fun _ k => XS.iconst X59.here hx rfl (hb hby at_227) (XS.goto X59.here hx rfl (pc0 := 228) (pc' := 232) rfl (hb hby at_228) (by decide) (by decide) k)) ?_
    show OGo _ _ _ _ (T59.setTop (mkF m 232 #[.val (.int p1), .val (.int p2), .val (.ref b1), .val (.int p2), .val (.ref (own_col p2 w0 w1 w2 w3 w4 w5 w6 w7 w8 w9))] [(.int (1 : Int32))]))
    refine own_retN (t := .boolean) (by simp) X59 hx Bd.notSynchronized Bd.returns (hb hby at_232) (by decide) (by decide) ?_
    show Q_rm0 Z _ _ _ _ _ _ _ _ _ _ _ _ h0 n0 _ T59.heap _
    rw [r59_0]
    exact ⟨rfl, N59⟩
set_option maxRecDepth 65536 in
set_option maxHeartbeats 40000000 in
theorem comes_1 {Post : Tables → Env → Array Value → State → Outcome → State → Prop} (hpost : ∀ tb e args s v u, (limb_1_1.after args s (.returned v) u = true ∧ limb_1_2.after args s (.returned v) u = true ∧ True) → FrameEnd s (.returned v) u (Jvm.fieldLocs frame_1_writes args s ++ Jvm.arrayLocs frame_1_arrays args s ++ Jvm.staticLocs frame_1_statics s) 16 128 → Post tb e args s (.returned v) u) :
    ArmFor flags0 classFile x code maxLocals ret World_1 tables_1 room_1 Calls_1 rest_1 Pre_1 Post := by
  intro l hfl _ _ p e ha hc hk s m args below hf hA hF happ hP
  obtain ⟨hcalls, hrest, hpre⟩ := hP
  obtain ⟨-, -, -, hnamed, -, -, -, hat⟩ := (Spec.applies_iff hf).mp happ
  obtain ⟨hg, hn⟩ := and_e (Cond.before_iff.mp (show (Jvm.Cond.and given_1 narrow_1).before args s = true from hpre))
  obtain ⟨gc, gv0⟩ := and_e hg
  obtain ⟨ga0, gv1⟩ := and_e gv0
  have ga1 := gv1
  obtain ⟨w0, w1, rfl⟩ : ∃ w0 w1 : Value, args = #[w0, w1] := by
    have hs : args.size = 2 := by simpa [Cond.value, given_1] using gc
    obtain ⟨L⟩ := args
    match L, hs with
    | [w0, w1], _ => exact ⟨w0, w1, rfl⟩
  have hw := fun d (hd : d ∈ tables_1) => atoms_spec (ws := Jvm.Cond.code x code maxLocals ret :: tables_1) hat d (List.mem_cons_of_mem _ hd)
  have hfit : Fit s := fun {y c} hc i hi => by
    obtain ⟨ha, rfl⟩ := Array.getElem?_eq_some_iff.mp hc
    have q := List.all_eq_true.mp ((Array.all_eq_true_iff_forall_mem.mp hF) _ (Array.getElem_mem ha)) i (List.mem_range.mpr hi)
    simpa [Array.getElem?_eq_getElem hi] using q
  obtain ⟨i0, ei0⟩ := is_v ga0
  obtain rfl : w0 = (.int i0) := Option.some.inj ei0
  obtain ⟨i1, ei1⟩ := is_v ga1
  obtain rfl : w1 = (.int i1) := Option.some.inj ei1
  obtain ⟨nc0, ncr0⟩ := and_e hn
  obtain ⟨nc1, ncr1⟩ := and_e ncr0
  obtain ⟨nc2, ncr2⟩ := and_e ncr1
  obtain ⟨nc3, ncr3⟩ := and_e ncr2
  obtain ⟨nc4, ncr4⟩ := and_e ncr3
  obtain ⟨nc5, ncr5⟩ := and_e ncr4
  obtain ⟨nc6, ncr6⟩ := and_e ncr5
  obtain ⟨nc7, ncr7⟩ := and_e ncr6
  obtain ⟨nc8, ncr8⟩ := and_e ncr7
  have nc9 := ncr8
  obtain ⟨u_INTEGER, ev_INTEGER⟩ := exa_v nc0
  obtain ⟨u_DECIMAL, ev_DECIMAL⟩ := exa_v nc1
  obtain ⟨u_STRING, ev_STRING⟩ := exa_v nc2
  obtain ⟨u_DOUBLE, ev_DOUBLE⟩ := exa_v nc3
  obtain ⟨u_LONG, ev_LONG⟩ := exa_v nc4
  obtain ⟨u_TIMESTAMP, ev_TIMESTAMP⟩ := exa_v nc5
  obtain ⟨u_BOOLEAN, ev_BOOLEAN⟩ := exa_v nc6
  obtain ⟨u_BINARY, ev_BINARY⟩ := exa_v nc7
  obtain ⟨u_TIME, ev_TIME⟩ := exa_v nc8
  obtain ⟨u_DATE, ev_DATE⟩ := exa_v nc9
  obtain ⟨n, o, h1, h2, h3, _, L, rfl, ⟨rfl, N⟩, hq⟩ := rm0 l s _ hw tables_1 i0 i1 u_INTEGER u_LONG u_DOUBLE u_DECIMAL u_BOOLEAN u_DATE u_TIME u_TIMESTAMP u_BINARY u_STRING s.heap s.heap.size (Nat.le_refl _) (Sta.start ev_INTEGER (Or.inr ⟨(own_w hw 3 rfl), (own_w hw 6 rfl)⟩)) (Sta.start ev_LONG (Or.inr ⟨(own_w hw 3 rfl), (own_w hw 22 rfl)⟩)) (Sta.start ev_DOUBLE (Or.inr ⟨(own_w hw 3 rfl), (own_w hw 19 rfl)⟩)) (Sta.start ev_DECIMAL (Or.inr ⟨(own_w hw 3 rfl), (own_w hw 13 rfl)⟩)) (Sta.start ev_BOOLEAN (Or.inr ⟨(own_w hw 3 rfl), (own_w hw 28 rfl)⟩)) (Sta.start ev_DATE (Or.inr ⟨(own_w hw 3 rfl), (own_w hw 37 rfl)⟩)) (Sta.start ev_TIME (Or.inr ⟨(own_w hw 3 rfl), (own_w hw 34 rfl)⟩)) (Sta.start ev_TIMESTAMP (Or.inr ⟨(own_w hw 3 rfl), (own_w hw 25 rfl)⟩)) (Sta.start ev_BINARY (Or.inr ⟨(own_w hw 3 rfl), (own_w hw 31 rfl)⟩)) (Sta.start ev_STRING (Or.inr ⟨(own_w hw 3 rfl), (own_w hw 16 rfl)⟩)) p e ha hc hk s m _ below hf ((Spec.applies_iff_loose hf).mp happ).1 ⟨rfl, State.Warmed39.refl s, rfl⟩ trivial
  refine ⟨n, _, h1, h2, h3, hpost _ _ _ _ _ _ ⟨Cond.after_iff.mpr rfl, Cond.after_iff.mpr (eq_i res_at (Term.int_eval (1)) rfl), trivial⟩ ⟨hq.1, hq.2.1, (hq.2.2.sift fun y hy => Or.inr (N y hy)).mono (by decide) (by decide)⟩⟩
theorem main_1_1 : Claimed_1_1 := comes_1 fun _ _ _ _ _ _ h hF => ⟨h.1, hF⟩
theorem main_1_2 : Claimed_1_2 := comes_1 fun _ _ _ _ _ _ h hF => ⟨h.2.1, hF⟩
end Jvm.Pilot.@@N@@
namespace Jvm.Pilot.@@N@@
open Jvm Jvm.ClassFile Sem Op Lib Jvm.Free Jvm.Stand Jvm.Pilot.@@N@@.Jvm.D
/-! MADE BY PROGRAM (witnessworld.py) out of the Statement's table words and the real class files: 12 classes; the members and pool entries that the words name. The judged class is class 1, her method 2. -/
namespace start1
open Jvm.ClassFile
def u (s : String) : CpInfo := .utf8 (stringToUtf16 s)
/-- a pool by its gaps: so many unusable entries, then the entry; so many at the end -/
def gap : Nat → List CpInfo → List CpInfo
  | 0, r => r
  | n + 1, r => .unusable :: gap n r
def poolList (es : List (Nat × CpInfo)) (last : Nat) : List CpInfo := es.foldr (fun e r => gap e.1 (e.2 :: r)) (gap last [])
def pool (es : List (Nat × CpInfo)) (last : Nat) : Array CpInfo := ⟨poolList es last⟩
def fileOf (pool : Array CpInfo) (this : Nat) (attrs : Array Attribute := #[]) (ms : Array MethodInfo := #[]) (fl : Nat := 33) (sup : Nat := 0) (ifs : Array Nat := #[]) (fds : Array FieldInfo := #[]) : ClassFile where
  minorVersion := 0
  majorVersion := 65
  constantPool := pool
  accessFlags := fl
  thisClass := this
  superClass := sup
  interfaces := ifs
  fields := fds
  methods := ms
  attributes := attrs
def plain (name : String) (sup : Option ClassId) : Class where
  name := name
  kind := .ordinary
  loader := none
  accessFlags := 33
  super := sup
  interfaces := #[]
  cf := none
  fields := #[]
  methods := #[]
  instanceTypes := #[]
  staticTypes := #[]
  resolved := #[]
  callSites := []
  init := .initialized
  statics := none
  mirror := none

def pool0 : Array CpInfo := pool [(5, u "<init>"), (0, u "()V"), (1, .class_ 10), (1, u "java/lang/Object")] 113

def k0m0 : Method := { name := "<init>", desc := "()V", sig := { parameters := [], returnType := none }, accessFlags := 1, code := none }
/-- java/lang/Object -/
def k0 : Class := { plain "java/lang/Object" none with
  accessFlags := 33
  interfaces := #[]
  cf := some (fileOf pool0 8 #[] #[{ accessFlags := 1, nameIndex := 5, descriptorIndex := 6, attributes := #[] }] 33 0 #[] #[])
  fields := #[]
  methods := #[k0m0]
  instanceTypes := #[]
  staticTypes := #[]
  resolved := Array.replicate 124 none
  statics := none }

def pool1 : Array CpInfo := pool [(2, .class_ 4), (1, u "java/lang/Object"), (0, u "<init>"), (0, u "()V"), (0, .fieldref 8 9), (0, .class_ 10), (0, .nameAndType 11 12), (0, u "com/example/fetch_pages/fetchpages/db/ColumnType"), (0, u "INTEGER"), (0, u "Lcom/example/fetch_pages/fetchpages/db/ColumnType;"), (0, .fieldref 8 14), (0, .nameAndType 15 12), (0, u "LONG"), (0, .fieldref 8 17), (0, .nameAndType 18 12), (0, u "DOUBLE"), (0, .fieldref 8 20), (0, .nameAndType 21 12), (0, u "DECIMAL"), (0, .fieldref 8 23), (0, .nameAndType 24 12), (0, u "BOOLEAN"), (0, .fieldref 8 26), (0, .nameAndType 27 12), (0, u "DATE"), (0, .fieldref 8 29), (0, .nameAndType 30 12), (0, u "TIME"), (0, .fieldref 8 32), (0, .nameAndType 33 12), (0, u "TIMESTAMP"), (0, .fieldref 8 35), (0, .nameAndType 36 12), (0, u "BINARY"), (0, .fieldref 8 38), (0, .nameAndType 39 12), (0, u "STRING"), (0, .methodref 8 41), (0, .nameAndType 42 43), (0, u "of"), (0, u "(I)Lcom/example/fetch_pages/fetchpages/db/ColumnType;"), (0, .methodref 45 46), (0, .class_ 47), (0, .nameAndType 48 43), (0, u "com/example/fetch_pages/fetchpages/db/ColumnTypeOfPinLaw"), (0, u "expected"), (3, u "law"), (0, u "(II)Z")] 4

def k1m0 : Method := { name := "<init>", desc := "()V", sig := { parameters := [], returnType := none }, accessFlags := 2, code := none }
def k1c1 : Code := { maxStack := 2, maxLocals := 1, code := method_2_code, exceptionTable := #[], attributes := #[] }
def k1m1 : Method := { name := "expected", desc := "(I)Lcom/example/fetch_pages/fetchpages/db/ColumnType;", sig := { parameters := [.int], returnType := some (.object "com/example/fetch_pages/fetchpages/db/ColumnType") }, accessFlags := 10, code := some k1c1 }
def k1c2 : Code := { maxStack := 4, maxLocals := 5, code := code, exceptionTable := #[], attributes := #[] }
def k1m2 : Method := { name := "law", desc := "(II)Z", sig := { parameters := [.int, .int], returnType := some .boolean }, accessFlags := 9, code := some k1c2 }
/-- com/example/fetch_pages/fetchpages/db/ColumnTypeOfPinLaw -/
def k1 : Class := { plain "com/example/fetch_pages/fetchpages/db/ColumnTypeOfPinLaw" (some 0) with
  accessFlags := 49
  interfaces := #[]
  cf := some (fileOf pool1 45 #[] #[{ accessFlags := 2, nameIndex := 5, descriptorIndex := 6, attributes := #[] }, { accessFlags := 10, nameIndex := 48, descriptorIndex := 43, attributes := #[] }, { accessFlags := 9, nameIndex := 52, descriptorIndex := 53, attributes := #[] }] 49 2 #[] #[])
  fields := #[]
  methods := #[k1m0, k1m1, k1m2]
  instanceTypes := #[]
  staticTypes := #[]
  resolved := Array.replicate 58 none
  statics := none }

def pool2 : Array CpInfo := pool [(1, .class_ 2), (0, u "java/lang/constant/Constable"), (0, .class_ 4), (0, u "java/lang/Object")] 6

/-- java/lang/constant/Constable -/
def k2 : Class := { plain "java/lang/constant/Constable" (some 0) with
  accessFlags := 1537
  interfaces := #[]
  cf := some (fileOf pool2 1 #[] #[] 1537 3 #[] #[])
  fields := #[]
  methods := #[]
  instanceTypes := #[]
  staticTypes := #[]
  resolved := Array.replicate 11 none
  statics := none }

def pool3 : Array CpInfo := pool [(1, .class_ 2), (0, u "java/lang/Comparable"), (0, .class_ 4), (0, u "java/lang/Object")] 7

/-- java/lang/Comparable -/
def k3 : Class := { plain "java/lang/Comparable" (some 0) with
  accessFlags := 1537
  interfaces := #[]
  cf := some (fileOf pool3 1 #[] #[] 1537 3 #[] #[])
  fields := #[]
  methods := #[]
  instanceTypes := #[]
  staticTypes := #[]
  resolved := Array.replicate 12 none
  statics := none }

def pool4 : Array CpInfo := pool [(1, .class_ 2), (0, u "java/io/Serializable"), (0, .class_ 4), (0, u "java/lang/Object")] 2

/-- java/io/Serializable -/
def k4 : Class := { plain "java/io/Serializable" (some 0) with
  accessFlags := 1537
  interfaces := #[]
  cf := some (fileOf pool4 1 #[] #[] 1537 3 #[] #[])
  fields := #[]
  methods := #[]
  instanceTypes := #[]
  staticTypes := #[]
  resolved := Array.replicate 7 none
  statics := none }

def pool5 : Array CpInfo := pool [(2, .class_ 4), (1, u "java/lang/Enum"), (0, u "name"), (0, u "Ljava/lang/String;"), (2, u "ordinal"), (0, u "I"), (1, .class_ 14), (1, u "java/lang/Object"), (4, u "hash"), (86, .class_ 108), (1, u "java/lang/Enum$EnumDesc"), (2, .class_ 112), (0, u "java/lang/constant/Constable"), (0, .class_ 114), (0, u "java/lang/Comparable"), (0, .class_ 116), (0, u "java/io/Serializable")] 87

/-- java/lang/Enum -/
def k5 : Class := { plain "java/lang/Enum" (some 0) with
  accessFlags := 1057
  interfaces := #[2, 3, 4]
  cf := some (fileOf pool5 2 #[.nestMembers #[106]] #[] 1057 12 #[111, 113, 115] #[{ accessFlags := 18, nameIndex := 5, descriptorIndex := 6, attributes := #[] }, { accessFlags := 18, nameIndex := 9, descriptorIndex := 10, attributes := #[] }, { accessFlags := 2, nameIndex := 19, descriptorIndex := 10, attributes := #[] }])
  fields := #[{ name := "name", type := (.object "java/lang/String"), accessFlags := 18, slot := 0, constantValue := 0 }, { name := "ordinal", type := .int, accessFlags := 18, slot := 1, constantValue := 0 }, { name := "hash", type := .int, accessFlags := 2, slot := 2, constantValue := 0 }]
  methods := #[]
  instanceTypes := #[(.object "java/lang/String"), .int, .int]
  staticTypes := #[]
  resolved := Array.replicate 204 none
  statics := none }

def pool6 : Array CpInfo := pool [(1, .class_ 2), (0, u "com/example/fetch_pages/fetchpages/db/ColumnType"), (0, .fieldref 1 4), (0, .nameAndType 5 6), (0, u "INTEGER"), (0, u "Lcom/example/fetch_pages/fetchpages/db/ColumnType;"), (0, .fieldref 1 8), (0, .nameAndType 9 6), (0, u "LONG"), (0, .fieldref 1 11), (0, .nameAndType 12 6), (0, u "DOUBLE"), (0, .fieldref 1 14), (0, .nameAndType 15 6), (0, u "DECIMAL"), (0, .fieldref 1 17), (0, .nameAndType 18 6), (0, u "STRING"), (0, .fieldref 1 20), (0, .nameAndType 21 6), (0, u "BOOLEAN"), (0, .fieldref 1 23), (0, .nameAndType 24 6), (0, u "DATE"), (0, .fieldref 1 26), (0, .nameAndType 27 6), (0, u "TIME"), (0, .fieldref 1 29), (0, .nameAndType 30 6), (0, u "TIMESTAMP"), (0, .fieldref 1 32), (0, .nameAndType 33 6), (0, u "BINARY"), (2, u "$VALUES"), (0, u "[Lcom/example/fetch_pages/fetchpages/db/ColumnType;"), (6, .class_ 46), (1, u "java/lang/Enum"), (8, u "protocolName"), (0, u "Ljava/lang/String;"), (45, u "of"), (0, u "(I)Lcom/example/fetch_pages/fetchpages/db/ColumnType;")] 6

def k6c0 : Code := { maxStack := 1, maxLocals := 1, code := prog_4_method_5_code, exceptionTable := #[], attributes := #[] }
def k6m0 : Method := { name := "of", desc := "(I)Lcom/example/fetch_pages/fetchpages/db/ColumnType;", sig := { parameters := [.int], returnType := some (.object "com/example/fetch_pages/fetchpages/db/ColumnType") }, accessFlags := 9, code := some k6c0 }
/-- com/example/fetch_pages/fetchpages/db/ColumnType -/
def k6 : Class := { plain "com/example/fetch_pages/fetchpages/db/ColumnType" (some 5) with
  accessFlags := 16433
  interfaces := #[]
  cf := some (fileOf pool6 1 #[] #[{ accessFlags := 9, nameIndex := 102, descriptorIndex := 103, attributes := #[] }] 16433 44 #[] #[{ accessFlags := 16409, nameIndex := 5, descriptorIndex := 6, attributes := #[] }, { accessFlags := 16409, nameIndex := 9, descriptorIndex := 6, attributes := #[] }, { accessFlags := 16409, nameIndex := 12, descriptorIndex := 6, attributes := #[] }, { accessFlags := 16409, nameIndex := 15, descriptorIndex := 6, attributes := #[] }, { accessFlags := 16409, nameIndex := 18, descriptorIndex := 6, attributes := #[] }, { accessFlags := 16409, nameIndex := 21, descriptorIndex := 6, attributes := #[] }, { accessFlags := 16409, nameIndex := 24, descriptorIndex := 6, attributes := #[] }, { accessFlags := 16409, nameIndex := 27, descriptorIndex := 6, attributes := #[] }, { accessFlags := 16409, nameIndex := 30, descriptorIndex := 6, attributes := #[] }, { accessFlags := 16409, nameIndex := 33, descriptorIndex := 6, attributes := #[] }, { accessFlags := 18, nameIndex := 55, descriptorIndex := 56, attributes := #[] }, { accessFlags := 4122, nameIndex := 36, descriptorIndex := 37, attributes := #[] }])
  fields := #[{ name := "INTEGER", type := (.object "com/example/fetch_pages/fetchpages/db/ColumnType"), accessFlags := 16409, slot := 0, constantValue := 0 }, { name := "LONG", type := (.object "com/example/fetch_pages/fetchpages/db/ColumnType"), accessFlags := 16409, slot := 1, constantValue := 0 }, { name := "DOUBLE", type := (.object "com/example/fetch_pages/fetchpages/db/ColumnType"), accessFlags := 16409, slot := 2, constantValue := 0 }, { name := "DECIMAL", type := (.object "com/example/fetch_pages/fetchpages/db/ColumnType"), accessFlags := 16409, slot := 3, constantValue := 0 }, { name := "STRING", type := (.object "com/example/fetch_pages/fetchpages/db/ColumnType"), accessFlags := 16409, slot := 4, constantValue := 0 }, { name := "BOOLEAN", type := (.object "com/example/fetch_pages/fetchpages/db/ColumnType"), accessFlags := 16409, slot := 5, constantValue := 0 }, { name := "DATE", type := (.object "com/example/fetch_pages/fetchpages/db/ColumnType"), accessFlags := 16409, slot := 6, constantValue := 0 }, { name := "TIME", type := (.object "com/example/fetch_pages/fetchpages/db/ColumnType"), accessFlags := 16409, slot := 7, constantValue := 0 }, { name := "TIMESTAMP", type := (.object "com/example/fetch_pages/fetchpages/db/ColumnType"), accessFlags := 16409, slot := 8, constantValue := 0 }, { name := "BINARY", type := (.object "com/example/fetch_pages/fetchpages/db/ColumnType"), accessFlags := 16409, slot := 9, constantValue := 0 }, { name := "protocolName", type := (.object "java/lang/String"), accessFlags := 18, slot := 3, constantValue := 0 }, { name := "$VALUES", type := (.array (.object "com/example/fetch_pages/fetchpages/db/ColumnType")), accessFlags := 4122, slot := 10, constantValue := 0 }]
  methods := #[k6m0]
  instanceTypes := #[(.object "java/lang/String"), .int, .int, (.object "java/lang/String")]
  staticTypes := #[(.object "com/example/fetch_pages/fetchpages/db/ColumnType"), (.object "com/example/fetch_pages/fetchpages/db/ColumnType"), (.object "com/example/fetch_pages/fetchpages/db/ColumnType"), (.object "com/example/fetch_pages/fetchpages/db/ColumnType"), (.object "com/example/fetch_pages/fetchpages/db/ColumnType"), (.object "com/example/fetch_pages/fetchpages/db/ColumnType"), (.object "com/example/fetch_pages/fetchpages/db/ColumnType"), (.object "com/example/fetch_pages/fetchpages/db/ColumnType"), (.object "com/example/fetch_pages/fetchpages/db/ColumnType"), (.object "com/example/fetch_pages/fetchpages/db/ColumnType"), (.array (.object "com/example/fetch_pages/fetchpages/db/ColumnType"))]
  resolved := Array.replicate 110 none
  statics := some 0 }

def pool7 : Array CpInfo := pool [(1, u "java/lang/Cloneable"), (0, .class_ 1), (0, u "java/lang/Object"), (0, .class_ 3)] 3

/-- java/lang/Cloneable -/
def k7 : Class := { plain "java/lang/Cloneable" (some 0) with
  accessFlags := 1537
  interfaces := #[]
  cf := some (fileOf pool7 2 #[] #[] 1537 4 #[] #[])
  fields := #[]
  methods := #[]
  instanceTypes := #[]
  staticTypes := #[]
  resolved := Array.replicate 8 none
  statics := none }

/-- the primitive byte -/
def k8 : Class := { plain "byte" none with kind := .primitive 'B', accessFlags := 0x411 }
/-- [B -/
def k9 : Class := { plain "[B" (some 0) with kind := .array 8 .byte, interfaces := #[7, 4], accessFlags := 1041 }

/-- the primitive int -/
def k10 : Class := { plain "int" none with kind := .primitive 'I', accessFlags := 0x411 }
/-- [I -/
def k11 : Class := { plain "[I" (some 0) with kind := .array 10 .int, interfaces := #[7, 4], accessFlags := 1041 }

def heap : Heap := #[{ cls := 6, slots := #[.ref 1, .ref 2, .ref 3, .ref 4, .ref 10, .ref 5, .ref 6, .ref 7, .ref 8, .ref 9, .null], vm := .statics 6 },
  { cls := 6, slots := #[.null, .int 0, .int 0, .null], vm := .none },
  { cls := 6, slots := #[.null, .int 1, .int 0, .null], vm := .none },
  { cls := 6, slots := #[.null, .int 2, .int 0, .null], vm := .none },
  { cls := 6, slots := #[.null, .int 3, .int 0, .null], vm := .none },
  { cls := 6, slots := #[.null, .int 4, .int 0, .null], vm := .none },
  { cls := 6, slots := #[.null, .int 5, .int 0, .null], vm := .none },
  { cls := 6, slots := #[.null, .int 6, .int 0, .null], vm := .none },
  { cls := 6, slots := #[.null, .int 7, .int 0, .null], vm := .none },
  { cls := 6, slots := #[.null, .int 8, .int 0, .null], vm := .none },
  { cls := 6, slots := #[.null, .int 9, .int 0, .null], vm := .none }]
def classes : Array Class := #[k0, k1, k2, k3, k4, k5, k6, k7, k8, k9, k10, k11]
def interned : List (Array UInt16 × Addr) := []
def slotsUsed : Nat := 51
def theMethod : MethodId := ⟨1, 2⟩
def args0 : Array Value := #[.int 5, .int 7]
def aboutOver (below : List Frame) : State where
  vm := { classes := classes, interned := interned.toArray }
  heap := heap
  slotsUsed := slotsUsed
  threads := #[{ frames := .invoking theMethod args0 :: below }]
def below0 : List Frame := [.native { method := ⟨0, 0⟩, args := #[] }]
def about1 : State := aboutOver below0
def p0 : Program := .bare "" "" ""
def e0 : Env := launch0.env 0 0 0
theorem w_frames : about1.frames = Frame.invoking theMethod args0 :: below0 := rfl
set_option maxRecDepth 65536 in
theorem w_args : argsFit about1.vm theMethod args0 = true := by decide +kernel
set_option maxRecDepth 65536 in
theorem w_heap : heapFits about1 = true := by decide +kernel
set_option maxRecDepth 65536 in
theorem w_runnable : about1.curStatus? = some .runnable := by decide +kernel
set_option maxRecDepth 65536 in
theorem w_alone : about1.alone = true := by decide +kernel
set_option maxRecDepth 65536 in
theorem w_named : about1.methodNamed? x = some theMethod := by decide +kernel
set_option maxRecDepth 65536 in
theorem w_hears : about1.hears theMethod below0 = true := by decide +kernel
set_option maxRecDepth 65536 in
theorem w_ripe : about1.ripe theMethod args0 below0 = true := by decide +kernel
theorem w_running : about1.status = .running := rfl
set_option maxRecDepth 65536 in
theorem w_room : about1.hasRoom e0.platform room_1 = true :=
  launch0.hasRoom_least _ room_1 (by decide +kernel) (by decide +kernel) (by decide +kernel) (by decide +kernel) (by decide +kernel) (by decide +kernel)
theorem allAtoms_all (ts : List Jvm.Cond) (a : Array Jvm.Value) (st : Jvm.State) : (allAtoms ts).before a st = ts.all (fun c => c.before a st) := by
  induction ts with
  | nil => rfl
  | cons c t ih =>
    show (Jvm.Cond.and c (allAtoms t)).before a st = _
    rw [Jvm.Cond.before_and, ih, List.all_cons]
def words1 : List Jvm.Cond := Jvm.Cond.code x code maxLocals ret :: tables_1
/-- a 'code' word, met by the world's own term for the bytes: nothing is compared byte by byte -/
theorem code_word {y : MethodName} {bytes : ByteArray} {mx : Nat} {rt : Option FieldType} {a : Array Value} {s : State} {m : MethodId} {meth : Method} {c : Code} (h1 : s.methodNamed? y = some m) (h2 : s.vm.method? m = some meth) (h3 : meth.code = some c) (h4 : c.code = bytes)
    (h5 : (c.maxLocals == mx && c.exceptionTable.isEmpty && decide (c.maxStack ≤ mostOperands) && decide (meth.sig.returnType = rt) && !meth.locks && decide (parseMethodDescriptor y.desc = some meth.sig)) = true) : (Jvm.Cond.code y bytes mx rt).before a s = true := by
  simp only [Bool.and_eq_true, beq_iff_eq, Bool.not_eq_true', decide_eq_true_eq] at h5
  obtain ⟨⟨⟨⟨⟨g1, g2⟩, g3⟩, g4⟩, g5⟩, g6⟩ := h5
  simp [Cond.before, Cond.holds, Cond.value, h1, h2, h3, h4, g1, g2, g3, g4, g5, g6]
def isCode : Jvm.Cond → Bool
  | .code _ _ _ _ => true
  | _ => false
theorem all_split {L : List Jvm.Cond} {P : Jvm.Cond → Bool} (h1 : L.all (fun c => isCode c || P c) = true) (h2 : ∀ c ∈ L.filter isCode, P c = true) : L.all P = true := by
  refine List.all_eq_true.mpr fun c hc => ?_
  have h := List.all_eq_true.mp h1 c hc
  rcases Bool.eq_false_or_eq_true (isCode c) with hi | hi
  · exact h2 c (List.mem_filter.mpr ⟨hc, hi⟩)
  · simpa [hi] using h
set_option maxRecDepth 65536 in
theorem w_c0 : (Jvm.Cond.code x code maxLocals ret).before args0 about1 = true := code_word (m := ⟨1, 2⟩) (meth := k1m2) (c := k1c2) (by decide +kernel) rfl rfl rfl (by decide +kernel)
set_option maxRecDepth 65536 in
theorem w_c1 : (Jvm.Cond.code ({ cls := "com/example/fetch_pages/fetchpages/db/ColumnType", name := "of", desc := "(I)Lcom/example/fetch_pages/fetchpages/db/ColumnType;" } : Jvm.MethodName) prog_4_method_5_code (1 : Nat) (Option.some (Jvm.ClassFile.FieldType.object "com/example/fetch_pages/fetchpages/db/ColumnType"))).before args0 about1 = true := code_word (m := ⟨6, 0⟩) (meth := k6m0) (c := k6c0) (by decide +kernel) rfl rfl rfl (by decide +kernel)
set_option maxRecDepth 65536 in
theorem w_c2 : (Jvm.Cond.code ({ cls := "com/example/fetch_pages/fetchpages/db/ColumnTypeOfPinLaw", name := "expected", desc := "(I)Lcom/example/fetch_pages/fetchpages/db/ColumnType;" } : Jvm.MethodName) method_2_code (1 : Nat) (Option.some (Jvm.ClassFile.FieldType.object "com/example/fetch_pages/fetchpages/db/ColumnType"))).before args0 about1 = true := code_word (m := ⟨1, 1⟩) (meth := k1m1) (c := k1c1) (by decide +kernel) rfl rfl rfl (by decide +kernel)
def codes1 : List Jvm.Cond := [Jvm.Cond.code x code maxLocals ret, Jvm.Cond.code ({ cls := "com/example/fetch_pages/fetchpages/db/ColumnType", name := "of", desc := "(I)Lcom/example/fetch_pages/fetchpages/db/ColumnType;" } : Jvm.MethodName) prog_4_method_5_code (1 : Nat) (Option.some (Jvm.ClassFile.FieldType.object "com/example/fetch_pages/fetchpages/db/ColumnType")), Jvm.Cond.code ({ cls := "com/example/fetch_pages/fetchpages/db/ColumnTypeOfPinLaw", name := "expected", desc := "(I)Lcom/example/fetch_pages/fetchpages/db/ColumnType;" } : Jvm.MethodName) method_2_code (1 : Nat) (Option.some (Jvm.ClassFile.FieldType.object "com/example/fetch_pages/fetchpages/db/ColumnType"))]
set_option maxRecDepth 65536 in
theorem codes_eq : words1.filter isCode = codes1 := rfl
theorem w_codes : ∀ c ∈ words1.filter isCode, c.before args0 about1 = true := by
  rw [codes_eq]
  intro c hc
  simp only [codes1, List.mem_cons, List.not_mem_nil, or_false] at hc
  rcases hc with rfl | rfl | rfl
  · exact w_c0
  · exact w_c1
  · exact w_c2
set_option maxRecDepth 65536 in
theorem w_t1 : (words1.take 24).all (fun c => isCode c || c.before args0 about1) = true := by decide +kernel
set_option maxRecDepth 65536 in
theorem w_t2 : (words1.drop 24).all (fun c => isCode c || c.before args0 about1) = true := by decide +kernel
theorem w_tables : (allAtoms (Jvm.Cond.code x code maxLocals ret :: tables_1)).before args0 about1 = true := by
  rw [allAtoms_all]
  show words1.all (fun c => c.before args0 about1) = true
  refine all_split ?_ w_codes
  rw [← List.take_append_drop 24 words1, List.all_append, w_t1, w_t2]
  rfl
set_option maxRecDepth 65536 in
theorem w_case : (Jvm.Cond.and given_1 narrow_1).before args0 about1 = true := by decide +kernel
theorem w_applies : (headSpec (Jvm.Cond.code x code maxLocals ret :: tables_1) room_1).applies x e0.platform about1 = true :=
  (Spec.applies_iff w_frames).mpr ⟨w_running, w_runnable, w_alone, w_named, w_hears, w_ripe, w_room, w_tables⟩
theorem atStart : AtStart classFile x code maxLocals ret World_1 tables_1 room_1 Calls_1 rest_1 Pre_1 launch0 p0 e0 about1 theMethod args0 below0 :=
  ⟨lists_1, trivial, launch0.admits_env _ _ _, launch0.least_env, fairChoices_fair.cas, fairChoices_fair.clock, w_frames, w_args, w_heap, w_applies, trivial, trivial, w_case⟩
end start1
theorem witness_1 : WitnessClaimed_1 := ⟨start1.p0, start1.e0, start1.about1, start1.theMethod, start1.args0, start1.below0, start1.atStart⟩
end Jvm.Pilot.@@N@@
