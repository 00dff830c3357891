import JvmDerived
import JvmDerived.Pilot.@@N@@Statement
import JvmDerived.Pilot.@@N@@Code
set_option linter.unusedVariables false
set_option linter.unusedSimpArgs false
namespace Jvm.RoadKit
open Sem ClassFile Op Lib Jvm.Stand Jvm.Free Jvm.LawKit
section Own
variable {p : Program} {l : Launch} {e : Env} {R : Room} {s : State} {m : MethodId} {args : Array Value} {below : List Frame} {meth : Method} {c : Code} {T : State} {locs : List Loc} {cells slots : Nat}
theorem retI (X : Stand p l e R s m args below meth c T locs cells slots) (hx : p.tables.exec = Jvm.exec) {pc : Nat} {Ls : Array Slot} {z : Int32} {rest : List Value} (hret : meth.sig.returnType = some .int) (hd : decode c.code pc = .ok (.ireturn, 1)) {fs : List Frame}
    (hl : ∀ (f : JFrame) (acts : List Action), f.method = m → f.locked = none → f.entered = [] → (doReturn e (T.setTop f) acts (some (.int z))).1 = T.setFrames fs) : Steps p.tables e below (T.setTop (mkF m pc Ls (.int z :: rest))) (T.setFrames fs) := by
  have hm' : T.vm.method? m = some meth := X.method'
  have hn : narrow .int (.int z) = .int z := rfl
  show Steps p.tables e below (T.setTop { method := m, pc := pc, locals := Ls, stack := _ :: rest, locked := none }) _
  jvm_step X.here [X.here.top, hx, hd, hm', hret, hn]
  first | (intro acts; rw [hl _ acts rfl rfl rfl]) | rw [hl _ _ rfl rfl rfl]
  exact Steps.refl _
/-- the run comes from the state A to its end, and the end is as QQ says -/
def GoW (p : Program) (e : Env) (below : List Frame) (QQ : Outcome → State → Prop) (A : State) : Prop :=
  ∃ s₂ o, Steps p.tables e below A s₂ ∧ s₂.status = .running ∧ Ended s₂ below o ∧ QQ o s₂
theorem GoW.st {QQ : Outcome → State → Prop} {A B : State} (h : ∀ t, Steps p.tables e below B t → Steps p.tables e below A t) (g : GoW p e below QQ B) : GoW p e below QQ A := by
  obtain ⟨s₂, o, h1, h2⟩ := g
  exact ⟨s₂, o, h _ h1, h2⟩
/-- what an end with the value v, the heap and the written places must say -/
def EndsW (s : State) (Q : Option Value → Heap → List Loc → Prop) (cl sl : Nat) (QQ : Outcome → State → Prop) : Prop :=
  ∀ (v : Option Value) (L : List Loc) (T : State), Q v T.heap L → FrameEnd s (.returned v) T L cl sl → QQ (.returned v) T
theorem GoW.fin {Q : Option Value → Heap → List Loc → Prop} {cl sl : Nat} {QQ : Outcome → State → Prop} {A : State} (X : Stand p l e R s m args below meth c T locs cells slots) (v : Option Value) (hv : meth.sig.returnType = none → v = none) (hlk : meth.locks = false) (hQ : EndsW s Q cl sl QQ) {h : Heap} (eT : T.heap = h)
    (q : Q v h locs) (hc : cells ≤ cl) (hs : slots ≤ sl)
    (st : ∀ fs, (∀ (f : JFrame) (acts : List Action), f.method = m → f.locked = none → f.entered = [] → (doReturn e (T.setTop f) acts v).1 = T.setFrames fs) → Steps p.tables e below A (T.setFrames fs)) : GoW p e below QQ A := by
  obtain ⟨fs, hr, hrun, hended, hW, hsame⟩ := X.leave (v := v) hv hlk
  subst eT
  exact ⟨_, _, st fs hr, hrun, hended, hQ _ _ _ q ⟨⟨_, rfl⟩, hW, hsame.mono hc hs⟩⟩
theorem met_of {y : MethodName} {bytes : ByteArray} {maxL : Nat} {ret : Option FieldType} {ws : List Cond} {as' : Array Value} {Z : State} {h0 : Heap} {Q : Option Value → Heap → List Loc → Prop} {cl sl : Nat} (hp : plainFor y = true) {Ls : Array Slot} (ef : ∀ m, entryFrame m as' maxL = mkF m 0 Ls [])
    (core : ∀ (p : Program) (e : Env) (s : State) (m : MethodId) (below : List Frame) (meth : Method) (c : Code) (T : State) (QQ : Outcome → State → Prop), p.tables.exec = Jvm.exec → Z.Warmed39 s.vm → c.code = bytes → c.maxLocals = maxL → s.vm.findClass y.cls = some m.cls → meth.name = y.name → meth.sig.returnType = ret → meth.locks = false →
      Stand p l e R s m as' below meth c T [] 0 0 → T.heap = h0 → EndsW s Q cl sl QQ → GoW p e below QQ (T.setTop (mkF m 0 Ls []))) :
    MetFree l y (head1 (Cond.code y bytes maxL ret :: ws) R) (fun a U => a = as' ∧ Z.Warmed39 U.vm ∧ U.heap = h0) (fun _ _ _ _ _ => True) (fun _ U o U' => ∃ v L, o = .returned v ∧ Q v U'.heap L ∧ FrameEnd U o U' L cl sl) := by
  refine MetFree.of_bodySF hp hisR ?_
  intro p e s m args below meth c s₁ Bd hml0 hP hK
  obtain ⟨rfl, hZ, hh⟩ := hP
  obtain ⟨s₂, o, g1, g2, g3, g4⟩ := core p e s m below meth c s₁ (fun o U' => ∃ v L, o = .returned v ∧ Q v U'.heap L ∧ FrameEnd s o U' L cl sl) Bd.exec hZ Bd.bytes hml0 (findClass_of_methodNamed Bd.named) (name_of_methodNamed Bd.named Bd.method).1 Bd.returns Bd.notSynchronized (Stand.of_body Bd) (by rw [← hh, Bd.state]; rfl) (fun v L T q f => ⟨v, L, rfl, q, f⟩)
  exact ⟨s₂, o, castTop (ef m) g1, g2, g3, g4⟩
theorem standUp (X : Stand p l e R s m args below meth c T locs cells slots) {cells' slots' : Nat} (hc : cells ≤ cells') (hs : slots ≤ slots') : Stand p l e R s m args below meth c T locs cells' slots' :=
  { X with same := X.same.mono hc hs }
theorem lremM {g : JFrame} {target : State} (X : Stand p l e R s m args below meth c T locs cells slots) (hx : p.tables.exec = Jvm.exec) (hg : g.method = m) {x y : Int64} {rest : List Value} (hd : decode c.code g.pc = .ok (.lrem, 1)) (hs : g.stack = .long y :: .long x :: rest) (hy : y ≠ 0)
    (hr : Steps p.tables e below (T.setTop { g with pc := g.pc + 1, stack := .long (x % y) :: rest }) target) : Steps p.tables e below (T.setTop g) target := by
  have q : x - x / y * y = x % y := lrem_mod x y
  exact XS.lrem X.here hx hg hd hs hy (by rw [q]; exact hr)
theorem ldVI {Z : State} {h : Heap} {a : Addr} {kc : ClassId} {z j : Int32} {vs : List Value} {dv v : Value} (X : Stand p l e R s m args below meth c T locs cells slots) (hx : p.tables.exec = Jvm.exec) (hZ : Z.Warmed39 s.vm) (eT : T.heap = h) (F : Arv Z h a kc .int z vs dv) (hj : ¬ j < 0 ∧ j < z) (hv : vs.getD j.toNatClampNeg dv = v)
    {g : JFrame} (hg : g.method = m) {rest : List Value} (hs : g.stack = .int j :: .ref a :: rest) (hd : decode c.code g.pc = .ok (.iaload, 1)) (t : State) (k : Steps p.tables e below (T.setTop { g with pc := g.pc + 1, stack := v :: rest }) t) : Steps p.tables e below (T.setTop g) t := by
  obtain ⟨c', A, -, S, -, H, -⟩ := F
  have i := inb_of S hj
  exact X.iaload hx (by rw [eT]; exact A.1) (State.isArrayOf_alike hZ.alike A.2.1) A.2.2 i (H.at i hv) hg hs hd t k
theorem ldVJ {Z : State} {h : Heap} {a : Addr} {kc : ClassId} {z j : Int32} {vs : List Value} {dv v : Value} (X : Stand p l e R s m args below meth c T locs cells slots) (hx : p.tables.exec = Jvm.exec) (hZ : Z.Warmed39 s.vm) (eT : T.heap = h) (F : Arv Z h a kc .long z vs dv) (hj : ¬ j < 0 ∧ j < z) (hv : vs.getD j.toNatClampNeg dv = v)
    {g : JFrame} (hg : g.method = m) {rest : List Value} (hs : g.stack = .int j :: .ref a :: rest) (hd : decode c.code g.pc = .ok (.laload, 1)) (t : State) (k : Steps p.tables e below (T.setTop { g with pc := g.pc + 1, stack := v :: rest }) t) : Steps p.tables e below (T.setTop g) t := by
  obtain ⟨c', A, -, S, -, H, -⟩ := F
  have i := inb_of S hj
  exact X.laload hx (by rw [eT]; exact A.1) (State.isArrayOf_alike hZ.alike A.2.1) A.2.2 i (H.at i hv) hg hs hd t k
theorem ldVB {Z : State} {h : Heap} {a : Addr} {kc : ClassId} {z j : Int32} {vs : List Value} {dv v : Value} (X : Stand p l e R s m args below meth c T locs cells slots) (hx : p.tables.exec = Jvm.exec) (hZ : Z.Warmed39 s.vm) (eT : T.heap = h) (F : Arv Z h a kc .byte z vs dv) (hj : ¬ j < 0 ∧ j < z) (hv : vs.getD j.toNatClampNeg dv = v)
    {g : JFrame} (hg : g.method = m) {rest : List Value} (hs : g.stack = .int j :: .ref a :: rest) (hd : decode c.code g.pc = .ok (.baload, 1)) (t : State) (k : Steps p.tables e below (T.setTop { g with pc := g.pc + 1, stack := v :: rest }) t) : Steps p.tables e below (T.setTop g) t := by
  obtain ⟨c', A, -, S, -, H, -⟩ := F
  have i := inb_of S hj
  exact X.baloadBytes hx (by rw [eT]; exact A.1) (State.isArrayOf_alike hZ.alike A.2.1) A.2.2 i (H.at i hv) hg hs hd t k
theorem stVI {Z : State} {h : Heap} {a : Addr} {kc : ClassId} {z j : Int32} {vs : List Value} {dv : Value} {x : Int32} (X : Stand p l e R s m args below meth c T locs cells slots) (hx : p.tables.exec = Jvm.exec) (hZ : Z.Warmed39 s.vm) (eT : T.heap = h) (F : Arv Z h a kc .int z vs dv) (hj : ¬ j < 0 ∧ j < z) (i : Nat) (hi : j.toNatClampNeg = i) (hl : i < vs.length)
    {g : JFrame} (hg : g.method = m) {rest : List Value} (hs : g.stack = (.int x) :: .int j :: .ref a :: rest) (hd : decode c.code g.pc = .ok (.iastore, 1)) :
    ∃ T' h', Stand p l e R s m args below meth c T' (locs ++ [⟨a, j.toNatClampNeg⟩]) cells slots ∧ T'.heap = h' ∧ Wr h h' a j.toNatClampNeg (.int x) ∧ Arv Z h' a kc .int z (vs.set i (.int x)) dv ∧ ∀ target, Steps p.tables e below (T'.setTop { g with pc := g.pc + 1, stack := rest }) target → Steps p.tables e below (T.setTop g) target := by
  obtain ⟨c', A, q, S, M, H, G⟩ := F
  obtain ⟨T', h', X', e', W', st⟩ := stI X hx hZ eT A (inb_of S hj) hg hs hd
  exact ⟨T', h', X', e', W', Arv.set A q S M H G rfl W' i hi hl, st⟩
theorem stVJ {Z : State} {h : Heap} {a : Addr} {kc : ClassId} {z j : Int32} {vs : List Value} {dv : Value} {x : Int64} (X : Stand p l e R s m args below meth c T locs cells slots) (hx : p.tables.exec = Jvm.exec) (hZ : Z.Warmed39 s.vm) (eT : T.heap = h) (F : Arv Z h a kc .long z vs dv) (hj : ¬ j < 0 ∧ j < z) (i : Nat) (hi : j.toNatClampNeg = i) (hl : i < vs.length)
    {g : JFrame} (hg : g.method = m) {rest : List Value} (hs : g.stack = (.long x) :: .int j :: .ref a :: rest) (hd : decode c.code g.pc = .ok (.lastore, 1)) :
    ∃ T' h', Stand p l e R s m args below meth c T' (locs ++ [⟨a, j.toNatClampNeg⟩]) cells slots ∧ T'.heap = h' ∧ Wr h h' a j.toNatClampNeg (.long x) ∧ Arv Z h' a kc .long z (vs.set i (.long x)) dv ∧ ∀ target, Steps p.tables e below (T'.setTop { g with pc := g.pc + 1, stack := rest }) target → Steps p.tables e below (T.setTop g) target := by
  obtain ⟨c', A, q, S, M, H, G⟩ := F
  obtain ⟨T', h', X', e', W', st⟩ := stJ X hx hZ eT A (inb_of S hj) hg hs hd
  exact ⟨T', h', X', e', W', Arv.set A q S M H G rfl W' i hi hl, st⟩
theorem stVB {Z : State} {h : Heap} {a : Addr} {kc : ClassId} {z j : Int32} {vs : List Value} {dv : Value} {x : Int32} (X : Stand p l e R s m args below meth c T locs cells slots) (hx : p.tables.exec = Jvm.exec) (hZ : Z.Warmed39 s.vm) (eT : T.heap = h) (F : Arv Z h a kc .byte z vs dv) (hj : ¬ j < 0 ∧ j < z) (i : Nat) (hi : j.toNatClampNeg = i) (hl : i < vs.length)
    {g : JFrame} (hg : g.method = m) {rest : List Value} (hs : g.stack = (.int x) :: .int j :: .ref a :: rest) (hd : decode c.code g.pc = .ok (.bastore, 1)) :
    ∃ T' h', Stand p l e R s m args below meth c T' (locs ++ [⟨a, j.toNatClampNeg⟩]) cells slots ∧ T'.heap = h' ∧ Wr h h' a j.toNatClampNeg (.int (nar .byte x)) ∧ Arv Z h' a kc .byte z (vs.set i (.int (nar .byte x))) dv ∧ ∀ target, Steps p.tables e below (T'.setTop { g with pc := g.pc + 1, stack := rest }) target → Steps p.tables e below (T.setTop g) target := by
  obtain ⟨c', A, q, S, M, H, G⟩ := F
  obtain ⟨T', h', X', e', W', st⟩ := stB X hx hZ eT A (inb_of S hj) hg hs hd
  exact ⟨T', h', X', e', W', Arv.set A q S M H G (fits_nar_byte _) W' i hi hl, st⟩
theorem lnV {Z : State} {h : Heap} {a : Addr} {kc : ClassId} {ty : FieldType} {z : Int32} {vs : List Value} {dv : Value} (X : Stand p l e R s m args below meth c T locs cells slots) (hx : p.tables.exec = Jvm.exec) (hZ : Z.Warmed39 s.vm) (eT : T.heap = h) (F : Arv Z h a kc ty z vs dv)
    {g : JFrame} (hg : g.method = m) {rest : List Value} (hs : g.stack = .ref a :: rest) (hd : decode c.code g.pc = .ok (.arraylength, 1)) (t : State) (k : Steps p.tables e below (T.setTop { g with pc := g.pc + 1, stack := .int z :: rest }) t) : Steps p.tables e below (T.setTop g) t := by
  obtain ⟨c', A, -, S, M, -, -⟩ := F
  refine X.arraylength hx (by rw [eT]; exact A.1) (State.isArrayOf_alike hZ.alike A.2.1) hg hs hd t ?_
  rw [len_of S M]; exact k
theorem gdI (vs : List Int32) (d : Int32) (i : Nat) : (vs.map Value.int).getD i (.int d) = .int (vs.getD i d) := by
  induction vs generalizing i with
  | nil => rfl
  | cons a t ih => cases i with
    | zero => rfl
    | succ i => simpa using ih i
theorem gdJ (vs : List Int64) (d : Int64) (i : Nat) : (vs.map Value.long).getD i (.long d) = .long (vs.getD i d) := by
  induction vs generalizing i with
  | nil => rfl
  | cons a t ih => cases i with
    | zero => rfl
    | succ i => simpa using ih i
end Own
end Jvm.RoadKit
namespace Jvm.Pilot.@@N@@
open Jvm Jvm.ClassFile Sem Op Lib Jvm.Free Jvm.Stand Jvm.LawKit Jvm.RoadKit Bundle Jvm.Pilot.@@N@@.Jvm.D
theorem own_pos (x : Int64) : ¬ (x &&& (9223372036854775807 : Int64)) < (0 : Int64) := by
  have h := (c_andSL x 9223372036854775807).2.2 (by decide)
  have z : (0 : Int64).toInt = 0 := rfl
  rw [Int64.lt_iff_toInt_lt]; omega
theorem pn_0 : plainName "com/example/evenkeel/evenkeel/ResultChecksum" = true := by first | (simp [plainName, overriddenIn]; done) | decide +kernel
theorem d1_0 : decode prog_15_method_1_code 0 = .ok (.aload_n 0, 1) := by decide +kernel
theorem d1_1 : decode prog_15_method_1_code 1 = .ok (.invokespecial 1, 3) := by decide +kernel
theorem d1_4 : decode prog_15_method_1_code 4 = .ok (.return_, 1) := by decide +kernel
def RM1 : Room := { frames := 1, cells := 0, slots := 0, locals := 12 }
def Q1 (Z : State) (a1 : Addr) (h0 : Heap) (n0 : Nat) (v : Option Value) (h : Heap) (L : List Loc) : Prop := v = none ∧ Fr n0 L ∧ h = h0
set_option maxRecDepth 65536 in
set_option maxHeartbeats 40000000 in
theorem rm1 (l : Launch) (Z : State) (a0 : Array Value) (hw : ∀ d ∈ tables_1, d.before a0 Z = true) (ws : List Jvm.Cond) (a1 : Addr) (h0 : Heap) (n0 : Nat) (Z0 : n0 ≤ h0.size)  :
    MetFree l (⟨"com/example/evenkeel/evenkeel/ResultChecksum", "<init>", "()V"⟩ : MethodName) (head1 (Jvm.Cond.code (⟨"com/example/evenkeel/evenkeel/ResultChecksum", "<init>", "()V"⟩ : MethodName) prog_15_method_1_code 1 none :: ws) RM1) (fun a U => a = #[(.ref a1)] ∧ Z.Warmed39 U.vm ∧ U.heap = h0) (fun _ _ _ _ _ => True) (fun _ U o U' => ∃ v L, o = .returned v ∧ Q1 Z a1 h0 n0 v U'.heap L ∧ FrameEnd U o U' L RM1.cells RM1.slots) := by
  refine met_of (Q := fun v h L => Q1 Z a1 h0 n0 v h L) (plainFor_of_name pn_0) (fun m => by first | (simp [entryFrame, mkF, argsToLocals, Value.category]; done) | rfl) (Ls := #[.val (.ref a1)]) ?_
  intro p e s m below meth c T0 QQ hx hZ hby hml hown hnm hret hlk X0 e0 hQ
  have hml : c.maxLocals = 1 := hml
  have hown : s.vm.findClass "com/example/evenkeel/evenkeel/ResultChecksum" = some m.cls := hown
  have hnm : meth.name = "<init>" := hnm
  have hret : meth.sig.returnType = none := hret
  have N0 := Fr.nil n0
  have K0 : Keep h0 h0 [] := Keep.refl h0 _
  show GoW p e below QQ (T0.setTop (mkF m 0 #[.val (.ref a1)] []))
  refine GoW.st (fun t k => XS.aloadN X0.here hx rfl (hb hby d1_0) rfl rfl k) ?_
  show GoW p e below QQ (T0.setTop (mkF m 1 #[.val (.ref a1)] [(.ref a1)]))
  obtain ⟨T1, X1, e1, st1⟩ := initO X0 hx hZ hown (hw _ (List.mem_of_getElem? (i := 7) rfl)) (hw _ (List.mem_of_getElem? (i := 8) rfl)) (hw _ (List.mem_of_getElem? (i := 9) rfl)) e0 (g := (mkF m 1 #[.val (.ref a1)] [(.ref a1)])) rfl (by rw [hml]; rfl) rfl (hb hby d1_1) (by decide) (W := 0) (by show 2 * 0 + _ ≤ _; exact Nat.le_of_eq rfl) (by decide)
  refine GoW.st st1 ?_
  show GoW p e below QQ (T1.setTop (mkF m 4 #[.val (.ref a1)] []))
  exact GoW.fin X1 none (fun _ => rfl) hlk hQ e1 ⟨rfl, N0, rfl⟩ (by decide) (by decide) (fun fs hr => X1.returnOut hx hret (hb hby d1_4) hr)
theorem d4_0 : decode prog_15_method_4_code 0 = .ok (.aload_n 0, 1) := by decide +kernel
theorem d4_1 : decode prog_15_method_4_code 1 = .ok (.getfield 16, 3) := by decide +kernel
theorem d4_4 : decode prog_15_method_4_code 4 = .ok (.lreturn, 1) := by decide +kernel
def RM4 : Room := { frames := 0, cells := 0, slots := 0, locals := 0 }
def Q4 (Z : State) (a1 : Addr) (w2 : Int64) (h0 : Heap) (n0 : Nat) (v : Option Value) (h : Heap) (L : List Loc) : Prop := v = some (.long w2) ∧ Fr n0 L ∧ h = h0
set_option maxRecDepth 65536 in
set_option maxHeartbeats 40000000 in
theorem rm4 (l : Launch) (Z : State) (a0 : Array Value) (hw : ∀ d ∈ tables_1, d.before a0 Z = true) (ws : List Jvm.Cond) (a1 : Addr) (w2 : Int64) (h0 : Heap) (n0 : Nat) (Z0 : n0 ≤ h0.size) (pre_F_a1_sum : Fld Z h0 a1 "com/example/evenkeel/evenkeel/ResultChecksum" "sum" "J" (.long w2)) :
    MetFree l (⟨"com/example/evenkeel/evenkeel/ResultChecksum", "bits", "()J"⟩ : MethodName) (head1 (Jvm.Cond.code (⟨"com/example/evenkeel/evenkeel/ResultChecksum", "bits", "()J"⟩ : MethodName) prog_15_method_4_code 1 (some .long) :: ws) RM4) (fun a U => a = #[(.ref a1)] ∧ Z.Warmed39 U.vm ∧ U.heap = h0) (fun _ _ _ _ _ => True) (fun _ U o U' => ∃ v L, o = .returned v ∧ Q4 Z a1 w2 h0 n0 v U'.heap L ∧ FrameEnd U o U' L RM4.cells RM4.slots) := by
  refine met_of (Q := fun v h L => Q4 Z a1 w2 h0 n0 v h L) (plainFor_of_name pn_0) (fun m => by first | (simp [entryFrame, mkF, argsToLocals, Value.category]; done) | rfl) (Ls := #[.val (.ref a1)]) ?_
  intro p e s m below meth c T0 QQ hx hZ hby hml hown hnm hret hlk X0 e0 hQ
  have hml : c.maxLocals = 1 := hml
  have hown : s.vm.findClass "com/example/evenkeel/evenkeel/ResultChecksum" = some m.cls := hown
  have hnm : meth.name = "bits" := hnm
  have hret : meth.sig.returnType = some .long := hret
  have N0 := Fr.nil n0
  have K0 : Keep h0 h0 [] := Keep.refl h0 _
  show GoW p e below QQ (T0.setTop (mkF m 0 #[.val (.ref a1)] []))
  refine GoW.st (fun t k => XS.aloadN X0.here hx rfl (hb hby d4_0) rfl rfl k) ?_
  show GoW p e below QQ (T0.setTop (mkF m 1 #[.val (.ref a1)] [(.ref a1)]))
  obtain ⟨T1, X1, e1, st1⟩ := getF X0 hx hZ hown (host := "") (Or.inl (hw _ (List.mem_of_getElem? (i := 15) rfl))) Via.refl e0 pre_F_a1_sum (g := (mkF m 1 #[.val (.ref a1)] [(.ref a1)])) rfl rfl (hb hby d4_1)
  refine GoW.st st1 ?_
  show GoW p e below QQ (T1.setTop (mkF m 4 #[.val (.ref a1)] [(.long w2)]))
  exact GoW.fin X1 (some (.long w2)) (fun q => by rw [hret] at q; cases q) hlk hQ e1 ⟨rfl, N0, rfl⟩ (by decide) (by decide) (fun fs hr => retOut X1 hx hret rfl (Or.inr (Or.inl ⟨rfl, rfl, _, rfl⟩)) (hb hby d4_4) hr)
theorem d3_0 : decode prog_15_method_2_code 0 = .ok (.lload_n 1, 1) := by decide +kernel
theorem d3_1 : decode prog_15_method_2_code 1 = .ok (.lconst 0, 1) := by decide +kernel
theorem d3_2 : decode prog_15_method_2_code 2 = .ok (.lcmp, 1) := by decide +kernel
theorem d3_3 : decode prog_15_method_2_code 3 = .ok (.ifCond .lt 9, 3) := by decide +kernel
theorem d3_6 : decode prog_15_method_2_code 6 = .ok (.lload_n 3, 1) := by decide +kernel
theorem d3_7 : decode prog_15_method_2_code 7 = .ok (.lconst 0, 1) := by decide +kernel
theorem d3_8 : decode prog_15_method_2_code 8 = .ok (.lcmp, 1) := by decide +kernel
theorem d3_9 : decode prog_15_method_2_code 9 = .ok (.ifCond .ge 18, 3) := by decide +kernel
theorem d3_27 : decode prog_15_method_2_code 27 = .ok (.aload_n 0, 1) := by decide +kernel
theorem d3_28 : decode prog_15_method_2_code 28 = .ok (.dup, 1) := by decide +kernel
theorem d3_29 : decode prog_15_method_2_code 29 = .ok (.getfield 16, 3) := by decide +kernel
theorem d3_32 : decode prog_15_method_2_code 32 = .ok (.lload_n 1, 1) := by decide +kernel
theorem d3_33 : decode prog_15_method_2_code 33 = .ok (.lconst 1, 1) := by decide +kernel
theorem d3_34 : decode prog_15_method_2_code 34 = .ok (.ladd, 1) := by decide +kernel
theorem d3_35 : decode prog_15_method_2_code 35 = .ok (.lload_n 3, 1) := by decide +kernel
theorem d3_36 : decode prog_15_method_2_code 36 = .ok (.lconst 1, 1) := by decide +kernel
theorem d3_37 : decode prog_15_method_2_code 37 = .ok (.ladd, 1) := by decide +kernel
theorem d3_38 : decode prog_15_method_2_code 38 = .ok (.lmul, 1) := by decide +kernel
theorem d3_39 : decode prog_15_method_2_code 39 = .ok (.ladd, 1) := by decide +kernel
theorem d3_40 : decode prog_15_method_2_code 40 = .ok (.putfield 16, 3) := by decide +kernel
theorem d3_43 : decode prog_15_method_2_code 43 = .ok (.return_, 1) := by decide +kernel
def RM3 : Room := { frames := 0, cells := 0, slots := 0, locals := 0 }
def Q3 (Z : State) (a1 : Addr) (q1 : Int64) (q2 : Int64) (w2 : Int64) (h0 : Heap) (n0 : Nat) (v : Option Value) (h : Heap) (L : List Loc) : Prop := v = none ∧ Fr n0 L ∧ Keep h0 h [a1] ∧ (Exa Z h a1 "com/example/evenkeel/evenkeel/ResultChecksum") ∧ (Fld Z h a1 "com/example/evenkeel/evenkeel/ResultChecksum" "sum" "J" (.long (w2 + ((q1 + (1 : Int64)) * (q2 + (1 : Int64))))))
set_option maxRecDepth 65536 in
set_option maxHeartbeats 40000000 in
theorem rm3 (l : Launch) (Z : State) (a0 : Array Value) (hw : ∀ d ∈ tables_1, d.before a0 Z = true) (ws : List Jvm.Cond) (a1 : Addr) (q1 : Int64) (q2 : Int64) (w2 : Int64) (h0 : Heap) (n0 : Nat) (Z0 : n0 ≤ h0.size) (pre_E_a1 : Exa Z h0 a1 "com/example/evenkeel/evenkeel/ResultChecksum") (pre_F_a1_sum : Fld Z h0 a1 "com/example/evenkeel/evenkeel/ResultChecksum" "sum" "J" (.long w2)) (pre_g_a1 : n0 ≤ a1) (hp0 : ¬ q1 < (0 : Int64)) (hp1 : ¬ q2 < (0 : Int64)) :
    MetFree l (⟨"com/example/evenkeel/evenkeel/ResultChecksum", "add", "(JJ)V"⟩ : MethodName) (head1 (Jvm.Cond.code (⟨"com/example/evenkeel/evenkeel/ResultChecksum", "add", "(JJ)V"⟩ : MethodName) prog_15_method_2_code 5 none :: ws) RM3) (fun a U => a = #[(.ref a1), (.long q1), (.long q2)] ∧ Z.Warmed39 U.vm ∧ U.heap = h0) (fun _ _ _ _ _ => True) (fun _ U o U' => ∃ v L, o = .returned v ∧ Q3 Z a1 q1 q2 w2 h0 n0 v U'.heap L ∧ FrameEnd U o U' L RM3.cells RM3.slots) := by
  refine met_of (Q := fun v h L => Q3 Z a1 q1 q2 w2 h0 n0 v h L) (plainFor_of_name pn_0) (fun m => by first | (simp [entryFrame, mkF, argsToLocals, Value.category]; done) | rfl) (Ls := #[.val (.ref a1), .val (.long q1), .second, .val (.long q2), .second]) ?_
  intro p e s m below meth c T0 QQ hx hZ hby hml hown hnm hret hlk X0 e0 hQ
  have hml : c.maxLocals = 5 := hml
  have hown : s.vm.findClass "com/example/evenkeel/evenkeel/ResultChecksum" = some m.cls := hown
  have hnm : meth.name = "add" := hnm
  have hret : meth.sig.returnType = none := hret
  have N0 := Fr.nil n0
  have K0 : Keep h0 h0 [a1] := Keep.refl h0 _
  show GoW p e below QQ (T0.setTop (mkF m 0 #[.val (.ref a1), .val (.long q1), .second, .val (.long q2), .second] []))
  refine GoW.st (fun t k => XS.lloadN X0.here hx rfl (hb hby d3_0) rfl (XS.lconst X0.here hx rfl (hb hby d3_1) (XS.lcmp X0.here hx rfl (hb hby d3_2) rfl k))) ?_
  show GoW p e below QQ (T0.setTop (mkF m 3 #[.val (.ref a1), .val (.long q1), .second, .val (.long q2), .second] [(.int (lcmpW q1 (0 : Int64)))]))
  have hc3 : ¬ (q1 < (0 : Int64)) := by
    exact hp0
  refine GoW.st (fun t k => XS.ifNo X0.here hx rfl (hb hby d3_3) rfl ((if0 _ _).trans (flt (fun q => hc3 ((lw_lt q1 (0 : Int64)).mp q))).1) (XS.lloadN X0.here hx rfl (hb hby d3_6) rfl (XS.lconst X0.here hx rfl (hb hby d3_7) (XS.lcmp X0.here hx rfl (hb hby d3_8) rfl k)))) ?_
  show GoW p e below QQ (T0.setTop (mkF m 9 #[.val (.ref a1), .val (.long q1), .second, .val (.long q2), .second] [(.int (lcmpW q2 (0 : Int64)))]))
  have hc9 : ¬ (q2 < (0 : Int64)) := by
    exact hp1
  refine GoW.st (fun t k => XS.ifYes X0.here hx rfl (pc0 := 9) (pc' := 27) rfl (hb hby d3_9) rfl ((if0 _ _).trans (flt (fun q => hc9 ((lw_lt q2 (0 : Int64)).mp q))).2.1) (by decide) (by decide) (XS.aloadN X0.here hx rfl (hb hby d3_27) rfl rfl (XS.dup X0.here hx rfl (hb hby d3_28) rfl rfl k))) ?_
  show GoW p e below QQ (T0.setTop (mkF m 29 #[.val (.ref a1), .val (.long q1), .second, .val (.long q2), .second] [(.ref a1), (.ref a1)]))
  obtain ⟨T1, X1, e1, st1⟩ := getF X0 hx hZ hown (host := "") (Or.inl (hw _ (List.mem_of_getElem? (i := 15) rfl))) Via.refl e0 pre_F_a1_sum (g := (mkF m 29 #[.val (.ref a1), .val (.long q1), .second, .val (.long q2), .second] [(.ref a1), (.ref a1)])) rfl rfl (hb hby d3_29)
  refine GoW.st st1 ?_
  show GoW p e below QQ (T1.setTop (mkF m 32 #[.val (.ref a1), .val (.long q1), .second, .val (.long q2), .second] [(.long w2), (.ref a1)]))
  refine GoW.st (fun t k => XS.lloadN X1.here hx rfl (hb hby d3_32) rfl (XS.lconst X1.here hx rfl (hb hby d3_33) (XS.ladd X1.here hx rfl (hb hby d3_34) rfl (XS.lloadN X1.here hx rfl (hb hby d3_35) rfl (XS.lconst X1.here hx rfl (hb hby d3_36) (XS.ladd X1.here hx rfl (hb hby d3_37) rfl k)))))) ?_
  show GoW p e below QQ (T1.setTop (mkF m 38 #[.val (.ref a1), .val (.long q1), .second, .val (.long q2), .second] [(.long (q2 + (1 : Int64))), (.long (q1 + (1 : Int64))), (.long w2), (.ref a1)]))
  refine GoW.st (fun t k => XS.lmul X1.here hx rfl (hb hby d3_38) rfl (XS.ladd X1.here hx rfl (hb hby d3_39) rfl k)) ?_
  show GoW p e below QQ (T1.setTop (mkF m 40 #[.val (.ref a1), .val (.long q1), .second, .val (.long q2), .second] [(.long (w2 + ((q1 + (1 : Int64)) * (q2 + (1 : Int64))))), (.ref a1)]))
  obtain ⟨T2, h2, X2, e2, W2, st2⟩ := putF X1 hx hZ hown (host := "") (Or.inl (hw _ (List.mem_of_getElem? (i := 15) rfl))) Via.refl e1 pre_F_a1_sum pre_E_a1 (Or.inl (hw _ (List.mem_of_getElem? (i := 16) rfl))) (hw _ (List.mem_of_getElem? (i := 2) rfl)) (ty := .long) (by decide) rfl rfl (g := (mkF m 40 #[.val (.ref a1), .val (.long q1), .second, .val (.long q2), .second] [(.long (w2 + ((q1 + (1 : Int64)) * (q2 + (1 : Int64))))), (.ref a1)])) rfl rfl (hb hby d3_40)
  refine GoW.st st2 ?_
  have f3_E_a1 : Exa Z h2 a1 "com/example/evenkeel/evenkeel/ResultChecksum" := pre_E_a1.wr W2
  have f3_F_a1_sum : Fld Z h2 a1 "com/example/evenkeel/evenkeel/ResultChecksum" "sum" "J" (.long (w2 + ((q1 + (1 : Int64)) * (q2 + (1 : Int64))))) := pre_F_a1_sum.same W2
  have K2 : Keep h0 h2 [a1] := K0.wr W2 (Or.inl (List.mem_of_getElem? (i := 0) rfl))
  have N2 := Fr.snoc X2 N0 pre_g_a1
  show GoW p e below QQ (T2.setTop (mkF m 43 #[.val (.ref a1), .val (.long q1), .second, .val (.long q2), .second] []))
  exact GoW.fin X2 none (fun _ => rfl) hlk hQ e2 ⟨rfl, N2, K2, f3_E_a1, f3_F_a1_sum⟩ (by decide) (by decide) (fun fs hr => X2.returnOut hx hret (hb hby d3_43) hr)
theorem d5_0 : decode prog_15_method_3_code 0 = .ok (.aload_n 0, 1) := by decide +kernel
theorem d5_1 : decode prog_15_method_3_code 1 = .ok (.dup, 1) := by decide +kernel
theorem d5_2 : decode prog_15_method_3_code 2 = .ok (.getfield 16, 3) := by decide +kernel
theorem d5_5 : decode prog_15_method_3_code 5 = .ok (.aload_n 1, 1) := by decide +kernel
theorem d5_6 : decode prog_15_method_3_code 6 = .ok (.getfield 16, 3) := by decide +kernel
theorem d5_9 : decode prog_15_method_3_code 9 = .ok (.ladd, 1) := by decide +kernel
theorem d5_10 : decode prog_15_method_3_code 10 = .ok (.putfield 16, 3) := by decide +kernel
theorem d5_13 : decode prog_15_method_3_code 13 = .ok (.return_, 1) := by decide +kernel
def RM5s : Room := { frames := 0, cells := 0, slots := 0, locals := 0 }
def Q5s (Z : State) (a1 : Addr) (w1 : Int64) (h0 : Heap) (n0 : Nat) (v : Option Value) (h : Heap) (L : List Loc) : Prop := v = none ∧ Fr n0 L ∧ Keep h0 h [a1] ∧ (Exa Z h a1 "com/example/evenkeel/evenkeel/ResultChecksum") ∧ (Fld Z h a1 "com/example/evenkeel/evenkeel/ResultChecksum" "sum" "J" (.long (w1 + w1)))
set_option maxRecDepth 65536 in
set_option maxHeartbeats 40000000 in
theorem rm5s (l : Launch) (Z : State) (a0 : Array Value) (hw : ∀ d ∈ tables_1, d.before a0 Z = true) (ws : List Jvm.Cond) (a1 : Addr) (w1 : Int64) (h0 : Heap) (n0 : Nat) (Z0 : n0 ≤ h0.size) (pre_E_a1 : Exa Z h0 a1 "com/example/evenkeel/evenkeel/ResultChecksum") (pre_F_a1_sum : Fld Z h0 a1 "com/example/evenkeel/evenkeel/ResultChecksum" "sum" "J" (.long w1)) (pre_g_a1 : n0 ≤ a1) :
    MetFree l (⟨"com/example/evenkeel/evenkeel/ResultChecksum", "addAll", "(Lcom/example/evenkeel/evenkeel/ResultChecksum;)V"⟩ : MethodName) (head1 (Jvm.Cond.code (⟨"com/example/evenkeel/evenkeel/ResultChecksum", "addAll", "(Lcom/example/evenkeel/evenkeel/ResultChecksum;)V"⟩ : MethodName) prog_15_method_3_code 2 none :: ws) RM5s) (fun a U => a = #[(.ref a1), (.ref a1)] ∧ Z.Warmed39 U.vm ∧ U.heap = h0) (fun _ _ _ _ _ => True) (fun _ U o U' => ∃ v L, o = .returned v ∧ Q5s Z a1 w1 h0 n0 v U'.heap L ∧ FrameEnd U o U' L RM5s.cells RM5s.slots) := by
  refine met_of (Q := fun v h L => Q5s Z a1 w1 h0 n0 v h L) (plainFor_of_name pn_0) (fun m => by first | (simp [entryFrame, mkF, argsToLocals, Value.category]; done) | rfl) (Ls := #[.val (.ref a1), .val (.ref a1)]) ?_
  intro p e s m below meth c T0 QQ hx hZ hby hml hown hnm hret hlk X0 e0 hQ
  have hml : c.maxLocals = 2 := hml
  have hown : s.vm.findClass "com/example/evenkeel/evenkeel/ResultChecksum" = some m.cls := hown
  have hnm : meth.name = "addAll" := hnm
  have hret : meth.sig.returnType = none := hret
  have N0 := Fr.nil n0
  have K0 : Keep h0 h0 [a1] := Keep.refl h0 _
  show GoW p e below QQ (T0.setTop (mkF m 0 #[.val (.ref a1), .val (.ref a1)] []))
  refine GoW.st (fun t k => XS.aloadN X0.here hx rfl (hb hby d5_0) rfl rfl (XS.dup X0.here hx rfl (hb hby d5_1) rfl rfl k)) ?_
  show GoW p e below QQ (T0.setTop (mkF m 2 #[.val (.ref a1), .val (.ref a1)] [(.ref a1), (.ref a1)]))
  obtain ⟨T1, X1, e1, st1⟩ := getF X0 hx hZ hown (host := "") (Or.inl (hw _ (List.mem_of_getElem? (i := 15) rfl))) Via.refl e0 pre_F_a1_sum (g := (mkF m 2 #[.val (.ref a1), .val (.ref a1)] [(.ref a1), (.ref a1)])) rfl rfl (hb hby d5_2)
  refine GoW.st st1 ?_
  show GoW p e below QQ (T1.setTop (mkF m 5 #[.val (.ref a1), .val (.ref a1)] [(.long w1), (.ref a1)]))
  refine GoW.st (fun t k => XS.aloadN X1.here hx rfl (hb hby d5_5) rfl rfl k) ?_
  show GoW p e below QQ (T1.setTop (mkF m 6 #[.val (.ref a1), .val (.ref a1)] [(.ref a1), (.long w1), (.ref a1)]))
  obtain ⟨T2, X2, e2, st2⟩ := getF X1 hx hZ hown (host := "") (Or.inl (hw _ (List.mem_of_getElem? (i := 15) rfl))) Via.refl e1 pre_F_a1_sum (g := (mkF m 6 #[.val (.ref a1), .val (.ref a1)] [(.ref a1), (.long w1), (.ref a1)])) rfl rfl (hb hby d5_6)
  refine GoW.st st2 ?_
  show GoW p e below QQ (T2.setTop (mkF m 9 #[.val (.ref a1), .val (.ref a1)] [(.long w1), (.long w1), (.ref a1)]))
  refine GoW.st (fun t k => XS.ladd X2.here hx rfl (hb hby d5_9) rfl k) ?_
  show GoW p e below QQ (T2.setTop (mkF m 10 #[.val (.ref a1), .val (.ref a1)] [(.long (w1 + w1)), (.ref a1)]))
  obtain ⟨T3, h3, X3, e3, W3, st3⟩ := putF X2 hx hZ hown (host := "") (Or.inl (hw _ (List.mem_of_getElem? (i := 15) rfl))) Via.refl e2 pre_F_a1_sum pre_E_a1 (Or.inl (hw _ (List.mem_of_getElem? (i := 16) rfl))) (hw _ (List.mem_of_getElem? (i := 2) rfl)) (ty := .long) (by decide) rfl rfl (g := (mkF m 10 #[.val (.ref a1), .val (.ref a1)] [(.long (w1 + w1)), (.ref a1)])) rfl rfl (hb hby d5_10)
  refine GoW.st st3 ?_
  have f4_E_a1 : Exa Z h3 a1 "com/example/evenkeel/evenkeel/ResultChecksum" := pre_E_a1.wr W3
  have f4_F_a1_sum : Fld Z h3 a1 "com/example/evenkeel/evenkeel/ResultChecksum" "sum" "J" (.long (w1 + w1)) := pre_F_a1_sum.same W3
  have K3 : Keep h0 h3 [a1] := K0.wr W3 (Or.inl (List.mem_of_getElem? (i := 0) rfl))
  have N3 := Fr.snoc X3 N0 pre_g_a1
  show GoW p e below QQ (T3.setTop (mkF m 13 #[.val (.ref a1), .val (.ref a1)] []))
  exact GoW.fin X3 none (fun _ => rfl) hlk hQ e3 ⟨rfl, N3, K3, f4_E_a1, f4_F_a1_sum⟩ (by decide) (by decide) (fun fs hr => X3.returnOut hx hret (hb hby d5_13) hr)
def RM5 : Room := { frames := 0, cells := 0, slots := 0, locals := 0 }
def Q5 (Z : State) (a1 : Addr) (a2 : Addr) (w1 : Int64) (w2 : Int64) (h0 : Heap) (n0 : Nat) (v : Option Value) (h : Heap) (L : List Loc) : Prop := v = none ∧ Fr n0 L ∧ Keep h0 h [a1] ∧ (Exa Z h a1 "com/example/evenkeel/evenkeel/ResultChecksum") ∧ (Fld Z h a1 "com/example/evenkeel/evenkeel/ResultChecksum" "sum" "J" (.long (w1 + w2)))
set_option maxRecDepth 65536 in
set_option maxHeartbeats 40000000 in
theorem rm5 (l : Launch) (Z : State) (a0 : Array Value) (hw : ∀ d ∈ tables_1, d.before a0 Z = true) (ws : List Jvm.Cond) (a1 : Addr) (a2 : Addr) (w1 : Int64) (w2 : Int64) (h0 : Heap) (n0 : Nat) (Z0 : n0 ≤ h0.size) (pre_E_a1 : Exa Z h0 a1 "com/example/evenkeel/evenkeel/ResultChecksum") (pre_F_a1_sum : Fld Z h0 a1 "com/example/evenkeel/evenkeel/ResultChecksum" "sum" "J" (.long w1)) (pre_F_a2_sum : Fld Z h0 a2 "com/example/evenkeel/evenkeel/ResultChecksum" "sum" "J" (.long w2)) (pre_g_a1 : n0 ≤ a1) (pre_a2_a1 : a2 ≠ a1) :
    MetFree l (⟨"com/example/evenkeel/evenkeel/ResultChecksum", "addAll", "(Lcom/example/evenkeel/evenkeel/ResultChecksum;)V"⟩ : MethodName) (head1 (Jvm.Cond.code (⟨"com/example/evenkeel/evenkeel/ResultChecksum", "addAll", "(Lcom/example/evenkeel/evenkeel/ResultChecksum;)V"⟩ : MethodName) prog_15_method_3_code 2 none :: ws) RM5) (fun a U => a = #[(.ref a1), (.ref a2)] ∧ Z.Warmed39 U.vm ∧ U.heap = h0) (fun _ _ _ _ _ => True) (fun _ U o U' => ∃ v L, o = .returned v ∧ Q5 Z a1 a2 w1 w2 h0 n0 v U'.heap L ∧ FrameEnd U o U' L RM5.cells RM5.slots) := by
  refine met_of (Q := fun v h L => Q5 Z a1 a2 w1 w2 h0 n0 v h L) (plainFor_of_name pn_0) (fun m => by first | (simp [entryFrame, mkF, argsToLocals, Value.category]; done) | rfl) (Ls := #[.val (.ref a1), .val (.ref a2)]) ?_
  intro p e s m below meth c T0 QQ hx hZ hby hml hown hnm hret hlk X0 e0 hQ
  have hml : c.maxLocals = 2 := hml
  have hown : s.vm.findClass "com/example/evenkeel/evenkeel/ResultChecksum" = some m.cls := hown
  have hnm : meth.name = "addAll" := hnm
  have hret : meth.sig.returnType = none := hret
  have N0 := Fr.nil n0
  have K0 : Keep h0 h0 [a1] := Keep.refl h0 _
  show GoW p e below QQ (T0.setTop (mkF m 0 #[.val (.ref a1), .val (.ref a2)] []))
  refine GoW.st (fun t k => XS.aloadN X0.here hx rfl (hb hby d5_0) rfl rfl (XS.dup X0.here hx rfl (hb hby d5_1) rfl rfl k)) ?_
  show GoW p e below QQ (T0.setTop (mkF m 2 #[.val (.ref a1), .val (.ref a2)] [(.ref a1), (.ref a1)]))
  obtain ⟨T1, X1, e1, st1⟩ := getF X0 hx hZ hown (host := "") (Or.inl (hw _ (List.mem_of_getElem? (i := 15) rfl))) Via.refl e0 pre_F_a1_sum (g := (mkF m 2 #[.val (.ref a1), .val (.ref a2)] [(.ref a1), (.ref a1)])) rfl rfl (hb hby d5_2)
  refine GoW.st st1 ?_
  show GoW p e below QQ (T1.setTop (mkF m 5 #[.val (.ref a1), .val (.ref a2)] [(.long w1), (.ref a1)]))
  refine GoW.st (fun t k => XS.aloadN X1.here hx rfl (hb hby d5_5) rfl rfl k) ?_
  show GoW p e below QQ (T1.setTop (mkF m 6 #[.val (.ref a1), .val (.ref a2)] [(.ref a2), (.long w1), (.ref a1)]))
  obtain ⟨T2, X2, e2, st2⟩ := getF X1 hx hZ hown (host := "") (Or.inl (hw _ (List.mem_of_getElem? (i := 15) rfl))) Via.refl e1 pre_F_a2_sum (g := (mkF m 6 #[.val (.ref a1), .val (.ref a2)] [(.ref a2), (.long w1), (.ref a1)])) rfl rfl (hb hby d5_6)
  refine GoW.st st2 ?_
  show GoW p e below QQ (T2.setTop (mkF m 9 #[.val (.ref a1), .val (.ref a2)] [(.long w2), (.long w1), (.ref a1)]))
  refine GoW.st (fun t k => XS.ladd X2.here hx rfl (hb hby d5_9) rfl k) ?_
  show GoW p e below QQ (T2.setTop (mkF m 10 #[.val (.ref a1), .val (.ref a2)] [(.long (w1 + w2)), (.ref a1)]))
  obtain ⟨T3, h3, X3, e3, W3, st3⟩ := putF X2 hx hZ hown (host := "") (Or.inl (hw _ (List.mem_of_getElem? (i := 15) rfl))) Via.refl e2 pre_F_a1_sum pre_E_a1 (Or.inl (hw _ (List.mem_of_getElem? (i := 16) rfl))) (hw _ (List.mem_of_getElem? (i := 2) rfl)) (ty := .long) (by decide) rfl rfl (g := (mkF m 10 #[.val (.ref a1), .val (.ref a2)] [(.long (w1 + w2)), (.ref a1)])) rfl rfl (hb hby d5_10)
  refine GoW.st st3 ?_
  have f4_E_a1 : Exa Z h3 a1 "com/example/evenkeel/evenkeel/ResultChecksum" := pre_E_a1.wr W3
  have f4_F_a1_sum : Fld Z h3 a1 "com/example/evenkeel/evenkeel/ResultChecksum" "sum" "J" (.long (w1 + w2)) := pre_F_a1_sum.same W3
  have f4_F_a2_sum : Fld Z h3 a2 "com/example/evenkeel/evenkeel/ResultChecksum" "sum" "J" (.long w2) := pre_F_a2_sum.other W3 (Or.inl pre_a2_a1)
  have K3 : Keep h0 h3 [a1] := K0.wr W3 (Or.inl (List.mem_of_getElem? (i := 0) rfl))
  have N3 := Fr.snoc X3 N0 pre_g_a1
  show GoW p e below QQ (T3.setTop (mkF m 13 #[.val (.ref a1), .val (.ref a2)] []))
  exact GoW.fin X3 none (fun _ => rfl) hlk hQ e3 ⟨rfl, N3, K3, f4_E_a1, f4_F_a1_sum⟩ (by decide) (by decide) (fun fs hr => X3.returnOut hx hret (hb hby d5_13) hr)
theorem pn_1 : plainName "com/example/evenkeel/evenkeel/ResultChecksumAddAllPinLaw" = true := by first | (simp [plainName, overriddenIn]; done) | decide +kernel
theorem pd_0 : parseMethodDescriptor "()V" = some ⟨[], none⟩ := by decide +kernel
theorem pd_1 : parseMethodDescriptor "()J" = some ⟨[], some .long⟩ := by decide +kernel
theorem pd_2 : parseMethodDescriptor "(Lcom/example/evenkeel/evenkeel/ResultChecksum;)V" = some ⟨[(.object "com/example/evenkeel/evenkeel/ResultChecksum")], none⟩ := by decide +kernel
theorem pd_3 : parseMethodDescriptor "(JJ)V" = some ⟨[.long, .long], none⟩ := by decide +kernel
def Q0 (Z : State) (q1 : Int64) (q2 : Int64) (q3 : Int64) (q4 : Int64) (p5 : Int32) (h0 : Heap) (n0 : Nat) (v : Option Value) (h : Heap) (L : List Loc) : Prop := v = some (.int (1 : Int32)) ∧ Fr n0 L
set_option maxRecDepth 65536 in
set_option maxHeartbeats 40000000 in
theorem rm0 (l : Launch) (Z : State) (a0 : Array Value) (hw : ∀ d ∈ tables_1, d.before a0 Z = true) (ws : List Jvm.Cond) (q1 : Int64) (q2 : Int64) (q3 : Int64) (q4 : Int64) (p5 : Int32) (h0 : Heap) (n0 : Nat) (Z0 : n0 ≤ h0.size) (Z1 : h0.size ≤ n0)  :
    MetFree l x (head1 (Jvm.Cond.code x code maxLocals ret :: ws) room_1) (fun a U => a = #[(.long q1), (.long q2), (.long q3), (.long q4), (.int p5)] ∧ Z.Warmed39 U.vm ∧ U.heap = h0) (fun _ _ _ _ _ => True) (fun _ U o U' => ∃ v L, o = .returned v ∧ Q0 Z q1 q2 q3 q4 p5 h0 n0 v U'.heap L ∧ FrameEnd U o U' L 16 128) := by
  refine met_of (Q := fun v h L => Q0 Z q1 q2 q3 q4 p5 h0 n0 v h L) (plainFor_of_name pn_1) (fun m => by first | (simp [entryFrame, mkF, argsToLocals, Value.category, maxLocals]; done) | rfl) (Ls := #[.val (.long q1), .second, .val (.long q2), .second, .val (.long q3), .second, .val (.long q4), .second, .val (.int p5), .unset, .unset, .unset, .unset, .unset, .unset, .unset, .unset]) ?_
  intro p e s m below meth c T0 QQ hx hZ hby hml hown hnm hret hlk X0 e0 hQ
  have hml : c.maxLocals = 17 := hml
  have hown : s.vm.findClass "com/example/evenkeel/evenkeel/ResultChecksumAddAllPinLaw" = some m.cls := hown
  have hnm : meth.name = "law" := hnm
  have hret : meth.sig.returnType = some .boolean := hret
  have N0 := Fr.nil n0
  have K0 : Keep h0 h0 [] := Keep.refl h0 _
  show GoW p e below QQ (T0.setTop (mkF m 0 #[.val (.long q1), .second, .val (.long q2), .second, .val (.long q3), .second, .val (.long q4), .second, .val (.int p5), .unset, .unset, .unset, .unset, .unset, .unset, .unset, .unset] []))
  refine GoW.st (fun t k => X0.ldc2Long hx hown (mvT hZ (hw _ (List.mem_of_getElem? (i := 0) rfl))) (g := (mkF m 0 #[.val (.long q1), .second, .val (.long q2), .second, .val (.long q3), .second, .val (.long q4), .second, .val (.int p5), .unset, .unset, .unset, .unset, .unset, .unset, .unset, .unset] [])) rfl (hb hby at_0) t (XS.lstore X0.here hx rfl (hb hby at_3) rfl (l' := #[.val (.long q1), .second, .val (.long q2), .second, .val (.long q3), .second, .val (.long q4), .second, .val (.int p5), .val (.long (9223372036854775807 : Int64)), .second, .unset, .unset, .unset, .unset, .unset, .unset]) rfl k)) ?_
  show GoW p e below QQ (T0.setTop (mkF m 5 #[.val (.long q1), .second, .val (.long q2), .second, .val (.long q3), .second, .val (.long q4), .second, .val (.int p5), .val (.long (9223372036854775807 : Int64)), .second, .unset, .unset, .unset, .unset, .unset, .unset] []))
  obtain ⟨T1, h1, X1, e1, E1, A1, D1, -, st1⟩ := newO X0 hx hZ hown (hw _ (List.mem_of_getElem? (i := 1) rfl)) (hw _ (List.mem_of_getElem? (i := 2) rfl)) (hw _ (List.mem_of_getElem? (i := 3) rfl)) e0 (g := (mkF m 5 #[.val (.long q1), .second, .val (.long q2), .second, .val (.long q3), .second, .val (.long q4), .second, .val (.int p5), .val (.long (9223372036854775807 : Int64)), .second, .unset, .unset, .unset, .unset, .unset, .unset] [])) rfl (hb hby at_5) (by decide) (by decide)
  obtain ⟨b1, g1⟩ : ∃ z, z = h0.size := ⟨_, rfl⟩
  rw [← g1] at A1 D1 st1
  refine GoW.st st1 ?_
  have gg1 : n0 ≤ b1 := Nat.le_trans (Nat.le_trans Z0 K0.1) (Nat.le_of_eq g1.symm)
  have sz1 : h0.size ≤ b1 := Nat.le_trans K0.1 (Nat.le_of_eq g1.symm)
  have K1 : Keep h0 h1 [] := K0.ext E1
  have F1_sum : Fld Z h1 b1 "com/example/evenkeel/evenkeel/ResultChecksum" "sum" "J" (.long (0 : Int64)) := D1 (Or.inl (hw _ (List.mem_of_getElem? (i := 16) rfl))) (ty := .long) (by decide)
  show GoW p e below QQ (T1.setTop (mkF m 8 #[.val (.long q1), .second, .val (.long q2), .second, .val (.long q3), .second, .val (.long q4), .second, .val (.int p5), .val (.long (9223372036854775807 : Int64)), .second, .unset, .unset, .unset, .unset, .unset, .unset] [(.ref b1)]))
  refine GoW.st (fun t k => XS.dup X1.here hx rfl (hb hby at_8) rfl rfl k) ?_
  show GoW p e below QQ (T1.setTop (mkF m 9 #[.val (.long q1), .second, .val (.long q2), .second, .val (.long q3), .second, .val (.long q4), .second, .val (.int p5), .val (.long (9223372036854775807 : Int64)), .second, .unset, .unset, .unset, .unset, .unset, .unset] [(.ref b1), (.ref b1)]))
  obtain ⟨_, _, ⟨T3, zL3, zk3, zn3⟩, -, X3, ⟨Lc3, hQ3, zl3, zy3, zz3⟩, st3⟩ := X1.specialBack hx (y := (⟨"com/example/evenkeel/evenkeel/ResultChecksum", "<init>", "()V"⟩ : MethodName)) rfl hown (mvT hZ (hw _ (List.mem_of_getElem? (i := 4) rfl))) (mvT hZ (hw _ (List.mem_of_getElem? (i := 5) rfl))) (mvT hZ (hw _ (List.mem_of_getElem? (i := 6) rfl))) (by decide) (backOf (W := 1) (rm1 l Z a0 hw [] b1 h1 n0 (Nat.le_trans Z0 K1.1) ) hZ (hw _ (List.mem_of_getElem? (i := 6) rfl)) (hw _ (List.mem_of_getElem? (i := 3) rfl)) (by decide) (by decide)) (g := (mkF m 9 #[.val (.long q1), .second, .val (.long q2), .second, .val (.long q3), .second, .val (.long q4), .second, .val (.int p5), .val (.long (9223372036854775807 : Int64)), .second, .unset, .unset, .unset, .unset, .unset, .unset] [(.ref b1), (.ref b1)])) rfl (by rw [hml]; rfl) (Steps.refl _) (a := b1) (argsL := []) (rest := [(.ref b1)]) (lenOf pd_0 rfl) rfl (by show 2 * 0 + _ ≤ _; exact Nat.le_of_eq rfl) (hb hby at_9) (fun _ _ => ⟨rfl, e1, (by decide : 1 + 0 ≤ _), (by decide : 1 + 0 ≤ _)⟩)
  dsimp only [Pt.U, Pt.locs, Pt.cells, Pt.slots] at X3 zl3 zy3 zz3 st3 hQ3
  subst zl3 zy3 zz3
  obtain ⟨rfl, Nq3, hh3⟩ := hQ3
  have N3 := Fr.app N0 Nq3
  refine GoW.st (fun t k => st3.trans k) ?_
  show GoW p e below QQ (T3.setTop (mkF m 12 #[.val (.long q1), .second, .val (.long q2), .second, .val (.long q3), .second, .val (.long q4), .second, .val (.int p5), .val (.long (9223372036854775807 : Int64)), .second, .unset, .unset, .unset, .unset, .unset, .unset] [(.ref b1)]))
  refine GoW.st (fun t k => XS.astore X3.here hx rfl (hb hby at_12) rfl rfl (l' := #[.val (.long q1), .second, .val (.long q2), .second, .val (.long q3), .second, .val (.long q4), .second, .val (.int p5), .val (.long (9223372036854775807 : Int64)), .second, .val (.ref b1), .unset, .unset, .unset, .unset, .unset]) rfl k) ?_
  show GoW p e below QQ (T3.setTop (mkF m 14 #[.val (.long q1), .second, .val (.long q2), .second, .val (.long q3), .second, .val (.long q4), .second, .val (.int p5), .val (.long (9223372036854775807 : Int64)), .second, .val (.ref b1), .unset, .unset, .unset, .unset, .unset] []))
  obtain ⟨T4, h4, X4, e4, E4, A4, D4, -, st4⟩ := newO X3 hx hZ hown (hw _ (List.mem_of_getElem? (i := 1) rfl)) (hw _ (List.mem_of_getElem? (i := 2) rfl)) (hw _ (List.mem_of_getElem? (i := 3) rfl)) hh3 (g := (mkF m 14 #[.val (.long q1), .second, .val (.long q2), .second, .val (.long q3), .second, .val (.long q4), .second, .val (.int p5), .val (.long (9223372036854775807 : Int64)), .second, .val (.ref b1), .unset, .unset, .unset, .unset, .unset] [])) rfl (hb hby at_14) (by decide) (by decide)
  obtain ⟨b4, g4⟩ : ∃ z, z = h1.size := ⟨_, rfl⟩
  rw [← g4] at A4 D4 st4
  refine GoW.st st4 ?_
  have gg4 : n0 ≤ b4 := Nat.le_trans (Nat.le_trans Z0 K1.1) (Nat.le_of_eq g4.symm)
  have sz4 : h0.size ≤ b4 := Nat.le_trans K1.1 (Nat.le_of_eq g4.symm)
  have ne4_b1 : b1 ≠ b4 := Nat.ne_of_lt (Nat.lt_of_lt_of_le A1.lt (Nat.le_of_eq g4.symm))
  have f5_E_b1 : Exa Z h4 b1 "com/example/evenkeel/evenkeel/ResultChecksum" := A1.ext E4
  have f5_F_b1_sum : Fld Z h4 b1 "com/example/evenkeel/evenkeel/ResultChecksum" "sum" "J" (.long (0 : Int64)) := F1_sum.ext E4
  have K4 : Keep h0 h4 [] := K1.ext E4
  have F4_sum : Fld Z h4 b4 "com/example/evenkeel/evenkeel/ResultChecksum" "sum" "J" (.long (0 : Int64)) := D4 (Or.inl (hw _ (List.mem_of_getElem? (i := 16) rfl))) (ty := .long) (by decide)
  show GoW p e below QQ (T4.setTop (mkF m 17 #[.val (.long q1), .second, .val (.long q2), .second, .val (.long q3), .second, .val (.long q4), .second, .val (.int p5), .val (.long (9223372036854775807 : Int64)), .second, .val (.ref b1), .unset, .unset, .unset, .unset, .unset] [(.ref b4)]))
  refine GoW.st (fun t k => XS.dup X4.here hx rfl (hb hby at_17) rfl rfl k) ?_
  show GoW p e below QQ (T4.setTop (mkF m 18 #[.val (.long q1), .second, .val (.long q2), .second, .val (.long q3), .second, .val (.long q4), .second, .val (.int p5), .val (.long (9223372036854775807 : Int64)), .second, .val (.ref b1), .unset, .unset, .unset, .unset, .unset] [(.ref b4), (.ref b4)]))
  obtain ⟨_, _, ⟨T6, zL6, zk6, zn6⟩, -, X6, ⟨Lc6, hQ6, zl6, zy6, zz6⟩, st6⟩ := X4.specialBack hx (y := (⟨"com/example/evenkeel/evenkeel/ResultChecksum", "<init>", "()V"⟩ : MethodName)) rfl hown (mvT hZ (hw _ (List.mem_of_getElem? (i := 4) rfl))) (mvT hZ (hw _ (List.mem_of_getElem? (i := 5) rfl))) (mvT hZ (hw _ (List.mem_of_getElem? (i := 6) rfl))) (by decide) (backOf (W := 1) (rm1 l Z a0 hw [] b4 h4 n0 (Nat.le_trans Z0 K4.1) ) hZ (hw _ (List.mem_of_getElem? (i := 6) rfl)) (hw _ (List.mem_of_getElem? (i := 3) rfl)) (by decide) (by decide)) (g := (mkF m 18 #[.val (.long q1), .second, .val (.long q2), .second, .val (.long q3), .second, .val (.long q4), .second, .val (.int p5), .val (.long (9223372036854775807 : Int64)), .second, .val (.ref b1), .unset, .unset, .unset, .unset, .unset] [(.ref b4), (.ref b4)])) rfl (by rw [hml]; rfl) (Steps.refl _) (a := b4) (argsL := []) (rest := [(.ref b4)]) (lenOf pd_0 rfl) rfl (by show 2 * 0 + _ ≤ _; exact Nat.le_of_eq rfl) (hb hby at_18) (fun _ _ => ⟨rfl, e4, (by decide : 2 + 0 ≤ _), (by decide : 2 + 0 ≤ _)⟩)
  dsimp only [Pt.U, Pt.locs, Pt.cells, Pt.slots] at X6 zl6 zy6 zz6 st6 hQ6
  subst zl6 zy6 zz6
  obtain ⟨rfl, Nq6, hh6⟩ := hQ6
  have N6 := Fr.app N3 Nq6
  refine GoW.st (fun t k => st6.trans k) ?_
  show GoW p e below QQ (T6.setTop (mkF m 21 #[.val (.long q1), .second, .val (.long q2), .second, .val (.long q3), .second, .val (.long q4), .second, .val (.int p5), .val (.long (9223372036854775807 : Int64)), .second, .val (.ref b1), .unset, .unset, .unset, .unset, .unset] [(.ref b4)]))
  refine GoW.st (fun t k => XS.astore X6.here hx rfl (hb hby at_21) rfl rfl (l' := #[.val (.long q1), .second, .val (.long q2), .second, .val (.long q3), .second, .val (.long q4), .second, .val (.int p5), .val (.long (9223372036854775807 : Int64)), .second, .val (.ref b1), .val (.ref b4), .unset, .unset, .unset, .unset]) rfl k) ?_
  show GoW p e below QQ (T6.setTop (mkF m 23 #[.val (.long q1), .second, .val (.long q2), .second, .val (.long q3), .second, .val (.long q4), .second, .val (.int p5), .val (.long (9223372036854775807 : Int64)), .second, .val (.ref b1), .val (.ref b4), .unset, .unset, .unset, .unset] []))
  have J40_7 : ∀ (TJ7 : State) (LJ7 : List Loc) (hJ7 : Heap) (wa1 : Int64) (XJ7 : Stand p l e room_1 s m #[(.long q1), (.long q2), (.long q3), (.long q4), (.int p5)] below meth c TJ7 LJ7 2 2) (eJ7 : TJ7.heap = hJ7) (NJ7 : Fr n0 LJ7) (KJ7 : Keep h0 hJ7 []) (fJ7_1 : Exa Z hJ7 b1 "com/example/evenkeel/evenkeel/ResultChecksum") (fJ7_2 : Fld Z hJ7 b1 "com/example/evenkeel/evenkeel/ResultChecksum" "sum" "J" (.long wa1)) (fJ7_4 : Exa Z hJ7 b4 "com/example/evenkeel/evenkeel/ResultChecksum") (fJ7_5 : Fld Z hJ7 b4 "com/example/evenkeel/evenkeel/ResultChecksum" "sum" "J" (.long (0 : Int64))) , GoW p e below QQ (TJ7.setTop (mkF m 40 #[.val (.long q1), .second, .val (.long q2), .second, .val (.long q3), .second, .val (.long q4), .second, .val (.int p5), .val (.long (9223372036854775807 : Int64)), .second, .val (.ref b1), .val (.ref b4), .unset, .unset, .unset, .unset] [])) := by
    intro TJ7 LJ7 hJ7 wa1 XJ7 eJ7 NJ7 KJ7 fJ7_1 fJ7_2 fJ7_4 fJ7_5 
    have J57_8 : ∀ (TJ8 : State) (LJ8 : List Loc) (hJ8 : Heap) (wa2 : Int64) (XJ8 : Stand p l e room_1 s m #[(.long q1), (.long q2), (.long q3), (.long q4), (.int p5)] below meth c TJ8 LJ8 2 2) (eJ8 : TJ8.heap = hJ8) (NJ8 : Fr n0 LJ8) (KJ8 : Keep h0 hJ8 []) (fJ8_1 : Exa Z hJ8 b1 "com/example/evenkeel/evenkeel/ResultChecksum") (fJ8_2 : Fld Z hJ8 b1 "com/example/evenkeel/evenkeel/ResultChecksum" "sum" "J" (.long wa2)) (fJ8_4 : Exa Z hJ8 b4 "com/example/evenkeel/evenkeel/ResultChecksum") (fJ8_5 : Fld Z hJ8 b4 "com/example/evenkeel/evenkeel/ResultChecksum" "sum" "J" (.long (0 : Int64))) , GoW p e below QQ (TJ8.setTop (mkF m 57 #[.val (.long q1), .second, .val (.long q2), .second, .val (.long q3), .second, .val (.long q4), .second, .val (.int p5), .val (.long (9223372036854775807 : Int64)), .second, .val (.ref b1), .val (.ref b4), .unset, .unset, .unset, .unset] [])) := by
      intro TJ8 LJ8 hJ8 wa2 XJ8 eJ8 NJ8 KJ8 fJ8_1 fJ8_2 fJ8_4 fJ8_5 
      have J75_9 : ∀ (TJ9 : State) (LJ9 : List Loc) (hJ9 : Heap) (wb1 : Int64) (XJ9 : Stand p l e room_1 s m #[(.long q1), (.long q2), (.long q3), (.long q4), (.int p5)] below meth c TJ9 LJ9 2 2) (eJ9 : TJ9.heap = hJ9) (NJ9 : Fr n0 LJ9) (KJ9 : Keep h0 hJ9 []) (fJ9_1 : Exa Z hJ9 b1 "com/example/evenkeel/evenkeel/ResultChecksum") (fJ9_2 : Fld Z hJ9 b1 "com/example/evenkeel/evenkeel/ResultChecksum" "sum" "J" (.long wa2)) (fJ9_4 : Exa Z hJ9 b4 "com/example/evenkeel/evenkeel/ResultChecksum") (fJ9_5 : Fld Z hJ9 b4 "com/example/evenkeel/evenkeel/ResultChecksum" "sum" "J" (.long wb1)) , GoW p e below QQ (TJ9.setTop (mkF m 75 #[.val (.long q1), .second, .val (.long q2), .second, .val (.long q3), .second, .val (.long q4), .second, .val (.int p5), .val (.long (9223372036854775807 : Int64)), .second, .val (.ref b1), .val (.ref b4), .unset, .unset, .unset, .unset] [])) := by
        intro TJ9 LJ9 hJ9 wb1 XJ9 eJ9 NJ9 KJ9 fJ9_1 fJ9_2 fJ9_4 fJ9_5 
        have J94_10 : ∀ (TJ10 : State) (LJ10 : List Loc) (hJ10 : Heap) (wb2 : Int64) (XJ10 : Stand p l e room_1 s m #[(.long q1), (.long q2), (.long q3), (.long q4), (.int p5)] below meth c TJ10 LJ10 2 2) (eJ10 : TJ10.heap = hJ10) (NJ10 : Fr n0 LJ10) (KJ10 : Keep h0 hJ10 []) (fJ10_1 : Exa Z hJ10 b1 "com/example/evenkeel/evenkeel/ResultChecksum") (fJ10_2 : Fld Z hJ10 b1 "com/example/evenkeel/evenkeel/ResultChecksum" "sum" "J" (.long wa2)) (fJ10_4 : Exa Z hJ10 b4 "com/example/evenkeel/evenkeel/ResultChecksum") (fJ10_5 : Fld Z hJ10 b4 "com/example/evenkeel/evenkeel/ResultChecksum" "sum" "J" (.long wb2)) , GoW p e below QQ (TJ10.setTop (mkF m 94 #[.val (.long q1), .second, .val (.long q2), .second, .val (.long q3), .second, .val (.long q4), .second, .val (.int p5), .val (.long (9223372036854775807 : Int64)), .second, .val (.ref b1), .val (.ref b4), .unset, .unset, .unset, .unset] [])) := by
          intro TJ10 LJ10 hJ10 wb2 XJ10 eJ10 NJ10 KJ10 fJ10_1 fJ10_2 fJ10_4 fJ10_5 
          refine GoW.st (fun t k => XS.aload XJ10.here hx rfl (hb hby at_94) rfl rfl k) ?_
          show GoW p e below QQ (TJ10.setTop (mkF m 96 #[.val (.long q1), .second, .val (.long q2), .second, .val (.long q3), .second, .val (.long q4), .second, .val (.int p5), .val (.long (9223372036854775807 : Int64)), .second, .val (.ref b1), .val (.ref b4), .unset, .unset, .unset, .unset] [(.ref b1)]))
          obtain ⟨cq11, kq11, qa11, qb11, qc11⟩ := isOf hZ eJ10 fJ10_1
          obtain ⟨_, _, ⟨T11, zL11, zk11, zn11⟩, -, X11, ⟨Lc11, hQ11, zl11, zy11, zz11⟩, st11⟩ := XJ10.virtualBack hx (y := (⟨"com/example/evenkeel/evenkeel/ResultChecksum", "bits", "()J"⟩ : MethodName)) (z := (⟨"com/example/evenkeel/evenkeel/ResultChecksum", "bits", "()J"⟩ : MethodName)) hown (mvT hZ (hw _ (List.mem_of_getElem? (i := 17) rfl))) (mvT hZ (hw _ (List.mem_of_getElem? (i := 18) rfl))) (notFace_of_selects (args := #[]) (mvT hZ (hw _ (List.mem_of_getElem? (i := 20) rfl)))) (mvT hZ (hw _ (List.mem_of_getElem? (i := 20) rfl))) (mvT hZ (hw _ (List.mem_of_getElem? (i := 19) rfl))) (by decide) (backOf (W := 0) (rm4 l Z a0 hw [] b1 wa2 hJ10 n0 (Nat.le_trans Z0 KJ10.1) fJ10_2) hZ (hw _ (List.mem_of_getElem? (i := 21) rfl)) (hw _ (List.mem_of_getElem? (i := 3) rfl)) (by decide) (by decide)) qa11 qc11 (g := (mkF m 96 #[.val (.long q1), .second, .val (.long q2), .second, .val (.long q3), .second, .val (.long q4), .second, .val (.int p5), .val (.long (9223372036854775807 : Int64)), .second, .val (.ref b1), .val (.ref b4), .unset, .unset, .unset, .unset] [(.ref b1)])) rfl (by rw [hml]; rfl) (Steps.refl _) (argsL := []) (rest := []) (lenOf pd_1 rfl) rfl (by show 2 * 0 + _ ≤ _; exact Nat.le_of_eq rfl) (hb hby at_96) (fun _ _ => ⟨rfl, eJ10, (by decide : 2 + 0 ≤ _), (by decide : 2 + 0 ≤ _)⟩)
          dsimp only [Pt.U, Pt.locs, Pt.cells, Pt.slots] at X11 zl11 zy11 zz11 st11 hQ11
          subst zl11 zy11 zz11
          obtain ⟨rfl, Nq11, hh11⟩ := hQ11
          have N11 := Fr.app NJ10 Nq11
          refine GoW.st (fun t k => st11.trans k) ?_
          show GoW p e below QQ (T11.setTop (mkF m 99 #[.val (.long q1), .second, .val (.long q2), .second, .val (.long q3), .second, .val (.long q4), .second, .val (.int p5), .val (.long (9223372036854775807 : Int64)), .second, .val (.ref b1), .val (.ref b4), .unset, .unset, .unset, .unset] [(.long wa2)]))
          refine GoW.st (fun t k => XS.lstore X11.here hx rfl (hb hby at_99) rfl (l' := #[.val (.long q1), .second, .val (.long q2), .second, .val (.long q3), .second, .val (.long q4), .second, .val (.int p5), .val (.long (9223372036854775807 : Int64)), .second, .val (.ref b1), .val (.ref b4), .val (.long wa2), .second, .unset, .unset]) rfl (XS.aload X11.here hx rfl (hb hby at_101) rfl rfl k)) ?_
          show GoW p e below QQ (T11.setTop (mkF m 103 #[.val (.long q1), .second, .val (.long q2), .second, .val (.long q3), .second, .val (.long q4), .second, .val (.int p5), .val (.long (9223372036854775807 : Int64)), .second, .val (.ref b1), .val (.ref b4), .val (.long wa2), .second, .unset, .unset] [(.ref b4)]))
          obtain ⟨cq12, kq12, qa12, qb12, qc12⟩ := isOf hZ hh11 fJ10_4
          obtain ⟨_, _, ⟨T12, zL12, zk12, zn12⟩, -, X12, ⟨Lc12, hQ12, zl12, zy12, zz12⟩, st12⟩ := X11.virtualBack hx (y := (⟨"com/example/evenkeel/evenkeel/ResultChecksum", "bits", "()J"⟩ : MethodName)) (z := (⟨"com/example/evenkeel/evenkeel/ResultChecksum", "bits", "()J"⟩ : MethodName)) hown (mvT hZ (hw _ (List.mem_of_getElem? (i := 17) rfl))) (mvT hZ (hw _ (List.mem_of_getElem? (i := 18) rfl))) (notFace_of_selects (args := #[]) (mvT hZ (hw _ (List.mem_of_getElem? (i := 20) rfl)))) (mvT hZ (hw _ (List.mem_of_getElem? (i := 20) rfl))) (mvT hZ (hw _ (List.mem_of_getElem? (i := 19) rfl))) (by decide) (backOf (W := 0) (rm4 l Z a0 hw [] b4 wb2 hJ10 n0 (Nat.le_trans Z0 KJ10.1) fJ10_5) hZ (hw _ (List.mem_of_getElem? (i := 21) rfl)) (hw _ (List.mem_of_getElem? (i := 3) rfl)) (by decide) (by decide)) qa12 qc12 (g := (mkF m 103 #[.val (.long q1), .second, .val (.long q2), .second, .val (.long q3), .second, .val (.long q4), .second, .val (.int p5), .val (.long (9223372036854775807 : Int64)), .second, .val (.ref b1), .val (.ref b4), .val (.long wa2), .second, .unset, .unset] [(.ref b4)])) rfl (by rw [hml]; rfl) (Steps.refl _) (argsL := []) (rest := []) (lenOf pd_1 rfl) rfl (by show 2 * 0 + _ ≤ _; exact Nat.le_of_eq rfl) (hb hby at_103) (fun _ _ => ⟨rfl, hh11, (by decide : 2 + 0 ≤ _), (by decide : 2 + 0 ≤ _)⟩)
          dsimp only [Pt.U, Pt.locs, Pt.cells, Pt.slots] at X12 zl12 zy12 zz12 st12 hQ12
          subst zl12 zy12 zz12
          obtain ⟨rfl, Nq12, hh12⟩ := hQ12
          have N12 := Fr.app N11 Nq12
          refine GoW.st (fun t k => st12.trans k) ?_
          show GoW p e below QQ (T12.setTop (mkF m 106 #[.val (.long q1), .second, .val (.long q2), .second, .val (.long q3), .second, .val (.long q4), .second, .val (.int p5), .val (.long (9223372036854775807 : Int64)), .second, .val (.ref b1), .val (.ref b4), .val (.long wa2), .second, .unset, .unset] [(.long wb2)]))
          refine GoW.st (fun t k => XS.lstore X12.here hx rfl (hb hby at_106) rfl (l' := #[.val (.long q1), .second, .val (.long q2), .second, .val (.long q3), .second, .val (.long q4), .second, .val (.int p5), .val (.long (9223372036854775807 : Int64)), .second, .val (.ref b1), .val (.ref b4), .val (.long wa2), .second, .val (.long wb2), .second]) rfl (XS.iload X12.here hx rfl (hb hby at_108) rfl (XS.bipush X12.here hx rfl (hb hby at_110) (XS.iand X12.here hx rfl (hb hby at_112) rfl k)))) ?_
          show GoW p e below QQ (T12.setTop (mkF m 113 #[.val (.long q1), .second, .val (.long q2), .second, .val (.long q3), .second, .val (.long q4), .second, .val (.int p5), .val (.long (9223372036854775807 : Int64)), .second, .val (.ref b1), .val (.ref b4), .val (.long wa2), .second, .val (.long wb2), .second] [(.int (p5 &&& (16 : Int32)))]))
          by_cases hc113 : (p5 &&& (16 : Int32)) = (0 : Int32)
          · skip
            refine GoW.st (fun t k => XS.ifYes X12.here hx rfl (pc0 := 113) (pc' := 143) rfl (hb hby at_113) rfl ((if0 _ _).trans (teq hc113).1) (by decide) (by decide) (XS.aload X12.here hx rfl (hb hby at_143) rfl rfl (XS.aload X12.here hx rfl (hb hby at_145) rfl rfl k))) ?_
            show GoW p e below QQ (T12.setTop (mkF m 147 #[.val (.long q1), .second, .val (.long q2), .second, .val (.long q3), .second, .val (.long q4), .second, .val (.int p5), .val (.long (9223372036854775807 : Int64)), .second, .val (.ref b1), .val (.ref b4), .val (.long wa2), .second, .val (.long wb2), .second] [(.ref b4), (.ref b1)]))
            obtain ⟨cq13, kq13, qa13, qb13, qc13⟩ := isOf hZ hh12 fJ10_1
            obtain ⟨_, _, ⟨T13, zL13, zk13, zn13⟩, -, X13, ⟨Lc13, hQ13, zl13, zy13, zz13⟩, st13⟩ := X12.virtualBack hx (y := (⟨"com/example/evenkeel/evenkeel/ResultChecksum", "addAll", "(Lcom/example/evenkeel/evenkeel/ResultChecksum;)V"⟩ : MethodName)) (z := (⟨"com/example/evenkeel/evenkeel/ResultChecksum", "addAll", "(Lcom/example/evenkeel/evenkeel/ResultChecksum;)V"⟩ : MethodName)) hown (mvT hZ (hw _ (List.mem_of_getElem? (i := 22) rfl))) (mvT hZ (hw _ (List.mem_of_getElem? (i := 23) rfl))) (notFace_of_selects (args := #[]) (mvT hZ (hw _ (List.mem_of_getElem? (i := 25) rfl)))) (mvT hZ (hw _ (List.mem_of_getElem? (i := 25) rfl))) (mvT hZ (hw _ (List.mem_of_getElem? (i := 24) rfl))) (by decide) (backOf (W := 0) (rm5 l Z a0 hw [] b1 b4 wa2 wb2 hJ10 n0 (Nat.le_trans Z0 KJ10.1) fJ10_1 fJ10_2 fJ10_5 gg1 (Ne.symm ne4_b1)) hZ (hw _ (List.mem_of_getElem? (i := 26) rfl)) (hw _ (List.mem_of_getElem? (i := 3) rfl)) (by decide) (by decide)) qa13 qc13 (g := (mkF m 147 #[.val (.long q1), .second, .val (.long q2), .second, .val (.long q3), .second, .val (.long q4), .second, .val (.int p5), .val (.long (9223372036854775807 : Int64)), .second, .val (.ref b1), .val (.ref b4), .val (.long wa2), .second, .val (.long wb2), .second] [(.ref b4), (.ref b1)])) rfl (by rw [hml]; rfl) (Steps.refl _) (argsL := [(.ref b4)]) (rest := []) (lenOf pd_2 rfl) rfl (by show 2 * 0 + _ ≤ _; exact Nat.le_of_eq rfl) (hb hby at_147) (fun _ _ => ⟨rfl, hh12, (by decide : 2 + 0 ≤ _), (by decide : 2 + 0 ≤ _)⟩)
            dsimp only [Pt.U, Pt.locs, Pt.cells, Pt.slots] at X13 zl13 zy13 zz13 st13 hQ13
            subst zl13 zy13 zz13
            obtain ⟨rfl, Nq13, Kq13, p13_0, p13_1⟩ := hQ13
            have N13 := Fr.app N12 Nq13
            refine GoW.st (fun t k => st13.trans k) ?_
            have f14_E_b4 : Exa Z T13.heap b4 "com/example/evenkeel/evenkeel/ResultChecksum" := fJ10_4.keep Kq13
            have f14_F_b4_sum : Fld Z T13.heap b4 "com/example/evenkeel/evenkeel/ResultChecksum" "sum" "J" (.long wb2) := fJ10_5.keep Kq13 (ninS (Ne.symm ne4_b1) nin0)
            have K13 : Keep h0 T13.heap [] := KJ10.trans Kq13 (allS (Or.inr sz1) all0)
            show GoW p e below QQ (T13.setTop (mkF m 150 #[.val (.long q1), .second, .val (.long q2), .second, .val (.long q3), .second, .val (.long q4), .second, .val (.int p5), .val (.long (9223372036854775807 : Int64)), .second, .val (.ref b1), .val (.ref b4), .val (.long wa2), .second, .val (.long wb2), .second] []))
            refine GoW.st (fun t k => XS.aload X13.here hx rfl (hb hby at_150) rfl rfl k) ?_
            show GoW p e below QQ (T13.setTop (mkF m 152 #[.val (.long q1), .second, .val (.long q2), .second, .val (.long q3), .second, .val (.long q4), .second, .val (.int p5), .val (.long (9223372036854775807 : Int64)), .second, .val (.ref b1), .val (.ref b4), .val (.long wa2), .second, .val (.long wb2), .second] [(.ref b1)]))
            obtain ⟨cq15, kq15, qa15, qb15, qc15⟩ := isOf hZ rfl p13_0
            obtain ⟨_, _, ⟨T15, zL15, zk15, zn15⟩, -, X15, ⟨Lc15, hQ15, zl15, zy15, zz15⟩, st15⟩ := X13.virtualBack hx (y := (⟨"com/example/evenkeel/evenkeel/ResultChecksum", "bits", "()J"⟩ : MethodName)) (z := (⟨"com/example/evenkeel/evenkeel/ResultChecksum", "bits", "()J"⟩ : MethodName)) hown (mvT hZ (hw _ (List.mem_of_getElem? (i := 17) rfl))) (mvT hZ (hw _ (List.mem_of_getElem? (i := 18) rfl))) (notFace_of_selects (args := #[]) (mvT hZ (hw _ (List.mem_of_getElem? (i := 20) rfl)))) (mvT hZ (hw _ (List.mem_of_getElem? (i := 20) rfl))) (mvT hZ (hw _ (List.mem_of_getElem? (i := 19) rfl))) (by decide) (backOf (W := 0) (rm4 l Z a0 hw [] b1 (wa2 + wb2) T13.heap n0 (Nat.le_trans Z0 K13.1) p13_1) hZ (hw _ (List.mem_of_getElem? (i := 21) rfl)) (hw _ (List.mem_of_getElem? (i := 3) rfl)) (by decide) (by decide)) qa15 qc15 (g := (mkF m 152 #[.val (.long q1), .second, .val (.long q2), .second, .val (.long q3), .second, .val (.long q4), .second, .val (.int p5), .val (.long (9223372036854775807 : Int64)), .second, .val (.ref b1), .val (.ref b4), .val (.long wa2), .second, .val (.long wb2), .second] [(.ref b1)])) rfl (by rw [hml]; rfl) (Steps.refl _) (argsL := []) (rest := []) (lenOf pd_1 rfl) rfl (by show 2 * 0 + _ ≤ _; exact Nat.le_of_eq rfl) (hb hby at_152) (fun _ _ => ⟨rfl, rfl, (by decide : 2 + 0 ≤ _), (by decide : 2 + 0 ≤ _)⟩)
            dsimp only [Pt.U, Pt.locs, Pt.cells, Pt.slots] at X15 zl15 zy15 zz15 st15 hQ15
            subst zl15 zy15 zz15
            obtain ⟨rfl, Nq15, hh15⟩ := hQ15
            have N15 := Fr.app N13 Nq15
            refine GoW.st (fun t k => st15.trans k) ?_
            show GoW p e below QQ (T15.setTop (mkF m 155 #[.val (.long q1), .second, .val (.long q2), .second, .val (.long q3), .second, .val (.long q4), .second, .val (.int p5), .val (.long (9223372036854775807 : Int64)), .second, .val (.ref b1), .val (.ref b4), .val (.long wa2), .second, .val (.long wb2), .second] [(.long (wa2 + wb2))]))
            refine GoW.st (fun t k => XS.lload X15.here hx rfl (hb hby at_155) rfl (XS.lload X15.here hx rfl (hb hby at_157) rfl (XS.ladd X15.here hx rfl (hb hby at_159) rfl (XS.lcmp X15.here hx rfl (hb hby at_160) rfl k)))) ?_
            show GoW p e below QQ (T15.setTop (mkF m 161 #[.val (.long q1), .second, .val (.long q2), .second, .val (.long q3), .second, .val (.long q4), .second, .val (.int p5), .val (.long (9223372036854775807 : Int64)), .second, .val (.ref b1), .val (.ref b4), .val (.long wa2), .second, .val (.long wb2), .second] [(.int (lcmpW (wa2 + wb2) (wa2 + wb2)))]))
            have hc161 : (wa2 + wb2) = (wa2 + wb2) := by
              rfl
            refine GoW.st (fun t k => XS.ifNo X15.here hx rfl (hb hby at_161) rfl ((if0 _ _).trans (teq ((lw_eq (wa2 + wb2) (wa2 + wb2)).mpr hc161)).2) (XS.aload X15.here hx rfl (hb hby at_164) rfl rfl k)) ?_
            show GoW p e below QQ (T15.setTop (mkF m 166 #[.val (.long q1), .second, .val (.long q2), .second, .val (.long q3), .second, .val (.long q4), .second, .val (.int p5), .val (.long (9223372036854775807 : Int64)), .second, .val (.ref b1), .val (.ref b4), .val (.long wa2), .second, .val (.long wb2), .second] [(.ref b4)]))
            obtain ⟨cq16, kq16, qa16, qb16, qc16⟩ := isOf hZ hh15 f14_E_b4
            obtain ⟨_, _, ⟨T16, zL16, zk16, zn16⟩, -, X16, ⟨Lc16, hQ16, zl16, zy16, zz16⟩, st16⟩ := X15.virtualBack hx (y := (⟨"com/example/evenkeel/evenkeel/ResultChecksum", "bits", "()J"⟩ : MethodName)) (z := (⟨"com/example/evenkeel/evenkeel/ResultChecksum", "bits", "()J"⟩ : MethodName)) hown (mvT hZ (hw _ (List.mem_of_getElem? (i := 17) rfl))) (mvT hZ (hw _ (List.mem_of_getElem? (i := 18) rfl))) (notFace_of_selects (args := #[]) (mvT hZ (hw _ (List.mem_of_getElem? (i := 20) rfl)))) (mvT hZ (hw _ (List.mem_of_getElem? (i := 20) rfl))) (mvT hZ (hw _ (List.mem_of_getElem? (i := 19) rfl))) (by decide) (backOf (W := 0) (rm4 l Z a0 hw [] b4 wb2 T13.heap n0 (Nat.le_trans Z0 K13.1) f14_F_b4_sum) hZ (hw _ (List.mem_of_getElem? (i := 21) rfl)) (hw _ (List.mem_of_getElem? (i := 3) rfl)) (by decide) (by decide)) qa16 qc16 (g := (mkF m 166 #[.val (.long q1), .second, .val (.long q2), .second, .val (.long q3), .second, .val (.long q4), .second, .val (.int p5), .val (.long (9223372036854775807 : Int64)), .second, .val (.ref b1), .val (.ref b4), .val (.long wa2), .second, .val (.long wb2), .second] [(.ref b4)])) rfl (by rw [hml]; rfl) (Steps.refl _) (argsL := []) (rest := []) (lenOf pd_1 rfl) rfl (by show 2 * 0 + _ ≤ _; exact Nat.le_of_eq rfl) (hb hby at_166) (fun _ _ => ⟨rfl, hh15, (by decide : 2 + 0 ≤ _), (by decide : 2 + 0 ≤ _)⟩)
            dsimp only [Pt.U, Pt.locs, Pt.cells, Pt.slots] at X16 zl16 zy16 zz16 st16 hQ16
            subst zl16 zy16 zz16
            obtain ⟨rfl, Nq16, hh16⟩ := hQ16
            have N16 := Fr.app N15 Nq16
            refine GoW.st (fun t k => st16.trans k) ?_
            show GoW p e below QQ (T16.setTop (mkF m 169 #[.val (.long q1), .second, .val (.long q2), .second, .val (.long q3), .second, .val (.long q4), .second, .val (.int p5), .val (.long (9223372036854775807 : Int64)), .second, .val (.ref b1), .val (.ref b4), .val (.long wa2), .second, .val (.long wb2), .second] [(.long wb2)]))
            refine GoW.st (fun t k => XS.lload X16.here hx rfl (hb hby at_169) rfl (XS.lcmp X16.here hx rfl (hb hby at_171) rfl k)) ?_
            show GoW p e below QQ (T16.setTop (mkF m 172 #[.val (.long q1), .second, .val (.long q2), .second, .val (.long q3), .second, .val (.long q4), .second, .val (.int p5), .val (.long (9223372036854775807 : Int64)), .second, .val (.ref b1), .val (.ref b4), .val (.long wa2), .second, .val (.long wb2), .second] [(.int (lcmpW wb2 wb2))]))
            have hc172 : wb2 = wb2 := by
              rfl
            refine GoW.st (fun t k => XS.ifNo X16.here hx rfl (hb hby at_172) rfl ((if0 _ _).trans (teq ((lw_eq wb2 wb2).mpr hc172)).2) (XS.iconst X16.here hx rfl (hb hby at_175) (XS.goto X16.here hx rfl (pc0 := 176) (pc' := 180) rfl (hb hby at_176) (by decide) (by decide) k))) ?_
            show GoW p e below QQ (T16.setTop (mkF m 180 #[.val (.long q1), .second, .val (.long q2), .second, .val (.long q3), .second, .val (.long q4), .second, .val (.int p5), .val (.long (9223372036854775807 : Int64)), .second, .val (.ref b1), .val (.ref b4), .val (.long wa2), .second, .val (.long wb2), .second] [(.int (1 : Int32))]))
            exact GoW.fin X16 (some (.int (nar .boolean (1 : Int32)))) (fun q => by rw [hret] at q; cases q) hlk hQ hh16 ⟨rfl, N16⟩ (by decide) (by decide) (fun fs hr => retN X16 hx (t := .boolean) hret (by simp) (hb hby at_180) hr)
          · skip
            refine GoW.st (fun t k => XS.ifNo X12.here hx rfl (hb hby at_113) rfl ((if0 _ _).trans (feq hc113).1) (XS.aload X12.here hx rfl (hb hby at_116) rfl rfl (XS.aload X12.here hx rfl (hb hby at_118) rfl rfl k))) ?_
            show GoW p e below QQ (T12.setTop (mkF m 120 #[.val (.long q1), .second, .val (.long q2), .second, .val (.long q3), .second, .val (.long q4), .second, .val (.int p5), .val (.long (9223372036854775807 : Int64)), .second, .val (.ref b1), .val (.ref b4), .val (.long wa2), .second, .val (.long wb2), .second] [(.ref b1), (.ref b1)]))
            obtain ⟨cq17, kq17, qa17, qb17, qc17⟩ := isOf hZ hh12 fJ10_1
            obtain ⟨_, _, ⟨T17, zL17, zk17, zn17⟩, -, X17, ⟨Lc17, hQ17, zl17, zy17, zz17⟩, st17⟩ := X12.virtualBack hx (y := (⟨"com/example/evenkeel/evenkeel/ResultChecksum", "addAll", "(Lcom/example/evenkeel/evenkeel/ResultChecksum;)V"⟩ : MethodName)) (z := (⟨"com/example/evenkeel/evenkeel/ResultChecksum", "addAll", "(Lcom/example/evenkeel/evenkeel/ResultChecksum;)V"⟩ : MethodName)) hown (mvT hZ (hw _ (List.mem_of_getElem? (i := 22) rfl))) (mvT hZ (hw _ (List.mem_of_getElem? (i := 23) rfl))) (notFace_of_selects (args := #[]) (mvT hZ (hw _ (List.mem_of_getElem? (i := 25) rfl)))) (mvT hZ (hw _ (List.mem_of_getElem? (i := 25) rfl))) (mvT hZ (hw _ (List.mem_of_getElem? (i := 24) rfl))) (by decide) (backOf (W := 0) (rm5s l Z a0 hw [] b1 wa2 hJ10 n0 (Nat.le_trans Z0 KJ10.1) fJ10_1 fJ10_2 gg1) hZ (hw _ (List.mem_of_getElem? (i := 26) rfl)) (hw _ (List.mem_of_getElem? (i := 3) rfl)) (by decide) (by decide)) qa17 qc17 (g := (mkF m 120 #[.val (.long q1), .second, .val (.long q2), .second, .val (.long q3), .second, .val (.long q4), .second, .val (.int p5), .val (.long (9223372036854775807 : Int64)), .second, .val (.ref b1), .val (.ref b4), .val (.long wa2), .second, .val (.long wb2), .second] [(.ref b1), (.ref b1)])) rfl (by rw [hml]; rfl) (Steps.refl _) (argsL := [(.ref b1)]) (rest := []) (lenOf pd_2 rfl) rfl (by show 2 * 0 + _ ≤ _; exact Nat.le_of_eq rfl) (hb hby at_120) (fun _ _ => ⟨rfl, hh12, (by decide : 2 + 0 ≤ _), (by decide : 2 + 0 ≤ _)⟩)
            dsimp only [Pt.U, Pt.locs, Pt.cells, Pt.slots] at X17 zl17 zy17 zz17 st17 hQ17
            subst zl17 zy17 zz17
            obtain ⟨rfl, Nq17, Kq17, p17_0, p17_1⟩ := hQ17
            have N17 := Fr.app N12 Nq17
            refine GoW.st (fun t k => st17.trans k) ?_
            have f18_E_b4 : Exa Z T17.heap b4 "com/example/evenkeel/evenkeel/ResultChecksum" := fJ10_4.keep Kq17
            have f18_F_b4_sum : Fld Z T17.heap b4 "com/example/evenkeel/evenkeel/ResultChecksum" "sum" "J" (.long wb2) := fJ10_5.keep Kq17 (ninS (Ne.symm ne4_b1) nin0)
            have K17 : Keep h0 T17.heap [] := KJ10.trans Kq17 (allS (Or.inr sz1) all0)
            show GoW p e below QQ (T17.setTop (mkF m 123 #[.val (.long q1), .second, .val (.long q2), .second, .val (.long q3), .second, .val (.long q4), .second, .val (.int p5), .val (.long (9223372036854775807 : Int64)), .second, .val (.ref b1), .val (.ref b4), .val (.long wa2), .second, .val (.long wb2), .second] []))
            refine GoW.st (fun t k => XS.aload X17.here hx rfl (hb hby at_123) rfl rfl k) ?_
            show GoW p e below QQ (T17.setTop (mkF m 125 #[.val (.long q1), .second, .val (.long q2), .second, .val (.long q3), .second, .val (.long q4), .second, .val (.int p5), .val (.long (9223372036854775807 : Int64)), .second, .val (.ref b1), .val (.ref b4), .val (.long wa2), .second, .val (.long wb2), .second] [(.ref b1)]))
            obtain ⟨cq19, kq19, qa19, qb19, qc19⟩ := isOf hZ rfl p17_0
            obtain ⟨_, _, ⟨T19, zL19, zk19, zn19⟩, -, X19, ⟨Lc19, hQ19, zl19, zy19, zz19⟩, st19⟩ := X17.virtualBack hx (y := (⟨"com/example/evenkeel/evenkeel/ResultChecksum", "bits", "()J"⟩ : MethodName)) (z := (⟨"com/example/evenkeel/evenkeel/ResultChecksum", "bits", "()J"⟩ : MethodName)) hown (mvT hZ (hw _ (List.mem_of_getElem? (i := 17) rfl))) (mvT hZ (hw _ (List.mem_of_getElem? (i := 18) rfl))) (notFace_of_selects (args := #[]) (mvT hZ (hw _ (List.mem_of_getElem? (i := 20) rfl)))) (mvT hZ (hw _ (List.mem_of_getElem? (i := 20) rfl))) (mvT hZ (hw _ (List.mem_of_getElem? (i := 19) rfl))) (by decide) (backOf (W := 0) (rm4 l Z a0 hw [] b1 (wa2 + wa2) T17.heap n0 (Nat.le_trans Z0 K17.1) p17_1) hZ (hw _ (List.mem_of_getElem? (i := 21) rfl)) (hw _ (List.mem_of_getElem? (i := 3) rfl)) (by decide) (by decide)) qa19 qc19 (g := (mkF m 125 #[.val (.long q1), .second, .val (.long q2), .second, .val (.long q3), .second, .val (.long q4), .second, .val (.int p5), .val (.long (9223372036854775807 : Int64)), .second, .val (.ref b1), .val (.ref b4), .val (.long wa2), .second, .val (.long wb2), .second] [(.ref b1)])) rfl (by rw [hml]; rfl) (Steps.refl _) (argsL := []) (rest := []) (lenOf pd_1 rfl) rfl (by show 2 * 0 + _ ≤ _; exact Nat.le_of_eq rfl) (hb hby at_125) (fun _ _ => ⟨rfl, rfl, (by decide : 2 + 0 ≤ _), (by decide : 2 + 0 ≤ _)⟩)
            dsimp only [Pt.U, Pt.locs, Pt.cells, Pt.slots] at X19 zl19 zy19 zz19 st19 hQ19
            subst zl19 zy19 zz19
            obtain ⟨rfl, Nq19, hh19⟩ := hQ19
            have N19 := Fr.app N17 Nq19
            refine GoW.st (fun t k => st19.trans k) ?_
            show GoW p e below QQ (T19.setTop (mkF m 128 #[.val (.long q1), .second, .val (.long q2), .second, .val (.long q3), .second, .val (.long q4), .second, .val (.int p5), .val (.long (9223372036854775807 : Int64)), .second, .val (.ref b1), .val (.ref b4), .val (.long wa2), .second, .val (.long wb2), .second] [(.long (wa2 + wa2))]))
            refine GoW.st (fun t k => XS.lload X19.here hx rfl (hb hby at_128) rfl (XS.lload X19.here hx rfl (hb hby at_130) rfl (XS.ladd X19.here hx rfl (hb hby at_132) rfl (XS.lcmp X19.here hx rfl (hb hby at_133) rfl k)))) ?_
            show GoW p e below QQ (T19.setTop (mkF m 134 #[.val (.long q1), .second, .val (.long q2), .second, .val (.long q3), .second, .val (.long q4), .second, .val (.int p5), .val (.long (9223372036854775807 : Int64)), .second, .val (.ref b1), .val (.ref b4), .val (.long wa2), .second, .val (.long wb2), .second] [(.int (lcmpW (wa2 + wa2) (wa2 + wa2)))]))
            have hc134 : (wa2 + wa2) = (wa2 + wa2) := by
              rfl
            refine GoW.st (fun t k => XS.ifNo X19.here hx rfl (hb hby at_134) rfl ((if0 _ _).trans (teq ((lw_eq (wa2 + wa2) (wa2 + wa2)).mpr hc134)).2) (XS.iconst X19.here hx rfl (hb hby at_137) (XS.goto X19.here hx rfl (pc0 := 138) (pc' := 142) rfl (hb hby at_138) (by decide) (by decide) k))) ?_
            show GoW p e below QQ (T19.setTop (mkF m 142 #[.val (.long q1), .second, .val (.long q2), .second, .val (.long q3), .second, .val (.long q4), .second, .val (.int p5), .val (.long (9223372036854775807 : Int64)), .second, .val (.ref b1), .val (.ref b4), .val (.long wa2), .second, .val (.long wb2), .second] [(.int (1 : Int32))]))
            exact GoW.fin X19 (some (.int (nar .boolean (1 : Int32)))) (fun q => by rw [hret] at q; cases q) hlk hQ hh19 ⟨rfl, N19⟩ (by decide) (by decide) (fun fs hr => retN X19 hx (t := .boolean) hret (by simp) (hb hby at_142) hr)
        refine GoW.st (fun t k => XS.iload XJ9.here hx rfl (hb hby at_75) rfl (XS.bipush XJ9.here hx rfl (hb hby at_77) (XS.iand XJ9.here hx rfl (hb hby at_79) rfl k))) ?_
        show GoW p e below QQ (TJ9.setTop (mkF m 80 #[.val (.long q1), .second, .val (.long q2), .second, .val (.long q3), .second, .val (.long q4), .second, .val (.int p5), .val (.long (9223372036854775807 : Int64)), .second, .val (.ref b1), .val (.ref b4), .unset, .unset, .unset, .unset] [(.int (p5 &&& (8 : Int32)))]))
        by_cases hc80 : (p5 &&& (8 : Int32)) = (0 : Int32)
        · skip
          refine GoW.st (fun t k => XS.ifYes XJ9.here hx rfl (pc0 := 80) (pc' := 94) rfl (hb hby at_80) rfl ((if0 _ _).trans (teq hc80).1) (by decide) (by decide) k) ?_
          show GoW p e below QQ (TJ9.setTop (mkF m 94 #[.val (.long q1), .second, .val (.long q2), .second, .val (.long q3), .second, .val (.long q4), .second, .val (.int p5), .val (.long (9223372036854775807 : Int64)), .second, .val (.ref b1), .val (.ref b4), .unset, .unset, .unset, .unset] []))
          exact J94_10 _ _ _ wb1 XJ9 eJ9 NJ9 KJ9 fJ9_1 fJ9_2 fJ9_4 fJ9_5 
        · skip
          refine GoW.st (fun t k => XS.ifNo XJ9.here hx rfl (hb hby at_80) rfl ((if0 _ _).trans (feq hc80).1) (XS.aload XJ9.here hx rfl (hb hby at_83) rfl rfl (XS.lload XJ9.here hx rfl (hb hby at_85) rfl (XS.lload XJ9.here hx rfl (hb hby at_87) rfl (XS.land XJ9.here hx rfl (hb hby at_89) rfl (XS.lconst XJ9.here hx rfl (hb hby at_90) k)))))) ?_
          show GoW p e below QQ (TJ9.setTop (mkF m 91 #[.val (.long q1), .second, .val (.long q2), .second, .val (.long q3), .second, .val (.long q4), .second, .val (.int p5), .val (.long (9223372036854775807 : Int64)), .second, .val (.ref b1), .val (.ref b4), .unset, .unset, .unset, .unset] [(.long (0 : Int64)), (.long (q4 &&& (9223372036854775807 : Int64))), (.ref b4)]))
          obtain ⟨cq20, kq20, qa20, qb20, qc20⟩ := isOf hZ eJ9 fJ9_4
          obtain ⟨_, _, ⟨T20, zL20, zk20, zn20⟩, -, X20, ⟨Lc20, hQ20, zl20, zy20, zz20⟩, st20⟩ := XJ9.virtualBack hx (y := (⟨"com/example/evenkeel/evenkeel/ResultChecksum", "add", "(JJ)V"⟩ : MethodName)) (z := (⟨"com/example/evenkeel/evenkeel/ResultChecksum", "add", "(JJ)V"⟩ : MethodName)) hown (mvT hZ (hw _ (List.mem_of_getElem? (i := 10) rfl))) (mvT hZ (hw _ (List.mem_of_getElem? (i := 11) rfl))) (notFace_of_selects (args := #[]) (mvT hZ (hw _ (List.mem_of_getElem? (i := 13) rfl)))) (mvT hZ (hw _ (List.mem_of_getElem? (i := 13) rfl))) (mvT hZ (hw _ (List.mem_of_getElem? (i := 12) rfl))) (by decide) (backOf (W := 0) (rm3 l Z a0 hw [] b4 (q4 &&& (9223372036854775807 : Int64)) (0 : Int64) wb1 hJ9 n0 (Nat.le_trans Z0 KJ9.1) fJ9_4 fJ9_5 gg4 (own_pos _) (by decide)) hZ (hw _ (List.mem_of_getElem? (i := 14) rfl)) (hw _ (List.mem_of_getElem? (i := 3) rfl)) (by decide) (by decide)) qa20 qc20 (g := (mkF m 91 #[.val (.long q1), .second, .val (.long q2), .second, .val (.long q3), .second, .val (.long q4), .second, .val (.int p5), .val (.long (9223372036854775807 : Int64)), .second, .val (.ref b1), .val (.ref b4), .unset, .unset, .unset, .unset] [(.long (0 : Int64)), (.long (q4 &&& (9223372036854775807 : Int64))), (.ref b4)])) rfl (by rw [hml]; rfl) (Steps.refl _) (argsL := [(.long (q4 &&& (9223372036854775807 : Int64))), (.long (0 : Int64))]) (rest := []) (lenOf pd_3 rfl) rfl (by show 2 * 0 + _ ≤ _; exact Nat.le_of_eq rfl) (hb hby at_91) (fun _ _ => ⟨rfl, eJ9, (by decide : 2 + 0 ≤ _), (by decide : 2 + 0 ≤ _)⟩)
          dsimp only [Pt.U, Pt.locs, Pt.cells, Pt.slots] at X20 zl20 zy20 zz20 st20 hQ20
          subst zl20 zy20 zz20
          obtain ⟨rfl, Nq20, Kq20, p20_0, p20_1⟩ := hQ20
          have N20 := Fr.app NJ9 Nq20
          refine GoW.st (fun t k => st20.trans k) ?_
          have f21_E_b1 : Exa Z T20.heap b1 "com/example/evenkeel/evenkeel/ResultChecksum" := fJ9_1.keep Kq20
          have f21_F_b1_sum : Fld Z T20.heap b1 "com/example/evenkeel/evenkeel/ResultChecksum" "sum" "J" (.long wa2) := fJ9_2.keep Kq20 (ninS ne4_b1 nin0)
          have K20 : Keep h0 T20.heap [] := KJ9.trans Kq20 (allS (Or.inr sz4) all0)
          show GoW p e below QQ (T20.setTop (mkF m 94 #[.val (.long q1), .second, .val (.long q2), .second, .val (.long q3), .second, .val (.long q4), .second, .val (.int p5), .val (.long (9223372036854775807 : Int64)), .second, .val (.ref b1), .val (.ref b4), .unset, .unset, .unset, .unset] []))
          exact J94_10 _ _ _ (wb1 + (((q4 &&& (9223372036854775807 : Int64)) + (1 : Int64)) * ((0 : Int64) + (1 : Int64)))) X20 rfl N20 K20 f21_E_b1 f21_F_b1_sum p20_0 p20_1 
      refine GoW.st (fun t k => XS.iload XJ8.here hx rfl (hb hby at_57) rfl (XS.iconst XJ8.here hx rfl (hb hby at_59) (XS.iand XJ8.here hx rfl (hb hby at_60) rfl k))) ?_
      show GoW p e below QQ (TJ8.setTop (mkF m 61 #[.val (.long q1), .second, .val (.long q2), .second, .val (.long q3), .second, .val (.long q4), .second, .val (.int p5), .val (.long (9223372036854775807 : Int64)), .second, .val (.ref b1), .val (.ref b4), .unset, .unset, .unset, .unset] [(.int (p5 &&& (4 : Int32)))]))
      by_cases hc61 : (p5 &&& (4 : Int32)) = (0 : Int32)
      · skip
        refine GoW.st (fun t k => XS.ifYes XJ8.here hx rfl (pc0 := 61) (pc' := 75) rfl (hb hby at_61) rfl ((if0 _ _).trans (teq hc61).1) (by decide) (by decide) k) ?_
        show GoW p e below QQ (TJ8.setTop (mkF m 75 #[.val (.long q1), .second, .val (.long q2), .second, .val (.long q3), .second, .val (.long q4), .second, .val (.int p5), .val (.long (9223372036854775807 : Int64)), .second, .val (.ref b1), .val (.ref b4), .unset, .unset, .unset, .unset] []))
        exact J75_9 _ _ _ (0 : Int64) XJ8 eJ8 NJ8 KJ8 fJ8_1 fJ8_2 fJ8_4 fJ8_5 
      · skip
        refine GoW.st (fun t k => XS.ifNo XJ8.here hx rfl (hb hby at_61) rfl ((if0 _ _).trans (feq hc61).1) (XS.aload XJ8.here hx rfl (hb hby at_64) rfl rfl (XS.lload XJ8.here hx rfl (hb hby at_66) rfl (XS.lload XJ8.here hx rfl (hb hby at_68) rfl (XS.land XJ8.here hx rfl (hb hby at_70) rfl (XS.lconst XJ8.here hx rfl (hb hby at_71) k)))))) ?_
        show GoW p e below QQ (TJ8.setTop (mkF m 72 #[.val (.long q1), .second, .val (.long q2), .second, .val (.long q3), .second, .val (.long q4), .second, .val (.int p5), .val (.long (9223372036854775807 : Int64)), .second, .val (.ref b1), .val (.ref b4), .unset, .unset, .unset, .unset] [(.long (0 : Int64)), (.long (q3 &&& (9223372036854775807 : Int64))), (.ref b4)]))
        obtain ⟨cq22, kq22, qa22, qb22, qc22⟩ := isOf hZ eJ8 fJ8_4
        obtain ⟨_, _, ⟨T22, zL22, zk22, zn22⟩, -, X22, ⟨Lc22, hQ22, zl22, zy22, zz22⟩, st22⟩ := XJ8.virtualBack hx (y := (⟨"com/example/evenkeel/evenkeel/ResultChecksum", "add", "(JJ)V"⟩ : MethodName)) (z := (⟨"com/example/evenkeel/evenkeel/ResultChecksum", "add", "(JJ)V"⟩ : MethodName)) hown (mvT hZ (hw _ (List.mem_of_getElem? (i := 10) rfl))) (mvT hZ (hw _ (List.mem_of_getElem? (i := 11) rfl))) (notFace_of_selects (args := #[]) (mvT hZ (hw _ (List.mem_of_getElem? (i := 13) rfl)))) (mvT hZ (hw _ (List.mem_of_getElem? (i := 13) rfl))) (mvT hZ (hw _ (List.mem_of_getElem? (i := 12) rfl))) (by decide) (backOf (W := 0) (rm3 l Z a0 hw [] b4 (q3 &&& (9223372036854775807 : Int64)) (0 : Int64) (0 : Int64) hJ8 n0 (Nat.le_trans Z0 KJ8.1) fJ8_4 fJ8_5 gg4 (own_pos _) (by decide)) hZ (hw _ (List.mem_of_getElem? (i := 14) rfl)) (hw _ (List.mem_of_getElem? (i := 3) rfl)) (by decide) (by decide)) qa22 qc22 (g := (mkF m 72 #[.val (.long q1), .second, .val (.long q2), .second, .val (.long q3), .second, .val (.long q4), .second, .val (.int p5), .val (.long (9223372036854775807 : Int64)), .second, .val (.ref b1), .val (.ref b4), .unset, .unset, .unset, .unset] [(.long (0 : Int64)), (.long (q3 &&& (9223372036854775807 : Int64))), (.ref b4)])) rfl (by rw [hml]; rfl) (Steps.refl _) (argsL := [(.long (q3 &&& (9223372036854775807 : Int64))), (.long (0 : Int64))]) (rest := []) (lenOf pd_3 rfl) rfl (by show 2 * 0 + _ ≤ _; exact Nat.le_of_eq rfl) (hb hby at_72) (fun _ _ => ⟨rfl, eJ8, (by decide : 2 + 0 ≤ _), (by decide : 2 + 0 ≤ _)⟩)
        dsimp only [Pt.U, Pt.locs, Pt.cells, Pt.slots] at X22 zl22 zy22 zz22 st22 hQ22
        subst zl22 zy22 zz22
        obtain ⟨rfl, Nq22, Kq22, p22_0, p22_1⟩ := hQ22
        have N22 := Fr.app NJ8 Nq22
        refine GoW.st (fun t k => st22.trans k) ?_
        have f23_E_b1 : Exa Z T22.heap b1 "com/example/evenkeel/evenkeel/ResultChecksum" := fJ8_1.keep Kq22
        have f23_F_b1_sum : Fld Z T22.heap b1 "com/example/evenkeel/evenkeel/ResultChecksum" "sum" "J" (.long wa2) := fJ8_2.keep Kq22 (ninS ne4_b1 nin0)
        have K22 : Keep h0 T22.heap [] := KJ8.trans Kq22 (allS (Or.inr sz4) all0)
        show GoW p e below QQ (T22.setTop (mkF m 75 #[.val (.long q1), .second, .val (.long q2), .second, .val (.long q3), .second, .val (.long q4), .second, .val (.int p5), .val (.long (9223372036854775807 : Int64)), .second, .val (.ref b1), .val (.ref b4), .unset, .unset, .unset, .unset] []))
        exact J75_9 _ _ _ ((0 : Int64) + (((q3 &&& (9223372036854775807 : Int64)) + (1 : Int64)) * ((0 : Int64) + (1 : Int64)))) X22 rfl N22 K22 f23_E_b1 f23_F_b1_sum p22_0 p22_1 
    refine GoW.st (fun t k => XS.iload XJ7.here hx rfl (hb hby at_40) rfl (XS.iconst XJ7.here hx rfl (hb hby at_42) (XS.iand XJ7.here hx rfl (hb hby at_43) rfl k))) ?_
    show GoW p e below QQ (TJ7.setTop (mkF m 44 #[.val (.long q1), .second, .val (.long q2), .second, .val (.long q3), .second, .val (.long q4), .second, .val (.int p5), .val (.long (9223372036854775807 : Int64)), .second, .val (.ref b1), .val (.ref b4), .unset, .unset, .unset, .unset] [(.int (p5 &&& (2 : Int32)))]))
    by_cases hc44 : (p5 &&& (2 : Int32)) = (0 : Int32)
    · skip
      refine GoW.st (fun t k => XS.ifYes XJ7.here hx rfl (pc0 := 44) (pc' := 57) rfl (hb hby at_44) rfl ((if0 _ _).trans (teq hc44).1) (by decide) (by decide) k) ?_
      show GoW p e below QQ (TJ7.setTop (mkF m 57 #[.val (.long q1), .second, .val (.long q2), .second, .val (.long q3), .second, .val (.long q4), .second, .val (.int p5), .val (.long (9223372036854775807 : Int64)), .second, .val (.ref b1), .val (.ref b4), .unset, .unset, .unset, .unset] []))
      exact J57_8 _ _ _ wa1 XJ7 eJ7 NJ7 KJ7 fJ7_1 fJ7_2 fJ7_4 fJ7_5 
    · skip
      refine GoW.st (fun t k => XS.ifNo XJ7.here hx rfl (hb hby at_44) rfl ((if0 _ _).trans (feq hc44).1) (XS.aload XJ7.here hx rfl (hb hby at_47) rfl rfl (XS.lloadN XJ7.here hx rfl (hb hby at_49) rfl (XS.lload XJ7.here hx rfl (hb hby at_50) rfl (XS.land XJ7.here hx rfl (hb hby at_52) rfl (XS.lconst XJ7.here hx rfl (hb hby at_53) k)))))) ?_
      show GoW p e below QQ (TJ7.setTop (mkF m 54 #[.val (.long q1), .second, .val (.long q2), .second, .val (.long q3), .second, .val (.long q4), .second, .val (.int p5), .val (.long (9223372036854775807 : Int64)), .second, .val (.ref b1), .val (.ref b4), .unset, .unset, .unset, .unset] [(.long (0 : Int64)), (.long (q2 &&& (9223372036854775807 : Int64))), (.ref b1)]))
      obtain ⟨cq24, kq24, qa24, qb24, qc24⟩ := isOf hZ eJ7 fJ7_1
      obtain ⟨_, _, ⟨T24, zL24, zk24, zn24⟩, -, X24, ⟨Lc24, hQ24, zl24, zy24, zz24⟩, st24⟩ := XJ7.virtualBack hx (y := (⟨"com/example/evenkeel/evenkeel/ResultChecksum", "add", "(JJ)V"⟩ : MethodName)) (z := (⟨"com/example/evenkeel/evenkeel/ResultChecksum", "add", "(JJ)V"⟩ : MethodName)) hown (mvT hZ (hw _ (List.mem_of_getElem? (i := 10) rfl))) (mvT hZ (hw _ (List.mem_of_getElem? (i := 11) rfl))) (notFace_of_selects (args := #[]) (mvT hZ (hw _ (List.mem_of_getElem? (i := 13) rfl)))) (mvT hZ (hw _ (List.mem_of_getElem? (i := 13) rfl))) (mvT hZ (hw _ (List.mem_of_getElem? (i := 12) rfl))) (by decide) (backOf (W := 0) (rm3 l Z a0 hw [] b1 (q2 &&& (9223372036854775807 : Int64)) (0 : Int64) wa1 hJ7 n0 (Nat.le_trans Z0 KJ7.1) fJ7_1 fJ7_2 gg1 (own_pos _) (by decide)) hZ (hw _ (List.mem_of_getElem? (i := 14) rfl)) (hw _ (List.mem_of_getElem? (i := 3) rfl)) (by decide) (by decide)) qa24 qc24 (g := (mkF m 54 #[.val (.long q1), .second, .val (.long q2), .second, .val (.long q3), .second, .val (.long q4), .second, .val (.int p5), .val (.long (9223372036854775807 : Int64)), .second, .val (.ref b1), .val (.ref b4), .unset, .unset, .unset, .unset] [(.long (0 : Int64)), (.long (q2 &&& (9223372036854775807 : Int64))), (.ref b1)])) rfl (by rw [hml]; rfl) (Steps.refl _) (argsL := [(.long (q2 &&& (9223372036854775807 : Int64))), (.long (0 : Int64))]) (rest := []) (lenOf pd_3 rfl) rfl (by show 2 * 0 + _ ≤ _; exact Nat.le_of_eq rfl) (hb hby at_54) (fun _ _ => ⟨rfl, eJ7, (by decide : 2 + 0 ≤ _), (by decide : 2 + 0 ≤ _)⟩)
      dsimp only [Pt.U, Pt.locs, Pt.cells, Pt.slots] at X24 zl24 zy24 zz24 st24 hQ24
      subst zl24 zy24 zz24
      obtain ⟨rfl, Nq24, Kq24, p24_0, p24_1⟩ := hQ24
      have N24 := Fr.app NJ7 Nq24
      refine GoW.st (fun t k => st24.trans k) ?_
      have f25_E_b4 : Exa Z T24.heap b4 "com/example/evenkeel/evenkeel/ResultChecksum" := fJ7_4.keep Kq24
      have f25_F_b4_sum : Fld Z T24.heap b4 "com/example/evenkeel/evenkeel/ResultChecksum" "sum" "J" (.long (0 : Int64)) := fJ7_5.keep Kq24 (ninS (Ne.symm ne4_b1) nin0)
      have K24 : Keep h0 T24.heap [] := KJ7.trans Kq24 (allS (Or.inr sz1) all0)
      show GoW p e below QQ (T24.setTop (mkF m 57 #[.val (.long q1), .second, .val (.long q2), .second, .val (.long q3), .second, .val (.long q4), .second, .val (.int p5), .val (.long (9223372036854775807 : Int64)), .second, .val (.ref b1), .val (.ref b4), .unset, .unset, .unset, .unset] []))
      exact J57_8 _ _ _ (wa1 + (((q2 &&& (9223372036854775807 : Int64)) + (1 : Int64)) * ((0 : Int64) + (1 : Int64)))) X24 rfl N24 K24 p24_0 p24_1 f25_E_b4 f25_F_b4_sum 
  refine GoW.st (fun t k => XS.iload X6.here hx rfl (hb hby at_23) rfl (XS.iconst X6.here hx rfl (hb hby at_25) (XS.iand X6.here hx rfl (hb hby at_26) rfl k))) ?_
  show GoW p e below QQ (T6.setTop (mkF m 27 #[.val (.long q1), .second, .val (.long q2), .second, .val (.long q3), .second, .val (.long q4), .second, .val (.int p5), .val (.long (9223372036854775807 : Int64)), .second, .val (.ref b1), .val (.ref b4), .unset, .unset, .unset, .unset] [(.int (p5 &&& (1 : Int32)))]))
  by_cases hc27 : (p5 &&& (1 : Int32)) = (0 : Int32)
  · skip
    refine GoW.st (fun t k => XS.ifYes X6.here hx rfl (pc0 := 27) (pc' := 40) rfl (hb hby at_27) rfl ((if0 _ _).trans (teq hc27).1) (by decide) (by decide) k) ?_
    show GoW p e below QQ (T6.setTop (mkF m 40 #[.val (.long q1), .second, .val (.long q2), .second, .val (.long q3), .second, .val (.long q4), .second, .val (.int p5), .val (.long (9223372036854775807 : Int64)), .second, .val (.ref b1), .val (.ref b4), .unset, .unset, .unset, .unset] []))
    exact J40_7 _ _ _ (0 : Int64) X6 hh6 N6 K4 f5_E_b1 f5_F_b1_sum A4 F4_sum 
  · skip
    refine GoW.st (fun t k => XS.ifNo X6.here hx rfl (hb hby at_27) rfl ((if0 _ _).trans (feq hc27).1) (XS.aload X6.here hx rfl (hb hby at_30) rfl rfl (XS.lloadN X6.here hx rfl (hb hby at_32) rfl (XS.lload X6.here hx rfl (hb hby at_33) rfl (XS.land X6.here hx rfl (hb hby at_35) rfl (XS.lconst X6.here hx rfl (hb hby at_36) k)))))) ?_
    show GoW p e below QQ (T6.setTop (mkF m 37 #[.val (.long q1), .second, .val (.long q2), .second, .val (.long q3), .second, .val (.long q4), .second, .val (.int p5), .val (.long (9223372036854775807 : Int64)), .second, .val (.ref b1), .val (.ref b4), .unset, .unset, .unset, .unset] [(.long (0 : Int64)), (.long (q1 &&& (9223372036854775807 : Int64))), (.ref b1)]))
    obtain ⟨cq26, kq26, qa26, qb26, qc26⟩ := isOf hZ hh6 f5_E_b1
    obtain ⟨_, _, ⟨T26, zL26, zk26, zn26⟩, -, X26, ⟨Lc26, hQ26, zl26, zy26, zz26⟩, st26⟩ := X6.virtualBack hx (y := (⟨"com/example/evenkeel/evenkeel/ResultChecksum", "add", "(JJ)V"⟩ : MethodName)) (z := (⟨"com/example/evenkeel/evenkeel/ResultChecksum", "add", "(JJ)V"⟩ : MethodName)) hown (mvT hZ (hw _ (List.mem_of_getElem? (i := 10) rfl))) (mvT hZ (hw _ (List.mem_of_getElem? (i := 11) rfl))) (notFace_of_selects (args := #[]) (mvT hZ (hw _ (List.mem_of_getElem? (i := 13) rfl)))) (mvT hZ (hw _ (List.mem_of_getElem? (i := 13) rfl))) (mvT hZ (hw _ (List.mem_of_getElem? (i := 12) rfl))) (by decide) (backOf (W := 0) (rm3 l Z a0 hw [] b1 (q1 &&& (9223372036854775807 : Int64)) (0 : Int64) (0 : Int64) h4 n0 (Nat.le_trans Z0 K4.1) f5_E_b1 f5_F_b1_sum gg1 (own_pos _) (by decide)) hZ (hw _ (List.mem_of_getElem? (i := 14) rfl)) (hw _ (List.mem_of_getElem? (i := 3) rfl)) (by decide) (by decide)) qa26 qc26 (g := (mkF m 37 #[.val (.long q1), .second, .val (.long q2), .second, .val (.long q3), .second, .val (.long q4), .second, .val (.int p5), .val (.long (9223372036854775807 : Int64)), .second, .val (.ref b1), .val (.ref b4), .unset, .unset, .unset, .unset] [(.long (0 : Int64)), (.long (q1 &&& (9223372036854775807 : Int64))), (.ref b1)])) rfl (by rw [hml]; rfl) (Steps.refl _) (argsL := [(.long (q1 &&& (9223372036854775807 : Int64))), (.long (0 : Int64))]) (rest := []) (lenOf pd_3 rfl) rfl (by show 2 * 0 + _ ≤ _; exact Nat.le_of_eq rfl) (hb hby at_37) (fun _ _ => ⟨rfl, hh6, (by decide : 2 + 0 ≤ _), (by decide : 2 + 0 ≤ _)⟩)
    dsimp only [Pt.U, Pt.locs, Pt.cells, Pt.slots] at X26 zl26 zy26 zz26 st26 hQ26
    subst zl26 zy26 zz26
    obtain ⟨rfl, Nq26, Kq26, p26_0, p26_1⟩ := hQ26
    have N26 := Fr.app N6 Nq26
    refine GoW.st (fun t k => st26.trans k) ?_
    have f27_E_b4 : Exa Z T26.heap b4 "com/example/evenkeel/evenkeel/ResultChecksum" := A4.keep Kq26
    have f27_F_b4_sum : Fld Z T26.heap b4 "com/example/evenkeel/evenkeel/ResultChecksum" "sum" "J" (.long (0 : Int64)) := F4_sum.keep Kq26 (ninS (Ne.symm ne4_b1) nin0)
    have K26 : Keep h0 T26.heap [] := K4.trans Kq26 (allS (Or.inr sz1) all0)
    show GoW p e below QQ (T26.setTop (mkF m 40 #[.val (.long q1), .second, .val (.long q2), .second, .val (.long q3), .second, .val (.long q4), .second, .val (.int p5), .val (.long (9223372036854775807 : Int64)), .second, .val (.ref b1), .val (.ref b4), .unset, .unset, .unset, .unset] []))
    exact J40_7 _ _ _ ((0 : Int64) + (((q1 &&& (9223372036854775807 : Int64)) + (1 : Int64)) * ((0 : Int64) + (1 : Int64)))) X26 rfl N26 K26 p26_0 p26_1 f27_E_b4 f27_F_b4_sum 
set_option maxRecDepth 65536 in
set_option maxHeartbeats 40000000 in
theorem comes_1 {Post : Tables → Env → Array Value → State → Outcome → State → Prop} (hpost : ∀ tb e args s v u, (limb_1_1.after args s (.returned v) u = true ∧ limb_1_2.after args s (.returned v) u = true ∧ True) → FrameEnd s (.returned v) u (Jvm.fieldLocs frame_1_writes args s ++ Jvm.arrayLocs frame_1_arrays args s ++ Jvm.staticLocs frame_1_statics s) 16 128 → Post tb e args s (.returned v) u) :
    ArmFor flags0 classFile x code maxLocals ret World_1 tables_1 room_1 Calls_1 rest_1 Pre_1 Post := by
  intro l hfl _ _ p e ha hc hk s m args below hf hA hF happ hP
  obtain ⟨hcalls, hrest, hpre⟩ := hP
  obtain ⟨-, -, -, hnamed, -, -, -, hat⟩ := (Spec.applies_iff hf).mp happ
  obtain ⟨hg, hn⟩ := and_e (Cond.before_iff.mp (show (Jvm.Cond.and given_1 narrow_1).before args s = true from hpre))
  obtain ⟨gcount, gr0⟩ := and_e hg
  obtain ⟨ga0, gr1⟩ := and_e gr0
  obtain ⟨ga1, gr2⟩ := and_e gr1
  obtain ⟨ga2, gr3⟩ := and_e gr2
  obtain ⟨ga3, gr4⟩ := and_e gr3
  obtain ⟨w0, w1, w2, w3, w4, rfl⟩ : ∃ w0 w1 w2 w3 w4 : Value, args = #[w0, w1, w2, w3, w4] := by
    have hs : args.size = 5 := by simpa [Cond.value, given_1] using gcount
    obtain ⟨L⟩ := args
    match L, hs with
    | [w0, w1, w2, w3, w4], _ => exact ⟨w0, w1, w2, w3, w4, rfl⟩
  have hw := fun d (hd : d ∈ tables_1) => atoms_spec (ws := Jvm.Cond.code x code maxLocals ret :: tables_1) hat d (List.mem_cons_of_mem _ hd)
  obtain ⟨i0, ei0⟩ := isL_v ga0
  obtain rfl : w0 = (.long i0) := Option.some.inj ei0
  obtain ⟨i1, ei1⟩ := isL_v ga1
  obtain rfl : w1 = (.long i1) := Option.some.inj ei1
  obtain ⟨i2, ei2⟩ := isL_v ga2
  obtain rfl : w2 = (.long i2) := Option.some.inj ei2
  obtain ⟨i3, ei3⟩ := isL_v ga3
  obtain rfl : w3 = (.long i3) := Option.some.inj ei3
  obtain ⟨i4, ei4⟩ := is_v gr4
  obtain rfl : w4 = (.int i4) := Option.some.inj ei4
  obtain ⟨n, o, h1, h2, h3, _, L, rfl, ⟨rfl, N⟩, hq⟩ := rm0 l s _ hw tables_1 i0 i1 i2 i3 i4 s.heap s.heap.size (Nat.le_refl _) (Nat.le_refl _) p e ha hc hk s m _ below hf ((Spec.applies_iff_loose hf).mp happ).1 ⟨rfl, State.Warmed39.refl s, rfl⟩ trivial
  refine ⟨n, _, h1, h2, h3, hpost _ _ _ _ _ _ ⟨Cond.after_iff.mpr rfl, Cond.after_iff.mpr (eq_i res_at (Term.int_eval (1)) rfl), trivial⟩ ⟨hq.1, hq.2.1, (hq.2.2.sift fun y hy => Or.inr (N y hy)).mono (by decide) (by decide)⟩⟩
theorem main_1_1 : Claimed_1_1 := comes_1 fun _ _ _ _ _ _ h hF => ⟨h.1, hF⟩
theorem main_1_2 : Claimed_1_2 := comes_1 fun _ _ _ _ _ _ h hF => ⟨h.2.1, hF⟩
end Jvm.Pilot.@@N@@
namespace Jvm.Pilot.@@N@@
open Jvm Jvm.ClassFile Sem Op Lib Jvm.Free Jvm.Stand Jvm.Pilot.@@N@@.Jvm.D
/-! MADE BY PROGRAM (witnessworld.py) out of the Statement's table words and the real class files: 9 classes; the members and pool entries that the words name. The judged class is class 1, her method 1. -/
namespace start1
open Jvm.ClassFile
def u (s : String) : CpInfo := .utf8 (stringToUtf16 s)
/-- a pool by its gaps: so many unusable entries, then the entry; so many at the end -/
def gap : Nat → List CpInfo → List CpInfo
  | 0, r => r
  | n + 1, r => .unusable :: gap n r
def poolList (es : List (Nat × CpInfo)) (last : Nat) : List CpInfo := es.foldr (fun e r => gap e.1 (e.2 :: r)) (gap last [])
def pool (es : List (Nat × CpInfo)) (last : Nat) : Array CpInfo := ⟨poolList es last⟩
def fileOf (pool : Array CpInfo) (this : Nat) (attrs : Array Attribute := #[]) (ms : Array MethodInfo := #[]) (fl : Nat := 33) (sup : Nat := 0) (ifs : Array Nat := #[]) (fds : Array FieldInfo := #[]) : ClassFile where
  minorVersion := 0
  majorVersion := 65
  constantPool := pool
  accessFlags := fl
  thisClass := this
  superClass := sup
  interfaces := ifs
  fields := fds
  methods := ms
  attributes := attrs
def plain (name : String) (sup : Option ClassId) : Class where
  name := name
  kind := .ordinary
  loader := none
  accessFlags := 33
  super := sup
  interfaces := #[]
  cf := none
  fields := #[]
  methods := #[]
  instanceTypes := #[]
  staticTypes := #[]
  resolved := #[]
  callSites := []
  init := .initialized
  statics := none
  mirror := none

def pool0 : Array CpInfo := pool [(5, u "<init>"), (0, u "()V"), (1, .class_ 10), (1, u "java/lang/Object")] 113

def k0c0 : Code := { maxStack := 0, maxLocals := 1, code := object_method_1_code, exceptionTable := #[], attributes := #[] }
def k0m0 : Method := { name := "<init>", desc := "()V", sig := { parameters := [], returnType := none }, accessFlags := 1, code := some k0c0 }
/-- java/lang/Object -/
def k0 : Class := { plain "java/lang/Object" none with
  accessFlags := 33
  interfaces := #[]
  cf := some (fileOf pool0 8 #[] #[{ accessFlags := 1, nameIndex := 5, descriptorIndex := 6, attributes := #[] }] 33 0 #[] #[])
  fields := #[]
  methods := #[k0m0]
  instanceTypes := #[]
  staticTypes := #[]
  resolved := Array.replicate 124 none
  statics := none }

def pool1 : Array CpInfo := pool [(2, .class_ 4), (0, .nameAndType 5 6), (0, u "java/lang/Object"), (0, u "<init>"), (0, u "()V"), (2, .long 9223372036854775807), (1, .class_ 12), (0, u "com/example/evenkeel/evenkeel/ResultChecksum"), (0, .methodref 11 3), (0, .methodref 11 15), (0, .nameAndType 16 17), (0, u "add"), (0, u "(JJ)V"), (0, .methodref 11 19), (0, .nameAndType 20 21), (0, u "bits"), (0, u "()J"), (0, .methodref 11 23), (0, .nameAndType 24 25), (0, u "addAll"), (0, u "(Lcom/example/evenkeel/evenkeel/ResultChecksum;)V"), (0, .class_ 27), (0, u "com/example/evenkeel/evenkeel/ResultChecksumAddAllPinLaw"), (2, u "law"), (0, u "(JJJJI)Z")] 3

def k1m0 : Method := { name := "<init>", desc := "()V", sig := { parameters := [], returnType := none }, accessFlags := 1, code := none }
def k1c1 : Code := { maxStack := 6, maxLocals := 17, code := code, exceptionTable := #[], attributes := #[] }
def k1m1 : Method := { name := "law", desc := "(JJJJI)Z", sig := { parameters := [.long, .long, .long, .long, .int], returnType := some .boolean }, accessFlags := 9, code := some k1c1 }
/-- com/example/evenkeel/evenkeel/ResultChecksumAddAllPinLaw -/
def k1 : Class := { plain "com/example/evenkeel/evenkeel/ResultChecksumAddAllPinLaw" (some 0) with
  accessFlags := 49
  interfaces := #[]
  cf := some (fileOf pool1 26 #[] #[{ accessFlags := 1, nameIndex := 5, descriptorIndex := 6, attributes := #[] }, { accessFlags := 9, nameIndex := 30, descriptorIndex := 31, attributes := #[] }] 49 2 #[] #[])
  fields := #[]
  methods := #[k1m0, k1m1]
  instanceTypes := #[]
  staticTypes := #[]
  resolved := Array.replicate 35 none
  statics := none }

def pool2 : Array CpInfo := pool [(1, .methodref 2 3), (0, .class_ 4), (0, .nameAndType 5 6), (0, u "java/lang/Object"), (0, u "<init>"), (0, u "()V"), (9, .fieldref 17 18), (0, .class_ 19), (0, .nameAndType 20 21), (0, u "com/example/evenkeel/evenkeel/ResultChecksum"), (0, u "sum"), (0, u "J"), (8, u "add"), (0, u "(JJ)V"), (1, u "addAll"), (0, u "(Lcom/example/evenkeel/evenkeel/ResultChecksum;)V"), (0, u "bits"), (0, u "()J")] 19

def k2c0 : Code := { maxStack := 1, maxLocals := 1, code := prog_15_method_1_code, exceptionTable := #[], attributes := #[] }
def k2m0 : Method := { name := "<init>", desc := "()V", sig := { parameters := [], returnType := none }, accessFlags := 1, code := some k2c0 }
def k2c1 : Code := { maxStack := 9, maxLocals := 5, code := prog_15_method_2_code, exceptionTable := #[], attributes := #[] }
def k2m1 : Method := { name := "add", desc := "(JJ)V", sig := { parameters := [.long, .long], returnType := none }, accessFlags := 1, code := some k2c1 }
def k2c2 : Code := { maxStack := 5, maxLocals := 2, code := prog_15_method_3_code, exceptionTable := #[], attributes := #[] }
def k2m2 : Method := { name := "addAll", desc := "(Lcom/example/evenkeel/evenkeel/ResultChecksum;)V", sig := { parameters := [(.object "com/example/evenkeel/evenkeel/ResultChecksum")], returnType := none }, accessFlags := 1, code := some k2c2 }
def k2c3 : Code := { maxStack := 2, maxLocals := 1, code := prog_15_method_4_code, exceptionTable := #[], attributes := #[] }
def k2m3 : Method := { name := "bits", desc := "()J", sig := { parameters := [], returnType := some .long }, accessFlags := 1, code := some k2c3 }
/-- com/example/evenkeel/evenkeel/ResultChecksum -/
def k2 : Class := { plain "com/example/evenkeel/evenkeel/ResultChecksum" (some 0) with
  accessFlags := 49
  interfaces := #[]
  cf := some (fileOf pool2 17 #[] #[{ accessFlags := 1, nameIndex := 5, descriptorIndex := 6, attributes := #[] }, { accessFlags := 1, nameIndex := 30, descriptorIndex := 31, attributes := #[] }, { accessFlags := 1, nameIndex := 33, descriptorIndex := 34, attributes := #[] }, { accessFlags := 1, nameIndex := 35, descriptorIndex := 36, attributes := #[] }] 49 2 #[] #[{ accessFlags := 2, nameIndex := 20, descriptorIndex := 21, attributes := #[] }])
  fields := #[{ name := "sum", type := .long, accessFlags := 2, slot := 0, constantValue := 0 }]
  methods := #[k2m0, k2m1, k2m2, k2m3]
  instanceTypes := #[.long]
  staticTypes := #[]
  resolved := Array.replicate 56 none
  statics := none }

def pool3 : Array CpInfo := pool [(1, u "java/lang/Cloneable"), (0, .class_ 1), (0, u "java/lang/Object"), (0, .class_ 3)] 3

/-- java/lang/Cloneable -/
def k3 : Class := { plain "java/lang/Cloneable" (some 0) with
  accessFlags := 1537
  interfaces := #[]
  cf := some (fileOf pool3 2 #[] #[] 1537 4 #[] #[])
  fields := #[]
  methods := #[]
  instanceTypes := #[]
  staticTypes := #[]
  resolved := Array.replicate 8 none
  statics := none }

def pool4 : Array CpInfo := pool [(1, u "java/io/Serializable"), (0, .class_ 1), (0, u "java/lang/Object"), (0, .class_ 3)] 3

/-- java/io/Serializable -/
def k4 : Class := { plain "java/io/Serializable" (some 0) with
  accessFlags := 1537
  interfaces := #[]
  cf := some (fileOf pool4 2 #[] #[] 1537 4 #[] #[])
  fields := #[]
  methods := #[]
  instanceTypes := #[]
  staticTypes := #[]
  resolved := Array.replicate 8 none
  statics := none }

/-- the primitive byte -/
def k5 : Class := { plain "byte" none with kind := .primitive 'B', accessFlags := 0x411 }
/-- [B -/
def k6 : Class := { plain "[B" (some 0) with kind := .array 5 .byte, interfaces := #[3, 4], accessFlags := 1041 }

/-- the primitive int -/
def k7 : Class := { plain "int" none with kind := .primitive 'I', accessFlags := 0x411 }
/-- [I -/
def k8 : Class := { plain "[I" (some 0) with kind := .array 7 .int, interfaces := #[3, 4], accessFlags := 1041 }

def heap : Heap := #[]
def classes : Array Class := #[k0, k1, k2, k3, k4, k5, k6, k7, k8]
def interned : List (Array UInt16 × Addr) := []
def slotsUsed : Nat := 0
def theMethod : MethodId := ⟨1, 1⟩
def args0 : Array Value := #[.long 5, .long 6, .long 7, .long 8, .int 9]
def aboutOver (below : List Frame) : State where
  vm := { classes := classes, interned := interned.toArray }
  heap := heap
  slotsUsed := slotsUsed
  threads := #[{ frames := .invoking theMethod args0 :: below }]
def below0 : List Frame := [.native { method := ⟨0, 0⟩, args := #[] }]
def about1 : State := aboutOver below0
def p0 : Program := .bare "" "" ""
def e0 : Env := launch0.env 0 0 0
theorem w_frames : about1.frames = Frame.invoking theMethod args0 :: below0 := rfl
set_option maxRecDepth 65536 in
theorem w_args : argsFit about1.vm theMethod args0 = true := by decide +kernel
set_option maxRecDepth 65536 in
theorem w_heap : heapFits about1 = true := by decide +kernel
set_option maxRecDepth 65536 in
theorem w_runnable : about1.curStatus? = some .runnable := by decide +kernel
set_option maxRecDepth 65536 in
theorem w_alone : about1.alone = true := by decide +kernel
set_option maxRecDepth 65536 in
theorem w_named : about1.methodNamed? x = some theMethod := by decide +kernel
set_option maxRecDepth 65536 in
theorem w_hears : about1.hears theMethod below0 = true := by decide +kernel
set_option maxRecDepth 65536 in
theorem w_ripe : about1.ripe theMethod args0 below0 = true := by decide +kernel
theorem w_running : about1.status = .running := rfl
set_option maxRecDepth 65536 in
theorem w_room : about1.hasRoom e0.platform room_1 = true :=
  launch0.hasRoom_least _ room_1 (by decide +kernel) (by decide +kernel) (by decide +kernel) (by decide +kernel) (by decide +kernel) (by decide +kernel)
theorem allAtoms_all (ts : List Jvm.Cond) (a : Array Jvm.Value) (st : Jvm.State) : (allAtoms ts).before a st = ts.all (fun c => c.before a st) := by
  induction ts with
  | nil => rfl
  | cons c t ih =>
    show (Jvm.Cond.and c (allAtoms t)).before a st = _
    rw [Jvm.Cond.before_and, ih, List.all_cons]
def words1 : List Jvm.Cond := Jvm.Cond.code x code maxLocals ret :: tables_1
/-- a 'code' word, met by the world's own term for the bytes: nothing is compared byte by byte -/
theorem code_word {y : MethodName} {bytes : ByteArray} {mx : Nat} {rt : Option FieldType} {a : Array Value} {s : State} {m : MethodId} {meth : Method} {c : Code} (h1 : s.methodNamed? y = some m) (h2 : s.vm.method? m = some meth) (h3 : meth.code = some c) (h4 : c.code = bytes)
    (h5 : (c.maxLocals == mx && c.exceptionTable.isEmpty && decide (c.maxStack ≤ mostOperands) && decide (meth.sig.returnType = rt) && !meth.locks && decide (parseMethodDescriptor y.desc = some meth.sig)) = true) : (Jvm.Cond.code y bytes mx rt).before a s = true := by
  simp only [Bool.and_eq_true, beq_iff_eq, Bool.not_eq_true', decide_eq_true_eq] at h5
  obtain ⟨⟨⟨⟨⟨g1, g2⟩, g3⟩, g4⟩, g5⟩, g6⟩ := h5
  simp [Cond.before, Cond.holds, Cond.value, h1, h2, h3, h4, g1, g2, g3, g4, g5, g6]
def isCode : Jvm.Cond → Bool
  | .code _ _ _ _ => true
  | _ => false
theorem all_split {L : List Jvm.Cond} {P : Jvm.Cond → Bool} (h1 : L.all (fun c => isCode c || P c) = true) (h2 : ∀ c ∈ L.filter isCode, P c = true) : L.all P = true := by
  refine List.all_eq_true.mpr fun c hc => ?_
  have h := List.all_eq_true.mp h1 c hc
  rcases Bool.eq_false_or_eq_true (isCode c) with hi | hi
  · exact h2 c (List.mem_filter.mpr ⟨hc, hi⟩)
  · simpa [hi] using h
set_option maxRecDepth 65536 in
theorem w_c0 : (Jvm.Cond.code x code maxLocals ret).before args0 about1 = true := code_word (m := ⟨1, 1⟩) (meth := k1m1) (c := k1c1) (by decide +kernel) rfl rfl rfl (by decide +kernel)
set_option maxRecDepth 65536 in
theorem w_c1 : (Jvm.Cond.code ({ cls := "com/example/evenkeel/evenkeel/ResultChecksum", name := "<init>", desc := "()V" } : Jvm.MethodName) prog_15_method_1_code (1 : Nat) (Option.none : Option Jvm.ClassFile.FieldType)).before args0 about1 = true := code_word (m := ⟨2, 0⟩) (meth := k2m0) (c := k2c0) (by decide +kernel) rfl rfl rfl (by decide +kernel)
set_option maxRecDepth 65536 in
theorem w_c2 : (Jvm.Cond.code ({ cls := "java/lang/Object", name := "<init>", desc := "()V" } : Jvm.MethodName) object_method_1_code (1 : Nat) (Option.none : Option Jvm.ClassFile.FieldType)).before args0 about1 = true := code_word (m := ⟨0, 0⟩) (meth := k0m0) (c := k0c0) (by decide +kernel) rfl rfl rfl (by decide +kernel)
set_option maxRecDepth 65536 in
theorem w_c3 : (Jvm.Cond.code ({ cls := "com/example/evenkeel/evenkeel/ResultChecksum", name := "add", desc := "(JJ)V" } : Jvm.MethodName) prog_15_method_2_code (5 : Nat) (Option.none : Option Jvm.ClassFile.FieldType)).before args0 about1 = true := code_word (m := ⟨2, 1⟩) (meth := k2m1) (c := k2c1) (by decide +kernel) rfl rfl rfl (by decide +kernel)
set_option maxRecDepth 65536 in
theorem w_c4 : (Jvm.Cond.code ({ cls := "com/example/evenkeel/evenkeel/ResultChecksum", name := "bits", desc := "()J" } : Jvm.MethodName) prog_15_method_4_code (1 : Nat) (Option.some Jvm.ClassFile.FieldType.long)).before args0 about1 = true := code_word (m := ⟨2, 3⟩) (meth := k2m3) (c := k2c3) (by decide +kernel) rfl rfl rfl (by decide +kernel)
set_option maxRecDepth 65536 in
theorem w_c5 : (Jvm.Cond.code ({ cls := "com/example/evenkeel/evenkeel/ResultChecksum", name := "addAll", desc := "(Lcom/example/evenkeel/evenkeel/ResultChecksum;)V" } : Jvm.MethodName) prog_15_method_3_code (2 : Nat) (Option.none : Option Jvm.ClassFile.FieldType)).before args0 about1 = true := code_word (m := ⟨2, 2⟩) (meth := k2m2) (c := k2c2) (by decide +kernel) rfl rfl rfl (by decide +kernel)
def codes1 : List Jvm.Cond := [Jvm.Cond.code x code maxLocals ret, Jvm.Cond.code ({ cls := "com/example/evenkeel/evenkeel/ResultChecksum", name := "<init>", desc := "()V" } : Jvm.MethodName) prog_15_method_1_code (1 : Nat) (Option.none : Option Jvm.ClassFile.FieldType), Jvm.Cond.code ({ cls := "java/lang/Object", name := "<init>", desc := "()V" } : Jvm.MethodName) object_method_1_code (1 : Nat) (Option.none : Option Jvm.ClassFile.FieldType), Jvm.Cond.code ({ cls := "com/example/evenkeel/evenkeel/ResultChecksum", name := "add", desc := "(JJ)V" } : Jvm.MethodName) prog_15_method_2_code (5 : Nat) (Option.none : Option Jvm.ClassFile.FieldType), Jvm.Cond.code ({ cls := "com/example/evenkeel/evenkeel/ResultChecksum", name := "bits", desc := "()J" } : Jvm.MethodName) prog_15_method_4_code (1 : Nat) (Option.some Jvm.ClassFile.FieldType.long), Jvm.Cond.code ({ cls := "com/example/evenkeel/evenkeel/ResultChecksum", name := "addAll", desc := "(Lcom/example/evenkeel/evenkeel/ResultChecksum;)V" } : Jvm.MethodName) prog_15_method_3_code (2 : Nat) (Option.none : Option Jvm.ClassFile.FieldType)]
set_option maxRecDepth 65536 in
theorem codes_eq : words1.filter isCode = codes1 := rfl
theorem w_codes : ∀ c ∈ words1.filter isCode, c.before args0 about1 = true := by
  rw [codes_eq]
  intro c hc
  simp only [codes1, List.mem_cons, List.not_mem_nil, or_false] at hc
  rcases hc with rfl | rfl | rfl | rfl | rfl | rfl
  · exact w_c0
  · exact w_c1
  · exact w_c2
  · exact w_c3
  · exact w_c4
  · exact w_c5
set_option maxRecDepth 65536 in
theorem w_t1 : (words1.take 24).all (fun c => isCode c || c.before args0 about1) = true := by decide +kernel
set_option maxRecDepth 65536 in
theorem w_t2 : (words1.drop 24).all (fun c => isCode c || c.before args0 about1) = true := by decide +kernel
theorem w_tables : (allAtoms (Jvm.Cond.code x code maxLocals ret :: tables_1)).before args0 about1 = true := by
  rw [allAtoms_all]
  show words1.all (fun c => c.before args0 about1) = true
  refine all_split ?_ w_codes
  rw [← List.take_append_drop 24 words1, List.all_append, w_t1, w_t2]
  rfl
set_option maxRecDepth 65536 in
theorem w_case : (Jvm.Cond.and given_1 narrow_1).before args0 about1 = true := by decide +kernel
theorem w_applies : (headSpec (Jvm.Cond.code x code maxLocals ret :: tables_1) room_1).applies x e0.platform about1 = true :=
  (Spec.applies_iff w_frames).mpr ⟨w_running, w_runnable, w_alone, w_named, w_hears, w_ripe, w_room, w_tables⟩
theorem atStart : AtStart classFile x code maxLocals ret World_1 tables_1 room_1 Calls_1 rest_1 Pre_1 launch0 p0 e0 about1 theMethod args0 below0 :=
  ⟨lists_1, trivial, launch0.admits_env _ _ _, launch0.least_env, fairChoices_fair.cas, fairChoices_fair.clock, w_frames, w_args, w_heap, w_applies, trivial, trivial, w_case⟩
end start1
theorem witness_1 : WitnessClaimed_1 := ⟨start1.p0, start1.e0, start1.about1, start1.theMethod, start1.args0, start1.below0, start1.atStart⟩
end Jvm.Pilot.@@N@@
