import JvmDerived
import JvmDerived.Pilot.@@N@@Statement
import JvmDerived.Pilot.@@N@@Code
set_option linter.unusedVariables false
set_option linter.unusedSimpArgs false
namespace Jvm.RoadKit
open Sem ClassFile Op Lib Jvm.Stand Jvm.Free Jvm.LawKit
section Own
variable {p : Program} {l : Launch} {e : Env} {R : Room} {s : State} {m : MethodId} {args : Array Value} {below : List Frame} {meth : Method} {c : Code} {T : State} {locs : List Loc} {cells slots : Nat}
theorem retI (X : Stand p l e R s m args below meth c T locs cells slots) (hx : p.tables.exec = Jvm.exec) {pc : Nat} {Ls : Array Slot} {z : Int32} {rest : List Value} (hret : meth.sig.returnType = some .int) (hd : decode c.code pc = .ok (.ireturn, 1)) {fs : List Frame}
    (hl : ∀ (f : JFrame) (acts : List Action), f.method = m → f.locked = none → f.entered = [] → (doReturn e (T.setTop f) acts (some (.int z))).1 = T.setFrames fs) : Steps p.tables e below (T.setTop (mkF m pc Ls (.int z :: rest))) (T.setFrames fs) := by
  have hm' : T.vm.method? m = some meth := X.method'
  have hn : narrow .int (.int z) = .int z := rfl
  show Steps p.tables e below (T.setTop { method := m, pc := pc, locals := Ls, stack := _ :: rest, locked := none }) _
  jvm_step X.here [X.here.top, hx, hd, hm', hret, hn]
  first | (intro acts; rw [hl _ acts rfl rfl rfl]) | rw [hl _ _ rfl rfl rfl]
  exact Steps.refl _
/-- the run comes from the state A to its end, and the end is as QQ says -/
def GoW (p : Program) (e : Env) (below : List Frame) (QQ : Outcome → State → Prop) (A : State) : Prop :=
  ∃ s₂ o, Steps p.tables e below A s₂ ∧ s₂.status = .running ∧ Ended s₂ below o ∧ QQ o s₂
theorem GoW.st {QQ : Outcome → State → Prop} {A B : State} (h : ∀ t, Steps p.tables e below B t → Steps p.tables e below A t) (g : GoW p e below QQ B) : GoW p e below QQ A := by
  obtain ⟨s₂, o, h1, h2⟩ := g
  exact ⟨s₂, o, h _ h1, h2⟩
/-- what an end with the value v, the heap and the written places must say -/
def EndsW (s : State) (Q : Option Value → Heap → List Loc → Prop) (cl sl : Nat) (QQ : Outcome → State → Prop) : Prop :=
  ∀ (v : Option Value) (L : List Loc) (T : State), Q v T.heap L → FrameEnd s (.returned v) T L cl sl → QQ (.returned v) T
theorem GoW.fin {Q : Option Value → Heap → List Loc → Prop} {cl sl : Nat} {QQ : Outcome → State → Prop} {A : State} (X : Stand p l e R s m args below meth c T locs cells slots) (v : Option Value) (hv : meth.sig.returnType = none → v = none) (hlk : meth.locks = false) (hQ : EndsW s Q cl sl QQ) {h : Heap} (eT : T.heap = h)
    (q : Q v h locs) (hc : cells ≤ cl) (hs : slots ≤ sl)
    (st : ∀ fs, (∀ (f : JFrame) (acts : List Action), f.method = m → f.locked = none → f.entered = [] → (doReturn e (T.setTop f) acts v).1 = T.setFrames fs) → Steps p.tables e below A (T.setFrames fs)) : GoW p e below QQ A := by
  obtain ⟨fs, hr, hrun, hended, hW, hsame⟩ := X.leave (v := v) hv hlk
  subst eT
  exact ⟨_, _, st fs hr, hrun, hended, hQ _ _ _ q ⟨⟨_, rfl⟩, hW, hsame.mono hc hs⟩⟩
theorem met_of {y : MethodName} {bytes : ByteArray} {maxL : Nat} {ret : Option FieldType} {ws : List Cond} {as' : Array Value} {Z : State} {h0 : Heap} {Q : Option Value → Heap → List Loc → Prop} {cl sl : Nat} (hp : plainFor y = true) {Ls : Array Slot} (ef : ∀ m, entryFrame m as' maxL = mkF m 0 Ls [])
    (core : ∀ (p : Program) (e : Env) (s : State) (m : MethodId) (below : List Frame) (meth : Method) (c : Code) (T : State) (QQ : Outcome → State → Prop), p.tables.exec = Jvm.exec → Z.Warmed39 s.vm → c.code = bytes → c.maxLocals = maxL → s.vm.findClass y.cls = some m.cls → meth.name = y.name → meth.sig.returnType = ret → meth.locks = false →
      Stand p l e R s m as' below meth c T [] 0 0 → T.heap = h0 → EndsW s Q cl sl QQ → GoW p e below QQ (T.setTop (mkF m 0 Ls []))) :
    MetFree l y (head1 (Cond.code y bytes maxL ret :: ws) R) (fun a U => a = as' ∧ Z.Warmed39 U.vm ∧ U.heap = h0) (fun _ _ _ _ _ => True) (fun _ U o U' => ∃ v L, o = .returned v ∧ Q v U'.heap L ∧ FrameEnd U o U' L cl sl) := by
  refine MetFree.of_bodySF hp hisR ?_
  intro p e s m args below meth c s₁ Bd hml0 hP hK
  obtain ⟨rfl, hZ, hh⟩ := hP
  obtain ⟨s₂, o, g1, g2, g3, g4⟩ := core p e s m below meth c s₁ (fun o U' => ∃ v L, o = .returned v ∧ Q v U'.heap L ∧ FrameEnd s o U' L cl sl) Bd.exec hZ Bd.bytes hml0 (findClass_of_methodNamed Bd.named) (name_of_methodNamed Bd.named Bd.method).1 Bd.returns Bd.notSynchronized (Stand.of_body Bd) (by rw [← hh, Bd.state]; rfl) (fun v L T q f => ⟨v, L, rfl, q, f⟩)
  exact ⟨s₂, o, castTop (ef m) g1, g2, g3, g4⟩
theorem standUp (X : Stand p l e R s m args below meth c T locs cells slots) {cells' slots' : Nat} (hc : cells ≤ cells') (hs : slots ≤ slots') : Stand p l e R s m args below meth c T locs cells' slots' :=
  { X with same := X.same.mono hc hs }
theorem lremM {g : JFrame} {target : State} (X : Stand p l e R s m args below meth c T locs cells slots) (hx : p.tables.exec = Jvm.exec) (hg : g.method = m) {x y : Int64} {rest : List Value} (hd : decode c.code g.pc = .ok (.lrem, 1)) (hs : g.stack = .long y :: .long x :: rest) (hy : y ≠ 0)
    (hr : Steps p.tables e below (T.setTop { g with pc := g.pc + 1, stack := .long (x % y) :: rest }) target) : Steps p.tables e below (T.setTop g) target := by
  have q : x - x / y * y = x % y := lrem_mod x y
  exact XS.lrem X.here hx hg hd hs hy (by rw [q]; exact hr)
theorem ldVI {Z : State} {h : Heap} {a : Addr} {kc : ClassId} {z j : Int32} {vs : List Value} {dv v : Value} (X : Stand p l e R s m args below meth c T locs cells slots) (hx : p.tables.exec = Jvm.exec) (hZ : Z.Warmed39 s.vm) (eT : T.heap = h) (F : Arv Z h a kc .int z vs dv) (hj : ¬ j < 0 ∧ j < z) (hv : vs.getD j.toNatClampNeg dv = v)
    {g : JFrame} (hg : g.method = m) {rest : List Value} (hs : g.stack = .int j :: .ref a :: rest) (hd : decode c.code g.pc = .ok (.iaload, 1)) (t : State) (k : Steps p.tables e below (T.setTop { g with pc := g.pc + 1, stack := v :: rest }) t) : Steps p.tables e below (T.setTop g) t := by
  obtain ⟨c', A, -, S, -, H, -⟩ := F
  have i := inb_of S hj
  exact X.iaload hx (by rw [eT]; exact A.1) (State.isArrayOf_alike hZ.alike A.2.1) A.2.2 i (H.at i hv) hg hs hd t k
theorem ldVJ {Z : State} {h : Heap} {a : Addr} {kc : ClassId} {z j : Int32} {vs : List Value} {dv v : Value} (X : Stand p l e R s m args below meth c T locs cells slots) (hx : p.tables.exec = Jvm.exec) (hZ : Z.Warmed39 s.vm) (eT : T.heap = h) (F : Arv Z h a kc .long z vs dv) (hj : ¬ j < 0 ∧ j < z) (hv : vs.getD j.toNatClampNeg dv = v)
    {g : JFrame} (hg : g.method = m) {rest : List Value} (hs : g.stack = .int j :: .ref a :: rest) (hd : decode c.code g.pc = .ok (.laload, 1)) (t : State) (k : Steps p.tables e below (T.setTop { g with pc := g.pc + 1, stack := v :: rest }) t) : Steps p.tables e below (T.setTop g) t := by
  obtain ⟨c', A, -, S, -, H, -⟩ := F
  have i := inb_of S hj
  exact X.laload hx (by rw [eT]; exact A.1) (State.isArrayOf_alike hZ.alike A.2.1) A.2.2 i (H.at i hv) hg hs hd t k
theorem ldVB {Z : State} {h : Heap} {a : Addr} {kc : ClassId} {z j : Int32} {vs : List Value} {dv v : Value} (X : Stand p l e R s m args below meth c T locs cells slots) (hx : p.tables.exec = Jvm.exec) (hZ : Z.Warmed39 s.vm) (eT : T.heap = h) (F : Arv Z h a kc .byte z vs dv) (hj : ¬ j < 0 ∧ j < z) (hv : vs.getD j.toNatClampNeg dv = v)
    {g : JFrame} (hg : g.method = m) {rest : List Value} (hs : g.stack = .int j :: .ref a :: rest) (hd : decode c.code g.pc = .ok (.baload, 1)) (t : State) (k : Steps p.tables e below (T.setTop { g with pc := g.pc + 1, stack := v :: rest }) t) : Steps p.tables e below (T.setTop g) t := by
  obtain ⟨c', A, -, S, -, H, -⟩ := F
  have i := inb_of S hj
  exact X.baloadBytes hx (by rw [eT]; exact A.1) (State.isArrayOf_alike hZ.alike A.2.1) A.2.2 i (H.at i hv) hg hs hd t k
theorem stVI {Z : State} {h : Heap} {a : Addr} {kc : ClassId} {z j : Int32} {vs : List Value} {dv : Value} {x : Int32} (X : Stand p l e R s m args below meth c T locs cells slots) (hx : p.tables.exec = Jvm.exec) (hZ : Z.Warmed39 s.vm) (eT : T.heap = h) (F : Arv Z h a kc .int z vs dv) (hj : ¬ j < 0 ∧ j < z) (i : Nat) (hi : j.toNatClampNeg = i) (hl : i < vs.length)
    {g : JFrame} (hg : g.method = m) {rest : List Value} (hs : g.stack = (.int x) :: .int j :: .ref a :: rest) (hd : decode c.code g.pc = .ok (.iastore, 1)) :
    ∃ T' h', Stand p l e R s m args below meth c T' (locs ++ [⟨a, j.toNatClampNeg⟩]) cells slots ∧ T'.heap = h' ∧ Wr h h' a j.toNatClampNeg (.int x) ∧ Arv Z h' a kc .int z (vs.set i (.int x)) dv ∧ ∀ target, Steps p.tables e below (T'.setTop { g with pc := g.pc + 1, stack := rest }) target → Steps p.tables e below (T.setTop g) target := by
  obtain ⟨c', A, q, S, M, H, G⟩ := F
  obtain ⟨T', h', X', e', W', st⟩ := stI X hx hZ eT A (inb_of S hj) hg hs hd
  exact ⟨T', h', X', e', W', Arv.set A q S M H G rfl W' i hi hl, st⟩
theorem stVJ {Z : State} {h : Heap} {a : Addr} {kc : ClassId} {z j : Int32} {vs : List Value} {dv : Value} {x : Int64} (X : Stand p l e R s m args below meth c T locs cells slots) (hx : p.tables.exec = Jvm.exec) (hZ : Z.Warmed39 s.vm) (eT : T.heap = h) (F : Arv Z h a kc .long z vs dv) (hj : ¬ j < 0 ∧ j < z) (i : Nat) (hi : j.toNatClampNeg = i) (hl : i < vs.length)
    {g : JFrame} (hg : g.method = m) {rest : List Value} (hs : g.stack = (.long x) :: .int j :: .ref a :: rest) (hd : decode c.code g.pc = .ok (.lastore, 1)) :
    ∃ T' h', Stand p l e R s m args below meth c T' (locs ++ [⟨a, j.toNatClampNeg⟩]) cells slots ∧ T'.heap = h' ∧ Wr h h' a j.toNatClampNeg (.long x) ∧ Arv Z h' a kc .long z (vs.set i (.long x)) dv ∧ ∀ target, Steps p.tables e below (T'.setTop { g with pc := g.pc + 1, stack := rest }) target → Steps p.tables e below (T.setTop g) target := by
  obtain ⟨c', A, q, S, M, H, G⟩ := F
  obtain ⟨T', h', X', e', W', st⟩ := stJ X hx hZ eT A (inb_of S hj) hg hs hd
  exact ⟨T', h', X', e', W', Arv.set A q S M H G rfl W' i hi hl, st⟩
theorem stVB {Z : State} {h : Heap} {a : Addr} {kc : ClassId} {z j : Int32} {vs : List Value} {dv : Value} {x : Int32} (X : Stand p l e R s m args below meth c T locs cells slots) (hx : p.tables.exec = Jvm.exec) (hZ : Z.Warmed39 s.vm) (eT : T.heap = h) (F : Arv Z h a kc .byte z vs dv) (hj : ¬ j < 0 ∧ j < z) (i : Nat) (hi : j.toNatClampNeg = i) (hl : i < vs.length)
    {g : JFrame} (hg : g.method = m) {rest : List Value} (hs : g.stack = (.int x) :: .int j :: .ref a :: rest) (hd : decode c.code g.pc = .ok (.bastore, 1)) :
    ∃ T' h', Stand p l e R s m args below meth c T' (locs ++ [⟨a, j.toNatClampNeg⟩]) cells slots ∧ T'.heap = h' ∧ Wr h h' a j.toNatClampNeg (.int (nar .byte x)) ∧ Arv Z h' a kc .byte z (vs.set i (.int (nar .byte x))) dv ∧ ∀ target, Steps p.tables e below (T'.setTop { g with pc := g.pc + 1, stack := rest }) target → Steps p.tables e below (T.setTop g) target := by
  obtain ⟨c', A, q, S, M, H, G⟩ := F
  obtain ⟨T', h', X', e', W', st⟩ := stB X hx hZ eT A (inb_of S hj) hg hs hd
  exact ⟨T', h', X', e', W', Arv.set A q S M H G (fits_nar_byte _) W' i hi hl, st⟩
theorem lnV {Z : State} {h : Heap} {a : Addr} {kc : ClassId} {ty : FieldType} {z : Int32} {vs : List Value} {dv : Value} (X : Stand p l e R s m args below meth c T locs cells slots) (hx : p.tables.exec = Jvm.exec) (hZ : Z.Warmed39 s.vm) (eT : T.heap = h) (F : Arv Z h a kc ty z vs dv)
    {g : JFrame} (hg : g.method = m) {rest : List Value} (hs : g.stack = .ref a :: rest) (hd : decode c.code g.pc = .ok (.arraylength, 1)) (t : State) (k : Steps p.tables e below (T.setTop { g with pc := g.pc + 1, stack := .int z :: rest }) t) : Steps p.tables e below (T.setTop g) t := by
  obtain ⟨c', A, -, S, M, -, -⟩ := F
  refine X.arraylength hx (by rw [eT]; exact A.1) (State.isArrayOf_alike hZ.alike A.2.1) hg hs hd t ?_
  rw [len_of S M]; exact k
theorem gdI (vs : List Int32) (d : Int32) (i : Nat) : (vs.map Value.int).getD i (.int d) = .int (vs.getD i d) := by
  induction vs generalizing i with
  | nil => rfl
  | cons a t ih => cases i with
    | zero => rfl
    | succ i => simpa using ih i
theorem gdJ (vs : List Int64) (d : Int64) (i : Nat) : (vs.map Value.long).getD i (.long d) = .long (vs.getD i d) := by
  induction vs generalizing i with
  | nil => rfl
  | cons a t ih => cases i with
    | zero => rfl
    | succ i => simpa using ih i
end Own
end Jvm.RoadKit
namespace Jvm.Pilot.@@N@@
open Jvm Jvm.ClassFile Sem Op Lib Jvm.Free Jvm.Stand Jvm.LawKit Jvm.RoadKit Bundle Jvm.Pilot.@@N@@.Jvm.D
theorem own_pos (x : Int64) : ¬ (x &&& (9223372036854775807 : Int64)) < (0 : Int64) := by
  have h := (c_andSL x 9223372036854775807).2.2 (by decide)
  have z : (0 : Int64).toInt = 0 := rfl
  rw [Int64.lt_iff_toInt_lt]; omega
def own_term (l r : Int64) : Int64 := l * r + l + r + 1
theorem own_term_eq (l r : Int64) : (l + 1) * (r + 1) = own_term l r := by
  simp only [own_term, Int64.add_mul, Int64.mul_add, Int64.mul_one, Int64.one_mul, Int64.add_assoc]
  rw [← Int64.add_assoc l r 1, ← Int64.add_assoc r l 1, Int64.add_comm l r]
theorem pn_0 : plainName "com/example/evenkeel/evenkeel/ResultChecksum" = true := by first | (simp [plainName, overriddenIn]; done) | decide +kernel
theorem d1_0 : decode prog_15_method_1_code 0 = .ok (.aload_n 0, 1) := by decide +kernel
theorem d1_1 : decode prog_15_method_1_code 1 = .ok (.invokespecial 1, 3) := by decide +kernel
theorem d1_4 : decode prog_15_method_1_code 4 = .ok (.return_, 1) := by decide +kernel
def RM1 : Room := { frames := 1, cells := 0, slots := 0, locals := 12 }
def Q1 (Z : State) (a1 : Addr) (h0 : Heap) (n0 : Nat) (v : Option Value) (h : Heap) (L : List Loc) : Prop := v = none ∧ Fr n0 L ∧ h = h0
set_option maxRecDepth 65536 in
set_option maxHeartbeats 40000000 in
theorem rm1 (l : Launch) (Z : State) (a0 : Array Value) (hw : ∀ d ∈ tables_1, d.before a0 Z = true) (ws : List Jvm.Cond) (a1 : Addr) (h0 : Heap) (n0 : Nat) (Z0 : n0 ≤ h0.size)  :
    MetFree l (⟨"com/example/evenkeel/evenkeel/ResultChecksum", "<init>", "()V"⟩ : MethodName) (head1 (Jvm.Cond.code (⟨"com/example/evenkeel/evenkeel/ResultChecksum", "<init>", "()V"⟩ : MethodName) prog_15_method_1_code 1 none :: ws) RM1) (fun a U => a = #[(.ref a1)] ∧ Z.Warmed39 U.vm ∧ U.heap = h0) (fun _ _ _ _ _ => True) (fun _ U o U' => ∃ v L, o = .returned v ∧ Q1 Z a1 h0 n0 v U'.heap L ∧ FrameEnd U o U' L RM1.cells RM1.slots) := by
  refine met_of (Q := fun v h L => Q1 Z a1 h0 n0 v h L) (plainFor_of_name pn_0) (fun m => by first | (simp [entryFrame, mkF, argsToLocals, Value.category]; done) | rfl) (Ls := #[.val (.ref a1)]) ?_
  intro p e s m below meth c T0 QQ hx hZ hby hml hown hnm hret hlk X0 e0 hQ
  have hml : c.maxLocals = 1 := hml
  have hown : s.vm.findClass "com/example/evenkeel/evenkeel/ResultChecksum" = some m.cls := hown
  have hnm : meth.name = "<init>" := hnm
  have hret : meth.sig.returnType = none := hret
  have N0 := Fr.nil n0
  have K0 : Keep h0 h0 [] := Keep.refl h0 _
  show GoW p e below QQ (T0.setTop (mkF m 0 #[.val (.ref a1)] []))
  refine GoW.st (fun t k => XS.aloadN X0.here hx rfl (hb hby d1_0) rfl rfl k) ?_
  show GoW p e below QQ (T0.setTop (mkF m 1 #[.val (.ref a1)] [(.ref a1)]))
  obtain ⟨T1, X1, e1, st1⟩ := initO X0 hx hZ hown (hw _ (List.mem_of_getElem? (i := 7) rfl)) (hw _ (List.mem_of_getElem? (i := 8) rfl)) (hw _ (List.mem_of_getElem? (i := 9) rfl)) e0 (g := (mkF m 1 #[.val (.ref a1)] [(.ref a1)])) rfl (by rw [hml]; rfl) rfl (hb hby d1_1) (by decide) (W := 0) (by show 2 * 0 + _ ≤ _; exact Nat.le_of_eq rfl) (by decide)
  refine GoW.st st1 ?_
  show GoW p e below QQ (T1.setTop (mkF m 4 #[.val (.ref a1)] []))
  exact GoW.fin X1 none (fun _ => rfl) hlk hQ e1 ⟨rfl, N0, rfl⟩ (by decide) (by decide) (fun fs hr => X1.returnOut hx hret (hb hby d1_4) hr)
theorem d3_0 : decode prog_15_method_4_code 0 = .ok (.aload_n 0, 1) := by decide +kernel
theorem d3_1 : decode prog_15_method_4_code 1 = .ok (.getfield 16, 3) := by decide +kernel
theorem d3_4 : decode prog_15_method_4_code 4 = .ok (.lreturn, 1) := by decide +kernel
def RM3 : Room := { frames := 0, cells := 0, slots := 0, locals := 0 }
def Q3 (Z : State) (a1 : Addr) (w2 : Int64) (h0 : Heap) (n0 : Nat) (v : Option Value) (h : Heap) (L : List Loc) : Prop := v = some (.long w2) ∧ Fr n0 L ∧ h = h0
set_option maxRecDepth 65536 in
set_option maxHeartbeats 40000000 in
theorem rm3 (l : Launch) (Z : State) (a0 : Array Value) (hw : ∀ d ∈ tables_1, d.before a0 Z = true) (ws : List Jvm.Cond) (a1 : Addr) (w2 : Int64) (h0 : Heap) (n0 : Nat) (Z0 : n0 ≤ h0.size) (pre_F_a1_sum : Fld Z h0 a1 "com/example/evenkeel/evenkeel/ResultChecksum" "sum" "J" (.long w2)) :
    MetFree l (⟨"com/example/evenkeel/evenkeel/ResultChecksum", "bits", "()J"⟩ : MethodName) (head1 (Jvm.Cond.code (⟨"com/example/evenkeel/evenkeel/ResultChecksum", "bits", "()J"⟩ : MethodName) prog_15_method_4_code 1 (some .long) :: ws) RM3) (fun a U => a = #[(.ref a1)] ∧ Z.Warmed39 U.vm ∧ U.heap = h0) (fun _ _ _ _ _ => True) (fun _ U o U' => ∃ v L, o = .returned v ∧ Q3 Z a1 w2 h0 n0 v U'.heap L ∧ FrameEnd U o U' L RM3.cells RM3.slots) := by
  refine met_of (Q := fun v h L => Q3 Z a1 w2 h0 n0 v h L) (plainFor_of_name pn_0) (fun m => by first | (simp [entryFrame, mkF, argsToLocals, Value.category]; done) | rfl) (Ls := #[.val (.ref a1)]) ?_
  intro p e s m below meth c T0 QQ hx hZ hby hml hown hnm hret hlk X0 e0 hQ
  have hml : c.maxLocals = 1 := hml
  have hown : s.vm.findClass "com/example/evenkeel/evenkeel/ResultChecksum" = some m.cls := hown
  have hnm : meth.name = "bits" := hnm
  have hret : meth.sig.returnType = some .long := hret
  have N0 := Fr.nil n0
  have K0 : Keep h0 h0 [] := Keep.refl h0 _
  show GoW p e below QQ (T0.setTop (mkF m 0 #[.val (.ref a1)] []))
  refine GoW.st (fun t k => XS.aloadN X0.here hx rfl (hb hby d3_0) rfl rfl k) ?_
  show GoW p e below QQ (T0.setTop (mkF m 1 #[.val (.ref a1)] [(.ref a1)]))
  obtain ⟨T1, X1, e1, st1⟩ := getF X0 hx hZ hown (host := "") (Or.inl (hw _ (List.mem_of_getElem? (i := 15) rfl))) Via.refl e0 pre_F_a1_sum (g := (mkF m 1 #[.val (.ref a1)] [(.ref a1)])) rfl rfl (hb hby d3_1)
  refine GoW.st st1 ?_
  show GoW p e below QQ (T1.setTop (mkF m 4 #[.val (.ref a1)] [(.long w2)]))
  exact GoW.fin X1 (some (.long w2)) (fun q => by rw [hret] at q; cases q) hlk hQ e1 ⟨rfl, N0, rfl⟩ (by decide) (by decide) (fun fs hr => retOut X1 hx hret rfl (Or.inr (Or.inl ⟨rfl, rfl, _, rfl⟩)) (hb hby d3_4) hr)
theorem d4_0 : decode prog_15_method_2_code 0 = .ok (.lload_n 1, 1) := by decide +kernel
theorem d4_1 : decode prog_15_method_2_code 1 = .ok (.lconst 0, 1) := by decide +kernel
theorem d4_2 : decode prog_15_method_2_code 2 = .ok (.lcmp, 1) := by decide +kernel
theorem d4_3 : decode prog_15_method_2_code 3 = .ok (.ifCond .lt 9, 3) := by decide +kernel
theorem d4_6 : decode prog_15_method_2_code 6 = .ok (.lload_n 3, 1) := by decide +kernel
theorem d4_7 : decode prog_15_method_2_code 7 = .ok (.lconst 0, 1) := by decide +kernel
theorem d4_8 : decode prog_15_method_2_code 8 = .ok (.lcmp, 1) := by decide +kernel
theorem d4_9 : decode prog_15_method_2_code 9 = .ok (.ifCond .ge 18, 3) := by decide +kernel
theorem d4_27 : decode prog_15_method_2_code 27 = .ok (.aload_n 0, 1) := by decide +kernel
theorem d4_28 : decode prog_15_method_2_code 28 = .ok (.dup, 1) := by decide +kernel
theorem d4_29 : decode prog_15_method_2_code 29 = .ok (.getfield 16, 3) := by decide +kernel
theorem d4_32 : decode prog_15_method_2_code 32 = .ok (.lload_n 1, 1) := by decide +kernel
theorem d4_33 : decode prog_15_method_2_code 33 = .ok (.lconst 1, 1) := by decide +kernel
theorem d4_34 : decode prog_15_method_2_code 34 = .ok (.ladd, 1) := by decide +kernel
theorem d4_35 : decode prog_15_method_2_code 35 = .ok (.lload_n 3, 1) := by decide +kernel
theorem d4_36 : decode prog_15_method_2_code 36 = .ok (.lconst 1, 1) := by decide +kernel
theorem d4_37 : decode prog_15_method_2_code 37 = .ok (.ladd, 1) := by decide +kernel
theorem d4_38 : decode prog_15_method_2_code 38 = .ok (.lmul, 1) := by decide +kernel
theorem d4_39 : decode prog_15_method_2_code 39 = .ok (.ladd, 1) := by decide +kernel
theorem d4_40 : decode prog_15_method_2_code 40 = .ok (.putfield 16, 3) := by decide +kernel
theorem d4_43 : decode prog_15_method_2_code 43 = .ok (.return_, 1) := by decide +kernel
def RM4 : Room := { frames := 0, cells := 0, slots := 0, locals := 0 }
def Q4 (Z : State) (a1 : Addr) (q1 : Int64) (q2 : Int64) (w2 : Int64) (h0 : Heap) (n0 : Nat) (v : Option Value) (h : Heap) (L : List Loc) : Prop := v = none ∧ Fr n0 L ∧ Keep h0 h [a1] ∧ (Exa Z h a1 "com/example/evenkeel/evenkeel/ResultChecksum") ∧ (Fld Z h a1 "com/example/evenkeel/evenkeel/ResultChecksum" "sum" "J" (.long (w2 + ((q1 + (1 : Int64)) * (q2 + (1 : Int64))))))
set_option maxRecDepth 65536 in
set_option maxHeartbeats 40000000 in
theorem rm4 (l : Launch) (Z : State) (a0 : Array Value) (hw : ∀ d ∈ tables_1, d.before a0 Z = true) (ws : List Jvm.Cond) (a1 : Addr) (q1 : Int64) (q2 : Int64) (w2 : Int64) (h0 : Heap) (n0 : Nat) (Z0 : n0 ≤ h0.size) (pre_E_a1 : Exa Z h0 a1 "com/example/evenkeel/evenkeel/ResultChecksum") (pre_F_a1_sum : Fld Z h0 a1 "com/example/evenkeel/evenkeel/ResultChecksum" "sum" "J" (.long w2)) (pre_g_a1 : n0 ≤ a1) (hp0 : ¬ q1 < (0 : Int64)) (hp1 : ¬ q2 < (0 : Int64)) :
    MetFree l (⟨"com/example/evenkeel/evenkeel/ResultChecksum", "add", "(JJ)V"⟩ : MethodName) (head1 (Jvm.Cond.code (⟨"com/example/evenkeel/evenkeel/ResultChecksum", "add", "(JJ)V"⟩ : MethodName) prog_15_method_2_code 5 none :: ws) RM4) (fun a U => a = #[(.ref a1), (.long q1), (.long q2)] ∧ Z.Warmed39 U.vm ∧ U.heap = h0) (fun _ _ _ _ _ => True) (fun _ U o U' => ∃ v L, o = .returned v ∧ Q4 Z a1 q1 q2 w2 h0 n0 v U'.heap L ∧ FrameEnd U o U' L RM4.cells RM4.slots) := by
  refine met_of (Q := fun v h L => Q4 Z a1 q1 q2 w2 h0 n0 v h L) (plainFor_of_name pn_0) (fun m => by first | (simp [entryFrame, mkF, argsToLocals, Value.category]; done) | rfl) (Ls := #[.val (.ref a1), .val (.long q1), .second, .val (.long q2), .second]) ?_
  intro p e s m below meth c T0 QQ hx hZ hby hml hown hnm hret hlk X0 e0 hQ
  have hml : c.maxLocals = 5 := hml
  have hown : s.vm.findClass "com/example/evenkeel/evenkeel/ResultChecksum" = some m.cls := hown
  have hnm : meth.name = "add" := hnm
  have hret : meth.sig.returnType = none := hret
  have N0 := Fr.nil n0
  have K0 : Keep h0 h0 [a1] := Keep.refl h0 _
  show GoW p e below QQ (T0.setTop (mkF m 0 #[.val (.ref a1), .val (.long q1), .second, .val (.long q2), .second] []))
  refine GoW.st (fun t k => XS.lloadN X0.here hx rfl (hb hby d4_0) rfl (XS.lconst X0.here hx rfl (hb hby d4_1) (XS.lcmp X0.here hx rfl (hb hby d4_2) rfl k))) ?_
  show GoW p e below QQ (T0.setTop (mkF m 3 #[.val (.ref a1), .val (.long q1), .second, .val (.long q2), .second] [(.int (lcmpW q1 (0 : Int64)))]))
  have hc3 : ¬ (q1 < (0 : Int64)) := by
    exact hp0
  refine GoW.st (fun t k => XS.ifNo X0.here hx rfl (hb hby d4_3) rfl ((if0 _ _).trans (flt (fun q => hc3 ((lw_lt q1 (0 : Int64)).mp q))).1) (XS.lloadN X0.here hx rfl (hb hby d4_6) rfl (XS.lconst X0.here hx rfl (hb hby d4_7) (XS.lcmp X0.here hx rfl (hb hby d4_8) rfl k)))) ?_
  show GoW p e below QQ (T0.setTop (mkF m 9 #[.val (.ref a1), .val (.long q1), .second, .val (.long q2), .second] [(.int (lcmpW q2 (0 : Int64)))]))
  have hc9 : ¬ (q2 < (0 : Int64)) := by
    exact hp1
  refine GoW.st (fun t k => XS.ifYes X0.here hx rfl (pc0 := 9) (pc' := 27) rfl (hb hby d4_9) rfl ((if0 _ _).trans (flt (fun q => hc9 ((lw_lt q2 (0 : Int64)).mp q))).2.1) (by decide) (by decide) (XS.aloadN X0.here hx rfl (hb hby d4_27) rfl rfl (XS.dup X0.here hx rfl (hb hby d4_28) rfl rfl k))) ?_
  show GoW p e below QQ (T0.setTop (mkF m 29 #[.val (.ref a1), .val (.long q1), .second, .val (.long q2), .second] [(.ref a1), (.ref a1)]))
  obtain ⟨T1, X1, e1, st1⟩ := getF X0 hx hZ hown (host := "") (Or.inl (hw _ (List.mem_of_getElem? (i := 15) rfl))) Via.refl e0 pre_F_a1_sum (g := (mkF m 29 #[.val (.ref a1), .val (.long q1), .second, .val (.long q2), .second] [(.ref a1), (.ref a1)])) rfl rfl (hb hby d4_29)
  refine GoW.st st1 ?_
  show GoW p e below QQ (T1.setTop (mkF m 32 #[.val (.ref a1), .val (.long q1), .second, .val (.long q2), .second] [(.long w2), (.ref a1)]))
  refine GoW.st (fun t k => XS.lloadN X1.here hx rfl (hb hby d4_32) rfl (XS.lconst X1.here hx rfl (hb hby d4_33) (XS.ladd X1.here hx rfl (hb hby d4_34) rfl (XS.lloadN X1.here hx rfl (hb hby d4_35) rfl (XS.lconst X1.here hx rfl (hb hby d4_36) (XS.ladd X1.here hx rfl (hb hby d4_37) rfl k)))))) ?_
  show GoW p e below QQ (T1.setTop (mkF m 38 #[.val (.ref a1), .val (.long q1), .second, .val (.long q2), .second] [(.long (q2 + (1 : Int64))), (.long (q1 + (1 : Int64))), (.long w2), (.ref a1)]))
  refine GoW.st (fun t k => XS.lmul X1.here hx rfl (hb hby d4_38) rfl (XS.ladd X1.here hx rfl (hb hby d4_39) rfl k)) ?_
  show GoW p e below QQ (T1.setTop (mkF m 40 #[.val (.ref a1), .val (.long q1), .second, .val (.long q2), .second] [(.long (w2 + ((q1 + (1 : Int64)) * (q2 + (1 : Int64))))), (.ref a1)]))
  obtain ⟨T2, h2, X2, e2, W2, st2⟩ := putF X1 hx hZ hown (host := "") (Or.inl (hw _ (List.mem_of_getElem? (i := 15) rfl))) Via.refl e1 pre_F_a1_sum pre_E_a1 (Or.inl (hw _ (List.mem_of_getElem? (i := 16) rfl))) (hw _ (List.mem_of_getElem? (i := 2) rfl)) (ty := .long) (by decide) rfl rfl (g := (mkF m 40 #[.val (.ref a1), .val (.long q1), .second, .val (.long q2), .second] [(.long (w2 + ((q1 + (1 : Int64)) * (q2 + (1 : Int64))))), (.ref a1)])) rfl rfl (hb hby d4_40)
  refine GoW.st st2 ?_
  have f3_E_a1 : Exa Z h2 a1 "com/example/evenkeel/evenkeel/ResultChecksum" := pre_E_a1.wr W2
  have f3_F_a1_sum : Fld Z h2 a1 "com/example/evenkeel/evenkeel/ResultChecksum" "sum" "J" (.long (w2 + ((q1 + (1 : Int64)) * (q2 + (1 : Int64))))) := pre_F_a1_sum.same W2
  have K2 : Keep h0 h2 [a1] := K0.wr W2 (Or.inl (List.mem_of_getElem? (i := 0) rfl))
  have N2 := Fr.snoc X2 N0 pre_g_a1
  show GoW p e below QQ (T2.setTop (mkF m 43 #[.val (.ref a1), .val (.long q1), .second, .val (.long q2), .second] []))
  exact GoW.fin X2 none (fun _ => rfl) hlk hQ e2 ⟨rfl, N2, K2, f3_E_a1, f3_F_a1_sum⟩ (by decide) (by decide) (fun fs hr => X2.returnOut hx hret (hb hby d4_43) hr)
theorem pn_1 : plainName "com/example/evenkeel/evenkeel/ResultChecksumAddPinLaw" = true := by first | (simp [plainName, overriddenIn]; done) | decide +kernel
theorem d5_0 : decode method_3_code 0 = .ok (.lload_n 0, 1) := by decide +kernel
theorem d5_1 : decode method_3_code 1 = .ok (.lload_n 2, 1) := by decide +kernel
theorem d5_2 : decode method_3_code 2 = .ok (.lmul, 1) := by decide +kernel
theorem d5_3 : decode method_3_code 3 = .ok (.lload_n 0, 1) := by decide +kernel
theorem d5_4 : decode method_3_code 4 = .ok (.ladd, 1) := by decide +kernel
theorem d5_5 : decode method_3_code 5 = .ok (.lload_n 2, 1) := by decide +kernel
theorem d5_6 : decode method_3_code 6 = .ok (.ladd, 1) := by decide +kernel
theorem d5_7 : decode method_3_code 7 = .ok (.lconst 1, 1) := by decide +kernel
theorem d5_8 : decode method_3_code 8 = .ok (.ladd, 1) := by decide +kernel
theorem d5_9 : decode method_3_code 9 = .ok (.lreturn, 1) := by decide +kernel
def RM5 : Room := { frames := 0, cells := 0, slots := 0, locals := 0 }
def Q5 (Z : State) (q1 : Int64) (q2 : Int64) (h0 : Heap) (n0 : Nat) (v : Option Value) (h : Heap) (L : List Loc) : Prop := v = some (.long (own_term q1 q2)) ∧ Fr n0 L ∧ h = h0
set_option maxRecDepth 65536 in
set_option maxHeartbeats 40000000 in
theorem rm5 (l : Launch) (Z : State) (a0 : Array Value) (hw : ∀ d ∈ tables_1, d.before a0 Z = true) (ws : List Jvm.Cond) (q1 : Int64) (q2 : Int64) (h0 : Heap) (n0 : Nat) (Z0 : n0 ≤ h0.size)  :
    MetFree l (⟨"com/example/evenkeel/evenkeel/ResultChecksumAddPinLaw", "term", "(JJ)J"⟩ : MethodName) (head1 (Jvm.Cond.code (⟨"com/example/evenkeel/evenkeel/ResultChecksumAddPinLaw", "term", "(JJ)J"⟩ : MethodName) method_3_code 4 (some .long) :: ws) RM5) (fun a U => a = #[(.long q1), (.long q2)] ∧ Z.Warmed39 U.vm ∧ U.heap = h0) (fun _ _ _ _ _ => True) (fun _ U o U' => ∃ v L, o = .returned v ∧ Q5 Z q1 q2 h0 n0 v U'.heap L ∧ FrameEnd U o U' L RM5.cells RM5.slots) := by
  refine met_of (Q := fun v h L => Q5 Z q1 q2 h0 n0 v h L) (plainFor_of_name pn_1) (fun m => by first | (simp [entryFrame, mkF, argsToLocals, Value.category]; done) | rfl) (Ls := #[.val (.long q1), .second, .val (.long q2), .second]) ?_
  intro p e s m below meth c T0 QQ hx hZ hby hml hown hnm hret hlk X0 e0 hQ
  have hml : c.maxLocals = 4 := hml
  have hown : s.vm.findClass "com/example/evenkeel/evenkeel/ResultChecksumAddPinLaw" = some m.cls := hown
  have hnm : meth.name = "term" := hnm
  have hret : meth.sig.returnType = some .long := hret
  have N0 := Fr.nil n0
  have K0 : Keep h0 h0 [] := Keep.refl h0 _
  show GoW p e below QQ (T0.setTop (mkF m 0 #[.val (.long q1), .second, .val (.long q2), .second] []))
  refine GoW.st (fun t k => XS.lloadN X0.here hx rfl (hb hby d5_0) rfl (XS.lloadN X0.here hx rfl (hb hby d5_1) rfl (XS.lmul X0.here hx rfl (hb hby d5_2) rfl (XS.lloadN X0.here hx rfl (hb hby d5_3) rfl (XS.ladd X0.here hx rfl (hb hby d5_4) rfl (XS.lloadN X0.here hx rfl (hb hby d5_5) rfl k)))))) ?_
  show GoW p e below QQ (T0.setTop (mkF m 6 #[.val (.long q1), .second, .val (.long q2), .second] [(.long q2), (.long ((q1 * q2) + q1))]))
  refine GoW.st (fun t k => XS.ladd X0.here hx rfl (hb hby d5_6) rfl (XS.lconst X0.here hx rfl (hb hby d5_7) (XS.ladd X0.here hx rfl (hb hby d5_8) rfl k))) ?_
  show GoW p e below QQ (T0.setTop (mkF m 9 #[.val (.long q1), .second, .val (.long q2), .second] [(.long ((((q1 * q2) + q1) + q2) + (1 : Int64)))]))
  have rv : ((some (.long ((((q1 * q2) + q1) + q2) + (1 : Int64)))) : Option Value) = some (.long (own_term q1 q2)) := by
    rfl
  exact GoW.fin X0 (some (.long ((((q1 * q2) + q1) + q2) + (1 : Int64)))) (fun q => by rw [hret] at q; cases q) hlk hQ e0 ⟨rv, N0, rfl⟩ (by decide) (by decide) (fun fs hr => retOut X0 hx hret rfl (Or.inr (Or.inl ⟨rfl, rfl, _, rfl⟩)) (hb hby d5_9) hr)
theorem pd_0 : parseMethodDescriptor "()V" = some ⟨[], none⟩ := by decide +kernel
theorem pd_1 : parseMethodDescriptor "()J" = some ⟨[], some .long⟩ := by decide +kernel
theorem pd_2 : parseMethodDescriptor "(JJ)V" = some ⟨[.long, .long], none⟩ := by decide +kernel
theorem pd_3 : parseMethodDescriptor "(JJ)J" = some ⟨[.long, .long], some .long⟩ := by decide +kernel
def Q0 (Z : State) (q1 : Int64) (q2 : Int64) (q3 : Int64) (q4 : Int64) (h0 : Heap) (n0 : Nat) (v : Option Value) (h : Heap) (L : List Loc) : Prop := v = some (.int (1 : Int32)) ∧ Fr n0 L
set_option maxRecDepth 65536 in
set_option maxHeartbeats 40000000 in
theorem rm0 (l : Launch) (Z : State) (a0 : Array Value) (hw : ∀ d ∈ tables_1, d.before a0 Z = true) (ws : List Jvm.Cond) (q1 : Int64) (q2 : Int64) (q3 : Int64) (q4 : Int64) (h0 : Heap) (n0 : Nat) (Z0 : n0 ≤ h0.size) (Z1 : h0.size ≤ n0)  :
    MetFree l x (head1 (Jvm.Cond.code x code maxLocals ret :: ws) room_1) (fun a U => a = #[(.long q1), (.long q2), (.long q3), (.long q4)] ∧ Z.Warmed39 U.vm ∧ U.heap = h0) (fun _ _ _ _ _ => True) (fun _ U o U' => ∃ v L, o = .returned v ∧ Q0 Z q1 q2 q3 q4 h0 n0 v U'.heap L ∧ FrameEnd U o U' L 16 128) := by
  refine met_of (Q := fun v h L => Q0 Z q1 q2 q3 q4 h0 n0 v h L) (plainFor_of_name pn_1) (fun m => by first | (simp [entryFrame, mkF, argsToLocals, Value.category, maxLocals]; done) | rfl) (Ls := #[.val (.long q1), .second, .val (.long q2), .second, .val (.long q3), .second, .val (.long q4), .second, .unset, .unset, .unset, .unset, .unset, .unset, .unset, .unset, .unset, .unset, .unset, .unset, .unset, .unset, .unset, .unset, .unset, .unset, .unset]) ?_
  intro p e s m below meth c T0 QQ hx hZ hby hml hown hnm hret hlk X0 e0 hQ
  have hml : c.maxLocals = 27 := hml
  have hown : s.vm.findClass "com/example/evenkeel/evenkeel/ResultChecksumAddPinLaw" = some m.cls := hown
  have hnm : meth.name = "law" := hnm
  have hret : meth.sig.returnType = some .boolean := hret
  have N0 := Fr.nil n0
  have K0 : Keep h0 h0 [] := Keep.refl h0 _
  show GoW p e below QQ (T0.setTop (mkF m 0 #[.val (.long q1), .second, .val (.long q2), .second, .val (.long q3), .second, .val (.long q4), .second, .unset, .unset, .unset, .unset, .unset, .unset, .unset, .unset, .unset, .unset, .unset, .unset, .unset, .unset, .unset, .unset, .unset, .unset, .unset] []))
  refine GoW.st (fun t k => XS.lloadN X0.here hx rfl (hb hby at_0) rfl (X0.ldc2Long hx hown (mvT hZ (hw _ (List.mem_of_getElem? (i := 0) rfl))) (g := (mkF m 1 #[.val (.long q1), .second, .val (.long q2), .second, .val (.long q3), .second, .val (.long q4), .second, .unset, .unset, .unset, .unset, .unset, .unset, .unset, .unset, .unset, .unset, .unset, .unset, .unset, .unset, .unset, .unset, .unset, .unset, .unset] [(.long q1)])) rfl (hb hby at_1) t (XS.land X0.here hx rfl (hb hby at_4) rfl (XS.lstore X0.here hx rfl (hb hby at_5) rfl (l' := #[.val (.long q1), .second, .val (.long q2), .second, .val (.long q3), .second, .val (.long q4), .second, .val (.long (q1 &&& (9223372036854775807 : Int64))), .second, .unset, .unset, .unset, .unset, .unset, .unset, .unset, .unset, .unset, .unset, .unset, .unset, .unset, .unset, .unset, .unset, .unset]) rfl k)))) ?_
  show GoW p e below QQ (T0.setTop (mkF m 7 #[.val (.long q1), .second, .val (.long q2), .second, .val (.long q3), .second, .val (.long q4), .second, .val (.long (q1 &&& (9223372036854775807 : Int64))), .second, .unset, .unset, .unset, .unset, .unset, .unset, .unset, .unset, .unset, .unset, .unset, .unset, .unset, .unset, .unset, .unset, .unset] []))
  generalize hv5 : (q1 &&& (9223372036854775807 : Int64)) = v5
  refine GoW.st (fun t k => XS.lloadN X0.here hx rfl (hb hby at_7) rfl (X0.ldc2Long hx hown (mvT hZ (hw _ (List.mem_of_getElem? (i := 0) rfl))) (g := (mkF m 8 #[.val (.long q1), .second, .val (.long q2), .second, .val (.long q3), .second, .val (.long q4), .second, .val (.long v5), .second, .unset, .unset, .unset, .unset, .unset, .unset, .unset, .unset, .unset, .unset, .unset, .unset, .unset, .unset, .unset, .unset, .unset] [(.long q2)])) rfl (hb hby at_8) t (XS.land X0.here hx rfl (hb hby at_11) rfl (XS.lstore X0.here hx rfl (hb hby at_12) rfl (l' := #[.val (.long q1), .second, .val (.long q2), .second, .val (.long q3), .second, .val (.long q4), .second, .val (.long v5), .second, .val (.long (q2 &&& (9223372036854775807 : Int64))), .second, .unset, .unset, .unset, .unset, .unset, .unset, .unset, .unset, .unset, .unset, .unset, .unset, .unset, .unset, .unset]) rfl k)))) ?_
  show GoW p e below QQ (T0.setTop (mkF m 14 #[.val (.long q1), .second, .val (.long q2), .second, .val (.long q3), .second, .val (.long q4), .second, .val (.long v5), .second, .val (.long (q2 &&& (9223372036854775807 : Int64))), .second, .unset, .unset, .unset, .unset, .unset, .unset, .unset, .unset, .unset, .unset, .unset, .unset, .unset, .unset, .unset] []))
  generalize hv12 : (q2 &&& (9223372036854775807 : Int64)) = v12
  refine GoW.st (fun t k => XS.lload X0.here hx rfl (hb hby at_14) rfl (X0.ldc2Long hx hown (mvT hZ (hw _ (List.mem_of_getElem? (i := 0) rfl))) (g := (mkF m 16 #[.val (.long q1), .second, .val (.long q2), .second, .val (.long q3), .second, .val (.long q4), .second, .val (.long v5), .second, .val (.long v12), .second, .unset, .unset, .unset, .unset, .unset, .unset, .unset, .unset, .unset, .unset, .unset, .unset, .unset, .unset, .unset] [(.long q3)])) rfl (hb hby at_16) t (XS.land X0.here hx rfl (hb hby at_19) rfl (XS.lstore X0.here hx rfl (hb hby at_20) rfl (l' := #[.val (.long q1), .second, .val (.long q2), .second, .val (.long q3), .second, .val (.long q4), .second, .val (.long v5), .second, .val (.long v12), .second, .val (.long (q3 &&& (9223372036854775807 : Int64))), .second, .unset, .unset, .unset, .unset, .unset, .unset, .unset, .unset, .unset, .unset, .unset, .unset, .unset]) rfl k)))) ?_
  show GoW p e below QQ (T0.setTop (mkF m 22 #[.val (.long q1), .second, .val (.long q2), .second, .val (.long q3), .second, .val (.long q4), .second, .val (.long v5), .second, .val (.long v12), .second, .val (.long (q3 &&& (9223372036854775807 : Int64))), .second, .unset, .unset, .unset, .unset, .unset, .unset, .unset, .unset, .unset, .unset, .unset, .unset, .unset] []))
  generalize hv20 : (q3 &&& (9223372036854775807 : Int64)) = v20
  refine GoW.st (fun t k => XS.lload X0.here hx rfl (hb hby at_22) rfl (X0.ldc2Long hx hown (mvT hZ (hw _ (List.mem_of_getElem? (i := 0) rfl))) (g := (mkF m 24 #[.val (.long q1), .second, .val (.long q2), .second, .val (.long q3), .second, .val (.long q4), .second, .val (.long v5), .second, .val (.long v12), .second, .val (.long v20), .second, .unset, .unset, .unset, .unset, .unset, .unset, .unset, .unset, .unset, .unset, .unset, .unset, .unset] [(.long q4)])) rfl (hb hby at_24) t (XS.land X0.here hx rfl (hb hby at_27) rfl (XS.lstore X0.here hx rfl (hb hby at_28) rfl (l' := #[.val (.long q1), .second, .val (.long q2), .second, .val (.long q3), .second, .val (.long q4), .second, .val (.long v5), .second, .val (.long v12), .second, .val (.long v20), .second, .val (.long (q4 &&& (9223372036854775807 : Int64))), .second, .unset, .unset, .unset, .unset, .unset, .unset, .unset, .unset, .unset, .unset, .unset]) rfl k)))) ?_
  show GoW p e below QQ (T0.setTop (mkF m 30 #[.val (.long q1), .second, .val (.long q2), .second, .val (.long q3), .second, .val (.long q4), .second, .val (.long v5), .second, .val (.long v12), .second, .val (.long v20), .second, .val (.long (q4 &&& (9223372036854775807 : Int64))), .second, .unset, .unset, .unset, .unset, .unset, .unset, .unset, .unset, .unset, .unset, .unset] []))
  generalize hv28 : (q4 &&& (9223372036854775807 : Int64)) = v28
  have np5 := own_pos q1
  rw [hv5] at np5
  have np12 := own_pos q2
  rw [hv12] at np12
  have np20 := own_pos q3
  rw [hv20] at np20
  have np28 := own_pos q4
  rw [hv28] at np28
  obtain ⟨T1, h1, X1, e1, E1, A1, D1, -, st1⟩ := newO X0 hx hZ hown (hw _ (List.mem_of_getElem? (i := 1) rfl)) (hw _ (List.mem_of_getElem? (i := 2) rfl)) (hw _ (List.mem_of_getElem? (i := 3) rfl)) e0 (g := (mkF m 30 #[.val (.long q1), .second, .val (.long q2), .second, .val (.long q3), .second, .val (.long q4), .second, .val (.long v5), .second, .val (.long v12), .second, .val (.long v20), .second, .val (.long v28), .second, .unset, .unset, .unset, .unset, .unset, .unset, .unset, .unset, .unset, .unset, .unset] [])) rfl (hb hby at_30) (by decide) (by decide)
  obtain ⟨b1, g1⟩ : ∃ z, z = h0.size := ⟨_, rfl⟩
  rw [← g1] at A1 D1 st1
  refine GoW.st st1 ?_
  have gg1 : n0 ≤ b1 := Nat.le_trans (Nat.le_trans Z0 K0.1) (Nat.le_of_eq g1.symm)
  have sz1 : h0.size ≤ b1 := Nat.le_trans K0.1 (Nat.le_of_eq g1.symm)
  have K1 : Keep h0 h1 [] := K0.ext E1
  have F1_sum : Fld Z h1 b1 "com/example/evenkeel/evenkeel/ResultChecksum" "sum" "J" (.long (0 : Int64)) := D1 (Or.inl (hw _ (List.mem_of_getElem? (i := 16) rfl))) (ty := .long) (by decide)
  show GoW p e below QQ (T1.setTop (mkF m 33 #[.val (.long q1), .second, .val (.long q2), .second, .val (.long q3), .second, .val (.long q4), .second, .val (.long v5), .second, .val (.long v12), .second, .val (.long v20), .second, .val (.long v28), .second, .unset, .unset, .unset, .unset, .unset, .unset, .unset, .unset, .unset, .unset, .unset] [(.ref b1)]))
  refine GoW.st (fun t k => XS.dup X1.here hx rfl (hb hby at_33) rfl rfl k) ?_
  show GoW p e below QQ (T1.setTop (mkF m 34 #[.val (.long q1), .second, .val (.long q2), .second, .val (.long q3), .second, .val (.long q4), .second, .val (.long v5), .second, .val (.long v12), .second, .val (.long v20), .second, .val (.long v28), .second, .unset, .unset, .unset, .unset, .unset, .unset, .unset, .unset, .unset, .unset, .unset] [(.ref b1), (.ref b1)]))
  obtain ⟨_, _, ⟨T3, zL3, zk3, zn3⟩, -, X3, ⟨Lc3, hQ3, zl3, zy3, zz3⟩, st3⟩ := X1.specialBack hx (y := (⟨"com/example/evenkeel/evenkeel/ResultChecksum", "<init>", "()V"⟩ : MethodName)) rfl hown (mvT hZ (hw _ (List.mem_of_getElem? (i := 4) rfl))) (mvT hZ (hw _ (List.mem_of_getElem? (i := 5) rfl))) (mvT hZ (hw _ (List.mem_of_getElem? (i := 6) rfl))) (by decide) (backOf (W := 1) (rm1 l Z a0 hw [] b1 h1 n0 (Nat.le_trans Z0 K1.1) ) hZ (hw _ (List.mem_of_getElem? (i := 6) rfl)) (hw _ (List.mem_of_getElem? (i := 3) rfl)) (by decide) (by decide)) (g := (mkF m 34 #[.val (.long q1), .second, .val (.long q2), .second, .val (.long q3), .second, .val (.long q4), .second, .val (.long v5), .second, .val (.long v12), .second, .val (.long v20), .second, .val (.long v28), .second, .unset, .unset, .unset, .unset, .unset, .unset, .unset, .unset, .unset, .unset, .unset] [(.ref b1), (.ref b1)])) rfl (by rw [hml]; rfl) (Steps.refl _) (a := b1) (argsL := []) (rest := [(.ref b1)]) (lenOf pd_0 rfl) rfl (by show 2 * 0 + _ ≤ _; exact Nat.le_of_eq rfl) (hb hby at_34) (fun _ _ => ⟨rfl, e1, (by decide : 1 + 0 ≤ _), (by decide : 1 + 0 ≤ _)⟩)
  dsimp only [Pt.U, Pt.locs, Pt.cells, Pt.slots] at X3 zl3 zy3 zz3 st3 hQ3
  subst zl3 zy3 zz3
  obtain ⟨rfl, Nq3, hh3⟩ := hQ3
  have N3 := Fr.app N0 Nq3
  refine GoW.st (fun t k => st3.trans k) ?_
  show GoW p e below QQ (T3.setTop (mkF m 37 #[.val (.long q1), .second, .val (.long q2), .second, .val (.long q3), .second, .val (.long q4), .second, .val (.long v5), .second, .val (.long v12), .second, .val (.long v20), .second, .val (.long v28), .second, .unset, .unset, .unset, .unset, .unset, .unset, .unset, .unset, .unset, .unset, .unset] [(.ref b1)]))
  refine GoW.st (fun t k => XS.astore X3.here hx rfl (hb hby at_37) rfl rfl (l' := #[.val (.long q1), .second, .val (.long q2), .second, .val (.long q3), .second, .val (.long q4), .second, .val (.long v5), .second, .val (.long v12), .second, .val (.long v20), .second, .val (.long v28), .second, .val (.ref b1), .unset, .unset, .unset, .unset, .unset, .unset, .unset, .unset, .unset, .unset]) rfl (XS.aload X3.here hx rfl (hb hby at_39) rfl rfl k)) ?_
  show GoW p e below QQ (T3.setTop (mkF m 41 #[.val (.long q1), .second, .val (.long q2), .second, .val (.long q3), .second, .val (.long q4), .second, .val (.long v5), .second, .val (.long v12), .second, .val (.long v20), .second, .val (.long v28), .second, .val (.ref b1), .unset, .unset, .unset, .unset, .unset, .unset, .unset, .unset, .unset, .unset] [(.ref b1)]))
  obtain ⟨cq4, kq4, qa4, qb4, qc4⟩ := isOf hZ hh3 A1
  obtain ⟨_, _, ⟨T4, zL4, zk4, zn4⟩, -, X4, ⟨Lc4, hQ4, zl4, zy4, zz4⟩, st4⟩ := X3.virtualBack hx (y := (⟨"com/example/evenkeel/evenkeel/ResultChecksum", "bits", "()J"⟩ : MethodName)) (z := (⟨"com/example/evenkeel/evenkeel/ResultChecksum", "bits", "()J"⟩ : MethodName)) hown (mvT hZ (hw _ (List.mem_of_getElem? (i := 10) rfl))) (mvT hZ (hw _ (List.mem_of_getElem? (i := 11) rfl))) (notFace_of_selects (args := #[]) (mvT hZ (hw _ (List.mem_of_getElem? (i := 13) rfl)))) (mvT hZ (hw _ (List.mem_of_getElem? (i := 13) rfl))) (mvT hZ (hw _ (List.mem_of_getElem? (i := 12) rfl))) (by decide) (backOf (W := 0) (rm3 l Z a0 hw [] b1 (0 : Int64) h1 n0 (Nat.le_trans Z0 K1.1) F1_sum) hZ (hw _ (List.mem_of_getElem? (i := 14) rfl)) (hw _ (List.mem_of_getElem? (i := 3) rfl)) (by decide) (by decide)) qa4 qc4 (g := (mkF m 41 #[.val (.long q1), .second, .val (.long q2), .second, .val (.long q3), .second, .val (.long q4), .second, .val (.long v5), .second, .val (.long v12), .second, .val (.long v20), .second, .val (.long v28), .second, .val (.ref b1), .unset, .unset, .unset, .unset, .unset, .unset, .unset, .unset, .unset, .unset] [(.ref b1)])) rfl (by rw [hml]; rfl) (Steps.refl _) (argsL := []) (rest := []) (lenOf pd_1 rfl) rfl (by show 2 * 0 + _ ≤ _; exact Nat.le_of_eq rfl) (hb hby at_41) (fun _ _ => ⟨rfl, hh3, (by decide : 1 + 0 ≤ _), (by decide : 1 + 0 ≤ _)⟩)
  dsimp only [Pt.U, Pt.locs, Pt.cells, Pt.slots] at X4 zl4 zy4 zz4 st4 hQ4
  subst zl4 zy4 zz4
  obtain ⟨rfl, Nq4, hh4⟩ := hQ4
  have N4 := Fr.app N3 Nq4
  refine GoW.st (fun t k => st4.trans k) ?_
  show GoW p e below QQ (T4.setTop (mkF m 44 #[.val (.long q1), .second, .val (.long q2), .second, .val (.long q3), .second, .val (.long q4), .second, .val (.long v5), .second, .val (.long v12), .second, .val (.long v20), .second, .val (.long v28), .second, .val (.ref b1), .unset, .unset, .unset, .unset, .unset, .unset, .unset, .unset, .unset, .unset] [(.long (0 : Int64))]))
  refine GoW.st (fun t k => XS.lstore X4.here hx rfl (hb hby at_44) rfl (l' := #[.val (.long q1), .second, .val (.long q2), .second, .val (.long q3), .second, .val (.long q4), .second, .val (.long v5), .second, .val (.long v12), .second, .val (.long v20), .second, .val (.long v28), .second, .val (.ref b1), .val (.long (0 : Int64)), .second, .unset, .unset, .unset, .unset, .unset, .unset, .unset, .unset]) rfl (XS.aload X4.here hx rfl (hb hby at_46) rfl rfl (XS.lload X4.here hx rfl (hb hby at_48) rfl (XS.lload X4.here hx rfl (hb hby at_50) rfl k)))) ?_
  show GoW p e below QQ (T4.setTop (mkF m 52 #[.val (.long q1), .second, .val (.long q2), .second, .val (.long q3), .second, .val (.long q4), .second, .val (.long v5), .second, .val (.long v12), .second, .val (.long v20), .second, .val (.long v28), .second, .val (.ref b1), .val (.long (0 : Int64)), .second, .unset, .unset, .unset, .unset, .unset, .unset, .unset, .unset] [(.long v12), (.long v5), (.ref b1)]))
  obtain ⟨cq5, kq5, qa5, qb5, qc5⟩ := isOf hZ hh4 A1
  obtain ⟨_, _, ⟨T5, zL5, zk5, zn5⟩, -, X5, ⟨Lc5, hQ5, zl5, zy5, zz5⟩, st5⟩ := X4.virtualBack hx (y := (⟨"com/example/evenkeel/evenkeel/ResultChecksum", "add", "(JJ)V"⟩ : MethodName)) (z := (⟨"com/example/evenkeel/evenkeel/ResultChecksum", "add", "(JJ)V"⟩ : MethodName)) hown (mvT hZ (hw _ (List.mem_of_getElem? (i := 17) rfl))) (mvT hZ (hw _ (List.mem_of_getElem? (i := 18) rfl))) (notFace_of_selects (args := #[]) (mvT hZ (hw _ (List.mem_of_getElem? (i := 20) rfl)))) (mvT hZ (hw _ (List.mem_of_getElem? (i := 20) rfl))) (mvT hZ (hw _ (List.mem_of_getElem? (i := 19) rfl))) (by decide) (backOf (W := 0) (rm4 l Z a0 hw [] b1 v5 v12 (0 : Int64) h1 n0 (Nat.le_trans Z0 K1.1) A1 F1_sum gg1 (by assumption) (by assumption)) hZ (hw _ (List.mem_of_getElem? (i := 21) rfl)) (hw _ (List.mem_of_getElem? (i := 3) rfl)) (by decide) (by decide)) qa5 qc5 (g := (mkF m 52 #[.val (.long q1), .second, .val (.long q2), .second, .val (.long q3), .second, .val (.long q4), .second, .val (.long v5), .second, .val (.long v12), .second, .val (.long v20), .second, .val (.long v28), .second, .val (.ref b1), .val (.long (0 : Int64)), .second, .unset, .unset, .unset, .unset, .unset, .unset, .unset, .unset] [(.long v12), (.long v5), (.ref b1)])) rfl (by rw [hml]; rfl) (Steps.refl _) (argsL := [(.long v5), (.long v12)]) (rest := []) (lenOf pd_2 rfl) rfl (by show 2 * 0 + _ ≤ _; exact Nat.le_of_eq rfl) (hb hby at_52) (fun _ _ => ⟨rfl, hh4, (by decide : 1 + 0 ≤ _), (by decide : 1 + 0 ≤ _)⟩)
  dsimp only [Pt.U, Pt.locs, Pt.cells, Pt.slots] at X5 zl5 zy5 zz5 st5 hQ5
  subst zl5 zy5 zz5
  obtain ⟨rfl, Nq5, Kq5, p5_0, p5_1⟩ := hQ5
  have N5 := Fr.app N4 Nq5
  refine GoW.st (fun t k => st5.trans k) ?_
  have K5 : Keep h0 T5.heap [] := K1.trans Kq5 (allS (Or.inr sz1) all0)
  show GoW p e below QQ (T5.setTop (mkF m 55 #[.val (.long q1), .second, .val (.long q2), .second, .val (.long q3), .second, .val (.long q4), .second, .val (.long v5), .second, .val (.long v12), .second, .val (.long v20), .second, .val (.long v28), .second, .val (.ref b1), .val (.long (0 : Int64)), .second, .unset, .unset, .unset, .unset, .unset, .unset, .unset, .unset] []))
  refine GoW.st (fun t k => XS.aload X5.here hx rfl (hb hby at_55) rfl rfl k) ?_
  show GoW p e below QQ (T5.setTop (mkF m 57 #[.val (.long q1), .second, .val (.long q2), .second, .val (.long q3), .second, .val (.long q4), .second, .val (.long v5), .second, .val (.long v12), .second, .val (.long v20), .second, .val (.long v28), .second, .val (.ref b1), .val (.long (0 : Int64)), .second, .unset, .unset, .unset, .unset, .unset, .unset, .unset, .unset] [(.ref b1)]))
  obtain ⟨cq7, kq7, qa7, qb7, qc7⟩ := isOf hZ rfl p5_0
  obtain ⟨_, _, ⟨T7, zL7, zk7, zn7⟩, -, X7, ⟨Lc7, hQ7, zl7, zy7, zz7⟩, st7⟩ := X5.virtualBack hx (y := (⟨"com/example/evenkeel/evenkeel/ResultChecksum", "bits", "()J"⟩ : MethodName)) (z := (⟨"com/example/evenkeel/evenkeel/ResultChecksum", "bits", "()J"⟩ : MethodName)) hown (mvT hZ (hw _ (List.mem_of_getElem? (i := 10) rfl))) (mvT hZ (hw _ (List.mem_of_getElem? (i := 11) rfl))) (notFace_of_selects (args := #[]) (mvT hZ (hw _ (List.mem_of_getElem? (i := 13) rfl)))) (mvT hZ (hw _ (List.mem_of_getElem? (i := 13) rfl))) (mvT hZ (hw _ (List.mem_of_getElem? (i := 12) rfl))) (by decide) (backOf (W := 0) (rm3 l Z a0 hw [] b1 ((0 : Int64) + ((v5 + (1 : Int64)) * (v12 + (1 : Int64)))) T5.heap n0 (Nat.le_trans Z0 K5.1) p5_1) hZ (hw _ (List.mem_of_getElem? (i := 14) rfl)) (hw _ (List.mem_of_getElem? (i := 3) rfl)) (by decide) (by decide)) qa7 qc7 (g := (mkF m 57 #[.val (.long q1), .second, .val (.long q2), .second, .val (.long q3), .second, .val (.long q4), .second, .val (.long v5), .second, .val (.long v12), .second, .val (.long v20), .second, .val (.long v28), .second, .val (.ref b1), .val (.long (0 : Int64)), .second, .unset, .unset, .unset, .unset, .unset, .unset, .unset, .unset] [(.ref b1)])) rfl (by rw [hml]; rfl) (Steps.refl _) (argsL := []) (rest := []) (lenOf pd_1 rfl) rfl (by show 2 * 0 + _ ≤ _; exact Nat.le_of_eq rfl) (hb hby at_57) (fun _ _ => ⟨rfl, rfl, (by decide : 1 + 0 ≤ _), (by decide : 1 + 0 ≤ _)⟩)
  dsimp only [Pt.U, Pt.locs, Pt.cells, Pt.slots] at X7 zl7 zy7 zz7 st7 hQ7
  subst zl7 zy7 zz7
  obtain ⟨rfl, Nq7, hh7⟩ := hQ7
  have N7 := Fr.app N5 Nq7
  refine GoW.st (fun t k => st7.trans k) ?_
  show GoW p e below QQ (T7.setTop (mkF m 60 #[.val (.long q1), .second, .val (.long q2), .second, .val (.long q3), .second, .val (.long q4), .second, .val (.long v5), .second, .val (.long v12), .second, .val (.long v20), .second, .val (.long v28), .second, .val (.ref b1), .val (.long (0 : Int64)), .second, .unset, .unset, .unset, .unset, .unset, .unset, .unset, .unset] [(.long ((0 : Int64) + ((v5 + (1 : Int64)) * (v12 + (1 : Int64)))))]))
  refine GoW.st (fun t k => XS.lstore X7.here hx rfl (hb hby at_60) rfl (l' := #[.val (.long q1), .second, .val (.long q2), .second, .val (.long q3), .second, .val (.long q4), .second, .val (.long v5), .second, .val (.long v12), .second, .val (.long v20), .second, .val (.long v28), .second, .val (.ref b1), .val (.long (0 : Int64)), .second, .val (.long ((0 : Int64) + ((v5 + (1 : Int64)) * (v12 + (1 : Int64))))), .second, .unset, .unset, .unset, .unset, .unset, .unset]) rfl k) ?_
  show GoW p e below QQ (T7.setTop (mkF m 62 #[.val (.long q1), .second, .val (.long q2), .second, .val (.long q3), .second, .val (.long q4), .second, .val (.long v5), .second, .val (.long v12), .second, .val (.long v20), .second, .val (.long v28), .second, .val (.ref b1), .val (.long (0 : Int64)), .second, .val (.long ((0 : Int64) + ((v5 + (1 : Int64)) * (v12 + (1 : Int64))))), .second, .unset, .unset, .unset, .unset, .unset, .unset] []))
  generalize hv60 : ((0 : Int64) + ((v5 + (1 : Int64)) * (v12 + (1 : Int64)))) = v60
  refine GoW.st (fun t k => XS.aload X7.here hx rfl (hb hby at_62) rfl rfl (XS.lload X7.here hx rfl (hb hby at_64) rfl (XS.lload X7.here hx rfl (hb hby at_66) rfl k))) ?_
  show GoW p e below QQ (T7.setTop (mkF m 68 #[.val (.long q1), .second, .val (.long q2), .second, .val (.long q3), .second, .val (.long q4), .second, .val (.long v5), .second, .val (.long v12), .second, .val (.long v20), .second, .val (.long v28), .second, .val (.ref b1), .val (.long (0 : Int64)), .second, .val (.long v60), .second, .unset, .unset, .unset, .unset, .unset, .unset] [(.long v28), (.long v20), (.ref b1)]))
  obtain ⟨cq8, kq8, qa8, qb8, qc8⟩ := isOf hZ hh7 p5_0
  obtain ⟨_, _, ⟨T8, zL8, zk8, zn8⟩, -, X8, ⟨Lc8, hQ8, zl8, zy8, zz8⟩, st8⟩ := X7.virtualBack hx (y := (⟨"com/example/evenkeel/evenkeel/ResultChecksum", "add", "(JJ)V"⟩ : MethodName)) (z := (⟨"com/example/evenkeel/evenkeel/ResultChecksum", "add", "(JJ)V"⟩ : MethodName)) hown (mvT hZ (hw _ (List.mem_of_getElem? (i := 17) rfl))) (mvT hZ (hw _ (List.mem_of_getElem? (i := 18) rfl))) (notFace_of_selects (args := #[]) (mvT hZ (hw _ (List.mem_of_getElem? (i := 20) rfl)))) (mvT hZ (hw _ (List.mem_of_getElem? (i := 20) rfl))) (mvT hZ (hw _ (List.mem_of_getElem? (i := 19) rfl))) (by decide) (backOf (W := 0) (rm4 l Z a0 hw [] b1 v20 v28 ((0 : Int64) + ((v5 + (1 : Int64)) * (v12 + (1 : Int64)))) T5.heap n0 (Nat.le_trans Z0 K5.1) p5_0 p5_1 gg1 (by assumption) (by assumption)) hZ (hw _ (List.mem_of_getElem? (i := 21) rfl)) (hw _ (List.mem_of_getElem? (i := 3) rfl)) (by decide) (by decide)) qa8 qc8 (g := (mkF m 68 #[.val (.long q1), .second, .val (.long q2), .second, .val (.long q3), .second, .val (.long q4), .second, .val (.long v5), .second, .val (.long v12), .second, .val (.long v20), .second, .val (.long v28), .second, .val (.ref b1), .val (.long (0 : Int64)), .second, .val (.long v60), .second, .unset, .unset, .unset, .unset, .unset, .unset] [(.long v28), (.long v20), (.ref b1)])) rfl (by rw [hml]; rfl) (Steps.refl _) (argsL := [(.long v20), (.long v28)]) (rest := []) (lenOf pd_2 rfl) rfl (by show 2 * 0 + _ ≤ _; exact Nat.le_of_eq rfl) (hb hby at_68) (fun _ _ => ⟨rfl, hh7, (by decide : 1 + 0 ≤ _), (by decide : 1 + 0 ≤ _)⟩)
  dsimp only [Pt.U, Pt.locs, Pt.cells, Pt.slots] at X8 zl8 zy8 zz8 st8 hQ8
  subst zl8 zy8 zz8
  obtain ⟨rfl, Nq8, Kq8, p8_0, p8_1⟩ := hQ8
  have N8 := Fr.app N7 Nq8
  refine GoW.st (fun t k => st8.trans k) ?_
  have K8 : Keep h0 T8.heap [] := K5.trans Kq8 (allS (Or.inr sz1) all0)
  show GoW p e below QQ (T8.setTop (mkF m 71 #[.val (.long q1), .second, .val (.long q2), .second, .val (.long q3), .second, .val (.long q4), .second, .val (.long v5), .second, .val (.long v12), .second, .val (.long v20), .second, .val (.long v28), .second, .val (.ref b1), .val (.long (0 : Int64)), .second, .val (.long v60), .second, .unset, .unset, .unset, .unset, .unset, .unset] []))
  refine GoW.st (fun t k => XS.aload X8.here hx rfl (hb hby at_71) rfl rfl k) ?_
  show GoW p e below QQ (T8.setTop (mkF m 73 #[.val (.long q1), .second, .val (.long q2), .second, .val (.long q3), .second, .val (.long q4), .second, .val (.long v5), .second, .val (.long v12), .second, .val (.long v20), .second, .val (.long v28), .second, .val (.ref b1), .val (.long (0 : Int64)), .second, .val (.long v60), .second, .unset, .unset, .unset, .unset, .unset, .unset] [(.ref b1)]))
  obtain ⟨cq10, kq10, qa10, qb10, qc10⟩ := isOf hZ rfl p8_0
  obtain ⟨_, _, ⟨T10, zL10, zk10, zn10⟩, -, X10, ⟨Lc10, hQ10, zl10, zy10, zz10⟩, st10⟩ := X8.virtualBack hx (y := (⟨"com/example/evenkeel/evenkeel/ResultChecksum", "bits", "()J"⟩ : MethodName)) (z := (⟨"com/example/evenkeel/evenkeel/ResultChecksum", "bits", "()J"⟩ : MethodName)) hown (mvT hZ (hw _ (List.mem_of_getElem? (i := 10) rfl))) (mvT hZ (hw _ (List.mem_of_getElem? (i := 11) rfl))) (notFace_of_selects (args := #[]) (mvT hZ (hw _ (List.mem_of_getElem? (i := 13) rfl)))) (mvT hZ (hw _ (List.mem_of_getElem? (i := 13) rfl))) (mvT hZ (hw _ (List.mem_of_getElem? (i := 12) rfl))) (by decide) (backOf (W := 0) (rm3 l Z a0 hw [] b1 (((0 : Int64) + ((v5 + (1 : Int64)) * (v12 + (1 : Int64)))) + ((v20 + (1 : Int64)) * (v28 + (1 : Int64)))) T8.heap n0 (Nat.le_trans Z0 K8.1) p8_1) hZ (hw _ (List.mem_of_getElem? (i := 14) rfl)) (hw _ (List.mem_of_getElem? (i := 3) rfl)) (by decide) (by decide)) qa10 qc10 (g := (mkF m 73 #[.val (.long q1), .second, .val (.long q2), .second, .val (.long q3), .second, .val (.long q4), .second, .val (.long v5), .second, .val (.long v12), .second, .val (.long v20), .second, .val (.long v28), .second, .val (.ref b1), .val (.long (0 : Int64)), .second, .val (.long v60), .second, .unset, .unset, .unset, .unset, .unset, .unset] [(.ref b1)])) rfl (by rw [hml]; rfl) (Steps.refl _) (argsL := []) (rest := []) (lenOf pd_1 rfl) rfl (by show 2 * 0 + _ ≤ _; exact Nat.le_of_eq rfl) (hb hby at_73) (fun _ _ => ⟨rfl, rfl, (by decide : 1 + 0 ≤ _), (by decide : 1 + 0 ≤ _)⟩)
  dsimp only [Pt.U, Pt.locs, Pt.cells, Pt.slots] at X10 zl10 zy10 zz10 st10 hQ10
  subst zl10 zy10 zz10
  obtain ⟨rfl, Nq10, hh10⟩ := hQ10
  have N10 := Fr.app N8 Nq10
  refine GoW.st (fun t k => st10.trans k) ?_
  show GoW p e below QQ (T10.setTop (mkF m 76 #[.val (.long q1), .second, .val (.long q2), .second, .val (.long q3), .second, .val (.long q4), .second, .val (.long v5), .second, .val (.long v12), .second, .val (.long v20), .second, .val (.long v28), .second, .val (.ref b1), .val (.long (0 : Int64)), .second, .val (.long v60), .second, .unset, .unset, .unset, .unset, .unset, .unset] [(.long (((0 : Int64) + ((v5 + (1 : Int64)) * (v12 + (1 : Int64)))) + ((v20 + (1 : Int64)) * (v28 + (1 : Int64)))))]))
  refine GoW.st (fun t k => XS.lstore X10.here hx rfl (hb hby at_76) rfl (l' := #[.val (.long q1), .second, .val (.long q2), .second, .val (.long q3), .second, .val (.long q4), .second, .val (.long v5), .second, .val (.long v12), .second, .val (.long v20), .second, .val (.long v28), .second, .val (.ref b1), .val (.long (0 : Int64)), .second, .val (.long v60), .second, .val (.long (((0 : Int64) + ((v5 + (1 : Int64)) * (v12 + (1 : Int64)))) + ((v20 + (1 : Int64)) * (v28 + (1 : Int64))))), .second, .unset, .unset, .unset, .unset]) rfl k) ?_
  show GoW p e below QQ (T10.setTop (mkF m 78 #[.val (.long q1), .second, .val (.long q2), .second, .val (.long q3), .second, .val (.long q4), .second, .val (.long v5), .second, .val (.long v12), .second, .val (.long v20), .second, .val (.long v28), .second, .val (.ref b1), .val (.long (0 : Int64)), .second, .val (.long v60), .second, .val (.long (((0 : Int64) + ((v5 + (1 : Int64)) * (v12 + (1 : Int64)))) + ((v20 + (1 : Int64)) * (v28 + (1 : Int64))))), .second, .unset, .unset, .unset, .unset] []))
  generalize hv76 : (((0 : Int64) + ((v5 + (1 : Int64)) * (v12 + (1 : Int64)))) + ((v20 + (1 : Int64)) * (v28 + (1 : Int64)))) = v76
  refine GoW.st (fun t k => XS.lload X10.here hx rfl (hb hby at_78) rfl (XS.lload X10.here hx rfl (hb hby at_80) rfl k)) ?_
  show GoW p e below QQ (T10.setTop (mkF m 82 #[.val (.long q1), .second, .val (.long q2), .second, .val (.long q3), .second, .val (.long q4), .second, .val (.long v5), .second, .val (.long v12), .second, .val (.long v20), .second, .val (.long v28), .second, .val (.ref b1), .val (.long (0 : Int64)), .second, .val (.long v60), .second, .val (.long v76), .second, .unset, .unset, .unset, .unset] [(.long v12), (.long v5)]))
  obtain ⟨_, _, ⟨T11, zL11, zk11, zn11⟩, -, X11, ⟨Lc11, hQ11, zl11, zy11, zz11⟩, st11⟩ := Jvm.LawKit.callS X10 hx (y := (⟨"com/example/evenkeel/evenkeel/ResultChecksumAddPinLaw", "term", "(JJ)J"⟩ : MethodName)) hown (mvT hZ (hw _ (List.mem_of_getElem? (i := 22) rfl))) (mvT hZ (hw _ (List.mem_of_getElem? (i := 23) rfl))) (mvT hZ (hw _ (List.mem_of_getElem? (i := 24) rfl))) (mvT hZ (hw _ (List.mem_of_getElem? (i := 25) rfl))) (by decide) (backOf (W := 0) (rm5 l Z a0 hw [] v5 v12 T8.heap n0 (Nat.le_trans Z0 K8.1) ) hZ (hw _ (List.mem_of_getElem? (i := 25) rfl)) (hw _ (List.mem_of_getElem? (i := 24) rfl)) (by decide) (by decide)) (g := (mkF m 82 #[.val (.long q1), .second, .val (.long q2), .second, .val (.long q3), .second, .val (.long q4), .second, .val (.long v5), .second, .val (.long v12), .second, .val (.long v20), .second, .val (.long v28), .second, .val (.ref b1), .val (.long (0 : Int64)), .second, .val (.long v60), .second, .val (.long v76), .second, .unset, .unset, .unset, .unset] [(.long v12), (.long v5)])) rfl (by rw [hml]; rfl) (argsL := [(.long v5), (.long v12)]) (rest := []) (lenOf pd_3 rfl) rfl (by show 2 * 0 + _ ≤ _; exact Nat.le_of_eq rfl) (hb hby at_82) (fun _ _ => ⟨rfl, hh10, (by decide : 1 + 0 ≤ _), (by decide : 1 + 0 ≤ _)⟩)
  dsimp only [Pt.U, Pt.locs, Pt.cells, Pt.slots] at X11 zl11 zy11 zz11 st11 hQ11
  subst zl11 zy11 zz11
  obtain ⟨rfl, Nq11, hh11⟩ := hQ11
  have N11 := Fr.app N10 Nq11
  refine GoW.st st11 ?_
  show GoW p e below QQ (T11.setTop (mkF m 85 #[.val (.long q1), .second, .val (.long q2), .second, .val (.long q3), .second, .val (.long q4), .second, .val (.long v5), .second, .val (.long v12), .second, .val (.long v20), .second, .val (.long v28), .second, .val (.ref b1), .val (.long (0 : Int64)), .second, .val (.long v60), .second, .val (.long v76), .second, .unset, .unset, .unset, .unset] [(.long (own_term v5 v12))]))
  refine GoW.st (fun t k => XS.lstore X11.here hx rfl (hb hby at_85) rfl (l' := #[.val (.long q1), .second, .val (.long q2), .second, .val (.long q3), .second, .val (.long q4), .second, .val (.long v5), .second, .val (.long v12), .second, .val (.long v20), .second, .val (.long v28), .second, .val (.ref b1), .val (.long (0 : Int64)), .second, .val (.long v60), .second, .val (.long v76), .second, .val (.long (own_term v5 v12)), .second, .unset, .unset]) rfl k) ?_
  show GoW p e below QQ (T11.setTop (mkF m 87 #[.val (.long q1), .second, .val (.long q2), .second, .val (.long q3), .second, .val (.long q4), .second, .val (.long v5), .second, .val (.long v12), .second, .val (.long v20), .second, .val (.long v28), .second, .val (.ref b1), .val (.long (0 : Int64)), .second, .val (.long v60), .second, .val (.long v76), .second, .val (.long (own_term v5 v12)), .second, .unset, .unset] []))
  generalize hv85 : (own_term v5 v12) = v85
  refine GoW.st (fun t k => XS.lload X11.here hx rfl (hb hby at_87) rfl (XS.lload X11.here hx rfl (hb hby at_89) rfl k)) ?_
  show GoW p e below QQ (T11.setTop (mkF m 91 #[.val (.long q1), .second, .val (.long q2), .second, .val (.long q3), .second, .val (.long q4), .second, .val (.long v5), .second, .val (.long v12), .second, .val (.long v20), .second, .val (.long v28), .second, .val (.ref b1), .val (.long (0 : Int64)), .second, .val (.long v60), .second, .val (.long v76), .second, .val (.long v85), .second, .unset, .unset] [(.long v28), (.long v20)]))
  obtain ⟨_, _, ⟨T12, zL12, zk12, zn12⟩, -, X12, ⟨Lc12, hQ12, zl12, zy12, zz12⟩, st12⟩ := Jvm.LawKit.callS X11 hx (y := (⟨"com/example/evenkeel/evenkeel/ResultChecksumAddPinLaw", "term", "(JJ)J"⟩ : MethodName)) hown (mvT hZ (hw _ (List.mem_of_getElem? (i := 22) rfl))) (mvT hZ (hw _ (List.mem_of_getElem? (i := 23) rfl))) (mvT hZ (hw _ (List.mem_of_getElem? (i := 24) rfl))) (mvT hZ (hw _ (List.mem_of_getElem? (i := 25) rfl))) (by decide) (backOf (W := 0) (rm5 l Z a0 hw [] v20 v28 T8.heap n0 (Nat.le_trans Z0 K8.1) ) hZ (hw _ (List.mem_of_getElem? (i := 25) rfl)) (hw _ (List.mem_of_getElem? (i := 24) rfl)) (by decide) (by decide)) (g := (mkF m 91 #[.val (.long q1), .second, .val (.long q2), .second, .val (.long q3), .second, .val (.long q4), .second, .val (.long v5), .second, .val (.long v12), .second, .val (.long v20), .second, .val (.long v28), .second, .val (.ref b1), .val (.long (0 : Int64)), .second, .val (.long v60), .second, .val (.long v76), .second, .val (.long v85), .second, .unset, .unset] [(.long v28), (.long v20)])) rfl (by rw [hml]; rfl) (argsL := [(.long v20), (.long v28)]) (rest := []) (lenOf pd_3 rfl) rfl (by show 2 * 0 + _ ≤ _; exact Nat.le_of_eq rfl) (hb hby at_91) (fun _ _ => ⟨rfl, hh11, (by decide : 1 + 0 ≤ _), (by decide : 1 + 0 ≤ _)⟩)
  dsimp only [Pt.U, Pt.locs, Pt.cells, Pt.slots] at X12 zl12 zy12 zz12 st12 hQ12
  subst zl12 zy12 zz12
  obtain ⟨rfl, Nq12, hh12⟩ := hQ12
  have N12 := Fr.app N11 Nq12
  refine GoW.st st12 ?_
  show GoW p e below QQ (T12.setTop (mkF m 94 #[.val (.long q1), .second, .val (.long q2), .second, .val (.long q3), .second, .val (.long q4), .second, .val (.long v5), .second, .val (.long v12), .second, .val (.long v20), .second, .val (.long v28), .second, .val (.ref b1), .val (.long (0 : Int64)), .second, .val (.long v60), .second, .val (.long v76), .second, .val (.long v85), .second, .unset, .unset] [(.long (own_term v20 v28))]))
  refine GoW.st (fun t k => XS.lstore X12.here hx rfl (hb hby at_94) rfl (l' := #[.val (.long q1), .second, .val (.long q2), .second, .val (.long q3), .second, .val (.long q4), .second, .val (.long v5), .second, .val (.long v12), .second, .val (.long v20), .second, .val (.long v28), .second, .val (.ref b1), .val (.long (0 : Int64)), .second, .val (.long v60), .second, .val (.long v76), .second, .val (.long v85), .second, .val (.long (own_term v20 v28)), .second]) rfl k) ?_
  show GoW p e below QQ (T12.setTop (mkF m 96 #[.val (.long q1), .second, .val (.long q2), .second, .val (.long q3), .second, .val (.long q4), .second, .val (.long v5), .second, .val (.long v12), .second, .val (.long v20), .second, .val (.long v28), .second, .val (.ref b1), .val (.long (0 : Int64)), .second, .val (.long v60), .second, .val (.long v76), .second, .val (.long v85), .second, .val (.long (own_term v20 v28)), .second] []))
  generalize hv94 : (own_term v20 v28) = v94
  refine GoW.st (fun t k => XS.lload X12.here hx rfl (hb hby at_96) rfl (XS.lconst X12.here hx rfl (hb hby at_98) (XS.lcmp X12.here hx rfl (hb hby at_99) rfl k))) ?_
  show GoW p e below QQ (T12.setTop (mkF m 100 #[.val (.long q1), .second, .val (.long q2), .second, .val (.long q3), .second, .val (.long q4), .second, .val (.long v5), .second, .val (.long v12), .second, .val (.long v20), .second, .val (.long v28), .second, .val (.ref b1), .val (.long (0 : Int64)), .second, .val (.long v60), .second, .val (.long v76), .second, .val (.long v85), .second, .val (.long v94), .second] [(.int (lcmpW (0 : Int64) (0 : Int64)))]))
  have hc100 : (0 : Int64) = (0 : Int64) := by decide
  refine GoW.st (fun t k => XS.ifNo X12.here hx rfl (hb hby at_100) rfl ((if0 _ _).trans (teq ((lw_eq (0 : Int64) (0 : Int64)).mpr hc100)).2) (XS.lload X12.here hx rfl (hb hby at_103) rfl (XS.lload X12.here hx rfl (hb hby at_105) rfl (XS.lcmp X12.here hx rfl (hb hby at_107) rfl k)))) ?_
  show GoW p e below QQ (T12.setTop (mkF m 108 #[.val (.long q1), .second, .val (.long q2), .second, .val (.long q3), .second, .val (.long q4), .second, .val (.long v5), .second, .val (.long v12), .second, .val (.long v20), .second, .val (.long v28), .second, .val (.ref b1), .val (.long (0 : Int64)), .second, .val (.long v60), .second, .val (.long v76), .second, .val (.long v85), .second, .val (.long v94), .second] [(.int (lcmpW v60 v85))]))
  have hc108 : v60 = v85 := by
    subst hv60 hv85
    rw [own_term_eq, Int64.zero_add]
  refine GoW.st (fun t k => XS.ifNo X12.here hx rfl (hb hby at_108) rfl ((if0 _ _).trans (teq ((lw_eq v60 v85).mpr hc108)).2) (XS.lload X12.here hx rfl (hb hby at_111) rfl (XS.lload X12.here hx rfl (hb hby at_113) rfl (XS.lload X12.here hx rfl (hb hby at_115) rfl (XS.ladd X12.here hx rfl (hb hby at_117) rfl (XS.lcmp X12.here hx rfl (hb hby at_118) rfl k)))))) ?_
  show GoW p e below QQ (T12.setTop (mkF m 119 #[.val (.long q1), .second, .val (.long q2), .second, .val (.long q3), .second, .val (.long q4), .second, .val (.long v5), .second, .val (.long v12), .second, .val (.long v20), .second, .val (.long v28), .second, .val (.ref b1), .val (.long (0 : Int64)), .second, .val (.long v60), .second, .val (.long v76), .second, .val (.long v85), .second, .val (.long v94), .second] [(.int (lcmpW v76 (v85 + v94)))]))
  have hc119 : v76 = (v85 + v94) := by
    subst hv76 hv85 hv94
    rw [own_term_eq, own_term_eq, Int64.zero_add]
  refine GoW.st (fun t k => XS.ifNo X12.here hx rfl (hb hby at_119) rfl ((if0 _ _).trans (teq ((lw_eq v76 (v85 + v94)).mpr hc119)).2) (XS.iconst X12.here hx rfl (hb hby at_122) (XS.goto X12.here hx rfl (pc0 := 123) (pc' := 127) rfl (hb hby at_123) (by decide) (by decide) k))) ?_
  show GoW p e below QQ (T12.setTop (mkF m 127 #[.val (.long q1), .second, .val (.long q2), .second, .val (.long q3), .second, .val (.long q4), .second, .val (.long v5), .second, .val (.long v12), .second, .val (.long v20), .second, .val (.long v28), .second, .val (.ref b1), .val (.long (0 : Int64)), .second, .val (.long v60), .second, .val (.long v76), .second, .val (.long v85), .second, .val (.long v94), .second] [(.int (1 : Int32))]))
  exact GoW.fin X12 (some (.int (nar .boolean (1 : Int32)))) (fun q => by rw [hret] at q; cases q) hlk hQ hh12 ⟨rfl, N12⟩ (by decide) (by decide) (fun fs hr => retN X12 hx (t := .boolean) hret (by simp) (hb hby at_127) hr)
set_option maxRecDepth 65536 in
set_option maxHeartbeats 40000000 in
theorem comes_1 {Post : Tables → Env → Array Value → State → Outcome → State → Prop} (hpost : ∀ tb e args s v u, (limb_1_1.after args s (.returned v) u = true ∧ limb_1_2.after args s (.returned v) u = true ∧ True) → FrameEnd s (.returned v) u (Jvm.fieldLocs frame_1_writes args s ++ Jvm.arrayLocs frame_1_arrays args s ++ Jvm.staticLocs frame_1_statics s) 16 128 → Post tb e args s (.returned v) u) :
    ArmFor flags0 classFile x code maxLocals ret World_1 tables_1 room_1 Calls_1 rest_1 Pre_1 Post := by
  intro l hfl _ _ p e ha hc hk s m args below hf hA hF happ hP
  obtain ⟨hcalls, hrest, hpre⟩ := hP
  obtain ⟨-, -, -, hnamed, -, -, -, hat⟩ := (Spec.applies_iff hf).mp happ
  obtain ⟨hg, hn⟩ := and_e (Cond.before_iff.mp (show (Jvm.Cond.and given_1 narrow_1).before args s = true from hpre))
  obtain ⟨gcount, gr0⟩ := and_e hg
  obtain ⟨ga0, gr1⟩ := and_e gr0
  obtain ⟨ga1, gr2⟩ := and_e gr1
  obtain ⟨ga2, gr3⟩ := and_e gr2
  obtain ⟨w0, w1, w2, w3, rfl⟩ : ∃ w0 w1 w2 w3 : Value, args = #[w0, w1, w2, w3] := by
    have hs : args.size = 4 := by simpa [Cond.value, given_1] using gcount
    obtain ⟨L⟩ := args
    match L, hs with
    | [w0, w1, w2, w3], _ => exact ⟨w0, w1, w2, w3, rfl⟩
  have hw := fun d (hd : d ∈ tables_1) => atoms_spec (ws := Jvm.Cond.code x code maxLocals ret :: tables_1) hat d (List.mem_cons_of_mem _ hd)
  obtain ⟨i0, ei0⟩ := isL_v ga0
  obtain rfl : w0 = (.long i0) := Option.some.inj ei0
  obtain ⟨i1, ei1⟩ := isL_v ga1
  obtain rfl : w1 = (.long i1) := Option.some.inj ei1
  obtain ⟨i2, ei2⟩ := isL_v ga2
  obtain rfl : w2 = (.long i2) := Option.some.inj ei2
  obtain ⟨i3, ei3⟩ := isL_v gr3
  obtain rfl : w3 = (.long i3) := Option.some.inj ei3
  obtain ⟨n, o, h1, h2, h3, _, L, rfl, ⟨rfl, N⟩, hq⟩ := rm0 l s _ hw tables_1 i0 i1 i2 i3 s.heap s.heap.size (Nat.le_refl _) (Nat.le_refl _) p e ha hc hk s m _ below hf ((Spec.applies_iff_loose hf).mp happ).1 ⟨rfl, State.Warmed39.refl s, rfl⟩ trivial
  refine ⟨n, _, h1, h2, h3, hpost _ _ _ _ _ _ ⟨Cond.after_iff.mpr rfl, Cond.after_iff.mpr (eq_i res_at (Term.int_eval (1)) rfl), trivial⟩ ⟨hq.1, hq.2.1, (hq.2.2.sift fun y hy => Or.inr (N y hy)).mono (by decide) (by decide)⟩⟩
theorem main_1_1 : Claimed_1_1 := comes_1 fun _ _ _ _ _ _ h hF => ⟨h.1, hF⟩
theorem main_1_2 : Claimed_1_2 := comes_1 fun _ _ _ _ _ _ h hF => ⟨h.2.1, hF⟩
end Jvm.Pilot.@@N@@
namespace Jvm.Pilot.@@N@@
open Jvm Jvm.ClassFile Sem Op Lib Jvm.Free Jvm.Stand Jvm.Pilot.@@N@@.Jvm.D
/-! MADE BY PROGRAM (witnessworld.py) out of the Statement's table words and the real class files: 9 classes; the members and pool entries that the words name. The judged class is class 1, her method 1. -/
namespace start1
open Jvm.ClassFile
def u (s : String) : CpInfo := .utf8 (stringToUtf16 s)
/-- a pool by its gaps: so many unusable entries, then the entry; so many at the end -/
def gap : Nat → List CpInfo → List CpInfo
  | 0, r => r
  | n + 1, r => .unusable :: gap n r
def poolList (es : List (Nat × CpInfo)) (last : Nat) : List CpInfo := es.foldr (fun e r => gap e.1 (e.2 :: r)) (gap last [])
def pool (es : List (Nat × CpInfo)) (last : Nat) : Array CpInfo := ⟨poolList es last⟩
def fileOf (pool : Array CpInfo) (this : Nat) (attrs : Array Attribute := #[]) (ms : Array MethodInfo := #[]) (fl : Nat := 33) (sup : Nat := 0) (ifs : Array Nat := #[]) (fds : Array FieldInfo := #[]) : ClassFile where
  minorVersion := 0
  majorVersion := 65
  constantPool := pool
  accessFlags := fl
  thisClass := this
  superClass := sup
  interfaces := ifs
  fields := fds
  methods := ms
  attributes := attrs
def plain (name : String) (sup : Option ClassId) : Class where
  name := name
  kind := .ordinary
  loader := none
  accessFlags := 33
  super := sup
  interfaces := #[]
  cf := none
  fields := #[]
  methods := #[]
  instanceTypes := #[]
  staticTypes := #[]
  resolved := #[]
  callSites := []
  init := .initialized
  statics := none
  mirror := none

def pool0 : Array CpInfo := pool [(5, u "<init>"), (0, u "()V"), (1, .class_ 10), (1, u "java/lang/Object")] 113

def k0c0 : Code := { maxStack := 0, maxLocals := 1, code := object_method_1_code, exceptionTable := #[], attributes := #[] }
def k0m0 : Method := { name := "<init>", desc := "()V", sig := { parameters := [], returnType := none }, accessFlags := 1, code := some k0c0 }
/-- java/lang/Object -/
def k0 : Class := { plain "java/lang/Object" none with
  accessFlags := 33
  interfaces := #[]
  cf := some (fileOf pool0 8 #[] #[{ accessFlags := 1, nameIndex := 5, descriptorIndex := 6, attributes := #[] }] 33 0 #[] #[])
  fields := #[]
  methods := #[k0m0]
  instanceTypes := #[]
  staticTypes := #[]
  resolved := Array.replicate 124 none
  statics := none }

def pool1 : Array CpInfo := pool [(2, .class_ 4), (0, .nameAndType 5 6), (0, u "java/lang/Object"), (0, u "<init>"), (0, u "()V"), (2, .long 9223372036854775807), (1, .class_ 12), (0, u "com/example/evenkeel/evenkeel/ResultChecksum"), (0, .methodref 11 3), (0, .methodref 11 15), (0, .nameAndType 16 17), (0, u "bits"), (0, u "()J"), (0, .methodref 11 19), (0, .nameAndType 20 21), (0, u "add"), (0, u "(JJ)V"), (0, .methodref 23 24), (0, .class_ 25), (0, .nameAndType 26 27), (0, u "com/example/evenkeel/evenkeel/ResultChecksumAddPinLaw"), (0, u "term"), (0, u "(JJ)J"), (2, u "law"), (0, u "(JJJJ)Z")] 3

def k1m0 : Method := { name := "<init>", desc := "()V", sig := { parameters := [], returnType := none }, accessFlags := 1, code := none }
def k1c1 : Code := { maxStack := 6, maxLocals := 27, code := code, exceptionTable := #[], attributes := #[] }
def k1m1 : Method := { name := "law", desc := "(JJJJ)Z", sig := { parameters := [.long, .long, .long, .long], returnType := some .boolean }, accessFlags := 9, code := some k1c1 }
def k1c2 : Code := { maxStack := 4, maxLocals := 4, code := method_3_code, exceptionTable := #[], attributes := #[] }
def k1m2 : Method := { name := "term", desc := "(JJ)J", sig := { parameters := [.long, .long], returnType := some .long }, accessFlags := 10, code := some k1c2 }
/-- com/example/evenkeel/evenkeel/ResultChecksumAddPinLaw -/
def k1 : Class := { plain "com/example/evenkeel/evenkeel/ResultChecksumAddPinLaw" (some 0) with
  accessFlags := 49
  interfaces := #[]
  cf := some (fileOf pool1 23 #[] #[{ accessFlags := 1, nameIndex := 5, descriptorIndex := 6, attributes := #[] }, { accessFlags := 9, nameIndex := 30, descriptorIndex := 31, attributes := #[] }, { accessFlags := 10, nameIndex := 26, descriptorIndex := 27, attributes := #[] }] 49 2 #[] #[])
  fields := #[]
  methods := #[k1m0, k1m1, k1m2]
  instanceTypes := #[]
  staticTypes := #[]
  resolved := Array.replicate 35 none
  statics := none }

def pool2 : Array CpInfo := pool [(1, .methodref 2 3), (0, .class_ 4), (0, .nameAndType 5 6), (0, u "java/lang/Object"), (0, u "<init>"), (0, u "()V"), (9, .fieldref 17 18), (0, .class_ 19), (0, .nameAndType 20 21), (0, u "com/example/evenkeel/evenkeel/ResultChecksum"), (0, u "sum"), (0, u "J"), (8, u "add"), (0, u "(JJ)V"), (3, u "bits"), (0, u "()J")] 19

def k2c0 : Code := { maxStack := 1, maxLocals := 1, code := prog_15_method_1_code, exceptionTable := #[], attributes := #[] }
def k2m0 : Method := { name := "<init>", desc := "()V", sig := { parameters := [], returnType := none }, accessFlags := 1, code := some k2c0 }
def k2c1 : Code := { maxStack := 9, maxLocals := 5, code := prog_15_method_2_code, exceptionTable := #[], attributes := #[] }
def k2m1 : Method := { name := "add", desc := "(JJ)V", sig := { parameters := [.long, .long], returnType := none }, accessFlags := 1, code := some k2c1 }
def k2c2 : Code := { maxStack := 2, maxLocals := 1, code := prog_15_method_4_code, exceptionTable := #[], attributes := #[] }
def k2m2 : Method := { name := "bits", desc := "()J", sig := { parameters := [], returnType := some .long }, accessFlags := 1, code := some k2c2 }
/-- com/example/evenkeel/evenkeel/ResultChecksum -/
def k2 : Class := { plain "com/example/evenkeel/evenkeel/ResultChecksum" (some 0) with
  accessFlags := 49
  interfaces := #[]
  cf := some (fileOf pool2 17 #[] #[{ accessFlags := 1, nameIndex := 5, descriptorIndex := 6, attributes := #[] }, { accessFlags := 1, nameIndex := 30, descriptorIndex := 31, attributes := #[] }, { accessFlags := 1, nameIndex := 35, descriptorIndex := 36, attributes := #[] }] 49 2 #[] #[{ accessFlags := 2, nameIndex := 20, descriptorIndex := 21, attributes := #[] }])
  fields := #[{ name := "sum", type := .long, accessFlags := 2, slot := 0, constantValue := 0 }]
  methods := #[k2m0, k2m1, k2m2]
  instanceTypes := #[.long]
  staticTypes := #[]
  resolved := Array.replicate 56 none
  statics := none }

def pool3 : Array CpInfo := pool [(1, u "java/lang/Cloneable"), (0, .class_ 1), (0, u "java/lang/Object"), (0, .class_ 3)] 3

/-- java/lang/Cloneable -/
def k3 : Class := { plain "java/lang/Cloneable" (some 0) with
  accessFlags := 1537
  interfaces := #[]
  cf := some (fileOf pool3 2 #[] #[] 1537 4 #[] #[])
  fields := #[]
  methods := #[]
  instanceTypes := #[]
  staticTypes := #[]
  resolved := Array.replicate 8 none
  statics := none }

def pool4 : Array CpInfo := pool [(1, u "java/io/Serializable"), (0, .class_ 1), (0, u "java/lang/Object"), (0, .class_ 3)] 3

/-- java/io/Serializable -/
def k4 : Class := { plain "java/io/Serializable" (some 0) with
  accessFlags := 1537
  interfaces := #[]
  cf := some (fileOf pool4 2 #[] #[] 1537 4 #[] #[])
  fields := #[]
  methods := #[]
  instanceTypes := #[]
  staticTypes := #[]
  resolved := Array.replicate 8 none
  statics := none }

/-- the primitive byte -/
def k5 : Class := { plain "byte" none with kind := .primitive 'B', accessFlags := 0x411 }
/-- [B -/
def k6 : Class := { plain "[B" (some 0) with kind := .array 5 .byte, interfaces := #[3, 4], accessFlags := 1041 }

/-- the primitive int -/
def k7 : Class := { plain "int" none with kind := .primitive 'I', accessFlags := 0x411 }
/-- [I -/
def k8 : Class := { plain "[I" (some 0) with kind := .array 7 .int, interfaces := #[3, 4], accessFlags := 1041 }

def heap : Heap := #[]
def classes : Array Class := #[k0, k1, k2, k3, k4, k5, k6, k7, k8]
def interned : List (Array UInt16 × Addr) := []
def slotsUsed : Nat := 0
def theMethod : MethodId := ⟨1, 1⟩
def args0 : Array Value := #[.long 5, .long 6, .long 7, .long 8]
def aboutOver (below : List Frame) : State where
  vm := { classes := classes, interned := interned.toArray }
  heap := heap
  slotsUsed := slotsUsed
  threads := #[{ frames := .invoking theMethod args0 :: below }]
def below0 : List Frame := [.native { method := ⟨0, 0⟩, args := #[] }]
def about1 : State := aboutOver below0
def p0 : Program := .bare "" "" ""
def e0 : Env := launch0.env 0 0 0
theorem w_frames : about1.frames = Frame.invoking theMethod args0 :: below0 := rfl
set_option maxRecDepth 65536 in
theorem w_args : argsFit about1.vm theMethod args0 = true := by decide +kernel
set_option maxRecDepth 65536 in
theorem w_heap : heapFits about1 = true := by decide +kernel
set_option maxRecDepth 65536 in
theorem w_runnable : about1.curStatus? = some .runnable := by decide +kernel
set_option maxRecDepth 65536 in
theorem w_alone : about1.alone = true := by decide +kernel
set_option maxRecDepth 65536 in
theorem w_named : about1.methodNamed? x = some theMethod := by decide +kernel
set_option maxRecDepth 65536 in
theorem w_hears : about1.hears theMethod below0 = true := by decide +kernel
set_option maxRecDepth 65536 in
theorem w_ripe : about1.ripe theMethod args0 below0 = true := by decide +kernel
theorem w_running : about1.status = .running := rfl
set_option maxRecDepth 65536 in
theorem w_room : about1.hasRoom e0.platform room_1 = true :=
  launch0.hasRoom_least _ room_1 (by decide +kernel) (by decide +kernel) (by decide +kernel) (by decide +kernel) (by decide +kernel) (by decide +kernel)
theorem allAtoms_all (ts : List Jvm.Cond) (a : Array Jvm.Value) (st : Jvm.State) : (allAtoms ts).before a st = ts.all (fun c => c.before a st) := by
  induction ts with
  | nil => rfl
  | cons c t ih =>
    show (Jvm.Cond.and c (allAtoms t)).before a st = _
    rw [Jvm.Cond.before_and, ih, List.all_cons]
def words1 : List Jvm.Cond := Jvm.Cond.code x code maxLocals ret :: tables_1
/-- a 'code' word, met by the world's own term for the bytes: nothing is compared byte by byte -/
theorem code_word {y : MethodName} {bytes : ByteArray} {mx : Nat} {rt : Option FieldType} {a : Array Value} {s : State} {m : MethodId} {meth : Method} {c : Code} (h1 : s.methodNamed? y = some m) (h2 : s.vm.method? m = some meth) (h3 : meth.code = some c) (h4 : c.code = bytes)
    (h5 : (c.maxLocals == mx && c.exceptionTable.isEmpty && decide (c.maxStack ≤ mostOperands) && decide (meth.sig.returnType = rt) && !meth.locks && decide (parseMethodDescriptor y.desc = some meth.sig)) = true) : (Jvm.Cond.code y bytes mx rt).before a s = true := by
  simp only [Bool.and_eq_true, beq_iff_eq, Bool.not_eq_true', decide_eq_true_eq] at h5
  obtain ⟨⟨⟨⟨⟨g1, g2⟩, g3⟩, g4⟩, g5⟩, g6⟩ := h5
  simp [Cond.before, Cond.holds, Cond.value, h1, h2, h3, h4, g1, g2, g3, g4, g5, g6]
def isCode : Jvm.Cond → Bool
  | .code _ _ _ _ => true
  | _ => false
theorem all_split {L : List Jvm.Cond} {P : Jvm.Cond → Bool} (h1 : L.all (fun c => isCode c || P c) = true) (h2 : ∀ c ∈ L.filter isCode, P c = true) : L.all P = true := by
  refine List.all_eq_true.mpr fun c hc => ?_
  have h := List.all_eq_true.mp h1 c hc
  rcases Bool.eq_false_or_eq_true (isCode c) with hi | hi
  · exact h2 c (List.mem_filter.mpr ⟨hc, hi⟩)
  · simpa [hi] using h
set_option maxRecDepth 65536 in
theorem w_c0 : (Jvm.Cond.code x code maxLocals ret).before args0 about1 = true := code_word (m := ⟨1, 1⟩) (meth := k1m1) (c := k1c1) (by decide +kernel) rfl rfl rfl (by decide +kernel)
set_option maxRecDepth 65536 in
theorem w_c1 : (Jvm.Cond.code ({ cls := "com/example/evenkeel/evenkeel/ResultChecksum", name := "<init>", desc := "()V" } : Jvm.MethodName) prog_15_method_1_code (1 : Nat) (Option.none : Option Jvm.ClassFile.FieldType)).before args0 about1 = true := code_word (m := ⟨2, 0⟩) (meth := k2m0) (c := k2c0) (by decide +kernel) rfl rfl rfl (by decide +kernel)
set_option maxRecDepth 65536 in
theorem w_c2 : (Jvm.Cond.code ({ cls := "java/lang/Object", name := "<init>", desc := "()V" } : Jvm.MethodName) object_method_1_code (1 : Nat) (Option.none : Option Jvm.ClassFile.FieldType)).before args0 about1 = true := code_word (m := ⟨0, 0⟩) (meth := k0m0) (c := k0c0) (by decide +kernel) rfl rfl rfl (by decide +kernel)
set_option maxRecDepth 65536 in
theorem w_c3 : (Jvm.Cond.code ({ cls := "com/example/evenkeel/evenkeel/ResultChecksum", name := "bits", desc := "()J" } : Jvm.MethodName) prog_15_method_4_code (1 : Nat) (Option.some Jvm.ClassFile.FieldType.long)).before args0 about1 = true := code_word (m := ⟨2, 2⟩) (meth := k2m2) (c := k2c2) (by decide +kernel) rfl rfl rfl (by decide +kernel)
set_option maxRecDepth 65536 in
theorem w_c4 : (Jvm.Cond.code ({ cls := "com/example/evenkeel/evenkeel/ResultChecksum", name := "add", desc := "(JJ)V" } : Jvm.MethodName) prog_15_method_2_code (5 : Nat) (Option.none : Option Jvm.ClassFile.FieldType)).before args0 about1 = true := code_word (m := ⟨2, 1⟩) (meth := k2m1) (c := k2c1) (by decide +kernel) rfl rfl rfl (by decide +kernel)
set_option maxRecDepth 65536 in
theorem w_c5 : (Jvm.Cond.code ({ cls := "com/example/evenkeel/evenkeel/ResultChecksumAddPinLaw", name := "term", desc := "(JJ)J" } : Jvm.MethodName) method_3_code (4 : Nat) (Option.some Jvm.ClassFile.FieldType.long)).before args0 about1 = true := code_word (m := ⟨1, 2⟩) (meth := k1m2) (c := k1c2) (by decide +kernel) rfl rfl rfl (by decide +kernel)
def codes1 : List Jvm.Cond := [Jvm.Cond.code x code maxLocals ret, Jvm.Cond.code ({ cls := "com/example/evenkeel/evenkeel/ResultChecksum", name := "<init>", desc := "()V" } : Jvm.MethodName) prog_15_method_1_code (1 : Nat) (Option.none : Option Jvm.ClassFile.FieldType), Jvm.Cond.code ({ cls := "java/lang/Object", name := "<init>", desc := "()V" } : Jvm.MethodName) object_method_1_code (1 : Nat) (Option.none : Option Jvm.ClassFile.FieldType), Jvm.Cond.code ({ cls := "com/example/evenkeel/evenkeel/ResultChecksum", name := "bits", desc := "()J" } : Jvm.MethodName) prog_15_method_4_code (1 : Nat) (Option.some Jvm.ClassFile.FieldType.long), Jvm.Cond.code ({ cls := "com/example/evenkeel/evenkeel/ResultChecksum", name := "add", desc := "(JJ)V" } : Jvm.MethodName) prog_15_method_2_code (5 : Nat) (Option.none : Option Jvm.ClassFile.FieldType), Jvm.Cond.code ({ cls := "com/example/evenkeel/evenkeel/ResultChecksumAddPinLaw", name := "term", desc := "(JJ)J" } : Jvm.MethodName) method_3_code (4 : Nat) (Option.some Jvm.ClassFile.FieldType.long)]
set_option maxRecDepth 65536 in
theorem codes_eq : words1.filter isCode = codes1 := rfl
theorem w_codes : ∀ c ∈ words1.filter isCode, c.before args0 about1 = true := by
  rw [codes_eq]
  intro c hc
  simp only [codes1, List.mem_cons, List.not_mem_nil, or_false] at hc
  rcases hc with rfl | rfl | rfl | rfl | rfl | rfl
  · exact w_c0
  · exact w_c1
  · exact w_c2
  · exact w_c3
  · exact w_c4
  · exact w_c5
set_option maxRecDepth 65536 in
theorem w_t1 : (words1.take 24).all (fun c => isCode c || c.before args0 about1) = true := by decide +kernel
set_option maxRecDepth 65536 in
theorem w_t2 : (words1.drop 24).all (fun c => isCode c || c.before args0 about1) = true := by decide +kernel
theorem w_tables : (allAtoms (Jvm.Cond.code x code maxLocals ret :: tables_1)).before args0 about1 = true := by
  rw [allAtoms_all]
  show words1.all (fun c => c.before args0 about1) = true
  refine all_split ?_ w_codes
  rw [← List.take_append_drop 24 words1, List.all_append, w_t1, w_t2]
  rfl
set_option maxRecDepth 65536 in
theorem w_case : (Jvm.Cond.and given_1 narrow_1).before args0 about1 = true := by decide +kernel
theorem w_applies : (headSpec (Jvm.Cond.code x code maxLocals ret :: tables_1) room_1).applies x e0.platform about1 = true :=
  (Spec.applies_iff w_frames).mpr ⟨w_running, w_runnable, w_alone, w_named, w_hears, w_ripe, w_room, w_tables⟩
theorem atStart : AtStart classFile x code maxLocals ret World_1 tables_1 room_1 Calls_1 rest_1 Pre_1 launch0 p0 e0 about1 theMethod args0 below0 :=
  ⟨lists_1, trivial, launch0.admits_env _ _ _, launch0.least_env, fairChoices_fair.cas, fairChoices_fair.clock, w_frames, w_args, w_heap, w_applies, trivial, trivial, w_case⟩
end start1
theorem witness_1 : WitnessClaimed_1 := ⟨start1.p0, start1.e0, start1.about1, start1.theMethod, start1.args0, start1.below0, start1.atStart⟩
end Jvm.Pilot.@@N@@
