import JvmDerived
import JvmDerived.Pilot.@@N@@Statement
import JvmDerived.Pilot.@@N@@Code
set_option linter.unusedVariables false
set_option linter.unusedSimpArgs false
namespace Jvm.RoadKit
open Sem ClassFile Op Lib Jvm.Stand Jvm.Free Jvm.LawKit
section Own
variable {p : Program} {l : Launch} {e : Env} {R : Room} {s : State} {m : MethodId} {args : Array Value} {below : List Frame} {meth : Method} {c : Code} {T : State} {locs : List Loc} {cells slots : Nat}
theorem retI (X : Stand p l e R s m args below meth c T locs cells slots) (hx : p.tables.exec = Jvm.exec) {pc : Nat} {Ls : Array Slot} {z : Int32} {rest : List Value} (hret : meth.sig.returnType = some .int) (hd : decode c.code pc = .ok (.ireturn, 1)) {fs : List Frame}
    (hl : ∀ (f : JFrame) (acts : List Action), f.method = m → f.locked = none → f.entered = [] → (doReturn e (T.setTop f) acts (some (.int z))).1 = T.setFrames fs) : Steps p.tables e below (T.setTop (mkF m pc Ls (.int z :: rest))) (T.setFrames fs) := by
  have hm' : T.vm.method? m = some meth := X.method'
  have hn : narrow .int (.int z) = .int z := rfl
  show Steps p.tables e below (T.setTop { method := m, pc := pc, locals := Ls, stack := _ :: rest, locked := none }) _
  jvm_step X.here [X.here.top, hx, hd, hm', hret, hn]
  first | (intro acts; rw [hl _ acts rfl rfl rfl]) | rw [hl _ _ rfl rfl rfl]
  exact Steps.refl _
/-- the run comes from the state A to its end, and the end is as QQ says -/
def GoW (p : Program) (e : Env) (below : List Frame) (QQ : Outcome → State → Prop) (A : State) : Prop :=
  ∃ s₂ o, Steps p.tables e below A s₂ ∧ s₂.status = .running ∧ Ended s₂ below o ∧ QQ o s₂
theorem GoW.st {QQ : Outcome → State → Prop} {A B : State} (h : ∀ t, Steps p.tables e below B t → Steps p.tables e below A t) (g : GoW p e below QQ B) : GoW p e below QQ A := by
  obtain ⟨s₂, o, h1, h2⟩ := g
  exact ⟨s₂, o, h _ h1, h2⟩
/-- what an end with the value v, the heap and the written places must say -/
def EndsW (s : State) (Q : Option Value → Heap → List Loc → Prop) (cl sl : Nat) (QQ : Outcome → State → Prop) : Prop :=
  ∀ (v : Option Value) (L : List Loc) (T : State), Q v T.heap L → FrameEnd s (.returned v) T L cl sl → QQ (.returned v) T
theorem GoW.fin {Q : Option Value → Heap → List Loc → Prop} {cl sl : Nat} {QQ : Outcome → State → Prop} {A : State} (X : Stand p l e R s m args below meth c T locs cells slots) (v : Option Value) (hv : meth.sig.returnType = none → v = none) (hlk : meth.locks = false) (hQ : EndsW s Q cl sl QQ) {h : Heap} (eT : T.heap = h)
    (q : Q v h locs) (hc : cells ≤ cl) (hs : slots ≤ sl)
    (st : ∀ fs, (∀ (f : JFrame) (acts : List Action), f.method = m → f.locked = none → f.entered = [] → (doReturn e (T.setTop f) acts v).1 = T.setFrames fs) → Steps p.tables e below A (T.setFrames fs)) : GoW p e below QQ A := by
  obtain ⟨fs, hr, hrun, hended, hW, hsame⟩ := X.leave (v := v) hv hlk
  subst eT
  exact ⟨_, _, st fs hr, hrun, hended, hQ _ _ _ q ⟨⟨_, rfl⟩, hW, hsame.mono hc hs⟩⟩
theorem met_of {y : MethodName} {bytes : ByteArray} {maxL : Nat} {ret : Option FieldType} {ws : List Cond} {as' : Array Value} {Z : State} {h0 : Heap} {Q : Option Value → Heap → List Loc → Prop} {cl sl : Nat} (hp : plainFor y = true) {Ls : Array Slot} (ef : ∀ m, entryFrame m as' maxL = mkF m 0 Ls [])
    (core : ∀ (p : Program) (e : Env) (s : State) (m : MethodId) (below : List Frame) (meth : Method) (c : Code) (T : State) (QQ : Outcome → State → Prop), p.tables.exec = Jvm.exec → Z.Warmed39 s.vm → c.code = bytes → c.maxLocals = maxL → s.vm.findClass y.cls = some m.cls → meth.name = y.name → meth.sig.returnType = ret → meth.locks = false →
      Stand p l e R s m as' below meth c T [] 0 0 → T.heap = h0 → EndsW s Q cl sl QQ → GoW p e below QQ (T.setTop (mkF m 0 Ls []))) :
    MetFree l y (head1 (Cond.code y bytes maxL ret :: ws) R) (fun a U => a = as' ∧ Z.Warmed39 U.vm ∧ U.heap = h0) (fun _ _ _ _ _ => True) (fun _ U o U' => ∃ v L, o = .returned v ∧ Q v U'.heap L ∧ FrameEnd U o U' L cl sl) := by
  refine MetFree.of_bodySF hp hisR ?_
  intro p e s m args below meth c s₁ Bd hml0 hP hK
  obtain ⟨rfl, hZ, hh⟩ := hP
  obtain ⟨s₂, o, g1, g2, g3, g4⟩ := core p e s m below meth c s₁ (fun o U' => ∃ v L, o = .returned v ∧ Q v U'.heap L ∧ FrameEnd s o U' L cl sl) Bd.exec hZ Bd.bytes hml0 (findClass_of_methodNamed Bd.named) (name_of_methodNamed Bd.named Bd.method).1 Bd.returns Bd.notSynchronized (Stand.of_body Bd) (by rw [← hh, Bd.state]; rfl) (fun v L T q f => ⟨v, L, rfl, q, f⟩)
  exact ⟨s₂, o, castTop (ef m) g1, g2, g3, g4⟩
theorem standUp (X : Stand p l e R s m args below meth c T locs cells slots) {cells' slots' : Nat} (hc : cells ≤ cells') (hs : slots ≤ slots') : Stand p l e R s m args below meth c T locs cells' slots' :=
  { X with same := X.same.mono hc hs }
theorem lremM {g : JFrame} {target : State} (X : Stand p l e R s m args below meth c T locs cells slots) (hx : p.tables.exec = Jvm.exec) (hg : g.method = m) {x y : Int64} {rest : List Value} (hd : decode c.code g.pc = .ok (.lrem, 1)) (hs : g.stack = .long y :: .long x :: rest) (hy : y ≠ 0)
    (hr : Steps p.tables e below (T.setTop { g with pc := g.pc + 1, stack := .long (x % y) :: rest }) target) : Steps p.tables e below (T.setTop g) target := by
  have q : x - x / y * y = x % y := lrem_mod x y
  exact XS.lrem X.here hx hg hd hs hy (by rw [q]; exact hr)
theorem ldVI {Z : State} {h : Heap} {a : Addr} {kc : ClassId} {z j : Int32} {vs : List Value} {dv v : Value} (X : Stand p l e R s m args below meth c T locs cells slots) (hx : p.tables.exec = Jvm.exec) (hZ : Z.Warmed39 s.vm) (eT : T.heap = h) (F : Arv Z h a kc .int z vs dv) (hj : ¬ j < 0 ∧ j < z) (hv : vs.getD j.toNatClampNeg dv = v)
    {g : JFrame} (hg : g.method = m) {rest : List Value} (hs : g.stack = .int j :: .ref a :: rest) (hd : decode c.code g.pc = .ok (.iaload, 1)) (t : State) (k : Steps p.tables e below (T.setTop { g with pc := g.pc + 1, stack := v :: rest }) t) : Steps p.tables e below (T.setTop g) t := by
  obtain ⟨c', A, -, S, -, H, -⟩ := F
  have i := inb_of S hj
  exact X.iaload hx (by rw [eT]; exact A.1) (State.isArrayOf_alike hZ.alike A.2.1) A.2.2 i (H.at i hv) hg hs hd t k
theorem ldVJ {Z : State} {h : Heap} {a : Addr} {kc : ClassId} {z j : Int32} {vs : List Value} {dv v : Value} (X : Stand p l e R s m args below meth c T locs cells slots) (hx : p.tables.exec = Jvm.exec) (hZ : Z.Warmed39 s.vm) (eT : T.heap = h) (F : Arv Z h a kc .long z vs dv) (hj : ¬ j < 0 ∧ j < z) (hv : vs.getD j.toNatClampNeg dv = v)
    {g : JFrame} (hg : g.method = m) {rest : List Value} (hs : g.stack = .int j :: .ref a :: rest) (hd : decode c.code g.pc = .ok (.laload, 1)) (t : State) (k : Steps p.tables e below (T.setTop { g with pc := g.pc + 1, stack := v :: rest }) t) : Steps p.tables e below (T.setTop g) t := by
  obtain ⟨c', A, -, S, -, H, -⟩ := F
  have i := inb_of S hj
  exact X.laload hx (by rw [eT]; exact A.1) (State.isArrayOf_alike hZ.alike A.2.1) A.2.2 i (H.at i hv) hg hs hd t k
theorem ldVB {Z : State} {h : Heap} {a : Addr} {kc : ClassId} {z j : Int32} {vs : List Value} {dv v : Value} (X : Stand p l e R s m args below meth c T locs cells slots) (hx : p.tables.exec = Jvm.exec) (hZ : Z.Warmed39 s.vm) (eT : T.heap = h) (F : Arv Z h a kc .byte z vs dv) (hj : ¬ j < 0 ∧ j < z) (hv : vs.getD j.toNatClampNeg dv = v)
    {g : JFrame} (hg : g.method = m) {rest : List Value} (hs : g.stack = .int j :: .ref a :: rest) (hd : decode c.code g.pc = .ok (.baload, 1)) (t : State) (k : Steps p.tables e below (T.setTop { g with pc := g.pc + 1, stack := v :: rest }) t) : Steps p.tables e below (T.setTop g) t := by
  obtain ⟨c', A, -, S, -, H, -⟩ := F
  have i := inb_of S hj
  exact X.baloadBytes hx (by rw [eT]; exact A.1) (State.isArrayOf_alike hZ.alike A.2.1) A.2.2 i (H.at i hv) hg hs hd t k
theorem stVI {Z : State} {h : Heap} {a : Addr} {kc : ClassId} {z j : Int32} {vs : List Value} {dv : Value} {x : Int32} (X : Stand p l e R s m args below meth c T locs cells slots) (hx : p.tables.exec = Jvm.exec) (hZ : Z.Warmed39 s.vm) (eT : T.heap = h) (F : Arv Z h a kc .int z vs dv) (hj : ¬ j < 0 ∧ j < z) (i : Nat) (hi : j.toNatClampNeg = i) (hl : i < vs.length)
    {g : JFrame} (hg : g.method = m) {rest : List Value} (hs : g.stack = (.int x) :: .int j :: .ref a :: rest) (hd : decode c.code g.pc = .ok (.iastore, 1)) :
    ∃ T' h', Stand p l e R s m args below meth c T' (locs ++ [⟨a, j.toNatClampNeg⟩]) cells slots ∧ T'.heap = h' ∧ Wr h h' a j.toNatClampNeg (.int x) ∧ Arv Z h' a kc .int z (vs.set i (.int x)) dv ∧ ∀ target, Steps p.tables e below (T'.setTop { g with pc := g.pc + 1, stack := rest }) target → Steps p.tables e below (T.setTop g) target := by
  obtain ⟨c', A, q, S, M, H, G⟩ := F
  obtain ⟨T', h', X', e', W', st⟩ := stI X hx hZ eT A (inb_of S hj) hg hs hd
  exact ⟨T', h', X', e', W', Arv.set A q S M H G rfl W' i hi hl, st⟩
theorem stVJ {Z : State} {h : Heap} {a : Addr} {kc : ClassId} {z j : Int32} {vs : List Value} {dv : Value} {x : Int64} (X : Stand p l e R s m args below meth c T locs cells slots) (hx : p.tables.exec = Jvm.exec) (hZ : Z.Warmed39 s.vm) (eT : T.heap = h) (F : Arv Z h a kc .long z vs dv) (hj : ¬ j < 0 ∧ j < z) (i : Nat) (hi : j.toNatClampNeg = i) (hl : i < vs.length)
    {g : JFrame} (hg : g.method = m) {rest : List Value} (hs : g.stack = (.long x) :: .int j :: .ref a :: rest) (hd : decode c.code g.pc = .ok (.lastore, 1)) :
    ∃ T' h', Stand p l e R s m args below meth c T' (locs ++ [⟨a, j.toNatClampNeg⟩]) cells slots ∧ T'.heap = h' ∧ Wr h h' a j.toNatClampNeg (.long x) ∧ Arv Z h' a kc .long z (vs.set i (.long x)) dv ∧ ∀ target, Steps p.tables e below (T'.setTop { g with pc := g.pc + 1, stack := rest }) target → Steps p.tables e below (T.setTop g) target := by
  obtain ⟨c', A, q, S, M, H, G⟩ := F
  obtain ⟨T', h', X', e', W', st⟩ := stJ X hx hZ eT A (inb_of S hj) hg hs hd
  exact ⟨T', h', X', e', W', Arv.set A q S M H G rfl W' i hi hl, st⟩
theorem stVB {Z : State} {h : Heap} {a : Addr} {kc : ClassId} {z j : Int32} {vs : List Value} {dv : Value} {x : Int32} (X : Stand p l e R s m args below meth c T locs cells slots) (hx : p.tables.exec = Jvm.exec) (hZ : Z.Warmed39 s.vm) (eT : T.heap = h) (F : Arv Z h a kc .byte z vs dv) (hj : ¬ j < 0 ∧ j < z) (i : Nat) (hi : j.toNatClampNeg = i) (hl : i < vs.length)
    {g : JFrame} (hg : g.method = m) {rest : List Value} (hs : g.stack = (.int x) :: .int j :: .ref a :: rest) (hd : decode c.code g.pc = .ok (.bastore, 1)) :
    ∃ T' h', Stand p l e R s m args below meth c T' (locs ++ [⟨a, j.toNatClampNeg⟩]) cells slots ∧ T'.heap = h' ∧ Wr h h' a j.toNatClampNeg (.int (nar .byte x)) ∧ Arv Z h' a kc .byte z (vs.set i (.int (nar .byte x))) dv ∧ ∀ target, Steps p.tables e below (T'.setTop { g with pc := g.pc + 1, stack := rest }) target → Steps p.tables e below (T.setTop g) target := by
  obtain ⟨c', A, q, S, M, H, G⟩ := F
  obtain ⟨T', h', X', e', W', st⟩ := stB X hx hZ eT A (inb_of S hj) hg hs hd
  exact ⟨T', h', X', e', W', Arv.set A q S M H G (fits_nar_byte _) W' i hi hl, st⟩
theorem lnV {Z : State} {h : Heap} {a : Addr} {kc : ClassId} {ty : FieldType} {z : Int32} {vs : List Value} {dv : Value} (X : Stand p l e R s m args below meth c T locs cells slots) (hx : p.tables.exec = Jvm.exec) (hZ : Z.Warmed39 s.vm) (eT : T.heap = h) (F : Arv Z h a kc ty z vs dv)
    {g : JFrame} (hg : g.method = m) {rest : List Value} (hs : g.stack = .ref a :: rest) (hd : decode c.code g.pc = .ok (.arraylength, 1)) (t : State) (k : Steps p.tables e below (T.setTop { g with pc := g.pc + 1, stack := .int z :: rest }) t) : Steps p.tables e below (T.setTop g) t := by
  obtain ⟨c', A, -, S, M, -, -⟩ := F
  refine X.arraylength hx (by rw [eT]; exact A.1) (State.isArrayOf_alike hZ.alike A.2.1) hg hs hd t ?_
  rw [len_of S M]; exact k
theorem gdI (vs : List Int32) (d : Int32) (i : Nat) : (vs.map Value.int).getD i (.int d) = .int (vs.getD i d) := by
  induction vs generalizing i with
  | nil => rfl
  | cons a t ih => cases i with
    | zero => rfl
    | succ i => simpa using ih i
theorem gdJ (vs : List Int64) (d : Int64) (i : Nat) : (vs.map Value.long).getD i (.long d) = .long (vs.getD i d) := by
  induction vs generalizing i with
  | nil => rfl
  | cons a t ih => cases i with
    | zero => rfl
    | succ i => simpa using ih i
end Own
end Jvm.RoadKit
namespace Jvm.Pilot.@@N@@
open Jvm Jvm.ClassFile Sem Op Lib Jvm.Free Jvm.Stand Jvm.LawKit Jvm.RoadKit Bundle Jvm.Pilot.@@N@@.Jvm.D
def own_exp (w t : Int64) : Int32 := if w = (0 : Int64) then (0 : Int32) else if t < w then (0 : Int32) else (1 : Int32)
theorem own_exp0 (t : Int64) : own_exp 0 t = 0 := if_pos rfl
theorem own_exp1 (w : Int64) (h : ¬ w = 0) : own_exp w w = 1 := by
  rw [own_exp, if_neg h, if_neg Int64.lt_irrefl]
theorem own_expm (w s t : Int64) (h : ¬ t < s) (h1 : ¬ own_exp w s = 0) : ¬ own_exp w t = 0 := by
  intro q
  apply h1
  rw [own_exp] at q ⊢
  by_cases c : w = 0
  · rw [if_pos c]
  · rw [if_neg c] at q ⊢
    by_cases d : t < w
    · rw [if_pos]
      rw [Int64.lt_iff_toInt_lt] at *
      omega
    · rw [if_neg d] at q; exact absurd q (by decide)
theorem own_expp (w : Int64) (h : ¬ w = 0) (hm : ¬ w = (-9223372036854775808 : Int64)) : own_exp w (w - 1) = 0 := by
  rw [own_exp, if_neg h, if_pos]
  have a := c_lsub w 1
  have r := rng64 w
  have r' := rng64 (w - 1)
  have z : (1 : Int64).toInt = 1 := rfl
  have hm' : ¬ w.toInt = -9223372036854775808 := fun q => hm (Int64.toInt_inj.mp q)
  rw [Int64.lt_iff_toInt_lt]; omega
theorem pn_0 : plainName "java/lang/Record" = true := by first | (simp [plainName, overriddenIn]; done) | decide +kernel
theorem d2_0 : decode jdk_30_method_1_code 0 = .ok (.aload_n 0, 1) := by decide +kernel
theorem d2_1 : decode jdk_30_method_1_code 1 = .ok (.invokespecial 1, 3) := by decide +kernel
theorem d2_4 : decode jdk_30_method_1_code 4 = .ok (.return_, 1) := by decide +kernel
def RM2 : Room := { frames := 1, cells := 0, slots := 0, locals := 12 }
def Q2 (Z : State) (a1 : Addr) (h0 : Heap) (n0 : Nat) (v : Option Value) (h : Heap) (L : List Loc) : Prop := v = none ∧ Fr n0 L ∧ h = h0
set_option maxRecDepth 65536 in
set_option maxHeartbeats 40000000 in
theorem rm2 (l : Launch) (Z : State) (a0 : Array Value) (hw : ∀ d ∈ tables_1, d.before a0 Z = true) (ws : List Jvm.Cond) (a1 : Addr) (h0 : Heap) (n0 : Nat) (Z0 : n0 ≤ h0.size)  :
    MetFree l (⟨"java/lang/Record", "<init>", "()V"⟩ : MethodName) (head1 (Jvm.Cond.code (⟨"java/lang/Record", "<init>", "()V"⟩ : MethodName) jdk_30_method_1_code 1 none :: ws) RM2) (fun a U => a = #[(.ref a1)] ∧ Z.Warmed39 U.vm ∧ U.heap = h0) (fun _ _ _ _ _ => True) (fun _ U o U' => ∃ v L, o = .returned v ∧ Q2 Z a1 h0 n0 v U'.heap L ∧ FrameEnd U o U' L RM2.cells RM2.slots) := by
  refine met_of (Q := fun v h L => Q2 Z a1 h0 n0 v h L) (plainFor_of_name pn_0) (fun m => by first | (simp [entryFrame, mkF, argsToLocals, Value.category]; done) | rfl) (Ls := #[.val (.ref a1)]) ?_
  intro p e s m below meth c T0 QQ hx hZ hby hml hown hnm hret hlk X0 e0 hQ
  have hml : c.maxLocals = 1 := hml
  have hown : s.vm.findClass "java/lang/Record" = some m.cls := hown
  have hnm : meth.name = "<init>" := hnm
  have hret : meth.sig.returnType = none := hret
  have N0 := Fr.nil n0
  have K0 : Keep h0 h0 [] := Keep.refl h0 _
  show GoW p e below QQ (T0.setTop (mkF m 0 #[.val (.ref a1)] []))
  refine GoW.st (fun t k => XS.aloadN X0.here hx rfl (hb hby d2_0) rfl rfl k) ?_
  show GoW p e below QQ (T0.setTop (mkF m 1 #[.val (.ref a1)] [(.ref a1)]))
  obtain ⟨T1, X1, e1, st1⟩ := initO X0 hx hZ hown (hw _ (List.mem_of_getElem? (i := 11) rfl)) (hw _ (List.mem_of_getElem? (i := 12) rfl)) (hw _ (List.mem_of_getElem? (i := 13) rfl)) e0 (g := (mkF m 1 #[.val (.ref a1)] [(.ref a1)])) rfl (by rw [hml]; rfl) rfl (hb hby d2_1) (by decide) (W := 0) (by show 2 * 0 + _ ≤ _; exact Nat.le_of_eq rfl) (by decide)
  refine GoW.st st1 ?_
  show GoW p e below QQ (T1.setTop (mkF m 4 #[.val (.ref a1)] []))
  exact GoW.fin X1 none (fun _ => rfl) hlk hQ e1 ⟨rfl, N0, rfl⟩ (by decide) (by decide) (fun fs hr => X1.returnOut hx hret (hb hby d2_4) hr)
def own_minL (x y : Int64) : Int64 := if y < x then y else x
theorem d4_0 : decode jdk_29_method_70_code 0 = .ok (.lload_n 0, 1) := by decide +kernel
theorem d4_1 : decode jdk_29_method_70_code 1 = .ok (.lload_n 2, 1) := by decide +kernel
theorem d4_2 : decode jdk_29_method_70_code 2 = .ok (.lcmp, 1) := by decide +kernel
theorem d4_3 : decode jdk_29_method_70_code 3 = .ok (.ifCond .gt 7, 3) := by decide +kernel
theorem d4_10 : decode jdk_29_method_70_code 10 = .ok (.lload_n 2, 1) := by decide +kernel
theorem d4_11 : decode jdk_29_method_70_code 11 = .ok (.lreturn, 1) := by decide +kernel
theorem d4_6 : decode jdk_29_method_70_code 6 = .ok (.lload_n 0, 1) := by decide +kernel
theorem d4_7 : decode jdk_29_method_70_code 7 = .ok (.goto 4, 3) := by decide +kernel
def RM4 : Room := { frames := 0, cells := 0, slots := 0, locals := 0 }
def Q4 (Z : State) (q1 : Int64) (q2 : Int64) (h0 : Heap) (n0 : Nat) (v : Option Value) (h : Heap) (L : List Loc) : Prop := v = some (.long (own_minL q1 q2)) ∧ Fr n0 L ∧ h = h0
set_option maxRecDepth 65536 in
set_option maxHeartbeats 40000000 in
theorem rm4 (l : Launch) (Z : State) (a0 : Array Value) (hw : ∀ d ∈ tables_1, d.before a0 Z = true) (ws : List Jvm.Cond) (q1 : Int64) (q2 : Int64) (h0 : Heap) (n0 : Nat) (Z0 : n0 ≤ h0.size)  :
    MetFree l (⟨"java/lang/Math", "min", "(JJ)J"⟩ : MethodName) (head1 (Jvm.Cond.code (⟨"java/lang/Math", "min", "(JJ)J"⟩ : MethodName) jdk_29_method_70_code 4 (some .long) :: ws) RM4) (fun a U => a = #[(.long q1), (.long q2)] ∧ Z.Warmed39 U.vm ∧ U.heap = h0) (fun _ _ _ _ _ => True) (fun _ U o U' => ∃ v L, o = .returned v ∧ Q4 Z q1 q2 h0 n0 v U'.heap L ∧ FrameEnd U o U' L RM4.cells RM4.slots) := by
  refine met_of (Q := fun v h L => Q4 Z q1 q2 h0 n0 v h L) (Jvm.Free.JP.mathPlain rfl (by decide +kernel)) (fun m => by first | (simp [entryFrame, mkF, argsToLocals, Value.category]; done) | rfl) (Ls := #[.val (.long q1), .second, .val (.long q2), .second]) ?_
  intro p e s m below meth c T0 QQ hx hZ hby hml hown hnm hret hlk X0 e0 hQ
  have hml : c.maxLocals = 4 := hml
  have hown : s.vm.findClass "java/lang/Math" = some m.cls := hown
  have hnm : meth.name = "min" := hnm
  have hret : meth.sig.returnType = some .long := hret
  have N0 := Fr.nil n0
  have K0 : Keep h0 h0 [] := Keep.refl h0 _
  show GoW p e below QQ (T0.setTop (mkF m 0 #[.val (.long q1), .second, .val (.long q2), .second] []))
  refine GoW.st (fun t k => XS.lloadN X0.here hx rfl (hb hby d4_0) rfl (XS.lloadN X0.here hx rfl (hb hby d4_1) rfl (XS.lcmp X0.here hx rfl (hb hby d4_2) rfl k))) ?_
  show GoW p e below QQ (T0.setTop (mkF m 3 #[.val (.long q1), .second, .val (.long q2), .second] [(.int (lcmpW q1 q2))]))
  by_cases hc3 : q2 < q1
  · skip
    refine GoW.st (fun t k => XS.ifYes X0.here hx rfl (pc0 := 3) (pc' := 10) rfl (hb hby d4_3) rfl ((if0 _ _).trans (tlt ((lw_gt q1 q2).mpr hc3)).2.2.1) (by decide) (by decide) (XS.lloadN X0.here hx rfl (hb hby d4_10) rfl k)) ?_
    show GoW p e below QQ (T0.setTop (mkF m 11 #[.val (.long q1), .second, .val (.long q2), .second] [(.long q2)]))
    have rv : ((some (.long q2)) : Option Value) = some (.long (own_minL q1 q2)) := by
      rw [own_minL, if_pos hc3]
      all_goals first | rfl | (simp; done)
    exact GoW.fin X0 (some (.long q2)) (fun q => by rw [hret] at q; cases q) hlk hQ e0 ⟨rv, N0, rfl⟩ (by decide) (by decide) (fun fs hr => retOut X0 hx hret rfl (Or.inr (Or.inl ⟨rfl, rfl, _, rfl⟩)) (hb hby d4_11) hr)
  · skip
    refine GoW.st (fun t k => XS.ifNo X0.here hx rfl (hb hby d4_3) rfl ((if0 _ _).trans (flt (fun q => hc3 ((lw_gt q1 q2).mp q))).2.2.1) (XS.lloadN X0.here hx rfl (hb hby d4_6) rfl (XS.goto X0.here hx rfl (pc0 := 7) (pc' := 11) rfl (hb hby d4_7) (by decide) (by decide) k))) ?_
    show GoW p e below QQ (T0.setTop (mkF m 11 #[.val (.long q1), .second, .val (.long q2), .second] [(.long q1)]))
    have rv : ((some (.long q1)) : Option Value) = some (.long (own_minL q1 q2)) := by
      rw [own_minL, if_neg hc3]
      all_goals first | rfl | (simp; done)
    exact GoW.fin X0 (some (.long q1)) (fun q => by rw [hret] at q; cases q) hlk hQ e0 ⟨rv, N0, rfl⟩ (by decide) (by decide) (fun fs hr => retOut X0 hx hret rfl (Or.inr (Or.inl ⟨rfl, rfl, _, rfl⟩)) (hb hby d4_11) hr)
def own_maxL (x y : Int64) : Int64 := if x < y then y else x
theorem d6_0 : decode jdk_29_method_66_code 0 = .ok (.lload_n 0, 1) := by decide +kernel
theorem d6_1 : decode jdk_29_method_66_code 1 = .ok (.lload_n 2, 1) := by decide +kernel
theorem d6_2 : decode jdk_29_method_66_code 2 = .ok (.lcmp, 1) := by decide +kernel
theorem d6_3 : decode jdk_29_method_66_code 3 = .ok (.ifCond .lt 7, 3) := by decide +kernel
theorem d6_10 : decode jdk_29_method_66_code 10 = .ok (.lload_n 2, 1) := by decide +kernel
theorem d6_11 : decode jdk_29_method_66_code 11 = .ok (.lreturn, 1) := by decide +kernel
theorem d6_6 : decode jdk_29_method_66_code 6 = .ok (.lload_n 0, 1) := by decide +kernel
theorem d6_7 : decode jdk_29_method_66_code 7 = .ok (.goto 4, 3) := by decide +kernel
def RM6 : Room := { frames := 0, cells := 0, slots := 0, locals := 0 }
def Q6 (Z : State) (q1 : Int64) (q2 : Int64) (h0 : Heap) (n0 : Nat) (v : Option Value) (h : Heap) (L : List Loc) : Prop := v = some (.long (own_maxL q1 q2)) ∧ Fr n0 L ∧ h = h0
set_option maxRecDepth 65536 in
set_option maxHeartbeats 40000000 in
theorem rm6 (l : Launch) (Z : State) (a0 : Array Value) (hw : ∀ d ∈ tables_1, d.before a0 Z = true) (ws : List Jvm.Cond) (q1 : Int64) (q2 : Int64) (h0 : Heap) (n0 : Nat) (Z0 : n0 ≤ h0.size)  :
    MetFree l (⟨"java/lang/Math", "max", "(JJ)J"⟩ : MethodName) (head1 (Jvm.Cond.code (⟨"java/lang/Math", "max", "(JJ)J"⟩ : MethodName) jdk_29_method_66_code 4 (some .long) :: ws) RM6) (fun a U => a = #[(.long q1), (.long q2)] ∧ Z.Warmed39 U.vm ∧ U.heap = h0) (fun _ _ _ _ _ => True) (fun _ U o U' => ∃ v L, o = .returned v ∧ Q6 Z q1 q2 h0 n0 v U'.heap L ∧ FrameEnd U o U' L RM6.cells RM6.slots) := by
  refine met_of (Q := fun v h L => Q6 Z q1 q2 h0 n0 v h L) (Jvm.Free.JP.mathPlain rfl (by decide +kernel)) (fun m => by first | (simp [entryFrame, mkF, argsToLocals, Value.category]; done) | rfl) (Ls := #[.val (.long q1), .second, .val (.long q2), .second]) ?_
  intro p e s m below meth c T0 QQ hx hZ hby hml hown hnm hret hlk X0 e0 hQ
  have hml : c.maxLocals = 4 := hml
  have hown : s.vm.findClass "java/lang/Math" = some m.cls := hown
  have hnm : meth.name = "max" := hnm
  have hret : meth.sig.returnType = some .long := hret
  have N0 := Fr.nil n0
  have K0 : Keep h0 h0 [] := Keep.refl h0 _
  show GoW p e below QQ (T0.setTop (mkF m 0 #[.val (.long q1), .second, .val (.long q2), .second] []))
  refine GoW.st (fun t k => XS.lloadN X0.here hx rfl (hb hby d6_0) rfl (XS.lloadN X0.here hx rfl (hb hby d6_1) rfl (XS.lcmp X0.here hx rfl (hb hby d6_2) rfl k))) ?_
  show GoW p e below QQ (T0.setTop (mkF m 3 #[.val (.long q1), .second, .val (.long q2), .second] [(.int (lcmpW q1 q2))]))
  by_cases hc3 : q1 < q2
  · skip
    refine GoW.st (fun t k => XS.ifYes X0.here hx rfl (pc0 := 3) (pc' := 10) rfl (hb hby d6_3) rfl ((if0 _ _).trans (tlt ((lw_lt q1 q2).mpr hc3)).1) (by decide) (by decide) (XS.lloadN X0.here hx rfl (hb hby d6_10) rfl k)) ?_
    show GoW p e below QQ (T0.setTop (mkF m 11 #[.val (.long q1), .second, .val (.long q2), .second] [(.long q2)]))
    have rv : ((some (.long q2)) : Option Value) = some (.long (own_maxL q1 q2)) := by
      rw [own_maxL, if_pos hc3]
      all_goals first | rfl | (simp; done)
    exact GoW.fin X0 (some (.long q2)) (fun q => by rw [hret] at q; cases q) hlk hQ e0 ⟨rv, N0, rfl⟩ (by decide) (by decide) (fun fs hr => retOut X0 hx hret rfl (Or.inr (Or.inl ⟨rfl, rfl, _, rfl⟩)) (hb hby d6_11) hr)
  · skip
    refine GoW.st (fun t k => XS.ifNo X0.here hx rfl (hb hby d6_3) rfl ((if0 _ _).trans (flt (fun q => hc3 ((lw_lt q1 q2).mp q))).1) (XS.lloadN X0.here hx rfl (hb hby d6_6) rfl (XS.goto X0.here hx rfl (pc0 := 7) (pc' := 11) rfl (hb hby d6_7) (by decide) (by decide) k))) ?_
    show GoW p e below QQ (T0.setTop (mkF m 11 #[.val (.long q1), .second, .val (.long q2), .second] [(.long q1)]))
    have rv : ((some (.long q1)) : Option Value) = some (.long (own_maxL q1 q2)) := by
      rw [own_maxL, if_neg hc3]
      all_goals first | rfl | (simp; done)
    exact GoW.fin X0 (some (.long q1)) (fun q => by rw [hret] at q; cases q) hlk hQ e0 ⟨rv, N0, rfl⟩ (by decide) (by decide) (fun fs hr => retOut X0 hx hret rfl (Or.inr (Or.inl ⟨rfl, rfl, _, rfl⟩)) (hb hby d6_11) hr)
theorem pn_1 : plainName "com/example/duostrata/duostrata/model/Header" = true := by first | (simp [plainName, overriddenIn]; done) | decide +kernel
theorem d1_0 : decode prog_49_method_1_code 0 = .ok (.aload_n 0, 1) := by decide +kernel
theorem d1_1 : decode prog_49_method_1_code 1 = .ok (.invokespecial 1, 3) := by decide +kernel
theorem pd_0 : parseMethodDescriptor "()V" = some ⟨[], none⟩ := by decide +kernel
theorem d1_4 : decode prog_49_method_1_code 4 = .ok (.aload_n 0, 1) := by decide +kernel
theorem d1_5 : decode prog_49_method_1_code 5 = .ok (.lload_n 1, 1) := by decide +kernel
theorem d1_6 : decode prog_49_method_1_code 6 = .ok (.putfield 7, 3) := by decide +kernel
theorem d1_9 : decode prog_49_method_1_code 9 = .ok (.aload_n 0, 1) := by decide +kernel
theorem d1_10 : decode prog_49_method_1_code 10 = .ok (.lload_n 3, 1) := by decide +kernel
theorem d1_11 : decode prog_49_method_1_code 11 = .ok (.putfield 13, 3) := by decide +kernel
theorem d1_14 : decode prog_49_method_1_code 14 = .ok (.aload_n 0, 1) := by decide +kernel
theorem d1_15 : decode prog_49_method_1_code 15 = .ok (.lload 5, 2) := by decide +kernel
theorem d1_17 : decode prog_49_method_1_code 17 = .ok (.putfield 16, 3) := by decide +kernel
theorem d1_20 : decode prog_49_method_1_code 20 = .ok (.aload_n 0, 1) := by decide +kernel
theorem d1_21 : decode prog_49_method_1_code 21 = .ok (.iload 7, 2) := by decide +kernel
theorem d1_23 : decode prog_49_method_1_code 23 = .ok (.putfield 19, 3) := by decide +kernel
theorem d1_26 : decode prog_49_method_1_code 26 = .ok (.aload_n 0, 1) := by decide +kernel
theorem d1_27 : decode prog_49_method_1_code 27 = .ok (.lload 8, 2) := by decide +kernel
theorem d1_29 : decode prog_49_method_1_code 29 = .ok (.putfield 23, 3) := by decide +kernel
theorem d1_32 : decode prog_49_method_1_code 32 = .ok (.return_, 1) := by decide +kernel
def RM1 : Room := { frames := 2, cells := 0, slots := 0, locals := 24 }
def Q1 (Z : State) (a1 : Addr) (q1 : Int64) (q2 : Int64) (q3 : Int64) (p4 : Int32) (q5 : Int64) (h0 : Heap) (n0 : Nat) (v : Option Value) (h : Heap) (L : List Loc) : Prop := v = none ∧ Fr n0 L ∧ Keep h0 h [a1] ∧ (Exa Z h a1 "com/example/duostrata/duostrata/model/Header") ∧ (Fld Z h a1 "com/example/duostrata/duostrata/model/Header" "expires" "J" (.long q5))
set_option maxRecDepth 65536 in
set_option maxHeartbeats 40000000 in
theorem rm1 (l : Launch) (Z : State) (a0 : Array Value) (hw : ∀ d ∈ tables_1, d.before a0 Z = true) (ws : List Jvm.Cond) (a1 : Addr) (q1 : Int64) (q2 : Int64) (q3 : Int64) (p4 : Int32) (q5 : Int64) (h0 : Heap) (n0 : Nat) (Z0 : n0 ≤ h0.size) (pre_E_a1 : Exa Z h0 a1 "com/example/duostrata/duostrata/model/Header") (pre_g_a1 : n0 ≤ a1) (pre_F_a1_component : Fld Z h0 a1 "com/example/duostrata/duostrata/model/Header" "component" "J" (.long (0 : Int64))) (pre_F_a1_nextStep : Fld Z h0 a1 "com/example/duostrata/duostrata/model/Header" "nextStep" "J" (.long (0 : Int64))) (pre_F_a1_version : Fld Z h0 a1 "com/example/duostrata/duostrata/model/Header" "version" "J" (.long (0 : Int64))) (pre_F_a1_bodyBucket : Fld Z h0 a1 "com/example/duostrata/duostrata/model/Header" "bodyBucket" "I" (.int (0 : Int32))) (pre_F_a1_expires : Fld Z h0 a1 "com/example/duostrata/duostrata/model/Header" "expires" "J" (.long (0 : Int64))) :
    MetFree l (⟨"com/example/duostrata/duostrata/model/Header", "<init>", "(JJJIJ)V"⟩ : MethodName) (head1 (Jvm.Cond.code (⟨"com/example/duostrata/duostrata/model/Header", "<init>", "(JJJIJ)V"⟩ : MethodName) prog_49_method_1_code 10 none :: ws) RM1) (fun a U => a = #[(.ref a1), (.long q1), (.long q2), (.long q3), (.int p4), (.long q5)] ∧ Z.Warmed39 U.vm ∧ U.heap = h0) (fun _ _ _ _ _ => True) (fun _ U o U' => ∃ v L, o = .returned v ∧ Q1 Z a1 q1 q2 q3 p4 q5 h0 n0 v U'.heap L ∧ FrameEnd U o U' L RM1.cells RM1.slots) := by
  refine met_of (Q := fun v h L => Q1 Z a1 q1 q2 q3 p4 q5 h0 n0 v h L) (plainFor_of_name pn_1) (fun m => by first | (simp [entryFrame, mkF, argsToLocals, Value.category]; done) | rfl) (Ls := #[.val (.ref a1), .val (.long q1), .second, .val (.long q2), .second, .val (.long q3), .second, .val (.int p4), .val (.long q5), .second]) ?_
  intro p e s m below meth c T0 QQ hx hZ hby hml hown hnm hret hlk X0 e0 hQ
  have hml : c.maxLocals = 10 := hml
  have hown : s.vm.findClass "com/example/duostrata/duostrata/model/Header" = some m.cls := hown
  have hnm : meth.name = "<init>" := hnm
  have hret : meth.sig.returnType = none := hret
  have N0 := Fr.nil n0
  have K0 : Keep h0 h0 [a1] := Keep.refl h0 _
  show GoW p e below QQ (T0.setTop (mkF m 0 #[.val (.ref a1), .val (.long q1), .second, .val (.long q2), .second, .val (.long q3), .second, .val (.int p4), .val (.long q5), .second] []))
  refine GoW.st (fun t k => XS.aloadN X0.here hx rfl (hb hby d1_0) rfl rfl k) ?_
  show GoW p e below QQ (T0.setTop (mkF m 1 #[.val (.ref a1), .val (.long q1), .second, .val (.long q2), .second, .val (.long q3), .second, .val (.int p4), .val (.long q5), .second] [(.ref a1)]))
  obtain ⟨_, _, ⟨T1, zL1, zk1, zn1⟩, -, X1, ⟨Lc1, hQ1, zl1, zy1, zz1⟩, st1⟩ := X0.specialBack hx (y := (⟨"java/lang/Record", "<init>", "()V"⟩ : MethodName)) rfl hown (mvT hZ (hw _ (List.mem_of_getElem? (i := 6) rfl))) (mvT hZ (hw _ (List.mem_of_getElem? (i := 7) rfl))) (mvT hZ (hw _ (List.mem_of_getElem? (i := 10) rfl))) (by decide) (backOf (W := 0) (rm2 l Z a0 hw [] a1 h0 n0 (Nat.le_trans Z0 K0.1) ) hZ (hw _ (List.mem_of_getElem? (i := 10) rfl)) (hw _ (List.mem_of_getElem? (i := 9) rfl)) (by decide) (by decide)) (g := (mkF m 1 #[.val (.ref a1), .val (.long q1), .second, .val (.long q2), .second, .val (.long q3), .second, .val (.int p4), .val (.long q5), .second] [(.ref a1)])) rfl (by rw [hml]; rfl) (Steps.refl _) (a := a1) (argsL := []) (rest := []) (lenOf pd_0 rfl) rfl (by show 2 * 0 + _ ≤ _; exact Nat.le_of_eq rfl) (hb hby d1_1) (fun _ _ => ⟨rfl, e0, (by decide : 0 + 0 ≤ _), (by decide : 0 + 0 ≤ _)⟩)
  dsimp only [Pt.U, Pt.locs, Pt.cells, Pt.slots] at X1 zl1 zy1 zz1 st1 hQ1
  subst zl1 zy1 zz1
  obtain ⟨rfl, Nq1, hh1⟩ := hQ1
  have N1 := Fr.app N0 Nq1
  refine GoW.st (fun t k => st1.trans k) ?_
  show GoW p e below QQ (T1.setTop (mkF m 4 #[.val (.ref a1), .val (.long q1), .second, .val (.long q2), .second, .val (.long q3), .second, .val (.int p4), .val (.long q5), .second] []))
  refine GoW.st (fun t k => XS.aloadN X1.here hx rfl (hb hby d1_4) rfl rfl (XS.lloadN X1.here hx rfl (hb hby d1_5) rfl k)) ?_
  show GoW p e below QQ (T1.setTop (mkF m 6 #[.val (.ref a1), .val (.long q1), .second, .val (.long q2), .second, .val (.long q3), .second, .val (.int p4), .val (.long q5), .second] [(.long q1), (.ref a1)]))
  obtain ⟨T2, h2, X2, e2, W2, st2⟩ := putF X1 hx hZ hown (host := "") (Or.inl (hw _ (List.mem_of_getElem? (i := 14) rfl))) Via.refl hh1 pre_F_a1_component pre_E_a1 (Or.inr ⟨(hw _ (List.mem_of_getElem? (i := 15) rfl)), rfl, hnm⟩) (hw _ (List.mem_of_getElem? (i := 1) rfl)) (ty := .long) (by decide) rfl rfl (g := (mkF m 6 #[.val (.ref a1), .val (.long q1), .second, .val (.long q2), .second, .val (.long q3), .second, .val (.int p4), .val (.long q5), .second] [(.long q1), (.ref a1)])) rfl rfl (hb hby d1_6)
  refine GoW.st st2 ?_
  have f3_E_a1 : Exa Z h2 a1 "com/example/duostrata/duostrata/model/Header" := pre_E_a1.wr W2
  have f3_F_a1_component : Fld Z h2 a1 "com/example/duostrata/duostrata/model/Header" "component" "J" (.long q1) := pre_F_a1_component.same W2
  have f3_F_a1_nextStep : Fld Z h2 a1 "com/example/duostrata/duostrata/model/Header" "nextStep" "J" (.long (0 : Int64)) := pre_F_a1_nextStep.other W2 (Or.inr (slot_ne (Or.inr (hw _ (List.mem_of_getElem? (i := 17) rfl))) (Or.inr (hw _ (List.mem_of_getElem? (i := 15) rfl))) (by decide) (t := .long) (t' := .long) (by decide) (by decide)))
  have f3_F_a1_version : Fld Z h2 a1 "com/example/duostrata/duostrata/model/Header" "version" "J" (.long (0 : Int64)) := pre_F_a1_version.other W2 (Or.inr (slot_ne (Or.inr (hw _ (List.mem_of_getElem? (i := 19) rfl))) (Or.inr (hw _ (List.mem_of_getElem? (i := 15) rfl))) (by decide) (t := .long) (t' := .long) (by decide) (by decide)))
  have f3_F_a1_bodyBucket : Fld Z h2 a1 "com/example/duostrata/duostrata/model/Header" "bodyBucket" "I" (.int (0 : Int32)) := pre_F_a1_bodyBucket.other W2 (Or.inr (slot_ne (Or.inr (hw _ (List.mem_of_getElem? (i := 21) rfl))) (Or.inr (hw _ (List.mem_of_getElem? (i := 15) rfl))) (by decide) (t := .int) (t' := .long) (by decide) (by decide)))
  have f3_F_a1_expires : Fld Z h2 a1 "com/example/duostrata/duostrata/model/Header" "expires" "J" (.long (0 : Int64)) := pre_F_a1_expires.other W2 (Or.inr (slot_ne (Or.inr (hw _ (List.mem_of_getElem? (i := 23) rfl))) (Or.inr (hw _ (List.mem_of_getElem? (i := 15) rfl))) (by decide) (t := .long) (t' := .long) (by decide) (by decide)))
  have K2 : Keep h0 h2 [a1] := K0.wr W2 (Or.inl (List.mem_of_getElem? (i := 0) rfl))
  have N2 := Fr.snoc X2 N1 pre_g_a1
  show GoW p e below QQ (T2.setTop (mkF m 9 #[.val (.ref a1), .val (.long q1), .second, .val (.long q2), .second, .val (.long q3), .second, .val (.int p4), .val (.long q5), .second] []))
  refine GoW.st (fun t k => XS.aloadN X2.here hx rfl (hb hby d1_9) rfl rfl (XS.lloadN X2.here hx rfl (hb hby d1_10) rfl k)) ?_
  show GoW p e below QQ (T2.setTop (mkF m 11 #[.val (.ref a1), .val (.long q1), .second, .val (.long q2), .second, .val (.long q3), .second, .val (.int p4), .val (.long q5), .second] [(.long q2), (.ref a1)]))
  obtain ⟨T4, h4, X4, e4, W4, st4⟩ := putF X2 hx hZ hown (host := "") (Or.inl (hw _ (List.mem_of_getElem? (i := 16) rfl))) Via.refl e2 f3_F_a1_nextStep f3_E_a1 (Or.inr ⟨(hw _ (List.mem_of_getElem? (i := 17) rfl)), rfl, hnm⟩) (hw _ (List.mem_of_getElem? (i := 1) rfl)) (ty := .long) (by decide) rfl rfl (g := (mkF m 11 #[.val (.ref a1), .val (.long q1), .second, .val (.long q2), .second, .val (.long q3), .second, .val (.int p4), .val (.long q5), .second] [(.long q2), (.ref a1)])) rfl rfl (hb hby d1_11)
  refine GoW.st st4 ?_
  have f5_E_a1 : Exa Z h4 a1 "com/example/duostrata/duostrata/model/Header" := f3_E_a1.wr W4
  have f5_F_a1_component : Fld Z h4 a1 "com/example/duostrata/duostrata/model/Header" "component" "J" (.long q1) := f3_F_a1_component.other W4 (Or.inr (slot_ne (Or.inr (hw _ (List.mem_of_getElem? (i := 15) rfl))) (Or.inr (hw _ (List.mem_of_getElem? (i := 17) rfl))) (by decide) (t := .long) (t' := .long) (by decide) (by decide)))
  have f5_F_a1_nextStep : Fld Z h4 a1 "com/example/duostrata/duostrata/model/Header" "nextStep" "J" (.long q2) := f3_F_a1_nextStep.same W4
  have f5_F_a1_version : Fld Z h4 a1 "com/example/duostrata/duostrata/model/Header" "version" "J" (.long (0 : Int64)) := f3_F_a1_version.other W4 (Or.inr (slot_ne (Or.inr (hw _ (List.mem_of_getElem? (i := 19) rfl))) (Or.inr (hw _ (List.mem_of_getElem? (i := 17) rfl))) (by decide) (t := .long) (t' := .long) (by decide) (by decide)))
  have f5_F_a1_bodyBucket : Fld Z h4 a1 "com/example/duostrata/duostrata/model/Header" "bodyBucket" "I" (.int (0 : Int32)) := f3_F_a1_bodyBucket.other W4 (Or.inr (slot_ne (Or.inr (hw _ (List.mem_of_getElem? (i := 21) rfl))) (Or.inr (hw _ (List.mem_of_getElem? (i := 17) rfl))) (by decide) (t := .int) (t' := .long) (by decide) (by decide)))
  have f5_F_a1_expires : Fld Z h4 a1 "com/example/duostrata/duostrata/model/Header" "expires" "J" (.long (0 : Int64)) := f3_F_a1_expires.other W4 (Or.inr (slot_ne (Or.inr (hw _ (List.mem_of_getElem? (i := 23) rfl))) (Or.inr (hw _ (List.mem_of_getElem? (i := 17) rfl))) (by decide) (t := .long) (t' := .long) (by decide) (by decide)))
  have K4 : Keep h0 h4 [a1] := K2.wr W4 (Or.inl (List.mem_of_getElem? (i := 0) rfl))
  have N4 := Fr.snoc X4 N2 pre_g_a1
  show GoW p e below QQ (T4.setTop (mkF m 14 #[.val (.ref a1), .val (.long q1), .second, .val (.long q2), .second, .val (.long q3), .second, .val (.int p4), .val (.long q5), .second] []))
  refine GoW.st (fun t k => XS.aloadN X4.here hx rfl (hb hby d1_14) rfl rfl (XS.lload X4.here hx rfl (hb hby d1_15) rfl k)) ?_
  show GoW p e below QQ (T4.setTop (mkF m 17 #[.val (.ref a1), .val (.long q1), .second, .val (.long q2), .second, .val (.long q3), .second, .val (.int p4), .val (.long q5), .second] [(.long q3), (.ref a1)]))
  obtain ⟨T6, h6, X6, e6, W6, st6⟩ := putF X4 hx hZ hown (host := "") (Or.inl (hw _ (List.mem_of_getElem? (i := 18) rfl))) Via.refl e4 f5_F_a1_version f5_E_a1 (Or.inr ⟨(hw _ (List.mem_of_getElem? (i := 19) rfl)), rfl, hnm⟩) (hw _ (List.mem_of_getElem? (i := 1) rfl)) (ty := .long) (by decide) rfl rfl (g := (mkF m 17 #[.val (.ref a1), .val (.long q1), .second, .val (.long q2), .second, .val (.long q3), .second, .val (.int p4), .val (.long q5), .second] [(.long q3), (.ref a1)])) rfl rfl (hb hby d1_17)
  refine GoW.st st6 ?_
  have f7_E_a1 : Exa Z h6 a1 "com/example/duostrata/duostrata/model/Header" := f5_E_a1.wr W6
  have f7_F_a1_component : Fld Z h6 a1 "com/example/duostrata/duostrata/model/Header" "component" "J" (.long q1) := f5_F_a1_component.other W6 (Or.inr (slot_ne (Or.inr (hw _ (List.mem_of_getElem? (i := 15) rfl))) (Or.inr (hw _ (List.mem_of_getElem? (i := 19) rfl))) (by decide) (t := .long) (t' := .long) (by decide) (by decide)))
  have f7_F_a1_nextStep : Fld Z h6 a1 "com/example/duostrata/duostrata/model/Header" "nextStep" "J" (.long q2) := f5_F_a1_nextStep.other W6 (Or.inr (slot_ne (Or.inr (hw _ (List.mem_of_getElem? (i := 17) rfl))) (Or.inr (hw _ (List.mem_of_getElem? (i := 19) rfl))) (by decide) (t := .long) (t' := .long) (by decide) (by decide)))
  have f7_F_a1_version : Fld Z h6 a1 "com/example/duostrata/duostrata/model/Header" "version" "J" (.long q3) := f5_F_a1_version.same W6
  have f7_F_a1_bodyBucket : Fld Z h6 a1 "com/example/duostrata/duostrata/model/Header" "bodyBucket" "I" (.int (0 : Int32)) := f5_F_a1_bodyBucket.other W6 (Or.inr (slot_ne (Or.inr (hw _ (List.mem_of_getElem? (i := 21) rfl))) (Or.inr (hw _ (List.mem_of_getElem? (i := 19) rfl))) (by decide) (t := .int) (t' := .long) (by decide) (by decide)))
  have f7_F_a1_expires : Fld Z h6 a1 "com/example/duostrata/duostrata/model/Header" "expires" "J" (.long (0 : Int64)) := f5_F_a1_expires.other W6 (Or.inr (slot_ne (Or.inr (hw _ (List.mem_of_getElem? (i := 23) rfl))) (Or.inr (hw _ (List.mem_of_getElem? (i := 19) rfl))) (by decide) (t := .long) (t' := .long) (by decide) (by decide)))
  have K6 : Keep h0 h6 [a1] := K4.wr W6 (Or.inl (List.mem_of_getElem? (i := 0) rfl))
  have N6 := Fr.snoc X6 N4 pre_g_a1
  show GoW p e below QQ (T6.setTop (mkF m 20 #[.val (.ref a1), .val (.long q1), .second, .val (.long q2), .second, .val (.long q3), .second, .val (.int p4), .val (.long q5), .second] []))
  refine GoW.st (fun t k => XS.aloadN X6.here hx rfl (hb hby d1_20) rfl rfl (XS.iload X6.here hx rfl (hb hby d1_21) rfl k)) ?_
  show GoW p e below QQ (T6.setTop (mkF m 23 #[.val (.ref a1), .val (.long q1), .second, .val (.long q2), .second, .val (.long q3), .second, .val (.int p4), .val (.long q5), .second] [(.int p4), (.ref a1)]))
  obtain ⟨T8, h8, X8, e8, W8, st8⟩ := putF X6 hx hZ hown (host := "") (Or.inl (hw _ (List.mem_of_getElem? (i := 20) rfl))) Via.refl e6 f7_F_a1_bodyBucket f7_E_a1 (Or.inr ⟨(hw _ (List.mem_of_getElem? (i := 21) rfl)), rfl, hnm⟩) (hw _ (List.mem_of_getElem? (i := 1) rfl)) (ty := .int) (by decide) rfl rfl (g := (mkF m 23 #[.val (.ref a1), .val (.long q1), .second, .val (.long q2), .second, .val (.long q3), .second, .val (.int p4), .val (.long q5), .second] [(.int p4), (.ref a1)])) rfl rfl (hb hby d1_23)
  refine GoW.st st8 ?_
  have f9_E_a1 : Exa Z h8 a1 "com/example/duostrata/duostrata/model/Header" := f7_E_a1.wr W8
  have f9_F_a1_component : Fld Z h8 a1 "com/example/duostrata/duostrata/model/Header" "component" "J" (.long q1) := f7_F_a1_component.other W8 (Or.inr (slot_ne (Or.inr (hw _ (List.mem_of_getElem? (i := 15) rfl))) (Or.inr (hw _ (List.mem_of_getElem? (i := 21) rfl))) (by decide) (t := .long) (t' := .int) (by decide) (by decide)))
  have f9_F_a1_nextStep : Fld Z h8 a1 "com/example/duostrata/duostrata/model/Header" "nextStep" "J" (.long q2) := f7_F_a1_nextStep.other W8 (Or.inr (slot_ne (Or.inr (hw _ (List.mem_of_getElem? (i := 17) rfl))) (Or.inr (hw _ (List.mem_of_getElem? (i := 21) rfl))) (by decide) (t := .long) (t' := .int) (by decide) (by decide)))
  have f9_F_a1_version : Fld Z h8 a1 "com/example/duostrata/duostrata/model/Header" "version" "J" (.long q3) := f7_F_a1_version.other W8 (Or.inr (slot_ne (Or.inr (hw _ (List.mem_of_getElem? (i := 19) rfl))) (Or.inr (hw _ (List.mem_of_getElem? (i := 21) rfl))) (by decide) (t := .long) (t' := .int) (by decide) (by decide)))
  have f9_F_a1_bodyBucket : Fld Z h8 a1 "com/example/duostrata/duostrata/model/Header" "bodyBucket" "I" (.int p4) := f7_F_a1_bodyBucket.same W8
  have f9_F_a1_expires : Fld Z h8 a1 "com/example/duostrata/duostrata/model/Header" "expires" "J" (.long (0 : Int64)) := f7_F_a1_expires.other W8 (Or.inr (slot_ne (Or.inr (hw _ (List.mem_of_getElem? (i := 23) rfl))) (Or.inr (hw _ (List.mem_of_getElem? (i := 21) rfl))) (by decide) (t := .long) (t' := .int) (by decide) (by decide)))
  have K8 : Keep h0 h8 [a1] := K6.wr W8 (Or.inl (List.mem_of_getElem? (i := 0) rfl))
  have N8 := Fr.snoc X8 N6 pre_g_a1
  show GoW p e below QQ (T8.setTop (mkF m 26 #[.val (.ref a1), .val (.long q1), .second, .val (.long q2), .second, .val (.long q3), .second, .val (.int p4), .val (.long q5), .second] []))
  refine GoW.st (fun t k => XS.aloadN X8.here hx rfl (hb hby d1_26) rfl rfl (XS.lload X8.here hx rfl (hb hby d1_27) rfl k)) ?_
  show GoW p e below QQ (T8.setTop (mkF m 29 #[.val (.ref a1), .val (.long q1), .second, .val (.long q2), .second, .val (.long q3), .second, .val (.int p4), .val (.long q5), .second] [(.long q5), (.ref a1)]))
  obtain ⟨T10, h10, X10, e10, W10, st10⟩ := putF X8 hx hZ hown (host := "") (Or.inl (hw _ (List.mem_of_getElem? (i := 22) rfl))) Via.refl e8 f9_F_a1_expires f9_E_a1 (Or.inr ⟨(hw _ (List.mem_of_getElem? (i := 23) rfl)), rfl, hnm⟩) (hw _ (List.mem_of_getElem? (i := 1) rfl)) (ty := .long) (by decide) rfl rfl (g := (mkF m 29 #[.val (.ref a1), .val (.long q1), .second, .val (.long q2), .second, .val (.long q3), .second, .val (.int p4), .val (.long q5), .second] [(.long q5), (.ref a1)])) rfl rfl (hb hby d1_29)
  refine GoW.st st10 ?_
  have f11_E_a1 : Exa Z h10 a1 "com/example/duostrata/duostrata/model/Header" := f9_E_a1.wr W10
  have f11_F_a1_component : Fld Z h10 a1 "com/example/duostrata/duostrata/model/Header" "component" "J" (.long q1) := f9_F_a1_component.other W10 (Or.inr (slot_ne (Or.inr (hw _ (List.mem_of_getElem? (i := 15) rfl))) (Or.inr (hw _ (List.mem_of_getElem? (i := 23) rfl))) (by decide) (t := .long) (t' := .long) (by decide) (by decide)))
  have f11_F_a1_nextStep : Fld Z h10 a1 "com/example/duostrata/duostrata/model/Header" "nextStep" "J" (.long q2) := f9_F_a1_nextStep.other W10 (Or.inr (slot_ne (Or.inr (hw _ (List.mem_of_getElem? (i := 17) rfl))) (Or.inr (hw _ (List.mem_of_getElem? (i := 23) rfl))) (by decide) (t := .long) (t' := .long) (by decide) (by decide)))
  have f11_F_a1_version : Fld Z h10 a1 "com/example/duostrata/duostrata/model/Header" "version" "J" (.long q3) := f9_F_a1_version.other W10 (Or.inr (slot_ne (Or.inr (hw _ (List.mem_of_getElem? (i := 19) rfl))) (Or.inr (hw _ (List.mem_of_getElem? (i := 23) rfl))) (by decide) (t := .long) (t' := .long) (by decide) (by decide)))
  have f11_F_a1_bodyBucket : Fld Z h10 a1 "com/example/duostrata/duostrata/model/Header" "bodyBucket" "I" (.int p4) := f9_F_a1_bodyBucket.other W10 (Or.inr (slot_ne (Or.inr (hw _ (List.mem_of_getElem? (i := 21) rfl))) (Or.inr (hw _ (List.mem_of_getElem? (i := 23) rfl))) (by decide) (t := .int) (t' := .long) (by decide) (by decide)))
  have f11_F_a1_expires : Fld Z h10 a1 "com/example/duostrata/duostrata/model/Header" "expires" "J" (.long q5) := f9_F_a1_expires.same W10
  have K10 : Keep h0 h10 [a1] := K8.wr W10 (Or.inl (List.mem_of_getElem? (i := 0) rfl))
  have N10 := Fr.snoc X10 N8 pre_g_a1
  show GoW p e below QQ (T10.setTop (mkF m 32 #[.val (.ref a1), .val (.long q1), .second, .val (.long q2), .second, .val (.long q3), .second, .val (.int p4), .val (.long q5), .second] []))
  exact GoW.fin X10 none (fun _ => rfl) hlk hQ e10 ⟨rfl, N10, K10, f11_E_a1, f11_F_a1_expires⟩ (by decide) (by decide) (fun fs hr => X10.returnOut hx hret (hb hby d1_32) hr)
theorem d5_0 : decode prog_49_method_4_code 0 = .ok (.aload_n 0, 1) := by decide +kernel
theorem d5_1 : decode prog_49_method_4_code 1 = .ok (.getfield 23, 3) := by decide +kernel
theorem d5_4 : decode prog_49_method_4_code 4 = .ok (.lconst 0, 1) := by decide +kernel
theorem d5_5 : decode prog_49_method_4_code 5 = .ok (.lcmp, 1) := by decide +kernel
theorem d5_6 : decode prog_49_method_4_code 6 = .ok (.ifCond .eq 16, 3) := by decide +kernel
theorem d5_22 : decode prog_49_method_4_code 22 = .ok (.iconst 0, 1) := by decide +kernel
theorem d5_23 : decode prog_49_method_4_code 23 = .ok (.ireturn, 1) := by decide +kernel
theorem d5_9 : decode prog_49_method_4_code 9 = .ok (.aload_n 0, 1) := by decide +kernel
theorem d5_10 : decode prog_49_method_4_code 10 = .ok (.getfield 23, 3) := by decide +kernel
theorem d5_13 : decode prog_49_method_4_code 13 = .ok (.lload_n 1, 1) := by decide +kernel
theorem d5_14 : decode prog_49_method_4_code 14 = .ok (.lcmp, 1) := by decide +kernel
theorem d5_15 : decode prog_49_method_4_code 15 = .ok (.ifCond .gt 7, 3) := by decide +kernel
theorem d5_18 : decode prog_49_method_4_code 18 = .ok (.iconst 1, 1) := by decide +kernel
theorem d5_19 : decode prog_49_method_4_code 19 = .ok (.goto 4, 3) := by decide +kernel
def RM5 : Room := { frames := 0, cells := 0, slots := 0, locals := 0 }
def Q5 (Z : State) (a1 : Addr) (q1 : Int64) (w2 : Int64) (h0 : Heap) (n0 : Nat) (v : Option Value) (h : Heap) (L : List Loc) : Prop := v = some (.int (own_exp w2 q1)) ∧ Fr n0 L ∧ h = h0
set_option maxRecDepth 65536 in
set_option maxHeartbeats 40000000 in
theorem rm5 (l : Launch) (Z : State) (a0 : Array Value) (hw : ∀ d ∈ tables_1, d.before a0 Z = true) (ws : List Jvm.Cond) (a1 : Addr) (q1 : Int64) (w2 : Int64) (h0 : Heap) (n0 : Nat) (Z0 : n0 ≤ h0.size) (pre_F_a1_expires : Fld Z h0 a1 "com/example/duostrata/duostrata/model/Header" "expires" "J" (.long w2)) :
    MetFree l (⟨"com/example/duostrata/duostrata/model/Header", "expiredAt", "(J)Z"⟩ : MethodName) (head1 (Jvm.Cond.code (⟨"com/example/duostrata/duostrata/model/Header", "expiredAt", "(J)Z"⟩ : MethodName) prog_49_method_4_code 3 (some .boolean) :: ws) RM5) (fun a U => a = #[(.ref a1), (.long q1)] ∧ Z.Warmed39 U.vm ∧ U.heap = h0) (fun _ _ _ _ _ => True) (fun _ U o U' => ∃ v L, o = .returned v ∧ Q5 Z a1 q1 w2 h0 n0 v U'.heap L ∧ FrameEnd U o U' L RM5.cells RM5.slots) := by
  refine met_of (Q := fun v h L => Q5 Z a1 q1 w2 h0 n0 v h L) (plainFor_of_name pn_1) (fun m => by first | (simp [entryFrame, mkF, argsToLocals, Value.category]; done) | rfl) (Ls := #[.val (.ref a1), .val (.long q1), .second]) ?_
  intro p e s m below meth c T0 QQ hx hZ hby hml hown hnm hret hlk X0 e0 hQ
  have hml : c.maxLocals = 3 := hml
  have hown : s.vm.findClass "com/example/duostrata/duostrata/model/Header" = some m.cls := hown
  have hnm : meth.name = "expiredAt" := hnm
  have hret : meth.sig.returnType = some .boolean := hret
  have N0 := Fr.nil n0
  have K0 : Keep h0 h0 [] := Keep.refl h0 _
  show GoW p e below QQ (T0.setTop (mkF m 0 #[.val (.ref a1), .val (.long q1), .second] []))
  refine GoW.st (fun t k => XS.aloadN X0.here hx rfl (hb hby d5_0) rfl rfl k) ?_
  show GoW p e below QQ (T0.setTop (mkF m 1 #[.val (.ref a1), .val (.long q1), .second] [(.ref a1)]))
  obtain ⟨T1, X1, e1, st1⟩ := getF X0 hx hZ hown (host := "") (Or.inl (hw _ (List.mem_of_getElem? (i := 22) rfl))) Via.refl e0 pre_F_a1_expires (g := (mkF m 1 #[.val (.ref a1), .val (.long q1), .second] [(.ref a1)])) rfl rfl (hb hby d5_1)
  refine GoW.st st1 ?_
  show GoW p e below QQ (T1.setTop (mkF m 4 #[.val (.ref a1), .val (.long q1), .second] [(.long w2)]))
  refine GoW.st (fun t k => XS.lconst X1.here hx rfl (hb hby d5_4) (XS.lcmp X1.here hx rfl (hb hby d5_5) rfl k)) ?_
  show GoW p e below QQ (T1.setTop (mkF m 6 #[.val (.ref a1), .val (.long q1), .second] [(.int (lcmpW w2 (0 : Int64)))]))
  by_cases hc6 : w2 = (0 : Int64)
  · skip
    refine GoW.st (fun t k => XS.ifYes X1.here hx rfl (pc0 := 6) (pc' := 22) rfl (hb hby d5_6) rfl ((if0 _ _).trans (teq ((lw_eq w2 (0 : Int64)).mpr hc6)).1) (by decide) (by decide) (XS.iconst X1.here hx rfl (hb hby d5_22) k)) ?_
    show GoW p e below QQ (T1.setTop (mkF m 23 #[.val (.ref a1), .val (.long q1), .second] [(.int (0 : Int32))]))
    have rv : ((some (.int (nar .boolean (0 : Int32)))) : Option Value) = some (.int (own_exp w2 q1)) := by
      rw [own_exp, if_pos hc6]
      all_goals first | rfl | (simp; done)
    exact GoW.fin X1 (some (.int (nar .boolean (0 : Int32)))) (fun q => by rw [hret] at q; cases q) hlk hQ e1 ⟨rv, N0, rfl⟩ (by decide) (by decide) (fun fs hr => retN X1 hx (t := .boolean) hret (by simp) (hb hby d5_23) hr)
  · skip
    refine GoW.st (fun t k => XS.ifNo X1.here hx rfl (hb hby d5_6) rfl ((if0 _ _).trans (feq (fun q => hc6 ((lw_eq w2 (0 : Int64)).mp q))).1) (XS.aloadN X1.here hx rfl (hb hby d5_9) rfl rfl k)) ?_
    show GoW p e below QQ (T1.setTop (mkF m 10 #[.val (.ref a1), .val (.long q1), .second] [(.ref a1)]))
    obtain ⟨T2, X2, e2, st2⟩ := getF X1 hx hZ hown (host := "") (Or.inl (hw _ (List.mem_of_getElem? (i := 22) rfl))) Via.refl e1 pre_F_a1_expires (g := (mkF m 10 #[.val (.ref a1), .val (.long q1), .second] [(.ref a1)])) rfl rfl (hb hby d5_10)
    refine GoW.st st2 ?_
    show GoW p e below QQ (T2.setTop (mkF m 13 #[.val (.ref a1), .val (.long q1), .second] [(.long w2)]))
    refine GoW.st (fun t k => XS.lloadN X2.here hx rfl (hb hby d5_13) rfl (XS.lcmp X2.here hx rfl (hb hby d5_14) rfl k)) ?_
    show GoW p e below QQ (T2.setTop (mkF m 15 #[.val (.ref a1), .val (.long q1), .second] [(.int (lcmpW w2 q1))]))
    by_cases hc15 : q1 < w2
    · skip
      refine GoW.st (fun t k => XS.ifYes X2.here hx rfl (pc0 := 15) (pc' := 22) rfl (hb hby d5_15) rfl ((if0 _ _).trans (tlt ((lw_gt w2 q1).mpr hc15)).2.2.1) (by decide) (by decide) (XS.iconst X2.here hx rfl (hb hby d5_22) k)) ?_
      show GoW p e below QQ (T2.setTop (mkF m 23 #[.val (.ref a1), .val (.long q1), .second] [(.int (0 : Int32))]))
      have rv : ((some (.int (nar .boolean (0 : Int32)))) : Option Value) = some (.int (own_exp w2 q1)) := by
        rw [own_exp, if_neg hc6, if_pos hc15]
        all_goals first | rfl | (simp; done)
      exact GoW.fin X2 (some (.int (nar .boolean (0 : Int32)))) (fun q => by rw [hret] at q; cases q) hlk hQ e2 ⟨rv, N0, rfl⟩ (by decide) (by decide) (fun fs hr => retN X2 hx (t := .boolean) hret (by simp) (hb hby d5_23) hr)
    · skip
      refine GoW.st (fun t k => XS.ifNo X2.here hx rfl (hb hby d5_15) rfl ((if0 _ _).trans (flt (fun q => hc15 ((lw_gt w2 q1).mp q))).2.2.1) (XS.iconst X2.here hx rfl (hb hby d5_18) (XS.goto X2.here hx rfl (pc0 := 19) (pc' := 23) rfl (hb hby d5_19) (by decide) (by decide) k))) ?_
      show GoW p e below QQ (T2.setTop (mkF m 23 #[.val (.ref a1), .val (.long q1), .second] [(.int (1 : Int32))]))
      have rv : ((some (.int (nar .boolean (1 : Int32)))) : Option Value) = some (.int (own_exp w2 q1)) := by
        rw [own_exp, if_neg hc6, if_neg hc15]
        all_goals first | rfl | (simp; done)
      exact GoW.fin X2 (some (.int (nar .boolean (1 : Int32)))) (fun q => by rw [hret] at q; cases q) hlk hQ e2 ⟨rv, N0, rfl⟩ (by decide) (by decide) (fun fs hr => retN X2 hx (t := .boolean) hret (by simp) (hb hby d5_23) hr)
theorem own_minmax (a b : Int64) : ¬ own_maxL a b < own_minL a b := by
  rw [own_maxL, own_minL]
  by_cases h1 : a < b
  · rw [if_pos h1]
    by_cases h2 : b < a
    · rw [if_pos h2]; exact Int64.lt_irrefl
    · rw [if_neg h2]; exact h2
  · rw [if_neg h1]
    by_cases h2 : b < a
    · rw [if_pos h2]; exact h1
    · rw [if_neg h2]; exact Int64.lt_irrefl
theorem pn_2 : plainName "com/example/duostrata/duostrata/model/HeaderExpiredAtPinLaw" = true := by first | (simp [plainName, overriddenIn]; done) | decide +kernel
theorem pd_1 : parseMethodDescriptor "(JJJIJ)V" = some ⟨[.long, .long, .long, .int, .long], none⟩ := by decide +kernel
theorem pd_2 : parseMethodDescriptor "(JJ)J" = some ⟨[.long, .long], some .long⟩ := by decide +kernel
theorem pd_3 : parseMethodDescriptor "(J)Z" = some ⟨[.long], some .boolean⟩ := by decide +kernel
def Q0 (Z : State) (q1 : Int64) (q2 : Int64) (q3 : Int64) (p4 : Int32) (q5 : Int64) (p6 : Int32) (h0 : Heap) (n0 : Nat) (v : Option Value) (h : Heap) (L : List Loc) : Prop := v = some (.int (1 : Int32)) ∧ Fr n0 L
set_option maxRecDepth 65536 in
set_option maxHeartbeats 40000000 in
theorem rm0 (l : Launch) (Z : State) (a0 : Array Value) (hw : ∀ d ∈ tables_1, d.before a0 Z = true) (ws : List Jvm.Cond) (q1 : Int64) (q2 : Int64) (q3 : Int64) (p4 : Int32) (q5 : Int64) (p6 : Int32) (h0 : Heap) (n0 : Nat) (Z0 : n0 ≤ h0.size) (Z1 : h0.size ≤ n0)  :
    MetFree l x (head1 (Jvm.Cond.code x code maxLocals ret :: ws) room_1) (fun a U => a = #[(.long q1), (.long q2), (.long q3), (.int p4), (.long q5), (.int p6)] ∧ Z.Warmed39 U.vm ∧ U.heap = h0) (fun _ _ _ _ _ => True) (fun _ U o U' => ∃ v L, o = .returned v ∧ Q0 Z q1 q2 q3 p4 q5 p6 h0 n0 v U'.heap L ∧ FrameEnd U o U' L 16 128) := by
  refine met_of (Q := fun v h L => Q0 Z q1 q2 q3 p4 q5 p6 h0 n0 v h L) (plainFor_of_name pn_2) (fun m => by first | (simp [entryFrame, mkF, argsToLocals, Value.category, maxLocals]; done) | rfl) (Ls := #[.val (.long q1), .second, .val (.long q2), .second, .val (.long q3), .second, .val (.int p4), .val (.long q5), .second, .val (.int p6), .unset, .unset, .unset, .unset, .unset]) ?_
  intro p e s m below meth c T0 QQ hx hZ hby hml hown hnm hret hlk X0 e0 hQ
  have hml : c.maxLocals = 15 := hml
  have hown : s.vm.findClass "com/example/duostrata/duostrata/model/HeaderExpiredAtPinLaw" = some m.cls := hown
  have hnm : meth.name = "law" := hnm
  have hret : meth.sig.returnType = some .boolean := hret
  have N0 := Fr.nil n0
  have K0 : Keep h0 h0 [] := Keep.refl h0 _
  show GoW p e below QQ (T0.setTop (mkF m 0 #[.val (.long q1), .second, .val (.long q2), .second, .val (.long q3), .second, .val (.int p4), .val (.long q5), .second, .val (.int p6), .unset, .unset, .unset, .unset, .unset] []))
  have J12_1 : ∀ (TJ1 : State) (LJ1 : List Loc) (ex : Int64) (XJ1 : Stand p l e room_1 s m #[(.long q1), (.long q2), (.long q3), (.int p4), (.long q5), (.int p6)] below meth c TJ1 LJ1 0 0) (eJ1 : TJ1.heap = h0) (NJ1 : Fr n0 LJ1)  , GoW p e below QQ (TJ1.setTop (mkF m 12 #[.val (.long q1), .second, .val (.long q2), .second, .val (.long q3), .second, .val (.int p4), .val (.long q5), .second, .val (.int p6), .unset, .unset, .unset, .unset, .unset] [(.long ex)])) := by
    intro TJ1 LJ1  ex XJ1 eJ1 NJ1   
    refine GoW.st (fun t k => XS.lstore XJ1.here hx rfl (hb hby at_12) rfl (l' := #[.val (.long q1), .second, .val (.long q2), .second, .val (.long q3), .second, .val (.int p4), .val (.long q5), .second, .val (.int p6), .val (.long ex), .second, .unset, .unset, .unset]) rfl k) ?_
    show GoW p e below QQ (TJ1.setTop (mkF m 14 #[.val (.long q1), .second, .val (.long q2), .second, .val (.long q3), .second, .val (.int p4), .val (.long q5), .second, .val (.int p6), .val (.long ex), .second, .unset, .unset, .unset] []))
    obtain ⟨T2, h2, X2, e2, E2, A2, D2, -, st2⟩ := newO XJ1 hx hZ hown (hw _ (List.mem_of_getElem? (i := 0) rfl)) (hw _ (List.mem_of_getElem? (i := 1) rfl)) (hw _ (List.mem_of_getElem? (i := 2) rfl)) eJ1 (g := (mkF m 14 #[.val (.long q1), .second, .val (.long q2), .second, .val (.long q3), .second, .val (.int p4), .val (.long q5), .second, .val (.int p6), .val (.long ex), .second, .unset, .unset, .unset] [])) rfl (hb hby at_14) (by decide) (by decide)
    obtain ⟨b2, g2⟩ : ∃ z, z = h0.size := ⟨_, rfl⟩
    rw [← g2] at A2 D2 st2
    refine GoW.st st2 ?_
    have gg2 : n0 ≤ b2 := Nat.le_trans (Nat.le_trans Z0 K0.1) (Nat.le_of_eq g2.symm)
    have sz2 : h0.size ≤ b2 := Nat.le_trans K0.1 (Nat.le_of_eq g2.symm)
    have K2 : Keep h0 h2 [] := K0.ext E2
    have F2_component : Fld Z h2 b2 "com/example/duostrata/duostrata/model/Header" "component" "J" (.long (0 : Int64)) := D2 (Or.inr (hw _ (List.mem_of_getElem? (i := 15) rfl))) (ty := .long) (by decide)
    have F2_nextStep : Fld Z h2 b2 "com/example/duostrata/duostrata/model/Header" "nextStep" "J" (.long (0 : Int64)) := D2 (Or.inr (hw _ (List.mem_of_getElem? (i := 17) rfl))) (ty := .long) (by decide)
    have F2_version : Fld Z h2 b2 "com/example/duostrata/duostrata/model/Header" "version" "J" (.long (0 : Int64)) := D2 (Or.inr (hw _ (List.mem_of_getElem? (i := 19) rfl))) (ty := .long) (by decide)
    have F2_bodyBucket : Fld Z h2 b2 "com/example/duostrata/duostrata/model/Header" "bodyBucket" "I" (.int (0 : Int32)) := D2 (Or.inr (hw _ (List.mem_of_getElem? (i := 21) rfl))) (ty := .int) (by decide)
    have F2_expires : Fld Z h2 b2 "com/example/duostrata/duostrata/model/Header" "expires" "J" (.long (0 : Int64)) := D2 (Or.inr (hw _ (List.mem_of_getElem? (i := 23) rfl))) (ty := .long) (by decide)
    show GoW p e below QQ (T2.setTop (mkF m 17 #[.val (.long q1), .second, .val (.long q2), .second, .val (.long q3), .second, .val (.int p4), .val (.long q5), .second, .val (.int p6), .val (.long ex), .second, .unset, .unset, .unset] [(.ref b2)]))
    refine GoW.st (fun t k => XS.dup X2.here hx rfl (hb hby at_17) rfl rfl (XS.lload X2.here hx rfl (hb hby at_18) rfl (XS.lload X2.here hx rfl (hb hby at_20) rfl (XS.lloadN X2.here hx rfl (hb hby at_22) rfl (XS.iload X2.here hx rfl (hb hby at_23) rfl (XS.lload X2.here hx rfl (hb hby at_25) rfl k)))))) ?_
    show GoW p e below QQ (T2.setTop (mkF m 27 #[.val (.long q1), .second, .val (.long q2), .second, .val (.long q3), .second, .val (.int p4), .val (.long q5), .second, .val (.int p6), .val (.long ex), .second, .unset, .unset, .unset] [(.long ex), (.int p4), (.long q2), (.long q3), (.long q5), (.ref b2), (.ref b2)]))
    obtain ⟨_, _, ⟨T4, zL4, zk4, zn4⟩, -, X4, ⟨Lc4, hQ4, zl4, zy4, zz4⟩, st4⟩ := X2.specialBack hx (y := (⟨"com/example/duostrata/duostrata/model/Header", "<init>", "(JJJIJ)V"⟩ : MethodName)) rfl hown (mvT hZ (hw _ (List.mem_of_getElem? (i := 3) rfl))) (mvT hZ (hw _ (List.mem_of_getElem? (i := 4) rfl))) (mvT hZ (hw _ (List.mem_of_getElem? (i := 5) rfl))) (by decide) (backOf (W := 1) (rm1 l Z a0 hw [] b2 q5 q3 q2 p4 ex h2 n0 (Nat.le_trans Z0 K2.1) A2 gg2 F2_component F2_nextStep F2_version F2_bodyBucket F2_expires) hZ (hw _ (List.mem_of_getElem? (i := 5) rfl)) (hw _ (List.mem_of_getElem? (i := 2) rfl)) (by decide) (by decide)) (g := (mkF m 27 #[.val (.long q1), .second, .val (.long q2), .second, .val (.long q3), .second, .val (.int p4), .val (.long q5), .second, .val (.int p6), .val (.long ex), .second, .unset, .unset, .unset] [(.long ex), (.int p4), (.long q2), (.long q3), (.long q5), (.ref b2), (.ref b2)])) rfl (by rw [hml]; rfl) (Steps.refl _) (a := b2) (argsL := [(.long q5), (.long q3), (.long q2), (.int p4), (.long ex)]) (rest := [(.ref b2)]) (lenOf pd_1 rfl) rfl (by show 2 * 0 + _ ≤ _; exact Nat.le_of_eq rfl) (hb hby at_27) (fun _ _ => ⟨rfl, e2, (by decide : 1 + 0 ≤ _), (by decide : 5 + 0 ≤ _)⟩)
    dsimp only [Pt.U, Pt.locs, Pt.cells, Pt.slots] at X4 zl4 zy4 zz4 st4 hQ4
    subst zl4 zy4 zz4
    obtain ⟨rfl, Nq4, Kq4, p4_0, p4_1⟩ := hQ4
    have N4 := Fr.app NJ1 Nq4
    refine GoW.st (fun t k => st4.trans k) ?_
    have K4 : Keep h0 T4.heap [] := K2.trans Kq4 (allS (Or.inr sz2) all0)
    show GoW p e below QQ (T4.setTop (mkF m 30 #[.val (.long q1), .second, .val (.long q2), .second, .val (.long q3), .second, .val (.int p4), .val (.long q5), .second, .val (.int p6), .val (.long ex), .second, .unset, .unset, .unset] [(.ref b2)]))
    refine GoW.st (fun t k => XS.astore X4.here hx rfl (hb hby at_30) rfl rfl (l' := #[.val (.long q1), .second, .val (.long q2), .second, .val (.long q3), .second, .val (.int p4), .val (.long q5), .second, .val (.int p6), .val (.long ex), .second, .val (.ref b2), .unset, .unset]) rfl (XS.aload X4.here hx rfl (hb hby at_32) rfl rfl (XS.lloadN X4.here hx rfl (hb hby at_34) rfl (XS.lload X4.here hx rfl (hb hby at_35) rfl k)))) ?_
    show GoW p e below QQ (T4.setTop (mkF m 37 #[.val (.long q1), .second, .val (.long q2), .second, .val (.long q3), .second, .val (.int p4), .val (.long q5), .second, .val (.int p6), .val (.long ex), .second, .val (.ref b2), .unset, .unset] [(.long q3), (.long q2), (.ref b2)]))
    obtain ⟨_, _, ⟨T6, zL6, zk6, zn6⟩, -, X6, ⟨Lc6, hQ6, zl6, zy6, zz6⟩, st6⟩ := Jvm.LawKit.callS X4 hx (y := (⟨"java/lang/Math", "min", "(JJ)J"⟩ : MethodName)) hown (mvT hZ (hw _ (List.mem_of_getElem? (i := 24) rfl))) (mvT hZ (hw _ (List.mem_of_getElem? (i := 25) rfl))) (mvT hZ (hw _ (List.mem_of_getElem? (i := 26) rfl))) (mvT hZ (hw _ (List.mem_of_getElem? (i := 27) rfl))) (by decide) (backOf (W := 1) (rm4 l Z a0 hw [] q2 q3 T4.heap n0 (Nat.le_trans Z0 K4.1) ) hZ (hw _ (List.mem_of_getElem? (i := 27) rfl)) (hw _ (List.mem_of_getElem? (i := 26) rfl)) (by decide) (by decide)) (g := (mkF m 37 #[.val (.long q1), .second, .val (.long q2), .second, .val (.long q3), .second, .val (.int p4), .val (.long q5), .second, .val (.int p6), .val (.long ex), .second, .val (.ref b2), .unset, .unset] [(.long q3), (.long q2), (.ref b2)])) rfl (by rw [hml]; rfl) (argsL := [(.long q2), (.long q3)]) (rest := [(.ref b2)]) (lenOf pd_2 rfl) rfl (by show 2 * 0 + _ ≤ _; exact Nat.le_of_eq rfl) (hb hby at_37) (fun _ _ => ⟨rfl, rfl, (by decide : 1 + 0 ≤ _), (by decide : 5 + 0 ≤ _)⟩)
    dsimp only [Pt.U, Pt.locs, Pt.cells, Pt.slots] at X6 zl6 zy6 zz6 st6 hQ6
    subst zl6 zy6 zz6
    obtain ⟨rfl, Nq6, hh6⟩ := hQ6
    have N6 := Fr.app N4 Nq6
    refine GoW.st st6 ?_
    show GoW p e below QQ (T6.setTop (mkF m 40 #[.val (.long q1), .second, .val (.long q2), .second, .val (.long q3), .second, .val (.int p4), .val (.long q5), .second, .val (.int p6), .val (.long ex), .second, .val (.ref b2), .unset, .unset] [(.long (own_minL q2 q3)), (.ref b2)]))
    obtain ⟨cq7, kq7, qa7, qb7, qc7⟩ := isOf hZ hh6 p4_0
    obtain ⟨_, _, ⟨T7, zL7, zk7, zn7⟩, -, X7, ⟨Lc7, hQ7, zl7, zy7, zz7⟩, st7⟩ := X6.virtualBack hx (y := (⟨"com/example/duostrata/duostrata/model/Header", "expiredAt", "(J)Z"⟩ : MethodName)) (z := (⟨"com/example/duostrata/duostrata/model/Header", "expiredAt", "(J)Z"⟩ : MethodName)) hown (mvT hZ (hw _ (List.mem_of_getElem? (i := 28) rfl))) (mvT hZ (hw _ (List.mem_of_getElem? (i := 29) rfl))) (notFace_of_selects (args := #[]) (mvT hZ (hw _ (List.mem_of_getElem? (i := 31) rfl)))) (mvT hZ (hw _ (List.mem_of_getElem? (i := 31) rfl))) (mvT hZ (hw _ (List.mem_of_getElem? (i := 30) rfl))) (by decide) (backOf (W := 0) (rm5 l Z a0 hw [] b2 (own_minL q2 q3) ex T4.heap n0 (Nat.le_trans Z0 K4.1) p4_1) hZ (hw _ (List.mem_of_getElem? (i := 32) rfl)) (hw _ (List.mem_of_getElem? (i := 2) rfl)) (by decide) (by decide)) qa7 qc7 (g := (mkF m 40 #[.val (.long q1), .second, .val (.long q2), .second, .val (.long q3), .second, .val (.int p4), .val (.long q5), .second, .val (.int p6), .val (.long ex), .second, .val (.ref b2), .unset, .unset] [(.long (own_minL q2 q3)), (.ref b2)])) rfl (by rw [hml]; rfl) (Steps.refl _) (argsL := [(.long (own_minL q2 q3))]) (rest := []) (lenOf pd_3 rfl) rfl (by show 2 * 0 + _ ≤ _; exact Nat.le_of_eq rfl) (hb hby at_40) (fun _ _ => ⟨rfl, hh6, (by decide : 1 + 0 ≤ _), (by decide : 5 + 0 ≤ _)⟩)
    dsimp only [Pt.U, Pt.locs, Pt.cells, Pt.slots] at X7 zl7 zy7 zz7 st7 hQ7
    subst zl7 zy7 zz7
    obtain ⟨rfl, Nq7, hh7⟩ := hQ7
    have N7 := Fr.app N6 Nq7
    refine GoW.st (fun t k => st7.trans k) ?_
    show GoW p e below QQ (T7.setTop (mkF m 43 #[.val (.long q1), .second, .val (.long q2), .second, .val (.long q3), .second, .val (.int p4), .val (.long q5), .second, .val (.int p6), .val (.long ex), .second, .val (.ref b2), .unset, .unset] [(.int (own_exp ex (own_minL q2 q3)))]))
    refine GoW.st (fun t k => XS.istore X7.here hx rfl (hb hby at_43) rfl (l' := #[.val (.long q1), .second, .val (.long q2), .second, .val (.long q3), .second, .val (.int p4), .val (.long q5), .second, .val (.int p6), .val (.long ex), .second, .val (.ref b2), .val (.int (own_exp ex (own_minL q2 q3))), .unset]) rfl k) ?_
    show GoW p e below QQ (T7.setTop (mkF m 45 #[.val (.long q1), .second, .val (.long q2), .second, .val (.long q3), .second, .val (.int p4), .val (.long q5), .second, .val (.int p6), .val (.long ex), .second, .val (.ref b2), .val (.int (own_exp ex (own_minL q2 q3))), .unset] []))
    generalize hv43 : (own_exp ex (own_minL q2 q3)) = v43
    refine GoW.st (fun t k => XS.aload X7.here hx rfl (hb hby at_45) rfl rfl (XS.lloadN X7.here hx rfl (hb hby at_47) rfl (XS.lload X7.here hx rfl (hb hby at_48) rfl k))) ?_
    show GoW p e below QQ (T7.setTop (mkF m 50 #[.val (.long q1), .second, .val (.long q2), .second, .val (.long q3), .second, .val (.int p4), .val (.long q5), .second, .val (.int p6), .val (.long ex), .second, .val (.ref b2), .val (.int v43), .unset] [(.long q3), (.long q2), (.ref b2)]))
    obtain ⟨_, _, ⟨T8, zL8, zk8, zn8⟩, -, X8, ⟨Lc8, hQ8, zl8, zy8, zz8⟩, st8⟩ := Jvm.LawKit.callS X7 hx (y := (⟨"java/lang/Math", "max", "(JJ)J"⟩ : MethodName)) hown (mvT hZ (hw _ (List.mem_of_getElem? (i := 33) rfl))) (mvT hZ (hw _ (List.mem_of_getElem? (i := 34) rfl))) (mvT hZ (hw _ (List.mem_of_getElem? (i := 26) rfl))) (mvT hZ (hw _ (List.mem_of_getElem? (i := 35) rfl))) (by decide) (backOf (W := 1) (rm6 l Z a0 hw [] q2 q3 T4.heap n0 (Nat.le_trans Z0 K4.1) ) hZ (hw _ (List.mem_of_getElem? (i := 35) rfl)) (hw _ (List.mem_of_getElem? (i := 26) rfl)) (by decide) (by decide)) (g := (mkF m 50 #[.val (.long q1), .second, .val (.long q2), .second, .val (.long q3), .second, .val (.int p4), .val (.long q5), .second, .val (.int p6), .val (.long ex), .second, .val (.ref b2), .val (.int v43), .unset] [(.long q3), (.long q2), (.ref b2)])) rfl (by rw [hml]; rfl) (argsL := [(.long q2), (.long q3)]) (rest := [(.ref b2)]) (lenOf pd_2 rfl) rfl (by show 2 * 0 + _ ≤ _; exact Nat.le_of_eq rfl) (hb hby at_50) (fun _ _ => ⟨rfl, hh7, (by decide : 1 + 0 ≤ _), (by decide : 5 + 0 ≤ _)⟩)
    dsimp only [Pt.U, Pt.locs, Pt.cells, Pt.slots] at X8 zl8 zy8 zz8 st8 hQ8
    subst zl8 zy8 zz8
    obtain ⟨rfl, Nq8, hh8⟩ := hQ8
    have N8 := Fr.app N7 Nq8
    refine GoW.st st8 ?_
    show GoW p e below QQ (T8.setTop (mkF m 53 #[.val (.long q1), .second, .val (.long q2), .second, .val (.long q3), .second, .val (.int p4), .val (.long q5), .second, .val (.int p6), .val (.long ex), .second, .val (.ref b2), .val (.int v43), .unset] [(.long (own_maxL q2 q3)), (.ref b2)]))
    obtain ⟨cq9, kq9, qa9, qb9, qc9⟩ := isOf hZ hh8 p4_0
    obtain ⟨_, _, ⟨T9, zL9, zk9, zn9⟩, -, X9, ⟨Lc9, hQ9, zl9, zy9, zz9⟩, st9⟩ := X8.virtualBack hx (y := (⟨"com/example/duostrata/duostrata/model/Header", "expiredAt", "(J)Z"⟩ : MethodName)) (z := (⟨"com/example/duostrata/duostrata/model/Header", "expiredAt", "(J)Z"⟩ : MethodName)) hown (mvT hZ (hw _ (List.mem_of_getElem? (i := 28) rfl))) (mvT hZ (hw _ (List.mem_of_getElem? (i := 29) rfl))) (notFace_of_selects (args := #[]) (mvT hZ (hw _ (List.mem_of_getElem? (i := 31) rfl)))) (mvT hZ (hw _ (List.mem_of_getElem? (i := 31) rfl))) (mvT hZ (hw _ (List.mem_of_getElem? (i := 30) rfl))) (by decide) (backOf (W := 0) (rm5 l Z a0 hw [] b2 (own_maxL q2 q3) ex T4.heap n0 (Nat.le_trans Z0 K4.1) p4_1) hZ (hw _ (List.mem_of_getElem? (i := 32) rfl)) (hw _ (List.mem_of_getElem? (i := 2) rfl)) (by decide) (by decide)) qa9 qc9 (g := (mkF m 53 #[.val (.long q1), .second, .val (.long q2), .second, .val (.long q3), .second, .val (.int p4), .val (.long q5), .second, .val (.int p6), .val (.long ex), .second, .val (.ref b2), .val (.int v43), .unset] [(.long (own_maxL q2 q3)), (.ref b2)])) rfl (by rw [hml]; rfl) (Steps.refl _) (argsL := [(.long (own_maxL q2 q3))]) (rest := []) (lenOf pd_3 rfl) rfl (by show 2 * 0 + _ ≤ _; exact Nat.le_of_eq rfl) (hb hby at_53) (fun _ _ => ⟨rfl, hh8, (by decide : 1 + 0 ≤ _), (by decide : 5 + 0 ≤ _)⟩)
    dsimp only [Pt.U, Pt.locs, Pt.cells, Pt.slots] at X9 zl9 zy9 zz9 st9 hQ9
    subst zl9 zy9 zz9
    obtain ⟨rfl, Nq9, hh9⟩ := hQ9
    have N9 := Fr.app N8 Nq9
    refine GoW.st (fun t k => st9.trans k) ?_
    show GoW p e below QQ (T9.setTop (mkF m 56 #[.val (.long q1), .second, .val (.long q2), .second, .val (.long q3), .second, .val (.int p4), .val (.long q5), .second, .val (.int p6), .val (.long ex), .second, .val (.ref b2), .val (.int v43), .unset] [(.int (own_exp ex (own_maxL q2 q3)))]))
    refine GoW.st (fun t k => XS.istore X9.here hx rfl (hb hby at_56) rfl (l' := #[.val (.long q1), .second, .val (.long q2), .second, .val (.long q3), .second, .val (.int p4), .val (.long q5), .second, .val (.int p6), .val (.long ex), .second, .val (.ref b2), .val (.int v43), .val (.int (own_exp ex (own_maxL q2 q3)))]) rfl k) ?_
    show GoW p e below QQ (T9.setTop (mkF m 58 #[.val (.long q1), .second, .val (.long q2), .second, .val (.long q3), .second, .val (.int p4), .val (.long q5), .second, .val (.int p6), .val (.long ex), .second, .val (.ref b2), .val (.int v43), .val (.int (own_exp ex (own_maxL q2 q3)))] []))
    generalize hv56 : (own_exp ex (own_maxL q2 q3)) = v56
    refine GoW.st (fun t k => XS.iload X9.here hx rfl (hb hby at_58) rfl k) ?_
    show GoW p e below QQ (T9.setTop (mkF m 60 #[.val (.long q1), .second, .val (.long q2), .second, .val (.long q3), .second, .val (.int p4), .val (.long q5), .second, .val (.int p6), .val (.long ex), .second, .val (.ref b2), .val (.int v43), .val (.int v56)] [(.int v43)]))
    by_cases hc60 : v43 = (0 : Int32)
    · skip
      refine GoW.st (fun t k => XS.ifYes X9.here hx rfl (pc0 := 60) (pc' := 70) rfl (hb hby at_60) rfl ((if0 _ _).trans (teq hc60).1) (by decide) (by decide) (XS.lload X9.here hx rfl (hb hby at_70) rfl (XS.lconst X9.here hx rfl (hb hby at_72) (XS.lcmp X9.here hx rfl (hb hby at_73) rfl k)))) ?_
      show GoW p e below QQ (T9.setTop (mkF m 74 #[.val (.long q1), .second, .val (.long q2), .second, .val (.long q3), .second, .val (.int p4), .val (.long q5), .second, .val (.int p6), .val (.long ex), .second, .val (.ref b2), .val (.int v43), .val (.int v56)] [(.int (lcmpW ex (0 : Int64)))]))
      by_cases hc74 : ex = (0 : Int64)
      · skip
        refine GoW.st (fun t k => XS.ifNo X9.here hx rfl (hb hby at_74) rfl ((if0 _ _).trans (teq ((lw_eq ex (0 : Int64)).mpr hc74)).2) (XS.iload X9.here hx rfl (hb hby at_77) rfl k)) ?_
        show GoW p e below QQ (T9.setTop (mkF m 79 #[.val (.long q1), .second, .val (.long q2), .second, .val (.long q3), .second, .val (.int p4), .val (.long q5), .second, .val (.int p6), .val (.long ex), .second, .val (.ref b2), .val (.int v43), .val (.int v56)] [(.int v43)]))
        have hc79 : v43 = (0 : Int32) := by
          subst hv43
          rw [hc74]; exact own_exp0 _
        refine GoW.st (fun t k => XS.ifNo X9.here hx rfl (hb hby at_79) rfl ((if0 _ _).trans (teq hc79).2) (XS.iload X9.here hx rfl (hb hby at_82) rfl k)) ?_
        show GoW p e below QQ (T9.setTop (mkF m 84 #[.val (.long q1), .second, .val (.long q2), .second, .val (.long q3), .second, .val (.int p4), .val (.long q5), .second, .val (.int p6), .val (.long ex), .second, .val (.ref b2), .val (.int v43), .val (.int v56)] [(.int v56)]))
        have hc84 : v56 = (0 : Int32) := by
          subst hv56
          rw [hc74]; exact own_exp0 _
        refine GoW.st (fun t k => XS.ifNo X9.here hx rfl (hb hby at_84) rfl ((if0 _ _).trans (teq hc84).2) (XS.aload X9.here hx rfl (hb hby at_87) rfl rfl (X9.ldc2Long hx hown (mvT hZ (hw _ (List.mem_of_getElem? (i := 37) rfl))) (g := (mkF m 89 #[.val (.long q1), .second, .val (.long q2), .second, .val (.long q3), .second, .val (.int p4), .val (.long q5), .second, .val (.int p6), .val (.long ex), .second, .val (.ref b2), .val (.int v43), .val (.int v56)] [(.ref b2)])) rfl (hb hby at_89) t k))) ?_
        show GoW p e below QQ (T9.setTop (mkF m 92 #[.val (.long q1), .second, .val (.long q2), .second, .val (.long q3), .second, .val (.int p4), .val (.long q5), .second, .val (.int p6), .val (.long ex), .second, .val (.ref b2), .val (.int v43), .val (.int v56)] [(.long (9223372036854775807 : Int64)), (.ref b2)]))
        obtain ⟨cq10, kq10, qa10, qb10, qc10⟩ := isOf hZ hh9 p4_0
        obtain ⟨_, _, ⟨T10, zL10, zk10, zn10⟩, -, X10, ⟨Lc10, hQ10, zl10, zy10, zz10⟩, st10⟩ := X9.virtualBack hx (y := (⟨"com/example/duostrata/duostrata/model/Header", "expiredAt", "(J)Z"⟩ : MethodName)) (z := (⟨"com/example/duostrata/duostrata/model/Header", "expiredAt", "(J)Z"⟩ : MethodName)) hown (mvT hZ (hw _ (List.mem_of_getElem? (i := 28) rfl))) (mvT hZ (hw _ (List.mem_of_getElem? (i := 29) rfl))) (notFace_of_selects (args := #[]) (mvT hZ (hw _ (List.mem_of_getElem? (i := 31) rfl)))) (mvT hZ (hw _ (List.mem_of_getElem? (i := 31) rfl))) (mvT hZ (hw _ (List.mem_of_getElem? (i := 30) rfl))) (by decide) (backOf (W := 0) (rm5 l Z a0 hw [] b2 (9223372036854775807 : Int64) ex T4.heap n0 (Nat.le_trans Z0 K4.1) p4_1) hZ (hw _ (List.mem_of_getElem? (i := 32) rfl)) (hw _ (List.mem_of_getElem? (i := 2) rfl)) (by decide) (by decide)) qa10 qc10 (g := (mkF m 92 #[.val (.long q1), .second, .val (.long q2), .second, .val (.long q3), .second, .val (.int p4), .val (.long q5), .second, .val (.int p6), .val (.long ex), .second, .val (.ref b2), .val (.int v43), .val (.int v56)] [(.long (9223372036854775807 : Int64)), (.ref b2)])) rfl (by rw [hml]; rfl) (Steps.refl _) (argsL := [(.long (9223372036854775807 : Int64))]) (rest := []) (lenOf pd_3 rfl) rfl (by show 2 * 0 + _ ≤ _; exact Nat.le_of_eq rfl) (hb hby at_92) (fun _ _ => ⟨rfl, hh9, (by decide : 1 + 0 ≤ _), (by decide : 5 + 0 ≤ _)⟩)
        dsimp only [Pt.U, Pt.locs, Pt.cells, Pt.slots] at X10 zl10 zy10 zz10 st10 hQ10
        subst zl10 zy10 zz10
        obtain ⟨rfl, Nq10, hh10⟩ := hQ10
        have N10 := Fr.app N9 Nq10
        refine GoW.st (fun t k => st10.trans k) ?_
        show GoW p e below QQ (T10.setTop (mkF m 95 #[.val (.long q1), .second, .val (.long q2), .second, .val (.long q3), .second, .val (.int p4), .val (.long q5), .second, .val (.int p6), .val (.long ex), .second, .val (.ref b2), .val (.int v43), .val (.int v56)] [(.int (own_exp ex (9223372036854775807 : Int64)))]))
        have hc95 : (own_exp ex (9223372036854775807 : Int64)) = (0 : Int32) := by
          rw [hc74]; exact own_exp0 _
        refine GoW.st (fun t k => XS.ifNo X10.here hx rfl (hb hby at_95) rfl ((if0 _ _).trans (teq hc95).2) (XS.aload X10.here hx rfl (hb hby at_98) rfl rfl (X10.ldc2Long hx hown (mvT hZ (hw _ (List.mem_of_getElem? (i := 36) rfl))) (g := (mkF m 100 #[.val (.long q1), .second, .val (.long q2), .second, .val (.long q3), .second, .val (.int p4), .val (.long q5), .second, .val (.int p6), .val (.long ex), .second, .val (.ref b2), .val (.int v43), .val (.int v56)] [(.ref b2)])) rfl (hb hby at_100) t k))) ?_
        show GoW p e below QQ (T10.setTop (mkF m 103 #[.val (.long q1), .second, .val (.long q2), .second, .val (.long q3), .second, .val (.int p4), .val (.long q5), .second, .val (.int p6), .val (.long ex), .second, .val (.ref b2), .val (.int v43), .val (.int v56)] [(.long (-9223372036854775808 : Int64)), (.ref b2)]))
        obtain ⟨cq11, kq11, qa11, qb11, qc11⟩ := isOf hZ hh10 p4_0
        obtain ⟨_, _, ⟨T11, zL11, zk11, zn11⟩, -, X11, ⟨Lc11, hQ11, zl11, zy11, zz11⟩, st11⟩ := X10.virtualBack hx (y := (⟨"com/example/duostrata/duostrata/model/Header", "expiredAt", "(J)Z"⟩ : MethodName)) (z := (⟨"com/example/duostrata/duostrata/model/Header", "expiredAt", "(J)Z"⟩ : MethodName)) hown (mvT hZ (hw _ (List.mem_of_getElem? (i := 28) rfl))) (mvT hZ (hw _ (List.mem_of_getElem? (i := 29) rfl))) (notFace_of_selects (args := #[]) (mvT hZ (hw _ (List.mem_of_getElem? (i := 31) rfl)))) (mvT hZ (hw _ (List.mem_of_getElem? (i := 31) rfl))) (mvT hZ (hw _ (List.mem_of_getElem? (i := 30) rfl))) (by decide) (backOf (W := 0) (rm5 l Z a0 hw [] b2 (-9223372036854775808 : Int64) ex T4.heap n0 (Nat.le_trans Z0 K4.1) p4_1) hZ (hw _ (List.mem_of_getElem? (i := 32) rfl)) (hw _ (List.mem_of_getElem? (i := 2) rfl)) (by decide) (by decide)) qa11 qc11 (g := (mkF m 103 #[.val (.long q1), .second, .val (.long q2), .second, .val (.long q3), .second, .val (.int p4), .val (.long q5), .second, .val (.int p6), .val (.long ex), .second, .val (.ref b2), .val (.int v43), .val (.int v56)] [(.long (-9223372036854775808 : Int64)), (.ref b2)])) rfl (by rw [hml]; rfl) (Steps.refl _) (argsL := [(.long (-9223372036854775808 : Int64))]) (rest := []) (lenOf pd_3 rfl) rfl (by show 2 * 0 + _ ≤ _; exact Nat.le_of_eq rfl) (hb hby at_103) (fun _ _ => ⟨rfl, hh10, (by decide : 1 + 0 ≤ _), (by decide : 5 + 0 ≤ _)⟩)
        dsimp only [Pt.U, Pt.locs, Pt.cells, Pt.slots] at X11 zl11 zy11 zz11 st11 hQ11
        subst zl11 zy11 zz11
        obtain ⟨rfl, Nq11, hh11⟩ := hQ11
        have N11 := Fr.app N10 Nq11
        refine GoW.st (fun t k => st11.trans k) ?_
        show GoW p e below QQ (T11.setTop (mkF m 106 #[.val (.long q1), .second, .val (.long q2), .second, .val (.long q3), .second, .val (.int p4), .val (.long q5), .second, .val (.int p6), .val (.long ex), .second, .val (.ref b2), .val (.int v43), .val (.int v56)] [(.int (own_exp ex (-9223372036854775808 : Int64)))]))
        have hc106 : (own_exp ex (-9223372036854775808 : Int64)) = (0 : Int32) := by
          rw [hc74]; exact own_exp0 _
        refine GoW.st (fun t k => XS.ifNo X11.here hx rfl (hb hby at_106) rfl ((if0 _ _).trans (teq hc106).2) (XS.iconst X11.here hx rfl (hb hby at_109) (XS.goto X11.here hx rfl (pc0 := 110) (pc' := 114) rfl (hb hby at_110) (by decide) (by decide) k))) ?_
        show GoW p e below QQ (T11.setTop (mkF m 114 #[.val (.long q1), .second, .val (.long q2), .second, .val (.long q3), .second, .val (.int p4), .val (.long q5), .second, .val (.int p6), .val (.long ex), .second, .val (.ref b2), .val (.int v43), .val (.int v56)] [(.int (1 : Int32))]))
        exact GoW.fin X11 (some (.int (nar .boolean (1 : Int32)))) (fun q => by rw [hret] at q; cases q) hlk hQ hh11 ⟨rfl, N11⟩ (by decide) (by decide) (fun fs hr => retN X11 hx (t := .boolean) hret (by simp) (hb hby at_114) hr)
      · skip
        refine GoW.st (fun t k => XS.ifYes X9.here hx rfl (pc0 := 74) (pc' := 115) rfl (hb hby at_74) rfl ((if0 _ _).trans (feq (fun q => hc74 ((lw_eq ex (0 : Int64)).mp q))).2) (by decide) (by decide) (XS.aload X9.here hx rfl (hb hby at_115) rfl rfl (XS.lload X9.here hx rfl (hb hby at_117) rfl k))) ?_
        show GoW p e below QQ (T9.setTop (mkF m 119 #[.val (.long q1), .second, .val (.long q2), .second, .val (.long q3), .second, .val (.int p4), .val (.long q5), .second, .val (.int p6), .val (.long ex), .second, .val (.ref b2), .val (.int v43), .val (.int v56)] [(.long ex), (.ref b2)]))
        obtain ⟨cq12, kq12, qa12, qb12, qc12⟩ := isOf hZ hh9 p4_0
        obtain ⟨_, _, ⟨T12, zL12, zk12, zn12⟩, -, X12, ⟨Lc12, hQ12, zl12, zy12, zz12⟩, st12⟩ := X9.virtualBack hx (y := (⟨"com/example/duostrata/duostrata/model/Header", "expiredAt", "(J)Z"⟩ : MethodName)) (z := (⟨"com/example/duostrata/duostrata/model/Header", "expiredAt", "(J)Z"⟩ : MethodName)) hown (mvT hZ (hw _ (List.mem_of_getElem? (i := 28) rfl))) (mvT hZ (hw _ (List.mem_of_getElem? (i := 29) rfl))) (notFace_of_selects (args := #[]) (mvT hZ (hw _ (List.mem_of_getElem? (i := 31) rfl)))) (mvT hZ (hw _ (List.mem_of_getElem? (i := 31) rfl))) (mvT hZ (hw _ (List.mem_of_getElem? (i := 30) rfl))) (by decide) (backOf (W := 0) (rm5 l Z a0 hw [] b2 ex ex T4.heap n0 (Nat.le_trans Z0 K4.1) p4_1) hZ (hw _ (List.mem_of_getElem? (i := 32) rfl)) (hw _ (List.mem_of_getElem? (i := 2) rfl)) (by decide) (by decide)) qa12 qc12 (g := (mkF m 119 #[.val (.long q1), .second, .val (.long q2), .second, .val (.long q3), .second, .val (.int p4), .val (.long q5), .second, .val (.int p6), .val (.long ex), .second, .val (.ref b2), .val (.int v43), .val (.int v56)] [(.long ex), (.ref b2)])) rfl (by rw [hml]; rfl) (Steps.refl _) (argsL := [(.long ex)]) (rest := []) (lenOf pd_3 rfl) rfl (by show 2 * 0 + _ ≤ _; exact Nat.le_of_eq rfl) (hb hby at_119) (fun _ _ => ⟨rfl, hh9, (by decide : 1 + 0 ≤ _), (by decide : 5 + 0 ≤ _)⟩)
        dsimp only [Pt.U, Pt.locs, Pt.cells, Pt.slots] at X12 zl12 zy12 zz12 st12 hQ12
        subst zl12 zy12 zz12
        obtain ⟨rfl, Nq12, hh12⟩ := hQ12
        have N12 := Fr.app N9 Nq12
        refine GoW.st (fun t k => st12.trans k) ?_
        show GoW p e below QQ (T12.setTop (mkF m 122 #[.val (.long q1), .second, .val (.long q2), .second, .val (.long q3), .second, .val (.int p4), .val (.long q5), .second, .val (.int p6), .val (.long ex), .second, .val (.ref b2), .val (.int v43), .val (.int v56)] [(.int (own_exp ex ex))]))
        have hc122 : ¬ ((own_exp ex ex) = (0 : Int32)) := by
          rw [own_exp1 _ hc74]; decide
        refine GoW.st (fun t k => XS.ifYes X12.here hx rfl (pc0 := 122) (pc' := 127) rfl (hb hby at_122) rfl ((if0 _ _).trans (feq hc122).2) (by decide) (by decide) (XS.lload X12.here hx rfl (hb hby at_127) rfl (X12.ldc2Long hx hown (mvT hZ (hw _ (List.mem_of_getElem? (i := 36) rfl))) (g := (mkF m 129 #[.val (.long q1), .second, .val (.long q2), .second, .val (.long q3), .second, .val (.int p4), .val (.long q5), .second, .val (.int p6), .val (.long ex), .second, .val (.ref b2), .val (.int v43), .val (.int v56)] [(.long ex)])) rfl (hb hby at_129) t (XS.lcmp X12.here hx rfl (hb hby at_132) rfl k)))) ?_
        show GoW p e below QQ (T12.setTop (mkF m 133 #[.val (.long q1), .second, .val (.long q2), .second, .val (.long q3), .second, .val (.int p4), .val (.long q5), .second, .val (.int p6), .val (.long ex), .second, .val (.ref b2), .val (.int v43), .val (.int v56)] [(.int (lcmpW ex (-9223372036854775808 : Int64)))]))
        by_cases hc133 : ex = (-9223372036854775808 : Int64)
        · skip
          refine GoW.st (fun t k => XS.ifYes X12.here hx rfl (pc0 := 133) (pc' := 150) rfl (hb hby at_133) rfl ((if0 _ _).trans (teq ((lw_eq ex (-9223372036854775808 : Int64)).mpr hc133)).1) (by decide) (by decide) (XS.iconst X12.here hx rfl (hb hby at_150) k)) ?_
          show GoW p e below QQ (T12.setTop (mkF m 151 #[.val (.long q1), .second, .val (.long q2), .second, .val (.long q3), .second, .val (.int p4), .val (.long q5), .second, .val (.int p6), .val (.long ex), .second, .val (.ref b2), .val (.int v43), .val (.int v56)] [(.int (1 : Int32))]))
          exact GoW.fin X12 (some (.int (nar .boolean (1 : Int32)))) (fun q => by rw [hret] at q; cases q) hlk hQ hh12 ⟨rfl, N12⟩ (by decide) (by decide) (fun fs hr => retN X12 hx (t := .boolean) hret (by simp) (hb hby at_151) hr)
        · skip
          refine GoW.st (fun t k => XS.ifNo X12.here hx rfl (hb hby at_133) rfl ((if0 _ _).trans (feq (fun q => hc133 ((lw_eq ex (-9223372036854775808 : Int64)).mp q))).1) (XS.aload X12.here hx rfl (hb hby at_136) rfl rfl (XS.lload X12.here hx rfl (hb hby at_138) rfl (XS.lconst X12.here hx rfl (hb hby at_140) (XS.lsub X12.here hx rfl (hb hby at_141) rfl k))))) ?_
          show GoW p e below QQ (T12.setTop (mkF m 142 #[.val (.long q1), .second, .val (.long q2), .second, .val (.long q3), .second, .val (.int p4), .val (.long q5), .second, .val (.int p6), .val (.long ex), .second, .val (.ref b2), .val (.int v43), .val (.int v56)] [(.long (ex - (1 : Int64))), (.ref b2)]))
          obtain ⟨cq13, kq13, qa13, qb13, qc13⟩ := isOf hZ hh12 p4_0
          obtain ⟨_, _, ⟨T13, zL13, zk13, zn13⟩, -, X13, ⟨Lc13, hQ13, zl13, zy13, zz13⟩, st13⟩ := X12.virtualBack hx (y := (⟨"com/example/duostrata/duostrata/model/Header", "expiredAt", "(J)Z"⟩ : MethodName)) (z := (⟨"com/example/duostrata/duostrata/model/Header", "expiredAt", "(J)Z"⟩ : MethodName)) hown (mvT hZ (hw _ (List.mem_of_getElem? (i := 28) rfl))) (mvT hZ (hw _ (List.mem_of_getElem? (i := 29) rfl))) (notFace_of_selects (args := #[]) (mvT hZ (hw _ (List.mem_of_getElem? (i := 31) rfl)))) (mvT hZ (hw _ (List.mem_of_getElem? (i := 31) rfl))) (mvT hZ (hw _ (List.mem_of_getElem? (i := 30) rfl))) (by decide) (backOf (W := 0) (rm5 l Z a0 hw [] b2 (ex - (1 : Int64)) ex T4.heap n0 (Nat.le_trans Z0 K4.1) p4_1) hZ (hw _ (List.mem_of_getElem? (i := 32) rfl)) (hw _ (List.mem_of_getElem? (i := 2) rfl)) (by decide) (by decide)) qa13 qc13 (g := (mkF m 142 #[.val (.long q1), .second, .val (.long q2), .second, .val (.long q3), .second, .val (.int p4), .val (.long q5), .second, .val (.int p6), .val (.long ex), .second, .val (.ref b2), .val (.int v43), .val (.int v56)] [(.long (ex - (1 : Int64))), (.ref b2)])) rfl (by rw [hml]; rfl) (Steps.refl _) (argsL := [(.long (ex - (1 : Int64)))]) (rest := []) (lenOf pd_3 rfl) rfl (by show 2 * 0 + _ ≤ _; exact Nat.le_of_eq rfl) (hb hby at_142) (fun _ _ => ⟨rfl, hh12, (by decide : 1 + 0 ≤ _), (by decide : 5 + 0 ≤ _)⟩)
          dsimp only [Pt.U, Pt.locs, Pt.cells, Pt.slots] at X13 zl13 zy13 zz13 st13 hQ13
          subst zl13 zy13 zz13
          obtain ⟨rfl, Nq13, hh13⟩ := hQ13
          have N13 := Fr.app N12 Nq13
          refine GoW.st (fun t k => st13.trans k) ?_
          show GoW p e below QQ (T13.setTop (mkF m 145 #[.val (.long q1), .second, .val (.long q2), .second, .val (.long q3), .second, .val (.int p4), .val (.long q5), .second, .val (.int p6), .val (.long ex), .second, .val (.ref b2), .val (.int v43), .val (.int v56)] [(.int (own_exp ex (ex - (1 : Int64))))]))
          have hc145 : (own_exp ex (ex - (1 : Int64))) = (0 : Int32) := by
            exact own_expp _ hc74 hc133
          refine GoW.st (fun t k => XS.ifYes X13.here hx rfl (pc0 := 145) (pc' := 150) rfl (hb hby at_145) rfl ((if0 _ _).trans (teq hc145).1) (by decide) (by decide) (XS.iconst X13.here hx rfl (hb hby at_150) k)) ?_
          show GoW p e below QQ (T13.setTop (mkF m 151 #[.val (.long q1), .second, .val (.long q2), .second, .val (.long q3), .second, .val (.int p4), .val (.long q5), .second, .val (.int p6), .val (.long ex), .second, .val (.ref b2), .val (.int v43), .val (.int v56)] [(.int (1 : Int32))]))
          exact GoW.fin X13 (some (.int (nar .boolean (1 : Int32)))) (fun q => by rw [hret] at q; cases q) hlk hQ hh13 ⟨rfl, N13⟩ (by decide) (by decide) (fun fs hr => retN X13 hx (t := .boolean) hret (by simp) (hb hby at_151) hr)
    · skip
      refine GoW.st (fun t k => XS.ifNo X9.here hx rfl (hb hby at_60) rfl ((if0 _ _).trans (feq hc60).1) (XS.iload X9.here hx rfl (hb hby at_63) rfl k)) ?_
      show GoW p e below QQ (T9.setTop (mkF m 65 #[.val (.long q1), .second, .val (.long q2), .second, .val (.long q3), .second, .val (.int p4), .val (.long q5), .second, .val (.int p6), .val (.long ex), .second, .val (.ref b2), .val (.int v43), .val (.int v56)] [(.int v56)]))
      have hc65 : ¬ (v56 = (0 : Int32)) := by
        subst hv56 hv43
        exact own_expm _ _ _ (own_minmax _ _) hc60
      refine GoW.st (fun t k => XS.ifYes X9.here hx rfl (pc0 := 65) (pc' := 70) rfl (hb hby at_65) rfl ((if0 _ _).trans (feq hc65).2) (by decide) (by decide) (XS.lload X9.here hx rfl (hb hby at_70) rfl (XS.lconst X9.here hx rfl (hb hby at_72) (XS.lcmp X9.here hx rfl (hb hby at_73) rfl k)))) ?_
      show GoW p e below QQ (T9.setTop (mkF m 74 #[.val (.long q1), .second, .val (.long q2), .second, .val (.long q3), .second, .val (.int p4), .val (.long q5), .second, .val (.int p6), .val (.long ex), .second, .val (.ref b2), .val (.int v43), .val (.int v56)] [(.int (lcmpW ex (0 : Int64)))]))
      by_cases hc74 : ex = (0 : Int64)
      · skip
        refine GoW.st (fun t k => XS.ifNo X9.here hx rfl (hb hby at_74) rfl ((if0 _ _).trans (teq ((lw_eq ex (0 : Int64)).mpr hc74)).2) (XS.iload X9.here hx rfl (hb hby at_77) rfl k)) ?_
        show GoW p e below QQ (T9.setTop (mkF m 79 #[.val (.long q1), .second, .val (.long q2), .second, .val (.long q3), .second, .val (.int p4), .val (.long q5), .second, .val (.int p6), .val (.long ex), .second, .val (.ref b2), .val (.int v43), .val (.int v56)] [(.int v43)]))
        have hc79 : v43 = (0 : Int32) := by
          subst hv43
          rw [hc74]; exact own_exp0 _
        refine GoW.st (fun t k => XS.ifNo X9.here hx rfl (hb hby at_79) rfl ((if0 _ _).trans (teq hc79).2) (XS.iload X9.here hx rfl (hb hby at_82) rfl k)) ?_
        show GoW p e below QQ (T9.setTop (mkF m 84 #[.val (.long q1), .second, .val (.long q2), .second, .val (.long q3), .second, .val (.int p4), .val (.long q5), .second, .val (.int p6), .val (.long ex), .second, .val (.ref b2), .val (.int v43), .val (.int v56)] [(.int v56)]))
        have hc84 : v56 = (0 : Int32) := by
          subst hv56
          rw [hc74]; exact own_exp0 _
        refine GoW.st (fun t k => XS.ifNo X9.here hx rfl (hb hby at_84) rfl ((if0 _ _).trans (teq hc84).2) (XS.aload X9.here hx rfl (hb hby at_87) rfl rfl (X9.ldc2Long hx hown (mvT hZ (hw _ (List.mem_of_getElem? (i := 37) rfl))) (g := (mkF m 89 #[.val (.long q1), .second, .val (.long q2), .second, .val (.long q3), .second, .val (.int p4), .val (.long q5), .second, .val (.int p6), .val (.long ex), .second, .val (.ref b2), .val (.int v43), .val (.int v56)] [(.ref b2)])) rfl (hb hby at_89) t k))) ?_
        show GoW p e below QQ (T9.setTop (mkF m 92 #[.val (.long q1), .second, .val (.long q2), .second, .val (.long q3), .second, .val (.int p4), .val (.long q5), .second, .val (.int p6), .val (.long ex), .second, .val (.ref b2), .val (.int v43), .val (.int v56)] [(.long (9223372036854775807 : Int64)), (.ref b2)]))
        obtain ⟨cq14, kq14, qa14, qb14, qc14⟩ := isOf hZ hh9 p4_0
        obtain ⟨_, _, ⟨T14, zL14, zk14, zn14⟩, -, X14, ⟨Lc14, hQ14, zl14, zy14, zz14⟩, st14⟩ := X9.virtualBack hx (y := (⟨"com/example/duostrata/duostrata/model/Header", "expiredAt", "(J)Z"⟩ : MethodName)) (z := (⟨"com/example/duostrata/duostrata/model/Header", "expiredAt", "(J)Z"⟩ : MethodName)) hown (mvT hZ (hw _ (List.mem_of_getElem? (i := 28) rfl))) (mvT hZ (hw _ (List.mem_of_getElem? (i := 29) rfl))) (notFace_of_selects (args := #[]) (mvT hZ (hw _ (List.mem_of_getElem? (i := 31) rfl)))) (mvT hZ (hw _ (List.mem_of_getElem? (i := 31) rfl))) (mvT hZ (hw _ (List.mem_of_getElem? (i := 30) rfl))) (by decide) (backOf (W := 0) (rm5 l Z a0 hw [] b2 (9223372036854775807 : Int64) ex T4.heap n0 (Nat.le_trans Z0 K4.1) p4_1) hZ (hw _ (List.mem_of_getElem? (i := 32) rfl)) (hw _ (List.mem_of_getElem? (i := 2) rfl)) (by decide) (by decide)) qa14 qc14 (g := (mkF m 92 #[.val (.long q1), .second, .val (.long q2), .second, .val (.long q3), .second, .val (.int p4), .val (.long q5), .second, .val (.int p6), .val (.long ex), .second, .val (.ref b2), .val (.int v43), .val (.int v56)] [(.long (9223372036854775807 : Int64)), (.ref b2)])) rfl (by rw [hml]; rfl) (Steps.refl _) (argsL := [(.long (9223372036854775807 : Int64))]) (rest := []) (lenOf pd_3 rfl) rfl (by show 2 * 0 + _ ≤ _; exact Nat.le_of_eq rfl) (hb hby at_92) (fun _ _ => ⟨rfl, hh9, (by decide : 1 + 0 ≤ _), (by decide : 5 + 0 ≤ _)⟩)
        dsimp only [Pt.U, Pt.locs, Pt.cells, Pt.slots] at X14 zl14 zy14 zz14 st14 hQ14
        subst zl14 zy14 zz14
        obtain ⟨rfl, Nq14, hh14⟩ := hQ14
        have N14 := Fr.app N9 Nq14
        refine GoW.st (fun t k => st14.trans k) ?_
        show GoW p e below QQ (T14.setTop (mkF m 95 #[.val (.long q1), .second, .val (.long q2), .second, .val (.long q3), .second, .val (.int p4), .val (.long q5), .second, .val (.int p6), .val (.long ex), .second, .val (.ref b2), .val (.int v43), .val (.int v56)] [(.int (own_exp ex (9223372036854775807 : Int64)))]))
        have hc95 : (own_exp ex (9223372036854775807 : Int64)) = (0 : Int32) := by
          rw [hc74]; exact own_exp0 _
        refine GoW.st (fun t k => XS.ifNo X14.here hx rfl (hb hby at_95) rfl ((if0 _ _).trans (teq hc95).2) (XS.aload X14.here hx rfl (hb hby at_98) rfl rfl (X14.ldc2Long hx hown (mvT hZ (hw _ (List.mem_of_getElem? (i := 36) rfl))) (g := (mkF m 100 #[.val (.long q1), .second, .val (.long q2), .second, .val (.long q3), .second, .val (.int p4), .val (.long q5), .second, .val (.int p6), .val (.long ex), .second, .val (.ref b2), .val (.int v43), .val (.int v56)] [(.ref b2)])) rfl (hb hby at_100) t k))) ?_
        show GoW p e below QQ (T14.setTop (mkF m 103 #[.val (.long q1), .second, .val (.long q2), .second, .val (.long q3), .second, .val (.int p4), .val (.long q5), .second, .val (.int p6), .val (.long ex), .second, .val (.ref b2), .val (.int v43), .val (.int v56)] [(.long (-9223372036854775808 : Int64)), (.ref b2)]))
        obtain ⟨cq15, kq15, qa15, qb15, qc15⟩ := isOf hZ hh14 p4_0
        obtain ⟨_, _, ⟨T15, zL15, zk15, zn15⟩, -, X15, ⟨Lc15, hQ15, zl15, zy15, zz15⟩, st15⟩ := X14.virtualBack hx (y := (⟨"com/example/duostrata/duostrata/model/Header", "expiredAt", "(J)Z"⟩ : MethodName)) (z := (⟨"com/example/duostrata/duostrata/model/Header", "expiredAt", "(J)Z"⟩ : MethodName)) hown (mvT hZ (hw _ (List.mem_of_getElem? (i := 28) rfl))) (mvT hZ (hw _ (List.mem_of_getElem? (i := 29) rfl))) (notFace_of_selects (args := #[]) (mvT hZ (hw _ (List.mem_of_getElem? (i := 31) rfl)))) (mvT hZ (hw _ (List.mem_of_getElem? (i := 31) rfl))) (mvT hZ (hw _ (List.mem_of_getElem? (i := 30) rfl))) (by decide) (backOf (W := 0) (rm5 l Z a0 hw [] b2 (-9223372036854775808 : Int64) ex T4.heap n0 (Nat.le_trans Z0 K4.1) p4_1) hZ (hw _ (List.mem_of_getElem? (i := 32) rfl)) (hw _ (List.mem_of_getElem? (i := 2) rfl)) (by decide) (by decide)) qa15 qc15 (g := (mkF m 103 #[.val (.long q1), .second, .val (.long q2), .second, .val (.long q3), .second, .val (.int p4), .val (.long q5), .second, .val (.int p6), .val (.long ex), .second, .val (.ref b2), .val (.int v43), .val (.int v56)] [(.long (-9223372036854775808 : Int64)), (.ref b2)])) rfl (by rw [hml]; rfl) (Steps.refl _) (argsL := [(.long (-9223372036854775808 : Int64))]) (rest := []) (lenOf pd_3 rfl) rfl (by show 2 * 0 + _ ≤ _; exact Nat.le_of_eq rfl) (hb hby at_103) (fun _ _ => ⟨rfl, hh14, (by decide : 1 + 0 ≤ _), (by decide : 5 + 0 ≤ _)⟩)
        dsimp only [Pt.U, Pt.locs, Pt.cells, Pt.slots] at X15 zl15 zy15 zz15 st15 hQ15
        subst zl15 zy15 zz15
        obtain ⟨rfl, Nq15, hh15⟩ := hQ15
        have N15 := Fr.app N14 Nq15
        refine GoW.st (fun t k => st15.trans k) ?_
        show GoW p e below QQ (T15.setTop (mkF m 106 #[.val (.long q1), .second, .val (.long q2), .second, .val (.long q3), .second, .val (.int p4), .val (.long q5), .second, .val (.int p6), .val (.long ex), .second, .val (.ref b2), .val (.int v43), .val (.int v56)] [(.int (own_exp ex (-9223372036854775808 : Int64)))]))
        have hc106 : (own_exp ex (-9223372036854775808 : Int64)) = (0 : Int32) := by
          rw [hc74]; exact own_exp0 _
        refine GoW.st (fun t k => XS.ifNo X15.here hx rfl (hb hby at_106) rfl ((if0 _ _).trans (teq hc106).2) (XS.iconst X15.here hx rfl (hb hby at_109) (XS.goto X15.here hx rfl (pc0 := 110) (pc' := 114) rfl (hb hby at_110) (by decide) (by decide) k))) ?_
        show GoW p e below QQ (T15.setTop (mkF m 114 #[.val (.long q1), .second, .val (.long q2), .second, .val (.long q3), .second, .val (.int p4), .val (.long q5), .second, .val (.int p6), .val (.long ex), .second, .val (.ref b2), .val (.int v43), .val (.int v56)] [(.int (1 : Int32))]))
        exact GoW.fin X15 (some (.int (nar .boolean (1 : Int32)))) (fun q => by rw [hret] at q; cases q) hlk hQ hh15 ⟨rfl, N15⟩ (by decide) (by decide) (fun fs hr => retN X15 hx (t := .boolean) hret (by simp) (hb hby at_114) hr)
      · skip
        refine GoW.st (fun t k => XS.ifYes X9.here hx rfl (pc0 := 74) (pc' := 115) rfl (hb hby at_74) rfl ((if0 _ _).trans (feq (fun q => hc74 ((lw_eq ex (0 : Int64)).mp q))).2) (by decide) (by decide) (XS.aload X9.here hx rfl (hb hby at_115) rfl rfl (XS.lload X9.here hx rfl (hb hby at_117) rfl k))) ?_
        show GoW p e below QQ (T9.setTop (mkF m 119 #[.val (.long q1), .second, .val (.long q2), .second, .val (.long q3), .second, .val (.int p4), .val (.long q5), .second, .val (.int p6), .val (.long ex), .second, .val (.ref b2), .val (.int v43), .val (.int v56)] [(.long ex), (.ref b2)]))
        obtain ⟨cq16, kq16, qa16, qb16, qc16⟩ := isOf hZ hh9 p4_0
        obtain ⟨_, _, ⟨T16, zL16, zk16, zn16⟩, -, X16, ⟨Lc16, hQ16, zl16, zy16, zz16⟩, st16⟩ := X9.virtualBack hx (y := (⟨"com/example/duostrata/duostrata/model/Header", "expiredAt", "(J)Z"⟩ : MethodName)) (z := (⟨"com/example/duostrata/duostrata/model/Header", "expiredAt", "(J)Z"⟩ : MethodName)) hown (mvT hZ (hw _ (List.mem_of_getElem? (i := 28) rfl))) (mvT hZ (hw _ (List.mem_of_getElem? (i := 29) rfl))) (notFace_of_selects (args := #[]) (mvT hZ (hw _ (List.mem_of_getElem? (i := 31) rfl)))) (mvT hZ (hw _ (List.mem_of_getElem? (i := 31) rfl))) (mvT hZ (hw _ (List.mem_of_getElem? (i := 30) rfl))) (by decide) (backOf (W := 0) (rm5 l Z a0 hw [] b2 ex ex T4.heap n0 (Nat.le_trans Z0 K4.1) p4_1) hZ (hw _ (List.mem_of_getElem? (i := 32) rfl)) (hw _ (List.mem_of_getElem? (i := 2) rfl)) (by decide) (by decide)) qa16 qc16 (g := (mkF m 119 #[.val (.long q1), .second, .val (.long q2), .second, .val (.long q3), .second, .val (.int p4), .val (.long q5), .second, .val (.int p6), .val (.long ex), .second, .val (.ref b2), .val (.int v43), .val (.int v56)] [(.long ex), (.ref b2)])) rfl (by rw [hml]; rfl) (Steps.refl _) (argsL := [(.long ex)]) (rest := []) (lenOf pd_3 rfl) rfl (by show 2 * 0 + _ ≤ _; exact Nat.le_of_eq rfl) (hb hby at_119) (fun _ _ => ⟨rfl, hh9, (by decide : 1 + 0 ≤ _), (by decide : 5 + 0 ≤ _)⟩)
        dsimp only [Pt.U, Pt.locs, Pt.cells, Pt.slots] at X16 zl16 zy16 zz16 st16 hQ16
        subst zl16 zy16 zz16
        obtain ⟨rfl, Nq16, hh16⟩ := hQ16
        have N16 := Fr.app N9 Nq16
        refine GoW.st (fun t k => st16.trans k) ?_
        show GoW p e below QQ (T16.setTop (mkF m 122 #[.val (.long q1), .second, .val (.long q2), .second, .val (.long q3), .second, .val (.int p4), .val (.long q5), .second, .val (.int p6), .val (.long ex), .second, .val (.ref b2), .val (.int v43), .val (.int v56)] [(.int (own_exp ex ex))]))
        have hc122 : ¬ ((own_exp ex ex) = (0 : Int32)) := by
          rw [own_exp1 _ hc74]; decide
        refine GoW.st (fun t k => XS.ifYes X16.here hx rfl (pc0 := 122) (pc' := 127) rfl (hb hby at_122) rfl ((if0 _ _).trans (feq hc122).2) (by decide) (by decide) (XS.lload X16.here hx rfl (hb hby at_127) rfl (X16.ldc2Long hx hown (mvT hZ (hw _ (List.mem_of_getElem? (i := 36) rfl))) (g := (mkF m 129 #[.val (.long q1), .second, .val (.long q2), .second, .val (.long q3), .second, .val (.int p4), .val (.long q5), .second, .val (.int p6), .val (.long ex), .second, .val (.ref b2), .val (.int v43), .val (.int v56)] [(.long ex)])) rfl (hb hby at_129) t (XS.lcmp X16.here hx rfl (hb hby at_132) rfl k)))) ?_
        show GoW p e below QQ (T16.setTop (mkF m 133 #[.val (.long q1), .second, .val (.long q2), .second, .val (.long q3), .second, .val (.int p4), .val (.long q5), .second, .val (.int p6), .val (.long ex), .second, .val (.ref b2), .val (.int v43), .val (.int v56)] [(.int (lcmpW ex (-9223372036854775808 : Int64)))]))
        by_cases hc133 : ex = (-9223372036854775808 : Int64)
        · skip
          refine GoW.st (fun t k => XS.ifYes X16.here hx rfl (pc0 := 133) (pc' := 150) rfl (hb hby at_133) rfl ((if0 _ _).trans (teq ((lw_eq ex (-9223372036854775808 : Int64)).mpr hc133)).1) (by decide) (by decide) (XS.iconst X16.here hx rfl (hb hby at_150) k)) ?_
          show GoW p e below QQ (T16.setTop (mkF m 151 #[.val (.long q1), .second, .val (.long q2), .second, .val (.long q3), .second, .val (.int p4), .val (.long q5), .second, .val (.int p6), .val (.long ex), .second, .val (.ref b2), .val (.int v43), .val (.int v56)] [(.int (1 : Int32))]))
          exact GoW.fin X16 (some (.int (nar .boolean (1 : Int32)))) (fun q => by rw [hret] at q; cases q) hlk hQ hh16 ⟨rfl, N16⟩ (by decide) (by decide) (fun fs hr => retN X16 hx (t := .boolean) hret (by simp) (hb hby at_151) hr)
        · skip
          refine GoW.st (fun t k => XS.ifNo X16.here hx rfl (hb hby at_133) rfl ((if0 _ _).trans (feq (fun q => hc133 ((lw_eq ex (-9223372036854775808 : Int64)).mp q))).1) (XS.aload X16.here hx rfl (hb hby at_136) rfl rfl (XS.lload X16.here hx rfl (hb hby at_138) rfl (XS.lconst X16.here hx rfl (hb hby at_140) (XS.lsub X16.here hx rfl (hb hby at_141) rfl k))))) ?_
          show GoW p e below QQ (T16.setTop (mkF m 142 #[.val (.long q1), .second, .val (.long q2), .second, .val (.long q3), .second, .val (.int p4), .val (.long q5), .second, .val (.int p6), .val (.long ex), .second, .val (.ref b2), .val (.int v43), .val (.int v56)] [(.long (ex - (1 : Int64))), (.ref b2)]))
          obtain ⟨cq17, kq17, qa17, qb17, qc17⟩ := isOf hZ hh16 p4_0
          obtain ⟨_, _, ⟨T17, zL17, zk17, zn17⟩, -, X17, ⟨Lc17, hQ17, zl17, zy17, zz17⟩, st17⟩ := X16.virtualBack hx (y := (⟨"com/example/duostrata/duostrata/model/Header", "expiredAt", "(J)Z"⟩ : MethodName)) (z := (⟨"com/example/duostrata/duostrata/model/Header", "expiredAt", "(J)Z"⟩ : MethodName)) hown (mvT hZ (hw _ (List.mem_of_getElem? (i := 28) rfl))) (mvT hZ (hw _ (List.mem_of_getElem? (i := 29) rfl))) (notFace_of_selects (args := #[]) (mvT hZ (hw _ (List.mem_of_getElem? (i := 31) rfl)))) (mvT hZ (hw _ (List.mem_of_getElem? (i := 31) rfl))) (mvT hZ (hw _ (List.mem_of_getElem? (i := 30) rfl))) (by decide) (backOf (W := 0) (rm5 l Z a0 hw [] b2 (ex - (1 : Int64)) ex T4.heap n0 (Nat.le_trans Z0 K4.1) p4_1) hZ (hw _ (List.mem_of_getElem? (i := 32) rfl)) (hw _ (List.mem_of_getElem? (i := 2) rfl)) (by decide) (by decide)) qa17 qc17 (g := (mkF m 142 #[.val (.long q1), .second, .val (.long q2), .second, .val (.long q3), .second, .val (.int p4), .val (.long q5), .second, .val (.int p6), .val (.long ex), .second, .val (.ref b2), .val (.int v43), .val (.int v56)] [(.long (ex - (1 : Int64))), (.ref b2)])) rfl (by rw [hml]; rfl) (Steps.refl _) (argsL := [(.long (ex - (1 : Int64)))]) (rest := []) (lenOf pd_3 rfl) rfl (by show 2 * 0 + _ ≤ _; exact Nat.le_of_eq rfl) (hb hby at_142) (fun _ _ => ⟨rfl, hh16, (by decide : 1 + 0 ≤ _), (by decide : 5 + 0 ≤ _)⟩)
          dsimp only [Pt.U, Pt.locs, Pt.cells, Pt.slots] at X17 zl17 zy17 zz17 st17 hQ17
          subst zl17 zy17 zz17
          obtain ⟨rfl, Nq17, hh17⟩ := hQ17
          have N17 := Fr.app N16 Nq17
          refine GoW.st (fun t k => st17.trans k) ?_
          show GoW p e below QQ (T17.setTop (mkF m 145 #[.val (.long q1), .second, .val (.long q2), .second, .val (.long q3), .second, .val (.int p4), .val (.long q5), .second, .val (.int p6), .val (.long ex), .second, .val (.ref b2), .val (.int v43), .val (.int v56)] [(.int (own_exp ex (ex - (1 : Int64))))]))
          have hc145 : (own_exp ex (ex - (1 : Int64))) = (0 : Int32) := by
            exact own_expp _ hc74 hc133
          refine GoW.st (fun t k => XS.ifYes X17.here hx rfl (pc0 := 145) (pc' := 150) rfl (hb hby at_145) rfl ((if0 _ _).trans (teq hc145).1) (by decide) (by decide) (XS.iconst X17.here hx rfl (hb hby at_150) k)) ?_
          show GoW p e below QQ (T17.setTop (mkF m 151 #[.val (.long q1), .second, .val (.long q2), .second, .val (.long q3), .second, .val (.int p4), .val (.long q5), .second, .val (.int p6), .val (.long ex), .second, .val (.ref b2), .val (.int v43), .val (.int v56)] [(.int (1 : Int32))]))
          exact GoW.fin X17 (some (.int (nar .boolean (1 : Int32)))) (fun q => by rw [hret] at q; cases q) hlk hQ hh17 ⟨rfl, N17⟩ (by decide) (by decide) (fun fs hr => retN X17 hx (t := .boolean) hret (by simp) (hb hby at_151) hr)
  refine GoW.st (fun t k => XS.iload X0.here hx rfl (hb hby at_0) rfl (XS.iconst X0.here hx rfl (hb hby at_2) (XS.iand X0.here hx rfl (hb hby at_3) rfl k))) ?_
  show GoW p e below QQ (T0.setTop (mkF m 4 #[.val (.long q1), .second, .val (.long q2), .second, .val (.long q3), .second, .val (.int p4), .val (.long q5), .second, .val (.int p6), .unset, .unset, .unset, .unset, .unset] [(.int (p6 &&& (1 : Int32)))]))
  by_cases hc4 : (p6 &&& (1 : Int32)) = (0 : Int32)
  · skip
    refine GoW.st (fun t k => XS.ifYes X0.here hx rfl (pc0 := 4) (pc' := 11) rfl (hb hby at_4) rfl ((if0 _ _).trans (teq hc4).1) (by decide) (by decide) (XS.lloadN X0.here hx rfl (hb hby at_11) rfl k)) ?_
    show GoW p e below QQ (T0.setTop (mkF m 12 #[.val (.long q1), .second, .val (.long q2), .second, .val (.long q3), .second, .val (.int p4), .val (.long q5), .second, .val (.int p6), .unset, .unset, .unset, .unset, .unset] [(.long q1)]))
    exact J12_1 _ _ q1 X0 e0 N0   
  · skip
    refine GoW.st (fun t k => XS.ifNo X0.here hx rfl (hb hby at_4) rfl ((if0 _ _).trans (feq hc4).1) (XS.lconst X0.here hx rfl (hb hby at_7) (XS.goto X0.here hx rfl (pc0 := 8) (pc' := 12) rfl (hb hby at_8) (by decide) (by decide) k))) ?_
    show GoW p e below QQ (T0.setTop (mkF m 12 #[.val (.long q1), .second, .val (.long q2), .second, .val (.long q3), .second, .val (.int p4), .val (.long q5), .second, .val (.int p6), .unset, .unset, .unset, .unset, .unset] [(.long (0 : Int64))]))
    exact J12_1 _ _ (0 : Int64) X0 e0 N0   
set_option maxRecDepth 65536 in
set_option maxHeartbeats 40000000 in
theorem comes_1 {Post : Tables → Env → Array Value → State → Outcome → State → Prop} (hpost : ∀ tb e args s v u, (limb_1_1.after args s (.returned v) u = true ∧ limb_1_2.after args s (.returned v) u = true ∧ True) → FrameEnd s (.returned v) u (Jvm.fieldLocs frame_1_writes args s ++ Jvm.arrayLocs frame_1_arrays args s ++ Jvm.staticLocs frame_1_statics s) 16 128 → Post tb e args s (.returned v) u) :
    ArmFor flags0 classFile x code maxLocals ret World_1 tables_1 room_1 Calls_1 rest_1 Pre_1 Post := by
  intro l hfl _ _ p e ha hc hk s m args below hf hA hF happ hP
  obtain ⟨hcalls, hrest, hpre⟩ := hP
  obtain ⟨-, -, -, hnamed, -, -, -, hat⟩ := (Spec.applies_iff hf).mp happ
  obtain ⟨hg, hn⟩ := and_e (Cond.before_iff.mp (show (Jvm.Cond.and given_1 narrow_1).before args s = true from hpre))
  obtain ⟨gcount, gr0⟩ := and_e hg
  obtain ⟨ga0, gr1⟩ := and_e gr0
  obtain ⟨ga1, gr2⟩ := and_e gr1
  obtain ⟨ga2, gr3⟩ := and_e gr2
  obtain ⟨ga3, gr4⟩ := and_e gr3
  obtain ⟨ga4, gr5⟩ := and_e gr4
  obtain ⟨w0, w1, w2, w3, w4, w5, rfl⟩ : ∃ w0 w1 w2 w3 w4 w5 : Value, args = #[w0, w1, w2, w3, w4, w5] := by
    have hs : args.size = 6 := by simpa [Cond.value, given_1] using gcount
    obtain ⟨L⟩ := args
    match L, hs with
    | [w0, w1, w2, w3, w4, w5], _ => exact ⟨w0, w1, w2, w3, w4, w5, rfl⟩
  have hw := fun d (hd : d ∈ tables_1) => atoms_spec (ws := Jvm.Cond.code x code maxLocals ret :: tables_1) hat d (List.mem_cons_of_mem _ hd)
  obtain ⟨i0, ei0⟩ := isL_v ga0
  obtain rfl : w0 = (.long i0) := Option.some.inj ei0
  obtain ⟨i1, ei1⟩ := isL_v ga1
  obtain rfl : w1 = (.long i1) := Option.some.inj ei1
  obtain ⟨i2, ei2⟩ := isL_v ga2
  obtain rfl : w2 = (.long i2) := Option.some.inj ei2
  obtain ⟨i3, ei3⟩ := is_v ga3
  obtain rfl : w3 = (.int i3) := Option.some.inj ei3
  obtain ⟨i4, ei4⟩ := isL_v ga4
  obtain rfl : w4 = (.long i4) := Option.some.inj ei4
  obtain ⟨i5, ei5⟩ := is_v gr5
  obtain rfl : w5 = (.int i5) := Option.some.inj ei5
  obtain ⟨n, o, h1, h2, h3, _, L, rfl, ⟨rfl, N⟩, hq⟩ := rm0 l s _ hw tables_1 i0 i1 i2 i3 i4 i5 s.heap s.heap.size (Nat.le_refl _) (Nat.le_refl _) p e ha hc hk s m _ below hf ((Spec.applies_iff_loose hf).mp happ).1 ⟨rfl, State.Warmed39.refl s, rfl⟩ trivial
  refine ⟨n, _, h1, h2, h3, hpost _ _ _ _ _ _ ⟨Cond.after_iff.mpr rfl, Cond.after_iff.mpr (eq_i res_at (Term.int_eval (1)) rfl), trivial⟩ ⟨hq.1, hq.2.1, (hq.2.2.sift fun y hy => Or.inr (N y hy)).mono (by decide) (by decide)⟩⟩
theorem main_1_1 : Claimed_1_1 := comes_1 fun _ _ _ _ _ _ h hF => ⟨h.1, hF⟩
theorem main_1_2 : Claimed_1_2 := comes_1 fun _ _ _ _ _ _ h hF => ⟨h.2.1, hF⟩
end Jvm.Pilot.@@N@@
namespace Jvm.Pilot.@@N@@
open Jvm Jvm.ClassFile Sem Op Lib Jvm.Free Jvm.Stand Jvm.Pilot.@@N@@.Jvm.D
/-! MADE BY PROGRAM (witnessworld.py) out of the Statement's table words and the real class files: 11 classes; the members and pool entries that the words name. The judged class is class 1, her method 1. -/
namespace start1
open Jvm.ClassFile
def u (s : String) : CpInfo := .utf8 (stringToUtf16 s)
/-- a pool by its gaps: so many unusable entries, then the entry; so many at the end -/
def gap : Nat → List CpInfo → List CpInfo
  | 0, r => r
  | n + 1, r => .unusable :: gap n r
def poolList (es : List (Nat × CpInfo)) (last : Nat) : List CpInfo := es.foldr (fun e r => gap e.1 (e.2 :: r)) (gap last [])
def pool (es : List (Nat × CpInfo)) (last : Nat) : Array CpInfo := ⟨poolList es last⟩
def fileOf (pool : Array CpInfo) (this : Nat) (attrs : Array Attribute := #[]) (ms : Array MethodInfo := #[]) (fl : Nat := 33) (sup : Nat := 0) (ifs : Array Nat := #[]) (fds : Array FieldInfo := #[]) : ClassFile where
  minorVersion := 0
  majorVersion := 65
  constantPool := pool
  accessFlags := fl
  thisClass := this
  superClass := sup
  interfaces := ifs
  fields := fds
  methods := ms
  attributes := attrs
def plain (name : String) (sup : Option ClassId) : Class where
  name := name
  kind := .ordinary
  loader := none
  accessFlags := 33
  super := sup
  interfaces := #[]
  cf := none
  fields := #[]
  methods := #[]
  instanceTypes := #[]
  staticTypes := #[]
  resolved := #[]
  callSites := []
  init := .initialized
  statics := none
  mirror := none

def pool0 : Array CpInfo := pool [(5, u "<init>"), (0, u "()V"), (1, .class_ 10), (1, u "java/lang/Object")] 113

def k0c0 : Code := { maxStack := 0, maxLocals := 1, code := object_method_1_code, exceptionTable := #[], attributes := #[] }
def k0m0 : Method := { name := "<init>", desc := "()V", sig := { parameters := [], returnType := none }, accessFlags := 1, code := some k0c0 }
/-- java/lang/Object -/
def k0 : Class := { plain "java/lang/Object" none with
  accessFlags := 33
  interfaces := #[]
  cf := some (fileOf pool0 8 #[] #[{ accessFlags := 1, nameIndex := 5, descriptorIndex := 6, attributes := #[] }] 33 0 #[] #[])
  fields := #[]
  methods := #[k0m0]
  instanceTypes := #[]
  staticTypes := #[]
  resolved := Array.replicate 124 none
  statics := none }

def pool1 : Array CpInfo := pool [(2, .class_ 4), (1, u "java/lang/Object"), (0, u "<init>"), (0, u "()V"), (0, .class_ 8), (0, u "com/example/duostrata/duostrata/model/Header"), (0, .methodref 7 10), (0, .nameAndType 5 11), (0, u "(JJJIJ)V"), (0, .methodref 13 14), (0, .class_ 15), (0, .nameAndType 16 17), (0, u "java/lang/Math"), (0, u "min"), (0, u "(JJ)J"), (0, .methodref 7 19), (0, .nameAndType 20 21), (0, u "expiredAt"), (0, u "(J)Z"), (0, .methodref 13 23), (0, .nameAndType 24 17), (0, u "max"), (2, .long 9223372036854775807), (1, .long 9223372036854775808), (1, .class_ 32), (0, u "com/example/duostrata/duostrata/model/HeaderExpiredAtPinLaw"), (2, u "law"), (0, u "(JJJIJI)Z")] 3

def k1m0 : Method := { name := "<init>", desc := "()V", sig := { parameters := [], returnType := none }, accessFlags := 1, code := none }
def k1c1 : Code := { maxStack := 11, maxLocals := 15, code := code, exceptionTable := #[], attributes := #[] }
def k1m1 : Method := { name := "law", desc := "(JJJIJI)Z", sig := { parameters := [.long, .long, .long, .int, .long, .int], returnType := some .boolean }, accessFlags := 9, code := some k1c1 }
/-- com/example/duostrata/duostrata/model/HeaderExpiredAtPinLaw -/
def k1 : Class := { plain "com/example/duostrata/duostrata/model/HeaderExpiredAtPinLaw" (some 0) with
  accessFlags := 49
  interfaces := #[]
  cf := some (fileOf pool1 31 #[] #[{ accessFlags := 1, nameIndex := 5, descriptorIndex := 6, attributes := #[] }, { accessFlags := 9, nameIndex := 35, descriptorIndex := 36, attributes := #[] }] 49 2 #[] #[])
  fields := #[]
  methods := #[k1m0, k1m1]
  instanceTypes := #[]
  staticTypes := #[]
  resolved := Array.replicate 40 none
  statics := none }

def pool2 : Array CpInfo := pool [(1, .methodref 2 3), (0, .class_ 4), (0, .nameAndType 5 6), (0, u "java/lang/Object"), (0, u "<init>"), (0, u "()V"), (0, .class_ 8), (0, u "java/lang/Record")] 13

def k2c0 : Code := { maxStack := 1, maxLocals := 1, code := jdk_30_method_1_code, exceptionTable := #[], attributes := #[] }
def k2m0 : Method := { name := "<init>", desc := "()V", sig := { parameters := [], returnType := none }, accessFlags := 4, code := some k2c0 }
/-- java/lang/Record -/
def k2 : Class := { plain "java/lang/Record" (some 0) with
  accessFlags := 1057
  interfaces := #[]
  cf := some (fileOf pool2 7 #[] #[{ accessFlags := 4, nameIndex := 5, descriptorIndex := 6, attributes := #[] }] 1057 2 #[] #[])
  fields := #[]
  methods := #[k2m0]
  instanceTypes := #[]
  staticTypes := #[]
  resolved := Array.replicate 22 none
  statics := none }

def pool3 : Array CpInfo := pool [(1, .methodref 2 3), (0, .class_ 4), (0, .nameAndType 5 6), (0, u "java/lang/Record"), (0, u "<init>"), (0, u "()V"), (0, .fieldref 8 9), (0, .class_ 10), (0, .nameAndType 11 12), (0, u "com/example/duostrata/duostrata/model/Header"), (0, u "component"), (0, u "J"), (0, .fieldref 8 14), (0, .nameAndType 15 12), (0, u "nextStep"), (0, .fieldref 8 17), (0, .nameAndType 18 12), (0, u "version"), (0, .fieldref 8 20), (0, .nameAndType 21 22), (0, u "bodyBucket"), (0, u "I"), (0, .fieldref 8 24), (0, .nameAndType 25 12), (0, u "expires"), (2, u "(JJJIJ)V"), (23, u "expiredAt"), (0, u "(J)Z")] 29

def k3c0 : Code := { maxStack := 3, maxLocals := 10, code := prog_49_method_1_code, exceptionTable := #[], attributes := #[] }
def k3m0 : Method := { name := "<init>", desc := "(JJJIJ)V", sig := { parameters := [.long, .long, .long, .int, .long], returnType := none }, accessFlags := 1, code := some k3c0 }
def k3c1 : Code := { maxStack := 4, maxLocals := 3, code := prog_49_method_4_code, exceptionTable := #[], attributes := #[] }
def k3m1 : Method := { name := "expiredAt", desc := "(J)Z", sig := { parameters := [.long], returnType := some .boolean }, accessFlags := 1, code := some k3c1 }
/-- com/example/duostrata/duostrata/model/Header -/
def k3 : Class := { plain "com/example/duostrata/duostrata/model/Header" (some 2) with
  accessFlags := 49
  interfaces := #[]
  cf := some (fileOf pool3 8 #[] #[{ accessFlags := 1, nameIndex := 5, descriptorIndex := 28, attributes := #[] }, { accessFlags := 1, nameIndex := 52, descriptorIndex := 53, attributes := #[] }] 49 2 #[] #[{ accessFlags := 18, nameIndex := 11, descriptorIndex := 12, attributes := #[] }, { accessFlags := 18, nameIndex := 15, descriptorIndex := 12, attributes := #[] }, { accessFlags := 18, nameIndex := 18, descriptorIndex := 12, attributes := #[] }, { accessFlags := 18, nameIndex := 21, descriptorIndex := 22, attributes := #[] }, { accessFlags := 18, nameIndex := 25, descriptorIndex := 12, attributes := #[] }])
  fields := #[{ name := "component", type := .long, accessFlags := 18, slot := 0, constantValue := 0 }, { name := "nextStep", type := .long, accessFlags := 18, slot := 1, constantValue := 0 }, { name := "version", type := .long, accessFlags := 18, slot := 2, constantValue := 0 }, { name := "bodyBucket", type := .int, accessFlags := 18, slot := 3, constantValue := 0 }, { name := "expires", type := .long, accessFlags := 18, slot := 4, constantValue := 0 }]
  methods := #[k3m0, k3m1]
  instanceTypes := #[.long, .long, .long, .int, .long]
  staticTypes := #[]
  resolved := Array.replicate 83 none
  statics := none }

def pool4 : Array CpInfo := pool [(1, .class_ 2), (0, u "java/lang/Math"), (1, .class_ 6), (1, u "java/lang/Object"), (0, u "<init>"), (0, u "()V"), (89, .class_ 100), (1, u "java/lang/Math$RandomNumberGeneratorHolder"), (20, u "(JJ)J"), (50, u "negativeZeroFloatBits"), (0, u "J"), (2, u "negativeZeroDoubleBits"), (21, u "max"), (2, u "min"), (43, u "$assertionsDisabled"), (0, u "Z"), (91, u "twoToTheDoubleScaleDown"), (0, u "D"), (4, u "twoToTheDoubleScaleUp"), (9, u "E"), (3, u "PI"), (2, u "TAU"), (2, u "DEGREES_TO_RADIANS"), (0, u "RADIANS_TO_DEGREES")] 94

def k4m0 : Method := { name := "<init>", desc := "()V", sig := { parameters := [], returnType := none }, accessFlags := 2, code := none }
def k4c1 : Code := { maxStack := 4, maxLocals := 4, code := jdk_29_method_66_code, exceptionTable := #[], attributes := #[] }
def k4m1 : Method := { name := "max", desc := "(JJ)J", sig := { parameters := [.long, .long], returnType := some .long }, accessFlags := 9, code := some k4c1 }
def k4c2 : Code := { maxStack := 4, maxLocals := 4, code := jdk_29_method_70_code, exceptionTable := #[], attributes := #[] }
def k4m2 : Method := { name := "min", desc := "(JJ)J", sig := { parameters := [.long, .long], returnType := some .long }, accessFlags := 9, code := some k4c2 }
/-- java/lang/Math -/
def k4 : Class := { plain "java/lang/Math" (some 0) with
  accessFlags := 49
  interfaces := #[]
  cf := some (fileOf pool4 1 #[.nestMembers #[98]] #[{ accessFlags := 2, nameIndex := 7, descriptorIndex := 8, attributes := #[] }, { accessFlags := 9, nameIndex := 198, descriptorIndex := 121, attributes := #[] }, { accessFlags := 9, nameIndex := 201, descriptorIndex := 121, attributes := #[] }] 49 4 #[] #[{ accessFlags := 25, nameIndex := 354, descriptorIndex := 339, attributes := #[] }, { accessFlags := 25, nameIndex := 358, descriptorIndex := 339, attributes := #[] }, { accessFlags := 25, nameIndex := 361, descriptorIndex := 339, attributes := #[] }, { accessFlags := 26, nameIndex := 364, descriptorIndex := 339, attributes := #[] }, { accessFlags := 26, nameIndex := 365, descriptorIndex := 339, attributes := #[] }, { accessFlags := 26, nameIndex := 172, descriptorIndex := 173, attributes := #[] }, { accessFlags := 26, nameIndex := 176, descriptorIndex := 173, attributes := #[] }, { accessFlags := 8, nameIndex := 344, descriptorIndex := 339, attributes := #[] }, { accessFlags := 8, nameIndex := 338, descriptorIndex := 339, attributes := #[] }, { accessFlags := 4120, nameIndex := 245, descriptorIndex := 246, attributes := #[] }])
  fields := #[{ name := "E", type := .double, accessFlags := 25, slot := 0, constantValue := 0 }, { name := "PI", type := .double, accessFlags := 25, slot := 1, constantValue := 0 }, { name := "TAU", type := .double, accessFlags := 25, slot := 2, constantValue := 0 }, { name := "DEGREES_TO_RADIANS", type := .double, accessFlags := 26, slot := 3, constantValue := 0 }, { name := "RADIANS_TO_DEGREES", type := .double, accessFlags := 26, slot := 4, constantValue := 0 }, { name := "negativeZeroFloatBits", type := .long, accessFlags := 26, slot := 5, constantValue := 0 }, { name := "negativeZeroDoubleBits", type := .long, accessFlags := 26, slot := 6, constantValue := 0 }, { name := "twoToTheDoubleScaleUp", type := .double, accessFlags := 8, slot := 7, constantValue := 0 }, { name := "twoToTheDoubleScaleDown", type := .double, accessFlags := 8, slot := 8, constantValue := 0 }, { name := "$assertionsDisabled", type := .boolean, accessFlags := 4120, slot := 9, constantValue := 0 }]
  methods := #[k4m0, k4m1, k4m2]
  instanceTypes := #[]
  staticTypes := #[.double, .double, .double, .double, .double, .long, .long, .double, .double, .boolean]
  resolved := Array.replicate 460 none
  statics := none }

def pool5 : Array CpInfo := pool [(1, u "java/lang/Cloneable"), (0, .class_ 1), (0, u "java/lang/Object"), (0, .class_ 3)] 3

/-- java/lang/Cloneable -/
def k5 : Class := { plain "java/lang/Cloneable" (some 0) with
  accessFlags := 1537
  interfaces := #[]
  cf := some (fileOf pool5 2 #[] #[] 1537 4 #[] #[])
  fields := #[]
  methods := #[]
  instanceTypes := #[]
  staticTypes := #[]
  resolved := Array.replicate 8 none
  statics := none }

def pool6 : Array CpInfo := pool [(1, u "java/io/Serializable"), (0, .class_ 1), (0, u "java/lang/Object"), (0, .class_ 3)] 3

/-- java/io/Serializable -/
def k6 : Class := { plain "java/io/Serializable" (some 0) with
  accessFlags := 1537
  interfaces := #[]
  cf := some (fileOf pool6 2 #[] #[] 1537 4 #[] #[])
  fields := #[]
  methods := #[]
  instanceTypes := #[]
  staticTypes := #[]
  resolved := Array.replicate 8 none
  statics := none }

/-- the primitive byte -/
def k7 : Class := { plain "byte" none with kind := .primitive 'B', accessFlags := 0x411 }
/-- [B -/
def k8 : Class := { plain "[B" (some 0) with kind := .array 7 .byte, interfaces := #[5, 6], accessFlags := 1041 }

/-- the primitive int -/
def k9 : Class := { plain "int" none with kind := .primitive 'I', accessFlags := 0x411 }
/-- [I -/
def k10 : Class := { plain "[I" (some 0) with kind := .array 9 .int, interfaces := #[5, 6], accessFlags := 1041 }

def heap : Heap := #[]
def classes : Array Class := #[k0, k1, k2, k3, k4, k5, k6, k7, k8, k9, k10]
def interned : List (Array UInt16 × Addr) := []
def slotsUsed : Nat := 0
def theMethod : MethodId := ⟨1, 1⟩
def args0 : Array Value := #[.long 5, .long 6, .long 7, .int 8, .long 9, .int 10]
def aboutOver (below : List Frame) : State where
  vm := { classes := classes, interned := interned.toArray }
  heap := heap
  slotsUsed := slotsUsed
  threads := #[{ frames := .invoking theMethod args0 :: below }]
def below0 : List Frame := [.native { method := ⟨0, 0⟩, args := #[] }]
def about1 : State := aboutOver below0
def p0 : Program := .bare "" "" ""
def e0 : Env := launch0.env 0 0 0
theorem w_frames : about1.frames = Frame.invoking theMethod args0 :: below0 := rfl
set_option maxRecDepth 65536 in
theorem w_args : argsFit about1.vm theMethod args0 = true := by decide +kernel
set_option maxRecDepth 65536 in
theorem w_heap : heapFits about1 = true := by decide +kernel
set_option maxRecDepth 65536 in
theorem w_runnable : about1.curStatus? = some .runnable := by decide +kernel
set_option maxRecDepth 65536 in
theorem w_alone : about1.alone = true := by decide +kernel
set_option maxRecDepth 65536 in
theorem w_named : about1.methodNamed? x = some theMethod := by decide +kernel
set_option maxRecDepth 65536 in
theorem w_hears : about1.hears theMethod below0 = true := by decide +kernel
set_option maxRecDepth 65536 in
theorem w_ripe : about1.ripe theMethod args0 below0 = true := by decide +kernel
theorem w_running : about1.status = .running := rfl
set_option maxRecDepth 65536 in
theorem w_room : about1.hasRoom e0.platform room_1 = true :=
  launch0.hasRoom_least _ room_1 (by decide +kernel) (by decide +kernel) (by decide +kernel) (by decide +kernel) (by decide +kernel) (by decide +kernel)
theorem allAtoms_all (ts : List Jvm.Cond) (a : Array Jvm.Value) (st : Jvm.State) : (allAtoms ts).before a st = ts.all (fun c => c.before a st) := by
  induction ts with
  | nil => rfl
  | cons c t ih =>
    show (Jvm.Cond.and c (allAtoms t)).before a st = _
    rw [Jvm.Cond.before_and, ih, List.all_cons]
def words1 : List Jvm.Cond := Jvm.Cond.code x code maxLocals ret :: tables_1
/-- a 'code' word, met by the world's own term for the bytes: nothing is compared byte by byte -/
theorem code_word {y : MethodName} {bytes : ByteArray} {mx : Nat} {rt : Option FieldType} {a : Array Value} {s : State} {m : MethodId} {meth : Method} {c : Code} (h1 : s.methodNamed? y = some m) (h2 : s.vm.method? m = some meth) (h3 : meth.code = some c) (h4 : c.code = bytes)
    (h5 : (c.maxLocals == mx && c.exceptionTable.isEmpty && decide (c.maxStack ≤ mostOperands) && decide (meth.sig.returnType = rt) && !meth.locks && decide (parseMethodDescriptor y.desc = some meth.sig)) = true) : (Jvm.Cond.code y bytes mx rt).before a s = true := by
  simp only [Bool.and_eq_true, beq_iff_eq, Bool.not_eq_true', decide_eq_true_eq] at h5
  obtain ⟨⟨⟨⟨⟨g1, g2⟩, g3⟩, g4⟩, g5⟩, g6⟩ := h5
  simp [Cond.before, Cond.holds, Cond.value, h1, h2, h3, h4, g1, g2, g3, g4, g5, g6]
def isCode : Jvm.Cond → Bool
  | .code _ _ _ _ => true
  | _ => false
theorem all_split {L : List Jvm.Cond} {P : Jvm.Cond → Bool} (h1 : L.all (fun c => isCode c || P c) = true) (h2 : ∀ c ∈ L.filter isCode, P c = true) : L.all P = true := by
  refine List.all_eq_true.mpr fun c hc => ?_
  have h := List.all_eq_true.mp h1 c hc
  rcases Bool.eq_false_or_eq_true (isCode c) with hi | hi
  · exact h2 c (List.mem_filter.mpr ⟨hc, hi⟩)
  · simpa [hi] using h
set_option maxRecDepth 65536 in
theorem w_c0 : (Jvm.Cond.code x code maxLocals ret).before args0 about1 = true := code_word (m := ⟨1, 1⟩) (meth := k1m1) (c := k1c1) (by decide +kernel) rfl rfl rfl (by decide +kernel)
set_option maxRecDepth 65536 in
theorem w_c1 : (Jvm.Cond.code ({ cls := "com/example/duostrata/duostrata/model/Header", name := "<init>", desc := "(JJJIJ)V" } : Jvm.MethodName) prog_49_method_1_code (10 : Nat) (Option.none : Option Jvm.ClassFile.FieldType)).before args0 about1 = true := code_word (m := ⟨3, 0⟩) (meth := k3m0) (c := k3c0) (by decide +kernel) rfl rfl rfl (by decide +kernel)
set_option maxRecDepth 65536 in
theorem w_c2 : (Jvm.Cond.code ({ cls := "java/lang/Record", name := "<init>", desc := "()V" } : Jvm.MethodName) jdk_30_method_1_code (1 : Nat) (Option.none : Option Jvm.ClassFile.FieldType)).before args0 about1 = true := code_word (m := ⟨2, 0⟩) (meth := k2m0) (c := k2c0) (by decide +kernel) rfl rfl rfl (by decide +kernel)
set_option maxRecDepth 65536 in
theorem w_c3 : (Jvm.Cond.code ({ cls := "java/lang/Object", name := "<init>", desc := "()V" } : Jvm.MethodName) object_method_1_code (1 : Nat) (Option.none : Option Jvm.ClassFile.FieldType)).before args0 about1 = true := code_word (m := ⟨0, 0⟩) (meth := k0m0) (c := k0c0) (by decide +kernel) rfl rfl rfl (by decide +kernel)
set_option maxRecDepth 65536 in
theorem w_c4 : (Jvm.Cond.code ({ cls := "java/lang/Math", name := "min", desc := "(JJ)J" } : Jvm.MethodName) jdk_29_method_70_code (4 : Nat) (Option.some Jvm.ClassFile.FieldType.long)).before args0 about1 = true := code_word (m := ⟨4, 2⟩) (meth := k4m2) (c := k4c2) (by decide +kernel) rfl rfl rfl (by decide +kernel)
set_option maxRecDepth 65536 in
theorem w_c5 : (Jvm.Cond.code ({ cls := "com/example/duostrata/duostrata/model/Header", name := "expiredAt", desc := "(J)Z" } : Jvm.MethodName) prog_49_method_4_code (3 : Nat) (Option.some Jvm.ClassFile.FieldType.boolean)).before args0 about1 = true := code_word (m := ⟨3, 1⟩) (meth := k3m1) (c := k3c1) (by decide +kernel) rfl rfl rfl (by decide +kernel)
set_option maxRecDepth 65536 in
theorem w_c6 : (Jvm.Cond.code ({ cls := "java/lang/Math", name := "max", desc := "(JJ)J" } : Jvm.MethodName) jdk_29_method_66_code (4 : Nat) (Option.some Jvm.ClassFile.FieldType.long)).before args0 about1 = true := code_word (m := ⟨4, 1⟩) (meth := k4m1) (c := k4c1) (by decide +kernel) rfl rfl rfl (by decide +kernel)
def codes1 : List Jvm.Cond := [Jvm.Cond.code x code maxLocals ret, Jvm.Cond.code ({ cls := "com/example/duostrata/duostrata/model/Header", name := "<init>", desc := "(JJJIJ)V" } : Jvm.MethodName) prog_49_method_1_code (10 : Nat) (Option.none : Option Jvm.ClassFile.FieldType), Jvm.Cond.code ({ cls := "java/lang/Record", name := "<init>", desc := "()V" } : Jvm.MethodName) jdk_30_method_1_code (1 : Nat) (Option.none : Option Jvm.ClassFile.FieldType), Jvm.Cond.code ({ cls := "java/lang/Object", name := "<init>", desc := "()V" } : Jvm.MethodName) object_method_1_code (1 : Nat) (Option.none : Option Jvm.ClassFile.FieldType), Jvm.Cond.code ({ cls := "java/lang/Math", name := "min", desc := "(JJ)J" } : Jvm.MethodName) jdk_29_method_70_code (4 : Nat) (Option.some Jvm.ClassFile.FieldType.long), Jvm.Cond.code ({ cls := "com/example/duostrata/duostrata/model/Header", name := "expiredAt", desc := "(J)Z" } : Jvm.MethodName) prog_49_method_4_code (3 : Nat) (Option.some Jvm.ClassFile.FieldType.boolean), Jvm.Cond.code ({ cls := "java/lang/Math", name := "max", desc := "(JJ)J" } : Jvm.MethodName) jdk_29_method_66_code (4 : Nat) (Option.some Jvm.ClassFile.FieldType.long)]
set_option maxRecDepth 65536 in
theorem codes_eq : words1.filter isCode = codes1 := rfl
theorem w_codes : ∀ c ∈ words1.filter isCode, c.before args0 about1 = true := by
  rw [codes_eq]
  intro c hc
  simp only [codes1, List.mem_cons, List.not_mem_nil, or_false] at hc
  rcases hc with rfl | rfl | rfl | rfl | rfl | rfl | rfl
  · exact w_c0
  · exact w_c1
  · exact w_c2
  · exact w_c3
  · exact w_c4
  · exact w_c5
  · exact w_c6
set_option maxRecDepth 65536 in
theorem w_t1 : (words1.take 24).all (fun c => isCode c || c.before args0 about1) = true := by decide +kernel
set_option maxRecDepth 65536 in
theorem w_t2 : (words1.drop 24).all (fun c => isCode c || c.before args0 about1) = true := by decide +kernel
theorem w_tables : (allAtoms (Jvm.Cond.code x code maxLocals ret :: tables_1)).before args0 about1 = true := by
  rw [allAtoms_all]
  show words1.all (fun c => c.before args0 about1) = true
  refine all_split ?_ w_codes
  rw [← List.take_append_drop 24 words1, List.all_append, w_t1, w_t2]
  rfl
set_option maxRecDepth 65536 in
theorem w_case : (Jvm.Cond.and given_1 narrow_1).before args0 about1 = true := by decide +kernel
theorem w_applies : (headSpec (Jvm.Cond.code x code maxLocals ret :: tables_1) room_1).applies x e0.platform about1 = true :=
  (Spec.applies_iff w_frames).mpr ⟨w_running, w_runnable, w_alone, w_named, w_hears, w_ripe, w_room, w_tables⟩
theorem atStart : AtStart classFile x code maxLocals ret World_1 tables_1 room_1 Calls_1 rest_1 Pre_1 launch0 p0 e0 about1 theMethod args0 below0 :=
  ⟨lists_1, trivial, launch0.admits_env _ _ _, launch0.least_env, fairChoices_fair.cas, fairChoices_fair.clock, w_frames, w_args, w_heap, w_applies, trivial, trivial, w_case⟩
end start1
theorem witness_1 : WitnessClaimed_1 := ⟨start1.p0, start1.e0, start1.about1, start1.theMethod, start1.args0, start1.below0, start1.atStart⟩
end Jvm.Pilot.@@N@@
