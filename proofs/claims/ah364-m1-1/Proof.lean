import JvmDerived
import JvmDerived.Pilot.@@N@@Statement
import JvmDerived.Pilot.@@N@@Code
set_option linter.unusedVariables false
set_option linter.unusedSimpArgs false
namespace Jvm.RoadKit
open Sem ClassFile Op Lib Jvm.Stand Jvm.Free Jvm.LawKit
section Own
variable {p : Program} {l : Launch} {e : Env} {R : Room} {s : State} {m : MethodId} {args : Array Value} {below : List Frame} {meth : Method} {c : Code} {T : State} {locs : List Loc} {cells slots : Nat}
theorem retI (X : Stand p l e R s m args below meth c T locs cells slots) (hx : p.tables.exec = Jvm.exec) {pc : Nat} {Ls : Array Slot} {z : Int32} {rest : List Value} (hret : meth.sig.returnType = some .int) (hd : decode c.code pc = .ok (.ireturn, 1)) {fs : List Frame}
    (hl : ∀ (f : JFrame) (acts : List Action), f.method = m → f.locked = none → f.entered = [] → (doReturn e (T.setTop f) acts (some (.int z))).1 = T.setFrames fs) : Steps p.tables e below (T.setTop (mkF m pc Ls (.int z :: rest))) (T.setFrames fs) := by
  have hm' : T.vm.method? m = some meth := X.method'
  have hn : narrow .int (.int z) = .int z := rfl
  show Steps p.tables e below (T.setTop { method := m, pc := pc, locals := Ls, stack := _ :: rest, locked := none }) _
  jvm_step X.here [X.here.top, hx, hd, hm', hret, hn]
  first | (intro acts; rw [hl _ acts rfl rfl rfl]) | rw [hl _ _ rfl rfl rfl]
  exact Steps.refl _
/-- the run comes from the state A to its end, and the end is as QQ says -/
def GoW (p : Program) (e : Env) (below : List Frame) (QQ : Outcome → State → Prop) (A : State) : Prop :=
  ∃ s₂ o, Steps p.tables e below A s₂ ∧ s₂.status = .running ∧ Ended s₂ below o ∧ QQ o s₂
theorem GoW.st {QQ : Outcome → State → Prop} {A B : State} (h : ∀ t, Steps p.tables e below B t → Steps p.tables e below A t) (g : GoW p e below QQ B) : GoW p e below QQ A := by
  obtain ⟨s₂, o, h1, h2⟩ := g
  exact ⟨s₂, o, h _ h1, h2⟩
/-- what an end with the value v, the heap and the written places must say -/
def EndsW (s : State) (Q : Option Value → Heap → List Loc → Prop) (cl sl : Nat) (QQ : Outcome → State → Prop) : Prop :=
  ∀ (v : Option Value) (L : List Loc) (T : State), Q v T.heap L → FrameEnd s (.returned v) T L cl sl → QQ (.returned v) T
theorem GoW.fin {Q : Option Value → Heap → List Loc → Prop} {cl sl : Nat} {QQ : Outcome → State → Prop} {A : State} (X : Stand p l e R s m args below meth c T locs cells slots) (v : Option Value) (hv : meth.sig.returnType = none → v = none) (hlk : meth.locks = false) (hQ : EndsW s Q cl sl QQ) {h : Heap} (eT : T.heap = h)
    (q : Q v h locs) (hc : cells ≤ cl) (hs : slots ≤ sl)
    (st : ∀ fs, (∀ (f : JFrame) (acts : List Action), f.method = m → f.locked = none → f.entered = [] → (doReturn e (T.setTop f) acts v).1 = T.setFrames fs) → Steps p.tables e below A (T.setFrames fs)) : GoW p e below QQ A := by
  obtain ⟨fs, hr, hrun, hended, hW, hsame⟩ := X.leave (v := v) hv hlk
  subst eT
  exact ⟨_, _, st fs hr, hrun, hended, hQ _ _ _ q ⟨⟨_, rfl⟩, hW, hsame.mono hc hs⟩⟩
theorem met_of {y : MethodName} {bytes : ByteArray} {maxL : Nat} {ret : Option FieldType} {ws : List Cond} {as' : Array Value} {Z : State} {h0 : Heap} {Q : Option Value → Heap → List Loc → Prop} {cl sl : Nat} (hp : plainFor y = true) {Ls : Array Slot} (ef : ∀ m, entryFrame m as' maxL = mkF m 0 Ls [])
    (core : ∀ (p : Program) (e : Env) (s : State) (m : MethodId) (below : List Frame) (meth : Method) (c : Code) (T : State) (QQ : Outcome → State → Prop), p.tables.exec = Jvm.exec → Z.Warmed39 s.vm → c.code = bytes → c.maxLocals = maxL → s.vm.findClass y.cls = some m.cls → meth.name = y.name → meth.sig.returnType = ret → meth.locks = false →
      Stand p l e R s m as' below meth c T [] 0 0 → T.heap = h0 → EndsW s Q cl sl QQ → GoW p e below QQ (T.setTop (mkF m 0 Ls []))) :
    MetFree l y (head1 (Cond.code y bytes maxL ret :: ws) R) (fun a U => a = as' ∧ Z.Warmed39 U.vm ∧ U.heap = h0) (fun _ _ _ _ _ => True) (fun _ U o U' => ∃ v L, o = .returned v ∧ Q v U'.heap L ∧ FrameEnd U o U' L cl sl) := by
  refine MetFree.of_bodySF hp hisR ?_
  intro p e s m args below meth c s₁ Bd hml0 hP hK
  obtain ⟨rfl, hZ, hh⟩ := hP
  obtain ⟨s₂, o, g1, g2, g3, g4⟩ := core p e s m below meth c s₁ (fun o U' => ∃ v L, o = .returned v ∧ Q v U'.heap L ∧ FrameEnd s o U' L cl sl) Bd.exec hZ Bd.bytes hml0 (findClass_of_methodNamed Bd.named) (name_of_methodNamed Bd.named Bd.method).1 Bd.returns Bd.notSynchronized (Stand.of_body Bd) (by rw [← hh, Bd.state]; rfl) (fun v L T q f => ⟨v, L, rfl, q, f⟩)
  exact ⟨s₂, o, castTop (ef m) g1, g2, g3, g4⟩
theorem standUp (X : Stand p l e R s m args below meth c T locs cells slots) {cells' slots' : Nat} (hc : cells ≤ cells') (hs : slots ≤ slots') : Stand p l e R s m args below meth c T locs cells' slots' :=
  { X with same := X.same.mono hc hs }
theorem lremM {g : JFrame} {target : State} (X : Stand p l e R s m args below meth c T locs cells slots) (hx : p.tables.exec = Jvm.exec) (hg : g.method = m) {x y : Int64} {rest : List Value} (hd : decode c.code g.pc = .ok (.lrem, 1)) (hs : g.stack = .long y :: .long x :: rest) (hy : y ≠ 0)
    (hr : Steps p.tables e below (T.setTop { g with pc := g.pc + 1, stack := .long (x % y) :: rest }) target) : Steps p.tables e below (T.setTop g) target := by
  have q : x - x / y * y = x % y := lrem_mod x y
  exact XS.lrem X.here hx hg hd hs hy (by rw [q]; exact hr)
theorem ldVI {Z : State} {h : Heap} {a : Addr} {kc : ClassId} {z j : Int32} {vs : List Value} {dv v : Value} (X : Stand p l e R s m args below meth c T locs cells slots) (hx : p.tables.exec = Jvm.exec) (hZ : Z.Warmed39 s.vm) (eT : T.heap = h) (F : Arv Z h a kc .int z vs dv) (hj : ¬ j < 0 ∧ j < z) (hv : vs.getD j.toNatClampNeg dv = v)
    {g : JFrame} (hg : g.method = m) {rest : List Value} (hs : g.stack = .int j :: .ref a :: rest) (hd : decode c.code g.pc = .ok (.iaload, 1)) (t : State) (k : Steps p.tables e below (T.setTop { g with pc := g.pc + 1, stack := v :: rest }) t) : Steps p.tables e below (T.setTop g) t := by
  obtain ⟨c', A, -, S, -, H, -⟩ := F
  have i := inb_of S hj
  exact X.iaload hx (by rw [eT]; exact A.1) (State.isArrayOf_alike hZ.alike A.2.1) A.2.2 i (H.at i hv) hg hs hd t k
theorem ldVJ {Z : State} {h : Heap} {a : Addr} {kc : ClassId} {z j : Int32} {vs : List Value} {dv v : Value} (X : Stand p l e R s m args below meth c T locs cells slots) (hx : p.tables.exec = Jvm.exec) (hZ : Z.Warmed39 s.vm) (eT : T.heap = h) (F : Arv Z h a kc .long z vs dv) (hj : ¬ j < 0 ∧ j < z) (hv : vs.getD j.toNatClampNeg dv = v)
    {g : JFrame} (hg : g.method = m) {rest : List Value} (hs : g.stack = .int j :: .ref a :: rest) (hd : decode c.code g.pc = .ok (.laload, 1)) (t : State) (k : Steps p.tables e below (T.setTop { g with pc := g.pc + 1, stack := v :: rest }) t) : Steps p.tables e below (T.setTop g) t := by
  obtain ⟨c', A, -, S, -, H, -⟩ := F
  have i := inb_of S hj
  exact X.laload hx (by rw [eT]; exact A.1) (State.isArrayOf_alike hZ.alike A.2.1) A.2.2 i (H.at i hv) hg hs hd t k
theorem ldVB {Z : State} {h : Heap} {a : Addr} {kc : ClassId} {z j : Int32} {vs : List Value} {dv v : Value} (X : Stand p l e R s m args below meth c T locs cells slots) (hx : p.tables.exec = Jvm.exec) (hZ : Z.Warmed39 s.vm) (eT : T.heap = h) (F : Arv Z h a kc .byte z vs dv) (hj : ¬ j < 0 ∧ j < z) (hv : vs.getD j.toNatClampNeg dv = v)
    {g : JFrame} (hg : g.method = m) {rest : List Value} (hs : g.stack = .int j :: .ref a :: rest) (hd : decode c.code g.pc = .ok (.baload, 1)) (t : State) (k : Steps p.tables e below (T.setTop { g with pc := g.pc + 1, stack := v :: rest }) t) : Steps p.tables e below (T.setTop g) t := by
  obtain ⟨c', A, -, S, -, H, -⟩ := F
  have i := inb_of S hj
  exact X.baloadBytes hx (by rw [eT]; exact A.1) (State.isArrayOf_alike hZ.alike A.2.1) A.2.2 i (H.at i hv) hg hs hd t k
theorem stVI {Z : State} {h : Heap} {a : Addr} {kc : ClassId} {z j : Int32} {vs : List Value} {dv : Value} {x : Int32} (X : Stand p l e R s m args below meth c T locs cells slots) (hx : p.tables.exec = Jvm.exec) (hZ : Z.Warmed39 s.vm) (eT : T.heap = h) (F : Arv Z h a kc .int z vs dv) (hj : ¬ j < 0 ∧ j < z) (i : Nat) (hi : j.toNatClampNeg = i) (hl : i < vs.length)
    {g : JFrame} (hg : g.method = m) {rest : List Value} (hs : g.stack = (.int x) :: .int j :: .ref a :: rest) (hd : decode c.code g.pc = .ok (.iastore, 1)) :
    ∃ T' h', Stand p l e R s m args below meth c T' (locs ++ [⟨a, j.toNatClampNeg⟩]) cells slots ∧ T'.heap = h' ∧ Wr h h' a j.toNatClampNeg (.int x) ∧ Arv Z h' a kc .int z (vs.set i (.int x)) dv ∧ ∀ target, Steps p.tables e below (T'.setTop { g with pc := g.pc + 1, stack := rest }) target → Steps p.tables e below (T.setTop g) target := by
  obtain ⟨c', A, q, S, M, H, G⟩ := F
  obtain ⟨T', h', X', e', W', st⟩ := stI X hx hZ eT A (inb_of S hj) hg hs hd
  exact ⟨T', h', X', e', W', Arv.set A q S M H G rfl W' i hi hl, st⟩
theorem stVJ {Z : State} {h : Heap} {a : Addr} {kc : ClassId} {z j : Int32} {vs : List Value} {dv : Value} {x : Int64} (X : Stand p l e R s m args below meth c T locs cells slots) (hx : p.tables.exec = Jvm.exec) (hZ : Z.Warmed39 s.vm) (eT : T.heap = h) (F : Arv Z h a kc .long z vs dv) (hj : ¬ j < 0 ∧ j < z) (i : Nat) (hi : j.toNatClampNeg = i) (hl : i < vs.length)
    {g : JFrame} (hg : g.method = m) {rest : List Value} (hs : g.stack = (.long x) :: .int j :: .ref a :: rest) (hd : decode c.code g.pc = .ok (.lastore, 1)) :
    ∃ T' h', Stand p l e R s m args below meth c T' (locs ++ [⟨a, j.toNatClampNeg⟩]) cells slots ∧ T'.heap = h' ∧ Wr h h' a j.toNatClampNeg (.long x) ∧ Arv Z h' a kc .long z (vs.set i (.long x)) dv ∧ ∀ target, Steps p.tables e below (T'.setTop { g with pc := g.pc + 1, stack := rest }) target → Steps p.tables e below (T.setTop g) target := by
  obtain ⟨c', A, q, S, M, H, G⟩ := F
  obtain ⟨T', h', X', e', W', st⟩ := stJ X hx hZ eT A (inb_of S hj) hg hs hd
  exact ⟨T', h', X', e', W', Arv.set A q S M H G rfl W' i hi hl, st⟩
theorem stVB {Z : State} {h : Heap} {a : Addr} {kc : ClassId} {z j : Int32} {vs : List Value} {dv : Value} {x : Int32} (X : Stand p l e R s m args below meth c T locs cells slots) (hx : p.tables.exec = Jvm.exec) (hZ : Z.Warmed39 s.vm) (eT : T.heap = h) (F : Arv Z h a kc .byte z vs dv) (hj : ¬ j < 0 ∧ j < z) (i : Nat) (hi : j.toNatClampNeg = i) (hl : i < vs.length)
    {g : JFrame} (hg : g.method = m) {rest : List Value} (hs : g.stack = (.int x) :: .int j :: .ref a :: rest) (hd : decode c.code g.pc = .ok (.bastore, 1)) :
    ∃ T' h', Stand p l e R s m args below meth c T' (locs ++ [⟨a, j.toNatClampNeg⟩]) cells slots ∧ T'.heap = h' ∧ Wr h h' a j.toNatClampNeg (.int (nar .byte x)) ∧ Arv Z h' a kc .byte z (vs.set i (.int (nar .byte x))) dv ∧ ∀ target, Steps p.tables e below (T'.setTop { g with pc := g.pc + 1, stack := rest }) target → Steps p.tables e below (T.setTop g) target := by
  obtain ⟨c', A, q, S, M, H, G⟩ := F
  obtain ⟨T', h', X', e', W', st⟩ := stB X hx hZ eT A (inb_of S hj) hg hs hd
  exact ⟨T', h', X', e', W', Arv.set A q S M H G (fits_nar_byte _) W' i hi hl, st⟩
theorem lnV {Z : State} {h : Heap} {a : Addr} {kc : ClassId} {ty : FieldType} {z : Int32} {vs : List Value} {dv : Value} (X : Stand p l e R s m args below meth c T locs cells slots) (hx : p.tables.exec = Jvm.exec) (hZ : Z.Warmed39 s.vm) (eT : T.heap = h) (F : Arv Z h a kc ty z vs dv)
    {g : JFrame} (hg : g.method = m) {rest : List Value} (hs : g.stack = .ref a :: rest) (hd : decode c.code g.pc = .ok (.arraylength, 1)) (t : State) (k : Steps p.tables e below (T.setTop { g with pc := g.pc + 1, stack := .int z :: rest }) t) : Steps p.tables e below (T.setTop g) t := by
  obtain ⟨c', A, -, S, M, -, -⟩ := F
  refine X.arraylength hx (by rw [eT]; exact A.1) (State.isArrayOf_alike hZ.alike A.2.1) hg hs hd t ?_
  rw [len_of S M]; exact k
theorem gdI (vs : List Int32) (d : Int32) (i : Nat) : (vs.map Value.int).getD i (.int d) = .int (vs.getD i d) := by
  induction vs generalizing i with
  | nil => rfl
  | cons a t ih => cases i with
    | zero => rfl
    | succ i => simpa using ih i
theorem gdJ (vs : List Int64) (d : Int64) (i : Nat) : (vs.map Value.long).getD i (.long d) = .long (vs.getD i d) := by
  induction vs generalizing i with
  | nil => rfl
  | cons a t ih => cases i with
    | zero => rfl
    | succ i => simpa using ih i
end Own
end Jvm.RoadKit
namespace Jvm.RoadKit
open Sem ClassFile Op Lib Jvm.Stand Jvm.Free Jvm.LawKit
/-- a private instance method is selected by itself; that its class is no interface comes out of any 'selects' word that lands in that class -/
theorem selOwn {s : State} {args : Array Value} {C : String} {y y2 z2 : MethodName} (hinst : (Cond.instanceMethod y).before args s = true) (hpriv : s.PrivateAt y) (hsel : (Cond.selects C y2 z2).before args s = true) (hcls : z2.cls = y.cls) (hy : y.cls ≠ "java/lang/invoke/MethodHandle" ∧ y.cls ≠ "java/lang/invoke/VarHandle") : (Cond.selects y.cls y y).before args s = true := by
  obtain ⟨mk, meth, hn, hm, -, -⟩ := Cond.instanceMethod_spec hinst
  obtain ⟨-, -, m2, -, -, q3, -, kP, hkP, hni⟩ := Cond.selects_spec hsel
  have hc := findClass_of_methodNamed hn
  have hc2 := findClass_of_methodNamed q3
  rw [hcls] at hc2
  have ec : m2.cls = mk.cls := Option.some.inj (hc2.symm.trans hc)
  rw [ec] at hkP
  have hf : s.methodFound? y.cls y.name y.desc = some mk := State.methodFound?_of_named hn hy
  have hs : selectMethod {} s.vm mk.cls mk = .method mk := selectMethod_private hm (hpriv mk meth hn hm)
  simp [Cond.before, Cond.holds, Cond.value, hc, hf, hn, hs, hkP, hni]
end Jvm.RoadKit
namespace Jvm.Pilot.@@N@@
open Jvm Jvm.ClassFile Sem Op Lib Jvm.Free Jvm.Stand Jvm.LawKit Jvm.RoadKit Bundle Jvm.Pilot.@@N@@.Jvm.D
theorem own_nlt_of {x y : Int32} (h : y.toInt ≤ x.toInt) : ¬ x < y := by rw [Int32.lt_iff_toInt_lt]; omega
theorem own_lt_of {x y : Int32} (h : x.toInt < y.toInt) : x < y := by rw [Int32.lt_iff_toInt_lt]; exact h
theorem own_eq_of {x y : Int32} (h : x.toInt = y.toInt) : x = y := Int32.toInt_inj.mp h
theorem own_ne_of {x y : Int32} (h : x.toInt ≠ y.toInt) : ¬ x = y := fun q => h (congrArg Int32.toInt q)
theorem own_cap (x : Int32) (n : Nat) (h0 : 0 ≤ x.toInt) (h : x.toInt ≤ n) : x.toNatClampNeg ≤ n := by simp only [Int32.toNatClampNeg]; omega
def own_minI (x y : Int32) : Int32 := if y < x then y else x
theorem d1_0 : decode jdk_29_method_69_code 0 = .ok (.iload_n 0, 1) := by decide +kernel
theorem d1_1 : decode jdk_29_method_69_code 1 = .ok (.iload_n 1, 1) := by decide +kernel
theorem d1_2 : decode jdk_29_method_69_code 2 = .ok (.if_icmp .gt 7, 3) := by decide +kernel
theorem d1_9 : decode jdk_29_method_69_code 9 = .ok (.iload_n 1, 1) := by decide +kernel
theorem d1_10 : decode jdk_29_method_69_code 10 = .ok (.ireturn, 1) := by decide +kernel
theorem d1_5 : decode jdk_29_method_69_code 5 = .ok (.iload_n 0, 1) := by decide +kernel
theorem d1_6 : decode jdk_29_method_69_code 6 = .ok (.goto 4, 3) := by decide +kernel
def RM1 : Room := { frames := 0, cells := 0, slots := 0, locals := 0 }
def Q1 (Z : State) (p1 : Int32) (p2 : Int32) (h0 : Heap) (n0 : Nat) (v : Option Value) (h : Heap) (L : List Loc) : Prop := v = some (.int (own_minI p1 p2)) ∧ Fr n0 L ∧ h = h0
set_option maxRecDepth 65536 in
set_option maxHeartbeats 40000000 in
theorem rm1 (l : Launch) (Z : State) (a0 : Array Value) (hw : ∀ d ∈ tables_1, d.before a0 Z = true) (ws : List Jvm.Cond) (p1 : Int32) (p2 : Int32) (h0 : Heap) (n0 : Nat) (Z0 : n0 ≤ h0.size)  :
    MetFree l (⟨"java/lang/Math", "min", "(II)I"⟩ : MethodName) (head1 (Jvm.Cond.code (⟨"java/lang/Math", "min", "(II)I"⟩ : MethodName) jdk_29_method_69_code 2 (some .int) :: ws) RM1) (fun a U => a = #[(.int p1), (.int p2)] ∧ Z.Warmed39 U.vm ∧ U.heap = h0) (fun _ _ _ _ _ => True) (fun _ U o U' => ∃ v L, o = .returned v ∧ Q1 Z p1 p2 h0 n0 v U'.heap L ∧ FrameEnd U o U' L RM1.cells RM1.slots) := by
  refine met_of (Q := fun v h L => Q1 Z p1 p2 h0 n0 v h L) (Jvm.Free.JP.mathPlain rfl (by decide +kernel)) (fun m => by first | (simp [entryFrame, mkF, argsToLocals, Value.category]; done) | rfl) (Ls := #[.val (.int p1), .val (.int p2)]) ?_
  intro p e s m below meth c T0 QQ hx hZ hby hml hown hnm hret hlk X0 e0 hQ
  have hml : c.maxLocals = 2 := hml
  have hown : s.vm.findClass "java/lang/Math" = some m.cls := hown
  have hnm : meth.name = "min" := hnm
  have hret : meth.sig.returnType = some .int := hret
  have N0 := Fr.nil n0
  have K0 : Keep h0 h0 [] := Keep.refl h0 _
  show GoW p e below QQ (T0.setTop (mkF m 0 #[.val (.int p1), .val (.int p2)] []))
  refine GoW.st (fun t k => XS.iloadN X0.here hx rfl (hb hby d1_0) rfl (XS.iloadN X0.here hx rfl (hb hby d1_1) rfl k)) ?_
  show GoW p e below QQ (T0.setTop (mkF m 2 #[.val (.int p1), .val (.int p2)] [(.int p2), (.int p1)]))
  by_cases hc2 : p2 < p1
  · skip
    refine GoW.st (fun t k => XS.icmpYes X0.here hx rfl (pc0 := 2) (pc' := 9) rfl (hb hby d1_2) rfl (tlt hc2).2.2.1 (by decide) (by decide) (XS.iloadN X0.here hx rfl (hb hby d1_9) rfl k)) ?_
    show GoW p e below QQ (T0.setTop (mkF m 10 #[.val (.int p1), .val (.int p2)] [(.int p2)]))
    have rv : ((some (.int p2)) : Option Value) = some (.int (own_minI p1 p2)) := by
      rw [own_minI, if_pos hc2]
      all_goals first | rfl | (simp; done)
    exact GoW.fin X0 (some (.int p2)) (fun q => by rw [hret] at q; cases q) hlk hQ e0 ⟨rv, N0, rfl⟩ (by decide) (by decide) (fun fs hr => retI X0 hx hret (hb hby d1_10) hr)
  · skip
    refine GoW.st (fun t k => XS.icmpNo X0.here hx rfl (hb hby d1_2) rfl (flt hc2).2.2.1 (XS.iloadN X0.here hx rfl (hb hby d1_5) rfl (XS.goto X0.here hx rfl (pc0 := 6) (pc' := 10) rfl (hb hby d1_6) (by decide) (by decide) k))) ?_
    show GoW p e below QQ (T0.setTop (mkF m 10 #[.val (.int p1), .val (.int p2)] [(.int p1)]))
    have rv : ((some (.int p1)) : Option Value) = some (.int (own_minI p1 p2)) := by
      rw [own_minI, if_neg hc2]
      all_goals first | rfl | (simp; done)
    exact GoW.fin X0 (some (.int p1)) (fun q => by rw [hret] at q; cases q) hlk hQ e0 ⟨rv, N0, rfl⟩ (by decide) (by decide) (fun fs hr => retI X0 hx hret (hb hby d1_10) hr)
def own_maxI (x y : Int32) : Int32 := if x < y then y else x
theorem d4_0 : decode jdk_29_method_65_code 0 = .ok (.iload_n 0, 1) := by decide +kernel
theorem d4_1 : decode jdk_29_method_65_code 1 = .ok (.iload_n 1, 1) := by decide +kernel
theorem d4_2 : decode jdk_29_method_65_code 2 = .ok (.if_icmp .lt 7, 3) := by decide +kernel
theorem d4_9 : decode jdk_29_method_65_code 9 = .ok (.iload_n 1, 1) := by decide +kernel
theorem d4_10 : decode jdk_29_method_65_code 10 = .ok (.ireturn, 1) := by decide +kernel
theorem d4_5 : decode jdk_29_method_65_code 5 = .ok (.iload_n 0, 1) := by decide +kernel
theorem d4_6 : decode jdk_29_method_65_code 6 = .ok (.goto 4, 3) := by decide +kernel
def RM4 : Room := { frames := 0, cells := 0, slots := 0, locals := 0 }
def Q4 (Z : State) (p1 : Int32) (p2 : Int32) (h0 : Heap) (n0 : Nat) (v : Option Value) (h : Heap) (L : List Loc) : Prop := v = some (.int (own_maxI p1 p2)) ∧ Fr n0 L ∧ h = h0
set_option maxRecDepth 65536 in
set_option maxHeartbeats 40000000 in
theorem rm4 (l : Launch) (Z : State) (a0 : Array Value) (hw : ∀ d ∈ tables_1, d.before a0 Z = true) (ws : List Jvm.Cond) (p1 : Int32) (p2 : Int32) (h0 : Heap) (n0 : Nat) (Z0 : n0 ≤ h0.size)  :
    MetFree l (⟨"java/lang/Math", "max", "(II)I"⟩ : MethodName) (head1 (Jvm.Cond.code (⟨"java/lang/Math", "max", "(II)I"⟩ : MethodName) jdk_29_method_65_code 2 (some .int) :: ws) RM4) (fun a U => a = #[(.int p1), (.int p2)] ∧ Z.Warmed39 U.vm ∧ U.heap = h0) (fun _ _ _ _ _ => True) (fun _ U o U' => ∃ v L, o = .returned v ∧ Q4 Z p1 p2 h0 n0 v U'.heap L ∧ FrameEnd U o U' L RM4.cells RM4.slots) := by
  refine met_of (Q := fun v h L => Q4 Z p1 p2 h0 n0 v h L) (Jvm.Free.JP.mathPlain rfl (by decide +kernel)) (fun m => by first | (simp [entryFrame, mkF, argsToLocals, Value.category]; done) | rfl) (Ls := #[.val (.int p1), .val (.int p2)]) ?_
  intro p e s m below meth c T0 QQ hx hZ hby hml hown hnm hret hlk X0 e0 hQ
  have hml : c.maxLocals = 2 := hml
  have hown : s.vm.findClass "java/lang/Math" = some m.cls := hown
  have hnm : meth.name = "max" := hnm
  have hret : meth.sig.returnType = some .int := hret
  have N0 := Fr.nil n0
  have K0 : Keep h0 h0 [] := Keep.refl h0 _
  show GoW p e below QQ (T0.setTop (mkF m 0 #[.val (.int p1), .val (.int p2)] []))
  refine GoW.st (fun t k => XS.iloadN X0.here hx rfl (hb hby d4_0) rfl (XS.iloadN X0.here hx rfl (hb hby d4_1) rfl k)) ?_
  show GoW p e below QQ (T0.setTop (mkF m 2 #[.val (.int p1), .val (.int p2)] [(.int p2), (.int p1)]))
  by_cases hc2 : p1 < p2
  · skip
    refine GoW.st (fun t k => XS.icmpYes X0.here hx rfl (pc0 := 2) (pc' := 9) rfl (hb hby d4_2) rfl (tlt hc2).1 (by decide) (by decide) (XS.iloadN X0.here hx rfl (hb hby d4_9) rfl k)) ?_
    show GoW p e below QQ (T0.setTop (mkF m 10 #[.val (.int p1), .val (.int p2)] [(.int p2)]))
    have rv : ((some (.int p2)) : Option Value) = some (.int (own_maxI p1 p2)) := by
      rw [own_maxI, if_pos hc2]
      all_goals first | rfl | (simp; done)
    exact GoW.fin X0 (some (.int p2)) (fun q => by rw [hret] at q; cases q) hlk hQ e0 ⟨rv, N0, rfl⟩ (by decide) (by decide) (fun fs hr => retI X0 hx hret (hb hby d4_10) hr)
  · skip
    refine GoW.st (fun t k => XS.icmpNo X0.here hx rfl (hb hby d4_2) rfl (flt hc2).1 (XS.iloadN X0.here hx rfl (hb hby d4_5) rfl (XS.goto X0.here hx rfl (pc0 := 6) (pc' := 10) rfl (hb hby d4_6) (by decide) (by decide) k))) ?_
    show GoW p e below QQ (T0.setTop (mkF m 10 #[.val (.int p1), .val (.int p2)] [(.int p1)]))
    have rv : ((some (.int p1)) : Option Value) = some (.int (own_maxI p1 p2)) := by
      rw [own_maxI, if_neg hc2]
      all_goals first | rfl | (simp; done)
    exact GoW.fin X0 (some (.int p1)) (fun q => by rw [hret] at q; cases q) hlk hQ e0 ⟨rv, N0, rfl⟩ (by decide) (by decide) (fun fs hr => retI X0 hx hret (hb hby d4_10) hr)
theorem own_max1 (x : Int32) (h : x.toInt ≤ 7) : 1 ≤ (own_maxI (1 : Int32) x).toInt ∧ (own_maxI (1 : Int32) x).toInt ≤ 7 := by
  have z : (1 : Int32).toInt = 1 := rfl
  rw [own_maxI]
  split
  · rename_i q; rw [Int32.lt_iff_toInt_lt] at q; omega
  · omega
theorem pn_0 : plainName "com/example/eunomia/eunomia/sticky/LongHeap" = true := by first | (simp [plainName, overriddenIn]; done) | decide +kernel
theorem d2_0 : decode prog_40_method_1_code 0 = .ok (.aload_n 0, 1) := by decide +kernel
theorem d2_1 : decode prog_40_method_1_code 1 = .ok (.invokespecial 1, 3) := by decide +kernel
theorem d2_4 : decode prog_40_method_1_code 4 = .ok (.aload_n 0, 1) := by decide +kernel
theorem d2_5 : decode prog_40_method_1_code 5 = .ok (.iconst 1, 1) := by decide +kernel
theorem d2_6 : decode prog_40_method_1_code 6 = .ok (.iload_n 1, 1) := by decide +kernel
theorem d2_7 : decode prog_40_method_1_code 7 = .ok (.invokestatic 7, 3) := by decide +kernel
theorem pd_0 : parseMethodDescriptor "(II)I" = some ⟨[.int, .int], some .int⟩ := by decide +kernel
theorem d2_10 : decode prog_40_method_1_code 10 = .ok (.newarray .long, 2) := by decide +kernel
theorem d2_12 : decode prog_40_method_1_code 12 = .ok (.putfield 13, 3) := by decide +kernel
theorem d2_15 : decode prog_40_method_1_code 15 = .ok (.return_, 1) := by decide +kernel
def RM2 : Room := { frames := 1, cells := 1, slots := 7, locals := 14 }
def Q2 (Z : State) (a1 : Addr) (p1 : Int32) (h0 : Heap) (n0 : Nat) (v : Option Value) (h : Heap) (L : List Loc) : Prop := ∃ (b : Addr) (kb : ClassId) (z : Int32), v = none ∧ Fr n0 L ∧ Keep h0 h [a1] ∧ (Exa Z h a1 "com/example/eunomia/eunomia/sticky/LongHeap") ∧ (Fld Z h a1 "com/example/eunomia/eunomia/sticky/LongHeap" "values" "[J" (.ref b)) ∧ (Fld Z h a1 "com/example/eunomia/eunomia/sticky/LongHeap" "size" "I" (.int (0 : Int32))) ∧ (h0.size ≤ b) ∧ (Arv Z h b kb .long z [(.long (0 : Int64)), (.long (0 : Int64)), (.long (0 : Int64)), (.long (0 : Int64))] (.long (0 : Int64))) ∧ (1 ≤ z.toInt ∧ z.toInt ≤ 7)
set_option maxRecDepth 65536 in
set_option maxHeartbeats 40000000 in
theorem rm2 (l : Launch) (Z : State) (a0 : Array Value) (hw : ∀ d ∈ tables_1, d.before a0 Z = true) (ws : List Jvm.Cond) (a1 : Addr) (p1 : Int32) (h0 : Heap) (n0 : Nat) (Z0 : n0 ≤ h0.size) (pre_E_a1 : Exa Z h0 a1 "com/example/eunomia/eunomia/sticky/LongHeap") (pre_g_a1 : n0 ≤ a1) (pre_F_a1_values : Fld Z h0 a1 "com/example/eunomia/eunomia/sticky/LongHeap" "values" "[J" .null) (pre_F_a1_size : Fld Z h0 a1 "com/example/eunomia/eunomia/sticky/LongHeap" "size" "I" (.int (0 : Int32))) (hp : p1.toInt ≤ 7) :
    MetFree l (⟨"com/example/eunomia/eunomia/sticky/LongHeap", "<init>", "(I)V"⟩ : MethodName) (head1 (Jvm.Cond.code (⟨"com/example/eunomia/eunomia/sticky/LongHeap", "<init>", "(I)V"⟩ : MethodName) prog_40_method_1_code 2 none :: ws) RM2) (fun a U => a = #[(.ref a1), (.int p1)] ∧ Z.Warmed39 U.vm ∧ U.heap = h0) (fun _ _ _ _ _ => True) (fun _ U o U' => ∃ v L, o = .returned v ∧ Q2 Z a1 p1 h0 n0 v U'.heap L ∧ FrameEnd U o U' L RM2.cells RM2.slots) := by
  refine met_of (Q := fun v h L => Q2 Z a1 p1 h0 n0 v h L) (plainFor_of_name pn_0) (fun m => by first | (simp [entryFrame, mkF, argsToLocals, Value.category]; done) | rfl) (Ls := #[.val (.ref a1), .val (.int p1)]) ?_
  intro p e s m below meth c T0 QQ hx hZ hby hml hown hnm hret hlk X0 e0 hQ
  have hml : c.maxLocals = 2 := hml
  have hown : s.vm.findClass "com/example/eunomia/eunomia/sticky/LongHeap" = some m.cls := hown
  have hnm : meth.name = "<init>" := hnm
  have hret : meth.sig.returnType = none := hret
  have N0 := Fr.nil n0
  have K0 : Keep h0 h0 [a1] := Keep.refl h0 _
  show GoW p e below QQ (T0.setTop (mkF m 0 #[.val (.ref a1), .val (.int p1)] []))
  refine GoW.st (fun t k => XS.aloadN X0.here hx rfl (hb hby d2_0) rfl rfl k) ?_
  show GoW p e below QQ (T0.setTop (mkF m 1 #[.val (.ref a1), .val (.int p1)] [(.ref a1)]))
  obtain ⟨T1, X1, e1, st1⟩ := initO X0 hx hZ hown (hw _ (List.mem_of_getElem? (i := 10) rfl)) (hw _ (List.mem_of_getElem? (i := 11) rfl)) (hw _ (List.mem_of_getElem? (i := 12) rfl)) e0 (g := (mkF m 1 #[.val (.ref a1), .val (.int p1)] [(.ref a1)])) rfl (by rw [hml]; rfl) rfl (hb hby d2_1) (by decide) (W := 0) (by show 2 * 0 + _ ≤ _; exact Nat.le_of_eq rfl) (by decide)
  refine GoW.st st1 ?_
  show GoW p e below QQ (T1.setTop (mkF m 4 #[.val (.ref a1), .val (.int p1)] []))
  have mx := own_max1 p1 hp
  have z0 : (0 : Int32).toInt = 0 := rfl
  refine GoW.st (fun t k => XS.aloadN X1.here hx rfl (hb hby d2_4) rfl rfl (XS.iconst X1.here hx rfl (hb hby d2_5) (XS.iloadN X1.here hx rfl (hb hby d2_6) rfl k))) ?_
  show GoW p e below QQ (T1.setTop (mkF m 7 #[.val (.ref a1), .val (.int p1)] [(.int p1), (.int (1 : Int32)), (.ref a1)]))
  obtain ⟨_, _, ⟨T2, zL2, zk2, zn2⟩, -, X2, ⟨Lc2, hQ2, zl2, zy2, zz2⟩, st2⟩ := Jvm.LawKit.callS X1 hx (y := (⟨"java/lang/Math", "max", "(II)I"⟩ : MethodName)) hown (mvT hZ (hw _ (List.mem_of_getElem? (i := 13) rfl))) (mvT hZ (hw _ (List.mem_of_getElem? (i := 14) rfl))) (mvT hZ (hw _ (List.mem_of_getElem? (i := 2) rfl))) (mvT hZ (hw _ (List.mem_of_getElem? (i := 15) rfl))) (by decide) (backOf (W := 1) (rm4 l Z a0 hw [] (1 : Int32) p1 h0 n0 (Nat.le_trans Z0 K0.1) ) hZ (hw _ (List.mem_of_getElem? (i := 15) rfl)) (hw _ (List.mem_of_getElem? (i := 2) rfl)) (by decide) (by decide)) (g := (mkF m 7 #[.val (.ref a1), .val (.int p1)] [(.int p1), (.int (1 : Int32)), (.ref a1)])) rfl (by rw [hml]; rfl) (argsL := [(.int (1 : Int32)), (.int p1)]) (rest := [(.ref a1)]) (lenOf pd_0 rfl) rfl (by show 2 * 0 + _ ≤ _; exact Nat.le_of_eq rfl) (hb hby d2_7) (fun _ _ => ⟨rfl, e1, (by decide : 0 + 0 ≤ _), (by decide : 0 + 0 ≤ _)⟩)
  dsimp only [Pt.U, Pt.locs, Pt.cells, Pt.slots] at X2 zl2 zy2 zz2 st2 hQ2
  subst zl2 zy2 zz2
  obtain ⟨rfl, Nq2, hh2⟩ := hQ2
  have N2 := Fr.app N0 Nq2
  refine GoW.st st2 ?_
  show GoW p e below QQ (T2.setTop (mkF m 10 #[.val (.ref a1), .val (.int p1)] [(.int (own_maxI (1 : Int32) p1)), (.ref a1)]))
  obtain ⟨T3, h3, k3, X3, e3, E3, A3, st3⟩ := newP X2 hx hZ (hw _ (List.mem_of_getElem? (i := 16) rfl)) hh2 (g := (mkF m 10 #[.val (.ref a1), .val (.int p1)] [(.int (own_maxI (1 : Int32) p1)), (.ref a1)])) rfl (hb hby d2_10) rfl (own_nlt_of (by omega)) (cap := 7) (own_cap _ 7 (by omega) (by omega)) (by decide) (by decide) (by decide)
  obtain ⟨b3, g3⟩ : ∃ z, z = h0.size := ⟨_, rfl⟩
  rw [← g3] at A3 st3
  refine GoW.st st3 ?_
  have gg3 : n0 ≤ b3 := Nat.le_trans (Nat.le_trans Z0 K0.1) (Nat.le_of_eq g3.symm)
  have sz3 : h0.size ≤ b3 := Nat.le_trans K0.1 (Nat.le_of_eq g3.symm)
  have ne3_a1 : a1 ≠ b3 := Nat.ne_of_lt (Nat.lt_of_lt_of_le pre_E_a1.lt (Nat.le_of_eq g3.symm))
  have f4_E_a1 : Exa Z h3 a1 "com/example/eunomia/eunomia/sticky/LongHeap" := pre_E_a1.ext E3
  have f4_F_a1_values : Fld Z h3 a1 "com/example/eunomia/eunomia/sticky/LongHeap" "values" "[J" .null := pre_F_a1_values.ext E3
  have f4_F_a1_size : Fld Z h3 a1 "com/example/eunomia/eunomia/sticky/LongHeap" "size" "I" (.int (0 : Int32)) := pre_F_a1_size.ext E3
  have K3 : Keep h0 h3 [a1] := K0.ext E3
  have V3 : Arv Z h3 b3 k3 .long (own_maxI (1 : Int32) p1) [(.long (0 : Int64)), (.long (0 : Int64)), (.long (0 : Int64)), (.long (0 : Int64))] (.long (0 : Int64)) := (Arv.new A3 (own_nlt_of (by omega))).pad (pad_rep [] (.long (0 : Int64)) 4)
  show GoW p e below QQ (T3.setTop (mkF m 12 #[.val (.ref a1), .val (.int p1)] [(.ref b3), (.ref a1)]))
  obtain ⟨T5, h5, X5, e5, W5, st5⟩ := putF X3 hx hZ hown (host := "") (Or.inl (hw _ (List.mem_of_getElem? (i := 17) rfl))) Via.refl e3 f4_F_a1_values f4_E_a1 (Or.inl (hw _ (List.mem_of_getElem? (i := 18) rfl))) (hw _ (List.mem_of_getElem? (i := 5) rfl)) (ty := (.array .long)) (by decide) rfl rfl (g := (mkF m 12 #[.val (.ref a1), .val (.int p1)] [(.ref b3), (.ref a1)])) rfl rfl (hb hby d2_12)
  refine GoW.st st5 ?_
  have f6_E_a1 : Exa Z h5 a1 "com/example/eunomia/eunomia/sticky/LongHeap" := f4_E_a1.wr W5
  have f6_F_a1_values : Fld Z h5 a1 "com/example/eunomia/eunomia/sticky/LongHeap" "values" "[J" (.ref b3) := f4_F_a1_values.same W5
  have f6_F_a1_size : Fld Z h5 a1 "com/example/eunomia/eunomia/sticky/LongHeap" "size" "I" (.int (0 : Int32)) := f4_F_a1_size.other W5 (Or.inr (slot_ne (Or.inl (hw _ (List.mem_of_getElem? (i := 25) rfl))) (Or.inl (hw _ (List.mem_of_getElem? (i := 18) rfl))) (by decide) (t := .int) (t' := (.array .long)) (by decide) (by decide)))
  have f6_V_b3 : Arv Z h5 b3 k3 .long (own_maxI (1 : Int32) p1) [(.long (0 : Int64)), (.long (0 : Int64)), (.long (0 : Int64)), (.long (0 : Int64))] (.long (0 : Int64)) := V3.other W5 (Ne.symm ne3_a1)
  have K5 : Keep h0 h5 [a1] := K3.wr W5 (Or.inl (List.mem_of_getElem? (i := 0) rfl))
  have N5 := Fr.snoc X5 N2 pre_g_a1
  show GoW p e below QQ (T5.setTop (mkF m 15 #[.val (.ref a1), .val (.int p1)] []))
  exact GoW.fin X5 none (fun _ => rfl) hlk hQ e5 ⟨b3, k3, (own_maxI (1 : Int32) p1), rfl, N5, K5, f6_E_a1, f6_F_a1_values, f6_F_a1_size, sz3, f6_V_b3, mx⟩ (by decide) (by decide) (fun fs hr => X5.returnOut hx hret (hb hby d2_15) hr)
theorem d5_0 : decode prog_40_method_2_code 0 = .ok (.aload_n 0, 1) := by decide +kernel
theorem d5_1 : decode prog_40_method_2_code 1 = .ok (.getfield 19, 3) := by decide +kernel
theorem d5_4 : decode prog_40_method_2_code 4 = .ok (.ifCond .ne 7, 3) := by decide +kernel
theorem d5_7 : decode prog_40_method_2_code 7 = .ok (.iconst 1, 1) := by decide +kernel
theorem d5_8 : decode prog_40_method_2_code 8 = .ok (.goto 4, 3) := by decide +kernel
theorem d5_12 : decode prog_40_method_2_code 12 = .ok (.ireturn, 1) := by decide +kernel
def RM5_0 : Room := { frames := 0, cells := 0, slots := 0, locals := 0 }
def Q5_0 (Z : State) (a1 : Addr) (h0 : Heap) (n0 : Nat) (v : Option Value) (h : Heap) (L : List Loc) : Prop := v = some (.int (1 : Int32)) ∧ Fr n0 L ∧ h = h0
set_option maxRecDepth 65536 in
set_option maxHeartbeats 40000000 in
theorem rm5_0 (l : Launch) (Z : State) (a0 : Array Value) (hw : ∀ d ∈ tables_1, d.before a0 Z = true) (ws : List Jvm.Cond) (a1 : Addr) (h0 : Heap) (n0 : Nat) (Z0 : n0 ≤ h0.size) (pre_F_a1_size : Fld Z h0 a1 "com/example/eunomia/eunomia/sticky/LongHeap" "size" "I" (.int (0 : Int32))) :
    MetFree l (⟨"com/example/eunomia/eunomia/sticky/LongHeap", "isEmpty", "()Z"⟩ : MethodName) (head1 (Jvm.Cond.code (⟨"com/example/eunomia/eunomia/sticky/LongHeap", "isEmpty", "()Z"⟩ : MethodName) prog_40_method_2_code 1 (some .boolean) :: ws) RM5_0) (fun a U => a = #[(.ref a1)] ∧ Z.Warmed39 U.vm ∧ U.heap = h0) (fun _ _ _ _ _ => True) (fun _ U o U' => ∃ v L, o = .returned v ∧ Q5_0 Z a1 h0 n0 v U'.heap L ∧ FrameEnd U o U' L RM5_0.cells RM5_0.slots) := by
  refine met_of (Q := fun v h L => Q5_0 Z a1 h0 n0 v h L) (plainFor_of_name pn_0) (fun m => by first | (simp [entryFrame, mkF, argsToLocals, Value.category]; done) | rfl) (Ls := #[.val (.ref a1)]) ?_
  intro p e s m below meth c T0 QQ hx hZ hby hml hown hnm hret hlk X0 e0 hQ
  have hml : c.maxLocals = 1 := hml
  have hown : s.vm.findClass "com/example/eunomia/eunomia/sticky/LongHeap" = some m.cls := hown
  have hnm : meth.name = "isEmpty" := hnm
  have hret : meth.sig.returnType = some .boolean := hret
  have N0 := Fr.nil n0
  have K0 : Keep h0 h0 [] := Keep.refl h0 _
  show GoW p e below QQ (T0.setTop (mkF m 0 #[.val (.ref a1)] []))
  refine GoW.st (fun t k => XS.aloadN X0.here hx rfl (hb hby d5_0) rfl rfl k) ?_
  show GoW p e below QQ (T0.setTop (mkF m 1 #[.val (.ref a1)] [(.ref a1)]))
  obtain ⟨T1, X1, e1, st1⟩ := getF X0 hx hZ hown (host := "") (Or.inl (hw _ (List.mem_of_getElem? (i := 24) rfl))) Via.refl e0 pre_F_a1_size (g := (mkF m 1 #[.val (.ref a1)] [(.ref a1)])) rfl rfl (hb hby d5_1)
  refine GoW.st st1 ?_
  show GoW p e below QQ (T1.setTop (mkF m 4 #[.val (.ref a1)] [(.int (0 : Int32))]))
  have hc4 : (0 : Int32) = (0 : Int32) := by decide
  refine GoW.st (fun t k => XS.ifNo X1.here hx rfl (hb hby d5_4) rfl ((if0 _ _).trans (teq hc4).2) (XS.iconst X1.here hx rfl (hb hby d5_7) (XS.goto X1.here hx rfl (pc0 := 8) (pc' := 12) rfl (hb hby d5_8) (by decide) (by decide) k))) ?_
  show GoW p e below QQ (T1.setTop (mkF m 12 #[.val (.ref a1)] [(.int (1 : Int32))]))
  exact GoW.fin X1 (some (.int (nar .boolean (1 : Int32)))) (fun q => by rw [hret] at q; cases q) hlk hQ e1 ⟨rfl, N0, rfl⟩ (by decide) (by decide) (fun fs hr => retN X1 hx (t := .boolean) hret (by simp) (hb hby d5_12) hr)
theorem d5_11 : decode prog_40_method_2_code 11 = .ok (.iconst 0, 1) := by decide +kernel
def RM5_1 : Room := { frames := 0, cells := 0, slots := 0, locals := 0 }
def Q5_1 (Z : State) (a1 : Addr) (h0 : Heap) (n0 : Nat) (v : Option Value) (h : Heap) (L : List Loc) : Prop := v = some (.int (0 : Int32)) ∧ Fr n0 L ∧ h = h0
set_option maxRecDepth 65536 in
set_option maxHeartbeats 40000000 in
theorem rm5_1 (l : Launch) (Z : State) (a0 : Array Value) (hw : ∀ d ∈ tables_1, d.before a0 Z = true) (ws : List Jvm.Cond) (a1 : Addr) (h0 : Heap) (n0 : Nat) (Z0 : n0 ≤ h0.size) (pre_F_a1_size : Fld Z h0 a1 "com/example/eunomia/eunomia/sticky/LongHeap" "size" "I" (.int (1 : Int32))) :
    MetFree l (⟨"com/example/eunomia/eunomia/sticky/LongHeap", "isEmpty", "()Z"⟩ : MethodName) (head1 (Jvm.Cond.code (⟨"com/example/eunomia/eunomia/sticky/LongHeap", "isEmpty", "()Z"⟩ : MethodName) prog_40_method_2_code 1 (some .boolean) :: ws) RM5_1) (fun a U => a = #[(.ref a1)] ∧ Z.Warmed39 U.vm ∧ U.heap = h0) (fun _ _ _ _ _ => True) (fun _ U o U' => ∃ v L, o = .returned v ∧ Q5_1 Z a1 h0 n0 v U'.heap L ∧ FrameEnd U o U' L RM5_1.cells RM5_1.slots) := by
  refine met_of (Q := fun v h L => Q5_1 Z a1 h0 n0 v h L) (plainFor_of_name pn_0) (fun m => by first | (simp [entryFrame, mkF, argsToLocals, Value.category]; done) | rfl) (Ls := #[.val (.ref a1)]) ?_
  intro p e s m below meth c T0 QQ hx hZ hby hml hown hnm hret hlk X0 e0 hQ
  have hml : c.maxLocals = 1 := hml
  have hown : s.vm.findClass "com/example/eunomia/eunomia/sticky/LongHeap" = some m.cls := hown
  have hnm : meth.name = "isEmpty" := hnm
  have hret : meth.sig.returnType = some .boolean := hret
  have N0 := Fr.nil n0
  have K0 : Keep h0 h0 [] := Keep.refl h0 _
  show GoW p e below QQ (T0.setTop (mkF m 0 #[.val (.ref a1)] []))
  refine GoW.st (fun t k => XS.aloadN X0.here hx rfl (hb hby d5_0) rfl rfl k) ?_
  show GoW p e below QQ (T0.setTop (mkF m 1 #[.val (.ref a1)] [(.ref a1)]))
  obtain ⟨T1, X1, e1, st1⟩ := getF X0 hx hZ hown (host := "") (Or.inl (hw _ (List.mem_of_getElem? (i := 24) rfl))) Via.refl e0 pre_F_a1_size (g := (mkF m 1 #[.val (.ref a1)] [(.ref a1)])) rfl rfl (hb hby d5_1)
  refine GoW.st st1 ?_
  show GoW p e below QQ (T1.setTop (mkF m 4 #[.val (.ref a1)] [(.int (1 : Int32))]))
  have hc4 : ¬ ((1 : Int32) = (0 : Int32)) := by decide
  refine GoW.st (fun t k => XS.ifYes X1.here hx rfl (pc0 := 4) (pc' := 11) rfl (hb hby d5_4) rfl ((if0 _ _).trans (feq hc4).2) (by decide) (by decide) (XS.iconst X1.here hx rfl (hb hby d5_11) k)) ?_
  show GoW p e below QQ (T1.setTop (mkF m 12 #[.val (.ref a1)] [(.int (0 : Int32))]))
  exact GoW.fin X1 (some (.int (nar .boolean (0 : Int32)))) (fun q => by rw [hret] at q; cases q) hlk hQ e1 ⟨rfl, N0, rfl⟩ (by decide) (by decide) (fun fs hr => retN X1 hx (t := .boolean) hret (by simp) (hb hby d5_12) hr)
def RM5_2 : Room := { frames := 0, cells := 0, slots := 0, locals := 0 }
def Q5_2 (Z : State) (a1 : Addr) (h0 : Heap) (n0 : Nat) (v : Option Value) (h : Heap) (L : List Loc) : Prop := v = some (.int (0 : Int32)) ∧ Fr n0 L ∧ h = h0
set_option maxRecDepth 65536 in
set_option maxHeartbeats 40000000 in
theorem rm5_2 (l : Launch) (Z : State) (a0 : Array Value) (hw : ∀ d ∈ tables_1, d.before a0 Z = true) (ws : List Jvm.Cond) (a1 : Addr) (h0 : Heap) (n0 : Nat) (Z0 : n0 ≤ h0.size) (pre_F_a1_size : Fld Z h0 a1 "com/example/eunomia/eunomia/sticky/LongHeap" "size" "I" (.int (2 : Int32))) :
    MetFree l (⟨"com/example/eunomia/eunomia/sticky/LongHeap", "isEmpty", "()Z"⟩ : MethodName) (head1 (Jvm.Cond.code (⟨"com/example/eunomia/eunomia/sticky/LongHeap", "isEmpty", "()Z"⟩ : MethodName) prog_40_method_2_code 1 (some .boolean) :: ws) RM5_2) (fun a U => a = #[(.ref a1)] ∧ Z.Warmed39 U.vm ∧ U.heap = h0) (fun _ _ _ _ _ => True) (fun _ U o U' => ∃ v L, o = .returned v ∧ Q5_2 Z a1 h0 n0 v U'.heap L ∧ FrameEnd U o U' L RM5_2.cells RM5_2.slots) := by
  refine met_of (Q := fun v h L => Q5_2 Z a1 h0 n0 v h L) (plainFor_of_name pn_0) (fun m => by first | (simp [entryFrame, mkF, argsToLocals, Value.category]; done) | rfl) (Ls := #[.val (.ref a1)]) ?_
  intro p e s m below meth c T0 QQ hx hZ hby hml hown hnm hret hlk X0 e0 hQ
  have hml : c.maxLocals = 1 := hml
  have hown : s.vm.findClass "com/example/eunomia/eunomia/sticky/LongHeap" = some m.cls := hown
  have hnm : meth.name = "isEmpty" := hnm
  have hret : meth.sig.returnType = some .boolean := hret
  have N0 := Fr.nil n0
  have K0 : Keep h0 h0 [] := Keep.refl h0 _
  show GoW p e below QQ (T0.setTop (mkF m 0 #[.val (.ref a1)] []))
  refine GoW.st (fun t k => XS.aloadN X0.here hx rfl (hb hby d5_0) rfl rfl k) ?_
  show GoW p e below QQ (T0.setTop (mkF m 1 #[.val (.ref a1)] [(.ref a1)]))
  obtain ⟨T1, X1, e1, st1⟩ := getF X0 hx hZ hown (host := "") (Or.inl (hw _ (List.mem_of_getElem? (i := 24) rfl))) Via.refl e0 pre_F_a1_size (g := (mkF m 1 #[.val (.ref a1)] [(.ref a1)])) rfl rfl (hb hby d5_1)
  refine GoW.st st1 ?_
  show GoW p e below QQ (T1.setTop (mkF m 4 #[.val (.ref a1)] [(.int (2 : Int32))]))
  have hc4 : ¬ ((2 : Int32) = (0 : Int32)) := by decide
  refine GoW.st (fun t k => XS.ifYes X1.here hx rfl (pc0 := 4) (pc' := 11) rfl (hb hby d5_4) rfl ((if0 _ _).trans (feq hc4).2) (by decide) (by decide) (XS.iconst X1.here hx rfl (hb hby d5_11) k)) ?_
  show GoW p e below QQ (T1.setTop (mkF m 12 #[.val (.ref a1)] [(.int (0 : Int32))]))
  exact GoW.fin X1 (some (.int (nar .boolean (0 : Int32)))) (fun q => by rw [hret] at q; cases q) hlk hQ e1 ⟨rfl, N0, rfl⟩ (by decide) (by decide) (fun fs hr => retN X1 hx (t := .boolean) hret (by simp) (hb hby d5_12) hr)
def RM5_3 : Room := { frames := 0, cells := 0, slots := 0, locals := 0 }
def Q5_3 (Z : State) (a1 : Addr) (h0 : Heap) (n0 : Nat) (v : Option Value) (h : Heap) (L : List Loc) : Prop := v = some (.int (0 : Int32)) ∧ Fr n0 L ∧ h = h0
set_option maxRecDepth 65536 in
set_option maxHeartbeats 40000000 in
theorem rm5_3 (l : Launch) (Z : State) (a0 : Array Value) (hw : ∀ d ∈ tables_1, d.before a0 Z = true) (ws : List Jvm.Cond) (a1 : Addr) (h0 : Heap) (n0 : Nat) (Z0 : n0 ≤ h0.size) (pre_F_a1_size : Fld Z h0 a1 "com/example/eunomia/eunomia/sticky/LongHeap" "size" "I" (.int (3 : Int32))) :
    MetFree l (⟨"com/example/eunomia/eunomia/sticky/LongHeap", "isEmpty", "()Z"⟩ : MethodName) (head1 (Jvm.Cond.code (⟨"com/example/eunomia/eunomia/sticky/LongHeap", "isEmpty", "()Z"⟩ : MethodName) prog_40_method_2_code 1 (some .boolean) :: ws) RM5_3) (fun a U => a = #[(.ref a1)] ∧ Z.Warmed39 U.vm ∧ U.heap = h0) (fun _ _ _ _ _ => True) (fun _ U o U' => ∃ v L, o = .returned v ∧ Q5_3 Z a1 h0 n0 v U'.heap L ∧ FrameEnd U o U' L RM5_3.cells RM5_3.slots) := by
  refine met_of (Q := fun v h L => Q5_3 Z a1 h0 n0 v h L) (plainFor_of_name pn_0) (fun m => by first | (simp [entryFrame, mkF, argsToLocals, Value.category]; done) | rfl) (Ls := #[.val (.ref a1)]) ?_
  intro p e s m below meth c T0 QQ hx hZ hby hml hown hnm hret hlk X0 e0 hQ
  have hml : c.maxLocals = 1 := hml
  have hown : s.vm.findClass "com/example/eunomia/eunomia/sticky/LongHeap" = some m.cls := hown
  have hnm : meth.name = "isEmpty" := hnm
  have hret : meth.sig.returnType = some .boolean := hret
  have N0 := Fr.nil n0
  have K0 : Keep h0 h0 [] := Keep.refl h0 _
  show GoW p e below QQ (T0.setTop (mkF m 0 #[.val (.ref a1)] []))
  refine GoW.st (fun t k => XS.aloadN X0.here hx rfl (hb hby d5_0) rfl rfl k) ?_
  show GoW p e below QQ (T0.setTop (mkF m 1 #[.val (.ref a1)] [(.ref a1)]))
  obtain ⟨T1, X1, e1, st1⟩ := getF X0 hx hZ hown (host := "") (Or.inl (hw _ (List.mem_of_getElem? (i := 24) rfl))) Via.refl e0 pre_F_a1_size (g := (mkF m 1 #[.val (.ref a1)] [(.ref a1)])) rfl rfl (hb hby d5_1)
  refine GoW.st st1 ?_
  show GoW p e below QQ (T1.setTop (mkF m 4 #[.val (.ref a1)] [(.int (3 : Int32))]))
  have hc4 : ¬ ((3 : Int32) = (0 : Int32)) := by decide
  refine GoW.st (fun t k => XS.ifYes X1.here hx rfl (pc0 := 4) (pc' := 11) rfl (hb hby d5_4) rfl ((if0 _ _).trans (feq hc4).2) (by decide) (by decide) (XS.iconst X1.here hx rfl (hb hby d5_11) k)) ?_
  show GoW p e below QQ (T1.setTop (mkF m 12 #[.val (.ref a1)] [(.int (0 : Int32))]))
  exact GoW.fin X1 (some (.int (nar .boolean (0 : Int32)))) (fun q => by rw [hret] at q; cases q) hlk hQ e1 ⟨rfl, N0, rfl⟩ (by decide) (by decide) (fun fs hr => retN X1 hx (t := .boolean) hret (by simp) (hb hby d5_12) hr)
theorem pn_1 : plainName "java/util/Arrays" = true := by first | (simp [plainName, overriddenIn]; done) | decide +kernel
theorem d7_0 : decode jdk_65_method_124_code 0 = .ok (.iload_n 1, 1) := by decide +kernel
theorem d7_1 : decode jdk_65_method_124_code 1 = .ok (.aload_n 0, 1) := by decide +kernel
theorem d7_2 : decode jdk_65_method_124_code 2 = .ok (.arraylength, 1) := by decide +kernel
theorem d7_3 : decode jdk_65_method_124_code 3 = .ok (.if_icmp .ne 11, 3) := by decide +kernel
theorem d7_14 : decode jdk_65_method_124_code 14 = .ok (.iload_n 1, 1) := by decide +kernel
theorem d7_15 : decode jdk_65_method_124_code 15 = .ok (.newarray .long, 2) := by decide +kernel
theorem d7_17 : decode jdk_65_method_124_code 17 = .ok (.astore_n 2, 1) := by decide +kernel
theorem d7_18 : decode jdk_65_method_124_code 18 = .ok (.aload_n 0, 1) := by decide +kernel
theorem d7_19 : decode jdk_65_method_124_code 19 = .ok (.iconst 0, 1) := by decide +kernel
theorem d7_20 : decode jdk_65_method_124_code 20 = .ok (.aload_n 2, 1) := by decide +kernel
theorem d7_21 : decode jdk_65_method_124_code 21 = .ok (.iconst 0, 1) := by decide +kernel
theorem d7_22 : decode jdk_65_method_124_code 22 = .ok (.aload_n 0, 1) := by decide +kernel
theorem d7_23 : decode jdk_65_method_124_code 23 = .ok (.arraylength, 1) := by decide +kernel
theorem d7_24 : decode jdk_65_method_124_code 24 = .ok (.iload_n 1, 1) := by decide +kernel
theorem d7_25 : decode jdk_65_method_124_code 25 = .ok (.invokestatic 304, 3) := by decide +kernel
theorem d7_28 : decode jdk_65_method_124_code 28 = .ok (.invokestatic 150, 3) := by decide +kernel
theorem d7_31 : decode jdk_65_method_124_code 31 = .ok (.aload_n 2, 1) := by decide +kernel
theorem d7_32 : decode jdk_65_method_124_code 32 = .ok (.areturn, 1) := by decide +kernel
def RM7_1 : Room := { frames := 1, cells := 1, slots := 2, locals := 64 }
def Q7_1 (Z : State) (a1 : Addr) (ka : ClassId) (va : Int64) (vb : Int64) (vc : Int64) (vd : Int64) (h0 : Heap) (n0 : Nat) (v : Option Value) (h : Heap) (L : List Loc) : Prop := ∃ (b : Addr) (kb : ClassId), v = some (.ref b) ∧ Fr n0 L ∧ Keep h0 h [] ∧ (h0.size ≤ b) ∧ (Arv Z h b kb .long (2 : Int32) [(.long va), (.long (0 : Int64)), (.long (0 : Int64)), (.long (0 : Int64))] (.long (0 : Int64)))
set_option maxRecDepth 65536 in
set_option maxHeartbeats 40000000 in
theorem rm7_1 (l : Launch) (Z : State) (a0 : Array Value) (hw : ∀ d ∈ tables_1, d.before a0 Z = true) (ws : List Jvm.Cond) (a1 : Addr) (ka : ClassId) (va : Int64) (vb : Int64) (vc : Int64) (vd : Int64) (h0 : Heap) (n0 : Nat) (Z0 : n0 ≤ h0.size) (pre_V_a1 : Arv Z h0 a1 ka .long (1 : Int32) [(.long va), (.long vb), (.long vc), (.long vd)] (.long (0 : Int64))) :
    MetFree l (⟨"java/util/Arrays", "copyOf", "([JI)[J"⟩ : MethodName) (head1 (Jvm.Cond.code (⟨"java/util/Arrays", "copyOf", "([JI)[J"⟩ : MethodName) jdk_65_method_124_code 3 (some (.array .long)) :: ws) RM7_1) (fun a U => a = #[(.ref a1), (.int (2 : Int32))] ∧ Z.Warmed39 U.vm ∧ U.heap = h0) (fun _ _ _ _ _ => True) (fun _ U o U' => ∃ v L, o = .returned v ∧ Q7_1 Z a1 ka va vb vc vd h0 n0 v U'.heap L ∧ FrameEnd U o U' L RM7_1.cells RM7_1.slots) := by
  refine met_of (Q := fun v h L => Q7_1 Z a1 ka va vb vc vd h0 n0 v h L) (plainFor_of_name pn_1) (fun m => by first | (simp [entryFrame, mkF, argsToLocals, Value.category]; done) | rfl) (Ls := #[.val (.ref a1), .val (.int (2 : Int32)), .unset]) ?_
  intro p e s m below meth c T0 QQ hx hZ hby hml hown hnm hret hlk X0 e0 hQ
  have hml : c.maxLocals = 3 := hml
  have hown : s.vm.findClass "java/util/Arrays" = some m.cls := hown
  have hnm : meth.name = "copyOf" := hnm
  have hret : meth.sig.returnType = some (.array .long) := hret
  have N0 := Fr.nil n0
  have K0 : Keep h0 h0 [] := Keep.refl h0 _
  show GoW p e below QQ (T0.setTop (mkF m 0 #[.val (.ref a1), .val (.int (2 : Int32)), .unset] []))
  refine GoW.st (fun t k => XS.iloadN X0.here hx rfl (hb hby d7_0) rfl (XS.aloadN X0.here hx rfl (hb hby d7_1) rfl rfl (lnV X0 hx hZ e0 pre_V_a1 (g := (mkF m 2 #[.val (.ref a1), .val (.int (2 : Int32)), .unset] [(.ref a1), (.int (2 : Int32))])) rfl rfl (hb hby d7_2) t k))) ?_
  show GoW p e below QQ (T0.setTop (mkF m 3 #[.val (.ref a1), .val (.int (2 : Int32)), .unset] [(.int (1 : Int32)), (.int (2 : Int32))]))
  have hc3 : ¬ ((2 : Int32) = (1 : Int32)) := by decide
  refine GoW.st (fun t k => XS.icmpYes X0.here hx rfl (pc0 := 3) (pc' := 14) rfl (hb hby d7_3) rfl (feq hc3).2 (by decide) (by decide) (XS.iloadN X0.here hx rfl (hb hby d7_14) rfl k)) ?_
  show GoW p e below QQ (T0.setTop (mkF m 15 #[.val (.ref a1), .val (.int (2 : Int32)), .unset] [(.int (2 : Int32))]))
  obtain ⟨T1, h1, k1, X1, e1, E1, A1, st1⟩ := newP X0 hx hZ (hw _ (List.mem_of_getElem? (i := 16) rfl)) e0 (g := (mkF m 15 #[.val (.ref a1), .val (.int (2 : Int32)), .unset] [(.int (2 : Int32))])) rfl (hb hby d7_15) rfl (by decide) (cap := 2) (by decide) (by decide) (by decide) (by decide)
  obtain ⟨b1, g1⟩ : ∃ z, z = h0.size := ⟨_, rfl⟩
  rw [← g1] at A1 st1
  refine GoW.st st1 ?_
  have gg1 : n0 ≤ b1 := Nat.le_trans (Nat.le_trans Z0 K0.1) (Nat.le_of_eq g1.symm)
  have sz1 : h0.size ≤ b1 := Nat.le_trans K0.1 (Nat.le_of_eq g1.symm)
  have ne1_a1 : a1 ≠ b1 := Nat.ne_of_lt (Nat.lt_of_lt_of_le pre_V_a1.lt (Nat.le_of_eq g1.symm))
  have f2_V_a1 : Arv Z h1 a1 ka .long (1 : Int32) [(.long va), (.long vb), (.long vc), (.long vd)] (.long (0 : Int64)) := pre_V_a1.ext E1
  have K1 : Keep h0 h1 [] := K0.ext E1
  have V1 : Arv Z h1 b1 k1 .long (2 : Int32) [(.long (0 : Int64)), (.long (0 : Int64)), (.long (0 : Int64)), (.long (0 : Int64))] (.long (0 : Int64)) := (Arv.new A1 (by decide)).pad (pad_rep [] (.long (0 : Int64)) 4)
  show GoW p e below QQ (T1.setTop (mkF m 17 #[.val (.ref a1), .val (.int (2 : Int32)), .unset] [(.ref b1)]))
  refine GoW.st (fun t k => XS.astoreN X1.here hx rfl (hb hby d7_17) rfl rfl (l' := #[.val (.ref a1), .val (.int (2 : Int32)), .val (.ref b1)]) rfl (XS.aloadN X1.here hx rfl (hb hby d7_18) rfl rfl (XS.iconst X1.here hx rfl (hb hby d7_19) (XS.aloadN X1.here hx rfl (hb hby d7_20) rfl rfl (XS.iconst X1.here hx rfl (hb hby d7_21) (XS.aloadN X1.here hx rfl (hb hby d7_22) rfl rfl k)))))) ?_
  show GoW p e below QQ (T1.setTop (mkF m 23 #[.val (.ref a1), .val (.int (2 : Int32)), .val (.ref b1)] [(.ref a1), (.int (0 : Int32)), (.ref b1), (.int (0 : Int32)), (.ref a1)]))
  refine GoW.st (fun t k => lnV X1 hx hZ e1 f2_V_a1 (g := (mkF m 23 #[.val (.ref a1), .val (.int (2 : Int32)), .val (.ref b1)] [(.ref a1), (.int (0 : Int32)), (.ref b1), (.int (0 : Int32)), (.ref a1)])) rfl rfl (hb hby d7_23) t (XS.iloadN X1.here hx rfl (hb hby d7_24) rfl k)) ?_
  show GoW p e below QQ (T1.setTop (mkF m 25 #[.val (.ref a1), .val (.int (2 : Int32)), .val (.ref b1)] [(.int (2 : Int32)), (.int (1 : Int32)), (.int (0 : Int32)), (.ref b1), (.int (0 : Int32)), (.ref a1)]))
  obtain ⟨_, _, ⟨T3, zL3, zk3, zn3⟩, -, X3, ⟨Lc3, hQ3, zl3, zy3, zz3⟩, st3⟩ := Jvm.LawKit.callS X1 hx (y := (⟨"java/lang/Math", "min", "(II)I"⟩ : MethodName)) hown (mvT hZ (hw _ (List.mem_of_getElem? (i := 35) rfl))) (mvT hZ (hw _ (List.mem_of_getElem? (i := 1) rfl))) (mvT hZ (hw _ (List.mem_of_getElem? (i := 2) rfl))) (mvT hZ (hw _ (List.mem_of_getElem? (i := 3) rfl))) (by decide) (backOf (W := 4) (rm1 l Z a0 hw [] (1 : Int32) (2 : Int32) h1 n0 (Nat.le_trans Z0 K1.1) ) hZ (hw _ (List.mem_of_getElem? (i := 3) rfl)) (hw _ (List.mem_of_getElem? (i := 2) rfl)) (by decide) (by decide)) (g := (mkF m 25 #[.val (.ref a1), .val (.int (2 : Int32)), .val (.ref b1)] [(.int (2 : Int32)), (.int (1 : Int32)), (.int (0 : Int32)), (.ref b1), (.int (0 : Int32)), (.ref a1)])) rfl (by rw [hml]; rfl) (argsL := [(.int (1 : Int32)), (.int (2 : Int32))]) (rest := [(.int (0 : Int32)), (.ref b1), (.int (0 : Int32)), (.ref a1)]) (lenOf pd_0 rfl) rfl (by show 2 * 0 + _ ≤ _; exact Nat.le_of_eq rfl) (hb hby d7_25) (fun _ _ => ⟨rfl, e1, (by decide : 1 + 0 ≤ _), (by decide : 2 + 0 ≤ _)⟩)
  dsimp only [Pt.U, Pt.locs, Pt.cells, Pt.slots] at X3 zl3 zy3 zz3 st3 hQ3
  subst zl3 zy3 zz3
  obtain ⟨rfl, Nq3, hh3⟩ := hQ3
  have N3 := Fr.app N0 Nq3
  refine GoW.st st3 ?_
  show GoW p e below QQ (T3.setTop (mkF m 28 #[.val (.ref a1), .val (.int (2 : Int32)), .val (.ref b1)] [(.int (own_minI (1 : Int32) (2 : Int32))), (.int (0 : Int32)), (.ref b1), (.int (0 : Int32)), (.ref a1)]))
  have e28 : own_minI (1 : Int32) (2 : Int32) = (1 : Int32) := by decide
  rw [e28]
  show GoW p e below QQ (T3.setTop (mkF m 28 #[.val (.ref a1), .val (.int (2 : Int32)), .val (.ref b1)] [(.int (1 : Int32)), (.int (0 : Int32)), (.ref b1), (.int (0 : Int32)), (.ref a1)]))
  obtain ⟨T4, h4, L4, X4, e4, N4, Kq4, V4, st4⟩ := cpA X3 hx hZ hown (hw _ (List.mem_of_getElem? (i := 36) rfl)) (hw _ (List.mem_of_getElem? (i := 39) rfl)) (hw _ (List.mem_of_getElem? (i := 37) rfl)) (hw _ (List.mem_of_getElem? (i := 38) rfl)) hh3 f2_V_a1 V1 (us := [(.long va)]) (Or.inl ⟨rfl, rfl⟩) (by decide) (by decide) (by decide) (by decide) (by decide) rfl (Nat.le_of_ble_eq_true rfl) N3 gg1 (g := (mkF m 28 #[.val (.ref a1), .val (.int (2 : Int32)), .val (.ref b1)] [(.int (1 : Int32)), (.int (0 : Int32)), (.ref b1), (.int (0 : Int32)), (.ref a1)])) rfl (by rw [hml]; rfl) rfl (hb hby d7_28) (by decide) (W := 0) (by show 2 * 0 + _ ≤ _; exact Nat.le_of_eq rfl) (by decide)
  refine GoW.st st4 ?_
  have f5_V_a1 : Arv Z h4 a1 ka .long (1 : Int32) [(.long va), (.long vb), (.long vc), (.long vd)] (.long (0 : Int64)) := f2_V_a1.keep Kq4 (ninS ne1_a1 nin0)
  have f5_V_b1 : Arv Z h4 b1 k1 .long (2 : Int32) [(.long va), (.long (0 : Int64)), (.long (0 : Int64)), (.long (0 : Int64))] (.long (0 : Int64)) := V4
  have K4 : Keep h0 h4 [] := K1.trans Kq4 (allS (Or.inr sz1) all0)
  show GoW p e below QQ (T4.setTop (mkF m 31 #[.val (.ref a1), .val (.int (2 : Int32)), .val (.ref b1)] []))
  refine GoW.st (fun t k => XS.aloadN X4.here hx rfl (hb hby d7_31) rfl rfl k) ?_
  show GoW p e below QQ (T4.setTop (mkF m 32 #[.val (.ref a1), .val (.int (2 : Int32)), .val (.ref b1)] [(.ref b1)]))
  exact GoW.fin X4 (some (.ref b1)) (fun q => by rw [hret] at q; cases q) hlk hQ e4 ⟨b1, k1, rfl, N4, K4, sz1, f5_V_b1⟩ (by decide) (by decide) (fun fs hr => retOut X4 hx hret rfl (Or.inr (Or.inr (Or.inr (Or.inr ⟨rfl, rfl, rfl⟩)))) (hb hby d7_32) hr)
def RM7_2 : Room := { frames := 1, cells := 1, slots := 4, locals := 64 }
def Q7_2 (Z : State) (a1 : Addr) (ka : ClassId) (va : Int64) (vb : Int64) (vc : Int64) (vd : Int64) (h0 : Heap) (n0 : Nat) (v : Option Value) (h : Heap) (L : List Loc) : Prop := ∃ (b : Addr) (kb : ClassId), v = some (.ref b) ∧ Fr n0 L ∧ Keep h0 h [] ∧ (h0.size ≤ b) ∧ (Arv Z h b kb .long (4 : Int32) [(.long va), (.long vb), (.long (0 : Int64)), (.long (0 : Int64))] (.long (0 : Int64)))
set_option maxRecDepth 65536 in
set_option maxHeartbeats 40000000 in
theorem rm7_2 (l : Launch) (Z : State) (a0 : Array Value) (hw : ∀ d ∈ tables_1, d.before a0 Z = true) (ws : List Jvm.Cond) (a1 : Addr) (ka : ClassId) (va : Int64) (vb : Int64) (vc : Int64) (vd : Int64) (h0 : Heap) (n0 : Nat) (Z0 : n0 ≤ h0.size) (pre_V_a1 : Arv Z h0 a1 ka .long (2 : Int32) [(.long va), (.long vb), (.long vc), (.long vd)] (.long (0 : Int64))) :
    MetFree l (⟨"java/util/Arrays", "copyOf", "([JI)[J"⟩ : MethodName) (head1 (Jvm.Cond.code (⟨"java/util/Arrays", "copyOf", "([JI)[J"⟩ : MethodName) jdk_65_method_124_code 3 (some (.array .long)) :: ws) RM7_2) (fun a U => a = #[(.ref a1), (.int (4 : Int32))] ∧ Z.Warmed39 U.vm ∧ U.heap = h0) (fun _ _ _ _ _ => True) (fun _ U o U' => ∃ v L, o = .returned v ∧ Q7_2 Z a1 ka va vb vc vd h0 n0 v U'.heap L ∧ FrameEnd U o U' L RM7_2.cells RM7_2.slots) := by
  refine met_of (Q := fun v h L => Q7_2 Z a1 ka va vb vc vd h0 n0 v h L) (plainFor_of_name pn_1) (fun m => by first | (simp [entryFrame, mkF, argsToLocals, Value.category]; done) | rfl) (Ls := #[.val (.ref a1), .val (.int (4 : Int32)), .unset]) ?_
  intro p e s m below meth c T0 QQ hx hZ hby hml hown hnm hret hlk X0 e0 hQ
  have hml : c.maxLocals = 3 := hml
  have hown : s.vm.findClass "java/util/Arrays" = some m.cls := hown
  have hnm : meth.name = "copyOf" := hnm
  have hret : meth.sig.returnType = some (.array .long) := hret
  have N0 := Fr.nil n0
  have K0 : Keep h0 h0 [] := Keep.refl h0 _
  show GoW p e below QQ (T0.setTop (mkF m 0 #[.val (.ref a1), .val (.int (4 : Int32)), .unset] []))
  refine GoW.st (fun t k => XS.iloadN X0.here hx rfl (hb hby d7_0) rfl (XS.aloadN X0.here hx rfl (hb hby d7_1) rfl rfl (lnV X0 hx hZ e0 pre_V_a1 (g := (mkF m 2 #[.val (.ref a1), .val (.int (4 : Int32)), .unset] [(.ref a1), (.int (4 : Int32))])) rfl rfl (hb hby d7_2) t k))) ?_
  show GoW p e below QQ (T0.setTop (mkF m 3 #[.val (.ref a1), .val (.int (4 : Int32)), .unset] [(.int (2 : Int32)), (.int (4 : Int32))]))
  have hc3 : ¬ ((4 : Int32) = (2 : Int32)) := by decide
  refine GoW.st (fun t k => XS.icmpYes X0.here hx rfl (pc0 := 3) (pc' := 14) rfl (hb hby d7_3) rfl (feq hc3).2 (by decide) (by decide) (XS.iloadN X0.here hx rfl (hb hby d7_14) rfl k)) ?_
  show GoW p e below QQ (T0.setTop (mkF m 15 #[.val (.ref a1), .val (.int (4 : Int32)), .unset] [(.int (4 : Int32))]))
  obtain ⟨T1, h1, k1, X1, e1, E1, A1, st1⟩ := newP X0 hx hZ (hw _ (List.mem_of_getElem? (i := 16) rfl)) e0 (g := (mkF m 15 #[.val (.ref a1), .val (.int (4 : Int32)), .unset] [(.int (4 : Int32))])) rfl (hb hby d7_15) rfl (by decide) (cap := 4) (by decide) (by decide) (by decide) (by decide)
  obtain ⟨b1, g1⟩ : ∃ z, z = h0.size := ⟨_, rfl⟩
  rw [← g1] at A1 st1
  refine GoW.st st1 ?_
  have gg1 : n0 ≤ b1 := Nat.le_trans (Nat.le_trans Z0 K0.1) (Nat.le_of_eq g1.symm)
  have sz1 : h0.size ≤ b1 := Nat.le_trans K0.1 (Nat.le_of_eq g1.symm)
  have ne1_a1 : a1 ≠ b1 := Nat.ne_of_lt (Nat.lt_of_lt_of_le pre_V_a1.lt (Nat.le_of_eq g1.symm))
  have f2_V_a1 : Arv Z h1 a1 ka .long (2 : Int32) [(.long va), (.long vb), (.long vc), (.long vd)] (.long (0 : Int64)) := pre_V_a1.ext E1
  have K1 : Keep h0 h1 [] := K0.ext E1
  have V1 : Arv Z h1 b1 k1 .long (4 : Int32) [(.long (0 : Int64)), (.long (0 : Int64)), (.long (0 : Int64)), (.long (0 : Int64))] (.long (0 : Int64)) := (Arv.new A1 (by decide)).pad (pad_rep [] (.long (0 : Int64)) 4)
  show GoW p e below QQ (T1.setTop (mkF m 17 #[.val (.ref a1), .val (.int (4 : Int32)), .unset] [(.ref b1)]))
  refine GoW.st (fun t k => XS.astoreN X1.here hx rfl (hb hby d7_17) rfl rfl (l' := #[.val (.ref a1), .val (.int (4 : Int32)), .val (.ref b1)]) rfl (XS.aloadN X1.here hx rfl (hb hby d7_18) rfl rfl (XS.iconst X1.here hx rfl (hb hby d7_19) (XS.aloadN X1.here hx rfl (hb hby d7_20) rfl rfl (XS.iconst X1.here hx rfl (hb hby d7_21) (XS.aloadN X1.here hx rfl (hb hby d7_22) rfl rfl k)))))) ?_
  show GoW p e below QQ (T1.setTop (mkF m 23 #[.val (.ref a1), .val (.int (4 : Int32)), .val (.ref b1)] [(.ref a1), (.int (0 : Int32)), (.ref b1), (.int (0 : Int32)), (.ref a1)]))
  refine GoW.st (fun t k => lnV X1 hx hZ e1 f2_V_a1 (g := (mkF m 23 #[.val (.ref a1), .val (.int (4 : Int32)), .val (.ref b1)] [(.ref a1), (.int (0 : Int32)), (.ref b1), (.int (0 : Int32)), (.ref a1)])) rfl rfl (hb hby d7_23) t (XS.iloadN X1.here hx rfl (hb hby d7_24) rfl k)) ?_
  show GoW p e below QQ (T1.setTop (mkF m 25 #[.val (.ref a1), .val (.int (4 : Int32)), .val (.ref b1)] [(.int (4 : Int32)), (.int (2 : Int32)), (.int (0 : Int32)), (.ref b1), (.int (0 : Int32)), (.ref a1)]))
  obtain ⟨_, _, ⟨T3, zL3, zk3, zn3⟩, -, X3, ⟨Lc3, hQ3, zl3, zy3, zz3⟩, st3⟩ := Jvm.LawKit.callS X1 hx (y := (⟨"java/lang/Math", "min", "(II)I"⟩ : MethodName)) hown (mvT hZ (hw _ (List.mem_of_getElem? (i := 35) rfl))) (mvT hZ (hw _ (List.mem_of_getElem? (i := 1) rfl))) (mvT hZ (hw _ (List.mem_of_getElem? (i := 2) rfl))) (mvT hZ (hw _ (List.mem_of_getElem? (i := 3) rfl))) (by decide) (backOf (W := 4) (rm1 l Z a0 hw [] (2 : Int32) (4 : Int32) h1 n0 (Nat.le_trans Z0 K1.1) ) hZ (hw _ (List.mem_of_getElem? (i := 3) rfl)) (hw _ (List.mem_of_getElem? (i := 2) rfl)) (by decide) (by decide)) (g := (mkF m 25 #[.val (.ref a1), .val (.int (4 : Int32)), .val (.ref b1)] [(.int (4 : Int32)), (.int (2 : Int32)), (.int (0 : Int32)), (.ref b1), (.int (0 : Int32)), (.ref a1)])) rfl (by rw [hml]; rfl) (argsL := [(.int (2 : Int32)), (.int (4 : Int32))]) (rest := [(.int (0 : Int32)), (.ref b1), (.int (0 : Int32)), (.ref a1)]) (lenOf pd_0 rfl) rfl (by show 2 * 0 + _ ≤ _; exact Nat.le_of_eq rfl) (hb hby d7_25) (fun _ _ => ⟨rfl, e1, (by decide : 1 + 0 ≤ _), (by decide : 4 + 0 ≤ _)⟩)
  dsimp only [Pt.U, Pt.locs, Pt.cells, Pt.slots] at X3 zl3 zy3 zz3 st3 hQ3
  subst zl3 zy3 zz3
  obtain ⟨rfl, Nq3, hh3⟩ := hQ3
  have N3 := Fr.app N0 Nq3
  refine GoW.st st3 ?_
  show GoW p e below QQ (T3.setTop (mkF m 28 #[.val (.ref a1), .val (.int (4 : Int32)), .val (.ref b1)] [(.int (own_minI (2 : Int32) (4 : Int32))), (.int (0 : Int32)), (.ref b1), (.int (0 : Int32)), (.ref a1)]))
  have e28 : own_minI (2 : Int32) (4 : Int32) = (2 : Int32) := by decide
  rw [e28]
  show GoW p e below QQ (T3.setTop (mkF m 28 #[.val (.ref a1), .val (.int (4 : Int32)), .val (.ref b1)] [(.int (2 : Int32)), (.int (0 : Int32)), (.ref b1), (.int (0 : Int32)), (.ref a1)]))
  obtain ⟨T4, h4, L4, X4, e4, N4, Kq4, V4, st4⟩ := cpA X3 hx hZ hown (hw _ (List.mem_of_getElem? (i := 36) rfl)) (hw _ (List.mem_of_getElem? (i := 39) rfl)) (hw _ (List.mem_of_getElem? (i := 37) rfl)) (hw _ (List.mem_of_getElem? (i := 38) rfl)) hh3 f2_V_a1 V1 (us := [(.long va), (.long vb)]) (Or.inl ⟨rfl, rfl⟩) (by decide) (by decide) (by decide) (by decide) (by decide) rfl (Nat.le_of_ble_eq_true rfl) N3 gg1 (g := (mkF m 28 #[.val (.ref a1), .val (.int (4 : Int32)), .val (.ref b1)] [(.int (2 : Int32)), (.int (0 : Int32)), (.ref b1), (.int (0 : Int32)), (.ref a1)])) rfl (by rw [hml]; rfl) rfl (hb hby d7_28) (by decide) (W := 0) (by show 2 * 0 + _ ≤ _; exact Nat.le_of_eq rfl) (by decide)
  refine GoW.st st4 ?_
  have f5_V_a1 : Arv Z h4 a1 ka .long (2 : Int32) [(.long va), (.long vb), (.long vc), (.long vd)] (.long (0 : Int64)) := f2_V_a1.keep Kq4 (ninS ne1_a1 nin0)
  have f5_V_b1 : Arv Z h4 b1 k1 .long (4 : Int32) [(.long va), (.long vb), (.long (0 : Int64)), (.long (0 : Int64))] (.long (0 : Int64)) := V4
  have K4 : Keep h0 h4 [] := K1.trans Kq4 (allS (Or.inr sz1) all0)
  show GoW p e below QQ (T4.setTop (mkF m 31 #[.val (.ref a1), .val (.int (4 : Int32)), .val (.ref b1)] []))
  refine GoW.st (fun t k => XS.aloadN X4.here hx rfl (hb hby d7_31) rfl rfl k) ?_
  show GoW p e below QQ (T4.setTop (mkF m 32 #[.val (.ref a1), .val (.int (4 : Int32)), .val (.ref b1)] [(.ref b1)]))
  exact GoW.fin X4 (some (.ref b1)) (fun q => by rw [hret] at q; cases q) hlk hQ e4 ⟨b1, k1, rfl, N4, K4, sz1, f5_V_b1⟩ (by decide) (by decide) (fun fs hr => retOut X4 hx hret rfl (Or.inr (Or.inr (Or.inr (Or.inr ⟨rfl, rfl, rfl⟩)))) (hb hby d7_32) hr)
theorem d6_0 : decode prog_40_method_4_code 0 = .ok (.aload_n 0, 1) := by decide +kernel
theorem d6_1 : decode prog_40_method_4_code 1 = .ok (.getfield 19, 3) := by decide +kernel
theorem d6_4 : decode prog_40_method_4_code 4 = .ok (.aload_n 0, 1) := by decide +kernel
theorem d6_5 : decode prog_40_method_4_code 5 = .ok (.getfield 13, 3) := by decide +kernel
theorem d6_8 : decode prog_40_method_4_code 8 = .ok (.arraylength, 1) := by decide +kernel
theorem d6_9 : decode prog_40_method_4_code 9 = .ok (.if_icmp .ne 20, 3) := by decide +kernel
theorem d6_29 : decode prog_40_method_4_code 29 = .ok (.aload_n 0, 1) := by decide +kernel
theorem d6_30 : decode prog_40_method_4_code 30 = .ok (.dup, 1) := by decide +kernel
theorem d6_31 : decode prog_40_method_4_code 31 = .ok (.getfield 19, 3) := by decide +kernel
theorem d6_34 : decode prog_40_method_4_code 34 = .ok (.dup_x1, 1) := by decide +kernel
theorem d6_35 : decode prog_40_method_4_code 35 = .ok (.iconst 1, 1) := by decide +kernel
theorem d6_36 : decode prog_40_method_4_code 36 = .ok (.iadd, 1) := by decide +kernel
theorem d6_37 : decode prog_40_method_4_code 37 = .ok (.putfield 19, 3) := by decide +kernel
theorem d6_40 : decode prog_40_method_4_code 40 = .ok (.istore_n 3, 1) := by decide +kernel
theorem d6_41 : decode prog_40_method_4_code 41 = .ok (.iload_n 3, 1) := by decide +kernel
theorem d6_42 : decode prog_40_method_4_code 42 = .ok (.ifCond .le 43, 3) := by decide +kernel
theorem d6_85 : decode prog_40_method_4_code 85 = .ok (.aload_n 0, 1) := by decide +kernel
theorem d6_86 : decode prog_40_method_4_code 86 = .ok (.getfield 13, 3) := by decide +kernel
theorem d6_89 : decode prog_40_method_4_code 89 = .ok (.iload_n 3, 1) := by decide +kernel
theorem d6_90 : decode prog_40_method_4_code 90 = .ok (.lload_n 1, 1) := by decide +kernel
theorem d6_91 : decode prog_40_method_4_code 91 = .ok (.lastore, 1) := by decide +kernel
theorem d6_92 : decode prog_40_method_4_code 92 = .ok (.return_, 1) := by decide +kernel
def RM6_0 : Room := { frames := 0, cells := 0, slots := 0, locals := 0 }
def Q6_0 (Z : State) (a1 : Addr) (q1 : Int64) (a2 : Addr) (ka : ClassId) (z : Int32) (va : Int64) (vb : Int64) (vc : Int64) (vd : Int64) (h0 : Heap) (n0 : Nat) (v : Option Value) (h : Heap) (L : List Loc) : Prop := ∃ (b : Addr) (kb : ClassId) (zz : Int32) (wa : Int64) (wb : Int64) (wc : Int64) (wd : Int64), v = none ∧ Fr n0 L ∧ Keep h0 h [a1, a2] ∧ (Exa Z h a1 "com/example/eunomia/eunomia/sticky/LongHeap") ∧ (Fld Z h a1 "com/example/eunomia/eunomia/sticky/LongHeap" "values" "[J" (.ref b)) ∧ (Fld Z h a1 "com/example/eunomia/eunomia/sticky/LongHeap" "size" "I" (.int (1 : Int32))) ∧ (n0 ≤ b) ∧ (b ≠ a1) ∧ (Arv Z h b kb .long zz [(.long wa), (.long wb), (.long wc), (.long wd)] (.long (0 : Int64))) ∧ (1 ≤ zz.toInt ∧ 1 ≤ zz.toInt ∧ zz.toInt ≤ 8)
set_option maxRecDepth 65536 in
set_option maxHeartbeats 40000000 in
theorem rm6_0 (l : Launch) (Z : State) (a0 : Array Value) (hw : ∀ d ∈ tables_1, d.before a0 Z = true) (ws : List Jvm.Cond) (a1 : Addr) (q1 : Int64) (a2 : Addr) (ka : ClassId) (z : Int32) (va : Int64) (vb : Int64) (vc : Int64) (vd : Int64) (h0 : Heap) (n0 : Nat) (Z0 : n0 ≤ h0.size) (pre_E_a1 : Exa Z h0 a1 "com/example/eunomia/eunomia/sticky/LongHeap") (pre_g_a1 : n0 ≤ a1) (pre_g_a2 : n0 ≤ a2) (pre_a2_a1 : a2 ≠ a1) (pre_F_a1_values : Fld Z h0 a1 "com/example/eunomia/eunomia/sticky/LongHeap" "values" "[J" (.ref a2)) (pre_F_a1_size : Fld Z h0 a1 "com/example/eunomia/eunomia/sticky/LongHeap" "size" "I" (.int (0 : Int32))) (pre_V_a2 : Arv Z h0 a2 ka .long z [(.long va), (.long vb), (.long vc), (.long vd)] (.long (0 : Int64))) (hz : 1 ≤ z.toInt ∧ 0 ≤ z.toInt ∧ z.toInt ≤ 8) :
    MetFree l (⟨"com/example/eunomia/eunomia/sticky/LongHeap", "add", "(J)V"⟩ : MethodName) (head1 (Jvm.Cond.code (⟨"com/example/eunomia/eunomia/sticky/LongHeap", "add", "(J)V"⟩ : MethodName) prog_40_method_4_code 4 none :: ws) RM6_0) (fun a U => a = #[(.ref a1), (.long q1)] ∧ Z.Warmed39 U.vm ∧ U.heap = h0) (fun _ _ _ _ _ => True) (fun _ U o U' => ∃ v L, o = .returned v ∧ Q6_0 Z a1 q1 a2 ka z va vb vc vd h0 n0 v U'.heap L ∧ FrameEnd U o U' L RM6_0.cells RM6_0.slots) := by
  refine met_of (Q := fun v h L => Q6_0 Z a1 q1 a2 ka z va vb vc vd h0 n0 v h L) (plainFor_of_name pn_0) (fun m => by first | (simp [entryFrame, mkF, argsToLocals, Value.category]; done) | rfl) (Ls := #[.val (.ref a1), .val (.long q1), .second, .unset]) ?_
  intro p e s m below meth c T0 QQ hx hZ hby hml hown hnm hret hlk X0 e0 hQ
  have hml : c.maxLocals = 4 := hml
  have hown : s.vm.findClass "com/example/eunomia/eunomia/sticky/LongHeap" = some m.cls := hown
  have hnm : meth.name = "add" := hnm
  have hret : meth.sig.returnType = none := hret
  have N0 := Fr.nil n0
  have K0 : Keep h0 h0 [a1, a2] := Keep.refl h0 _
  show GoW p e below QQ (T0.setTop (mkF m 0 #[.val (.ref a1), .val (.long q1), .second, .unset] []))
  have z0 : (0 : Int32).toInt = 0 := rfl
  have z1 : (1 : Int32).toInt = 1 := rfl
  have z2 : (2 : Int32).toInt = 2 := rfl
  have z3 : (3 : Int32).toInt = 3 := rfl
  have z4 : (4 : Int32).toInt = 4 := rfl
  have z6 : (6 : Int32).toInt = 6 := rfl
  refine GoW.st (fun t k => XS.aloadN X0.here hx rfl (hb hby d6_0) rfl rfl k) ?_
  show GoW p e below QQ (T0.setTop (mkF m 1 #[.val (.ref a1), .val (.long q1), .second, .unset] [(.ref a1)]))
  obtain ⟨T1, X1, e1, st1⟩ := getF X0 hx hZ hown (host := "") (Or.inl (hw _ (List.mem_of_getElem? (i := 24) rfl))) Via.refl e0 pre_F_a1_size (g := (mkF m 1 #[.val (.ref a1), .val (.long q1), .second, .unset] [(.ref a1)])) rfl rfl (hb hby d6_1)
  refine GoW.st st1 ?_
  show GoW p e below QQ (T1.setTop (mkF m 4 #[.val (.ref a1), .val (.long q1), .second, .unset] [(.int (0 : Int32))]))
  refine GoW.st (fun t k => XS.aloadN X1.here hx rfl (hb hby d6_4) rfl rfl k) ?_
  show GoW p e below QQ (T1.setTop (mkF m 5 #[.val (.ref a1), .val (.long q1), .second, .unset] [(.ref a1), (.int (0 : Int32))]))
  obtain ⟨T2, X2, e2, st2⟩ := getF X1 hx hZ hown (host := "") (Or.inl (hw _ (List.mem_of_getElem? (i := 17) rfl))) Via.refl e1 pre_F_a1_values (g := (mkF m 5 #[.val (.ref a1), .val (.long q1), .second, .unset] [(.ref a1), (.int (0 : Int32))])) rfl rfl (hb hby d6_5)
  refine GoW.st st2 ?_
  show GoW p e below QQ (T2.setTop (mkF m 8 #[.val (.ref a1), .val (.long q1), .second, .unset] [(.ref a2), (.int (0 : Int32))]))
  refine GoW.st (fun t k => lnV X2 hx hZ e2 pre_V_a2 (g := (mkF m 8 #[.val (.ref a1), .val (.long q1), .second, .unset] [(.ref a2), (.int (0 : Int32))])) rfl rfl (hb hby d6_8) t k) ?_
  show GoW p e below QQ (T2.setTop (mkF m 9 #[.val (.ref a1), .val (.long q1), .second, .unset] [(.int z), (.int (0 : Int32))]))
  have hc9 : ¬ ((0 : Int32) = z) := by
    exact own_ne_of (by omega)
  refine GoW.st (fun t k => XS.icmpYes X2.here hx rfl (pc0 := 9) (pc' := 29) rfl (hb hby d6_9) rfl (feq hc9).2 (by decide) (by decide) k) ?_
  show GoW p e below QQ (T2.setTop (mkF m 29 #[.val (.ref a1), .val (.long q1), .second, .unset] []))
  have hi9 : ¬ (0 = z.toInt) := (fun q => hc9 (Int32.toInt_inj.mp q))
  have hlt := fun q => hc9 (own_eq_of q)
  refine GoW.st (fun t k => XS.aloadN X2.here hx rfl (hb hby d6_29) rfl rfl (XS.dup X2.here hx rfl (hb hby d6_30) rfl rfl k)) ?_
  show GoW p e below QQ (T2.setTop (mkF m 31 #[.val (.ref a1), .val (.long q1), .second, .unset] [(.ref a1), (.ref a1)]))
  obtain ⟨T3, X3, e3, st3⟩ := getF X2 hx hZ hown (host := "") (Or.inl (hw _ (List.mem_of_getElem? (i := 24) rfl))) Via.refl e2 pre_F_a1_size (g := (mkF m 31 #[.val (.ref a1), .val (.long q1), .second, .unset] [(.ref a1), (.ref a1)])) rfl rfl (hb hby d6_31)
  refine GoW.st st3 ?_
  show GoW p e below QQ (T3.setTop (mkF m 34 #[.val (.ref a1), .val (.long q1), .second, .unset] [(.int (0 : Int32)), (.ref a1)]))
  refine GoW.st (fun t k => XS.dupX1 X3.here hx rfl (hb hby d6_34) rfl rfl rfl (XS.iconst X3.here hx rfl (hb hby d6_35) (XS.iadd X3.here hx rfl (hb hby d6_36) rfl k))) ?_
  show GoW p e below QQ (T3.setTop (mkF m 37 #[.val (.ref a1), .val (.long q1), .second, .unset] [(.int (1 : Int32)), (.ref a1), (.int (0 : Int32))]))
  obtain ⟨T4, h4, X4, e4, W4, st4⟩ := putF X3 hx hZ hown (host := "") (Or.inl (hw _ (List.mem_of_getElem? (i := 24) rfl))) Via.refl e3 pre_F_a1_size pre_E_a1 (Or.inl (hw _ (List.mem_of_getElem? (i := 25) rfl))) (hw _ (List.mem_of_getElem? (i := 5) rfl)) (ty := .int) (by decide) rfl rfl (g := (mkF m 37 #[.val (.ref a1), .val (.long q1), .second, .unset] [(.int (1 : Int32)), (.ref a1), (.int (0 : Int32))])) rfl rfl (hb hby d6_37)
  refine GoW.st st4 ?_
  have f5_E_a1 : Exa Z h4 a1 "com/example/eunomia/eunomia/sticky/LongHeap" := pre_E_a1.wr W4
  have f5_F_a1_values : Fld Z h4 a1 "com/example/eunomia/eunomia/sticky/LongHeap" "values" "[J" (.ref a2) := pre_F_a1_values.other W4 (Or.inr (slot_ne (Or.inl (hw _ (List.mem_of_getElem? (i := 18) rfl))) (Or.inl (hw _ (List.mem_of_getElem? (i := 25) rfl))) (by decide) (t := (.array .long)) (t' := .int) (by decide) (by decide)))
  have f5_F_a1_size : Fld Z h4 a1 "com/example/eunomia/eunomia/sticky/LongHeap" "size" "I" (.int (1 : Int32)) := pre_F_a1_size.same W4
  have f5_V_a2 : Arv Z h4 a2 ka .long z [(.long va), (.long vb), (.long vc), (.long vd)] (.long (0 : Int64)) := pre_V_a2.other W4 pre_a2_a1
  have K4 : Keep h0 h4 [a1, a2] := K0.wr W4 (Or.inl (List.mem_of_getElem? (i := 0) rfl))
  have N4 := Fr.snoc X4 N0 pre_g_a1
  show GoW p e below QQ (T4.setTop (mkF m 40 #[.val (.ref a1), .val (.long q1), .second, .unset] [(.int (0 : Int32))]))
  refine GoW.st (fun t k => XS.istoreN X4.here hx rfl (hb hby d6_40) rfl (l' := #[.val (.ref a1), .val (.long q1), .second, .val (.int (0 : Int32))]) rfl (XS.iloadN X4.here hx rfl (hb hby d6_41) rfl k)) ?_
  show GoW p e below QQ (T4.setTop (mkF m 42 #[.val (.ref a1), .val (.long q1), .second, .val (.int (0 : Int32))] [(.int (0 : Int32))]))
  have hc42 : ¬ ((0 : Int32) < (0 : Int32)) := by decide
  refine GoW.st (fun t k => XS.ifYes X4.here hx rfl (pc0 := 42) (pc' := 85) rfl (hb hby d6_42) rfl ((if0 _ _).trans (flt hc42).2.2.2) (by decide) (by decide) (XS.aloadN X4.here hx rfl (hb hby d6_85) rfl rfl k)) ?_
  show GoW p e below QQ (T4.setTop (mkF m 86 #[.val (.ref a1), .val (.long q1), .second, .val (.int (0 : Int32))] [(.ref a1)]))
  obtain ⟨T6, X6, e6, st6⟩ := getF X4 hx hZ hown (host := "") (Or.inl (hw _ (List.mem_of_getElem? (i := 17) rfl))) Via.refl e4 f5_F_a1_values (g := (mkF m 86 #[.val (.ref a1), .val (.long q1), .second, .val (.int (0 : Int32))] [(.ref a1)])) rfl rfl (hb hby d6_86)
  refine GoW.st st6 ?_
  show GoW p e below QQ (T6.setTop (mkF m 89 #[.val (.ref a1), .val (.long q1), .second, .val (.int (0 : Int32))] [(.ref a2)]))
  refine GoW.st (fun t k => XS.iloadN X6.here hx rfl (hb hby d6_89) rfl (XS.lloadN X6.here hx rfl (hb hby d6_90) rfl k)) ?_
  show GoW p e below QQ (T6.setTop (mkF m 91 #[.val (.ref a1), .val (.long q1), .second, .val (.int (0 : Int32))] [(.long q1), (.int (0 : Int32)), (.ref a2)]))
  obtain ⟨T7, h7, X7, e7, W7, V7, st7⟩ := stVJ X6 hx hZ e6 f5_V_a2 ⟨by decide, own_lt_of (by omega)⟩ 0 rfl (Nat.le_of_ble_eq_true rfl) (g := (mkF m 91 #[.val (.ref a1), .val (.long q1), .second, .val (.int (0 : Int32))] [(.long q1), (.int (0 : Int32)), (.ref a2)])) rfl rfl (hb hby d6_91)
  refine GoW.st st7 ?_
  have f8_E_a1 : Exa Z h7 a1 "com/example/eunomia/eunomia/sticky/LongHeap" := f5_E_a1.wr W7
  have f8_F_a1_values : Fld Z h7 a1 "com/example/eunomia/eunomia/sticky/LongHeap" "values" "[J" (.ref a2) := f5_F_a1_values.other W7 (Or.inl (Ne.symm pre_a2_a1))
  have f8_F_a1_size : Fld Z h7 a1 "com/example/eunomia/eunomia/sticky/LongHeap" "size" "I" (.int (1 : Int32)) := f5_F_a1_size.other W7 (Or.inl (Ne.symm pre_a2_a1))
  have f8_V_a2 : Arv Z h7 a2 ka .long z [(.long q1), (.long vb), (.long vc), (.long vd)] (.long (0 : Int64)) := V7
  have K7 : Keep h0 h7 [a1, a2] := K4.wr W7 (Or.inl (List.mem_of_getElem? (i := 1) rfl))
  have N7 := Fr.snoc X7 N4 pre_g_a2
  show GoW p e below QQ (T7.setTop (mkF m 92 #[.val (.ref a1), .val (.long q1), .second, .val (.int (0 : Int32))] []))
  exact GoW.fin X7 none (fun _ => rfl) hlk hQ e7 ⟨a2, ka, z, q1, vb, vc, vd, rfl, N7, K7, f8_E_a1, f8_F_a1_values, f8_F_a1_size, pre_g_a2, pre_a2_a1, f8_V_a2, (by omega)⟩ (by decide) (by decide) (fun fs hr => X7.returnOut hx hret (hb hby d6_92) hr)
theorem d6_12 : decode prog_40_method_4_code 12 = .ok (.aload_n 0, 1) := by decide +kernel
theorem d6_13 : decode prog_40_method_4_code 13 = .ok (.aload_n 0, 1) := by decide +kernel
theorem d6_14 : decode prog_40_method_4_code 14 = .ok (.getfield 13, 3) := by decide +kernel
theorem d6_17 : decode prog_40_method_4_code 17 = .ok (.iconst 2, 1) := by decide +kernel
theorem d6_18 : decode prog_40_method_4_code 18 = .ok (.aload_n 0, 1) := by decide +kernel
theorem d6_19 : decode prog_40_method_4_code 19 = .ok (.getfield 19, 3) := by decide +kernel
theorem d6_22 : decode prog_40_method_4_code 22 = .ok (.imul, 1) := by decide +kernel
theorem d6_23 : decode prog_40_method_4_code 23 = .ok (.invokestatic 23, 3) := by decide +kernel
theorem pd_1 : parseMethodDescriptor "([JI)[J" = some ⟨[(.array .long), .int], some (.array .long)⟩ := by decide +kernel
theorem d6_26 : decode prog_40_method_4_code 26 = .ok (.putfield 13, 3) := by decide +kernel
theorem d6_45 : decode prog_40_method_4_code 45 = .ok (.lload_n 1, 1) := by decide +kernel
theorem d6_46 : decode prog_40_method_4_code 46 = .ok (.aload_n 0, 1) := by decide +kernel
theorem d6_47 : decode prog_40_method_4_code 47 = .ok (.getfield 13, 3) := by decide +kernel
theorem d6_50 : decode prog_40_method_4_code 50 = .ok (.iload_n 3, 1) := by decide +kernel
theorem d6_51 : decode prog_40_method_4_code 51 = .ok (.iconst 1, 1) := by decide +kernel
theorem d6_52 : decode prog_40_method_4_code 52 = .ok (.isub, 1) := by decide +kernel
theorem d6_53 : decode prog_40_method_4_code 53 = .ok (.iconst 2, 1) := by decide +kernel
theorem d6_54 : decode prog_40_method_4_code 54 = .ok (.idiv, 1) := by decide +kernel
theorem d6_55 : decode prog_40_method_4_code 55 = .ok (.laload, 1) := by decide +kernel
theorem d6_56 : decode prog_40_method_4_code 56 = .ok (.lcmp, 1) := by decide +kernel
theorem d6_57 : decode prog_40_method_4_code 57 = .ok (.ifCond .ge 28, 3) := by decide +kernel
theorem d6_60 : decode prog_40_method_4_code 60 = .ok (.aload_n 0, 1) := by decide +kernel
theorem d6_61 : decode prog_40_method_4_code 61 = .ok (.getfield 13, 3) := by decide +kernel
theorem d6_64 : decode prog_40_method_4_code 64 = .ok (.iload_n 3, 1) := by decide +kernel
theorem d6_65 : decode prog_40_method_4_code 65 = .ok (.aload_n 0, 1) := by decide +kernel
theorem d6_66 : decode prog_40_method_4_code 66 = .ok (.getfield 13, 3) := by decide +kernel
theorem d6_69 : decode prog_40_method_4_code 69 = .ok (.iload_n 3, 1) := by decide +kernel
theorem d6_70 : decode prog_40_method_4_code 70 = .ok (.iconst 1, 1) := by decide +kernel
theorem d6_71 : decode prog_40_method_4_code 71 = .ok (.isub, 1) := by decide +kernel
theorem d6_72 : decode prog_40_method_4_code 72 = .ok (.iconst 2, 1) := by decide +kernel
theorem d6_73 : decode prog_40_method_4_code 73 = .ok (.idiv, 1) := by decide +kernel
theorem d6_74 : decode prog_40_method_4_code 74 = .ok (.laload, 1) := by decide +kernel
theorem d6_75 : decode prog_40_method_4_code 75 = .ok (.lastore, 1) := by decide +kernel
theorem d6_76 : decode prog_40_method_4_code 76 = .ok (.iload_n 3, 1) := by decide +kernel
theorem d6_77 : decode prog_40_method_4_code 77 = .ok (.iconst 1, 1) := by decide +kernel
theorem d6_78 : decode prog_40_method_4_code 78 = .ok (.isub, 1) := by decide +kernel
theorem d6_79 : decode prog_40_method_4_code 79 = .ok (.iconst 2, 1) := by decide +kernel
theorem d6_80 : decode prog_40_method_4_code 80 = .ok (.idiv, 1) := by decide +kernel
theorem d6_81 : decode prog_40_method_4_code 81 = .ok (.istore_n 3, 1) := by decide +kernel
theorem d6_82 : decode prog_40_method_4_code 82 = .ok (.goto (-41), 3) := by decide +kernel
def RM6_1 : Room := { frames := 2, cells := 1, slots := 2, locals := 79 }
def Q6_1 (Z : State) (a1 : Addr) (q1 : Int64) (a2 : Addr) (ka : ClassId) (z : Int32) (va : Int64) (vb : Int64) (vc : Int64) (vd : Int64) (h0 : Heap) (n0 : Nat) (v : Option Value) (h : Heap) (L : List Loc) : Prop := ∃ (b : Addr) (kb : ClassId) (zz : Int32) (wa : Int64) (wb : Int64) (wc : Int64) (wd : Int64), v = none ∧ Fr n0 L ∧ Keep h0 h [a1, a2] ∧ (Exa Z h a1 "com/example/eunomia/eunomia/sticky/LongHeap") ∧ (Fld Z h a1 "com/example/eunomia/eunomia/sticky/LongHeap" "values" "[J" (.ref b)) ∧ (Fld Z h a1 "com/example/eunomia/eunomia/sticky/LongHeap" "size" "I" (.int (2 : Int32))) ∧ (n0 ≤ b) ∧ (b ≠ a1) ∧ (Arv Z h b kb .long zz [(.long wa), (.long wb), (.long wc), (.long wd)] (.long (0 : Int64))) ∧ (1 ≤ zz.toInt ∧ 2 ≤ zz.toInt ∧ zz.toInt ≤ 8)
set_option maxRecDepth 65536 in
set_option maxHeartbeats 40000000 in
theorem rm6_1 (l : Launch) (Z : State) (a0 : Array Value) (hw : ∀ d ∈ tables_1, d.before a0 Z = true) (ws : List Jvm.Cond) (a1 : Addr) (q1 : Int64) (a2 : Addr) (ka : ClassId) (z : Int32) (va : Int64) (vb : Int64) (vc : Int64) (vd : Int64) (h0 : Heap) (n0 : Nat) (Z0 : n0 ≤ h0.size) (pre_E_a1 : Exa Z h0 a1 "com/example/eunomia/eunomia/sticky/LongHeap") (pre_g_a1 : n0 ≤ a1) (pre_g_a2 : n0 ≤ a2) (pre_a2_a1 : a2 ≠ a1) (pre_F_a1_values : Fld Z h0 a1 "com/example/eunomia/eunomia/sticky/LongHeap" "values" "[J" (.ref a2)) (pre_F_a1_size : Fld Z h0 a1 "com/example/eunomia/eunomia/sticky/LongHeap" "size" "I" (.int (1 : Int32))) (pre_V_a2 : Arv Z h0 a2 ka .long z [(.long va), (.long vb), (.long vc), (.long vd)] (.long (0 : Int64))) (hz : 1 ≤ z.toInt ∧ 1 ≤ z.toInt ∧ z.toInt ≤ 8) :
    MetFree l (⟨"com/example/eunomia/eunomia/sticky/LongHeap", "add", "(J)V"⟩ : MethodName) (head1 (Jvm.Cond.code (⟨"com/example/eunomia/eunomia/sticky/LongHeap", "add", "(J)V"⟩ : MethodName) prog_40_method_4_code 4 none :: ws) RM6_1) (fun a U => a = #[(.ref a1), (.long q1)] ∧ Z.Warmed39 U.vm ∧ U.heap = h0) (fun _ _ _ _ _ => True) (fun _ U o U' => ∃ v L, o = .returned v ∧ Q6_1 Z a1 q1 a2 ka z va vb vc vd h0 n0 v U'.heap L ∧ FrameEnd U o U' L RM6_1.cells RM6_1.slots) := by
  refine met_of (Q := fun v h L => Q6_1 Z a1 q1 a2 ka z va vb vc vd h0 n0 v h L) (plainFor_of_name pn_0) (fun m => by first | (simp [entryFrame, mkF, argsToLocals, Value.category]; done) | rfl) (Ls := #[.val (.ref a1), .val (.long q1), .second, .unset]) ?_
  intro p e s m below meth c T0 QQ hx hZ hby hml hown hnm hret hlk X0 e0 hQ
  have hml : c.maxLocals = 4 := hml
  have hown : s.vm.findClass "com/example/eunomia/eunomia/sticky/LongHeap" = some m.cls := hown
  have hnm : meth.name = "add" := hnm
  have hret : meth.sig.returnType = none := hret
  have N0 := Fr.nil n0
  have K0 : Keep h0 h0 [a1, a2] := Keep.refl h0 _
  show GoW p e below QQ (T0.setTop (mkF m 0 #[.val (.ref a1), .val (.long q1), .second, .unset] []))
  have z0 : (0 : Int32).toInt = 0 := rfl
  have z1 : (1 : Int32).toInt = 1 := rfl
  have z2 : (2 : Int32).toInt = 2 := rfl
  have z3 : (3 : Int32).toInt = 3 := rfl
  have z4 : (4 : Int32).toInt = 4 := rfl
  have z6 : (6 : Int32).toInt = 6 := rfl
  refine GoW.st (fun t k => XS.aloadN X0.here hx rfl (hb hby d6_0) rfl rfl k) ?_
  show GoW p e below QQ (T0.setTop (mkF m 1 #[.val (.ref a1), .val (.long q1), .second, .unset] [(.ref a1)]))
  obtain ⟨T1, X1, e1, st1⟩ := getF X0 hx hZ hown (host := "") (Or.inl (hw _ (List.mem_of_getElem? (i := 24) rfl))) Via.refl e0 pre_F_a1_size (g := (mkF m 1 #[.val (.ref a1), .val (.long q1), .second, .unset] [(.ref a1)])) rfl rfl (hb hby d6_1)
  refine GoW.st st1 ?_
  show GoW p e below QQ (T1.setTop (mkF m 4 #[.val (.ref a1), .val (.long q1), .second, .unset] [(.int (1 : Int32))]))
  refine GoW.st (fun t k => XS.aloadN X1.here hx rfl (hb hby d6_4) rfl rfl k) ?_
  show GoW p e below QQ (T1.setTop (mkF m 5 #[.val (.ref a1), .val (.long q1), .second, .unset] [(.ref a1), (.int (1 : Int32))]))
  obtain ⟨T2, X2, e2, st2⟩ := getF X1 hx hZ hown (host := "") (Or.inl (hw _ (List.mem_of_getElem? (i := 17) rfl))) Via.refl e1 pre_F_a1_values (g := (mkF m 5 #[.val (.ref a1), .val (.long q1), .second, .unset] [(.ref a1), (.int (1 : Int32))])) rfl rfl (hb hby d6_5)
  refine GoW.st st2 ?_
  show GoW p e below QQ (T2.setTop (mkF m 8 #[.val (.ref a1), .val (.long q1), .second, .unset] [(.ref a2), (.int (1 : Int32))]))
  refine GoW.st (fun t k => lnV X2 hx hZ e2 pre_V_a2 (g := (mkF m 8 #[.val (.ref a1), .val (.long q1), .second, .unset] [(.ref a2), (.int (1 : Int32))])) rfl rfl (hb hby d6_8) t k) ?_
  show GoW p e below QQ (T2.setTop (mkF m 9 #[.val (.ref a1), .val (.long q1), .second, .unset] [(.int z), (.int (1 : Int32))]))
  by_cases hc9 : (1 : Int32) = z
  · skip
    refine GoW.st (fun t k => XS.icmpNo X2.here hx rfl (hb hby d6_9) rfl (teq hc9).2 k) ?_
    show GoW p e below QQ (T2.setTop (mkF m 12 #[.val (.ref a1), .val (.long q1), .second, .unset] []))
    have hi9 : 1 = z.toInt := (congrArg Int32.toInt hc9)
    subst hc9
    refine GoW.st (fun t k => XS.aloadN X2.here hx rfl (hb hby d6_12) rfl rfl (XS.aloadN X2.here hx rfl (hb hby d6_13) rfl rfl k)) ?_
    show GoW p e below QQ (T2.setTop (mkF m 14 #[.val (.ref a1), .val (.long q1), .second, .unset] [(.ref a1), (.ref a1)]))
    obtain ⟨T3, X3, e3, st3⟩ := getF X2 hx hZ hown (host := "") (Or.inl (hw _ (List.mem_of_getElem? (i := 17) rfl))) Via.refl e2 pre_F_a1_values (g := (mkF m 14 #[.val (.ref a1), .val (.long q1), .second, .unset] [(.ref a1), (.ref a1)])) rfl rfl (hb hby d6_14)
    refine GoW.st st3 ?_
    show GoW p e below QQ (T3.setTop (mkF m 17 #[.val (.ref a1), .val (.long q1), .second, .unset] [(.ref a2), (.ref a1)]))
    refine GoW.st (fun t k => XS.iconst X3.here hx rfl (hb hby d6_17) (XS.aloadN X3.here hx rfl (hb hby d6_18) rfl rfl k)) ?_
    show GoW p e below QQ (T3.setTop (mkF m 19 #[.val (.ref a1), .val (.long q1), .second, .unset] [(.ref a1), (.int (2 : Int32)), (.ref a2), (.ref a1)]))
    obtain ⟨T4, X4, e4, st4⟩ := getF X3 hx hZ hown (host := "") (Or.inl (hw _ (List.mem_of_getElem? (i := 24) rfl))) Via.refl e3 pre_F_a1_size (g := (mkF m 19 #[.val (.ref a1), .val (.long q1), .second, .unset] [(.ref a1), (.int (2 : Int32)), (.ref a2), (.ref a1)])) rfl rfl (hb hby d6_19)
    refine GoW.st st4 ?_
    show GoW p e below QQ (T4.setTop (mkF m 22 #[.val (.ref a1), .val (.long q1), .second, .unset] [(.int (1 : Int32)), (.int (2 : Int32)), (.ref a2), (.ref a1)]))
    refine GoW.st (fun t k => XS.imul X4.here hx rfl (hb hby d6_22) rfl k) ?_
    show GoW p e below QQ (T4.setTop (mkF m 23 #[.val (.ref a1), .val (.long q1), .second, .unset] [(.int (2 : Int32)), (.ref a2), (.ref a1)]))
    obtain ⟨_, _, ⟨T5, zL5, zk5, zn5⟩, -, X5, ⟨Lc5, hQ5, zl5, zy5, zz5⟩, st5⟩ := Jvm.LawKit.callS X4 hx (y := (⟨"java/util/Arrays", "copyOf", "([JI)[J"⟩ : MethodName)) hown (mvT hZ (hw _ (List.mem_of_getElem? (i := 31) rfl))) (mvT hZ (hw _ (List.mem_of_getElem? (i := 32) rfl))) (mvT hZ (hw _ (List.mem_of_getElem? (i := 33) rfl))) (mvT hZ (hw _ (List.mem_of_getElem? (i := 34) rfl))) (by decide) (backOf (W := 1) (rm7_1 l Z a0 hw [] a2 ka va vb vc vd h0 n0 (Nat.le_trans Z0 K0.1) pre_V_a2) hZ (hw _ (List.mem_of_getElem? (i := 34) rfl)) (hw _ (List.mem_of_getElem? (i := 33) rfl)) (by decide) (by decide)) (g := (mkF m 23 #[.val (.ref a1), .val (.long q1), .second, .unset] [(.int (2 : Int32)), (.ref a2), (.ref a1)])) rfl (by rw [hml]; rfl) (argsL := [(.ref a2), (.int (2 : Int32))]) (rest := [(.ref a1)]) (lenOf pd_1 rfl) rfl (by show 2 * 0 + _ ≤ _; exact Nat.le_of_eq rfl) (hb hby d6_23) (fun _ _ => ⟨rfl, e4, (by decide : 0 + 1 ≤ _), (by decide : 0 + 2 ≤ _)⟩)
    dsimp only [Pt.U, Pt.locs, Pt.cells, Pt.slots] at X5 zl5 zy5 zz5 st5 hQ5
    subst zl5 zy5 zz5
    obtain ⟨b_23, kb_23, rfl, Nq5, Kq5, p5_0, p5_1⟩ := hQ5
    have N5 := Fr.app N0 Nq5
    refine GoW.st st5 ?_
    have ne5_a1_b_23 : a1 ≠ b_23 := Nat.ne_of_lt (Nat.lt_of_lt_of_le pre_E_a1.lt p5_0)
    have ne5_a2_b_23 : a2 ≠ b_23 := Nat.ne_of_lt (Nat.lt_of_lt_of_le pre_V_a2.lt p5_0)
    have sz5_b_23 : h0.size ≤ b_23 := Nat.le_trans K0.1 p5_0
    have gg5_b_23 : n0 ≤ b_23 := Nat.le_trans Z0 sz5_b_23
    have f6_E_a1 : Exa Z T5.heap a1 "com/example/eunomia/eunomia/sticky/LongHeap" := pre_E_a1.keep Kq5
    have f6_F_a1_values : Fld Z T5.heap a1 "com/example/eunomia/eunomia/sticky/LongHeap" "values" "[J" (.ref a2) := pre_F_a1_values.keep Kq5 nin0
    have f6_F_a1_size : Fld Z T5.heap a1 "com/example/eunomia/eunomia/sticky/LongHeap" "size" "I" (.int (1 : Int32)) := pre_F_a1_size.keep Kq5 nin0
    have f6_V_a2 : Arv Z T5.heap a2 ka .long (1 : Int32) [(.long va), (.long vb), (.long vc), (.long vd)] (.long (0 : Int64)) := pre_V_a2.keep Kq5 nin0
    have K5 : Keep h0 T5.heap [a1, a2] := K0.trans Kq5 all0
    show GoW p e below QQ (T5.setTop (mkF m 26 #[.val (.ref a1), .val (.long q1), .second, .unset] [(.ref b_23), (.ref a1)]))
    obtain ⟨T7, h7, X7, e7, W7, st7⟩ := putF X5 hx hZ hown (host := "") (Or.inl (hw _ (List.mem_of_getElem? (i := 17) rfl))) Via.refl rfl f6_F_a1_values f6_E_a1 (Or.inl (hw _ (List.mem_of_getElem? (i := 18) rfl))) (hw _ (List.mem_of_getElem? (i := 5) rfl)) (ty := (.array .long)) (by decide) rfl rfl (g := (mkF m 26 #[.val (.ref a1), .val (.long q1), .second, .unset] [(.ref b_23), (.ref a1)])) rfl rfl (hb hby d6_26)
    refine GoW.st st7 ?_
    have f8_E_a1 : Exa Z h7 a1 "com/example/eunomia/eunomia/sticky/LongHeap" := f6_E_a1.wr W7
    have f8_F_a1_values : Fld Z h7 a1 "com/example/eunomia/eunomia/sticky/LongHeap" "values" "[J" (.ref b_23) := f6_F_a1_values.same W7
    have f8_F_a1_size : Fld Z h7 a1 "com/example/eunomia/eunomia/sticky/LongHeap" "size" "I" (.int (1 : Int32)) := f6_F_a1_size.other W7 (Or.inr (slot_ne (Or.inl (hw _ (List.mem_of_getElem? (i := 25) rfl))) (Or.inl (hw _ (List.mem_of_getElem? (i := 18) rfl))) (by decide) (t := .int) (t' := (.array .long)) (by decide) (by decide)))
    have f8_V_a2 : Arv Z h7 a2 ka .long (1 : Int32) [(.long va), (.long vb), (.long vc), (.long vd)] (.long (0 : Int64)) := f6_V_a2.other W7 pre_a2_a1
    have f8_V_b_23 : Arv Z h7 b_23 kb_23 .long (2 : Int32) [(.long va), (.long (0 : Int64)), (.long (0 : Int64)), (.long (0 : Int64))] (.long (0 : Int64)) := p5_1.other W7 (Ne.symm ne5_a1_b_23)
    have K7 : Keep h0 h7 [a1, a2] := K5.wr W7 (Or.inl (List.mem_of_getElem? (i := 0) rfl))
    have N7 := Fr.snoc X7 N5 pre_g_a1
    show GoW p e below QQ (T7.setTop (mkF m 29 #[.val (.ref a1), .val (.long q1), .second, .unset] []))
    refine GoW.st (fun t k => XS.aloadN X7.here hx rfl (hb hby d6_29) rfl rfl (XS.dup X7.here hx rfl (hb hby d6_30) rfl rfl k)) ?_
    show GoW p e below QQ (T7.setTop (mkF m 31 #[.val (.ref a1), .val (.long q1), .second, .unset] [(.ref a1), (.ref a1)]))
    obtain ⟨T9, X9, e9, st9⟩ := getF X7 hx hZ hown (host := "") (Or.inl (hw _ (List.mem_of_getElem? (i := 24) rfl))) Via.refl e7 f8_F_a1_size (g := (mkF m 31 #[.val (.ref a1), .val (.long q1), .second, .unset] [(.ref a1), (.ref a1)])) rfl rfl (hb hby d6_31)
    refine GoW.st st9 ?_
    show GoW p e below QQ (T9.setTop (mkF m 34 #[.val (.ref a1), .val (.long q1), .second, .unset] [(.int (1 : Int32)), (.ref a1)]))
    refine GoW.st (fun t k => XS.dupX1 X9.here hx rfl (hb hby d6_34) rfl rfl rfl (XS.iconst X9.here hx rfl (hb hby d6_35) (XS.iadd X9.here hx rfl (hb hby d6_36) rfl k))) ?_
    show GoW p e below QQ (T9.setTop (mkF m 37 #[.val (.ref a1), .val (.long q1), .second, .unset] [(.int (2 : Int32)), (.ref a1), (.int (1 : Int32))]))
    obtain ⟨T10, h10, X10, e10, W10, st10⟩ := putF X9 hx hZ hown (host := "") (Or.inl (hw _ (List.mem_of_getElem? (i := 24) rfl))) Via.refl e9 f8_F_a1_size f8_E_a1 (Or.inl (hw _ (List.mem_of_getElem? (i := 25) rfl))) (hw _ (List.mem_of_getElem? (i := 5) rfl)) (ty := .int) (by decide) rfl rfl (g := (mkF m 37 #[.val (.ref a1), .val (.long q1), .second, .unset] [(.int (2 : Int32)), (.ref a1), (.int (1 : Int32))])) rfl rfl (hb hby d6_37)
    refine GoW.st st10 ?_
    have f11_E_a1 : Exa Z h10 a1 "com/example/eunomia/eunomia/sticky/LongHeap" := f8_E_a1.wr W10
    have f11_F_a1_values : Fld Z h10 a1 "com/example/eunomia/eunomia/sticky/LongHeap" "values" "[J" (.ref b_23) := f8_F_a1_values.other W10 (Or.inr (slot_ne (Or.inl (hw _ (List.mem_of_getElem? (i := 18) rfl))) (Or.inl (hw _ (List.mem_of_getElem? (i := 25) rfl))) (by decide) (t := (.array .long)) (t' := .int) (by decide) (by decide)))
    have f11_F_a1_size : Fld Z h10 a1 "com/example/eunomia/eunomia/sticky/LongHeap" "size" "I" (.int (2 : Int32)) := f8_F_a1_size.same W10
    have f11_V_b_23 : Arv Z h10 b_23 kb_23 .long (2 : Int32) [(.long va), (.long (0 : Int64)), (.long (0 : Int64)), (.long (0 : Int64))] (.long (0 : Int64)) := f8_V_b_23.other W10 (Ne.symm ne5_a1_b_23)
    have K10 : Keep h0 h10 [a1, a2] := K7.wr W10 (Or.inl (List.mem_of_getElem? (i := 0) rfl))
    have N10 := Fr.snoc X10 N7 pre_g_a1
    show GoW p e below QQ (T10.setTop (mkF m 40 #[.val (.ref a1), .val (.long q1), .second, .unset] [(.int (1 : Int32))]))
    refine GoW.st (fun t k => XS.istoreN X10.here hx rfl (hb hby d6_40) rfl (l' := #[.val (.ref a1), .val (.long q1), .second, .val (.int (1 : Int32))]) rfl (XS.iloadN X10.here hx rfl (hb hby d6_41) rfl k)) ?_
    show GoW p e below QQ (T10.setTop (mkF m 42 #[.val (.ref a1), .val (.long q1), .second, .val (.int (1 : Int32))] [(.int (1 : Int32))]))
    have hc42 : (0 : Int32) < (1 : Int32) := by decide
    refine GoW.st (fun t k => XS.ifNo X10.here hx rfl (hb hby d6_42) rfl ((if0 _ _).trans (tlt hc42).2.2.2) (XS.lloadN X10.here hx rfl (hb hby d6_45) rfl (XS.aloadN X10.here hx rfl (hb hby d6_46) rfl rfl k))) ?_
    show GoW p e below QQ (T10.setTop (mkF m 47 #[.val (.ref a1), .val (.long q1), .second, .val (.int (1 : Int32))] [(.ref a1), (.long q1)]))
    obtain ⟨T12, X12, e12, st12⟩ := getF X10 hx hZ hown (host := "") (Or.inl (hw _ (List.mem_of_getElem? (i := 17) rfl))) Via.refl e10 f11_F_a1_values (g := (mkF m 47 #[.val (.ref a1), .val (.long q1), .second, .val (.int (1 : Int32))] [(.ref a1), (.long q1)])) rfl rfl (hb hby d6_47)
    refine GoW.st st12 ?_
    show GoW p e below QQ (T12.setTop (mkF m 50 #[.val (.ref a1), .val (.long q1), .second, .val (.int (1 : Int32))] [(.ref b_23), (.long q1)]))
    refine GoW.st (fun t k => XS.iloadN X12.here hx rfl (hb hby d6_50) rfl (XS.iconst X12.here hx rfl (hb hby d6_51) (XS.isub X12.here hx rfl (hb hby d6_52) rfl (XS.iconst X12.here hx rfl (hb hby d6_53) (XS.idiv X12.here hx rfl (hb hby d6_54) rfl (by decide) (ldVJ X12 hx hZ e12 f11_V_b_23 (v := (.long va)) ⟨by decide, by decide⟩ rfl (g := (mkF m 55 #[.val (.ref a1), .val (.long q1), .second, .val (.int (1 : Int32))] [(.int (0 : Int32)), (.ref b_23), (.long q1)])) rfl rfl (hb hby d6_55) t k)))))) ?_
    show GoW p e below QQ (T12.setTop (mkF m 56 #[.val (.ref a1), .val (.long q1), .second, .val (.int (1 : Int32))] [(.long va), (.long q1)]))
    refine GoW.st (fun t k => XS.lcmp X12.here hx rfl (hb hby d6_56) rfl k) ?_
    show GoW p e below QQ (T12.setTop (mkF m 57 #[.val (.ref a1), .val (.long q1), .second, .val (.int (1 : Int32))] [(.int (lcmpW q1 va))]))
    by_cases hc57 : q1 < va
    · skip
      refine GoW.st (fun t k => XS.ifNo X12.here hx rfl (hb hby d6_57) rfl ((if0 _ _).trans (tlt ((lw_lt q1 va).mpr hc57)).2.1) k) ?_
      show GoW p e below QQ (T12.setTop (mkF m 60 #[.val (.ref a1), .val (.long q1), .second, .val (.int (1 : Int32))] []))
      have hi57 : q1.toInt < va.toInt := (Int64.lt_iff_toInt_lt.mp hc57)
      refine GoW.st (fun t k => XS.aloadN X12.here hx rfl (hb hby d6_60) rfl rfl k) ?_
      show GoW p e below QQ (T12.setTop (mkF m 61 #[.val (.ref a1), .val (.long q1), .second, .val (.int (1 : Int32))] [(.ref a1)]))
      obtain ⟨T13, X13, e13, st13⟩ := getF X12 hx hZ hown (host := "") (Or.inl (hw _ (List.mem_of_getElem? (i := 17) rfl))) Via.refl e12 f11_F_a1_values (g := (mkF m 61 #[.val (.ref a1), .val (.long q1), .second, .val (.int (1 : Int32))] [(.ref a1)])) rfl rfl (hb hby d6_61)
      refine GoW.st st13 ?_
      show GoW p e below QQ (T13.setTop (mkF m 64 #[.val (.ref a1), .val (.long q1), .second, .val (.int (1 : Int32))] [(.ref b_23)]))
      refine GoW.st (fun t k => XS.iloadN X13.here hx rfl (hb hby d6_64) rfl (XS.aloadN X13.here hx rfl (hb hby d6_65) rfl rfl k)) ?_
      show GoW p e below QQ (T13.setTop (mkF m 66 #[.val (.ref a1), .val (.long q1), .second, .val (.int (1 : Int32))] [(.ref a1), (.int (1 : Int32)), (.ref b_23)]))
      obtain ⟨T14, X14, e14, st14⟩ := getF X13 hx hZ hown (host := "") (Or.inl (hw _ (List.mem_of_getElem? (i := 17) rfl))) Via.refl e13 f11_F_a1_values (g := (mkF m 66 #[.val (.ref a1), .val (.long q1), .second, .val (.int (1 : Int32))] [(.ref a1), (.int (1 : Int32)), (.ref b_23)])) rfl rfl (hb hby d6_66)
      refine GoW.st st14 ?_
      show GoW p e below QQ (T14.setTop (mkF m 69 #[.val (.ref a1), .val (.long q1), .second, .val (.int (1 : Int32))] [(.ref b_23), (.int (1 : Int32)), (.ref b_23)]))
      refine GoW.st (fun t k => XS.iloadN X14.here hx rfl (hb hby d6_69) rfl (XS.iconst X14.here hx rfl (hb hby d6_70) (XS.isub X14.here hx rfl (hb hby d6_71) rfl (XS.iconst X14.here hx rfl (hb hby d6_72) (XS.idiv X14.here hx rfl (hb hby d6_73) rfl (by decide) (ldVJ X14 hx hZ e14 f11_V_b_23 (v := (.long va)) ⟨by decide, by decide⟩ rfl (g := (mkF m 74 #[.val (.ref a1), .val (.long q1), .second, .val (.int (1 : Int32))] [(.int (0 : Int32)), (.ref b_23), (.int (1 : Int32)), (.ref b_23)])) rfl rfl (hb hby d6_74) t k)))))) ?_
      show GoW p e below QQ (T14.setTop (mkF m 75 #[.val (.ref a1), .val (.long q1), .second, .val (.int (1 : Int32))] [(.long va), (.int (1 : Int32)), (.ref b_23)]))
      obtain ⟨T15, h15, X15, e15, W15, V15, st15⟩ := stVJ X14 hx hZ e14 f11_V_b_23 ⟨by decide, by decide⟩ 1 rfl (Nat.le_of_ble_eq_true rfl) (g := (mkF m 75 #[.val (.ref a1), .val (.long q1), .second, .val (.int (1 : Int32))] [(.long va), (.int (1 : Int32)), (.ref b_23)])) rfl rfl (hb hby d6_75)
      refine GoW.st st15 ?_
      have f16_E_a1 : Exa Z h15 a1 "com/example/eunomia/eunomia/sticky/LongHeap" := f11_E_a1.wr W15
      have f16_F_a1_values : Fld Z h15 a1 "com/example/eunomia/eunomia/sticky/LongHeap" "values" "[J" (.ref b_23) := f11_F_a1_values.other W15 (Or.inl ne5_a1_b_23)
      have f16_F_a1_size : Fld Z h15 a1 "com/example/eunomia/eunomia/sticky/LongHeap" "size" "I" (.int (2 : Int32)) := f11_F_a1_size.other W15 (Or.inl ne5_a1_b_23)
      have f16_V_b_23 : Arv Z h15 b_23 kb_23 .long (2 : Int32) [(.long va), (.long va), (.long (0 : Int64)), (.long (0 : Int64))] (.long (0 : Int64)) := V15
      have K15 : Keep h0 h15 [a1, a2] := K10.wr W15 (Or.inr sz5_b_23)
      have N15 := Fr.snoc X15 N10 gg5_b_23
      show GoW p e below QQ (T15.setTop (mkF m 76 #[.val (.ref a1), .val (.long q1), .second, .val (.int (1 : Int32))] []))
      refine GoW.st (fun t k => XS.iloadN X15.here hx rfl (hb hby d6_76) rfl (XS.iconst X15.here hx rfl (hb hby d6_77) (XS.isub X15.here hx rfl (hb hby d6_78) rfl (XS.iconst X15.here hx rfl (hb hby d6_79) (XS.idiv X15.here hx rfl (hb hby d6_80) rfl (by decide) (XS.istoreN X15.here hx rfl (hb hby d6_81) rfl (l' := #[.val (.ref a1), .val (.long q1), .second, .val (.int (0 : Int32))]) rfl k)))))) ?_
      show GoW p e below QQ (T15.setTop (mkF m 82 #[.val (.ref a1), .val (.long q1), .second, .val (.int (0 : Int32))] []))
      refine GoW.st (fun t k => XS.goto X15.here hx rfl (pc0 := 82) (pc' := 41) rfl (hb hby d6_82) (by decide) (by decide) (XS.iloadN X15.here hx rfl (hb hby d6_41) rfl k)) ?_
      show GoW p e below QQ (T15.setTop (mkF m 42 #[.val (.ref a1), .val (.long q1), .second, .val (.int (0 : Int32))] [(.int (0 : Int32))]))
      have hc42_2 : ¬ ((0 : Int32) < (0 : Int32)) := by decide
      refine GoW.st (fun t k => XS.ifYes X15.here hx rfl (pc0 := 42) (pc' := 85) rfl (hb hby d6_42) rfl ((if0 _ _).trans (flt hc42_2).2.2.2) (by decide) (by decide) (XS.aloadN X15.here hx rfl (hb hby d6_85) rfl rfl k)) ?_
      show GoW p e below QQ (T15.setTop (mkF m 86 #[.val (.ref a1), .val (.long q1), .second, .val (.int (0 : Int32))] [(.ref a1)]))
      obtain ⟨T17, X17, e17, st17⟩ := getF X15 hx hZ hown (host := "") (Or.inl (hw _ (List.mem_of_getElem? (i := 17) rfl))) Via.refl e15 f16_F_a1_values (g := (mkF m 86 #[.val (.ref a1), .val (.long q1), .second, .val (.int (0 : Int32))] [(.ref a1)])) rfl rfl (hb hby d6_86)
      refine GoW.st st17 ?_
      show GoW p e below QQ (T17.setTop (mkF m 89 #[.val (.ref a1), .val (.long q1), .second, .val (.int (0 : Int32))] [(.ref b_23)]))
      refine GoW.st (fun t k => XS.iloadN X17.here hx rfl (hb hby d6_89) rfl (XS.lloadN X17.here hx rfl (hb hby d6_90) rfl k)) ?_
      show GoW p e below QQ (T17.setTop (mkF m 91 #[.val (.ref a1), .val (.long q1), .second, .val (.int (0 : Int32))] [(.long q1), (.int (0 : Int32)), (.ref b_23)]))
      obtain ⟨T18, h18, X18, e18, W18, V18, st18⟩ := stVJ X17 hx hZ e17 f16_V_b_23 ⟨by decide, by decide⟩ 0 rfl (Nat.le_of_ble_eq_true rfl) (g := (mkF m 91 #[.val (.ref a1), .val (.long q1), .second, .val (.int (0 : Int32))] [(.long q1), (.int (0 : Int32)), (.ref b_23)])) rfl rfl (hb hby d6_91)
      refine GoW.st st18 ?_
      have f19_E_a1 : Exa Z h18 a1 "com/example/eunomia/eunomia/sticky/LongHeap" := f16_E_a1.wr W18
      have f19_F_a1_values : Fld Z h18 a1 "com/example/eunomia/eunomia/sticky/LongHeap" "values" "[J" (.ref b_23) := f16_F_a1_values.other W18 (Or.inl ne5_a1_b_23)
      have f19_F_a1_size : Fld Z h18 a1 "com/example/eunomia/eunomia/sticky/LongHeap" "size" "I" (.int (2 : Int32)) := f16_F_a1_size.other W18 (Or.inl ne5_a1_b_23)
      have f19_V_b_23 : Arv Z h18 b_23 kb_23 .long (2 : Int32) [(.long q1), (.long va), (.long (0 : Int64)), (.long (0 : Int64))] (.long (0 : Int64)) := V18
      have K18 : Keep h0 h18 [a1, a2] := K15.wr W18 (Or.inr sz5_b_23)
      have N18 := Fr.snoc X18 N15 gg5_b_23
      show GoW p e below QQ (T18.setTop (mkF m 92 #[.val (.ref a1), .val (.long q1), .second, .val (.int (0 : Int32))] []))
      exact GoW.fin X18 none (fun _ => rfl) hlk hQ e18 ⟨b_23, kb_23, (2 : Int32), q1, va, (0 : Int64), (0 : Int64), rfl, N18, K18, f19_E_a1, f19_F_a1_values, f19_F_a1_size, gg5_b_23, (Ne.symm ne5_a1_b_23), f19_V_b_23, (by omega)⟩ (by decide) (by decide) (fun fs hr => X18.returnOut hx hret (hb hby d6_92) hr)
    · skip
      refine GoW.st (fun t k => XS.ifYes X12.here hx rfl (pc0 := 57) (pc' := 85) rfl (hb hby d6_57) rfl ((if0 _ _).trans (flt (fun q => hc57 ((lw_lt q1 va).mp q))).2.1) (by decide) (by decide) k) ?_
      show GoW p e below QQ (T12.setTop (mkF m 85 #[.val (.ref a1), .val (.long q1), .second, .val (.int (1 : Int32))] []))
      have hi57 : ¬ (q1.toInt < va.toInt) := (fun q => hc57 (Int64.lt_iff_toInt_lt.mpr q))
      refine GoW.st (fun t k => XS.aloadN X12.here hx rfl (hb hby d6_85) rfl rfl k) ?_
      show GoW p e below QQ (T12.setTop (mkF m 86 #[.val (.ref a1), .val (.long q1), .second, .val (.int (1 : Int32))] [(.ref a1)]))
      obtain ⟨T20, X20, e20, st20⟩ := getF X12 hx hZ hown (host := "") (Or.inl (hw _ (List.mem_of_getElem? (i := 17) rfl))) Via.refl e12 f11_F_a1_values (g := (mkF m 86 #[.val (.ref a1), .val (.long q1), .second, .val (.int (1 : Int32))] [(.ref a1)])) rfl rfl (hb hby d6_86)
      refine GoW.st st20 ?_
      show GoW p e below QQ (T20.setTop (mkF m 89 #[.val (.ref a1), .val (.long q1), .second, .val (.int (1 : Int32))] [(.ref b_23)]))
      refine GoW.st (fun t k => XS.iloadN X20.here hx rfl (hb hby d6_89) rfl (XS.lloadN X20.here hx rfl (hb hby d6_90) rfl k)) ?_
      show GoW p e below QQ (T20.setTop (mkF m 91 #[.val (.ref a1), .val (.long q1), .second, .val (.int (1 : Int32))] [(.long q1), (.int (1 : Int32)), (.ref b_23)]))
      obtain ⟨T21, h21, X21, e21, W21, V21, st21⟩ := stVJ X20 hx hZ e20 f11_V_b_23 ⟨by decide, by decide⟩ 1 rfl (Nat.le_of_ble_eq_true rfl) (g := (mkF m 91 #[.val (.ref a1), .val (.long q1), .second, .val (.int (1 : Int32))] [(.long q1), (.int (1 : Int32)), (.ref b_23)])) rfl rfl (hb hby d6_91)
      refine GoW.st st21 ?_
      have f22_E_a1 : Exa Z h21 a1 "com/example/eunomia/eunomia/sticky/LongHeap" := f11_E_a1.wr W21
      have f22_F_a1_values : Fld Z h21 a1 "com/example/eunomia/eunomia/sticky/LongHeap" "values" "[J" (.ref b_23) := f11_F_a1_values.other W21 (Or.inl ne5_a1_b_23)
      have f22_F_a1_size : Fld Z h21 a1 "com/example/eunomia/eunomia/sticky/LongHeap" "size" "I" (.int (2 : Int32)) := f11_F_a1_size.other W21 (Or.inl ne5_a1_b_23)
      have f22_V_b_23 : Arv Z h21 b_23 kb_23 .long (2 : Int32) [(.long va), (.long q1), (.long (0 : Int64)), (.long (0 : Int64))] (.long (0 : Int64)) := V21
      have K21 : Keep h0 h21 [a1, a2] := K10.wr W21 (Or.inr sz5_b_23)
      have N21 := Fr.snoc X21 N10 gg5_b_23
      show GoW p e below QQ (T21.setTop (mkF m 92 #[.val (.ref a1), .val (.long q1), .second, .val (.int (1 : Int32))] []))
      exact GoW.fin X21 none (fun _ => rfl) hlk hQ e21 ⟨b_23, kb_23, (2 : Int32), va, q1, (0 : Int64), (0 : Int64), rfl, N21, K21, f22_E_a1, f22_F_a1_values, f22_F_a1_size, gg5_b_23, (Ne.symm ne5_a1_b_23), f22_V_b_23, (by omega)⟩ (by decide) (by decide) (fun fs hr => X21.returnOut hx hret (hb hby d6_92) hr)
  · skip
    refine GoW.st (fun t k => XS.icmpYes X2.here hx rfl (pc0 := 9) (pc' := 29) rfl (hb hby d6_9) rfl (feq hc9).2 (by decide) (by decide) k) ?_
    show GoW p e below QQ (T2.setTop (mkF m 29 #[.val (.ref a1), .val (.long q1), .second, .unset] []))
    have hi9 : ¬ (1 = z.toInt) := (fun q => hc9 (Int32.toInt_inj.mp q))
    have hlt := fun q => hc9 (own_eq_of q)
    refine GoW.st (fun t k => XS.aloadN X2.here hx rfl (hb hby d6_29) rfl rfl (XS.dup X2.here hx rfl (hb hby d6_30) rfl rfl k)) ?_
    show GoW p e below QQ (T2.setTop (mkF m 31 #[.val (.ref a1), .val (.long q1), .second, .unset] [(.ref a1), (.ref a1)]))
    obtain ⟨T23, X23, e23, st23⟩ := getF X2 hx hZ hown (host := "") (Or.inl (hw _ (List.mem_of_getElem? (i := 24) rfl))) Via.refl e2 pre_F_a1_size (g := (mkF m 31 #[.val (.ref a1), .val (.long q1), .second, .unset] [(.ref a1), (.ref a1)])) rfl rfl (hb hby d6_31)
    refine GoW.st st23 ?_
    show GoW p e below QQ (T23.setTop (mkF m 34 #[.val (.ref a1), .val (.long q1), .second, .unset] [(.int (1 : Int32)), (.ref a1)]))
    refine GoW.st (fun t k => XS.dupX1 X23.here hx rfl (hb hby d6_34) rfl rfl rfl (XS.iconst X23.here hx rfl (hb hby d6_35) (XS.iadd X23.here hx rfl (hb hby d6_36) rfl k))) ?_
    show GoW p e below QQ (T23.setTop (mkF m 37 #[.val (.ref a1), .val (.long q1), .second, .unset] [(.int (2 : Int32)), (.ref a1), (.int (1 : Int32))]))
    obtain ⟨T24, h24, X24, e24, W24, st24⟩ := putF X23 hx hZ hown (host := "") (Or.inl (hw _ (List.mem_of_getElem? (i := 24) rfl))) Via.refl e23 pre_F_a1_size pre_E_a1 (Or.inl (hw _ (List.mem_of_getElem? (i := 25) rfl))) (hw _ (List.mem_of_getElem? (i := 5) rfl)) (ty := .int) (by decide) rfl rfl (g := (mkF m 37 #[.val (.ref a1), .val (.long q1), .second, .unset] [(.int (2 : Int32)), (.ref a1), (.int (1 : Int32))])) rfl rfl (hb hby d6_37)
    refine GoW.st st24 ?_
    have f25_E_a1 : Exa Z h24 a1 "com/example/eunomia/eunomia/sticky/LongHeap" := pre_E_a1.wr W24
    have f25_F_a1_values : Fld Z h24 a1 "com/example/eunomia/eunomia/sticky/LongHeap" "values" "[J" (.ref a2) := pre_F_a1_values.other W24 (Or.inr (slot_ne (Or.inl (hw _ (List.mem_of_getElem? (i := 18) rfl))) (Or.inl (hw _ (List.mem_of_getElem? (i := 25) rfl))) (by decide) (t := (.array .long)) (t' := .int) (by decide) (by decide)))
    have f25_F_a1_size : Fld Z h24 a1 "com/example/eunomia/eunomia/sticky/LongHeap" "size" "I" (.int (2 : Int32)) := pre_F_a1_size.same W24
    have f25_V_a2 : Arv Z h24 a2 ka .long z [(.long va), (.long vb), (.long vc), (.long vd)] (.long (0 : Int64)) := pre_V_a2.other W24 pre_a2_a1
    have K24 : Keep h0 h24 [a1, a2] := K0.wr W24 (Or.inl (List.mem_of_getElem? (i := 0) rfl))
    have N24 := Fr.snoc X24 N0 pre_g_a1
    show GoW p e below QQ (T24.setTop (mkF m 40 #[.val (.ref a1), .val (.long q1), .second, .unset] [(.int (1 : Int32))]))
    refine GoW.st (fun t k => XS.istoreN X24.here hx rfl (hb hby d6_40) rfl (l' := #[.val (.ref a1), .val (.long q1), .second, .val (.int (1 : Int32))]) rfl (XS.iloadN X24.here hx rfl (hb hby d6_41) rfl k)) ?_
    show GoW p e below QQ (T24.setTop (mkF m 42 #[.val (.ref a1), .val (.long q1), .second, .val (.int (1 : Int32))] [(.int (1 : Int32))]))
    have hc42 : (0 : Int32) < (1 : Int32) := by decide
    refine GoW.st (fun t k => XS.ifNo X24.here hx rfl (hb hby d6_42) rfl ((if0 _ _).trans (tlt hc42).2.2.2) (XS.lloadN X24.here hx rfl (hb hby d6_45) rfl (XS.aloadN X24.here hx rfl (hb hby d6_46) rfl rfl k))) ?_
    show GoW p e below QQ (T24.setTop (mkF m 47 #[.val (.ref a1), .val (.long q1), .second, .val (.int (1 : Int32))] [(.ref a1), (.long q1)]))
    obtain ⟨T26, X26, e26, st26⟩ := getF X24 hx hZ hown (host := "") (Or.inl (hw _ (List.mem_of_getElem? (i := 17) rfl))) Via.refl e24 f25_F_a1_values (g := (mkF m 47 #[.val (.ref a1), .val (.long q1), .second, .val (.int (1 : Int32))] [(.ref a1), (.long q1)])) rfl rfl (hb hby d6_47)
    refine GoW.st st26 ?_
    show GoW p e below QQ (T26.setTop (mkF m 50 #[.val (.ref a1), .val (.long q1), .second, .val (.int (1 : Int32))] [(.ref a2), (.long q1)]))
    refine GoW.st (fun t k => XS.iloadN X26.here hx rfl (hb hby d6_50) rfl (XS.iconst X26.here hx rfl (hb hby d6_51) (XS.isub X26.here hx rfl (hb hby d6_52) rfl (XS.iconst X26.here hx rfl (hb hby d6_53) (XS.idiv X26.here hx rfl (hb hby d6_54) rfl (by decide) (ldVJ X26 hx hZ e26 f25_V_a2 (v := (.long va)) ⟨by decide, own_lt_of (by omega)⟩ rfl (g := (mkF m 55 #[.val (.ref a1), .val (.long q1), .second, .val (.int (1 : Int32))] [(.int (0 : Int32)), (.ref a2), (.long q1)])) rfl rfl (hb hby d6_55) t k)))))) ?_
    show GoW p e below QQ (T26.setTop (mkF m 56 #[.val (.ref a1), .val (.long q1), .second, .val (.int (1 : Int32))] [(.long va), (.long q1)]))
    refine GoW.st (fun t k => XS.lcmp X26.here hx rfl (hb hby d6_56) rfl k) ?_
    show GoW p e below QQ (T26.setTop (mkF m 57 #[.val (.ref a1), .val (.long q1), .second, .val (.int (1 : Int32))] [(.int (lcmpW q1 va))]))
    by_cases hc57 : q1 < va
    · skip
      refine GoW.st (fun t k => XS.ifNo X26.here hx rfl (hb hby d6_57) rfl ((if0 _ _).trans (tlt ((lw_lt q1 va).mpr hc57)).2.1) k) ?_
      show GoW p e below QQ (T26.setTop (mkF m 60 #[.val (.ref a1), .val (.long q1), .second, .val (.int (1 : Int32))] []))
      have hi57 : q1.toInt < va.toInt := (Int64.lt_iff_toInt_lt.mp hc57)
      refine GoW.st (fun t k => XS.aloadN X26.here hx rfl (hb hby d6_60) rfl rfl k) ?_
      show GoW p e below QQ (T26.setTop (mkF m 61 #[.val (.ref a1), .val (.long q1), .second, .val (.int (1 : Int32))] [(.ref a1)]))
      obtain ⟨T27, X27, e27, st27⟩ := getF X26 hx hZ hown (host := "") (Or.inl (hw _ (List.mem_of_getElem? (i := 17) rfl))) Via.refl e26 f25_F_a1_values (g := (mkF m 61 #[.val (.ref a1), .val (.long q1), .second, .val (.int (1 : Int32))] [(.ref a1)])) rfl rfl (hb hby d6_61)
      refine GoW.st st27 ?_
      show GoW p e below QQ (T27.setTop (mkF m 64 #[.val (.ref a1), .val (.long q1), .second, .val (.int (1 : Int32))] [(.ref a2)]))
      refine GoW.st (fun t k => XS.iloadN X27.here hx rfl (hb hby d6_64) rfl (XS.aloadN X27.here hx rfl (hb hby d6_65) rfl rfl k)) ?_
      show GoW p e below QQ (T27.setTop (mkF m 66 #[.val (.ref a1), .val (.long q1), .second, .val (.int (1 : Int32))] [(.ref a1), (.int (1 : Int32)), (.ref a2)]))
      obtain ⟨T28, X28, e28, st28⟩ := getF X27 hx hZ hown (host := "") (Or.inl (hw _ (List.mem_of_getElem? (i := 17) rfl))) Via.refl e27 f25_F_a1_values (g := (mkF m 66 #[.val (.ref a1), .val (.long q1), .second, .val (.int (1 : Int32))] [(.ref a1), (.int (1 : Int32)), (.ref a2)])) rfl rfl (hb hby d6_66)
      refine GoW.st st28 ?_
      show GoW p e below QQ (T28.setTop (mkF m 69 #[.val (.ref a1), .val (.long q1), .second, .val (.int (1 : Int32))] [(.ref a2), (.int (1 : Int32)), (.ref a2)]))
      refine GoW.st (fun t k => XS.iloadN X28.here hx rfl (hb hby d6_69) rfl (XS.iconst X28.here hx rfl (hb hby d6_70) (XS.isub X28.here hx rfl (hb hby d6_71) rfl (XS.iconst X28.here hx rfl (hb hby d6_72) (XS.idiv X28.here hx rfl (hb hby d6_73) rfl (by decide) (ldVJ X28 hx hZ e28 f25_V_a2 (v := (.long va)) ⟨by decide, own_lt_of (by omega)⟩ rfl (g := (mkF m 74 #[.val (.ref a1), .val (.long q1), .second, .val (.int (1 : Int32))] [(.int (0 : Int32)), (.ref a2), (.int (1 : Int32)), (.ref a2)])) rfl rfl (hb hby d6_74) t k)))))) ?_
      show GoW p e below QQ (T28.setTop (mkF m 75 #[.val (.ref a1), .val (.long q1), .second, .val (.int (1 : Int32))] [(.long va), (.int (1 : Int32)), (.ref a2)]))
      obtain ⟨T29, h29, X29, e29, W29, V29, st29⟩ := stVJ X28 hx hZ e28 f25_V_a2 ⟨by decide, own_lt_of (by omega)⟩ 1 rfl (Nat.le_of_ble_eq_true rfl) (g := (mkF m 75 #[.val (.ref a1), .val (.long q1), .second, .val (.int (1 : Int32))] [(.long va), (.int (1 : Int32)), (.ref a2)])) rfl rfl (hb hby d6_75)
      refine GoW.st st29 ?_
      have f30_E_a1 : Exa Z h29 a1 "com/example/eunomia/eunomia/sticky/LongHeap" := f25_E_a1.wr W29
      have f30_F_a1_values : Fld Z h29 a1 "com/example/eunomia/eunomia/sticky/LongHeap" "values" "[J" (.ref a2) := f25_F_a1_values.other W29 (Or.inl (Ne.symm pre_a2_a1))
      have f30_F_a1_size : Fld Z h29 a1 "com/example/eunomia/eunomia/sticky/LongHeap" "size" "I" (.int (2 : Int32)) := f25_F_a1_size.other W29 (Or.inl (Ne.symm pre_a2_a1))
      have f30_V_a2 : Arv Z h29 a2 ka .long z [(.long va), (.long va), (.long vc), (.long vd)] (.long (0 : Int64)) := V29
      have K29 : Keep h0 h29 [a1, a2] := K24.wr W29 (Or.inl (List.mem_of_getElem? (i := 1) rfl))
      have N29 := Fr.snoc X29 N24 pre_g_a2
      show GoW p e below QQ (T29.setTop (mkF m 76 #[.val (.ref a1), .val (.long q1), .second, .val (.int (1 : Int32))] []))
      refine GoW.st (fun t k => XS.iloadN X29.here hx rfl (hb hby d6_76) rfl (XS.iconst X29.here hx rfl (hb hby d6_77) (XS.isub X29.here hx rfl (hb hby d6_78) rfl (XS.iconst X29.here hx rfl (hb hby d6_79) (XS.idiv X29.here hx rfl (hb hby d6_80) rfl (by decide) (XS.istoreN X29.here hx rfl (hb hby d6_81) rfl (l' := #[.val (.ref a1), .val (.long q1), .second, .val (.int (0 : Int32))]) rfl k)))))) ?_
      show GoW p e below QQ (T29.setTop (mkF m 82 #[.val (.ref a1), .val (.long q1), .second, .val (.int (0 : Int32))] []))
      refine GoW.st (fun t k => XS.goto X29.here hx rfl (pc0 := 82) (pc' := 41) rfl (hb hby d6_82) (by decide) (by decide) (XS.iloadN X29.here hx rfl (hb hby d6_41) rfl k)) ?_
      show GoW p e below QQ (T29.setTop (mkF m 42 #[.val (.ref a1), .val (.long q1), .second, .val (.int (0 : Int32))] [(.int (0 : Int32))]))
      have hc42_2 : ¬ ((0 : Int32) < (0 : Int32)) := by decide
      refine GoW.st (fun t k => XS.ifYes X29.here hx rfl (pc0 := 42) (pc' := 85) rfl (hb hby d6_42) rfl ((if0 _ _).trans (flt hc42_2).2.2.2) (by decide) (by decide) (XS.aloadN X29.here hx rfl (hb hby d6_85) rfl rfl k)) ?_
      show GoW p e below QQ (T29.setTop (mkF m 86 #[.val (.ref a1), .val (.long q1), .second, .val (.int (0 : Int32))] [(.ref a1)]))
      obtain ⟨T31, X31, e31, st31⟩ := getF X29 hx hZ hown (host := "") (Or.inl (hw _ (List.mem_of_getElem? (i := 17) rfl))) Via.refl e29 f30_F_a1_values (g := (mkF m 86 #[.val (.ref a1), .val (.long q1), .second, .val (.int (0 : Int32))] [(.ref a1)])) rfl rfl (hb hby d6_86)
      refine GoW.st st31 ?_
      show GoW p e below QQ (T31.setTop (mkF m 89 #[.val (.ref a1), .val (.long q1), .second, .val (.int (0 : Int32))] [(.ref a2)]))
      refine GoW.st (fun t k => XS.iloadN X31.here hx rfl (hb hby d6_89) rfl (XS.lloadN X31.here hx rfl (hb hby d6_90) rfl k)) ?_
      show GoW p e below QQ (T31.setTop (mkF m 91 #[.val (.ref a1), .val (.long q1), .second, .val (.int (0 : Int32))] [(.long q1), (.int (0 : Int32)), (.ref a2)]))
      obtain ⟨T32, h32, X32, e32, W32, V32, st32⟩ := stVJ X31 hx hZ e31 f30_V_a2 ⟨by decide, own_lt_of (by omega)⟩ 0 rfl (Nat.le_of_ble_eq_true rfl) (g := (mkF m 91 #[.val (.ref a1), .val (.long q1), .second, .val (.int (0 : Int32))] [(.long q1), (.int (0 : Int32)), (.ref a2)])) rfl rfl (hb hby d6_91)
      refine GoW.st st32 ?_
      have f33_E_a1 : Exa Z h32 a1 "com/example/eunomia/eunomia/sticky/LongHeap" := f30_E_a1.wr W32
      have f33_F_a1_values : Fld Z h32 a1 "com/example/eunomia/eunomia/sticky/LongHeap" "values" "[J" (.ref a2) := f30_F_a1_values.other W32 (Or.inl (Ne.symm pre_a2_a1))
      have f33_F_a1_size : Fld Z h32 a1 "com/example/eunomia/eunomia/sticky/LongHeap" "size" "I" (.int (2 : Int32)) := f30_F_a1_size.other W32 (Or.inl (Ne.symm pre_a2_a1))
      have f33_V_a2 : Arv Z h32 a2 ka .long z [(.long q1), (.long va), (.long vc), (.long vd)] (.long (0 : Int64)) := V32
      have K32 : Keep h0 h32 [a1, a2] := K29.wr W32 (Or.inl (List.mem_of_getElem? (i := 1) rfl))
      have N32 := Fr.snoc X32 N29 pre_g_a2
      show GoW p e below QQ (T32.setTop (mkF m 92 #[.val (.ref a1), .val (.long q1), .second, .val (.int (0 : Int32))] []))
      exact GoW.fin X32 none (fun _ => rfl) hlk hQ e32 ⟨a2, ka, z, q1, va, vc, vd, rfl, N32, K32, f33_E_a1, f33_F_a1_values, f33_F_a1_size, pre_g_a2, pre_a2_a1, f33_V_a2, (by omega)⟩ (by decide) (by decide) (fun fs hr => X32.returnOut hx hret (hb hby d6_92) hr)
    · skip
      refine GoW.st (fun t k => XS.ifYes X26.here hx rfl (pc0 := 57) (pc' := 85) rfl (hb hby d6_57) rfl ((if0 _ _).trans (flt (fun q => hc57 ((lw_lt q1 va).mp q))).2.1) (by decide) (by decide) k) ?_
      show GoW p e below QQ (T26.setTop (mkF m 85 #[.val (.ref a1), .val (.long q1), .second, .val (.int (1 : Int32))] []))
      have hi57 : ¬ (q1.toInt < va.toInt) := (fun q => hc57 (Int64.lt_iff_toInt_lt.mpr q))
      refine GoW.st (fun t k => XS.aloadN X26.here hx rfl (hb hby d6_85) rfl rfl k) ?_
      show GoW p e below QQ (T26.setTop (mkF m 86 #[.val (.ref a1), .val (.long q1), .second, .val (.int (1 : Int32))] [(.ref a1)]))
      obtain ⟨T34, X34, e34, st34⟩ := getF X26 hx hZ hown (host := "") (Or.inl (hw _ (List.mem_of_getElem? (i := 17) rfl))) Via.refl e26 f25_F_a1_values (g := (mkF m 86 #[.val (.ref a1), .val (.long q1), .second, .val (.int (1 : Int32))] [(.ref a1)])) rfl rfl (hb hby d6_86)
      refine GoW.st st34 ?_
      show GoW p e below QQ (T34.setTop (mkF m 89 #[.val (.ref a1), .val (.long q1), .second, .val (.int (1 : Int32))] [(.ref a2)]))
      refine GoW.st (fun t k => XS.iloadN X34.here hx rfl (hb hby d6_89) rfl (XS.lloadN X34.here hx rfl (hb hby d6_90) rfl k)) ?_
      show GoW p e below QQ (T34.setTop (mkF m 91 #[.val (.ref a1), .val (.long q1), .second, .val (.int (1 : Int32))] [(.long q1), (.int (1 : Int32)), (.ref a2)]))
      obtain ⟨T35, h35, X35, e35, W35, V35, st35⟩ := stVJ X34 hx hZ e34 f25_V_a2 ⟨by decide, own_lt_of (by omega)⟩ 1 rfl (Nat.le_of_ble_eq_true rfl) (g := (mkF m 91 #[.val (.ref a1), .val (.long q1), .second, .val (.int (1 : Int32))] [(.long q1), (.int (1 : Int32)), (.ref a2)])) rfl rfl (hb hby d6_91)
      refine GoW.st st35 ?_
      have f36_E_a1 : Exa Z h35 a1 "com/example/eunomia/eunomia/sticky/LongHeap" := f25_E_a1.wr W35
      have f36_F_a1_values : Fld Z h35 a1 "com/example/eunomia/eunomia/sticky/LongHeap" "values" "[J" (.ref a2) := f25_F_a1_values.other W35 (Or.inl (Ne.symm pre_a2_a1))
      have f36_F_a1_size : Fld Z h35 a1 "com/example/eunomia/eunomia/sticky/LongHeap" "size" "I" (.int (2 : Int32)) := f25_F_a1_size.other W35 (Or.inl (Ne.symm pre_a2_a1))
      have f36_V_a2 : Arv Z h35 a2 ka .long z [(.long va), (.long q1), (.long vc), (.long vd)] (.long (0 : Int64)) := V35
      have K35 : Keep h0 h35 [a1, a2] := K24.wr W35 (Or.inl (List.mem_of_getElem? (i := 1) rfl))
      have N35 := Fr.snoc X35 N24 pre_g_a2
      show GoW p e below QQ (T35.setTop (mkF m 92 #[.val (.ref a1), .val (.long q1), .second, .val (.int (1 : Int32))] []))
      exact GoW.fin X35 none (fun _ => rfl) hlk hQ e35 ⟨a2, ka, z, va, q1, vc, vd, rfl, N35, K35, f36_E_a1, f36_F_a1_values, f36_F_a1_size, pre_g_a2, pre_a2_a1, f36_V_a2, (by omega)⟩ (by decide) (by decide) (fun fs hr => X35.returnOut hx hret (hb hby d6_92) hr)
def RM6_2 : Room := { frames := 2, cells := 1, slots := 4, locals := 79 }
def Q6_2 (Z : State) (a1 : Addr) (q1 : Int64) (a2 : Addr) (ka : ClassId) (z : Int32) (va : Int64) (vb : Int64) (vc : Int64) (vd : Int64) (h0 : Heap) (n0 : Nat) (v : Option Value) (h : Heap) (L : List Loc) : Prop := ∃ (b : Addr) (kb : ClassId) (zz : Int32) (wa : Int64) (wb : Int64) (wc : Int64) (wd : Int64), v = none ∧ Fr n0 L ∧ Keep h0 h [a1, a2] ∧ (Exa Z h a1 "com/example/eunomia/eunomia/sticky/LongHeap") ∧ (Fld Z h a1 "com/example/eunomia/eunomia/sticky/LongHeap" "values" "[J" (.ref b)) ∧ (Fld Z h a1 "com/example/eunomia/eunomia/sticky/LongHeap" "size" "I" (.int (3 : Int32))) ∧ (n0 ≤ b) ∧ (b ≠ a1) ∧ (Arv Z h b kb .long zz [(.long wa), (.long wb), (.long wc), (.long wd)] (.long (0 : Int64))) ∧ (1 ≤ zz.toInt ∧ 3 ≤ zz.toInt ∧ zz.toInt ≤ 8)
set_option maxRecDepth 65536 in
set_option maxHeartbeats 40000000 in
theorem rm6_2 (l : Launch) (Z : State) (a0 : Array Value) (hw : ∀ d ∈ tables_1, d.before a0 Z = true) (ws : List Jvm.Cond) (a1 : Addr) (q1 : Int64) (a2 : Addr) (ka : ClassId) (z : Int32) (va : Int64) (vb : Int64) (vc : Int64) (vd : Int64) (h0 : Heap) (n0 : Nat) (Z0 : n0 ≤ h0.size) (pre_E_a1 : Exa Z h0 a1 "com/example/eunomia/eunomia/sticky/LongHeap") (pre_g_a1 : n0 ≤ a1) (pre_g_a2 : n0 ≤ a2) (pre_a2_a1 : a2 ≠ a1) (pre_F_a1_values : Fld Z h0 a1 "com/example/eunomia/eunomia/sticky/LongHeap" "values" "[J" (.ref a2)) (pre_F_a1_size : Fld Z h0 a1 "com/example/eunomia/eunomia/sticky/LongHeap" "size" "I" (.int (2 : Int32))) (pre_V_a2 : Arv Z h0 a2 ka .long z [(.long va), (.long vb), (.long vc), (.long vd)] (.long (0 : Int64))) (hz : 1 ≤ z.toInt ∧ 2 ≤ z.toInt ∧ z.toInt ≤ 8) :
    MetFree l (⟨"com/example/eunomia/eunomia/sticky/LongHeap", "add", "(J)V"⟩ : MethodName) (head1 (Jvm.Cond.code (⟨"com/example/eunomia/eunomia/sticky/LongHeap", "add", "(J)V"⟩ : MethodName) prog_40_method_4_code 4 none :: ws) RM6_2) (fun a U => a = #[(.ref a1), (.long q1)] ∧ Z.Warmed39 U.vm ∧ U.heap = h0) (fun _ _ _ _ _ => True) (fun _ U o U' => ∃ v L, o = .returned v ∧ Q6_2 Z a1 q1 a2 ka z va vb vc vd h0 n0 v U'.heap L ∧ FrameEnd U o U' L RM6_2.cells RM6_2.slots) := by
  refine met_of (Q := fun v h L => Q6_2 Z a1 q1 a2 ka z va vb vc vd h0 n0 v h L) (plainFor_of_name pn_0) (fun m => by first | (simp [entryFrame, mkF, argsToLocals, Value.category]; done) | rfl) (Ls := #[.val (.ref a1), .val (.long q1), .second, .unset]) ?_
  intro p e s m below meth c T0 QQ hx hZ hby hml hown hnm hret hlk X0 e0 hQ
  have hml : c.maxLocals = 4 := hml
  have hown : s.vm.findClass "com/example/eunomia/eunomia/sticky/LongHeap" = some m.cls := hown
  have hnm : meth.name = "add" := hnm
  have hret : meth.sig.returnType = none := hret
  have N0 := Fr.nil n0
  have K0 : Keep h0 h0 [a1, a2] := Keep.refl h0 _
  show GoW p e below QQ (T0.setTop (mkF m 0 #[.val (.ref a1), .val (.long q1), .second, .unset] []))
  have z0 : (0 : Int32).toInt = 0 := rfl
  have z1 : (1 : Int32).toInt = 1 := rfl
  have z2 : (2 : Int32).toInt = 2 := rfl
  have z3 : (3 : Int32).toInt = 3 := rfl
  have z4 : (4 : Int32).toInt = 4 := rfl
  have z6 : (6 : Int32).toInt = 6 := rfl
  refine GoW.st (fun t k => XS.aloadN X0.here hx rfl (hb hby d6_0) rfl rfl k) ?_
  show GoW p e below QQ (T0.setTop (mkF m 1 #[.val (.ref a1), .val (.long q1), .second, .unset] [(.ref a1)]))
  obtain ⟨T1, X1, e1, st1⟩ := getF X0 hx hZ hown (host := "") (Or.inl (hw _ (List.mem_of_getElem? (i := 24) rfl))) Via.refl e0 pre_F_a1_size (g := (mkF m 1 #[.val (.ref a1), .val (.long q1), .second, .unset] [(.ref a1)])) rfl rfl (hb hby d6_1)
  refine GoW.st st1 ?_
  show GoW p e below QQ (T1.setTop (mkF m 4 #[.val (.ref a1), .val (.long q1), .second, .unset] [(.int (2 : Int32))]))
  refine GoW.st (fun t k => XS.aloadN X1.here hx rfl (hb hby d6_4) rfl rfl k) ?_
  show GoW p e below QQ (T1.setTop (mkF m 5 #[.val (.ref a1), .val (.long q1), .second, .unset] [(.ref a1), (.int (2 : Int32))]))
  obtain ⟨T2, X2, e2, st2⟩ := getF X1 hx hZ hown (host := "") (Or.inl (hw _ (List.mem_of_getElem? (i := 17) rfl))) Via.refl e1 pre_F_a1_values (g := (mkF m 5 #[.val (.ref a1), .val (.long q1), .second, .unset] [(.ref a1), (.int (2 : Int32))])) rfl rfl (hb hby d6_5)
  refine GoW.st st2 ?_
  show GoW p e below QQ (T2.setTop (mkF m 8 #[.val (.ref a1), .val (.long q1), .second, .unset] [(.ref a2), (.int (2 : Int32))]))
  refine GoW.st (fun t k => lnV X2 hx hZ e2 pre_V_a2 (g := (mkF m 8 #[.val (.ref a1), .val (.long q1), .second, .unset] [(.ref a2), (.int (2 : Int32))])) rfl rfl (hb hby d6_8) t k) ?_
  show GoW p e below QQ (T2.setTop (mkF m 9 #[.val (.ref a1), .val (.long q1), .second, .unset] [(.int z), (.int (2 : Int32))]))
  by_cases hc9 : (2 : Int32) = z
  · skip
    refine GoW.st (fun t k => XS.icmpNo X2.here hx rfl (hb hby d6_9) rfl (teq hc9).2 k) ?_
    show GoW p e below QQ (T2.setTop (mkF m 12 #[.val (.ref a1), .val (.long q1), .second, .unset] []))
    have hi9 : 2 = z.toInt := (congrArg Int32.toInt hc9)
    subst hc9
    refine GoW.st (fun t k => XS.aloadN X2.here hx rfl (hb hby d6_12) rfl rfl (XS.aloadN X2.here hx rfl (hb hby d6_13) rfl rfl k)) ?_
    show GoW p e below QQ (T2.setTop (mkF m 14 #[.val (.ref a1), .val (.long q1), .second, .unset] [(.ref a1), (.ref a1)]))
    obtain ⟨T3, X3, e3, st3⟩ := getF X2 hx hZ hown (host := "") (Or.inl (hw _ (List.mem_of_getElem? (i := 17) rfl))) Via.refl e2 pre_F_a1_values (g := (mkF m 14 #[.val (.ref a1), .val (.long q1), .second, .unset] [(.ref a1), (.ref a1)])) rfl rfl (hb hby d6_14)
    refine GoW.st st3 ?_
    show GoW p e below QQ (T3.setTop (mkF m 17 #[.val (.ref a1), .val (.long q1), .second, .unset] [(.ref a2), (.ref a1)]))
    refine GoW.st (fun t k => XS.iconst X3.here hx rfl (hb hby d6_17) (XS.aloadN X3.here hx rfl (hb hby d6_18) rfl rfl k)) ?_
    show GoW p e below QQ (T3.setTop (mkF m 19 #[.val (.ref a1), .val (.long q1), .second, .unset] [(.ref a1), (.int (2 : Int32)), (.ref a2), (.ref a1)]))
    obtain ⟨T4, X4, e4, st4⟩ := getF X3 hx hZ hown (host := "") (Or.inl (hw _ (List.mem_of_getElem? (i := 24) rfl))) Via.refl e3 pre_F_a1_size (g := (mkF m 19 #[.val (.ref a1), .val (.long q1), .second, .unset] [(.ref a1), (.int (2 : Int32)), (.ref a2), (.ref a1)])) rfl rfl (hb hby d6_19)
    refine GoW.st st4 ?_
    show GoW p e below QQ (T4.setTop (mkF m 22 #[.val (.ref a1), .val (.long q1), .second, .unset] [(.int (2 : Int32)), (.int (2 : Int32)), (.ref a2), (.ref a1)]))
    refine GoW.st (fun t k => XS.imul X4.here hx rfl (hb hby d6_22) rfl k) ?_
    show GoW p e below QQ (T4.setTop (mkF m 23 #[.val (.ref a1), .val (.long q1), .second, .unset] [(.int (4 : Int32)), (.ref a2), (.ref a1)]))
    obtain ⟨_, _, ⟨T5, zL5, zk5, zn5⟩, -, X5, ⟨Lc5, hQ5, zl5, zy5, zz5⟩, st5⟩ := Jvm.LawKit.callS X4 hx (y := (⟨"java/util/Arrays", "copyOf", "([JI)[J"⟩ : MethodName)) hown (mvT hZ (hw _ (List.mem_of_getElem? (i := 31) rfl))) (mvT hZ (hw _ (List.mem_of_getElem? (i := 32) rfl))) (mvT hZ (hw _ (List.mem_of_getElem? (i := 33) rfl))) (mvT hZ (hw _ (List.mem_of_getElem? (i := 34) rfl))) (by decide) (backOf (W := 1) (rm7_2 l Z a0 hw [] a2 ka va vb vc vd h0 n0 (Nat.le_trans Z0 K0.1) pre_V_a2) hZ (hw _ (List.mem_of_getElem? (i := 34) rfl)) (hw _ (List.mem_of_getElem? (i := 33) rfl)) (by decide) (by decide)) (g := (mkF m 23 #[.val (.ref a1), .val (.long q1), .second, .unset] [(.int (4 : Int32)), (.ref a2), (.ref a1)])) rfl (by rw [hml]; rfl) (argsL := [(.ref a2), (.int (4 : Int32))]) (rest := [(.ref a1)]) (lenOf pd_1 rfl) rfl (by show 2 * 0 + _ ≤ _; exact Nat.le_of_eq rfl) (hb hby d6_23) (fun _ _ => ⟨rfl, e4, (by decide : 0 + 1 ≤ _), (by decide : 0 + 4 ≤ _)⟩)
    dsimp only [Pt.U, Pt.locs, Pt.cells, Pt.slots] at X5 zl5 zy5 zz5 st5 hQ5
    subst zl5 zy5 zz5
    obtain ⟨b_23, kb_23, rfl, Nq5, Kq5, p5_0, p5_1⟩ := hQ5
    have N5 := Fr.app N0 Nq5
    refine GoW.st st5 ?_
    have ne5_a1_b_23 : a1 ≠ b_23 := Nat.ne_of_lt (Nat.lt_of_lt_of_le pre_E_a1.lt p5_0)
    have ne5_a2_b_23 : a2 ≠ b_23 := Nat.ne_of_lt (Nat.lt_of_lt_of_le pre_V_a2.lt p5_0)
    have sz5_b_23 : h0.size ≤ b_23 := Nat.le_trans K0.1 p5_0
    have gg5_b_23 : n0 ≤ b_23 := Nat.le_trans Z0 sz5_b_23
    have f6_E_a1 : Exa Z T5.heap a1 "com/example/eunomia/eunomia/sticky/LongHeap" := pre_E_a1.keep Kq5
    have f6_F_a1_values : Fld Z T5.heap a1 "com/example/eunomia/eunomia/sticky/LongHeap" "values" "[J" (.ref a2) := pre_F_a1_values.keep Kq5 nin0
    have f6_F_a1_size : Fld Z T5.heap a1 "com/example/eunomia/eunomia/sticky/LongHeap" "size" "I" (.int (2 : Int32)) := pre_F_a1_size.keep Kq5 nin0
    have f6_V_a2 : Arv Z T5.heap a2 ka .long (2 : Int32) [(.long va), (.long vb), (.long vc), (.long vd)] (.long (0 : Int64)) := pre_V_a2.keep Kq5 nin0
    have K5 : Keep h0 T5.heap [a1, a2] := K0.trans Kq5 all0
    show GoW p e below QQ (T5.setTop (mkF m 26 #[.val (.ref a1), .val (.long q1), .second, .unset] [(.ref b_23), (.ref a1)]))
    obtain ⟨T7, h7, X7, e7, W7, st7⟩ := putF X5 hx hZ hown (host := "") (Or.inl (hw _ (List.mem_of_getElem? (i := 17) rfl))) Via.refl rfl f6_F_a1_values f6_E_a1 (Or.inl (hw _ (List.mem_of_getElem? (i := 18) rfl))) (hw _ (List.mem_of_getElem? (i := 5) rfl)) (ty := (.array .long)) (by decide) rfl rfl (g := (mkF m 26 #[.val (.ref a1), .val (.long q1), .second, .unset] [(.ref b_23), (.ref a1)])) rfl rfl (hb hby d6_26)
    refine GoW.st st7 ?_
    have f8_E_a1 : Exa Z h7 a1 "com/example/eunomia/eunomia/sticky/LongHeap" := f6_E_a1.wr W7
    have f8_F_a1_values : Fld Z h7 a1 "com/example/eunomia/eunomia/sticky/LongHeap" "values" "[J" (.ref b_23) := f6_F_a1_values.same W7
    have f8_F_a1_size : Fld Z h7 a1 "com/example/eunomia/eunomia/sticky/LongHeap" "size" "I" (.int (2 : Int32)) := f6_F_a1_size.other W7 (Or.inr (slot_ne (Or.inl (hw _ (List.mem_of_getElem? (i := 25) rfl))) (Or.inl (hw _ (List.mem_of_getElem? (i := 18) rfl))) (by decide) (t := .int) (t' := (.array .long)) (by decide) (by decide)))
    have f8_V_a2 : Arv Z h7 a2 ka .long (2 : Int32) [(.long va), (.long vb), (.long vc), (.long vd)] (.long (0 : Int64)) := f6_V_a2.other W7 pre_a2_a1
    have f8_V_b_23 : Arv Z h7 b_23 kb_23 .long (4 : Int32) [(.long va), (.long vb), (.long (0 : Int64)), (.long (0 : Int64))] (.long (0 : Int64)) := p5_1.other W7 (Ne.symm ne5_a1_b_23)
    have K7 : Keep h0 h7 [a1, a2] := K5.wr W7 (Or.inl (List.mem_of_getElem? (i := 0) rfl))
    have N7 := Fr.snoc X7 N5 pre_g_a1
    show GoW p e below QQ (T7.setTop (mkF m 29 #[.val (.ref a1), .val (.long q1), .second, .unset] []))
    refine GoW.st (fun t k => XS.aloadN X7.here hx rfl (hb hby d6_29) rfl rfl (XS.dup X7.here hx rfl (hb hby d6_30) rfl rfl k)) ?_
    show GoW p e below QQ (T7.setTop (mkF m 31 #[.val (.ref a1), .val (.long q1), .second, .unset] [(.ref a1), (.ref a1)]))
    obtain ⟨T9, X9, e9, st9⟩ := getF X7 hx hZ hown (host := "") (Or.inl (hw _ (List.mem_of_getElem? (i := 24) rfl))) Via.refl e7 f8_F_a1_size (g := (mkF m 31 #[.val (.ref a1), .val (.long q1), .second, .unset] [(.ref a1), (.ref a1)])) rfl rfl (hb hby d6_31)
    refine GoW.st st9 ?_
    show GoW p e below QQ (T9.setTop (mkF m 34 #[.val (.ref a1), .val (.long q1), .second, .unset] [(.int (2 : Int32)), (.ref a1)]))
    refine GoW.st (fun t k => XS.dupX1 X9.here hx rfl (hb hby d6_34) rfl rfl rfl (XS.iconst X9.here hx rfl (hb hby d6_35) (XS.iadd X9.here hx rfl (hb hby d6_36) rfl k))) ?_
    show GoW p e below QQ (T9.setTop (mkF m 37 #[.val (.ref a1), .val (.long q1), .second, .unset] [(.int (3 : Int32)), (.ref a1), (.int (2 : Int32))]))
    obtain ⟨T10, h10, X10, e10, W10, st10⟩ := putF X9 hx hZ hown (host := "") (Or.inl (hw _ (List.mem_of_getElem? (i := 24) rfl))) Via.refl e9 f8_F_a1_size f8_E_a1 (Or.inl (hw _ (List.mem_of_getElem? (i := 25) rfl))) (hw _ (List.mem_of_getElem? (i := 5) rfl)) (ty := .int) (by decide) rfl rfl (g := (mkF m 37 #[.val (.ref a1), .val (.long q1), .second, .unset] [(.int (3 : Int32)), (.ref a1), (.int (2 : Int32))])) rfl rfl (hb hby d6_37)
    refine GoW.st st10 ?_
    have f11_E_a1 : Exa Z h10 a1 "com/example/eunomia/eunomia/sticky/LongHeap" := f8_E_a1.wr W10
    have f11_F_a1_values : Fld Z h10 a1 "com/example/eunomia/eunomia/sticky/LongHeap" "values" "[J" (.ref b_23) := f8_F_a1_values.other W10 (Or.inr (slot_ne (Or.inl (hw _ (List.mem_of_getElem? (i := 18) rfl))) (Or.inl (hw _ (List.mem_of_getElem? (i := 25) rfl))) (by decide) (t := (.array .long)) (t' := .int) (by decide) (by decide)))
    have f11_F_a1_size : Fld Z h10 a1 "com/example/eunomia/eunomia/sticky/LongHeap" "size" "I" (.int (3 : Int32)) := f8_F_a1_size.same W10
    have f11_V_b_23 : Arv Z h10 b_23 kb_23 .long (4 : Int32) [(.long va), (.long vb), (.long (0 : Int64)), (.long (0 : Int64))] (.long (0 : Int64)) := f8_V_b_23.other W10 (Ne.symm ne5_a1_b_23)
    have K10 : Keep h0 h10 [a1, a2] := K7.wr W10 (Or.inl (List.mem_of_getElem? (i := 0) rfl))
    have N10 := Fr.snoc X10 N7 pre_g_a1
    show GoW p e below QQ (T10.setTop (mkF m 40 #[.val (.ref a1), .val (.long q1), .second, .unset] [(.int (2 : Int32))]))
    refine GoW.st (fun t k => XS.istoreN X10.here hx rfl (hb hby d6_40) rfl (l' := #[.val (.ref a1), .val (.long q1), .second, .val (.int (2 : Int32))]) rfl (XS.iloadN X10.here hx rfl (hb hby d6_41) rfl k)) ?_
    show GoW p e below QQ (T10.setTop (mkF m 42 #[.val (.ref a1), .val (.long q1), .second, .val (.int (2 : Int32))] [(.int (2 : Int32))]))
    have hc42 : (0 : Int32) < (2 : Int32) := by decide
    refine GoW.st (fun t k => XS.ifNo X10.here hx rfl (hb hby d6_42) rfl ((if0 _ _).trans (tlt hc42).2.2.2) (XS.lloadN X10.here hx rfl (hb hby d6_45) rfl (XS.aloadN X10.here hx rfl (hb hby d6_46) rfl rfl k))) ?_
    show GoW p e below QQ (T10.setTop (mkF m 47 #[.val (.ref a1), .val (.long q1), .second, .val (.int (2 : Int32))] [(.ref a1), (.long q1)]))
    obtain ⟨T12, X12, e12, st12⟩ := getF X10 hx hZ hown (host := "") (Or.inl (hw _ (List.mem_of_getElem? (i := 17) rfl))) Via.refl e10 f11_F_a1_values (g := (mkF m 47 #[.val (.ref a1), .val (.long q1), .second, .val (.int (2 : Int32))] [(.ref a1), (.long q1)])) rfl rfl (hb hby d6_47)
    refine GoW.st st12 ?_
    show GoW p e below QQ (T12.setTop (mkF m 50 #[.val (.ref a1), .val (.long q1), .second, .val (.int (2 : Int32))] [(.ref b_23), (.long q1)]))
    refine GoW.st (fun t k => XS.iloadN X12.here hx rfl (hb hby d6_50) rfl (XS.iconst X12.here hx rfl (hb hby d6_51) (XS.isub X12.here hx rfl (hb hby d6_52) rfl (XS.iconst X12.here hx rfl (hb hby d6_53) (XS.idiv X12.here hx rfl (hb hby d6_54) rfl (by decide) (ldVJ X12 hx hZ e12 f11_V_b_23 (v := (.long va)) ⟨by decide, by decide⟩ rfl (g := (mkF m 55 #[.val (.ref a1), .val (.long q1), .second, .val (.int (2 : Int32))] [(.int (0 : Int32)), (.ref b_23), (.long q1)])) rfl rfl (hb hby d6_55) t k)))))) ?_
    show GoW p e below QQ (T12.setTop (mkF m 56 #[.val (.ref a1), .val (.long q1), .second, .val (.int (2 : Int32))] [(.long va), (.long q1)]))
    refine GoW.st (fun t k => XS.lcmp X12.here hx rfl (hb hby d6_56) rfl k) ?_
    show GoW p e below QQ (T12.setTop (mkF m 57 #[.val (.ref a1), .val (.long q1), .second, .val (.int (2 : Int32))] [(.int (lcmpW q1 va))]))
    by_cases hc57 : q1 < va
    · skip
      refine GoW.st (fun t k => XS.ifNo X12.here hx rfl (hb hby d6_57) rfl ((if0 _ _).trans (tlt ((lw_lt q1 va).mpr hc57)).2.1) k) ?_
      show GoW p e below QQ (T12.setTop (mkF m 60 #[.val (.ref a1), .val (.long q1), .second, .val (.int (2 : Int32))] []))
      have hi57 : q1.toInt < va.toInt := (Int64.lt_iff_toInt_lt.mp hc57)
      refine GoW.st (fun t k => XS.aloadN X12.here hx rfl (hb hby d6_60) rfl rfl k) ?_
      show GoW p e below QQ (T12.setTop (mkF m 61 #[.val (.ref a1), .val (.long q1), .second, .val (.int (2 : Int32))] [(.ref a1)]))
      obtain ⟨T13, X13, e13, st13⟩ := getF X12 hx hZ hown (host := "") (Or.inl (hw _ (List.mem_of_getElem? (i := 17) rfl))) Via.refl e12 f11_F_a1_values (g := (mkF m 61 #[.val (.ref a1), .val (.long q1), .second, .val (.int (2 : Int32))] [(.ref a1)])) rfl rfl (hb hby d6_61)
      refine GoW.st st13 ?_
      show GoW p e below QQ (T13.setTop (mkF m 64 #[.val (.ref a1), .val (.long q1), .second, .val (.int (2 : Int32))] [(.ref b_23)]))
      refine GoW.st (fun t k => XS.iloadN X13.here hx rfl (hb hby d6_64) rfl (XS.aloadN X13.here hx rfl (hb hby d6_65) rfl rfl k)) ?_
      show GoW p e below QQ (T13.setTop (mkF m 66 #[.val (.ref a1), .val (.long q1), .second, .val (.int (2 : Int32))] [(.ref a1), (.int (2 : Int32)), (.ref b_23)]))
      obtain ⟨T14, X14, e14, st14⟩ := getF X13 hx hZ hown (host := "") (Or.inl (hw _ (List.mem_of_getElem? (i := 17) rfl))) Via.refl e13 f11_F_a1_values (g := (mkF m 66 #[.val (.ref a1), .val (.long q1), .second, .val (.int (2 : Int32))] [(.ref a1), (.int (2 : Int32)), (.ref b_23)])) rfl rfl (hb hby d6_66)
      refine GoW.st st14 ?_
      show GoW p e below QQ (T14.setTop (mkF m 69 #[.val (.ref a1), .val (.long q1), .second, .val (.int (2 : Int32))] [(.ref b_23), (.int (2 : Int32)), (.ref b_23)]))
      refine GoW.st (fun t k => XS.iloadN X14.here hx rfl (hb hby d6_69) rfl (XS.iconst X14.here hx rfl (hb hby d6_70) (XS.isub X14.here hx rfl (hb hby d6_71) rfl (XS.iconst X14.here hx rfl (hb hby d6_72) (XS.idiv X14.here hx rfl (hb hby d6_73) rfl (by decide) (ldVJ X14 hx hZ e14 f11_V_b_23 (v := (.long va)) ⟨by decide, by decide⟩ rfl (g := (mkF m 74 #[.val (.ref a1), .val (.long q1), .second, .val (.int (2 : Int32))] [(.int (0 : Int32)), (.ref b_23), (.int (2 : Int32)), (.ref b_23)])) rfl rfl (hb hby d6_74) t k)))))) ?_
      show GoW p e below QQ (T14.setTop (mkF m 75 #[.val (.ref a1), .val (.long q1), .second, .val (.int (2 : Int32))] [(.long va), (.int (2 : Int32)), (.ref b_23)]))
      obtain ⟨T15, h15, X15, e15, W15, V15, st15⟩ := stVJ X14 hx hZ e14 f11_V_b_23 ⟨by decide, by decide⟩ 2 rfl (Nat.le_of_ble_eq_true rfl) (g := (mkF m 75 #[.val (.ref a1), .val (.long q1), .second, .val (.int (2 : Int32))] [(.long va), (.int (2 : Int32)), (.ref b_23)])) rfl rfl (hb hby d6_75)
      refine GoW.st st15 ?_
      have f16_E_a1 : Exa Z h15 a1 "com/example/eunomia/eunomia/sticky/LongHeap" := f11_E_a1.wr W15
      have f16_F_a1_values : Fld Z h15 a1 "com/example/eunomia/eunomia/sticky/LongHeap" "values" "[J" (.ref b_23) := f11_F_a1_values.other W15 (Or.inl ne5_a1_b_23)
      have f16_F_a1_size : Fld Z h15 a1 "com/example/eunomia/eunomia/sticky/LongHeap" "size" "I" (.int (3 : Int32)) := f11_F_a1_size.other W15 (Or.inl ne5_a1_b_23)
      have f16_V_b_23 : Arv Z h15 b_23 kb_23 .long (4 : Int32) [(.long va), (.long vb), (.long va), (.long (0 : Int64))] (.long (0 : Int64)) := V15
      have K15 : Keep h0 h15 [a1, a2] := K10.wr W15 (Or.inr sz5_b_23)
      have N15 := Fr.snoc X15 N10 gg5_b_23
      show GoW p e below QQ (T15.setTop (mkF m 76 #[.val (.ref a1), .val (.long q1), .second, .val (.int (2 : Int32))] []))
      refine GoW.st (fun t k => XS.iloadN X15.here hx rfl (hb hby d6_76) rfl (XS.iconst X15.here hx rfl (hb hby d6_77) (XS.isub X15.here hx rfl (hb hby d6_78) rfl (XS.iconst X15.here hx rfl (hb hby d6_79) (XS.idiv X15.here hx rfl (hb hby d6_80) rfl (by decide) (XS.istoreN X15.here hx rfl (hb hby d6_81) rfl (l' := #[.val (.ref a1), .val (.long q1), .second, .val (.int (0 : Int32))]) rfl k)))))) ?_
      show GoW p e below QQ (T15.setTop (mkF m 82 #[.val (.ref a1), .val (.long q1), .second, .val (.int (0 : Int32))] []))
      refine GoW.st (fun t k => XS.goto X15.here hx rfl (pc0 := 82) (pc' := 41) rfl (hb hby d6_82) (by decide) (by decide) (XS.iloadN X15.here hx rfl (hb hby d6_41) rfl k)) ?_
      show GoW p e below QQ (T15.setTop (mkF m 42 #[.val (.ref a1), .val (.long q1), .second, .val (.int (0 : Int32))] [(.int (0 : Int32))]))
      have hc42_2 : ¬ ((0 : Int32) < (0 : Int32)) := by decide
      refine GoW.st (fun t k => XS.ifYes X15.here hx rfl (pc0 := 42) (pc' := 85) rfl (hb hby d6_42) rfl ((if0 _ _).trans (flt hc42_2).2.2.2) (by decide) (by decide) (XS.aloadN X15.here hx rfl (hb hby d6_85) rfl rfl k)) ?_
      show GoW p e below QQ (T15.setTop (mkF m 86 #[.val (.ref a1), .val (.long q1), .second, .val (.int (0 : Int32))] [(.ref a1)]))
      obtain ⟨T17, X17, e17, st17⟩ := getF X15 hx hZ hown (host := "") (Or.inl (hw _ (List.mem_of_getElem? (i := 17) rfl))) Via.refl e15 f16_F_a1_values (g := (mkF m 86 #[.val (.ref a1), .val (.long q1), .second, .val (.int (0 : Int32))] [(.ref a1)])) rfl rfl (hb hby d6_86)
      refine GoW.st st17 ?_
      show GoW p e below QQ (T17.setTop (mkF m 89 #[.val (.ref a1), .val (.long q1), .second, .val (.int (0 : Int32))] [(.ref b_23)]))
      refine GoW.st (fun t k => XS.iloadN X17.here hx rfl (hb hby d6_89) rfl (XS.lloadN X17.here hx rfl (hb hby d6_90) rfl k)) ?_
      show GoW p e below QQ (T17.setTop (mkF m 91 #[.val (.ref a1), .val (.long q1), .second, .val (.int (0 : Int32))] [(.long q1), (.int (0 : Int32)), (.ref b_23)]))
      obtain ⟨T18, h18, X18, e18, W18, V18, st18⟩ := stVJ X17 hx hZ e17 f16_V_b_23 ⟨by decide, by decide⟩ 0 rfl (Nat.le_of_ble_eq_true rfl) (g := (mkF m 91 #[.val (.ref a1), .val (.long q1), .second, .val (.int (0 : Int32))] [(.long q1), (.int (0 : Int32)), (.ref b_23)])) rfl rfl (hb hby d6_91)
      refine GoW.st st18 ?_
      have f19_E_a1 : Exa Z h18 a1 "com/example/eunomia/eunomia/sticky/LongHeap" := f16_E_a1.wr W18
      have f19_F_a1_values : Fld Z h18 a1 "com/example/eunomia/eunomia/sticky/LongHeap" "values" "[J" (.ref b_23) := f16_F_a1_values.other W18 (Or.inl ne5_a1_b_23)
      have f19_F_a1_size : Fld Z h18 a1 "com/example/eunomia/eunomia/sticky/LongHeap" "size" "I" (.int (3 : Int32)) := f16_F_a1_size.other W18 (Or.inl ne5_a1_b_23)
      have f19_V_b_23 : Arv Z h18 b_23 kb_23 .long (4 : Int32) [(.long q1), (.long vb), (.long va), (.long (0 : Int64))] (.long (0 : Int64)) := V18
      have K18 : Keep h0 h18 [a1, a2] := K15.wr W18 (Or.inr sz5_b_23)
      have N18 := Fr.snoc X18 N15 gg5_b_23
      show GoW p e below QQ (T18.setTop (mkF m 92 #[.val (.ref a1), .val (.long q1), .second, .val (.int (0 : Int32))] []))
      exact GoW.fin X18 none (fun _ => rfl) hlk hQ e18 ⟨b_23, kb_23, (4 : Int32), q1, vb, va, (0 : Int64), rfl, N18, K18, f19_E_a1, f19_F_a1_values, f19_F_a1_size, gg5_b_23, (Ne.symm ne5_a1_b_23), f19_V_b_23, (by omega)⟩ (by decide) (by decide) (fun fs hr => X18.returnOut hx hret (hb hby d6_92) hr)
    · skip
      refine GoW.st (fun t k => XS.ifYes X12.here hx rfl (pc0 := 57) (pc' := 85) rfl (hb hby d6_57) rfl ((if0 _ _).trans (flt (fun q => hc57 ((lw_lt q1 va).mp q))).2.1) (by decide) (by decide) k) ?_
      show GoW p e below QQ (T12.setTop (mkF m 85 #[.val (.ref a1), .val (.long q1), .second, .val (.int (2 : Int32))] []))
      have hi57 : ¬ (q1.toInt < va.toInt) := (fun q => hc57 (Int64.lt_iff_toInt_lt.mpr q))
      refine GoW.st (fun t k => XS.aloadN X12.here hx rfl (hb hby d6_85) rfl rfl k) ?_
      show GoW p e below QQ (T12.setTop (mkF m 86 #[.val (.ref a1), .val (.long q1), .second, .val (.int (2 : Int32))] [(.ref a1)]))
      obtain ⟨T20, X20, e20, st20⟩ := getF X12 hx hZ hown (host := "") (Or.inl (hw _ (List.mem_of_getElem? (i := 17) rfl))) Via.refl e12 f11_F_a1_values (g := (mkF m 86 #[.val (.ref a1), .val (.long q1), .second, .val (.int (2 : Int32))] [(.ref a1)])) rfl rfl (hb hby d6_86)
      refine GoW.st st20 ?_
      show GoW p e below QQ (T20.setTop (mkF m 89 #[.val (.ref a1), .val (.long q1), .second, .val (.int (2 : Int32))] [(.ref b_23)]))
      refine GoW.st (fun t k => XS.iloadN X20.here hx rfl (hb hby d6_89) rfl (XS.lloadN X20.here hx rfl (hb hby d6_90) rfl k)) ?_
      show GoW p e below QQ (T20.setTop (mkF m 91 #[.val (.ref a1), .val (.long q1), .second, .val (.int (2 : Int32))] [(.long q1), (.int (2 : Int32)), (.ref b_23)]))
      obtain ⟨T21, h21, X21, e21, W21, V21, st21⟩ := stVJ X20 hx hZ e20 f11_V_b_23 ⟨by decide, by decide⟩ 2 rfl (Nat.le_of_ble_eq_true rfl) (g := (mkF m 91 #[.val (.ref a1), .val (.long q1), .second, .val (.int (2 : Int32))] [(.long q1), (.int (2 : Int32)), (.ref b_23)])) rfl rfl (hb hby d6_91)
      refine GoW.st st21 ?_
      have f22_E_a1 : Exa Z h21 a1 "com/example/eunomia/eunomia/sticky/LongHeap" := f11_E_a1.wr W21
      have f22_F_a1_values : Fld Z h21 a1 "com/example/eunomia/eunomia/sticky/LongHeap" "values" "[J" (.ref b_23) := f11_F_a1_values.other W21 (Or.inl ne5_a1_b_23)
      have f22_F_a1_size : Fld Z h21 a1 "com/example/eunomia/eunomia/sticky/LongHeap" "size" "I" (.int (3 : Int32)) := f11_F_a1_size.other W21 (Or.inl ne5_a1_b_23)
      have f22_V_b_23 : Arv Z h21 b_23 kb_23 .long (4 : Int32) [(.long va), (.long vb), (.long q1), (.long (0 : Int64))] (.long (0 : Int64)) := V21
      have K21 : Keep h0 h21 [a1, a2] := K10.wr W21 (Or.inr sz5_b_23)
      have N21 := Fr.snoc X21 N10 gg5_b_23
      show GoW p e below QQ (T21.setTop (mkF m 92 #[.val (.ref a1), .val (.long q1), .second, .val (.int (2 : Int32))] []))
      exact GoW.fin X21 none (fun _ => rfl) hlk hQ e21 ⟨b_23, kb_23, (4 : Int32), va, vb, q1, (0 : Int64), rfl, N21, K21, f22_E_a1, f22_F_a1_values, f22_F_a1_size, gg5_b_23, (Ne.symm ne5_a1_b_23), f22_V_b_23, (by omega)⟩ (by decide) (by decide) (fun fs hr => X21.returnOut hx hret (hb hby d6_92) hr)
  · skip
    refine GoW.st (fun t k => XS.icmpYes X2.here hx rfl (pc0 := 9) (pc' := 29) rfl (hb hby d6_9) rfl (feq hc9).2 (by decide) (by decide) k) ?_
    show GoW p e below QQ (T2.setTop (mkF m 29 #[.val (.ref a1), .val (.long q1), .second, .unset] []))
    have hi9 : ¬ (2 = z.toInt) := (fun q => hc9 (Int32.toInt_inj.mp q))
    have hlt := fun q => hc9 (own_eq_of q)
    refine GoW.st (fun t k => XS.aloadN X2.here hx rfl (hb hby d6_29) rfl rfl (XS.dup X2.here hx rfl (hb hby d6_30) rfl rfl k)) ?_
    show GoW p e below QQ (T2.setTop (mkF m 31 #[.val (.ref a1), .val (.long q1), .second, .unset] [(.ref a1), (.ref a1)]))
    obtain ⟨T23, X23, e23, st23⟩ := getF X2 hx hZ hown (host := "") (Or.inl (hw _ (List.mem_of_getElem? (i := 24) rfl))) Via.refl e2 pre_F_a1_size (g := (mkF m 31 #[.val (.ref a1), .val (.long q1), .second, .unset] [(.ref a1), (.ref a1)])) rfl rfl (hb hby d6_31)
    refine GoW.st st23 ?_
    show GoW p e below QQ (T23.setTop (mkF m 34 #[.val (.ref a1), .val (.long q1), .second, .unset] [(.int (2 : Int32)), (.ref a1)]))
    refine GoW.st (fun t k => XS.dupX1 X23.here hx rfl (hb hby d6_34) rfl rfl rfl (XS.iconst X23.here hx rfl (hb hby d6_35) (XS.iadd X23.here hx rfl (hb hby d6_36) rfl k))) ?_
    show GoW p e below QQ (T23.setTop (mkF m 37 #[.val (.ref a1), .val (.long q1), .second, .unset] [(.int (3 : Int32)), (.ref a1), (.int (2 : Int32))]))
    obtain ⟨T24, h24, X24, e24, W24, st24⟩ := putF X23 hx hZ hown (host := "") (Or.inl (hw _ (List.mem_of_getElem? (i := 24) rfl))) Via.refl e23 pre_F_a1_size pre_E_a1 (Or.inl (hw _ (List.mem_of_getElem? (i := 25) rfl))) (hw _ (List.mem_of_getElem? (i := 5) rfl)) (ty := .int) (by decide) rfl rfl (g := (mkF m 37 #[.val (.ref a1), .val (.long q1), .second, .unset] [(.int (3 : Int32)), (.ref a1), (.int (2 : Int32))])) rfl rfl (hb hby d6_37)
    refine GoW.st st24 ?_
    have f25_E_a1 : Exa Z h24 a1 "com/example/eunomia/eunomia/sticky/LongHeap" := pre_E_a1.wr W24
    have f25_F_a1_values : Fld Z h24 a1 "com/example/eunomia/eunomia/sticky/LongHeap" "values" "[J" (.ref a2) := pre_F_a1_values.other W24 (Or.inr (slot_ne (Or.inl (hw _ (List.mem_of_getElem? (i := 18) rfl))) (Or.inl (hw _ (List.mem_of_getElem? (i := 25) rfl))) (by decide) (t := (.array .long)) (t' := .int) (by decide) (by decide)))
    have f25_F_a1_size : Fld Z h24 a1 "com/example/eunomia/eunomia/sticky/LongHeap" "size" "I" (.int (3 : Int32)) := pre_F_a1_size.same W24
    have f25_V_a2 : Arv Z h24 a2 ka .long z [(.long va), (.long vb), (.long vc), (.long vd)] (.long (0 : Int64)) := pre_V_a2.other W24 pre_a2_a1
    have K24 : Keep h0 h24 [a1, a2] := K0.wr W24 (Or.inl (List.mem_of_getElem? (i := 0) rfl))
    have N24 := Fr.snoc X24 N0 pre_g_a1
    show GoW p e below QQ (T24.setTop (mkF m 40 #[.val (.ref a1), .val (.long q1), .second, .unset] [(.int (2 : Int32))]))
    refine GoW.st (fun t k => XS.istoreN X24.here hx rfl (hb hby d6_40) rfl (l' := #[.val (.ref a1), .val (.long q1), .second, .val (.int (2 : Int32))]) rfl (XS.iloadN X24.here hx rfl (hb hby d6_41) rfl k)) ?_
    show GoW p e below QQ (T24.setTop (mkF m 42 #[.val (.ref a1), .val (.long q1), .second, .val (.int (2 : Int32))] [(.int (2 : Int32))]))
    have hc42 : (0 : Int32) < (2 : Int32) := by decide
    refine GoW.st (fun t k => XS.ifNo X24.here hx rfl (hb hby d6_42) rfl ((if0 _ _).trans (tlt hc42).2.2.2) (XS.lloadN X24.here hx rfl (hb hby d6_45) rfl (XS.aloadN X24.here hx rfl (hb hby d6_46) rfl rfl k))) ?_
    show GoW p e below QQ (T24.setTop (mkF m 47 #[.val (.ref a1), .val (.long q1), .second, .val (.int (2 : Int32))] [(.ref a1), (.long q1)]))
    obtain ⟨T26, X26, e26, st26⟩ := getF X24 hx hZ hown (host := "") (Or.inl (hw _ (List.mem_of_getElem? (i := 17) rfl))) Via.refl e24 f25_F_a1_values (g := (mkF m 47 #[.val (.ref a1), .val (.long q1), .second, .val (.int (2 : Int32))] [(.ref a1), (.long q1)])) rfl rfl (hb hby d6_47)
    refine GoW.st st26 ?_
    show GoW p e below QQ (T26.setTop (mkF m 50 #[.val (.ref a1), .val (.long q1), .second, .val (.int (2 : Int32))] [(.ref a2), (.long q1)]))
    refine GoW.st (fun t k => XS.iloadN X26.here hx rfl (hb hby d6_50) rfl (XS.iconst X26.here hx rfl (hb hby d6_51) (XS.isub X26.here hx rfl (hb hby d6_52) rfl (XS.iconst X26.here hx rfl (hb hby d6_53) (XS.idiv X26.here hx rfl (hb hby d6_54) rfl (by decide) (ldVJ X26 hx hZ e26 f25_V_a2 (v := (.long va)) ⟨by decide, own_lt_of (by omega)⟩ rfl (g := (mkF m 55 #[.val (.ref a1), .val (.long q1), .second, .val (.int (2 : Int32))] [(.int (0 : Int32)), (.ref a2), (.long q1)])) rfl rfl (hb hby d6_55) t k)))))) ?_
    show GoW p e below QQ (T26.setTop (mkF m 56 #[.val (.ref a1), .val (.long q1), .second, .val (.int (2 : Int32))] [(.long va), (.long q1)]))
    refine GoW.st (fun t k => XS.lcmp X26.here hx rfl (hb hby d6_56) rfl k) ?_
    show GoW p e below QQ (T26.setTop (mkF m 57 #[.val (.ref a1), .val (.long q1), .second, .val (.int (2 : Int32))] [(.int (lcmpW q1 va))]))
    by_cases hc57 : q1 < va
    · skip
      refine GoW.st (fun t k => XS.ifNo X26.here hx rfl (hb hby d6_57) rfl ((if0 _ _).trans (tlt ((lw_lt q1 va).mpr hc57)).2.1) k) ?_
      show GoW p e below QQ (T26.setTop (mkF m 60 #[.val (.ref a1), .val (.long q1), .second, .val (.int (2 : Int32))] []))
      have hi57 : q1.toInt < va.toInt := (Int64.lt_iff_toInt_lt.mp hc57)
      refine GoW.st (fun t k => XS.aloadN X26.here hx rfl (hb hby d6_60) rfl rfl k) ?_
      show GoW p e below QQ (T26.setTop (mkF m 61 #[.val (.ref a1), .val (.long q1), .second, .val (.int (2 : Int32))] [(.ref a1)]))
      obtain ⟨T27, X27, e27, st27⟩ := getF X26 hx hZ hown (host := "") (Or.inl (hw _ (List.mem_of_getElem? (i := 17) rfl))) Via.refl e26 f25_F_a1_values (g := (mkF m 61 #[.val (.ref a1), .val (.long q1), .second, .val (.int (2 : Int32))] [(.ref a1)])) rfl rfl (hb hby d6_61)
      refine GoW.st st27 ?_
      show GoW p e below QQ (T27.setTop (mkF m 64 #[.val (.ref a1), .val (.long q1), .second, .val (.int (2 : Int32))] [(.ref a2)]))
      refine GoW.st (fun t k => XS.iloadN X27.here hx rfl (hb hby d6_64) rfl (XS.aloadN X27.here hx rfl (hb hby d6_65) rfl rfl k)) ?_
      show GoW p e below QQ (T27.setTop (mkF m 66 #[.val (.ref a1), .val (.long q1), .second, .val (.int (2 : Int32))] [(.ref a1), (.int (2 : Int32)), (.ref a2)]))
      obtain ⟨T28, X28, e28, st28⟩ := getF X27 hx hZ hown (host := "") (Or.inl (hw _ (List.mem_of_getElem? (i := 17) rfl))) Via.refl e27 f25_F_a1_values (g := (mkF m 66 #[.val (.ref a1), .val (.long q1), .second, .val (.int (2 : Int32))] [(.ref a1), (.int (2 : Int32)), (.ref a2)])) rfl rfl (hb hby d6_66)
      refine GoW.st st28 ?_
      show GoW p e below QQ (T28.setTop (mkF m 69 #[.val (.ref a1), .val (.long q1), .second, .val (.int (2 : Int32))] [(.ref a2), (.int (2 : Int32)), (.ref a2)]))
      refine GoW.st (fun t k => XS.iloadN X28.here hx rfl (hb hby d6_69) rfl (XS.iconst X28.here hx rfl (hb hby d6_70) (XS.isub X28.here hx rfl (hb hby d6_71) rfl (XS.iconst X28.here hx rfl (hb hby d6_72) (XS.idiv X28.here hx rfl (hb hby d6_73) rfl (by decide) (ldVJ X28 hx hZ e28 f25_V_a2 (v := (.long va)) ⟨by decide, own_lt_of (by omega)⟩ rfl (g := (mkF m 74 #[.val (.ref a1), .val (.long q1), .second, .val (.int (2 : Int32))] [(.int (0 : Int32)), (.ref a2), (.int (2 : Int32)), (.ref a2)])) rfl rfl (hb hby d6_74) t k)))))) ?_
      show GoW p e below QQ (T28.setTop (mkF m 75 #[.val (.ref a1), .val (.long q1), .second, .val (.int (2 : Int32))] [(.long va), (.int (2 : Int32)), (.ref a2)]))
      obtain ⟨T29, h29, X29, e29, W29, V29, st29⟩ := stVJ X28 hx hZ e28 f25_V_a2 ⟨by decide, own_lt_of (by omega)⟩ 2 rfl (Nat.le_of_ble_eq_true rfl) (g := (mkF m 75 #[.val (.ref a1), .val (.long q1), .second, .val (.int (2 : Int32))] [(.long va), (.int (2 : Int32)), (.ref a2)])) rfl rfl (hb hby d6_75)
      refine GoW.st st29 ?_
      have f30_E_a1 : Exa Z h29 a1 "com/example/eunomia/eunomia/sticky/LongHeap" := f25_E_a1.wr W29
      have f30_F_a1_values : Fld Z h29 a1 "com/example/eunomia/eunomia/sticky/LongHeap" "values" "[J" (.ref a2) := f25_F_a1_values.other W29 (Or.inl (Ne.symm pre_a2_a1))
      have f30_F_a1_size : Fld Z h29 a1 "com/example/eunomia/eunomia/sticky/LongHeap" "size" "I" (.int (3 : Int32)) := f25_F_a1_size.other W29 (Or.inl (Ne.symm pre_a2_a1))
      have f30_V_a2 : Arv Z h29 a2 ka .long z [(.long va), (.long vb), (.long va), (.long vd)] (.long (0 : Int64)) := V29
      have K29 : Keep h0 h29 [a1, a2] := K24.wr W29 (Or.inl (List.mem_of_getElem? (i := 1) rfl))
      have N29 := Fr.snoc X29 N24 pre_g_a2
      show GoW p e below QQ (T29.setTop (mkF m 76 #[.val (.ref a1), .val (.long q1), .second, .val (.int (2 : Int32))] []))
      refine GoW.st (fun t k => XS.iloadN X29.here hx rfl (hb hby d6_76) rfl (XS.iconst X29.here hx rfl (hb hby d6_77) (XS.isub X29.here hx rfl (hb hby d6_78) rfl (XS.iconst X29.here hx rfl (hb hby d6_79) (XS.idiv X29.here hx rfl (hb hby d6_80) rfl (by decide) (XS.istoreN X29.here hx rfl (hb hby d6_81) rfl (l' := #[.val (.ref a1), .val (.long q1), .second, .val (.int (0 : Int32))]) rfl k)))))) ?_
      show GoW p e below QQ (T29.setTop (mkF m 82 #[.val (.ref a1), .val (.long q1), .second, .val (.int (0 : Int32))] []))
      refine GoW.st (fun t k => XS.goto X29.here hx rfl (pc0 := 82) (pc' := 41) rfl (hb hby d6_82) (by decide) (by decide) (XS.iloadN X29.here hx rfl (hb hby d6_41) rfl k)) ?_
      show GoW p e below QQ (T29.setTop (mkF m 42 #[.val (.ref a1), .val (.long q1), .second, .val (.int (0 : Int32))] [(.int (0 : Int32))]))
      have hc42_2 : ¬ ((0 : Int32) < (0 : Int32)) := by decide
      refine GoW.st (fun t k => XS.ifYes X29.here hx rfl (pc0 := 42) (pc' := 85) rfl (hb hby d6_42) rfl ((if0 _ _).trans (flt hc42_2).2.2.2) (by decide) (by decide) (XS.aloadN X29.here hx rfl (hb hby d6_85) rfl rfl k)) ?_
      show GoW p e below QQ (T29.setTop (mkF m 86 #[.val (.ref a1), .val (.long q1), .second, .val (.int (0 : Int32))] [(.ref a1)]))
      obtain ⟨T31, X31, e31, st31⟩ := getF X29 hx hZ hown (host := "") (Or.inl (hw _ (List.mem_of_getElem? (i := 17) rfl))) Via.refl e29 f30_F_a1_values (g := (mkF m 86 #[.val (.ref a1), .val (.long q1), .second, .val (.int (0 : Int32))] [(.ref a1)])) rfl rfl (hb hby d6_86)
      refine GoW.st st31 ?_
      show GoW p e below QQ (T31.setTop (mkF m 89 #[.val (.ref a1), .val (.long q1), .second, .val (.int (0 : Int32))] [(.ref a2)]))
      refine GoW.st (fun t k => XS.iloadN X31.here hx rfl (hb hby d6_89) rfl (XS.lloadN X31.here hx rfl (hb hby d6_90) rfl k)) ?_
      show GoW p e below QQ (T31.setTop (mkF m 91 #[.val (.ref a1), .val (.long q1), .second, .val (.int (0 : Int32))] [(.long q1), (.int (0 : Int32)), (.ref a2)]))
      obtain ⟨T32, h32, X32, e32, W32, V32, st32⟩ := stVJ X31 hx hZ e31 f30_V_a2 ⟨by decide, own_lt_of (by omega)⟩ 0 rfl (Nat.le_of_ble_eq_true rfl) (g := (mkF m 91 #[.val (.ref a1), .val (.long q1), .second, .val (.int (0 : Int32))] [(.long q1), (.int (0 : Int32)), (.ref a2)])) rfl rfl (hb hby d6_91)
      refine GoW.st st32 ?_
      have f33_E_a1 : Exa Z h32 a1 "com/example/eunomia/eunomia/sticky/LongHeap" := f30_E_a1.wr W32
      have f33_F_a1_values : Fld Z h32 a1 "com/example/eunomia/eunomia/sticky/LongHeap" "values" "[J" (.ref a2) := f30_F_a1_values.other W32 (Or.inl (Ne.symm pre_a2_a1))
      have f33_F_a1_size : Fld Z h32 a1 "com/example/eunomia/eunomia/sticky/LongHeap" "size" "I" (.int (3 : Int32)) := f30_F_a1_size.other W32 (Or.inl (Ne.symm pre_a2_a1))
      have f33_V_a2 : Arv Z h32 a2 ka .long z [(.long q1), (.long vb), (.long va), (.long vd)] (.long (0 : Int64)) := V32
      have K32 : Keep h0 h32 [a1, a2] := K29.wr W32 (Or.inl (List.mem_of_getElem? (i := 1) rfl))
      have N32 := Fr.snoc X32 N29 pre_g_a2
      show GoW p e below QQ (T32.setTop (mkF m 92 #[.val (.ref a1), .val (.long q1), .second, .val (.int (0 : Int32))] []))
      exact GoW.fin X32 none (fun _ => rfl) hlk hQ e32 ⟨a2, ka, z, q1, vb, va, vd, rfl, N32, K32, f33_E_a1, f33_F_a1_values, f33_F_a1_size, pre_g_a2, pre_a2_a1, f33_V_a2, (by omega)⟩ (by decide) (by decide) (fun fs hr => X32.returnOut hx hret (hb hby d6_92) hr)
    · skip
      refine GoW.st (fun t k => XS.ifYes X26.here hx rfl (pc0 := 57) (pc' := 85) rfl (hb hby d6_57) rfl ((if0 _ _).trans (flt (fun q => hc57 ((lw_lt q1 va).mp q))).2.1) (by decide) (by decide) k) ?_
      show GoW p e below QQ (T26.setTop (mkF m 85 #[.val (.ref a1), .val (.long q1), .second, .val (.int (2 : Int32))] []))
      have hi57 : ¬ (q1.toInt < va.toInt) := (fun q => hc57 (Int64.lt_iff_toInt_lt.mpr q))
      refine GoW.st (fun t k => XS.aloadN X26.here hx rfl (hb hby d6_85) rfl rfl k) ?_
      show GoW p e below QQ (T26.setTop (mkF m 86 #[.val (.ref a1), .val (.long q1), .second, .val (.int (2 : Int32))] [(.ref a1)]))
      obtain ⟨T34, X34, e34, st34⟩ := getF X26 hx hZ hown (host := "") (Or.inl (hw _ (List.mem_of_getElem? (i := 17) rfl))) Via.refl e26 f25_F_a1_values (g := (mkF m 86 #[.val (.ref a1), .val (.long q1), .second, .val (.int (2 : Int32))] [(.ref a1)])) rfl rfl (hb hby d6_86)
      refine GoW.st st34 ?_
      show GoW p e below QQ (T34.setTop (mkF m 89 #[.val (.ref a1), .val (.long q1), .second, .val (.int (2 : Int32))] [(.ref a2)]))
      refine GoW.st (fun t k => XS.iloadN X34.here hx rfl (hb hby d6_89) rfl (XS.lloadN X34.here hx rfl (hb hby d6_90) rfl k)) ?_
      show GoW p e below QQ (T34.setTop (mkF m 91 #[.val (.ref a1), .val (.long q1), .second, .val (.int (2 : Int32))] [(.long q1), (.int (2 : Int32)), (.ref a2)]))
      obtain ⟨T35, h35, X35, e35, W35, V35, st35⟩ := stVJ X34 hx hZ e34 f25_V_a2 ⟨by decide, own_lt_of (by omega)⟩ 2 rfl (Nat.le_of_ble_eq_true rfl) (g := (mkF m 91 #[.val (.ref a1), .val (.long q1), .second, .val (.int (2 : Int32))] [(.long q1), (.int (2 : Int32)), (.ref a2)])) rfl rfl (hb hby d6_91)
      refine GoW.st st35 ?_
      have f36_E_a1 : Exa Z h35 a1 "com/example/eunomia/eunomia/sticky/LongHeap" := f25_E_a1.wr W35
      have f36_F_a1_values : Fld Z h35 a1 "com/example/eunomia/eunomia/sticky/LongHeap" "values" "[J" (.ref a2) := f25_F_a1_values.other W35 (Or.inl (Ne.symm pre_a2_a1))
      have f36_F_a1_size : Fld Z h35 a1 "com/example/eunomia/eunomia/sticky/LongHeap" "size" "I" (.int (3 : Int32)) := f25_F_a1_size.other W35 (Or.inl (Ne.symm pre_a2_a1))
      have f36_V_a2 : Arv Z h35 a2 ka .long z [(.long va), (.long vb), (.long q1), (.long vd)] (.long (0 : Int64)) := V35
      have K35 : Keep h0 h35 [a1, a2] := K24.wr W35 (Or.inl (List.mem_of_getElem? (i := 1) rfl))
      have N35 := Fr.snoc X35 N24 pre_g_a2
      show GoW p e below QQ (T35.setTop (mkF m 92 #[.val (.ref a1), .val (.long q1), .second, .val (.int (2 : Int32))] []))
      exact GoW.fin X35 none (fun _ => rfl) hlk hQ e35 ⟨a2, ka, z, va, vb, q1, vd, rfl, N35, K35, f36_E_a1, f36_F_a1_values, f36_F_a1_size, pre_g_a2, pre_a2_a1, f36_V_a2, (by omega)⟩ (by decide) (by decide) (fun fs hr => X35.returnOut hx hret (hb hby d6_92) hr)
theorem d9_0 : decode prog_40_method_7_code 0 = .ok (.iconst 0, 1) := by decide +kernel
theorem d9_1 : decode prog_40_method_7_code 1 = .ok (.istore_n 3, 1) := by decide +kernel
theorem d9_2 : decode prog_40_method_7_code 2 = .ok (.aload_n 0, 1) := by decide +kernel
theorem d9_3 : decode prog_40_method_7_code 3 = .ok (.getfield 19, 3) := by decide +kernel
theorem d9_6 : decode prog_40_method_7_code 6 = .ok (.iconst 2, 1) := by decide +kernel
theorem d9_7 : decode prog_40_method_7_code 7 = .ok (.idiv, 1) := by decide +kernel
theorem d9_8 : decode prog_40_method_7_code 8 = .ok (.istore 4, 2) := by decide +kernel
theorem d9_10 : decode prog_40_method_7_code 10 = .ok (.iload_n 3, 1) := by decide +kernel
theorem d9_11 : decode prog_40_method_7_code 11 = .ok (.iload 4, 2) := by decide +kernel
theorem d9_13 : decode prog_40_method_7_code 13 = .ok (.if_icmp .ge 78, 3) := by decide +kernel
theorem d9_91 : decode prog_40_method_7_code 91 = .ok (.aload_n 0, 1) := by decide +kernel
theorem d9_92 : decode prog_40_method_7_code 92 = .ok (.getfield 13, 3) := by decide +kernel
theorem d9_95 : decode prog_40_method_7_code 95 = .ok (.iload_n 3, 1) := by decide +kernel
theorem d9_96 : decode prog_40_method_7_code 96 = .ok (.lload_n 1, 1) := by decide +kernel
theorem d9_97 : decode prog_40_method_7_code 97 = .ok (.lastore, 1) := by decide +kernel
theorem d9_98 : decode prog_40_method_7_code 98 = .ok (.return_, 1) := by decide +kernel
def RM9_1 : Room := { frames := 0, cells := 0, slots := 0, locals := 0 }
def Q9_1 (Z : State) (a1 : Addr) (q1 : Int64) (a2 : Addr) (ka : ClassId) (z : Int32) (va : Int64) (vb : Int64) (vc : Int64) (vd : Int64) (h0 : Heap) (n0 : Nat) (v : Option Value) (h : Heap) (L : List Loc) : Prop := ∃ (wa : Int64) (wb : Int64) (wc : Int64) (wd : Int64), v = none ∧ Fr n0 L ∧ Keep h0 h [a2] ∧ (Arv Z h a2 ka .long z [(.long wa), (.long wb), (.long wc), (.long wd)] (.long (0 : Int64)))
set_option maxRecDepth 65536 in
set_option maxHeartbeats 40000000 in
theorem rm9_1 (l : Launch) (Z : State) (a0 : Array Value) (hw : ∀ d ∈ tables_1, d.before a0 Z = true) (ws : List Jvm.Cond) (a1 : Addr) (q1 : Int64) (a2 : Addr) (ka : ClassId) (z : Int32) (va : Int64) (vb : Int64) (vc : Int64) (vd : Int64) (h0 : Heap) (n0 : Nat) (Z0 : n0 ≤ h0.size) (pre_g_a2 : n0 ≤ a2) (pre_a2_a1 : a2 ≠ a1) (pre_F_a1_values : Fld Z h0 a1 "com/example/eunomia/eunomia/sticky/LongHeap" "values" "[J" (.ref a2)) (pre_F_a1_size : Fld Z h0 a1 "com/example/eunomia/eunomia/sticky/LongHeap" "size" "I" (.int (1 : Int32))) (pre_V_a2 : Arv Z h0 a2 ka .long z [(.long va), (.long vb), (.long vc), (.long vd)] (.long (0 : Int64))) (hz : 2 ≤ z.toInt) :
    MetFree l (⟨"com/example/eunomia/eunomia/sticky/LongHeap", "siftDown", "(J)V"⟩ : MethodName) (head1 (Jvm.Cond.code (⟨"com/example/eunomia/eunomia/sticky/LongHeap", "siftDown", "(J)V"⟩ : MethodName) prog_40_method_7_code 6 none :: ws) RM9_1) (fun a U => a = #[(.ref a1), (.long q1)] ∧ Z.Warmed39 U.vm ∧ U.heap = h0) (fun _ _ _ _ _ => True) (fun _ U o U' => ∃ v L, o = .returned v ∧ Q9_1 Z a1 q1 a2 ka z va vb vc vd h0 n0 v U'.heap L ∧ FrameEnd U o U' L RM9_1.cells RM9_1.slots) := by
  refine met_of (Q := fun v h L => Q9_1 Z a1 q1 a2 ka z va vb vc vd h0 n0 v h L) (plainFor_of_name pn_0) (fun m => by first | (simp [entryFrame, mkF, argsToLocals, Value.category]; done) | rfl) (Ls := #[.val (.ref a1), .val (.long q1), .second, .unset, .unset, .unset]) ?_
  intro p e s m below meth c T0 QQ hx hZ hby hml hown hnm hret hlk X0 e0 hQ
  have hml : c.maxLocals = 6 := hml
  have hown : s.vm.findClass "com/example/eunomia/eunomia/sticky/LongHeap" = some m.cls := hown
  have hnm : meth.name = "siftDown" := hnm
  have hret : meth.sig.returnType = none := hret
  have N0 := Fr.nil n0
  have K0 : Keep h0 h0 [a2] := Keep.refl h0 _
  show GoW p e below QQ (T0.setTop (mkF m 0 #[.val (.ref a1), .val (.long q1), .second, .unset, .unset, .unset] []))
  have z0 : (0 : Int32).toInt = 0 := rfl
  have z1 : (1 : Int32).toInt = 1 := rfl
  have z2 : (2 : Int32).toInt = 2 := rfl
  have z3 : (3 : Int32).toInt = 3 := rfl
  refine GoW.st (fun t k => XS.iconst X0.here hx rfl (hb hby d9_0) (XS.istoreN X0.here hx rfl (hb hby d9_1) rfl (l' := #[.val (.ref a1), .val (.long q1), .second, .val (.int (0 : Int32)), .unset, .unset]) rfl (XS.aloadN X0.here hx rfl (hb hby d9_2) rfl rfl k))) ?_
  show GoW p e below QQ (T0.setTop (mkF m 3 #[.val (.ref a1), .val (.long q1), .second, .val (.int (0 : Int32)), .unset, .unset] [(.ref a1)]))
  obtain ⟨T1, X1, e1, st1⟩ := getF X0 hx hZ hown (host := "") (Or.inl (hw _ (List.mem_of_getElem? (i := 24) rfl))) Via.refl e0 pre_F_a1_size (g := (mkF m 3 #[.val (.ref a1), .val (.long q1), .second, .val (.int (0 : Int32)), .unset, .unset] [(.ref a1)])) rfl rfl (hb hby d9_3)
  refine GoW.st st1 ?_
  show GoW p e below QQ (T1.setTop (mkF m 6 #[.val (.ref a1), .val (.long q1), .second, .val (.int (0 : Int32)), .unset, .unset] [(.int (1 : Int32))]))
  refine GoW.st (fun t k => XS.iconst X1.here hx rfl (hb hby d9_6) (XS.idiv X1.here hx rfl (hb hby d9_7) rfl (by decide) (XS.istore X1.here hx rfl (hb hby d9_8) rfl (l' := #[.val (.ref a1), .val (.long q1), .second, .val (.int (0 : Int32)), .val (.int (0 : Int32)), .unset]) rfl (XS.iloadN X1.here hx rfl (hb hby d9_10) rfl (XS.iload X1.here hx rfl (hb hby d9_11) rfl k))))) ?_
  show GoW p e below QQ (T1.setTop (mkF m 13 #[.val (.ref a1), .val (.long q1), .second, .val (.int (0 : Int32)), .val (.int (0 : Int32)), .unset] [(.int (0 : Int32)), (.int (0 : Int32))]))
  have hc13 : ¬ ((0 : Int32) < (0 : Int32)) := by decide
  refine GoW.st (fun t k => XS.icmpYes X1.here hx rfl (pc0 := 13) (pc' := 91) rfl (hb hby d9_13) rfl (flt hc13).2.1 (by decide) (by decide) (XS.aloadN X1.here hx rfl (hb hby d9_91) rfl rfl k)) ?_
  show GoW p e below QQ (T1.setTop (mkF m 92 #[.val (.ref a1), .val (.long q1), .second, .val (.int (0 : Int32)), .val (.int (0 : Int32)), .unset] [(.ref a1)]))
  obtain ⟨T2, X2, e2, st2⟩ := getF X1 hx hZ hown (host := "") (Or.inl (hw _ (List.mem_of_getElem? (i := 17) rfl))) Via.refl e1 pre_F_a1_values (g := (mkF m 92 #[.val (.ref a1), .val (.long q1), .second, .val (.int (0 : Int32)), .val (.int (0 : Int32)), .unset] [(.ref a1)])) rfl rfl (hb hby d9_92)
  refine GoW.st st2 ?_
  show GoW p e below QQ (T2.setTop (mkF m 95 #[.val (.ref a1), .val (.long q1), .second, .val (.int (0 : Int32)), .val (.int (0 : Int32)), .unset] [(.ref a2)]))
  refine GoW.st (fun t k => XS.iloadN X2.here hx rfl (hb hby d9_95) rfl (XS.lloadN X2.here hx rfl (hb hby d9_96) rfl k)) ?_
  show GoW p e below QQ (T2.setTop (mkF m 97 #[.val (.ref a1), .val (.long q1), .second, .val (.int (0 : Int32)), .val (.int (0 : Int32)), .unset] [(.long q1), (.int (0 : Int32)), (.ref a2)]))
  obtain ⟨T3, h3, X3, e3, W3, V3, st3⟩ := stVJ X2 hx hZ e2 pre_V_a2 ⟨by decide, own_lt_of (by omega)⟩ 0 rfl (Nat.le_of_ble_eq_true rfl) (g := (mkF m 97 #[.val (.ref a1), .val (.long q1), .second, .val (.int (0 : Int32)), .val (.int (0 : Int32)), .unset] [(.long q1), (.int (0 : Int32)), (.ref a2)])) rfl rfl (hb hby d9_97)
  refine GoW.st st3 ?_
  have f4_F_a1_values : Fld Z h3 a1 "com/example/eunomia/eunomia/sticky/LongHeap" "values" "[J" (.ref a2) := pre_F_a1_values.other W3 (Or.inl (Ne.symm pre_a2_a1))
  have f4_F_a1_size : Fld Z h3 a1 "com/example/eunomia/eunomia/sticky/LongHeap" "size" "I" (.int (1 : Int32)) := pre_F_a1_size.other W3 (Or.inl (Ne.symm pre_a2_a1))
  have f4_V_a2 : Arv Z h3 a2 ka .long z [(.long q1), (.long vb), (.long vc), (.long vd)] (.long (0 : Int64)) := V3
  have K3 : Keep h0 h3 [a2] := K0.wr W3 (Or.inl (List.mem_of_getElem? (i := 0) rfl))
  have N3 := Fr.snoc X3 N0 pre_g_a2
  show GoW p e below QQ (T3.setTop (mkF m 98 #[.val (.ref a1), .val (.long q1), .second, .val (.int (0 : Int32)), .val (.int (0 : Int32)), .unset] []))
  exact GoW.fin X3 none (fun _ => rfl) hlk hQ e3 ⟨q1, vb, vc, vd, rfl, N3, K3, f4_V_a2⟩ (by decide) (by decide) (fun fs hr => X3.returnOut hx hret (hb hby d9_98) hr)
theorem d9_16 : decode prog_40_method_7_code 16 = .ok (.iconst 2, 1) := by decide +kernel
theorem d9_17 : decode prog_40_method_7_code 17 = .ok (.iload_n 3, 1) := by decide +kernel
theorem d9_18 : decode prog_40_method_7_code 18 = .ok (.imul, 1) := by decide +kernel
theorem d9_19 : decode prog_40_method_7_code 19 = .ok (.iconst 1, 1) := by decide +kernel
theorem d9_20 : decode prog_40_method_7_code 20 = .ok (.iadd, 1) := by decide +kernel
theorem d9_21 : decode prog_40_method_7_code 21 = .ok (.istore 5, 2) := by decide +kernel
theorem d9_23 : decode prog_40_method_7_code 23 = .ok (.iload 5, 2) := by decide +kernel
theorem d9_25 : decode prog_40_method_7_code 25 = .ok (.iconst 1, 1) := by decide +kernel
theorem d9_26 : decode prog_40_method_7_code 26 = .ok (.iadd, 1) := by decide +kernel
theorem d9_27 : decode prog_40_method_7_code 27 = .ok (.aload_n 0, 1) := by decide +kernel
theorem d9_28 : decode prog_40_method_7_code 28 = .ok (.getfield 19, 3) := by decide +kernel
theorem d9_31 : decode prog_40_method_7_code 31 = .ok (.if_icmp .ge 26, 3) := by decide +kernel
theorem d9_57 : decode prog_40_method_7_code 57 = .ok (.lload_n 1, 1) := by decide +kernel
theorem d9_58 : decode prog_40_method_7_code 58 = .ok (.aload_n 0, 1) := by decide +kernel
theorem d9_59 : decode prog_40_method_7_code 59 = .ok (.getfield 13, 3) := by decide +kernel
theorem d9_62 : decode prog_40_method_7_code 62 = .ok (.iload 5, 2) := by decide +kernel
theorem d9_64 : decode prog_40_method_7_code 64 = .ok (.laload, 1) := by decide +kernel
theorem d9_65 : decode prog_40_method_7_code 65 = .ok (.lcmp, 1) := by decide +kernel
theorem d9_66 : decode prog_40_method_7_code 66 = .ok (.ifCond .gt 6, 3) := by decide +kernel
theorem d9_72 : decode prog_40_method_7_code 72 = .ok (.aload_n 0, 1) := by decide +kernel
theorem d9_73 : decode prog_40_method_7_code 73 = .ok (.getfield 13, 3) := by decide +kernel
theorem d9_76 : decode prog_40_method_7_code 76 = .ok (.iload_n 3, 1) := by decide +kernel
theorem d9_77 : decode prog_40_method_7_code 77 = .ok (.aload_n 0, 1) := by decide +kernel
theorem d9_78 : decode prog_40_method_7_code 78 = .ok (.getfield 13, 3) := by decide +kernel
theorem d9_81 : decode prog_40_method_7_code 81 = .ok (.iload 5, 2) := by decide +kernel
theorem d9_83 : decode prog_40_method_7_code 83 = .ok (.laload, 1) := by decide +kernel
theorem d9_84 : decode prog_40_method_7_code 84 = .ok (.lastore, 1) := by decide +kernel
theorem d9_85 : decode prog_40_method_7_code 85 = .ok (.iload 5, 2) := by decide +kernel
theorem d9_87 : decode prog_40_method_7_code 87 = .ok (.istore_n 3, 1) := by decide +kernel
theorem d9_88 : decode prog_40_method_7_code 88 = .ok (.goto (-78), 3) := by decide +kernel
theorem d9_69 : decode prog_40_method_7_code 69 = .ok (.goto 22, 3) := by decide +kernel
def RM9_2 : Room := { frames := 0, cells := 0, slots := 0, locals := 0 }
def Q9_2 (Z : State) (a1 : Addr) (q1 : Int64) (a2 : Addr) (ka : ClassId) (z : Int32) (va : Int64) (vb : Int64) (vc : Int64) (vd : Int64) (h0 : Heap) (n0 : Nat) (v : Option Value) (h : Heap) (L : List Loc) : Prop := ∃ (wa : Int64) (wb : Int64) (wc : Int64) (wd : Int64), v = none ∧ Fr n0 L ∧ Keep h0 h [a2] ∧ (Arv Z h a2 ka .long z [(.long wa), (.long wb), (.long wc), (.long wd)] (.long (0 : Int64)))
set_option maxRecDepth 65536 in
set_option maxHeartbeats 40000000 in
theorem rm9_2 (l : Launch) (Z : State) (a0 : Array Value) (hw : ∀ d ∈ tables_1, d.before a0 Z = true) (ws : List Jvm.Cond) (a1 : Addr) (q1 : Int64) (a2 : Addr) (ka : ClassId) (z : Int32) (va : Int64) (vb : Int64) (vc : Int64) (vd : Int64) (h0 : Heap) (n0 : Nat) (Z0 : n0 ≤ h0.size) (pre_g_a2 : n0 ≤ a2) (pre_a2_a1 : a2 ≠ a1) (pre_F_a1_values : Fld Z h0 a1 "com/example/eunomia/eunomia/sticky/LongHeap" "values" "[J" (.ref a2)) (pre_F_a1_size : Fld Z h0 a1 "com/example/eunomia/eunomia/sticky/LongHeap" "size" "I" (.int (2 : Int32))) (pre_V_a2 : Arv Z h0 a2 ka .long z [(.long va), (.long vb), (.long vc), (.long vd)] (.long (0 : Int64))) (hz : 3 ≤ z.toInt) :
    MetFree l (⟨"com/example/eunomia/eunomia/sticky/LongHeap", "siftDown", "(J)V"⟩ : MethodName) (head1 (Jvm.Cond.code (⟨"com/example/eunomia/eunomia/sticky/LongHeap", "siftDown", "(J)V"⟩ : MethodName) prog_40_method_7_code 6 none :: ws) RM9_2) (fun a U => a = #[(.ref a1), (.long q1)] ∧ Z.Warmed39 U.vm ∧ U.heap = h0) (fun _ _ _ _ _ => True) (fun _ U o U' => ∃ v L, o = .returned v ∧ Q9_2 Z a1 q1 a2 ka z va vb vc vd h0 n0 v U'.heap L ∧ FrameEnd U o U' L RM9_2.cells RM9_2.slots) := by
  refine met_of (Q := fun v h L => Q9_2 Z a1 q1 a2 ka z va vb vc vd h0 n0 v h L) (plainFor_of_name pn_0) (fun m => by first | (simp [entryFrame, mkF, argsToLocals, Value.category]; done) | rfl) (Ls := #[.val (.ref a1), .val (.long q1), .second, .unset, .unset, .unset]) ?_
  intro p e s m below meth c T0 QQ hx hZ hby hml hown hnm hret hlk X0 e0 hQ
  have hml : c.maxLocals = 6 := hml
  have hown : s.vm.findClass "com/example/eunomia/eunomia/sticky/LongHeap" = some m.cls := hown
  have hnm : meth.name = "siftDown" := hnm
  have hret : meth.sig.returnType = none := hret
  have N0 := Fr.nil n0
  have K0 : Keep h0 h0 [a2] := Keep.refl h0 _
  show GoW p e below QQ (T0.setTop (mkF m 0 #[.val (.ref a1), .val (.long q1), .second, .unset, .unset, .unset] []))
  have z0 : (0 : Int32).toInt = 0 := rfl
  have z1 : (1 : Int32).toInt = 1 := rfl
  have z2 : (2 : Int32).toInt = 2 := rfl
  have z3 : (3 : Int32).toInt = 3 := rfl
  refine GoW.st (fun t k => XS.iconst X0.here hx rfl (hb hby d9_0) (XS.istoreN X0.here hx rfl (hb hby d9_1) rfl (l' := #[.val (.ref a1), .val (.long q1), .second, .val (.int (0 : Int32)), .unset, .unset]) rfl (XS.aloadN X0.here hx rfl (hb hby d9_2) rfl rfl k))) ?_
  show GoW p e below QQ (T0.setTop (mkF m 3 #[.val (.ref a1), .val (.long q1), .second, .val (.int (0 : Int32)), .unset, .unset] [(.ref a1)]))
  obtain ⟨T1, X1, e1, st1⟩ := getF X0 hx hZ hown (host := "") (Or.inl (hw _ (List.mem_of_getElem? (i := 24) rfl))) Via.refl e0 pre_F_a1_size (g := (mkF m 3 #[.val (.ref a1), .val (.long q1), .second, .val (.int (0 : Int32)), .unset, .unset] [(.ref a1)])) rfl rfl (hb hby d9_3)
  refine GoW.st st1 ?_
  show GoW p e below QQ (T1.setTop (mkF m 6 #[.val (.ref a1), .val (.long q1), .second, .val (.int (0 : Int32)), .unset, .unset] [(.int (2 : Int32))]))
  refine GoW.st (fun t k => XS.iconst X1.here hx rfl (hb hby d9_6) (XS.idiv X1.here hx rfl (hb hby d9_7) rfl (by decide) (XS.istore X1.here hx rfl (hb hby d9_8) rfl (l' := #[.val (.ref a1), .val (.long q1), .second, .val (.int (0 : Int32)), .val (.int (1 : Int32)), .unset]) rfl (XS.iloadN X1.here hx rfl (hb hby d9_10) rfl (XS.iload X1.here hx rfl (hb hby d9_11) rfl k))))) ?_
  show GoW p e below QQ (T1.setTop (mkF m 13 #[.val (.ref a1), .val (.long q1), .second, .val (.int (0 : Int32)), .val (.int (1 : Int32)), .unset] [(.int (1 : Int32)), (.int (0 : Int32))]))
  have hc13 : (0 : Int32) < (1 : Int32) := by decide
  refine GoW.st (fun t k => XS.icmpNo X1.here hx rfl (hb hby d9_13) rfl (tlt hc13).2.1 (XS.iconst X1.here hx rfl (hb hby d9_16) (XS.iloadN X1.here hx rfl (hb hby d9_17) rfl (XS.imul X1.here hx rfl (hb hby d9_18) rfl (XS.iconst X1.here hx rfl (hb hby d9_19) (XS.iadd X1.here hx rfl (hb hby d9_20) rfl k)))))) ?_
  show GoW p e below QQ (T1.setTop (mkF m 21 #[.val (.ref a1), .val (.long q1), .second, .val (.int (0 : Int32)), .val (.int (1 : Int32)), .unset] [(.int (1 : Int32))]))
  refine GoW.st (fun t k => XS.istore X1.here hx rfl (hb hby d9_21) rfl (l' := #[.val (.ref a1), .val (.long q1), .second, .val (.int (0 : Int32)), .val (.int (1 : Int32)), .val (.int (1 : Int32))]) rfl (XS.iload X1.here hx rfl (hb hby d9_23) rfl (XS.iconst X1.here hx rfl (hb hby d9_25) (XS.iadd X1.here hx rfl (hb hby d9_26) rfl (XS.aloadN X1.here hx rfl (hb hby d9_27) rfl rfl k))))) ?_
  show GoW p e below QQ (T1.setTop (mkF m 28 #[.val (.ref a1), .val (.long q1), .second, .val (.int (0 : Int32)), .val (.int (1 : Int32)), .val (.int (1 : Int32))] [(.ref a1), (.int (2 : Int32))]))
  obtain ⟨T2, X2, e2, st2⟩ := getF X1 hx hZ hown (host := "") (Or.inl (hw _ (List.mem_of_getElem? (i := 24) rfl))) Via.refl e1 pre_F_a1_size (g := (mkF m 28 #[.val (.ref a1), .val (.long q1), .second, .val (.int (0 : Int32)), .val (.int (1 : Int32)), .val (.int (1 : Int32))] [(.ref a1), (.int (2 : Int32))])) rfl rfl (hb hby d9_28)
  refine GoW.st st2 ?_
  show GoW p e below QQ (T2.setTop (mkF m 31 #[.val (.ref a1), .val (.long q1), .second, .val (.int (0 : Int32)), .val (.int (1 : Int32)), .val (.int (1 : Int32))] [(.int (2 : Int32)), (.int (2 : Int32))]))
  have hc31 : ¬ ((2 : Int32) < (2 : Int32)) := by decide
  refine GoW.st (fun t k => XS.icmpYes X2.here hx rfl (pc0 := 31) (pc' := 57) rfl (hb hby d9_31) rfl (flt hc31).2.1 (by decide) (by decide) (XS.lloadN X2.here hx rfl (hb hby d9_57) rfl (XS.aloadN X2.here hx rfl (hb hby d9_58) rfl rfl k))) ?_
  show GoW p e below QQ (T2.setTop (mkF m 59 #[.val (.ref a1), .val (.long q1), .second, .val (.int (0 : Int32)), .val (.int (1 : Int32)), .val (.int (1 : Int32))] [(.ref a1), (.long q1)]))
  obtain ⟨T3, X3, e3, st3⟩ := getF X2 hx hZ hown (host := "") (Or.inl (hw _ (List.mem_of_getElem? (i := 17) rfl))) Via.refl e2 pre_F_a1_values (g := (mkF m 59 #[.val (.ref a1), .val (.long q1), .second, .val (.int (0 : Int32)), .val (.int (1 : Int32)), .val (.int (1 : Int32))] [(.ref a1), (.long q1)])) rfl rfl (hb hby d9_59)
  refine GoW.st st3 ?_
  show GoW p e below QQ (T3.setTop (mkF m 62 #[.val (.ref a1), .val (.long q1), .second, .val (.int (0 : Int32)), .val (.int (1 : Int32)), .val (.int (1 : Int32))] [(.ref a2), (.long q1)]))
  refine GoW.st (fun t k => XS.iload X3.here hx rfl (hb hby d9_62) rfl (ldVJ X3 hx hZ e3 pre_V_a2 (v := (.long vb)) ⟨by decide, own_lt_of (by omega)⟩ rfl (g := (mkF m 64 #[.val (.ref a1), .val (.long q1), .second, .val (.int (0 : Int32)), .val (.int (1 : Int32)), .val (.int (1 : Int32))] [(.int (1 : Int32)), (.ref a2), (.long q1)])) rfl rfl (hb hby d9_64) t (XS.lcmp X3.here hx rfl (hb hby d9_65) rfl k))) ?_
  show GoW p e below QQ (T3.setTop (mkF m 66 #[.val (.ref a1), .val (.long q1), .second, .val (.int (0 : Int32)), .val (.int (1 : Int32)), .val (.int (1 : Int32))] [(.int (lcmpW q1 vb))]))
  by_cases hc66 : vb < q1
  · skip
    refine GoW.st (fun t k => XS.ifYes X3.here hx rfl (pc0 := 66) (pc' := 72) rfl (hb hby d9_66) rfl ((if0 _ _).trans (tlt ((lw_gt q1 vb).mpr hc66)).2.2.1) (by decide) (by decide) k) ?_
    show GoW p e below QQ (T3.setTop (mkF m 72 #[.val (.ref a1), .val (.long q1), .second, .val (.int (0 : Int32)), .val (.int (1 : Int32)), .val (.int (1 : Int32))] []))
    have hi66 : vb.toInt < q1.toInt := (Int64.lt_iff_toInt_lt.mp hc66)
    refine GoW.st (fun t k => XS.aloadN X3.here hx rfl (hb hby d9_72) rfl rfl k) ?_
    show GoW p e below QQ (T3.setTop (mkF m 73 #[.val (.ref a1), .val (.long q1), .second, .val (.int (0 : Int32)), .val (.int (1 : Int32)), .val (.int (1 : Int32))] [(.ref a1)]))
    obtain ⟨T4, X4, e4, st4⟩ := getF X3 hx hZ hown (host := "") (Or.inl (hw _ (List.mem_of_getElem? (i := 17) rfl))) Via.refl e3 pre_F_a1_values (g := (mkF m 73 #[.val (.ref a1), .val (.long q1), .second, .val (.int (0 : Int32)), .val (.int (1 : Int32)), .val (.int (1 : Int32))] [(.ref a1)])) rfl rfl (hb hby d9_73)
    refine GoW.st st4 ?_
    show GoW p e below QQ (T4.setTop (mkF m 76 #[.val (.ref a1), .val (.long q1), .second, .val (.int (0 : Int32)), .val (.int (1 : Int32)), .val (.int (1 : Int32))] [(.ref a2)]))
    refine GoW.st (fun t k => XS.iloadN X4.here hx rfl (hb hby d9_76) rfl (XS.aloadN X4.here hx rfl (hb hby d9_77) rfl rfl k)) ?_
    show GoW p e below QQ (T4.setTop (mkF m 78 #[.val (.ref a1), .val (.long q1), .second, .val (.int (0 : Int32)), .val (.int (1 : Int32)), .val (.int (1 : Int32))] [(.ref a1), (.int (0 : Int32)), (.ref a2)]))
    obtain ⟨T5, X5, e5, st5⟩ := getF X4 hx hZ hown (host := "") (Or.inl (hw _ (List.mem_of_getElem? (i := 17) rfl))) Via.refl e4 pre_F_a1_values (g := (mkF m 78 #[.val (.ref a1), .val (.long q1), .second, .val (.int (0 : Int32)), .val (.int (1 : Int32)), .val (.int (1 : Int32))] [(.ref a1), (.int (0 : Int32)), (.ref a2)])) rfl rfl (hb hby d9_78)
    refine GoW.st st5 ?_
    show GoW p e below QQ (T5.setTop (mkF m 81 #[.val (.ref a1), .val (.long q1), .second, .val (.int (0 : Int32)), .val (.int (1 : Int32)), .val (.int (1 : Int32))] [(.ref a2), (.int (0 : Int32)), (.ref a2)]))
    refine GoW.st (fun t k => XS.iload X5.here hx rfl (hb hby d9_81) rfl (ldVJ X5 hx hZ e5 pre_V_a2 (v := (.long vb)) ⟨by decide, own_lt_of (by omega)⟩ rfl (g := (mkF m 83 #[.val (.ref a1), .val (.long q1), .second, .val (.int (0 : Int32)), .val (.int (1 : Int32)), .val (.int (1 : Int32))] [(.int (1 : Int32)), (.ref a2), (.int (0 : Int32)), (.ref a2)])) rfl rfl (hb hby d9_83) t k)) ?_
    show GoW p e below QQ (T5.setTop (mkF m 84 #[.val (.ref a1), .val (.long q1), .second, .val (.int (0 : Int32)), .val (.int (1 : Int32)), .val (.int (1 : Int32))] [(.long vb), (.int (0 : Int32)), (.ref a2)]))
    obtain ⟨T6, h6, X6, e6, W6, V6, st6⟩ := stVJ X5 hx hZ e5 pre_V_a2 ⟨by decide, own_lt_of (by omega)⟩ 0 rfl (Nat.le_of_ble_eq_true rfl) (g := (mkF m 84 #[.val (.ref a1), .val (.long q1), .second, .val (.int (0 : Int32)), .val (.int (1 : Int32)), .val (.int (1 : Int32))] [(.long vb), (.int (0 : Int32)), (.ref a2)])) rfl rfl (hb hby d9_84)
    refine GoW.st st6 ?_
    have f7_F_a1_values : Fld Z h6 a1 "com/example/eunomia/eunomia/sticky/LongHeap" "values" "[J" (.ref a2) := pre_F_a1_values.other W6 (Or.inl (Ne.symm pre_a2_a1))
    have f7_F_a1_size : Fld Z h6 a1 "com/example/eunomia/eunomia/sticky/LongHeap" "size" "I" (.int (2 : Int32)) := pre_F_a1_size.other W6 (Or.inl (Ne.symm pre_a2_a1))
    have f7_V_a2 : Arv Z h6 a2 ka .long z [(.long vb), (.long vb), (.long vc), (.long vd)] (.long (0 : Int64)) := V6
    have K6 : Keep h0 h6 [a2] := K0.wr W6 (Or.inl (List.mem_of_getElem? (i := 0) rfl))
    have N6 := Fr.snoc X6 N0 pre_g_a2
    show GoW p e below QQ (T6.setTop (mkF m 85 #[.val (.ref a1), .val (.long q1), .second, .val (.int (0 : Int32)), .val (.int (1 : Int32)), .val (.int (1 : Int32))] []))
    refine GoW.st (fun t k => XS.iload X6.here hx rfl (hb hby d9_85) rfl (XS.istoreN X6.here hx rfl (hb hby d9_87) rfl (l' := #[.val (.ref a1), .val (.long q1), .second, .val (.int (1 : Int32)), .val (.int (1 : Int32)), .val (.int (1 : Int32))]) rfl (XS.goto X6.here hx rfl (pc0 := 88) (pc' := 10) rfl (hb hby d9_88) (by decide) (by decide) (XS.iloadN X6.here hx rfl (hb hby d9_10) rfl (XS.iload X6.here hx rfl (hb hby d9_11) rfl k))))) ?_
    show GoW p e below QQ (T6.setTop (mkF m 13 #[.val (.ref a1), .val (.long q1), .second, .val (.int (1 : Int32)), .val (.int (1 : Int32)), .val (.int (1 : Int32))] [(.int (1 : Int32)), (.int (1 : Int32))]))
    have hc13_2 : ¬ ((1 : Int32) < (1 : Int32)) := by decide
    refine GoW.st (fun t k => XS.icmpYes X6.here hx rfl (pc0 := 13) (pc' := 91) rfl (hb hby d9_13) rfl (flt hc13_2).2.1 (by decide) (by decide) (XS.aloadN X6.here hx rfl (hb hby d9_91) rfl rfl k)) ?_
    show GoW p e below QQ (T6.setTop (mkF m 92 #[.val (.ref a1), .val (.long q1), .second, .val (.int (1 : Int32)), .val (.int (1 : Int32)), .val (.int (1 : Int32))] [(.ref a1)]))
    obtain ⟨T8, X8, e8, st8⟩ := getF X6 hx hZ hown (host := "") (Or.inl (hw _ (List.mem_of_getElem? (i := 17) rfl))) Via.refl e6 f7_F_a1_values (g := (mkF m 92 #[.val (.ref a1), .val (.long q1), .second, .val (.int (1 : Int32)), .val (.int (1 : Int32)), .val (.int (1 : Int32))] [(.ref a1)])) rfl rfl (hb hby d9_92)
    refine GoW.st st8 ?_
    show GoW p e below QQ (T8.setTop (mkF m 95 #[.val (.ref a1), .val (.long q1), .second, .val (.int (1 : Int32)), .val (.int (1 : Int32)), .val (.int (1 : Int32))] [(.ref a2)]))
    refine GoW.st (fun t k => XS.iloadN X8.here hx rfl (hb hby d9_95) rfl (XS.lloadN X8.here hx rfl (hb hby d9_96) rfl k)) ?_
    show GoW p e below QQ (T8.setTop (mkF m 97 #[.val (.ref a1), .val (.long q1), .second, .val (.int (1 : Int32)), .val (.int (1 : Int32)), .val (.int (1 : Int32))] [(.long q1), (.int (1 : Int32)), (.ref a2)]))
    obtain ⟨T9, h9, X9, e9, W9, V9, st9⟩ := stVJ X8 hx hZ e8 f7_V_a2 ⟨by decide, own_lt_of (by omega)⟩ 1 rfl (Nat.le_of_ble_eq_true rfl) (g := (mkF m 97 #[.val (.ref a1), .val (.long q1), .second, .val (.int (1 : Int32)), .val (.int (1 : Int32)), .val (.int (1 : Int32))] [(.long q1), (.int (1 : Int32)), (.ref a2)])) rfl rfl (hb hby d9_97)
    refine GoW.st st9 ?_
    have f10_F_a1_values : Fld Z h9 a1 "com/example/eunomia/eunomia/sticky/LongHeap" "values" "[J" (.ref a2) := f7_F_a1_values.other W9 (Or.inl (Ne.symm pre_a2_a1))
    have f10_F_a1_size : Fld Z h9 a1 "com/example/eunomia/eunomia/sticky/LongHeap" "size" "I" (.int (2 : Int32)) := f7_F_a1_size.other W9 (Or.inl (Ne.symm pre_a2_a1))
    have f10_V_a2 : Arv Z h9 a2 ka .long z [(.long vb), (.long q1), (.long vc), (.long vd)] (.long (0 : Int64)) := V9
    have K9 : Keep h0 h9 [a2] := K6.wr W9 (Or.inl (List.mem_of_getElem? (i := 0) rfl))
    have N9 := Fr.snoc X9 N6 pre_g_a2
    show GoW p e below QQ (T9.setTop (mkF m 98 #[.val (.ref a1), .val (.long q1), .second, .val (.int (1 : Int32)), .val (.int (1 : Int32)), .val (.int (1 : Int32))] []))
    exact GoW.fin X9 none (fun _ => rfl) hlk hQ e9 ⟨vb, q1, vc, vd, rfl, N9, K9, f10_V_a2⟩ (by decide) (by decide) (fun fs hr => X9.returnOut hx hret (hb hby d9_98) hr)
  · skip
    refine GoW.st (fun t k => XS.ifNo X3.here hx rfl (hb hby d9_66) rfl ((if0 _ _).trans (flt (fun q => hc66 ((lw_gt q1 vb).mp q))).2.2.1) k) ?_
    show GoW p e below QQ (T3.setTop (mkF m 69 #[.val (.ref a1), .val (.long q1), .second, .val (.int (0 : Int32)), .val (.int (1 : Int32)), .val (.int (1 : Int32))] []))
    have hi66 : ¬ (vb.toInt < q1.toInt) := (fun q => hc66 (Int64.lt_iff_toInt_lt.mpr q))
    refine GoW.st (fun t k => XS.goto X3.here hx rfl (pc0 := 69) (pc' := 91) rfl (hb hby d9_69) (by decide) (by decide) (XS.aloadN X3.here hx rfl (hb hby d9_91) rfl rfl k)) ?_
    show GoW p e below QQ (T3.setTop (mkF m 92 #[.val (.ref a1), .val (.long q1), .second, .val (.int (0 : Int32)), .val (.int (1 : Int32)), .val (.int (1 : Int32))] [(.ref a1)]))
    obtain ⟨T11, X11, e11, st11⟩ := getF X3 hx hZ hown (host := "") (Or.inl (hw _ (List.mem_of_getElem? (i := 17) rfl))) Via.refl e3 pre_F_a1_values (g := (mkF m 92 #[.val (.ref a1), .val (.long q1), .second, .val (.int (0 : Int32)), .val (.int (1 : Int32)), .val (.int (1 : Int32))] [(.ref a1)])) rfl rfl (hb hby d9_92)
    refine GoW.st st11 ?_
    show GoW p e below QQ (T11.setTop (mkF m 95 #[.val (.ref a1), .val (.long q1), .second, .val (.int (0 : Int32)), .val (.int (1 : Int32)), .val (.int (1 : Int32))] [(.ref a2)]))
    refine GoW.st (fun t k => XS.iloadN X11.here hx rfl (hb hby d9_95) rfl (XS.lloadN X11.here hx rfl (hb hby d9_96) rfl k)) ?_
    show GoW p e below QQ (T11.setTop (mkF m 97 #[.val (.ref a1), .val (.long q1), .second, .val (.int (0 : Int32)), .val (.int (1 : Int32)), .val (.int (1 : Int32))] [(.long q1), (.int (0 : Int32)), (.ref a2)]))
    obtain ⟨T12, h12, X12, e12, W12, V12, st12⟩ := stVJ X11 hx hZ e11 pre_V_a2 ⟨by decide, own_lt_of (by omega)⟩ 0 rfl (Nat.le_of_ble_eq_true rfl) (g := (mkF m 97 #[.val (.ref a1), .val (.long q1), .second, .val (.int (0 : Int32)), .val (.int (1 : Int32)), .val (.int (1 : Int32))] [(.long q1), (.int (0 : Int32)), (.ref a2)])) rfl rfl (hb hby d9_97)
    refine GoW.st st12 ?_
    have f13_F_a1_values : Fld Z h12 a1 "com/example/eunomia/eunomia/sticky/LongHeap" "values" "[J" (.ref a2) := pre_F_a1_values.other W12 (Or.inl (Ne.symm pre_a2_a1))
    have f13_F_a1_size : Fld Z h12 a1 "com/example/eunomia/eunomia/sticky/LongHeap" "size" "I" (.int (2 : Int32)) := pre_F_a1_size.other W12 (Or.inl (Ne.symm pre_a2_a1))
    have f13_V_a2 : Arv Z h12 a2 ka .long z [(.long q1), (.long vb), (.long vc), (.long vd)] (.long (0 : Int64)) := V12
    have K12 : Keep h0 h12 [a2] := K0.wr W12 (Or.inl (List.mem_of_getElem? (i := 0) rfl))
    have N12 := Fr.snoc X12 N0 pre_g_a2
    show GoW p e below QQ (T12.setTop (mkF m 98 #[.val (.ref a1), .val (.long q1), .second, .val (.int (0 : Int32)), .val (.int (1 : Int32)), .val (.int (1 : Int32))] []))
    exact GoW.fin X12 none (fun _ => rfl) hlk hQ e12 ⟨q1, vb, vc, vd, rfl, N12, K12, f13_V_a2⟩ (by decide) (by decide) (fun fs hr => X12.returnOut hx hret (hb hby d9_98) hr)
theorem d8_0 : decode prog_40_method_5_code 0 = .ok (.aload_n 0, 1) := by decide +kernel
theorem d8_1 : decode prog_40_method_5_code 1 = .ok (.getfield 13, 3) := by decide +kernel
theorem d8_4 : decode prog_40_method_5_code 4 = .ok (.aload_n 0, 1) := by decide +kernel
theorem d8_5 : decode prog_40_method_5_code 5 = .ok (.dup, 1) := by decide +kernel
theorem d8_6 : decode prog_40_method_5_code 6 = .ok (.getfield 19, 3) := by decide +kernel
theorem d8_9 : decode prog_40_method_5_code 9 = .ok (.iconst 1, 1) := by decide +kernel
theorem d8_10 : decode prog_40_method_5_code 10 = .ok (.isub, 1) := by decide +kernel
theorem d8_11 : decode prog_40_method_5_code 11 = .ok (.dup_x1, 1) := by decide +kernel
theorem d8_12 : decode prog_40_method_5_code 12 = .ok (.putfield 19, 3) := by decide +kernel
theorem d8_15 : decode prog_40_method_5_code 15 = .ok (.laload, 1) := by decide +kernel
theorem d8_16 : decode prog_40_method_5_code 16 = .ok (.lstore_n 1, 1) := by decide +kernel
theorem d8_17 : decode prog_40_method_5_code 17 = .ok (.aload_n 0, 1) := by decide +kernel
theorem d8_18 : decode prog_40_method_5_code 18 = .ok (.getfield 19, 3) := by decide +kernel
theorem d8_21 : decode prog_40_method_5_code 21 = .ok (.ifCond .le 8, 3) := by decide +kernel
theorem d8_29 : decode prog_40_method_5_code 29 = .ok (.return_, 1) := by decide +kernel
def RM8_1 : Room := { frames := 0, cells := 0, slots := 0, locals := 0 }
def Q8_1 (Z : State) (a1 : Addr) (a2 : Addr) (ka : ClassId) (z : Int32) (va : Int64) (vb : Int64) (vc : Int64) (vd : Int64) (h0 : Heap) (n0 : Nat) (v : Option Value) (h : Heap) (L : List Loc) : Prop := ∃ (wa : Int64) (wb : Int64) (wc : Int64) (wd : Int64), v = none ∧ Fr n0 L ∧ Keep h0 h [a1, a2] ∧ (Exa Z h a1 "com/example/eunomia/eunomia/sticky/LongHeap") ∧ (Fld Z h a1 "com/example/eunomia/eunomia/sticky/LongHeap" "values" "[J" (.ref a2)) ∧ (Fld Z h a1 "com/example/eunomia/eunomia/sticky/LongHeap" "size" "I" (.int (0 : Int32))) ∧ (Arv Z h a2 ka .long z [(.long wa), (.long wb), (.long wc), (.long wd)] (.long (0 : Int64)))
set_option maxRecDepth 65536 in
set_option maxHeartbeats 40000000 in
theorem rm8_1 (l : Launch) (Z : State) (a0 : Array Value) (hw : ∀ d ∈ tables_1, d.before a0 Z = true) (ws : List Jvm.Cond) (a1 : Addr) (a2 : Addr) (ka : ClassId) (z : Int32) (va : Int64) (vb : Int64) (vc : Int64) (vd : Int64) (h0 : Heap) (n0 : Nat) (Z0 : n0 ≤ h0.size) (pre_E_a1 : Exa Z h0 a1 "com/example/eunomia/eunomia/sticky/LongHeap") (pre_g_a1 : n0 ≤ a1) (pre_g_a2 : n0 ≤ a2) (pre_a2_a1 : a2 ≠ a1) (pre_F_a1_values : Fld Z h0 a1 "com/example/eunomia/eunomia/sticky/LongHeap" "values" "[J" (.ref a2)) (pre_F_a1_size : Fld Z h0 a1 "com/example/eunomia/eunomia/sticky/LongHeap" "size" "I" (.int (1 : Int32))) (pre_V_a2 : Arv Z h0 a2 ka .long z [(.long va), (.long vb), (.long vc), (.long vd)] (.long (0 : Int64))) (hz : 1 ≤ z.toInt) :
    MetFree l (⟨"com/example/eunomia/eunomia/sticky/LongHeap", "remove", "()V"⟩ : MethodName) (head1 (Jvm.Cond.code (⟨"com/example/eunomia/eunomia/sticky/LongHeap", "remove", "()V"⟩ : MethodName) prog_40_method_5_code 3 none :: ws) RM8_1) (fun a U => a = #[(.ref a1)] ∧ Z.Warmed39 U.vm ∧ U.heap = h0) (fun _ _ _ _ _ => True) (fun _ U o U' => ∃ v L, o = .returned v ∧ Q8_1 Z a1 a2 ka z va vb vc vd h0 n0 v U'.heap L ∧ FrameEnd U o U' L RM8_1.cells RM8_1.slots) := by
  refine met_of (Q := fun v h L => Q8_1 Z a1 a2 ka z va vb vc vd h0 n0 v h L) (plainFor_of_name pn_0) (fun m => by first | (simp [entryFrame, mkF, argsToLocals, Value.category]; done) | rfl) (Ls := #[.val (.ref a1), .unset, .unset]) ?_
  intro p e s m below meth c T0 QQ hx hZ hby hml hown hnm hret hlk X0 e0 hQ
  have hml : c.maxLocals = 3 := hml
  have hown : s.vm.findClass "com/example/eunomia/eunomia/sticky/LongHeap" = some m.cls := hown
  have hnm : meth.name = "remove" := hnm
  have hret : meth.sig.returnType = none := hret
  have N0 := Fr.nil n0
  have K0 : Keep h0 h0 [a1, a2] := Keep.refl h0 _
  show GoW p e below QQ (T0.setTop (mkF m 0 #[.val (.ref a1), .unset, .unset] []))
  have z0 : (0 : Int32).toInt = 0 := rfl
  have z1 : (1 : Int32).toInt = 1 := rfl
  have z2 : (2 : Int32).toInt = 2 := rfl
  have z3 : (3 : Int32).toInt = 3 := rfl
  refine GoW.st (fun t k => XS.aloadN X0.here hx rfl (hb hby d8_0) rfl rfl k) ?_
  show GoW p e below QQ (T0.setTop (mkF m 1 #[.val (.ref a1), .unset, .unset] [(.ref a1)]))
  obtain ⟨T1, X1, e1, st1⟩ := getF X0 hx hZ hown (host := "") (Or.inl (hw _ (List.mem_of_getElem? (i := 17) rfl))) Via.refl e0 pre_F_a1_values (g := (mkF m 1 #[.val (.ref a1), .unset, .unset] [(.ref a1)])) rfl rfl (hb hby d8_1)
  refine GoW.st st1 ?_
  show GoW p e below QQ (T1.setTop (mkF m 4 #[.val (.ref a1), .unset, .unset] [(.ref a2)]))
  refine GoW.st (fun t k => XS.aloadN X1.here hx rfl (hb hby d8_4) rfl rfl (XS.dup X1.here hx rfl (hb hby d8_5) rfl rfl k)) ?_
  show GoW p e below QQ (T1.setTop (mkF m 6 #[.val (.ref a1), .unset, .unset] [(.ref a1), (.ref a1), (.ref a2)]))
  obtain ⟨T2, X2, e2, st2⟩ := getF X1 hx hZ hown (host := "") (Or.inl (hw _ (List.mem_of_getElem? (i := 24) rfl))) Via.refl e1 pre_F_a1_size (g := (mkF m 6 #[.val (.ref a1), .unset, .unset] [(.ref a1), (.ref a1), (.ref a2)])) rfl rfl (hb hby d8_6)
  refine GoW.st st2 ?_
  show GoW p e below QQ (T2.setTop (mkF m 9 #[.val (.ref a1), .unset, .unset] [(.int (1 : Int32)), (.ref a1), (.ref a2)]))
  refine GoW.st (fun t k => XS.iconst X2.here hx rfl (hb hby d8_9) (XS.isub X2.here hx rfl (hb hby d8_10) rfl (XS.dupX1 X2.here hx rfl (hb hby d8_11) rfl rfl rfl k))) ?_
  show GoW p e below QQ (T2.setTop (mkF m 12 #[.val (.ref a1), .unset, .unset] [(.int (0 : Int32)), (.ref a1), (.int (0 : Int32)), (.ref a2)]))
  obtain ⟨T3, h3, X3, e3, W3, st3⟩ := putF X2 hx hZ hown (host := "") (Or.inl (hw _ (List.mem_of_getElem? (i := 24) rfl))) Via.refl e2 pre_F_a1_size pre_E_a1 (Or.inl (hw _ (List.mem_of_getElem? (i := 25) rfl))) (hw _ (List.mem_of_getElem? (i := 5) rfl)) (ty := .int) (by decide) rfl rfl (g := (mkF m 12 #[.val (.ref a1), .unset, .unset] [(.int (0 : Int32)), (.ref a1), (.int (0 : Int32)), (.ref a2)])) rfl rfl (hb hby d8_12)
  refine GoW.st st3 ?_
  have f4_E_a1 : Exa Z h3 a1 "com/example/eunomia/eunomia/sticky/LongHeap" := pre_E_a1.wr W3
  have f4_F_a1_values : Fld Z h3 a1 "com/example/eunomia/eunomia/sticky/LongHeap" "values" "[J" (.ref a2) := pre_F_a1_values.other W3 (Or.inr (slot_ne (Or.inl (hw _ (List.mem_of_getElem? (i := 18) rfl))) (Or.inl (hw _ (List.mem_of_getElem? (i := 25) rfl))) (by decide) (t := (.array .long)) (t' := .int) (by decide) (by decide)))
  have f4_F_a1_size : Fld Z h3 a1 "com/example/eunomia/eunomia/sticky/LongHeap" "size" "I" (.int (0 : Int32)) := pre_F_a1_size.same W3
  have f4_V_a2 : Arv Z h3 a2 ka .long z [(.long va), (.long vb), (.long vc), (.long vd)] (.long (0 : Int64)) := pre_V_a2.other W3 pre_a2_a1
  have K3 : Keep h0 h3 [a1, a2] := K0.wr W3 (Or.inl (List.mem_of_getElem? (i := 0) rfl))
  have N3 := Fr.snoc X3 N0 pre_g_a1
  show GoW p e below QQ (T3.setTop (mkF m 15 #[.val (.ref a1), .unset, .unset] [(.int (0 : Int32)), (.ref a2)]))
  refine GoW.st (fun t k => ldVJ X3 hx hZ e3 f4_V_a2 (v := (.long va)) ⟨by decide, own_lt_of (by omega)⟩ rfl (g := (mkF m 15 #[.val (.ref a1), .unset, .unset] [(.int (0 : Int32)), (.ref a2)])) rfl rfl (hb hby d8_15) t (XS.lstoreN X3.here hx rfl (hb hby d8_16) rfl (l' := #[.val (.ref a1), .val (.long va), .second]) rfl (XS.aloadN X3.here hx rfl (hb hby d8_17) rfl rfl k))) ?_
  show GoW p e below QQ (T3.setTop (mkF m 18 #[.val (.ref a1), .val (.long va), .second] [(.ref a1)]))
  obtain ⟨T5, X5, e5, st5⟩ := getF X3 hx hZ hown (host := "") (Or.inl (hw _ (List.mem_of_getElem? (i := 24) rfl))) Via.refl e3 f4_F_a1_size (g := (mkF m 18 #[.val (.ref a1), .val (.long va), .second] [(.ref a1)])) rfl rfl (hb hby d8_18)
  refine GoW.st st5 ?_
  show GoW p e below QQ (T5.setTop (mkF m 21 #[.val (.ref a1), .val (.long va), .second] [(.int (0 : Int32))]))
  have hc21 : ¬ ((0 : Int32) < (0 : Int32)) := by decide
  refine GoW.st (fun t k => XS.ifYes X5.here hx rfl (pc0 := 21) (pc' := 29) rfl (hb hby d8_21) rfl ((if0 _ _).trans (flt hc21).2.2.2) (by decide) (by decide) k) ?_
  show GoW p e below QQ (T5.setTop (mkF m 29 #[.val (.ref a1), .val (.long va), .second] []))
  exact GoW.fin X5 none (fun _ => rfl) hlk hQ e5 ⟨va, vb, vc, vd, rfl, N3, K3, f4_E_a1, f4_F_a1_values, f4_F_a1_size, f4_V_a2⟩ (by decide) (by decide) (fun fs hr => X5.returnOut hx hret (hb hby d8_29) hr)
theorem d8_24 : decode prog_40_method_5_code 24 = .ok (.aload_n 0, 1) := by decide +kernel
theorem d8_25 : decode prog_40_method_5_code 25 = .ok (.lload_n 1, 1) := by decide +kernel
theorem d8_26 : decode prog_40_method_5_code 26 = .ok (.invokevirtual 29, 3) := by decide +kernel
theorem pd_2 : parseMethodDescriptor "(J)V" = some ⟨[.long], none⟩ := by decide +kernel
def RM8_2 : Room := { frames := 1, cells := 0, slots := 0, locals := 17 }
def Q8_2 (Z : State) (a1 : Addr) (a2 : Addr) (ka : ClassId) (z : Int32) (va : Int64) (vb : Int64) (vc : Int64) (vd : Int64) (h0 : Heap) (n0 : Nat) (v : Option Value) (h : Heap) (L : List Loc) : Prop := ∃ (wa : Int64) (wb : Int64) (wc : Int64) (wd : Int64), v = none ∧ Fr n0 L ∧ Keep h0 h [a1, a2] ∧ (Exa Z h a1 "com/example/eunomia/eunomia/sticky/LongHeap") ∧ (Fld Z h a1 "com/example/eunomia/eunomia/sticky/LongHeap" "values" "[J" (.ref a2)) ∧ (Fld Z h a1 "com/example/eunomia/eunomia/sticky/LongHeap" "size" "I" (.int (1 : Int32))) ∧ (Arv Z h a2 ka .long z [(.long wa), (.long wb), (.long wc), (.long wd)] (.long (0 : Int64)))
set_option maxRecDepth 65536 in
set_option maxHeartbeats 40000000 in
theorem rm8_2 (l : Launch) (Z : State) (a0 : Array Value) (hw : ∀ d ∈ tables_1, d.before a0 Z = true) (ws : List Jvm.Cond) (a1 : Addr) (a2 : Addr) (ka : ClassId) (z : Int32) (va : Int64) (vb : Int64) (vc : Int64) (vd : Int64) (h0 : Heap) (n0 : Nat) (Z0 : n0 ≤ h0.size) (pre_E_a1 : Exa Z h0 a1 "com/example/eunomia/eunomia/sticky/LongHeap") (pre_g_a1 : n0 ≤ a1) (pre_g_a2 : n0 ≤ a2) (pre_a2_a1 : a2 ≠ a1) (pre_F_a1_values : Fld Z h0 a1 "com/example/eunomia/eunomia/sticky/LongHeap" "values" "[J" (.ref a2)) (pre_F_a1_size : Fld Z h0 a1 "com/example/eunomia/eunomia/sticky/LongHeap" "size" "I" (.int (2 : Int32))) (pre_V_a2 : Arv Z h0 a2 ka .long z [(.long va), (.long vb), (.long vc), (.long vd)] (.long (0 : Int64))) (hz : 2 ≤ z.toInt) :
    MetFree l (⟨"com/example/eunomia/eunomia/sticky/LongHeap", "remove", "()V"⟩ : MethodName) (head1 (Jvm.Cond.code (⟨"com/example/eunomia/eunomia/sticky/LongHeap", "remove", "()V"⟩ : MethodName) prog_40_method_5_code 3 none :: ws) RM8_2) (fun a U => a = #[(.ref a1)] ∧ Z.Warmed39 U.vm ∧ U.heap = h0) (fun _ _ _ _ _ => True) (fun _ U o U' => ∃ v L, o = .returned v ∧ Q8_2 Z a1 a2 ka z va vb vc vd h0 n0 v U'.heap L ∧ FrameEnd U o U' L RM8_2.cells RM8_2.slots) := by
  refine met_of (Q := fun v h L => Q8_2 Z a1 a2 ka z va vb vc vd h0 n0 v h L) (plainFor_of_name pn_0) (fun m => by first | (simp [entryFrame, mkF, argsToLocals, Value.category]; done) | rfl) (Ls := #[.val (.ref a1), .unset, .unset]) ?_
  intro p e s m below meth c T0 QQ hx hZ hby hml hown hnm hret hlk X0 e0 hQ
  have hml : c.maxLocals = 3 := hml
  have hown : s.vm.findClass "com/example/eunomia/eunomia/sticky/LongHeap" = some m.cls := hown
  have hnm : meth.name = "remove" := hnm
  have hret : meth.sig.returnType = none := hret
  have N0 := Fr.nil n0
  have K0 : Keep h0 h0 [a1, a2] := Keep.refl h0 _
  show GoW p e below QQ (T0.setTop (mkF m 0 #[.val (.ref a1), .unset, .unset] []))
  have z0 : (0 : Int32).toInt = 0 := rfl
  have z1 : (1 : Int32).toInt = 1 := rfl
  have z2 : (2 : Int32).toInt = 2 := rfl
  have z3 : (3 : Int32).toInt = 3 := rfl
  refine GoW.st (fun t k => XS.aloadN X0.here hx rfl (hb hby d8_0) rfl rfl k) ?_
  show GoW p e below QQ (T0.setTop (mkF m 1 #[.val (.ref a1), .unset, .unset] [(.ref a1)]))
  obtain ⟨T1, X1, e1, st1⟩ := getF X0 hx hZ hown (host := "") (Or.inl (hw _ (List.mem_of_getElem? (i := 17) rfl))) Via.refl e0 pre_F_a1_values (g := (mkF m 1 #[.val (.ref a1), .unset, .unset] [(.ref a1)])) rfl rfl (hb hby d8_1)
  refine GoW.st st1 ?_
  show GoW p e below QQ (T1.setTop (mkF m 4 #[.val (.ref a1), .unset, .unset] [(.ref a2)]))
  refine GoW.st (fun t k => XS.aloadN X1.here hx rfl (hb hby d8_4) rfl rfl (XS.dup X1.here hx rfl (hb hby d8_5) rfl rfl k)) ?_
  show GoW p e below QQ (T1.setTop (mkF m 6 #[.val (.ref a1), .unset, .unset] [(.ref a1), (.ref a1), (.ref a2)]))
  obtain ⟨T2, X2, e2, st2⟩ := getF X1 hx hZ hown (host := "") (Or.inl (hw _ (List.mem_of_getElem? (i := 24) rfl))) Via.refl e1 pre_F_a1_size (g := (mkF m 6 #[.val (.ref a1), .unset, .unset] [(.ref a1), (.ref a1), (.ref a2)])) rfl rfl (hb hby d8_6)
  refine GoW.st st2 ?_
  show GoW p e below QQ (T2.setTop (mkF m 9 #[.val (.ref a1), .unset, .unset] [(.int (2 : Int32)), (.ref a1), (.ref a2)]))
  refine GoW.st (fun t k => XS.iconst X2.here hx rfl (hb hby d8_9) (XS.isub X2.here hx rfl (hb hby d8_10) rfl (XS.dupX1 X2.here hx rfl (hb hby d8_11) rfl rfl rfl k))) ?_
  show GoW p e below QQ (T2.setTop (mkF m 12 #[.val (.ref a1), .unset, .unset] [(.int (1 : Int32)), (.ref a1), (.int (1 : Int32)), (.ref a2)]))
  obtain ⟨T3, h3, X3, e3, W3, st3⟩ := putF X2 hx hZ hown (host := "") (Or.inl (hw _ (List.mem_of_getElem? (i := 24) rfl))) Via.refl e2 pre_F_a1_size pre_E_a1 (Or.inl (hw _ (List.mem_of_getElem? (i := 25) rfl))) (hw _ (List.mem_of_getElem? (i := 5) rfl)) (ty := .int) (by decide) rfl rfl (g := (mkF m 12 #[.val (.ref a1), .unset, .unset] [(.int (1 : Int32)), (.ref a1), (.int (1 : Int32)), (.ref a2)])) rfl rfl (hb hby d8_12)
  refine GoW.st st3 ?_
  have f4_E_a1 : Exa Z h3 a1 "com/example/eunomia/eunomia/sticky/LongHeap" := pre_E_a1.wr W3
  have f4_F_a1_values : Fld Z h3 a1 "com/example/eunomia/eunomia/sticky/LongHeap" "values" "[J" (.ref a2) := pre_F_a1_values.other W3 (Or.inr (slot_ne (Or.inl (hw _ (List.mem_of_getElem? (i := 18) rfl))) (Or.inl (hw _ (List.mem_of_getElem? (i := 25) rfl))) (by decide) (t := (.array .long)) (t' := .int) (by decide) (by decide)))
  have f4_F_a1_size : Fld Z h3 a1 "com/example/eunomia/eunomia/sticky/LongHeap" "size" "I" (.int (1 : Int32)) := pre_F_a1_size.same W3
  have f4_V_a2 : Arv Z h3 a2 ka .long z [(.long va), (.long vb), (.long vc), (.long vd)] (.long (0 : Int64)) := pre_V_a2.other W3 pre_a2_a1
  have K3 : Keep h0 h3 [a1, a2] := K0.wr W3 (Or.inl (List.mem_of_getElem? (i := 0) rfl))
  have N3 := Fr.snoc X3 N0 pre_g_a1
  show GoW p e below QQ (T3.setTop (mkF m 15 #[.val (.ref a1), .unset, .unset] [(.int (1 : Int32)), (.ref a2)]))
  refine GoW.st (fun t k => ldVJ X3 hx hZ e3 f4_V_a2 (v := (.long vb)) ⟨by decide, own_lt_of (by omega)⟩ rfl (g := (mkF m 15 #[.val (.ref a1), .unset, .unset] [(.int (1 : Int32)), (.ref a2)])) rfl rfl (hb hby d8_15) t (XS.lstoreN X3.here hx rfl (hb hby d8_16) rfl (l' := #[.val (.ref a1), .val (.long vb), .second]) rfl (XS.aloadN X3.here hx rfl (hb hby d8_17) rfl rfl k))) ?_
  show GoW p e below QQ (T3.setTop (mkF m 18 #[.val (.ref a1), .val (.long vb), .second] [(.ref a1)]))
  obtain ⟨T5, X5, e5, st5⟩ := getF X3 hx hZ hown (host := "") (Or.inl (hw _ (List.mem_of_getElem? (i := 24) rfl))) Via.refl e3 f4_F_a1_size (g := (mkF m 18 #[.val (.ref a1), .val (.long vb), .second] [(.ref a1)])) rfl rfl (hb hby d8_18)
  refine GoW.st st5 ?_
  show GoW p e below QQ (T5.setTop (mkF m 21 #[.val (.ref a1), .val (.long vb), .second] [(.int (1 : Int32))]))
  have hc21 : (0 : Int32) < (1 : Int32) := by decide
  refine GoW.st (fun t k => XS.ifNo X5.here hx rfl (hb hby d8_21) rfl ((if0 _ _).trans (tlt hc21).2.2.2) (XS.aloadN X5.here hx rfl (hb hby d8_24) rfl rfl (XS.lloadN X5.here hx rfl (hb hby d8_25) rfl k))) ?_
  show GoW p e below QQ (T5.setTop (mkF m 26 #[.val (.ref a1), .val (.long vb), .second] [(.long vb), (.ref a1)]))
  obtain ⟨cq6, qa6, qb6⟩ := f4_E_a1.cell
  obtain ⟨_, _, ⟨T6, zL6, zk6, zn6⟩, -, X6, ⟨Lc6, hQ6, zl6, zy6, zz6⟩, st6⟩ := X5.privateBack hx (y := (⟨"com/example/eunomia/eunomia/sticky/LongHeap", "siftDown", "(J)V"⟩ : MethodName)) hown (mvT hZ (hw _ (List.mem_of_getElem? (i := 45) rfl))) (mvT hZ (hw _ (List.mem_of_getElem? (i := 46) rfl))) (selOwn (mvT hZ (hw _ (List.mem_of_getElem? (i := 46) rfl))) (Cond.privateMethod_at (mvP hZ (hw _ (List.mem_of_getElem? (i := 47) rfl)) (args := #[]))) (mvT hZ (hw _ (List.mem_of_getElem? (i := 22) rfl))) rfl (by decide)) (Cond.privateMethod_at (mvP hZ (hw _ (List.mem_of_getElem? (i := 47) rfl)) (args := #[]))) (mvT hZ (hw _ (List.mem_of_getElem? (i := 48) rfl))) (by decide) (backOf (W := 0) (rm9_1 l Z a0 hw [] a1 vb a2 ka z va vb vc vd h3 n0 (Nat.le_trans Z0 K3.1) pre_g_a2 pre_a2_a1 f4_F_a1_values f4_F_a1_size f4_V_a2 (by omega)) hZ (hw _ (List.mem_of_getElem? (i := 48) rfl)) (hw _ (List.mem_of_getElem? (i := 6) rfl)) (by decide) (by decide)) (g := (mkF m 26 #[.val (.ref a1), .val (.long vb), .second] [(.long vb), (.ref a1)])) rfl (by rw [hml]; rfl) (Steps.refl _) (a := a1) (by rw [e5]; exact qa6) qb6 (argsL := [(.long vb)]) (rest := []) (lenOf pd_2 rfl) rfl (by show 2 * 0 + _ ≤ _; exact Nat.le_of_eq rfl) (hb hby d8_26) (fun _ _ => ⟨rfl, e5, (by decide : 0 + 0 ≤ _), (by decide : 0 + 0 ≤ _)⟩)
  dsimp only [Pt.U, Pt.locs, Pt.cells, Pt.slots] at X6 zl6 zy6 zz6 st6 hQ6
  subst zl6 zy6 zz6
  obtain ⟨wa_26, wb_26, wc_26, wd_26, rfl, Nq6, Kq6, p6_0⟩ := hQ6
  have N6 := Fr.app N3 Nq6
  refine GoW.st (fun t k => st6.trans k) ?_
  have f7_E_a1 : Exa Z T6.heap a1 "com/example/eunomia/eunomia/sticky/LongHeap" := f4_E_a1.keep Kq6
  have f7_F_a1_values : Fld Z T6.heap a1 "com/example/eunomia/eunomia/sticky/LongHeap" "values" "[J" (.ref a2) := f4_F_a1_values.keep Kq6 (ninS (Ne.symm pre_a2_a1) nin0)
  have f7_F_a1_size : Fld Z T6.heap a1 "com/example/eunomia/eunomia/sticky/LongHeap" "size" "I" (.int (1 : Int32)) := f4_F_a1_size.keep Kq6 (ninS (Ne.symm pre_a2_a1) nin0)
  have K6 : Keep h0 T6.heap [a1, a2] := K3.trans Kq6 (allS (Or.inl (List.mem_of_getElem? (i := 1) rfl)) all0)
  show GoW p e below QQ (T6.setTop (mkF m 29 #[.val (.ref a1), .val (.long vb), .second] []))
  exact GoW.fin X6 none (fun _ => rfl) hlk hQ rfl ⟨wa_26, wb_26, wc_26, wd_26, rfl, N6, K6, f7_E_a1, f7_F_a1_values, f7_F_a1_size, p6_0⟩ (by decide) (by decide) (fun fs hr => X6.returnOut hx hret (hb hby d8_29) hr)
def RM8_3 : Room := { frames := 1, cells := 0, slots := 0, locals := 17 }
def Q8_3 (Z : State) (a1 : Addr) (a2 : Addr) (ka : ClassId) (z : Int32) (va : Int64) (vb : Int64) (vc : Int64) (vd : Int64) (h0 : Heap) (n0 : Nat) (v : Option Value) (h : Heap) (L : List Loc) : Prop := ∃ (wa : Int64) (wb : Int64) (wc : Int64) (wd : Int64), v = none ∧ Fr n0 L ∧ Keep h0 h [a1, a2] ∧ (Exa Z h a1 "com/example/eunomia/eunomia/sticky/LongHeap") ∧ (Fld Z h a1 "com/example/eunomia/eunomia/sticky/LongHeap" "values" "[J" (.ref a2)) ∧ (Fld Z h a1 "com/example/eunomia/eunomia/sticky/LongHeap" "size" "I" (.int (2 : Int32))) ∧ (Arv Z h a2 ka .long z [(.long wa), (.long wb), (.long wc), (.long wd)] (.long (0 : Int64)))
set_option maxRecDepth 65536 in
set_option maxHeartbeats 40000000 in
theorem rm8_3 (l : Launch) (Z : State) (a0 : Array Value) (hw : ∀ d ∈ tables_1, d.before a0 Z = true) (ws : List Jvm.Cond) (a1 : Addr) (a2 : Addr) (ka : ClassId) (z : Int32) (va : Int64) (vb : Int64) (vc : Int64) (vd : Int64) (h0 : Heap) (n0 : Nat) (Z0 : n0 ≤ h0.size) (pre_E_a1 : Exa Z h0 a1 "com/example/eunomia/eunomia/sticky/LongHeap") (pre_g_a1 : n0 ≤ a1) (pre_g_a2 : n0 ≤ a2) (pre_a2_a1 : a2 ≠ a1) (pre_F_a1_values : Fld Z h0 a1 "com/example/eunomia/eunomia/sticky/LongHeap" "values" "[J" (.ref a2)) (pre_F_a1_size : Fld Z h0 a1 "com/example/eunomia/eunomia/sticky/LongHeap" "size" "I" (.int (3 : Int32))) (pre_V_a2 : Arv Z h0 a2 ka .long z [(.long va), (.long vb), (.long vc), (.long vd)] (.long (0 : Int64))) (hz : 3 ≤ z.toInt) :
    MetFree l (⟨"com/example/eunomia/eunomia/sticky/LongHeap", "remove", "()V"⟩ : MethodName) (head1 (Jvm.Cond.code (⟨"com/example/eunomia/eunomia/sticky/LongHeap", "remove", "()V"⟩ : MethodName) prog_40_method_5_code 3 none :: ws) RM8_3) (fun a U => a = #[(.ref a1)] ∧ Z.Warmed39 U.vm ∧ U.heap = h0) (fun _ _ _ _ _ => True) (fun _ U o U' => ∃ v L, o = .returned v ∧ Q8_3 Z a1 a2 ka z va vb vc vd h0 n0 v U'.heap L ∧ FrameEnd U o U' L RM8_3.cells RM8_3.slots) := by
  refine met_of (Q := fun v h L => Q8_3 Z a1 a2 ka z va vb vc vd h0 n0 v h L) (plainFor_of_name pn_0) (fun m => by first | (simp [entryFrame, mkF, argsToLocals, Value.category]; done) | rfl) (Ls := #[.val (.ref a1), .unset, .unset]) ?_
  intro p e s m below meth c T0 QQ hx hZ hby hml hown hnm hret hlk X0 e0 hQ
  have hml : c.maxLocals = 3 := hml
  have hown : s.vm.findClass "com/example/eunomia/eunomia/sticky/LongHeap" = some m.cls := hown
  have hnm : meth.name = "remove" := hnm
  have hret : meth.sig.returnType = none := hret
  have N0 := Fr.nil n0
  have K0 : Keep h0 h0 [a1, a2] := Keep.refl h0 _
  show GoW p e below QQ (T0.setTop (mkF m 0 #[.val (.ref a1), .unset, .unset] []))
  have z0 : (0 : Int32).toInt = 0 := rfl
  have z1 : (1 : Int32).toInt = 1 := rfl
  have z2 : (2 : Int32).toInt = 2 := rfl
  have z3 : (3 : Int32).toInt = 3 := rfl
  refine GoW.st (fun t k => XS.aloadN X0.here hx rfl (hb hby d8_0) rfl rfl k) ?_
  show GoW p e below QQ (T0.setTop (mkF m 1 #[.val (.ref a1), .unset, .unset] [(.ref a1)]))
  obtain ⟨T1, X1, e1, st1⟩ := getF X0 hx hZ hown (host := "") (Or.inl (hw _ (List.mem_of_getElem? (i := 17) rfl))) Via.refl e0 pre_F_a1_values (g := (mkF m 1 #[.val (.ref a1), .unset, .unset] [(.ref a1)])) rfl rfl (hb hby d8_1)
  refine GoW.st st1 ?_
  show GoW p e below QQ (T1.setTop (mkF m 4 #[.val (.ref a1), .unset, .unset] [(.ref a2)]))
  refine GoW.st (fun t k => XS.aloadN X1.here hx rfl (hb hby d8_4) rfl rfl (XS.dup X1.here hx rfl (hb hby d8_5) rfl rfl k)) ?_
  show GoW p e below QQ (T1.setTop (mkF m 6 #[.val (.ref a1), .unset, .unset] [(.ref a1), (.ref a1), (.ref a2)]))
  obtain ⟨T2, X2, e2, st2⟩ := getF X1 hx hZ hown (host := "") (Or.inl (hw _ (List.mem_of_getElem? (i := 24) rfl))) Via.refl e1 pre_F_a1_size (g := (mkF m 6 #[.val (.ref a1), .unset, .unset] [(.ref a1), (.ref a1), (.ref a2)])) rfl rfl (hb hby d8_6)
  refine GoW.st st2 ?_
  show GoW p e below QQ (T2.setTop (mkF m 9 #[.val (.ref a1), .unset, .unset] [(.int (3 : Int32)), (.ref a1), (.ref a2)]))
  refine GoW.st (fun t k => XS.iconst X2.here hx rfl (hb hby d8_9) (XS.isub X2.here hx rfl (hb hby d8_10) rfl (XS.dupX1 X2.here hx rfl (hb hby d8_11) rfl rfl rfl k))) ?_
  show GoW p e below QQ (T2.setTop (mkF m 12 #[.val (.ref a1), .unset, .unset] [(.int (2 : Int32)), (.ref a1), (.int (2 : Int32)), (.ref a2)]))
  obtain ⟨T3, h3, X3, e3, W3, st3⟩ := putF X2 hx hZ hown (host := "") (Or.inl (hw _ (List.mem_of_getElem? (i := 24) rfl))) Via.refl e2 pre_F_a1_size pre_E_a1 (Or.inl (hw _ (List.mem_of_getElem? (i := 25) rfl))) (hw _ (List.mem_of_getElem? (i := 5) rfl)) (ty := .int) (by decide) rfl rfl (g := (mkF m 12 #[.val (.ref a1), .unset, .unset] [(.int (2 : Int32)), (.ref a1), (.int (2 : Int32)), (.ref a2)])) rfl rfl (hb hby d8_12)
  refine GoW.st st3 ?_
  have f4_E_a1 : Exa Z h3 a1 "com/example/eunomia/eunomia/sticky/LongHeap" := pre_E_a1.wr W3
  have f4_F_a1_values : Fld Z h3 a1 "com/example/eunomia/eunomia/sticky/LongHeap" "values" "[J" (.ref a2) := pre_F_a1_values.other W3 (Or.inr (slot_ne (Or.inl (hw _ (List.mem_of_getElem? (i := 18) rfl))) (Or.inl (hw _ (List.mem_of_getElem? (i := 25) rfl))) (by decide) (t := (.array .long)) (t' := .int) (by decide) (by decide)))
  have f4_F_a1_size : Fld Z h3 a1 "com/example/eunomia/eunomia/sticky/LongHeap" "size" "I" (.int (2 : Int32)) := pre_F_a1_size.same W3
  have f4_V_a2 : Arv Z h3 a2 ka .long z [(.long va), (.long vb), (.long vc), (.long vd)] (.long (0 : Int64)) := pre_V_a2.other W3 pre_a2_a1
  have K3 : Keep h0 h3 [a1, a2] := K0.wr W3 (Or.inl (List.mem_of_getElem? (i := 0) rfl))
  have N3 := Fr.snoc X3 N0 pre_g_a1
  show GoW p e below QQ (T3.setTop (mkF m 15 #[.val (.ref a1), .unset, .unset] [(.int (2 : Int32)), (.ref a2)]))
  refine GoW.st (fun t k => ldVJ X3 hx hZ e3 f4_V_a2 (v := (.long vc)) ⟨by decide, own_lt_of (by omega)⟩ rfl (g := (mkF m 15 #[.val (.ref a1), .unset, .unset] [(.int (2 : Int32)), (.ref a2)])) rfl rfl (hb hby d8_15) t (XS.lstoreN X3.here hx rfl (hb hby d8_16) rfl (l' := #[.val (.ref a1), .val (.long vc), .second]) rfl (XS.aloadN X3.here hx rfl (hb hby d8_17) rfl rfl k))) ?_
  show GoW p e below QQ (T3.setTop (mkF m 18 #[.val (.ref a1), .val (.long vc), .second] [(.ref a1)]))
  obtain ⟨T5, X5, e5, st5⟩ := getF X3 hx hZ hown (host := "") (Or.inl (hw _ (List.mem_of_getElem? (i := 24) rfl))) Via.refl e3 f4_F_a1_size (g := (mkF m 18 #[.val (.ref a1), .val (.long vc), .second] [(.ref a1)])) rfl rfl (hb hby d8_18)
  refine GoW.st st5 ?_
  show GoW p e below QQ (T5.setTop (mkF m 21 #[.val (.ref a1), .val (.long vc), .second] [(.int (2 : Int32))]))
  have hc21 : (0 : Int32) < (2 : Int32) := by decide
  refine GoW.st (fun t k => XS.ifNo X5.here hx rfl (hb hby d8_21) rfl ((if0 _ _).trans (tlt hc21).2.2.2) (XS.aloadN X5.here hx rfl (hb hby d8_24) rfl rfl (XS.lloadN X5.here hx rfl (hb hby d8_25) rfl k))) ?_
  show GoW p e below QQ (T5.setTop (mkF m 26 #[.val (.ref a1), .val (.long vc), .second] [(.long vc), (.ref a1)]))
  obtain ⟨cq6, qa6, qb6⟩ := f4_E_a1.cell
  obtain ⟨_, _, ⟨T6, zL6, zk6, zn6⟩, -, X6, ⟨Lc6, hQ6, zl6, zy6, zz6⟩, st6⟩ := X5.privateBack hx (y := (⟨"com/example/eunomia/eunomia/sticky/LongHeap", "siftDown", "(J)V"⟩ : MethodName)) hown (mvT hZ (hw _ (List.mem_of_getElem? (i := 45) rfl))) (mvT hZ (hw _ (List.mem_of_getElem? (i := 46) rfl))) (selOwn (mvT hZ (hw _ (List.mem_of_getElem? (i := 46) rfl))) (Cond.privateMethod_at (mvP hZ (hw _ (List.mem_of_getElem? (i := 47) rfl)) (args := #[]))) (mvT hZ (hw _ (List.mem_of_getElem? (i := 22) rfl))) rfl (by decide)) (Cond.privateMethod_at (mvP hZ (hw _ (List.mem_of_getElem? (i := 47) rfl)) (args := #[]))) (mvT hZ (hw _ (List.mem_of_getElem? (i := 48) rfl))) (by decide) (backOf (W := 0) (rm9_2 l Z a0 hw [] a1 vc a2 ka z va vb vc vd h3 n0 (Nat.le_trans Z0 K3.1) pre_g_a2 pre_a2_a1 f4_F_a1_values f4_F_a1_size f4_V_a2 (by omega)) hZ (hw _ (List.mem_of_getElem? (i := 48) rfl)) (hw _ (List.mem_of_getElem? (i := 6) rfl)) (by decide) (by decide)) (g := (mkF m 26 #[.val (.ref a1), .val (.long vc), .second] [(.long vc), (.ref a1)])) rfl (by rw [hml]; rfl) (Steps.refl _) (a := a1) (by rw [e5]; exact qa6) qb6 (argsL := [(.long vc)]) (rest := []) (lenOf pd_2 rfl) rfl (by show 2 * 0 + _ ≤ _; exact Nat.le_of_eq rfl) (hb hby d8_26) (fun _ _ => ⟨rfl, e5, (by decide : 0 + 0 ≤ _), (by decide : 0 + 0 ≤ _)⟩)
  dsimp only [Pt.U, Pt.locs, Pt.cells, Pt.slots] at X6 zl6 zy6 zz6 st6 hQ6
  subst zl6 zy6 zz6
  obtain ⟨wa_26, wb_26, wc_26, wd_26, rfl, Nq6, Kq6, p6_0⟩ := hQ6
  have N6 := Fr.app N3 Nq6
  refine GoW.st (fun t k => st6.trans k) ?_
  have f7_E_a1 : Exa Z T6.heap a1 "com/example/eunomia/eunomia/sticky/LongHeap" := f4_E_a1.keep Kq6
  have f7_F_a1_values : Fld Z T6.heap a1 "com/example/eunomia/eunomia/sticky/LongHeap" "values" "[J" (.ref a2) := f4_F_a1_values.keep Kq6 (ninS (Ne.symm pre_a2_a1) nin0)
  have f7_F_a1_size : Fld Z T6.heap a1 "com/example/eunomia/eunomia/sticky/LongHeap" "size" "I" (.int (2 : Int32)) := f4_F_a1_size.keep Kq6 (ninS (Ne.symm pre_a2_a1) nin0)
  have K6 : Keep h0 T6.heap [a1, a2] := K3.trans Kq6 (allS (Or.inl (List.mem_of_getElem? (i := 1) rfl)) all0)
  show GoW p e below QQ (T6.setTop (mkF m 29 #[.val (.ref a1), .val (.long vc), .second] []))
  exact GoW.fin X6 none (fun _ => rfl) hlk hQ rfl ⟨wa_26, wb_26, wc_26, wd_26, rfl, N6, K6, f7_E_a1, f7_F_a1_values, f7_F_a1_size, p6_0⟩ (by decide) (by decide) (fun fs hr => X6.returnOut hx hret (hb hby d8_29) hr)
theorem own_minI_i (x y : Int32) : (own_minI x y).toInt = min x.toInt y.toInt := by
  rw [own_minI]
  split
  · rename_i h; rw [Int32.lt_iff_toInt_lt] at h; omega
  · rename_i h; rw [Int32.lt_iff_toInt_lt] at h; omega
theorem pn_2 : plainName "com/example/eunomia/eunomia/sticky/LongHeapIsEmptyPinLaw" = true := by first | (simp [plainName, overriddenIn]; done) | decide +kernel
theorem pd_3 : parseMethodDescriptor "(I)V" = some ⟨[.int], none⟩ := by decide +kernel
theorem pd_4 : parseMethodDescriptor "()Z" = some ⟨[], some .boolean⟩ := by decide +kernel
theorem pd_5 : parseMethodDescriptor "()V" = some ⟨[], none⟩ := by decide +kernel
def Q0 (Z : State) (p1 : Int32) (p2 : Int32) (q3 : Int64) (q4 : Int64) (q5 : Int64) (h0 : Heap) (n0 : Nat) (v : Option Value) (h : Heap) (L : List Loc) : Prop := v = some (.int (1 : Int32)) ∧ Fr n0 L
set_option maxRecDepth 65536 in
set_option maxHeartbeats 40000000 in
theorem rm0 (l : Launch) (Z : State) (a0 : Array Value) (hw : ∀ d ∈ tables_1, d.before a0 Z = true) (ws : List Jvm.Cond) (p1 : Int32) (p2 : Int32) (q3 : Int64) (q4 : Int64) (q5 : Int64) (h0 : Heap) (n0 : Nat) (Z0 : n0 ≤ h0.size) (Z1 : h0.size ≤ n0)  :
    MetFree l x (head1 (Jvm.Cond.code x code maxLocals ret :: ws) room_1) (fun a U => a = #[(.int p1), (.int p2), (.long q3), (.long q4), (.long q5)] ∧ Z.Warmed39 U.vm ∧ U.heap = h0) (fun _ _ _ _ _ => True) (fun _ U o U' => ∃ v L, o = .returned v ∧ Q0 Z p1 p2 q3 q4 q5 h0 n0 v U'.heap L ∧ FrameEnd U o U' L 16 128) := by
  refine met_of (Q := fun v h L => Q0 Z p1 p2 q3 q4 q5 h0 n0 v h L) (plainFor_of_name pn_2) (fun m => by first | (simp [entryFrame, mkF, argsToLocals, Value.category, maxLocals]; done) | rfl) (Ls := #[.val (.int p1), .val (.int p2), .val (.long q3), .second, .val (.long q4), .second, .val (.long q5), .second, .unset, .unset, .unset, .unset, .unset]) ?_
  intro p e s m below meth c T0 QQ hx hZ hby hml hown hnm hret hlk X0 e0 hQ
  have hml : c.maxLocals = 13 := hml
  have hown : s.vm.findClass "com/example/eunomia/eunomia/sticky/LongHeapIsEmptyPinLaw" = some m.cls := hown
  have hnm : meth.name = "law" := hnm
  have hret : meth.sig.returnType = some .boolean := hret
  have N0 := Fr.nil n0
  have K0 : Keep h0 h0 [] := Keep.refl h0 _
  show GoW p e below QQ (T0.setTop (mkF m 0 #[.val (.int p1), .val (.int p2), .val (.long q3), .second, .val (.long q4), .second, .val (.long q5), .second, .unset, .unset, .unset, .unset, .unset] []))
  refine GoW.st (fun t k => XS.iloadN X0.here hx rfl (hb hby at_0) rfl (XS.bipush X0.here hx rfl (hb hby at_1) (iremM X0 hx rfl (hb hby at_3) rfl (by decide) (XS.istore X0.here hx rfl (hb hby at_4) rfl (l' := #[.val (.int p1), .val (.int p2), .val (.long q3), .second, .val (.long q4), .second, .val (.long q5), .second, .val (.int (p1 % (8 : Int32))), .unset, .unset, .unset, .unset]) rfl k)))) ?_
  show GoW p e below QQ (T0.setTop (mkF m 6 #[.val (.int p1), .val (.int p2), .val (.long q3), .second, .val (.long q4), .second, .val (.long q5), .second, .val (.int (p1 % (8 : Int32))), .unset, .unset, .unset, .unset] []))
  generalize hv4 : (p1 % (8 : Int32)) = v4
  refine GoW.st (fun t k => XS.iloadN X0.here hx rfl (hb hby at_6) rfl (XS.iconst X0.here hx rfl (hb hby at_7) (XS.iand X0.here hx rfl (hb hby at_8) rfl (XS.istore X0.here hx rfl (hb hby at_9) rfl (l' := #[.val (.int p1), .val (.int p2), .val (.long q3), .second, .val (.long q4), .second, .val (.long q5), .second, .val (.int v4), .val (.int (p2 &&& (3 : Int32))), .unset, .unset, .unset]) rfl k)))) ?_
  show GoW p e below QQ (T0.setTop (mkF m 11 #[.val (.int p1), .val (.int p2), .val (.long q3), .second, .val (.long q4), .second, .val (.long q5), .second, .val (.int v4), .val (.int (p2 &&& (3 : Int32))), .unset, .unset, .unset] []))
  generalize hv9 : (p2 &&& (3 : Int32)) = v9
  refine GoW.st (fun t k => XS.iloadN X0.here hx rfl (hb hby at_11) rfl (XS.iconst X0.here hx rfl (hb hby at_12) (XS.iushr X0.here hx rfl (hb hby at_13) rfl (XS.iconst X0.here hx rfl (hb hby at_14) (XS.iand X0.here hx rfl (hb hby at_15) rfl (XS.iload X0.here hx rfl (hb hby at_16) rfl k)))))) ?_
  show GoW p e below QQ (T0.setTop (mkF m 18 #[.val (.int p1), .val (.int p2), .val (.long q3), .second, .val (.long q4), .second, .val (.long q5), .second, .val (.int v4), .val (.int v9), .unset, .unset, .unset] [(.int v9), (.int (((p2.toUInt32 >>> ((2 : Int32) &&& 31).toUInt32).toInt32) &&& (3 : Int32)))]))
  obtain ⟨_, _, ⟨T1, zL1, zk1, zn1⟩, -, X1, ⟨Lc1, hQ1, zl1, zy1, zz1⟩, st1⟩ := Jvm.LawKit.callS X0 hx (y := (⟨"java/lang/Math", "min", "(II)I"⟩ : MethodName)) hown (mvT hZ (hw _ (List.mem_of_getElem? (i := 0) rfl))) (mvT hZ (hw _ (List.mem_of_getElem? (i := 1) rfl))) (mvT hZ (hw _ (List.mem_of_getElem? (i := 2) rfl))) (mvT hZ (hw _ (List.mem_of_getElem? (i := 3) rfl))) (by decide) (backOf (W := 0) (rm1 l Z a0 hw [] (((p2.toUInt32 >>> ((2 : Int32) &&& 31).toUInt32).toInt32) &&& (3 : Int32)) v9 h0 n0 (Nat.le_trans Z0 K0.1) ) hZ (hw _ (List.mem_of_getElem? (i := 3) rfl)) (hw _ (List.mem_of_getElem? (i := 2) rfl)) (by decide) (by decide)) (g := (mkF m 18 #[.val (.int p1), .val (.int p2), .val (.long q3), .second, .val (.long q4), .second, .val (.long q5), .second, .val (.int v4), .val (.int v9), .unset, .unset, .unset] [(.int v9), (.int (((p2.toUInt32 >>> ((2 : Int32) &&& 31).toUInt32).toInt32) &&& (3 : Int32)))])) rfl (by rw [hml]; rfl) (argsL := [(.int (((p2.toUInt32 >>> ((2 : Int32) &&& 31).toUInt32).toInt32) &&& (3 : Int32))), (.int v9)]) (rest := []) (lenOf pd_0 rfl) rfl (by show 2 * 0 + _ ≤ _; exact Nat.le_of_eq rfl) (hb hby at_18) (fun _ _ => ⟨rfl, e0, (by decide : 0 + 0 ≤ _), (by decide : 0 + 0 ≤ _)⟩)
  dsimp only [Pt.U, Pt.locs, Pt.cells, Pt.slots] at X1 zl1 zy1 zz1 st1 hQ1
  subst zl1 zy1 zz1
  obtain ⟨rfl, Nq1, hh1⟩ := hQ1
  have N1 := Fr.app N0 Nq1
  refine GoW.st st1 ?_
  show GoW p e below QQ (T1.setTop (mkF m 21 #[.val (.int p1), .val (.int p2), .val (.long q3), .second, .val (.long q4), .second, .val (.long q5), .second, .val (.int v4), .val (.int v9), .unset, .unset, .unset] [(.int (own_minI (((p2.toUInt32 >>> ((2 : Int32) &&& 31).toUInt32).toInt32) &&& (3 : Int32)) v9))]))
  refine GoW.st (fun t k => XS.istore X1.here hx rfl (hb hby at_21) rfl (l' := #[.val (.int p1), .val (.int p2), .val (.long q3), .second, .val (.long q4), .second, .val (.long q5), .second, .val (.int v4), .val (.int v9), .val (.int (own_minI (((p2.toUInt32 >>> ((2 : Int32) &&& 31).toUInt32).toInt32) &&& (3 : Int32)) v9)), .unset, .unset]) rfl k) ?_
  show GoW p e below QQ (T1.setTop (mkF m 23 #[.val (.int p1), .val (.int p2), .val (.long q3), .second, .val (.long q4), .second, .val (.long q5), .second, .val (.int v4), .val (.int v9), .val (.int (own_minI (((p2.toUInt32 >>> ((2 : Int32) &&& 31).toUInt32).toInt32) &&& (3 : Int32)) v9)), .unset, .unset] []))
  generalize hv21 : (own_minI (((p2.toUInt32 >>> ((2 : Int32) &&& 31).toUInt32).toInt32) &&& (3 : Int32)) v9) = v21
  have z0 : (0 : Int32).toInt = 0 := rfl
  have z1 : (1 : Int32).toInt = 1 := rfl
  have z2 : (2 : Int32).toInt = 2 := rfl
  have z3 : (3 : Int32).toInt = 3 := rfl
  have cpA := (c_irem p1 8 8 rfl)
  rw [hv4] at cpA
  have cp7 : v4.toInt ≤ 7 := by
    rcases Int.lt_or_le p1.toInt 0 with q | q
    · have := cpA.2 q; omega
    · have := cpA.1 q; omega
  have nA := c_mask p2 3 2 (by decide) rfl
  rw [hv9] at nA
  have mA := c_mask ((p2.toUInt32 >>> ((2 : Int32) &&& 31).toUInt32).toInt32) 3 2 (by decide) rfl
  have mB := own_minI_i (((p2.toUInt32 >>> ((2 : Int32) &&& 31).toUInt32).toInt32) &&& (3 : Int32)) v9
  rw [hv21] at mB
  obtain ⟨T2, h2, X2, e2, E2, A2, D2, -, st2⟩ := newO X1 hx hZ hown (hw _ (List.mem_of_getElem? (i := 4) rfl)) (hw _ (List.mem_of_getElem? (i := 5) rfl)) (hw _ (List.mem_of_getElem? (i := 6) rfl)) hh1 (g := (mkF m 23 #[.val (.int p1), .val (.int p2), .val (.long q3), .second, .val (.long q4), .second, .val (.long q5), .second, .val (.int v4), .val (.int v9), .val (.int v21), .unset, .unset] [])) rfl (hb hby at_23) (by decide) (by decide)
  obtain ⟨b2, g2⟩ : ∃ z, z = h0.size := ⟨_, rfl⟩
  rw [← g2] at A2 D2 st2
  refine GoW.st st2 ?_
  have gg2 : n0 ≤ b2 := Nat.le_trans (Nat.le_trans Z0 K0.1) (Nat.le_of_eq g2.symm)
  have sz2 : h0.size ≤ b2 := Nat.le_trans K0.1 (Nat.le_of_eq g2.symm)
  have K2 : Keep h0 h2 [] := K0.ext E2
  have F2_values : Fld Z h2 b2 "com/example/eunomia/eunomia/sticky/LongHeap" "values" "[J" .null := D2 (Or.inl (hw _ (List.mem_of_getElem? (i := 18) rfl))) (ty := (.array .long)) (by decide)
  have F2_size : Fld Z h2 b2 "com/example/eunomia/eunomia/sticky/LongHeap" "size" "I" (.int (0 : Int32)) := D2 (Or.inl (hw _ (List.mem_of_getElem? (i := 25) rfl))) (ty := .int) (by decide)
  show GoW p e below QQ (T2.setTop (mkF m 26 #[.val (.int p1), .val (.int p2), .val (.long q3), .second, .val (.long q4), .second, .val (.long q5), .second, .val (.int v4), .val (.int v9), .val (.int v21), .unset, .unset] [(.ref b2)]))
  refine GoW.st (fun t k => XS.dup X2.here hx rfl (hb hby at_26) rfl rfl (XS.iload X2.here hx rfl (hb hby at_27) rfl k)) ?_
  show GoW p e below QQ (T2.setTop (mkF m 29 #[.val (.int p1), .val (.int p2), .val (.long q3), .second, .val (.long q4), .second, .val (.long q5), .second, .val (.int v4), .val (.int v9), .val (.int v21), .unset, .unset] [(.int v4), (.ref b2), (.ref b2)]))
  obtain ⟨_, _, ⟨T4, zL4, zk4, zn4⟩, -, X4, ⟨Lc4, hQ4, zl4, zy4, zz4⟩, st4⟩ := X2.specialBack hx (y := (⟨"com/example/eunomia/eunomia/sticky/LongHeap", "<init>", "(I)V"⟩ : MethodName)) rfl hown (mvT hZ (hw _ (List.mem_of_getElem? (i := 7) rfl))) (mvT hZ (hw _ (List.mem_of_getElem? (i := 8) rfl))) (mvT hZ (hw _ (List.mem_of_getElem? (i := 9) rfl))) (by decide) (backOf (W := 1) (rm2 l Z a0 hw [] b2 v4 h2 n0 (Nat.le_trans Z0 K2.1) A2 gg2 F2_values F2_size cp7) hZ (hw _ (List.mem_of_getElem? (i := 9) rfl)) (hw _ (List.mem_of_getElem? (i := 6) rfl)) (by decide) (by decide)) (g := (mkF m 29 #[.val (.int p1), .val (.int p2), .val (.long q3), .second, .val (.long q4), .second, .val (.long q5), .second, .val (.int v4), .val (.int v9), .val (.int v21), .unset, .unset] [(.int v4), (.ref b2), (.ref b2)])) rfl (by rw [hml]; rfl) (Steps.refl _) (a := b2) (argsL := [(.int v4)]) (rest := [(.ref b2)]) (lenOf pd_3 rfl) rfl (by show 2 * 0 + _ ≤ _; exact Nat.le_of_eq rfl) (hb hby at_29) (fun _ _ => ⟨rfl, e2, (by decide : 1 + 1 ≤ _), (by decide : 2 + 7 ≤ _)⟩)
  dsimp only [Pt.U, Pt.locs, Pt.cells, Pt.slots] at X4 zl4 zy4 zz4 st4 hQ4
  subst zl4 zy4 zz4
  obtain ⟨b_29, kb_29, z_29, rfl, Nq4, Kq4, p4_0, p4_1, p4_2, p4_3, p4_4, p4_5⟩ := hQ4
  have N4 := Fr.app N1 Nq4
  refine GoW.st (fun t k => st4.trans k) ?_
  have ne4_b2_b_29 : b2 ≠ b_29 := Nat.ne_of_lt (Nat.lt_of_lt_of_le A2.lt p4_3)
  have sz4_b_29 : h0.size ≤ b_29 := Nat.le_trans K2.1 p4_3
  have gg4_b_29 : n0 ≤ b_29 := Nat.le_trans Z0 sz4_b_29
  have K4 : Keep h0 T4.heap [] := K2.trans Kq4 (allS (Or.inr sz2) all0)
  have hz_29 := p4_5
  show GoW p e below QQ (T4.setTop (mkF m 32 #[.val (.int p1), .val (.int p2), .val (.long q3), .second, .val (.long q4), .second, .val (.long q5), .second, .val (.int v4), .val (.int v9), .val (.int v21), .unset, .unset] [(.ref b2)]))
  refine GoW.st (fun t k => XS.astore X4.here hx rfl (hb hby at_32) rfl rfl (l' := #[.val (.int p1), .val (.int p2), .val (.long q3), .second, .val (.long q4), .second, .val (.long q5), .second, .val (.int v4), .val (.int v9), .val (.int v21), .val (.ref b2), .unset]) rfl (XS.aload X4.here hx rfl (hb hby at_34) rfl rfl k)) ?_
  show GoW p e below QQ (T4.setTop (mkF m 36 #[.val (.int p1), .val (.int p2), .val (.long q3), .second, .val (.long q4), .second, .val (.long q5), .second, .val (.int v4), .val (.int v9), .val (.int v21), .val (.ref b2), .unset] [(.ref b2)]))
  obtain ⟨cq6, kq6, qa6, qb6, qc6⟩ := isOf hZ rfl p4_0
  obtain ⟨_, _, ⟨T6, zL6, zk6, zn6⟩, -, X6, ⟨Lc6, hQ6, zl6, zy6, zz6⟩, st6⟩ := X4.virtualBack hx (y := (⟨"com/example/eunomia/eunomia/sticky/LongHeap", "isEmpty", "()Z"⟩ : MethodName)) (z := (⟨"com/example/eunomia/eunomia/sticky/LongHeap", "isEmpty", "()Z"⟩ : MethodName)) hown (mvT hZ (hw _ (List.mem_of_getElem? (i := 19) rfl))) (mvT hZ (hw _ (List.mem_of_getElem? (i := 20) rfl))) (notFace_of_selects (args := #[]) (mvT hZ (hw _ (List.mem_of_getElem? (i := 22) rfl)))) (mvT hZ (hw _ (List.mem_of_getElem? (i := 22) rfl))) (mvT hZ (hw _ (List.mem_of_getElem? (i := 21) rfl))) (by decide) (backOf (W := 0) (rm5_0 l Z a0 hw [] b2 T4.heap n0 (Nat.le_trans Z0 K4.1) p4_2) hZ (hw _ (List.mem_of_getElem? (i := 23) rfl)) (hw _ (List.mem_of_getElem? (i := 6) rfl)) (by decide) (by decide)) qa6 qc6 (g := (mkF m 36 #[.val (.int p1), .val (.int p2), .val (.long q3), .second, .val (.long q4), .second, .val (.long q5), .second, .val (.int v4), .val (.int v9), .val (.int v21), .val (.ref b2), .unset] [(.ref b2)])) rfl (by rw [hml]; rfl) (Steps.refl _) (argsL := []) (rest := []) (lenOf pd_4 rfl) rfl (by show 2 * 0 + _ ≤ _; exact Nat.le_of_eq rfl) (hb hby at_36) (fun _ _ => ⟨rfl, rfl, (by decide : 2 + 0 ≤ _), (by decide : 9 + 0 ≤ _)⟩)
  dsimp only [Pt.U, Pt.locs, Pt.cells, Pt.slots] at X6 zl6 zy6 zz6 st6 hQ6
  subst zl6 zy6 zz6
  obtain ⟨rfl, Nq6, hh6⟩ := hQ6
  have N6 := Fr.app N4 Nq6
  refine GoW.st (fun t k => st6.trans k) ?_
  show GoW p e below QQ (T6.setTop (mkF m 39 #[.val (.int p1), .val (.int p2), .val (.long q3), .second, .val (.long q4), .second, .val (.long q5), .second, .val (.int v4), .val (.int v9), .val (.int v21), .val (.ref b2), .unset] [(.int (1 : Int32))]))
  refine GoW.st (fun t k => XS.istore X6.here hx rfl (hb hby at_39) rfl (l' := #[.val (.int p1), .val (.int p2), .val (.long q3), .second, .val (.long q4), .second, .val (.long q5), .second, .val (.int v4), .val (.int v9), .val (.int v21), .val (.ref b2), .val (.int (1 : Int32))]) rfl k) ?_
  show GoW p e below QQ (T6.setTop (mkF m 41 #[.val (.int p1), .val (.int p2), .val (.long q3), .second, .val (.long q4), .second, .val (.long q5), .second, .val (.int v4), .val (.int v9), .val (.int v21), .val (.ref b2), .val (.int (1 : Int32))] []))
  have nC : v9 = 0 ∨ v9 = 1 ∨ v9 = 2 ∨ v9 = 3 := by
    have q : v9.toInt = 0 ∨ v9.toInt = 1 ∨ v9.toInt = 2 ∨ v9.toInt = 3 := by omega
    rcases q with q | q | q | q
    · exact Or.inl (own_eq_of q)
    · exact Or.inr (Or.inl (own_eq_of q))
    · exact Or.inr (Or.inr (Or.inl (own_eq_of q)))
    · exact Or.inr (Or.inr (Or.inr (own_eq_of q)))
  rcases nC with rfl | rfl | rfl | rfl
  · skip
    refine GoW.st (fun t k => XS.iload X6.here hx rfl (hb hby at_41) rfl k) ?_
    show GoW p e below QQ (T6.setTop (mkF m 43 #[.val (.int p1), .val (.int p2), .val (.long q3), .second, .val (.long q4), .second, .val (.long q5), .second, .val (.int v4), .val (.int (0 : Int32)), .val (.int v21), .val (.ref b2), .val (.int (1 : Int32))] [(.int (0 : Int32))]))
    have mC : v21 = 0 := by
      have q : v21.toInt = 0 := by omega
      exact own_eq_of q
    rcases mC with rfl
    · skip
      show GoW p e below QQ (T6.setTop (mkF m 43 #[.val (.int p1), .val (.int p2), .val (.long q3), .second, .val (.long q4), .second, .val (.long q5), .second, .val (.int v4), .val (.int (0 : Int32)), .val (.int (0 : Int32)), .val (.ref b2), .val (.int (1 : Int32))] [(.int (0 : Int32))]))
      refine GoW.st (fun t k => XS.iconst X6.here hx rfl (hb hby at_43) k) ?_
      show GoW p e below QQ (T6.setTop (mkF m 44 #[.val (.int p1), .val (.int p2), .val (.long q3), .second, .val (.long q4), .second, .val (.long q5), .second, .val (.int v4), .val (.int (0 : Int32)), .val (.int (0 : Int32)), .val (.ref b2), .val (.int (1 : Int32))] [(.int (1 : Int32)), (.int (0 : Int32))]))
      have hc44 : (0 : Int32) < (1 : Int32) := by decide
      refine GoW.st (fun t k => XS.icmpYes X6.here hx rfl (pc0 := 44) (pc' := 53) rfl (hb hby at_44) rfl (tlt hc44).1 (by decide) (by decide) (XS.iload X6.here hx rfl (hb hby at_53) rfl (XS.iconst X6.here hx rfl (hb hby at_55) k))) ?_
      show GoW p e below QQ (T6.setTop (mkF m 56 #[.val (.int p1), .val (.int p2), .val (.long q3), .second, .val (.long q4), .second, .val (.long q5), .second, .val (.int v4), .val (.int (0 : Int32)), .val (.int (0 : Int32)), .val (.ref b2), .val (.int (1 : Int32))] [(.int (2 : Int32)), (.int (0 : Int32))]))
      have hc56 : (0 : Int32) < (2 : Int32) := by decide
      refine GoW.st (fun t k => XS.icmpYes X6.here hx rfl (pc0 := 56) (pc' := 66) rfl (hb hby at_56) rfl (tlt hc56).1 (by decide) (by decide) (XS.iload X6.here hx rfl (hb hby at_66) rfl (XS.iconst X6.here hx rfl (hb hby at_68) k))) ?_
      show GoW p e below QQ (T6.setTop (mkF m 69 #[.val (.int p1), .val (.int p2), .val (.long q3), .second, .val (.long q4), .second, .val (.long q5), .second, .val (.int v4), .val (.int (0 : Int32)), .val (.int (0 : Int32)), .val (.ref b2), .val (.int (1 : Int32))] [(.int (3 : Int32)), (.int (0 : Int32))]))
      have hc69 : (0 : Int32) < (3 : Int32) := by decide
      refine GoW.st (fun t k => XS.icmpYes X6.here hx rfl (pc0 := 69) (pc' := 79) rfl (hb hby at_69) rfl (tlt hc69).1 (by decide) (by decide) (XS.iload X6.here hx rfl (hb hby at_79) rfl k)) ?_
      show GoW p e below QQ (T6.setTop (mkF m 81 #[.val (.int p1), .val (.int p2), .val (.long q3), .second, .val (.long q4), .second, .val (.long q5), .second, .val (.int v4), .val (.int (0 : Int32)), .val (.int (0 : Int32)), .val (.ref b2), .val (.int (1 : Int32))] [(.int (1 : Int32))]))
      have hc81 : ¬ ((1 : Int32) = (0 : Int32)) := by decide
      refine GoW.st (fun t k => XS.ifNo X6.here hx rfl (hb hby at_81) rfl ((if0 _ _).trans (feq hc81).1) (XS.aload X6.here hx rfl (hb hby at_84) rfl rfl k)) ?_
      show GoW p e below QQ (T6.setTop (mkF m 86 #[.val (.int p1), .val (.int p2), .val (.long q3), .second, .val (.long q4), .second, .val (.long q5), .second, .val (.int v4), .val (.int (0 : Int32)), .val (.int (0 : Int32)), .val (.ref b2), .val (.int (1 : Int32))] [(.ref b2)]))
      obtain ⟨cq7, kq7, qa7, qb7, qc7⟩ := isOf hZ hh6 p4_0
      obtain ⟨_, _, ⟨T7, zL7, zk7, zn7⟩, -, X7, ⟨Lc7, hQ7, zl7, zy7, zz7⟩, st7⟩ := X6.virtualBack hx (y := (⟨"com/example/eunomia/eunomia/sticky/LongHeap", "isEmpty", "()Z"⟩ : MethodName)) (z := (⟨"com/example/eunomia/eunomia/sticky/LongHeap", "isEmpty", "()Z"⟩ : MethodName)) hown (mvT hZ (hw _ (List.mem_of_getElem? (i := 19) rfl))) (mvT hZ (hw _ (List.mem_of_getElem? (i := 20) rfl))) (notFace_of_selects (args := #[]) (mvT hZ (hw _ (List.mem_of_getElem? (i := 22) rfl)))) (mvT hZ (hw _ (List.mem_of_getElem? (i := 22) rfl))) (mvT hZ (hw _ (List.mem_of_getElem? (i := 21) rfl))) (by decide) (backOf (W := 0) (rm5_0 l Z a0 hw [] b2 T4.heap n0 (Nat.le_trans Z0 K4.1) p4_2) hZ (hw _ (List.mem_of_getElem? (i := 23) rfl)) (hw _ (List.mem_of_getElem? (i := 6) rfl)) (by decide) (by decide)) qa7 qc7 (g := (mkF m 86 #[.val (.int p1), .val (.int p2), .val (.long q3), .second, .val (.long q4), .second, .val (.long q5), .second, .val (.int v4), .val (.int (0 : Int32)), .val (.int (0 : Int32)), .val (.ref b2), .val (.int (1 : Int32))] [(.ref b2)])) rfl (by rw [hml]; rfl) (Steps.refl _) (argsL := []) (rest := []) (lenOf pd_4 rfl) rfl (by show 2 * 0 + _ ≤ _; exact Nat.le_of_eq rfl) (hb hby at_86) (fun _ _ => ⟨rfl, hh6, (by decide : 2 + 0 ≤ _), (by decide : 9 + 0 ≤ _)⟩)
      dsimp only [Pt.U, Pt.locs, Pt.cells, Pt.slots] at X7 zl7 zy7 zz7 st7 hQ7
      subst zl7 zy7 zz7
      obtain ⟨rfl, Nq7, hh7⟩ := hQ7
      have N7 := Fr.app N6 Nq7
      refine GoW.st (fun t k => st7.trans k) ?_
      show GoW p e below QQ (T7.setTop (mkF m 89 #[.val (.int p1), .val (.int p2), .val (.long q3), .second, .val (.long q4), .second, .val (.long q5), .second, .val (.int v4), .val (.int (0 : Int32)), .val (.int (0 : Int32)), .val (.ref b2), .val (.int (1 : Int32))] [(.int (1 : Int32))]))
      refine GoW.st (fun t k => XS.iload X7.here hx rfl (hb hby at_89) rfl k) ?_
      show GoW p e below QQ (T7.setTop (mkF m 91 #[.val (.int p1), .val (.int p2), .val (.long q3), .second, .val (.long q4), .second, .val (.long q5), .second, .val (.int v4), .val (.int (0 : Int32)), .val (.int (0 : Int32)), .val (.ref b2), .val (.int (1 : Int32))] [(.int (0 : Int32)), (.int (1 : Int32))]))
      have hc91 : (0 : Int32) = (0 : Int32) := by decide
      refine GoW.st (fun t k => XS.ifNo X7.here hx rfl (hb hby at_91) rfl ((if0 _ _).trans (teq hc91).2) (XS.iconst X7.here hx rfl (hb hby at_94) (XS.goto X7.here hx rfl (pc0 := 95) (pc' := 99) rfl (hb hby at_95) (by decide) (by decide) k))) ?_
      show GoW p e below QQ (T7.setTop (mkF m 99 #[.val (.int p1), .val (.int p2), .val (.long q3), .second, .val (.long q4), .second, .val (.long q5), .second, .val (.int v4), .val (.int (0 : Int32)), .val (.int (0 : Int32)), .val (.ref b2), .val (.int (1 : Int32))] [(.int (1 : Int32)), (.int (1 : Int32))]))
      have hc99 : (1 : Int32) = (1 : Int32) := by decide
      refine GoW.st (fun t k => XS.icmpNo X7.here hx rfl (hb hby at_99) rfl (teq hc99).2 (XS.iconst X7.here hx rfl (hb hby at_102) (XS.goto X7.here hx rfl (pc0 := 103) (pc' := 107) rfl (hb hby at_103) (by decide) (by decide) (XS.istore X7.here hx rfl (hb hby at_107) rfl (l' := #[.val (.int p1), .val (.int p2), .val (.long q3), .second, .val (.long q4), .second, .val (.long q5), .second, .val (.int v4), .val (.int (0 : Int32)), .val (.int (0 : Int32)), .val (.ref b2), .val (.int (1 : Int32))]) rfl (XS.iload X7.here hx rfl (hb hby at_109) rfl (XS.iconst X7.here hx rfl (hb hby at_111) k)))))) ?_
      show GoW p e below QQ (T7.setTop (mkF m 112 #[.val (.int p1), .val (.int p2), .val (.long q3), .second, .val (.long q4), .second, .val (.long q5), .second, .val (.int v4), .val (.int (0 : Int32)), .val (.int (0 : Int32)), .val (.ref b2), .val (.int (1 : Int32))] [(.int (1 : Int32)), (.int (0 : Int32))]))
      have hc112 : (0 : Int32) < (1 : Int32) := by decide
      refine GoW.st (fun t k => XS.icmpYes X7.here hx rfl (pc0 := 112) (pc' := 120) rfl (hb hby at_112) rfl (tlt hc112).1 (by decide) (by decide) (XS.iload X7.here hx rfl (hb hby at_120) rfl (XS.iconst X7.here hx rfl (hb hby at_122) k))) ?_
      show GoW p e below QQ (T7.setTop (mkF m 123 #[.val (.int p1), .val (.int p2), .val (.long q3), .second, .val (.long q4), .second, .val (.long q5), .second, .val (.int v4), .val (.int (0 : Int32)), .val (.int (0 : Int32)), .val (.ref b2), .val (.int (1 : Int32))] [(.int (2 : Int32)), (.int (0 : Int32))]))
      have hc123 : (0 : Int32) < (2 : Int32) := by decide
      refine GoW.st (fun t k => XS.icmpYes X7.here hx rfl (pc0 := 123) (pc' := 131) rfl (hb hby at_123) rfl (tlt hc123).1 (by decide) (by decide) (XS.iload X7.here hx rfl (hb hby at_131) rfl (XS.iconst X7.here hx rfl (hb hby at_133) k))) ?_
      show GoW p e below QQ (T7.setTop (mkF m 134 #[.val (.int p1), .val (.int p2), .val (.long q3), .second, .val (.long q4), .second, .val (.long q5), .second, .val (.int v4), .val (.int (0 : Int32)), .val (.int (0 : Int32)), .val (.ref b2), .val (.int (1 : Int32))] [(.int (3 : Int32)), (.int (0 : Int32))]))
      have hc134 : (0 : Int32) < (3 : Int32) := by decide
      refine GoW.st (fun t k => XS.icmpYes X7.here hx rfl (pc0 := 134) (pc' := 142) rfl (hb hby at_134) rfl (tlt hc134).1 (by decide) (by decide) (XS.iload X7.here hx rfl (hb hby at_142) rfl k)) ?_
      show GoW p e below QQ (T7.setTop (mkF m 144 #[.val (.int p1), .val (.int p2), .val (.long q3), .second, .val (.long q4), .second, .val (.long q5), .second, .val (.int v4), .val (.int (0 : Int32)), .val (.int (0 : Int32)), .val (.ref b2), .val (.int (1 : Int32))] [(.int (1 : Int32))]))
      have hc144 : ¬ ((1 : Int32) = (0 : Int32)) := by decide
      refine GoW.st (fun t k => XS.ifNo X7.here hx rfl (hb hby at_144) rfl ((if0 _ _).trans (feq hc144).1) (XS.aload X7.here hx rfl (hb hby at_147) rfl rfl k)) ?_
      show GoW p e below QQ (T7.setTop (mkF m 149 #[.val (.int p1), .val (.int p2), .val (.long q3), .second, .val (.long q4), .second, .val (.long q5), .second, .val (.int v4), .val (.int (0 : Int32)), .val (.int (0 : Int32)), .val (.ref b2), .val (.int (1 : Int32))] [(.ref b2)]))
      obtain ⟨cq8, kq8, qa8, qb8, qc8⟩ := isOf hZ hh7 p4_0
      obtain ⟨_, _, ⟨T8, zL8, zk8, zn8⟩, -, X8, ⟨Lc8, hQ8, zl8, zy8, zz8⟩, st8⟩ := X7.virtualBack hx (y := (⟨"com/example/eunomia/eunomia/sticky/LongHeap", "isEmpty", "()Z"⟩ : MethodName)) (z := (⟨"com/example/eunomia/eunomia/sticky/LongHeap", "isEmpty", "()Z"⟩ : MethodName)) hown (mvT hZ (hw _ (List.mem_of_getElem? (i := 19) rfl))) (mvT hZ (hw _ (List.mem_of_getElem? (i := 20) rfl))) (notFace_of_selects (args := #[]) (mvT hZ (hw _ (List.mem_of_getElem? (i := 22) rfl)))) (mvT hZ (hw _ (List.mem_of_getElem? (i := 22) rfl))) (mvT hZ (hw _ (List.mem_of_getElem? (i := 21) rfl))) (by decide) (backOf (W := 0) (rm5_0 l Z a0 hw [] b2 T4.heap n0 (Nat.le_trans Z0 K4.1) p4_2) hZ (hw _ (List.mem_of_getElem? (i := 23) rfl)) (hw _ (List.mem_of_getElem? (i := 6) rfl)) (by decide) (by decide)) qa8 qc8 (g := (mkF m 149 #[.val (.int p1), .val (.int p2), .val (.long q3), .second, .val (.long q4), .second, .val (.long q5), .second, .val (.int v4), .val (.int (0 : Int32)), .val (.int (0 : Int32)), .val (.ref b2), .val (.int (1 : Int32))] [(.ref b2)])) rfl (by rw [hml]; rfl) (Steps.refl _) (argsL := []) (rest := []) (lenOf pd_4 rfl) rfl (by show 2 * 0 + _ ≤ _; exact Nat.le_of_eq rfl) (hb hby at_149) (fun _ _ => ⟨rfl, hh7, (by decide : 2 + 0 ≤ _), (by decide : 9 + 0 ≤ _)⟩)
      dsimp only [Pt.U, Pt.locs, Pt.cells, Pt.slots] at X8 zl8 zy8 zz8 st8 hQ8
      subst zl8 zy8 zz8
      obtain ⟨rfl, Nq8, hh8⟩ := hQ8
      have N8 := Fr.app N7 Nq8
      refine GoW.st (fun t k => st8.trans k) ?_
      show GoW p e below QQ (T8.setTop (mkF m 152 #[.val (.int p1), .val (.int p2), .val (.long q3), .second, .val (.long q4), .second, .val (.long q5), .second, .val (.int v4), .val (.int (0 : Int32)), .val (.int (0 : Int32)), .val (.ref b2), .val (.int (1 : Int32))] [(.int (1 : Int32))]))
      refine GoW.st (fun t k => XS.iload X8.here hx rfl (hb hby at_152) rfl (XS.iload X8.here hx rfl (hb hby at_154) rfl (XS.isub X8.here hx rfl (hb hby at_156) rfl k))) ?_
      show GoW p e below QQ (T8.setTop (mkF m 157 #[.val (.int p1), .val (.int p2), .val (.long q3), .second, .val (.long q4), .second, .val (.long q5), .second, .val (.int v4), .val (.int (0 : Int32)), .val (.int (0 : Int32)), .val (.ref b2), .val (.int (1 : Int32))] [(.int (0 : Int32)), (.int (1 : Int32))]))
      have hc157 : (0 : Int32) = (0 : Int32) := by decide
      refine GoW.st (fun t k => XS.ifNo X8.here hx rfl (hb hby at_157) rfl ((if0 _ _).trans (teq hc157).2) (XS.iconst X8.here hx rfl (hb hby at_160) (XS.goto X8.here hx rfl (pc0 := 161) (pc' := 165) rfl (hb hby at_161) (by decide) (by decide) k))) ?_
      show GoW p e below QQ (T8.setTop (mkF m 165 #[.val (.int p1), .val (.int p2), .val (.long q3), .second, .val (.long q4), .second, .val (.long q5), .second, .val (.int v4), .val (.int (0 : Int32)), .val (.int (0 : Int32)), .val (.ref b2), .val (.int (1 : Int32))] [(.int (1 : Int32)), (.int (1 : Int32))]))
      have hc165 : (1 : Int32) = (1 : Int32) := by decide
      refine GoW.st (fun t k => XS.icmpNo X8.here hx rfl (hb hby at_165) rfl (teq hc165).2 (XS.iconst X8.here hx rfl (hb hby at_168) (XS.goto X8.here hx rfl (pc0 := 169) (pc' := 173) rfl (hb hby at_169) (by decide) (by decide) (XS.istore X8.here hx rfl (hb hby at_173) rfl (l' := #[.val (.int p1), .val (.int p2), .val (.long q3), .second, .val (.long q4), .second, .val (.long q5), .second, .val (.int v4), .val (.int (0 : Int32)), .val (.int (0 : Int32)), .val (.ref b2), .val (.int (1 : Int32))]) rfl (XS.iload X8.here hx rfl (hb hby at_175) rfl k))))) ?_
      show GoW p e below QQ (T8.setTop (mkF m 177 #[.val (.int p1), .val (.int p2), .val (.long q3), .second, .val (.long q4), .second, .val (.long q5), .second, .val (.int v4), .val (.int (0 : Int32)), .val (.int (0 : Int32)), .val (.ref b2), .val (.int (1 : Int32))] [(.int (1 : Int32))]))
      exact GoW.fin X8 (some (.int (nar .boolean (1 : Int32)))) (fun q => by rw [hret] at q; cases q) hlk hQ hh8 ⟨rfl, N8⟩ (by decide) (by decide) (fun fs hr => retN X8 hx (t := .boolean) hret (by simp) (hb hby at_177) hr)
  · skip
    refine GoW.st (fun t k => XS.iload X6.here hx rfl (hb hby at_41) rfl k) ?_
    show GoW p e below QQ (T6.setTop (mkF m 43 #[.val (.int p1), .val (.int p2), .val (.long q3), .second, .val (.long q4), .second, .val (.long q5), .second, .val (.int v4), .val (.int (1 : Int32)), .val (.int v21), .val (.ref b2), .val (.int (1 : Int32))] [(.int (1 : Int32))]))
    have mC : v21 = 0 ∨ v21 = 1 := by
      have q : v21.toInt = 0 ∨ v21.toInt = 1 := by omega
      rcases q with q | q
      · exact Or.inl (own_eq_of q)
      · exact Or.inr (own_eq_of q)
    rcases mC with rfl | rfl
    · skip
      show GoW p e below QQ (T6.setTop (mkF m 43 #[.val (.int p1), .val (.int p2), .val (.long q3), .second, .val (.long q4), .second, .val (.long q5), .second, .val (.int v4), .val (.int (1 : Int32)), .val (.int (0 : Int32)), .val (.ref b2), .val (.int (1 : Int32))] [(.int (1 : Int32))]))
      refine GoW.st (fun t k => XS.iconst X6.here hx rfl (hb hby at_43) k) ?_
      show GoW p e below QQ (T6.setTop (mkF m 44 #[.val (.int p1), .val (.int p2), .val (.long q3), .second, .val (.long q4), .second, .val (.long q5), .second, .val (.int v4), .val (.int (1 : Int32)), .val (.int (0 : Int32)), .val (.ref b2), .val (.int (1 : Int32))] [(.int (1 : Int32)), (.int (1 : Int32))]))
      have hc44 : ¬ ((1 : Int32) < (1 : Int32)) := by decide
      refine GoW.st (fun t k => XS.icmpNo X6.here hx rfl (hb hby at_44) rfl (flt hc44).1 (XS.aload X6.here hx rfl (hb hby at_47) rfl rfl (XS.lloadN X6.here hx rfl (hb hby at_49) rfl k))) ?_
      show GoW p e below QQ (T6.setTop (mkF m 50 #[.val (.int p1), .val (.int p2), .val (.long q3), .second, .val (.long q4), .second, .val (.long q5), .second, .val (.int v4), .val (.int (1 : Int32)), .val (.int (0 : Int32)), .val (.ref b2), .val (.int (1 : Int32))] [(.long q3), (.ref b2)]))
      obtain ⟨cq9, kq9, qa9, qb9, qc9⟩ := isOf hZ hh6 p4_0
      obtain ⟨_, _, ⟨T9, zL9, zk9, zn9⟩, -, X9, ⟨Lc9, hQ9, zl9, zy9, zz9⟩, st9⟩ := X6.virtualBack hx (y := (⟨"com/example/eunomia/eunomia/sticky/LongHeap", "add", "(J)V"⟩ : MethodName)) (z := (⟨"com/example/eunomia/eunomia/sticky/LongHeap", "add", "(J)V"⟩ : MethodName)) hown (mvT hZ (hw _ (List.mem_of_getElem? (i := 26) rfl))) (mvT hZ (hw _ (List.mem_of_getElem? (i := 27) rfl))) (notFace_of_selects (args := #[]) (mvT hZ (hw _ (List.mem_of_getElem? (i := 29) rfl)))) (mvT hZ (hw _ (List.mem_of_getElem? (i := 29) rfl))) (mvT hZ (hw _ (List.mem_of_getElem? (i := 28) rfl))) (by decide) (backOf (W := 0) (rm6_0 l Z a0 hw [] b2 q3 b_29 kb_29 z_29 (0 : Int64) (0 : Int64) (0 : Int64) (0 : Int64) T4.heap n0 (Nat.le_trans Z0 K4.1) p4_0 gg2 gg4_b_29 (Ne.symm ne4_b2_b_29) p4_1 p4_2 p4_4 (by omega)) hZ (hw _ (List.mem_of_getElem? (i := 30) rfl)) (hw _ (List.mem_of_getElem? (i := 6) rfl)) (by decide) (by decide)) qa9 qc9 (g := (mkF m 50 #[.val (.int p1), .val (.int p2), .val (.long q3), .second, .val (.long q4), .second, .val (.long q5), .second, .val (.int v4), .val (.int (1 : Int32)), .val (.int (0 : Int32)), .val (.ref b2), .val (.int (1 : Int32))] [(.long q3), (.ref b2)])) rfl (by rw [hml]; rfl) (Steps.refl _) (argsL := [(.long q3)]) (rest := []) (lenOf pd_2 rfl) rfl (by show 2 * 0 + _ ≤ _; exact Nat.le_of_eq rfl) (hb hby at_50) (fun _ _ => ⟨rfl, hh6, (by decide : 2 + 0 ≤ _), (by decide : 9 + 0 ≤ _)⟩)
      dsimp only [Pt.U, Pt.locs, Pt.cells, Pt.slots] at X9 zl9 zy9 zz9 st9 hQ9
      subst zl9 zy9 zz9
      obtain ⟨b_50, kb_50, zz_50, wa_50, wb_50, wc_50, wd_50, rfl, Nq9, Kq9, p9_0, p9_1, p9_2, p9_3, p9_4, p9_5, p9_6⟩ := hQ9
      have N9 := Fr.app N6 Nq9
      refine GoW.st (fun t k => st9.trans k) ?_
      have K9 : Keep h0 T9.heap [] := K4.trans Kq9 (allS (Or.inr sz2) (allS (Or.inr sz4_b_29) all0))
      have hzz_50 := p9_6
      show GoW p e below QQ (T9.setTop (mkF m 53 #[.val (.int p1), .val (.int p2), .val (.long q3), .second, .val (.long q4), .second, .val (.long q5), .second, .val (.int v4), .val (.int (1 : Int32)), .val (.int (0 : Int32)), .val (.ref b2), .val (.int (1 : Int32))] []))
      refine GoW.st (fun t k => XS.iload X9.here hx rfl (hb hby at_53) rfl (XS.iconst X9.here hx rfl (hb hby at_55) k)) ?_
      show GoW p e below QQ (T9.setTop (mkF m 56 #[.val (.int p1), .val (.int p2), .val (.long q3), .second, .val (.long q4), .second, .val (.long q5), .second, .val (.int v4), .val (.int (1 : Int32)), .val (.int (0 : Int32)), .val (.ref b2), .val (.int (1 : Int32))] [(.int (2 : Int32)), (.int (1 : Int32))]))
      have hc56 : (1 : Int32) < (2 : Int32) := by decide
      refine GoW.st (fun t k => XS.icmpYes X9.here hx rfl (pc0 := 56) (pc' := 66) rfl (hb hby at_56) rfl (tlt hc56).1 (by decide) (by decide) (XS.iload X9.here hx rfl (hb hby at_66) rfl (XS.iconst X9.here hx rfl (hb hby at_68) k))) ?_
      show GoW p e below QQ (T9.setTop (mkF m 69 #[.val (.int p1), .val (.int p2), .val (.long q3), .second, .val (.long q4), .second, .val (.long q5), .second, .val (.int v4), .val (.int (1 : Int32)), .val (.int (0 : Int32)), .val (.ref b2), .val (.int (1 : Int32))] [(.int (3 : Int32)), (.int (1 : Int32))]))
      have hc69 : (1 : Int32) < (3 : Int32) := by decide
      refine GoW.st (fun t k => XS.icmpYes X9.here hx rfl (pc0 := 69) (pc' := 79) rfl (hb hby at_69) rfl (tlt hc69).1 (by decide) (by decide) (XS.iload X9.here hx rfl (hb hby at_79) rfl k)) ?_
      show GoW p e below QQ (T9.setTop (mkF m 81 #[.val (.int p1), .val (.int p2), .val (.long q3), .second, .val (.long q4), .second, .val (.long q5), .second, .val (.int v4), .val (.int (1 : Int32)), .val (.int (0 : Int32)), .val (.ref b2), .val (.int (1 : Int32))] [(.int (1 : Int32))]))
      have hc81 : ¬ ((1 : Int32) = (0 : Int32)) := by decide
      refine GoW.st (fun t k => XS.ifNo X9.here hx rfl (hb hby at_81) rfl ((if0 _ _).trans (feq hc81).1) (XS.aload X9.here hx rfl (hb hby at_84) rfl rfl k)) ?_
      show GoW p e below QQ (T9.setTop (mkF m 86 #[.val (.int p1), .val (.int p2), .val (.long q3), .second, .val (.long q4), .second, .val (.long q5), .second, .val (.int v4), .val (.int (1 : Int32)), .val (.int (0 : Int32)), .val (.ref b2), .val (.int (1 : Int32))] [(.ref b2)]))
      obtain ⟨cq11, kq11, qa11, qb11, qc11⟩ := isOf hZ rfl p9_0
      obtain ⟨_, _, ⟨T11, zL11, zk11, zn11⟩, -, X11, ⟨Lc11, hQ11, zl11, zy11, zz11⟩, st11⟩ := X9.virtualBack hx (y := (⟨"com/example/eunomia/eunomia/sticky/LongHeap", "isEmpty", "()Z"⟩ : MethodName)) (z := (⟨"com/example/eunomia/eunomia/sticky/LongHeap", "isEmpty", "()Z"⟩ : MethodName)) hown (mvT hZ (hw _ (List.mem_of_getElem? (i := 19) rfl))) (mvT hZ (hw _ (List.mem_of_getElem? (i := 20) rfl))) (notFace_of_selects (args := #[]) (mvT hZ (hw _ (List.mem_of_getElem? (i := 22) rfl)))) (mvT hZ (hw _ (List.mem_of_getElem? (i := 22) rfl))) (mvT hZ (hw _ (List.mem_of_getElem? (i := 21) rfl))) (by decide) (backOf (W := 0) (rm5_1 l Z a0 hw [] b2 T9.heap n0 (Nat.le_trans Z0 K9.1) p9_2) hZ (hw _ (List.mem_of_getElem? (i := 23) rfl)) (hw _ (List.mem_of_getElem? (i := 6) rfl)) (by decide) (by decide)) qa11 qc11 (g := (mkF m 86 #[.val (.int p1), .val (.int p2), .val (.long q3), .second, .val (.long q4), .second, .val (.long q5), .second, .val (.int v4), .val (.int (1 : Int32)), .val (.int (0 : Int32)), .val (.ref b2), .val (.int (1 : Int32))] [(.ref b2)])) rfl (by rw [hml]; rfl) (Steps.refl _) (argsL := []) (rest := []) (lenOf pd_4 rfl) rfl (by show 2 * 0 + _ ≤ _; exact Nat.le_of_eq rfl) (hb hby at_86) (fun _ _ => ⟨rfl, rfl, (by decide : 2 + 0 ≤ _), (by decide : 9 + 0 ≤ _)⟩)
      dsimp only [Pt.U, Pt.locs, Pt.cells, Pt.slots] at X11 zl11 zy11 zz11 st11 hQ11
      subst zl11 zy11 zz11
      obtain ⟨rfl, Nq11, hh11⟩ := hQ11
      have N11 := Fr.app N9 Nq11
      refine GoW.st (fun t k => st11.trans k) ?_
      show GoW p e below QQ (T11.setTop (mkF m 89 #[.val (.int p1), .val (.int p2), .val (.long q3), .second, .val (.long q4), .second, .val (.long q5), .second, .val (.int v4), .val (.int (1 : Int32)), .val (.int (0 : Int32)), .val (.ref b2), .val (.int (1 : Int32))] [(.int (0 : Int32))]))
      refine GoW.st (fun t k => XS.iload X11.here hx rfl (hb hby at_89) rfl k) ?_
      show GoW p e below QQ (T11.setTop (mkF m 91 #[.val (.int p1), .val (.int p2), .val (.long q3), .second, .val (.long q4), .second, .val (.long q5), .second, .val (.int v4), .val (.int (1 : Int32)), .val (.int (0 : Int32)), .val (.ref b2), .val (.int (1 : Int32))] [(.int (1 : Int32)), (.int (0 : Int32))]))
      have hc91 : ¬ ((1 : Int32) = (0 : Int32)) := by decide
      refine GoW.st (fun t k => XS.ifYes X11.here hx rfl (pc0 := 91) (pc' := 98) rfl (hb hby at_91) rfl ((if0 _ _).trans (feq hc91).2) (by decide) (by decide) (XS.iconst X11.here hx rfl (hb hby at_98) k)) ?_
      show GoW p e below QQ (T11.setTop (mkF m 99 #[.val (.int p1), .val (.int p2), .val (.long q3), .second, .val (.long q4), .second, .val (.long q5), .second, .val (.int v4), .val (.int (1 : Int32)), .val (.int (0 : Int32)), .val (.ref b2), .val (.int (1 : Int32))] [(.int (0 : Int32)), (.int (0 : Int32))]))
      have hc99 : (0 : Int32) = (0 : Int32) := by decide
      refine GoW.st (fun t k => XS.icmpNo X11.here hx rfl (hb hby at_99) rfl (teq hc99).2 (XS.iconst X11.here hx rfl (hb hby at_102) (XS.goto X11.here hx rfl (pc0 := 103) (pc' := 107) rfl (hb hby at_103) (by decide) (by decide) (XS.istore X11.here hx rfl (hb hby at_107) rfl (l' := #[.val (.int p1), .val (.int p2), .val (.long q3), .second, .val (.long q4), .second, .val (.long q5), .second, .val (.int v4), .val (.int (1 : Int32)), .val (.int (0 : Int32)), .val (.ref b2), .val (.int (1 : Int32))]) rfl (XS.iload X11.here hx rfl (hb hby at_109) rfl (XS.iconst X11.here hx rfl (hb hby at_111) k)))))) ?_
      show GoW p e below QQ (T11.setTop (mkF m 112 #[.val (.int p1), .val (.int p2), .val (.long q3), .second, .val (.long q4), .second, .val (.long q5), .second, .val (.int v4), .val (.int (1 : Int32)), .val (.int (0 : Int32)), .val (.ref b2), .val (.int (1 : Int32))] [(.int (1 : Int32)), (.int (0 : Int32))]))
      have hc112 : (0 : Int32) < (1 : Int32) := by decide
      refine GoW.st (fun t k => XS.icmpYes X11.here hx rfl (pc0 := 112) (pc' := 120) rfl (hb hby at_112) rfl (tlt hc112).1 (by decide) (by decide) (XS.iload X11.here hx rfl (hb hby at_120) rfl (XS.iconst X11.here hx rfl (hb hby at_122) k))) ?_
      show GoW p e below QQ (T11.setTop (mkF m 123 #[.val (.int p1), .val (.int p2), .val (.long q3), .second, .val (.long q4), .second, .val (.long q5), .second, .val (.int v4), .val (.int (1 : Int32)), .val (.int (0 : Int32)), .val (.ref b2), .val (.int (1 : Int32))] [(.int (2 : Int32)), (.int (0 : Int32))]))
      have hc123 : (0 : Int32) < (2 : Int32) := by decide
      refine GoW.st (fun t k => XS.icmpYes X11.here hx rfl (pc0 := 123) (pc' := 131) rfl (hb hby at_123) rfl (tlt hc123).1 (by decide) (by decide) (XS.iload X11.here hx rfl (hb hby at_131) rfl (XS.iconst X11.here hx rfl (hb hby at_133) k))) ?_
      show GoW p e below QQ (T11.setTop (mkF m 134 #[.val (.int p1), .val (.int p2), .val (.long q3), .second, .val (.long q4), .second, .val (.long q5), .second, .val (.int v4), .val (.int (1 : Int32)), .val (.int (0 : Int32)), .val (.ref b2), .val (.int (1 : Int32))] [(.int (3 : Int32)), (.int (0 : Int32))]))
      have hc134 : (0 : Int32) < (3 : Int32) := by decide
      refine GoW.st (fun t k => XS.icmpYes X11.here hx rfl (pc0 := 134) (pc' := 142) rfl (hb hby at_134) rfl (tlt hc134).1 (by decide) (by decide) (XS.iload X11.here hx rfl (hb hby at_142) rfl k)) ?_
      show GoW p e below QQ (T11.setTop (mkF m 144 #[.val (.int p1), .val (.int p2), .val (.long q3), .second, .val (.long q4), .second, .val (.long q5), .second, .val (.int v4), .val (.int (1 : Int32)), .val (.int (0 : Int32)), .val (.ref b2), .val (.int (1 : Int32))] [(.int (1 : Int32))]))
      have hc144 : ¬ ((1 : Int32) = (0 : Int32)) := by decide
      refine GoW.st (fun t k => XS.ifNo X11.here hx rfl (hb hby at_144) rfl ((if0 _ _).trans (feq hc144).1) (XS.aload X11.here hx rfl (hb hby at_147) rfl rfl k)) ?_
      show GoW p e below QQ (T11.setTop (mkF m 149 #[.val (.int p1), .val (.int p2), .val (.long q3), .second, .val (.long q4), .second, .val (.long q5), .second, .val (.int v4), .val (.int (1 : Int32)), .val (.int (0 : Int32)), .val (.ref b2), .val (.int (1 : Int32))] [(.ref b2)]))
      obtain ⟨cq12, kq12, qa12, qb12, qc12⟩ := isOf hZ hh11 p9_0
      obtain ⟨_, _, ⟨T12, zL12, zk12, zn12⟩, -, X12, ⟨Lc12, hQ12, zl12, zy12, zz12⟩, st12⟩ := X11.virtualBack hx (y := (⟨"com/example/eunomia/eunomia/sticky/LongHeap", "isEmpty", "()Z"⟩ : MethodName)) (z := (⟨"com/example/eunomia/eunomia/sticky/LongHeap", "isEmpty", "()Z"⟩ : MethodName)) hown (mvT hZ (hw _ (List.mem_of_getElem? (i := 19) rfl))) (mvT hZ (hw _ (List.mem_of_getElem? (i := 20) rfl))) (notFace_of_selects (args := #[]) (mvT hZ (hw _ (List.mem_of_getElem? (i := 22) rfl)))) (mvT hZ (hw _ (List.mem_of_getElem? (i := 22) rfl))) (mvT hZ (hw _ (List.mem_of_getElem? (i := 21) rfl))) (by decide) (backOf (W := 0) (rm5_1 l Z a0 hw [] b2 T9.heap n0 (Nat.le_trans Z0 K9.1) p9_2) hZ (hw _ (List.mem_of_getElem? (i := 23) rfl)) (hw _ (List.mem_of_getElem? (i := 6) rfl)) (by decide) (by decide)) qa12 qc12 (g := (mkF m 149 #[.val (.int p1), .val (.int p2), .val (.long q3), .second, .val (.long q4), .second, .val (.long q5), .second, .val (.int v4), .val (.int (1 : Int32)), .val (.int (0 : Int32)), .val (.ref b2), .val (.int (1 : Int32))] [(.ref b2)])) rfl (by rw [hml]; rfl) (Steps.refl _) (argsL := []) (rest := []) (lenOf pd_4 rfl) rfl (by show 2 * 0 + _ ≤ _; exact Nat.le_of_eq rfl) (hb hby at_149) (fun _ _ => ⟨rfl, hh11, (by decide : 2 + 0 ≤ _), (by decide : 9 + 0 ≤ _)⟩)
      dsimp only [Pt.U, Pt.locs, Pt.cells, Pt.slots] at X12 zl12 zy12 zz12 st12 hQ12
      subst zl12 zy12 zz12
      obtain ⟨rfl, Nq12, hh12⟩ := hQ12
      have N12 := Fr.app N11 Nq12
      refine GoW.st (fun t k => st12.trans k) ?_
      show GoW p e below QQ (T12.setTop (mkF m 152 #[.val (.int p1), .val (.int p2), .val (.long q3), .second, .val (.long q4), .second, .val (.long q5), .second, .val (.int v4), .val (.int (1 : Int32)), .val (.int (0 : Int32)), .val (.ref b2), .val (.int (1 : Int32))] [(.int (0 : Int32))]))
      refine GoW.st (fun t k => XS.iload X12.here hx rfl (hb hby at_152) rfl (XS.iload X12.here hx rfl (hb hby at_154) rfl (XS.isub X12.here hx rfl (hb hby at_156) rfl k))) ?_
      show GoW p e below QQ (T12.setTop (mkF m 157 #[.val (.int p1), .val (.int p2), .val (.long q3), .second, .val (.long q4), .second, .val (.long q5), .second, .val (.int v4), .val (.int (1 : Int32)), .val (.int (0 : Int32)), .val (.ref b2), .val (.int (1 : Int32))] [(.int (1 : Int32)), (.int (0 : Int32))]))
      have hc157 : ¬ ((1 : Int32) = (0 : Int32)) := by decide
      refine GoW.st (fun t k => XS.ifYes X12.here hx rfl (pc0 := 157) (pc' := 164) rfl (hb hby at_157) rfl ((if0 _ _).trans (feq hc157).2) (by decide) (by decide) (XS.iconst X12.here hx rfl (hb hby at_164) k)) ?_
      show GoW p e below QQ (T12.setTop (mkF m 165 #[.val (.int p1), .val (.int p2), .val (.long q3), .second, .val (.long q4), .second, .val (.long q5), .second, .val (.int v4), .val (.int (1 : Int32)), .val (.int (0 : Int32)), .val (.ref b2), .val (.int (1 : Int32))] [(.int (0 : Int32)), (.int (0 : Int32))]))
      have hc165 : (0 : Int32) = (0 : Int32) := by decide
      refine GoW.st (fun t k => XS.icmpNo X12.here hx rfl (hb hby at_165) rfl (teq hc165).2 (XS.iconst X12.here hx rfl (hb hby at_168) (XS.goto X12.here hx rfl (pc0 := 169) (pc' := 173) rfl (hb hby at_169) (by decide) (by decide) (XS.istore X12.here hx rfl (hb hby at_173) rfl (l' := #[.val (.int p1), .val (.int p2), .val (.long q3), .second, .val (.long q4), .second, .val (.long q5), .second, .val (.int v4), .val (.int (1 : Int32)), .val (.int (0 : Int32)), .val (.ref b2), .val (.int (1 : Int32))]) rfl (XS.iload X12.here hx rfl (hb hby at_175) rfl k))))) ?_
      show GoW p e below QQ (T12.setTop (mkF m 177 #[.val (.int p1), .val (.int p2), .val (.long q3), .second, .val (.long q4), .second, .val (.long q5), .second, .val (.int v4), .val (.int (1 : Int32)), .val (.int (0 : Int32)), .val (.ref b2), .val (.int (1 : Int32))] [(.int (1 : Int32))]))
      exact GoW.fin X12 (some (.int (nar .boolean (1 : Int32)))) (fun q => by rw [hret] at q; cases q) hlk hQ hh12 ⟨rfl, N12⟩ (by decide) (by decide) (fun fs hr => retN X12 hx (t := .boolean) hret (by simp) (hb hby at_177) hr)
    · skip
      show GoW p e below QQ (T6.setTop (mkF m 43 #[.val (.int p1), .val (.int p2), .val (.long q3), .second, .val (.long q4), .second, .val (.long q5), .second, .val (.int v4), .val (.int (1 : Int32)), .val (.int (1 : Int32)), .val (.ref b2), .val (.int (1 : Int32))] [(.int (1 : Int32))]))
      refine GoW.st (fun t k => XS.iconst X6.here hx rfl (hb hby at_43) k) ?_
      show GoW p e below QQ (T6.setTop (mkF m 44 #[.val (.int p1), .val (.int p2), .val (.long q3), .second, .val (.long q4), .second, .val (.long q5), .second, .val (.int v4), .val (.int (1 : Int32)), .val (.int (1 : Int32)), .val (.ref b2), .val (.int (1 : Int32))] [(.int (1 : Int32)), (.int (1 : Int32))]))
      have hc44 : ¬ ((1 : Int32) < (1 : Int32)) := by decide
      refine GoW.st (fun t k => XS.icmpNo X6.here hx rfl (hb hby at_44) rfl (flt hc44).1 (XS.aload X6.here hx rfl (hb hby at_47) rfl rfl (XS.lloadN X6.here hx rfl (hb hby at_49) rfl k))) ?_
      show GoW p e below QQ (T6.setTop (mkF m 50 #[.val (.int p1), .val (.int p2), .val (.long q3), .second, .val (.long q4), .second, .val (.long q5), .second, .val (.int v4), .val (.int (1 : Int32)), .val (.int (1 : Int32)), .val (.ref b2), .val (.int (1 : Int32))] [(.long q3), (.ref b2)]))
      obtain ⟨cq13, kq13, qa13, qb13, qc13⟩ := isOf hZ hh6 p4_0
      obtain ⟨_, _, ⟨T13, zL13, zk13, zn13⟩, -, X13, ⟨Lc13, hQ13, zl13, zy13, zz13⟩, st13⟩ := X6.virtualBack hx (y := (⟨"com/example/eunomia/eunomia/sticky/LongHeap", "add", "(J)V"⟩ : MethodName)) (z := (⟨"com/example/eunomia/eunomia/sticky/LongHeap", "add", "(J)V"⟩ : MethodName)) hown (mvT hZ (hw _ (List.mem_of_getElem? (i := 26) rfl))) (mvT hZ (hw _ (List.mem_of_getElem? (i := 27) rfl))) (notFace_of_selects (args := #[]) (mvT hZ (hw _ (List.mem_of_getElem? (i := 29) rfl)))) (mvT hZ (hw _ (List.mem_of_getElem? (i := 29) rfl))) (mvT hZ (hw _ (List.mem_of_getElem? (i := 28) rfl))) (by decide) (backOf (W := 0) (rm6_0 l Z a0 hw [] b2 q3 b_29 kb_29 z_29 (0 : Int64) (0 : Int64) (0 : Int64) (0 : Int64) T4.heap n0 (Nat.le_trans Z0 K4.1) p4_0 gg2 gg4_b_29 (Ne.symm ne4_b2_b_29) p4_1 p4_2 p4_4 (by omega)) hZ (hw _ (List.mem_of_getElem? (i := 30) rfl)) (hw _ (List.mem_of_getElem? (i := 6) rfl)) (by decide) (by decide)) qa13 qc13 (g := (mkF m 50 #[.val (.int p1), .val (.int p2), .val (.long q3), .second, .val (.long q4), .second, .val (.long q5), .second, .val (.int v4), .val (.int (1 : Int32)), .val (.int (1 : Int32)), .val (.ref b2), .val (.int (1 : Int32))] [(.long q3), (.ref b2)])) rfl (by rw [hml]; rfl) (Steps.refl _) (argsL := [(.long q3)]) (rest := []) (lenOf pd_2 rfl) rfl (by show 2 * 0 + _ ≤ _; exact Nat.le_of_eq rfl) (hb hby at_50) (fun _ _ => ⟨rfl, hh6, (by decide : 2 + 0 ≤ _), (by decide : 9 + 0 ≤ _)⟩)
      dsimp only [Pt.U, Pt.locs, Pt.cells, Pt.slots] at X13 zl13 zy13 zz13 st13 hQ13
      subst zl13 zy13 zz13
      obtain ⟨b_50, kb_50, zz_50, wa_50, wb_50, wc_50, wd_50, rfl, Nq13, Kq13, p13_0, p13_1, p13_2, p13_3, p13_4, p13_5, p13_6⟩ := hQ13
      have N13 := Fr.app N6 Nq13
      refine GoW.st (fun t k => st13.trans k) ?_
      have K13 : Keep h0 T13.heap [] := K4.trans Kq13 (allS (Or.inr sz2) (allS (Or.inr sz4_b_29) all0))
      have hzz_50 := p13_6
      show GoW p e below QQ (T13.setTop (mkF m 53 #[.val (.int p1), .val (.int p2), .val (.long q3), .second, .val (.long q4), .second, .val (.long q5), .second, .val (.int v4), .val (.int (1 : Int32)), .val (.int (1 : Int32)), .val (.ref b2), .val (.int (1 : Int32))] []))
      refine GoW.st (fun t k => XS.iload X13.here hx rfl (hb hby at_53) rfl (XS.iconst X13.here hx rfl (hb hby at_55) k)) ?_
      show GoW p e below QQ (T13.setTop (mkF m 56 #[.val (.int p1), .val (.int p2), .val (.long q3), .second, .val (.long q4), .second, .val (.long q5), .second, .val (.int v4), .val (.int (1 : Int32)), .val (.int (1 : Int32)), .val (.ref b2), .val (.int (1 : Int32))] [(.int (2 : Int32)), (.int (1 : Int32))]))
      have hc56 : (1 : Int32) < (2 : Int32) := by decide
      refine GoW.st (fun t k => XS.icmpYes X13.here hx rfl (pc0 := 56) (pc' := 66) rfl (hb hby at_56) rfl (tlt hc56).1 (by decide) (by decide) (XS.iload X13.here hx rfl (hb hby at_66) rfl (XS.iconst X13.here hx rfl (hb hby at_68) k))) ?_
      show GoW p e below QQ (T13.setTop (mkF m 69 #[.val (.int p1), .val (.int p2), .val (.long q3), .second, .val (.long q4), .second, .val (.long q5), .second, .val (.int v4), .val (.int (1 : Int32)), .val (.int (1 : Int32)), .val (.ref b2), .val (.int (1 : Int32))] [(.int (3 : Int32)), (.int (1 : Int32))]))
      have hc69 : (1 : Int32) < (3 : Int32) := by decide
      refine GoW.st (fun t k => XS.icmpYes X13.here hx rfl (pc0 := 69) (pc' := 79) rfl (hb hby at_69) rfl (tlt hc69).1 (by decide) (by decide) (XS.iload X13.here hx rfl (hb hby at_79) rfl k)) ?_
      show GoW p e below QQ (T13.setTop (mkF m 81 #[.val (.int p1), .val (.int p2), .val (.long q3), .second, .val (.long q4), .second, .val (.long q5), .second, .val (.int v4), .val (.int (1 : Int32)), .val (.int (1 : Int32)), .val (.ref b2), .val (.int (1 : Int32))] [(.int (1 : Int32))]))
      have hc81 : ¬ ((1 : Int32) = (0 : Int32)) := by decide
      refine GoW.st (fun t k => XS.ifNo X13.here hx rfl (hb hby at_81) rfl ((if0 _ _).trans (feq hc81).1) (XS.aload X13.here hx rfl (hb hby at_84) rfl rfl k)) ?_
      show GoW p e below QQ (T13.setTop (mkF m 86 #[.val (.int p1), .val (.int p2), .val (.long q3), .second, .val (.long q4), .second, .val (.long q5), .second, .val (.int v4), .val (.int (1 : Int32)), .val (.int (1 : Int32)), .val (.ref b2), .val (.int (1 : Int32))] [(.ref b2)]))
      obtain ⟨cq15, kq15, qa15, qb15, qc15⟩ := isOf hZ rfl p13_0
      obtain ⟨_, _, ⟨T15, zL15, zk15, zn15⟩, -, X15, ⟨Lc15, hQ15, zl15, zy15, zz15⟩, st15⟩ := X13.virtualBack hx (y := (⟨"com/example/eunomia/eunomia/sticky/LongHeap", "isEmpty", "()Z"⟩ : MethodName)) (z := (⟨"com/example/eunomia/eunomia/sticky/LongHeap", "isEmpty", "()Z"⟩ : MethodName)) hown (mvT hZ (hw _ (List.mem_of_getElem? (i := 19) rfl))) (mvT hZ (hw _ (List.mem_of_getElem? (i := 20) rfl))) (notFace_of_selects (args := #[]) (mvT hZ (hw _ (List.mem_of_getElem? (i := 22) rfl)))) (mvT hZ (hw _ (List.mem_of_getElem? (i := 22) rfl))) (mvT hZ (hw _ (List.mem_of_getElem? (i := 21) rfl))) (by decide) (backOf (W := 0) (rm5_1 l Z a0 hw [] b2 T13.heap n0 (Nat.le_trans Z0 K13.1) p13_2) hZ (hw _ (List.mem_of_getElem? (i := 23) rfl)) (hw _ (List.mem_of_getElem? (i := 6) rfl)) (by decide) (by decide)) qa15 qc15 (g := (mkF m 86 #[.val (.int p1), .val (.int p2), .val (.long q3), .second, .val (.long q4), .second, .val (.long q5), .second, .val (.int v4), .val (.int (1 : Int32)), .val (.int (1 : Int32)), .val (.ref b2), .val (.int (1 : Int32))] [(.ref b2)])) rfl (by rw [hml]; rfl) (Steps.refl _) (argsL := []) (rest := []) (lenOf pd_4 rfl) rfl (by show 2 * 0 + _ ≤ _; exact Nat.le_of_eq rfl) (hb hby at_86) (fun _ _ => ⟨rfl, rfl, (by decide : 2 + 0 ≤ _), (by decide : 9 + 0 ≤ _)⟩)
      dsimp only [Pt.U, Pt.locs, Pt.cells, Pt.slots] at X15 zl15 zy15 zz15 st15 hQ15
      subst zl15 zy15 zz15
      obtain ⟨rfl, Nq15, hh15⟩ := hQ15
      have N15 := Fr.app N13 Nq15
      refine GoW.st (fun t k => st15.trans k) ?_
      show GoW p e below QQ (T15.setTop (mkF m 89 #[.val (.int p1), .val (.int p2), .val (.long q3), .second, .val (.long q4), .second, .val (.long q5), .second, .val (.int v4), .val (.int (1 : Int32)), .val (.int (1 : Int32)), .val (.ref b2), .val (.int (1 : Int32))] [(.int (0 : Int32))]))
      refine GoW.st (fun t k => XS.iload X15.here hx rfl (hb hby at_89) rfl k) ?_
      show GoW p e below QQ (T15.setTop (mkF m 91 #[.val (.int p1), .val (.int p2), .val (.long q3), .second, .val (.long q4), .second, .val (.long q5), .second, .val (.int v4), .val (.int (1 : Int32)), .val (.int (1 : Int32)), .val (.ref b2), .val (.int (1 : Int32))] [(.int (1 : Int32)), (.int (0 : Int32))]))
      have hc91 : ¬ ((1 : Int32) = (0 : Int32)) := by decide
      refine GoW.st (fun t k => XS.ifYes X15.here hx rfl (pc0 := 91) (pc' := 98) rfl (hb hby at_91) rfl ((if0 _ _).trans (feq hc91).2) (by decide) (by decide) (XS.iconst X15.here hx rfl (hb hby at_98) k)) ?_
      show GoW p e below QQ (T15.setTop (mkF m 99 #[.val (.int p1), .val (.int p2), .val (.long q3), .second, .val (.long q4), .second, .val (.long q5), .second, .val (.int v4), .val (.int (1 : Int32)), .val (.int (1 : Int32)), .val (.ref b2), .val (.int (1 : Int32))] [(.int (0 : Int32)), (.int (0 : Int32))]))
      have hc99 : (0 : Int32) = (0 : Int32) := by decide
      refine GoW.st (fun t k => XS.icmpNo X15.here hx rfl (hb hby at_99) rfl (teq hc99).2 (XS.iconst X15.here hx rfl (hb hby at_102) (XS.goto X15.here hx rfl (pc0 := 103) (pc' := 107) rfl (hb hby at_103) (by decide) (by decide) (XS.istore X15.here hx rfl (hb hby at_107) rfl (l' := #[.val (.int p1), .val (.int p2), .val (.long q3), .second, .val (.long q4), .second, .val (.long q5), .second, .val (.int v4), .val (.int (1 : Int32)), .val (.int (1 : Int32)), .val (.ref b2), .val (.int (1 : Int32))]) rfl (XS.iload X15.here hx rfl (hb hby at_109) rfl (XS.iconst X15.here hx rfl (hb hby at_111) k)))))) ?_
      show GoW p e below QQ (T15.setTop (mkF m 112 #[.val (.int p1), .val (.int p2), .val (.long q3), .second, .val (.long q4), .second, .val (.long q5), .second, .val (.int v4), .val (.int (1 : Int32)), .val (.int (1 : Int32)), .val (.ref b2), .val (.int (1 : Int32))] [(.int (1 : Int32)), (.int (1 : Int32))]))
      have hc112 : ¬ ((1 : Int32) < (1 : Int32)) := by decide
      refine GoW.st (fun t k => XS.icmpNo X15.here hx rfl (hb hby at_112) rfl (flt hc112).1 (XS.aload X15.here hx rfl (hb hby at_115) rfl rfl k)) ?_
      show GoW p e below QQ (T15.setTop (mkF m 117 #[.val (.int p1), .val (.int p2), .val (.long q3), .second, .val (.long q4), .second, .val (.long q5), .second, .val (.int v4), .val (.int (1 : Int32)), .val (.int (1 : Int32)), .val (.ref b2), .val (.int (1 : Int32))] [(.ref b2)]))
      obtain ⟨cq16, kq16, qa16, qb16, qc16⟩ := isOf hZ hh15 p13_0
      obtain ⟨_, _, ⟨T16, zL16, zk16, zn16⟩, -, X16, ⟨Lc16, hQ16, zl16, zy16, zz16⟩, st16⟩ := X15.virtualBack hx (y := (⟨"com/example/eunomia/eunomia/sticky/LongHeap", "remove", "()V"⟩ : MethodName)) (z := (⟨"com/example/eunomia/eunomia/sticky/LongHeap", "remove", "()V"⟩ : MethodName)) hown (mvT hZ (hw _ (List.mem_of_getElem? (i := 40) rfl))) (mvT hZ (hw _ (List.mem_of_getElem? (i := 41) rfl))) (notFace_of_selects (args := #[]) (mvT hZ (hw _ (List.mem_of_getElem? (i := 43) rfl)))) (mvT hZ (hw _ (List.mem_of_getElem? (i := 43) rfl))) (mvT hZ (hw _ (List.mem_of_getElem? (i := 42) rfl))) (by decide) (backOf (W := 0) (rm8_1 l Z a0 hw [] b2 b_50 kb_50 zz_50 wa_50 wb_50 wc_50 wd_50 T13.heap n0 (Nat.le_trans Z0 K13.1) p13_0 gg2 p13_3 p13_4 p13_1 p13_2 p13_5 (by omega)) hZ (hw _ (List.mem_of_getElem? (i := 44) rfl)) (hw _ (List.mem_of_getElem? (i := 6) rfl)) (by decide) (by decide)) qa16 qc16 (g := (mkF m 117 #[.val (.int p1), .val (.int p2), .val (.long q3), .second, .val (.long q4), .second, .val (.long q5), .second, .val (.int v4), .val (.int (1 : Int32)), .val (.int (1 : Int32)), .val (.ref b2), .val (.int (1 : Int32))] [(.ref b2)])) rfl (by rw [hml]; rfl) (Steps.refl _) (argsL := []) (rest := []) (lenOf pd_5 rfl) rfl (by show 2 * 0 + _ ≤ _; exact Nat.le_of_eq rfl) (hb hby at_117) (fun _ _ => ⟨rfl, hh15, (by decide : 2 + 0 ≤ _), (by decide : 9 + 0 ≤ _)⟩)
      dsimp only [Pt.U, Pt.locs, Pt.cells, Pt.slots] at X16 zl16 zy16 zz16 st16 hQ16
      subst zl16 zy16 zz16
      obtain ⟨wa_117, wb_117, wc_117, wd_117, rfl, Nq16, Kq16, p16_0, p16_1, p16_2, p16_3⟩ := hQ16
      have N16 := Fr.app N15 Nq16
      refine GoW.st (fun t k => st16.trans k) ?_
      have K16 : Keep h0 T16.heap [] := K13.trans Kq16 (allS (Or.inr sz2) (allS (Or.inr (Nat.le_trans Z1 p13_3)) all0))
      show GoW p e below QQ (T16.setTop (mkF m 120 #[.val (.int p1), .val (.int p2), .val (.long q3), .second, .val (.long q4), .second, .val (.long q5), .second, .val (.int v4), .val (.int (1 : Int32)), .val (.int (1 : Int32)), .val (.ref b2), .val (.int (1 : Int32))] []))
      refine GoW.st (fun t k => XS.iload X16.here hx rfl (hb hby at_120) rfl (XS.iconst X16.here hx rfl (hb hby at_122) k)) ?_
      show GoW p e below QQ (T16.setTop (mkF m 123 #[.val (.int p1), .val (.int p2), .val (.long q3), .second, .val (.long q4), .second, .val (.long q5), .second, .val (.int v4), .val (.int (1 : Int32)), .val (.int (1 : Int32)), .val (.ref b2), .val (.int (1 : Int32))] [(.int (2 : Int32)), (.int (1 : Int32))]))
      have hc123 : (1 : Int32) < (2 : Int32) := by decide
      refine GoW.st (fun t k => XS.icmpYes X16.here hx rfl (pc0 := 123) (pc' := 131) rfl (hb hby at_123) rfl (tlt hc123).1 (by decide) (by decide) (XS.iload X16.here hx rfl (hb hby at_131) rfl (XS.iconst X16.here hx rfl (hb hby at_133) k))) ?_
      show GoW p e below QQ (T16.setTop (mkF m 134 #[.val (.int p1), .val (.int p2), .val (.long q3), .second, .val (.long q4), .second, .val (.long q5), .second, .val (.int v4), .val (.int (1 : Int32)), .val (.int (1 : Int32)), .val (.ref b2), .val (.int (1 : Int32))] [(.int (3 : Int32)), (.int (1 : Int32))]))
      have hc134 : (1 : Int32) < (3 : Int32) := by decide
      refine GoW.st (fun t k => XS.icmpYes X16.here hx rfl (pc0 := 134) (pc' := 142) rfl (hb hby at_134) rfl (tlt hc134).1 (by decide) (by decide) (XS.iload X16.here hx rfl (hb hby at_142) rfl k)) ?_
      show GoW p e below QQ (T16.setTop (mkF m 144 #[.val (.int p1), .val (.int p2), .val (.long q3), .second, .val (.long q4), .second, .val (.long q5), .second, .val (.int v4), .val (.int (1 : Int32)), .val (.int (1 : Int32)), .val (.ref b2), .val (.int (1 : Int32))] [(.int (1 : Int32))]))
      have hc144 : ¬ ((1 : Int32) = (0 : Int32)) := by decide
      refine GoW.st (fun t k => XS.ifNo X16.here hx rfl (hb hby at_144) rfl ((if0 _ _).trans (feq hc144).1) (XS.aload X16.here hx rfl (hb hby at_147) rfl rfl k)) ?_
      show GoW p e below QQ (T16.setTop (mkF m 149 #[.val (.int p1), .val (.int p2), .val (.long q3), .second, .val (.long q4), .second, .val (.long q5), .second, .val (.int v4), .val (.int (1 : Int32)), .val (.int (1 : Int32)), .val (.ref b2), .val (.int (1 : Int32))] [(.ref b2)]))
      obtain ⟨cq18, kq18, qa18, qb18, qc18⟩ := isOf hZ rfl p16_0
      obtain ⟨_, _, ⟨T18, zL18, zk18, zn18⟩, -, X18, ⟨Lc18, hQ18, zl18, zy18, zz18⟩, st18⟩ := X16.virtualBack hx (y := (⟨"com/example/eunomia/eunomia/sticky/LongHeap", "isEmpty", "()Z"⟩ : MethodName)) (z := (⟨"com/example/eunomia/eunomia/sticky/LongHeap", "isEmpty", "()Z"⟩ : MethodName)) hown (mvT hZ (hw _ (List.mem_of_getElem? (i := 19) rfl))) (mvT hZ (hw _ (List.mem_of_getElem? (i := 20) rfl))) (notFace_of_selects (args := #[]) (mvT hZ (hw _ (List.mem_of_getElem? (i := 22) rfl)))) (mvT hZ (hw _ (List.mem_of_getElem? (i := 22) rfl))) (mvT hZ (hw _ (List.mem_of_getElem? (i := 21) rfl))) (by decide) (backOf (W := 0) (rm5_0 l Z a0 hw [] b2 T16.heap n0 (Nat.le_trans Z0 K16.1) p16_2) hZ (hw _ (List.mem_of_getElem? (i := 23) rfl)) (hw _ (List.mem_of_getElem? (i := 6) rfl)) (by decide) (by decide)) qa18 qc18 (g := (mkF m 149 #[.val (.int p1), .val (.int p2), .val (.long q3), .second, .val (.long q4), .second, .val (.long q5), .second, .val (.int v4), .val (.int (1 : Int32)), .val (.int (1 : Int32)), .val (.ref b2), .val (.int (1 : Int32))] [(.ref b2)])) rfl (by rw [hml]; rfl) (Steps.refl _) (argsL := []) (rest := []) (lenOf pd_4 rfl) rfl (by show 2 * 0 + _ ≤ _; exact Nat.le_of_eq rfl) (hb hby at_149) (fun _ _ => ⟨rfl, rfl, (by decide : 2 + 0 ≤ _), (by decide : 9 + 0 ≤ _)⟩)
      dsimp only [Pt.U, Pt.locs, Pt.cells, Pt.slots] at X18 zl18 zy18 zz18 st18 hQ18
      subst zl18 zy18 zz18
      obtain ⟨rfl, Nq18, hh18⟩ := hQ18
      have N18 := Fr.app N16 Nq18
      refine GoW.st (fun t k => st18.trans k) ?_
      show GoW p e below QQ (T18.setTop (mkF m 152 #[.val (.int p1), .val (.int p2), .val (.long q3), .second, .val (.long q4), .second, .val (.long q5), .second, .val (.int v4), .val (.int (1 : Int32)), .val (.int (1 : Int32)), .val (.ref b2), .val (.int (1 : Int32))] [(.int (1 : Int32))]))
      refine GoW.st (fun t k => XS.iload X18.here hx rfl (hb hby at_152) rfl (XS.iload X18.here hx rfl (hb hby at_154) rfl (XS.isub X18.here hx rfl (hb hby at_156) rfl k))) ?_
      show GoW p e below QQ (T18.setTop (mkF m 157 #[.val (.int p1), .val (.int p2), .val (.long q3), .second, .val (.long q4), .second, .val (.long q5), .second, .val (.int v4), .val (.int (1 : Int32)), .val (.int (1 : Int32)), .val (.ref b2), .val (.int (1 : Int32))] [(.int (0 : Int32)), (.int (1 : Int32))]))
      have hc157 : (0 : Int32) = (0 : Int32) := by decide
      refine GoW.st (fun t k => XS.ifNo X18.here hx rfl (hb hby at_157) rfl ((if0 _ _).trans (teq hc157).2) (XS.iconst X18.here hx rfl (hb hby at_160) (XS.goto X18.here hx rfl (pc0 := 161) (pc' := 165) rfl (hb hby at_161) (by decide) (by decide) k))) ?_
      show GoW p e below QQ (T18.setTop (mkF m 165 #[.val (.int p1), .val (.int p2), .val (.long q3), .second, .val (.long q4), .second, .val (.long q5), .second, .val (.int v4), .val (.int (1 : Int32)), .val (.int (1 : Int32)), .val (.ref b2), .val (.int (1 : Int32))] [(.int (1 : Int32)), (.int (1 : Int32))]))
      have hc165 : (1 : Int32) = (1 : Int32) := by decide
      refine GoW.st (fun t k => XS.icmpNo X18.here hx rfl (hb hby at_165) rfl (teq hc165).2 (XS.iconst X18.here hx rfl (hb hby at_168) (XS.goto X18.here hx rfl (pc0 := 169) (pc' := 173) rfl (hb hby at_169) (by decide) (by decide) (XS.istore X18.here hx rfl (hb hby at_173) rfl (l' := #[.val (.int p1), .val (.int p2), .val (.long q3), .second, .val (.long q4), .second, .val (.long q5), .second, .val (.int v4), .val (.int (1 : Int32)), .val (.int (1 : Int32)), .val (.ref b2), .val (.int (1 : Int32))]) rfl (XS.iload X18.here hx rfl (hb hby at_175) rfl k))))) ?_
      show GoW p e below QQ (T18.setTop (mkF m 177 #[.val (.int p1), .val (.int p2), .val (.long q3), .second, .val (.long q4), .second, .val (.long q5), .second, .val (.int v4), .val (.int (1 : Int32)), .val (.int (1 : Int32)), .val (.ref b2), .val (.int (1 : Int32))] [(.int (1 : Int32))]))
      exact GoW.fin X18 (some (.int (nar .boolean (1 : Int32)))) (fun q => by rw [hret] at q; cases q) hlk hQ hh18 ⟨rfl, N18⟩ (by decide) (by decide) (fun fs hr => retN X18 hx (t := .boolean) hret (by simp) (hb hby at_177) hr)
  · skip
    refine GoW.st (fun t k => XS.iload X6.here hx rfl (hb hby at_41) rfl k) ?_
    show GoW p e below QQ (T6.setTop (mkF m 43 #[.val (.int p1), .val (.int p2), .val (.long q3), .second, .val (.long q4), .second, .val (.long q5), .second, .val (.int v4), .val (.int (2 : Int32)), .val (.int v21), .val (.ref b2), .val (.int (1 : Int32))] [(.int (2 : Int32))]))
    have mC : v21 = 0 ∨ v21 = 1 ∨ v21 = 2 := by
      have q : v21.toInt = 0 ∨ v21.toInt = 1 ∨ v21.toInt = 2 := by omega
      rcases q with q | q | q
      · exact Or.inl (own_eq_of q)
      · exact Or.inr (Or.inl (own_eq_of q))
      · exact Or.inr (Or.inr (own_eq_of q))
    rcases mC with rfl | rfl | rfl
    · skip
      show GoW p e below QQ (T6.setTop (mkF m 43 #[.val (.int p1), .val (.int p2), .val (.long q3), .second, .val (.long q4), .second, .val (.long q5), .second, .val (.int v4), .val (.int (2 : Int32)), .val (.int (0 : Int32)), .val (.ref b2), .val (.int (1 : Int32))] [(.int (2 : Int32))]))
      refine GoW.st (fun t k => XS.iconst X6.here hx rfl (hb hby at_43) k) ?_
      show GoW p e below QQ (T6.setTop (mkF m 44 #[.val (.int p1), .val (.int p2), .val (.long q3), .second, .val (.long q4), .second, .val (.long q5), .second, .val (.int v4), .val (.int (2 : Int32)), .val (.int (0 : Int32)), .val (.ref b2), .val (.int (1 : Int32))] [(.int (1 : Int32)), (.int (2 : Int32))]))
      have hc44 : ¬ ((2 : Int32) < (1 : Int32)) := by decide
      refine GoW.st (fun t k => XS.icmpNo X6.here hx rfl (hb hby at_44) rfl (flt hc44).1 (XS.aload X6.here hx rfl (hb hby at_47) rfl rfl (XS.lloadN X6.here hx rfl (hb hby at_49) rfl k))) ?_
      show GoW p e below QQ (T6.setTop (mkF m 50 #[.val (.int p1), .val (.int p2), .val (.long q3), .second, .val (.long q4), .second, .val (.long q5), .second, .val (.int v4), .val (.int (2 : Int32)), .val (.int (0 : Int32)), .val (.ref b2), .val (.int (1 : Int32))] [(.long q3), (.ref b2)]))
      obtain ⟨cq19, kq19, qa19, qb19, qc19⟩ := isOf hZ hh6 p4_0
      obtain ⟨_, _, ⟨T19, zL19, zk19, zn19⟩, -, X19, ⟨Lc19, hQ19, zl19, zy19, zz19⟩, st19⟩ := X6.virtualBack hx (y := (⟨"com/example/eunomia/eunomia/sticky/LongHeap", "add", "(J)V"⟩ : MethodName)) (z := (⟨"com/example/eunomia/eunomia/sticky/LongHeap", "add", "(J)V"⟩ : MethodName)) hown (mvT hZ (hw _ (List.mem_of_getElem? (i := 26) rfl))) (mvT hZ (hw _ (List.mem_of_getElem? (i := 27) rfl))) (notFace_of_selects (args := #[]) (mvT hZ (hw _ (List.mem_of_getElem? (i := 29) rfl)))) (mvT hZ (hw _ (List.mem_of_getElem? (i := 29) rfl))) (mvT hZ (hw _ (List.mem_of_getElem? (i := 28) rfl))) (by decide) (backOf (W := 0) (rm6_0 l Z a0 hw [] b2 q3 b_29 kb_29 z_29 (0 : Int64) (0 : Int64) (0 : Int64) (0 : Int64) T4.heap n0 (Nat.le_trans Z0 K4.1) p4_0 gg2 gg4_b_29 (Ne.symm ne4_b2_b_29) p4_1 p4_2 p4_4 (by omega)) hZ (hw _ (List.mem_of_getElem? (i := 30) rfl)) (hw _ (List.mem_of_getElem? (i := 6) rfl)) (by decide) (by decide)) qa19 qc19 (g := (mkF m 50 #[.val (.int p1), .val (.int p2), .val (.long q3), .second, .val (.long q4), .second, .val (.long q5), .second, .val (.int v4), .val (.int (2 : Int32)), .val (.int (0 : Int32)), .val (.ref b2), .val (.int (1 : Int32))] [(.long q3), (.ref b2)])) rfl (by rw [hml]; rfl) (Steps.refl _) (argsL := [(.long q3)]) (rest := []) (lenOf pd_2 rfl) rfl (by show 2 * 0 + _ ≤ _; exact Nat.le_of_eq rfl) (hb hby at_50) (fun _ _ => ⟨rfl, hh6, (by decide : 2 + 0 ≤ _), (by decide : 9 + 0 ≤ _)⟩)
      dsimp only [Pt.U, Pt.locs, Pt.cells, Pt.slots] at X19 zl19 zy19 zz19 st19 hQ19
      subst zl19 zy19 zz19
      obtain ⟨b_50, kb_50, zz_50, wa_50, wb_50, wc_50, wd_50, rfl, Nq19, Kq19, p19_0, p19_1, p19_2, p19_3, p19_4, p19_5, p19_6⟩ := hQ19
      have N19 := Fr.app N6 Nq19
      refine GoW.st (fun t k => st19.trans k) ?_
      have K19 : Keep h0 T19.heap [] := K4.trans Kq19 (allS (Or.inr sz2) (allS (Or.inr sz4_b_29) all0))
      have hzz_50 := p19_6
      show GoW p e below QQ (T19.setTop (mkF m 53 #[.val (.int p1), .val (.int p2), .val (.long q3), .second, .val (.long q4), .second, .val (.long q5), .second, .val (.int v4), .val (.int (2 : Int32)), .val (.int (0 : Int32)), .val (.ref b2), .val (.int (1 : Int32))] []))
      refine GoW.st (fun t k => XS.iload X19.here hx rfl (hb hby at_53) rfl (XS.iconst X19.here hx rfl (hb hby at_55) k)) ?_
      show GoW p e below QQ (T19.setTop (mkF m 56 #[.val (.int p1), .val (.int p2), .val (.long q3), .second, .val (.long q4), .second, .val (.long q5), .second, .val (.int v4), .val (.int (2 : Int32)), .val (.int (0 : Int32)), .val (.ref b2), .val (.int (1 : Int32))] [(.int (2 : Int32)), (.int (2 : Int32))]))
      have hc56 : ¬ ((2 : Int32) < (2 : Int32)) := by decide
      refine GoW.st (fun t k => XS.icmpNo X19.here hx rfl (hb hby at_56) rfl (flt hc56).1 (XS.aload X19.here hx rfl (hb hby at_59) rfl rfl (XS.lload X19.here hx rfl (hb hby at_61) rfl k))) ?_
      show GoW p e below QQ (T19.setTop (mkF m 63 #[.val (.int p1), .val (.int p2), .val (.long q3), .second, .val (.long q4), .second, .val (.long q5), .second, .val (.int v4), .val (.int (2 : Int32)), .val (.int (0 : Int32)), .val (.ref b2), .val (.int (1 : Int32))] [(.long q4), (.ref b2)]))
      obtain ⟨cq21, kq21, qa21, qb21, qc21⟩ := isOf hZ rfl p19_0
      obtain ⟨_, _, ⟨T21, zL21, zk21, zn21⟩, -, X21, ⟨Lc21, hQ21, zl21, zy21, zz21⟩, st21⟩ := X19.virtualBack hx (y := (⟨"com/example/eunomia/eunomia/sticky/LongHeap", "add", "(J)V"⟩ : MethodName)) (z := (⟨"com/example/eunomia/eunomia/sticky/LongHeap", "add", "(J)V"⟩ : MethodName)) hown (mvT hZ (hw _ (List.mem_of_getElem? (i := 26) rfl))) (mvT hZ (hw _ (List.mem_of_getElem? (i := 27) rfl))) (notFace_of_selects (args := #[]) (mvT hZ (hw _ (List.mem_of_getElem? (i := 29) rfl)))) (mvT hZ (hw _ (List.mem_of_getElem? (i := 29) rfl))) (mvT hZ (hw _ (List.mem_of_getElem? (i := 28) rfl))) (by decide) (backOf (W := 0) (rm6_1 l Z a0 hw [] b2 q4 b_50 kb_50 zz_50 wa_50 wb_50 wc_50 wd_50 T19.heap n0 (Nat.le_trans Z0 K19.1) p19_0 gg2 p19_3 p19_4 p19_1 p19_2 p19_5 (by omega)) hZ (hw _ (List.mem_of_getElem? (i := 30) rfl)) (hw _ (List.mem_of_getElem? (i := 6) rfl)) (by decide) (by decide)) qa21 qc21 (g := (mkF m 63 #[.val (.int p1), .val (.int p2), .val (.long q3), .second, .val (.long q4), .second, .val (.long q5), .second, .val (.int v4), .val (.int (2 : Int32)), .val (.int (0 : Int32)), .val (.ref b2), .val (.int (1 : Int32))] [(.long q4), (.ref b2)])) rfl (by rw [hml]; rfl) (Steps.refl _) (argsL := [(.long q4)]) (rest := []) (lenOf pd_2 rfl) rfl (by show 2 * 0 + _ ≤ _; exact Nat.le_of_eq rfl) (hb hby at_63) (fun _ _ => ⟨rfl, rfl, (by decide : 2 + 1 ≤ _), (by decide : 9 + 2 ≤ _)⟩)
      dsimp only [Pt.U, Pt.locs, Pt.cells, Pt.slots] at X21 zl21 zy21 zz21 st21 hQ21
      subst zl21 zy21 zz21
      obtain ⟨b_63, kb_63, zz_63, wa_63, wb_63, wc_63, wd_63, rfl, Nq21, Kq21, p21_0, p21_1, p21_2, p21_3, p21_4, p21_5, p21_6⟩ := hQ21
      have N21 := Fr.app N19 Nq21
      refine GoW.st (fun t k => st21.trans k) ?_
      have K21 : Keep h0 T21.heap [] := K19.trans Kq21 (allS (Or.inr sz2) (allS (Or.inr (Nat.le_trans Z1 p19_3)) all0))
      have hzz_63 := p21_6
      show GoW p e below QQ (T21.setTop (mkF m 66 #[.val (.int p1), .val (.int p2), .val (.long q3), .second, .val (.long q4), .second, .val (.long q5), .second, .val (.int v4), .val (.int (2 : Int32)), .val (.int (0 : Int32)), .val (.ref b2), .val (.int (1 : Int32))] []))
      refine GoW.st (fun t k => XS.iload X21.here hx rfl (hb hby at_66) rfl (XS.iconst X21.here hx rfl (hb hby at_68) k)) ?_
      show GoW p e below QQ (T21.setTop (mkF m 69 #[.val (.int p1), .val (.int p2), .val (.long q3), .second, .val (.long q4), .second, .val (.long q5), .second, .val (.int v4), .val (.int (2 : Int32)), .val (.int (0 : Int32)), .val (.ref b2), .val (.int (1 : Int32))] [(.int (3 : Int32)), (.int (2 : Int32))]))
      have hc69 : (2 : Int32) < (3 : Int32) := by decide
      refine GoW.st (fun t k => XS.icmpYes X21.here hx rfl (pc0 := 69) (pc' := 79) rfl (hb hby at_69) rfl (tlt hc69).1 (by decide) (by decide) (XS.iload X21.here hx rfl (hb hby at_79) rfl k)) ?_
      show GoW p e below QQ (T21.setTop (mkF m 81 #[.val (.int p1), .val (.int p2), .val (.long q3), .second, .val (.long q4), .second, .val (.long q5), .second, .val (.int v4), .val (.int (2 : Int32)), .val (.int (0 : Int32)), .val (.ref b2), .val (.int (1 : Int32))] [(.int (1 : Int32))]))
      have hc81 : ¬ ((1 : Int32) = (0 : Int32)) := by decide
      refine GoW.st (fun t k => XS.ifNo X21.here hx rfl (hb hby at_81) rfl ((if0 _ _).trans (feq hc81).1) (XS.aload X21.here hx rfl (hb hby at_84) rfl rfl k)) ?_
      show GoW p e below QQ (T21.setTop (mkF m 86 #[.val (.int p1), .val (.int p2), .val (.long q3), .second, .val (.long q4), .second, .val (.long q5), .second, .val (.int v4), .val (.int (2 : Int32)), .val (.int (0 : Int32)), .val (.ref b2), .val (.int (1 : Int32))] [(.ref b2)]))
      obtain ⟨cq23, kq23, qa23, qb23, qc23⟩ := isOf hZ rfl p21_0
      obtain ⟨_, _, ⟨T23, zL23, zk23, zn23⟩, -, X23, ⟨Lc23, hQ23, zl23, zy23, zz23⟩, st23⟩ := X21.virtualBack hx (y := (⟨"com/example/eunomia/eunomia/sticky/LongHeap", "isEmpty", "()Z"⟩ : MethodName)) (z := (⟨"com/example/eunomia/eunomia/sticky/LongHeap", "isEmpty", "()Z"⟩ : MethodName)) hown (mvT hZ (hw _ (List.mem_of_getElem? (i := 19) rfl))) (mvT hZ (hw _ (List.mem_of_getElem? (i := 20) rfl))) (notFace_of_selects (args := #[]) (mvT hZ (hw _ (List.mem_of_getElem? (i := 22) rfl)))) (mvT hZ (hw _ (List.mem_of_getElem? (i := 22) rfl))) (mvT hZ (hw _ (List.mem_of_getElem? (i := 21) rfl))) (by decide) (backOf (W := 0) (rm5_2 l Z a0 hw [] b2 T21.heap n0 (Nat.le_trans Z0 K21.1) p21_2) hZ (hw _ (List.mem_of_getElem? (i := 23) rfl)) (hw _ (List.mem_of_getElem? (i := 6) rfl)) (by decide) (by decide)) qa23 qc23 (g := (mkF m 86 #[.val (.int p1), .val (.int p2), .val (.long q3), .second, .val (.long q4), .second, .val (.long q5), .second, .val (.int v4), .val (.int (2 : Int32)), .val (.int (0 : Int32)), .val (.ref b2), .val (.int (1 : Int32))] [(.ref b2)])) rfl (by rw [hml]; rfl) (Steps.refl _) (argsL := []) (rest := []) (lenOf pd_4 rfl) rfl (by show 2 * 0 + _ ≤ _; exact Nat.le_of_eq rfl) (hb hby at_86) (fun _ _ => ⟨rfl, rfl, (by decide : 3 + 0 ≤ _), (by decide : 11 + 0 ≤ _)⟩)
      dsimp only [Pt.U, Pt.locs, Pt.cells, Pt.slots] at X23 zl23 zy23 zz23 st23 hQ23
      subst zl23 zy23 zz23
      obtain ⟨rfl, Nq23, hh23⟩ := hQ23
      have N23 := Fr.app N21 Nq23
      refine GoW.st (fun t k => st23.trans k) ?_
      show GoW p e below QQ (T23.setTop (mkF m 89 #[.val (.int p1), .val (.int p2), .val (.long q3), .second, .val (.long q4), .second, .val (.long q5), .second, .val (.int v4), .val (.int (2 : Int32)), .val (.int (0 : Int32)), .val (.ref b2), .val (.int (1 : Int32))] [(.int (0 : Int32))]))
      refine GoW.st (fun t k => XS.iload X23.here hx rfl (hb hby at_89) rfl k) ?_
      show GoW p e below QQ (T23.setTop (mkF m 91 #[.val (.int p1), .val (.int p2), .val (.long q3), .second, .val (.long q4), .second, .val (.long q5), .second, .val (.int v4), .val (.int (2 : Int32)), .val (.int (0 : Int32)), .val (.ref b2), .val (.int (1 : Int32))] [(.int (2 : Int32)), (.int (0 : Int32))]))
      have hc91 : ¬ ((2 : Int32) = (0 : Int32)) := by decide
      refine GoW.st (fun t k => XS.ifYes X23.here hx rfl (pc0 := 91) (pc' := 98) rfl (hb hby at_91) rfl ((if0 _ _).trans (feq hc91).2) (by decide) (by decide) (XS.iconst X23.here hx rfl (hb hby at_98) k)) ?_
      show GoW p e below QQ (T23.setTop (mkF m 99 #[.val (.int p1), .val (.int p2), .val (.long q3), .second, .val (.long q4), .second, .val (.long q5), .second, .val (.int v4), .val (.int (2 : Int32)), .val (.int (0 : Int32)), .val (.ref b2), .val (.int (1 : Int32))] [(.int (0 : Int32)), (.int (0 : Int32))]))
      have hc99 : (0 : Int32) = (0 : Int32) := by decide
      refine GoW.st (fun t k => XS.icmpNo X23.here hx rfl (hb hby at_99) rfl (teq hc99).2 (XS.iconst X23.here hx rfl (hb hby at_102) (XS.goto X23.here hx rfl (pc0 := 103) (pc' := 107) rfl (hb hby at_103) (by decide) (by decide) (XS.istore X23.here hx rfl (hb hby at_107) rfl (l' := #[.val (.int p1), .val (.int p2), .val (.long q3), .second, .val (.long q4), .second, .val (.long q5), .second, .val (.int v4), .val (.int (2 : Int32)), .val (.int (0 : Int32)), .val (.ref b2), .val (.int (1 : Int32))]) rfl (XS.iload X23.here hx rfl (hb hby at_109) rfl (XS.iconst X23.here hx rfl (hb hby at_111) k)))))) ?_
      show GoW p e below QQ (T23.setTop (mkF m 112 #[.val (.int p1), .val (.int p2), .val (.long q3), .second, .val (.long q4), .second, .val (.long q5), .second, .val (.int v4), .val (.int (2 : Int32)), .val (.int (0 : Int32)), .val (.ref b2), .val (.int (1 : Int32))] [(.int (1 : Int32)), (.int (0 : Int32))]))
      have hc112 : (0 : Int32) < (1 : Int32) := by decide
      refine GoW.st (fun t k => XS.icmpYes X23.here hx rfl (pc0 := 112) (pc' := 120) rfl (hb hby at_112) rfl (tlt hc112).1 (by decide) (by decide) (XS.iload X23.here hx rfl (hb hby at_120) rfl (XS.iconst X23.here hx rfl (hb hby at_122) k))) ?_
      show GoW p e below QQ (T23.setTop (mkF m 123 #[.val (.int p1), .val (.int p2), .val (.long q3), .second, .val (.long q4), .second, .val (.long q5), .second, .val (.int v4), .val (.int (2 : Int32)), .val (.int (0 : Int32)), .val (.ref b2), .val (.int (1 : Int32))] [(.int (2 : Int32)), (.int (0 : Int32))]))
      have hc123 : (0 : Int32) < (2 : Int32) := by decide
      refine GoW.st (fun t k => XS.icmpYes X23.here hx rfl (pc0 := 123) (pc' := 131) rfl (hb hby at_123) rfl (tlt hc123).1 (by decide) (by decide) (XS.iload X23.here hx rfl (hb hby at_131) rfl (XS.iconst X23.here hx rfl (hb hby at_133) k))) ?_
      show GoW p e below QQ (T23.setTop (mkF m 134 #[.val (.int p1), .val (.int p2), .val (.long q3), .second, .val (.long q4), .second, .val (.long q5), .second, .val (.int v4), .val (.int (2 : Int32)), .val (.int (0 : Int32)), .val (.ref b2), .val (.int (1 : Int32))] [(.int (3 : Int32)), (.int (0 : Int32))]))
      have hc134 : (0 : Int32) < (3 : Int32) := by decide
      refine GoW.st (fun t k => XS.icmpYes X23.here hx rfl (pc0 := 134) (pc' := 142) rfl (hb hby at_134) rfl (tlt hc134).1 (by decide) (by decide) (XS.iload X23.here hx rfl (hb hby at_142) rfl k)) ?_
      show GoW p e below QQ (T23.setTop (mkF m 144 #[.val (.int p1), .val (.int p2), .val (.long q3), .second, .val (.long q4), .second, .val (.long q5), .second, .val (.int v4), .val (.int (2 : Int32)), .val (.int (0 : Int32)), .val (.ref b2), .val (.int (1 : Int32))] [(.int (1 : Int32))]))
      have hc144 : ¬ ((1 : Int32) = (0 : Int32)) := by decide
      refine GoW.st (fun t k => XS.ifNo X23.here hx rfl (hb hby at_144) rfl ((if0 _ _).trans (feq hc144).1) (XS.aload X23.here hx rfl (hb hby at_147) rfl rfl k)) ?_
      show GoW p e below QQ (T23.setTop (mkF m 149 #[.val (.int p1), .val (.int p2), .val (.long q3), .second, .val (.long q4), .second, .val (.long q5), .second, .val (.int v4), .val (.int (2 : Int32)), .val (.int (0 : Int32)), .val (.ref b2), .val (.int (1 : Int32))] [(.ref b2)]))
      obtain ⟨cq24, kq24, qa24, qb24, qc24⟩ := isOf hZ hh23 p21_0
      obtain ⟨_, _, ⟨T24, zL24, zk24, zn24⟩, -, X24, ⟨Lc24, hQ24, zl24, zy24, zz24⟩, st24⟩ := X23.virtualBack hx (y := (⟨"com/example/eunomia/eunomia/sticky/LongHeap", "isEmpty", "()Z"⟩ : MethodName)) (z := (⟨"com/example/eunomia/eunomia/sticky/LongHeap", "isEmpty", "()Z"⟩ : MethodName)) hown (mvT hZ (hw _ (List.mem_of_getElem? (i := 19) rfl))) (mvT hZ (hw _ (List.mem_of_getElem? (i := 20) rfl))) (notFace_of_selects (args := #[]) (mvT hZ (hw _ (List.mem_of_getElem? (i := 22) rfl)))) (mvT hZ (hw _ (List.mem_of_getElem? (i := 22) rfl))) (mvT hZ (hw _ (List.mem_of_getElem? (i := 21) rfl))) (by decide) (backOf (W := 0) (rm5_2 l Z a0 hw [] b2 T21.heap n0 (Nat.le_trans Z0 K21.1) p21_2) hZ (hw _ (List.mem_of_getElem? (i := 23) rfl)) (hw _ (List.mem_of_getElem? (i := 6) rfl)) (by decide) (by decide)) qa24 qc24 (g := (mkF m 149 #[.val (.int p1), .val (.int p2), .val (.long q3), .second, .val (.long q4), .second, .val (.long q5), .second, .val (.int v4), .val (.int (2 : Int32)), .val (.int (0 : Int32)), .val (.ref b2), .val (.int (1 : Int32))] [(.ref b2)])) rfl (by rw [hml]; rfl) (Steps.refl _) (argsL := []) (rest := []) (lenOf pd_4 rfl) rfl (by show 2 * 0 + _ ≤ _; exact Nat.le_of_eq rfl) (hb hby at_149) (fun _ _ => ⟨rfl, hh23, (by decide : 3 + 0 ≤ _), (by decide : 11 + 0 ≤ _)⟩)
      dsimp only [Pt.U, Pt.locs, Pt.cells, Pt.slots] at X24 zl24 zy24 zz24 st24 hQ24
      subst zl24 zy24 zz24
      obtain ⟨rfl, Nq24, hh24⟩ := hQ24
      have N24 := Fr.app N23 Nq24
      refine GoW.st (fun t k => st24.trans k) ?_
      show GoW p e below QQ (T24.setTop (mkF m 152 #[.val (.int p1), .val (.int p2), .val (.long q3), .second, .val (.long q4), .second, .val (.long q5), .second, .val (.int v4), .val (.int (2 : Int32)), .val (.int (0 : Int32)), .val (.ref b2), .val (.int (1 : Int32))] [(.int (0 : Int32))]))
      refine GoW.st (fun t k => XS.iload X24.here hx rfl (hb hby at_152) rfl (XS.iload X24.here hx rfl (hb hby at_154) rfl (XS.isub X24.here hx rfl (hb hby at_156) rfl k))) ?_
      show GoW p e below QQ (T24.setTop (mkF m 157 #[.val (.int p1), .val (.int p2), .val (.long q3), .second, .val (.long q4), .second, .val (.long q5), .second, .val (.int v4), .val (.int (2 : Int32)), .val (.int (0 : Int32)), .val (.ref b2), .val (.int (1 : Int32))] [(.int (2 : Int32)), (.int (0 : Int32))]))
      have hc157 : ¬ ((2 : Int32) = (0 : Int32)) := by decide
      refine GoW.st (fun t k => XS.ifYes X24.here hx rfl (pc0 := 157) (pc' := 164) rfl (hb hby at_157) rfl ((if0 _ _).trans (feq hc157).2) (by decide) (by decide) (XS.iconst X24.here hx rfl (hb hby at_164) k)) ?_
      show GoW p e below QQ (T24.setTop (mkF m 165 #[.val (.int p1), .val (.int p2), .val (.long q3), .second, .val (.long q4), .second, .val (.long q5), .second, .val (.int v4), .val (.int (2 : Int32)), .val (.int (0 : Int32)), .val (.ref b2), .val (.int (1 : Int32))] [(.int (0 : Int32)), (.int (0 : Int32))]))
      have hc165 : (0 : Int32) = (0 : Int32) := by decide
      refine GoW.st (fun t k => XS.icmpNo X24.here hx rfl (hb hby at_165) rfl (teq hc165).2 (XS.iconst X24.here hx rfl (hb hby at_168) (XS.goto X24.here hx rfl (pc0 := 169) (pc' := 173) rfl (hb hby at_169) (by decide) (by decide) (XS.istore X24.here hx rfl (hb hby at_173) rfl (l' := #[.val (.int p1), .val (.int p2), .val (.long q3), .second, .val (.long q4), .second, .val (.long q5), .second, .val (.int v4), .val (.int (2 : Int32)), .val (.int (0 : Int32)), .val (.ref b2), .val (.int (1 : Int32))]) rfl (XS.iload X24.here hx rfl (hb hby at_175) rfl k))))) ?_
      show GoW p e below QQ (T24.setTop (mkF m 177 #[.val (.int p1), .val (.int p2), .val (.long q3), .second, .val (.long q4), .second, .val (.long q5), .second, .val (.int v4), .val (.int (2 : Int32)), .val (.int (0 : Int32)), .val (.ref b2), .val (.int (1 : Int32))] [(.int (1 : Int32))]))
      exact GoW.fin X24 (some (.int (nar .boolean (1 : Int32)))) (fun q => by rw [hret] at q; cases q) hlk hQ hh24 ⟨rfl, N24⟩ (by decide) (by decide) (fun fs hr => retN X24 hx (t := .boolean) hret (by simp) (hb hby at_177) hr)
    · skip
      show GoW p e below QQ (T6.setTop (mkF m 43 #[.val (.int p1), .val (.int p2), .val (.long q3), .second, .val (.long q4), .second, .val (.long q5), .second, .val (.int v4), .val (.int (2 : Int32)), .val (.int (1 : Int32)), .val (.ref b2), .val (.int (1 : Int32))] [(.int (2 : Int32))]))
      refine GoW.st (fun t k => XS.iconst X6.here hx rfl (hb hby at_43) k) ?_
      show GoW p e below QQ (T6.setTop (mkF m 44 #[.val (.int p1), .val (.int p2), .val (.long q3), .second, .val (.long q4), .second, .val (.long q5), .second, .val (.int v4), .val (.int (2 : Int32)), .val (.int (1 : Int32)), .val (.ref b2), .val (.int (1 : Int32))] [(.int (1 : Int32)), (.int (2 : Int32))]))
      have hc44 : ¬ ((2 : Int32) < (1 : Int32)) := by decide
      refine GoW.st (fun t k => XS.icmpNo X6.here hx rfl (hb hby at_44) rfl (flt hc44).1 (XS.aload X6.here hx rfl (hb hby at_47) rfl rfl (XS.lloadN X6.here hx rfl (hb hby at_49) rfl k))) ?_
      show GoW p e below QQ (T6.setTop (mkF m 50 #[.val (.int p1), .val (.int p2), .val (.long q3), .second, .val (.long q4), .second, .val (.long q5), .second, .val (.int v4), .val (.int (2 : Int32)), .val (.int (1 : Int32)), .val (.ref b2), .val (.int (1 : Int32))] [(.long q3), (.ref b2)]))
      obtain ⟨cq25, kq25, qa25, qb25, qc25⟩ := isOf hZ hh6 p4_0
      obtain ⟨_, _, ⟨T25, zL25, zk25, zn25⟩, -, X25, ⟨Lc25, hQ25, zl25, zy25, zz25⟩, st25⟩ := X6.virtualBack hx (y := (⟨"com/example/eunomia/eunomia/sticky/LongHeap", "add", "(J)V"⟩ : MethodName)) (z := (⟨"com/example/eunomia/eunomia/sticky/LongHeap", "add", "(J)V"⟩ : MethodName)) hown (mvT hZ (hw _ (List.mem_of_getElem? (i := 26) rfl))) (mvT hZ (hw _ (List.mem_of_getElem? (i := 27) rfl))) (notFace_of_selects (args := #[]) (mvT hZ (hw _ (List.mem_of_getElem? (i := 29) rfl)))) (mvT hZ (hw _ (List.mem_of_getElem? (i := 29) rfl))) (mvT hZ (hw _ (List.mem_of_getElem? (i := 28) rfl))) (by decide) (backOf (W := 0) (rm6_0 l Z a0 hw [] b2 q3 b_29 kb_29 z_29 (0 : Int64) (0 : Int64) (0 : Int64) (0 : Int64) T4.heap n0 (Nat.le_trans Z0 K4.1) p4_0 gg2 gg4_b_29 (Ne.symm ne4_b2_b_29) p4_1 p4_2 p4_4 (by omega)) hZ (hw _ (List.mem_of_getElem? (i := 30) rfl)) (hw _ (List.mem_of_getElem? (i := 6) rfl)) (by decide) (by decide)) qa25 qc25 (g := (mkF m 50 #[.val (.int p1), .val (.int p2), .val (.long q3), .second, .val (.long q4), .second, .val (.long q5), .second, .val (.int v4), .val (.int (2 : Int32)), .val (.int (1 : Int32)), .val (.ref b2), .val (.int (1 : Int32))] [(.long q3), (.ref b2)])) rfl (by rw [hml]; rfl) (Steps.refl _) (argsL := [(.long q3)]) (rest := []) (lenOf pd_2 rfl) rfl (by show 2 * 0 + _ ≤ _; exact Nat.le_of_eq rfl) (hb hby at_50) (fun _ _ => ⟨rfl, hh6, (by decide : 2 + 0 ≤ _), (by decide : 9 + 0 ≤ _)⟩)
      dsimp only [Pt.U, Pt.locs, Pt.cells, Pt.slots] at X25 zl25 zy25 zz25 st25 hQ25
      subst zl25 zy25 zz25
      obtain ⟨b_50, kb_50, zz_50, wa_50, wb_50, wc_50, wd_50, rfl, Nq25, Kq25, p25_0, p25_1, p25_2, p25_3, p25_4, p25_5, p25_6⟩ := hQ25
      have N25 := Fr.app N6 Nq25
      refine GoW.st (fun t k => st25.trans k) ?_
      have K25 : Keep h0 T25.heap [] := K4.trans Kq25 (allS (Or.inr sz2) (allS (Or.inr sz4_b_29) all0))
      have hzz_50 := p25_6
      show GoW p e below QQ (T25.setTop (mkF m 53 #[.val (.int p1), .val (.int p2), .val (.long q3), .second, .val (.long q4), .second, .val (.long q5), .second, .val (.int v4), .val (.int (2 : Int32)), .val (.int (1 : Int32)), .val (.ref b2), .val (.int (1 : Int32))] []))
      refine GoW.st (fun t k => XS.iload X25.here hx rfl (hb hby at_53) rfl (XS.iconst X25.here hx rfl (hb hby at_55) k)) ?_
      show GoW p e below QQ (T25.setTop (mkF m 56 #[.val (.int p1), .val (.int p2), .val (.long q3), .second, .val (.long q4), .second, .val (.long q5), .second, .val (.int v4), .val (.int (2 : Int32)), .val (.int (1 : Int32)), .val (.ref b2), .val (.int (1 : Int32))] [(.int (2 : Int32)), (.int (2 : Int32))]))
      have hc56 : ¬ ((2 : Int32) < (2 : Int32)) := by decide
      refine GoW.st (fun t k => XS.icmpNo X25.here hx rfl (hb hby at_56) rfl (flt hc56).1 (XS.aload X25.here hx rfl (hb hby at_59) rfl rfl (XS.lload X25.here hx rfl (hb hby at_61) rfl k))) ?_
      show GoW p e below QQ (T25.setTop (mkF m 63 #[.val (.int p1), .val (.int p2), .val (.long q3), .second, .val (.long q4), .second, .val (.long q5), .second, .val (.int v4), .val (.int (2 : Int32)), .val (.int (1 : Int32)), .val (.ref b2), .val (.int (1 : Int32))] [(.long q4), (.ref b2)]))
      obtain ⟨cq27, kq27, qa27, qb27, qc27⟩ := isOf hZ rfl p25_0
      obtain ⟨_, _, ⟨T27, zL27, zk27, zn27⟩, -, X27, ⟨Lc27, hQ27, zl27, zy27, zz27⟩, st27⟩ := X25.virtualBack hx (y := (⟨"com/example/eunomia/eunomia/sticky/LongHeap", "add", "(J)V"⟩ : MethodName)) (z := (⟨"com/example/eunomia/eunomia/sticky/LongHeap", "add", "(J)V"⟩ : MethodName)) hown (mvT hZ (hw _ (List.mem_of_getElem? (i := 26) rfl))) (mvT hZ (hw _ (List.mem_of_getElem? (i := 27) rfl))) (notFace_of_selects (args := #[]) (mvT hZ (hw _ (List.mem_of_getElem? (i := 29) rfl)))) (mvT hZ (hw _ (List.mem_of_getElem? (i := 29) rfl))) (mvT hZ (hw _ (List.mem_of_getElem? (i := 28) rfl))) (by decide) (backOf (W := 0) (rm6_1 l Z a0 hw [] b2 q4 b_50 kb_50 zz_50 wa_50 wb_50 wc_50 wd_50 T25.heap n0 (Nat.le_trans Z0 K25.1) p25_0 gg2 p25_3 p25_4 p25_1 p25_2 p25_5 (by omega)) hZ (hw _ (List.mem_of_getElem? (i := 30) rfl)) (hw _ (List.mem_of_getElem? (i := 6) rfl)) (by decide) (by decide)) qa27 qc27 (g := (mkF m 63 #[.val (.int p1), .val (.int p2), .val (.long q3), .second, .val (.long q4), .second, .val (.long q5), .second, .val (.int v4), .val (.int (2 : Int32)), .val (.int (1 : Int32)), .val (.ref b2), .val (.int (1 : Int32))] [(.long q4), (.ref b2)])) rfl (by rw [hml]; rfl) (Steps.refl _) (argsL := [(.long q4)]) (rest := []) (lenOf pd_2 rfl) rfl (by show 2 * 0 + _ ≤ _; exact Nat.le_of_eq rfl) (hb hby at_63) (fun _ _ => ⟨rfl, rfl, (by decide : 2 + 1 ≤ _), (by decide : 9 + 2 ≤ _)⟩)
      dsimp only [Pt.U, Pt.locs, Pt.cells, Pt.slots] at X27 zl27 zy27 zz27 st27 hQ27
      subst zl27 zy27 zz27
      obtain ⟨b_63, kb_63, zz_63, wa_63, wb_63, wc_63, wd_63, rfl, Nq27, Kq27, p27_0, p27_1, p27_2, p27_3, p27_4, p27_5, p27_6⟩ := hQ27
      have N27 := Fr.app N25 Nq27
      refine GoW.st (fun t k => st27.trans k) ?_
      have K27 : Keep h0 T27.heap [] := K25.trans Kq27 (allS (Or.inr sz2) (allS (Or.inr (Nat.le_trans Z1 p25_3)) all0))
      have hzz_63 := p27_6
      show GoW p e below QQ (T27.setTop (mkF m 66 #[.val (.int p1), .val (.int p2), .val (.long q3), .second, .val (.long q4), .second, .val (.long q5), .second, .val (.int v4), .val (.int (2 : Int32)), .val (.int (1 : Int32)), .val (.ref b2), .val (.int (1 : Int32))] []))
      refine GoW.st (fun t k => XS.iload X27.here hx rfl (hb hby at_66) rfl (XS.iconst X27.here hx rfl (hb hby at_68) k)) ?_
      show GoW p e below QQ (T27.setTop (mkF m 69 #[.val (.int p1), .val (.int p2), .val (.long q3), .second, .val (.long q4), .second, .val (.long q5), .second, .val (.int v4), .val (.int (2 : Int32)), .val (.int (1 : Int32)), .val (.ref b2), .val (.int (1 : Int32))] [(.int (3 : Int32)), (.int (2 : Int32))]))
      have hc69 : (2 : Int32) < (3 : Int32) := by decide
      refine GoW.st (fun t k => XS.icmpYes X27.here hx rfl (pc0 := 69) (pc' := 79) rfl (hb hby at_69) rfl (tlt hc69).1 (by decide) (by decide) (XS.iload X27.here hx rfl (hb hby at_79) rfl k)) ?_
      show GoW p e below QQ (T27.setTop (mkF m 81 #[.val (.int p1), .val (.int p2), .val (.long q3), .second, .val (.long q4), .second, .val (.long q5), .second, .val (.int v4), .val (.int (2 : Int32)), .val (.int (1 : Int32)), .val (.ref b2), .val (.int (1 : Int32))] [(.int (1 : Int32))]))
      have hc81 : ¬ ((1 : Int32) = (0 : Int32)) := by decide
      refine GoW.st (fun t k => XS.ifNo X27.here hx rfl (hb hby at_81) rfl ((if0 _ _).trans (feq hc81).1) (XS.aload X27.here hx rfl (hb hby at_84) rfl rfl k)) ?_
      show GoW p e below QQ (T27.setTop (mkF m 86 #[.val (.int p1), .val (.int p2), .val (.long q3), .second, .val (.long q4), .second, .val (.long q5), .second, .val (.int v4), .val (.int (2 : Int32)), .val (.int (1 : Int32)), .val (.ref b2), .val (.int (1 : Int32))] [(.ref b2)]))
      obtain ⟨cq29, kq29, qa29, qb29, qc29⟩ := isOf hZ rfl p27_0
      obtain ⟨_, _, ⟨T29, zL29, zk29, zn29⟩, -, X29, ⟨Lc29, hQ29, zl29, zy29, zz29⟩, st29⟩ := X27.virtualBack hx (y := (⟨"com/example/eunomia/eunomia/sticky/LongHeap", "isEmpty", "()Z"⟩ : MethodName)) (z := (⟨"com/example/eunomia/eunomia/sticky/LongHeap", "isEmpty", "()Z"⟩ : MethodName)) hown (mvT hZ (hw _ (List.mem_of_getElem? (i := 19) rfl))) (mvT hZ (hw _ (List.mem_of_getElem? (i := 20) rfl))) (notFace_of_selects (args := #[]) (mvT hZ (hw _ (List.mem_of_getElem? (i := 22) rfl)))) (mvT hZ (hw _ (List.mem_of_getElem? (i := 22) rfl))) (mvT hZ (hw _ (List.mem_of_getElem? (i := 21) rfl))) (by decide) (backOf (W := 0) (rm5_2 l Z a0 hw [] b2 T27.heap n0 (Nat.le_trans Z0 K27.1) p27_2) hZ (hw _ (List.mem_of_getElem? (i := 23) rfl)) (hw _ (List.mem_of_getElem? (i := 6) rfl)) (by decide) (by decide)) qa29 qc29 (g := (mkF m 86 #[.val (.int p1), .val (.int p2), .val (.long q3), .second, .val (.long q4), .second, .val (.long q5), .second, .val (.int v4), .val (.int (2 : Int32)), .val (.int (1 : Int32)), .val (.ref b2), .val (.int (1 : Int32))] [(.ref b2)])) rfl (by rw [hml]; rfl) (Steps.refl _) (argsL := []) (rest := []) (lenOf pd_4 rfl) rfl (by show 2 * 0 + _ ≤ _; exact Nat.le_of_eq rfl) (hb hby at_86) (fun _ _ => ⟨rfl, rfl, (by decide : 3 + 0 ≤ _), (by decide : 11 + 0 ≤ _)⟩)
      dsimp only [Pt.U, Pt.locs, Pt.cells, Pt.slots] at X29 zl29 zy29 zz29 st29 hQ29
      subst zl29 zy29 zz29
      obtain ⟨rfl, Nq29, hh29⟩ := hQ29
      have N29 := Fr.app N27 Nq29
      refine GoW.st (fun t k => st29.trans k) ?_
      show GoW p e below QQ (T29.setTop (mkF m 89 #[.val (.int p1), .val (.int p2), .val (.long q3), .second, .val (.long q4), .second, .val (.long q5), .second, .val (.int v4), .val (.int (2 : Int32)), .val (.int (1 : Int32)), .val (.ref b2), .val (.int (1 : Int32))] [(.int (0 : Int32))]))
      refine GoW.st (fun t k => XS.iload X29.here hx rfl (hb hby at_89) rfl k) ?_
      show GoW p e below QQ (T29.setTop (mkF m 91 #[.val (.int p1), .val (.int p2), .val (.long q3), .second, .val (.long q4), .second, .val (.long q5), .second, .val (.int v4), .val (.int (2 : Int32)), .val (.int (1 : Int32)), .val (.ref b2), .val (.int (1 : Int32))] [(.int (2 : Int32)), (.int (0 : Int32))]))
      have hc91 : ¬ ((2 : Int32) = (0 : Int32)) := by decide
      refine GoW.st (fun t k => XS.ifYes X29.here hx rfl (pc0 := 91) (pc' := 98) rfl (hb hby at_91) rfl ((if0 _ _).trans (feq hc91).2) (by decide) (by decide) (XS.iconst X29.here hx rfl (hb hby at_98) k)) ?_
      show GoW p e below QQ (T29.setTop (mkF m 99 #[.val (.int p1), .val (.int p2), .val (.long q3), .second, .val (.long q4), .second, .val (.long q5), .second, .val (.int v4), .val (.int (2 : Int32)), .val (.int (1 : Int32)), .val (.ref b2), .val (.int (1 : Int32))] [(.int (0 : Int32)), (.int (0 : Int32))]))
      have hc99 : (0 : Int32) = (0 : Int32) := by decide
      refine GoW.st (fun t k => XS.icmpNo X29.here hx rfl (hb hby at_99) rfl (teq hc99).2 (XS.iconst X29.here hx rfl (hb hby at_102) (XS.goto X29.here hx rfl (pc0 := 103) (pc' := 107) rfl (hb hby at_103) (by decide) (by decide) (XS.istore X29.here hx rfl (hb hby at_107) rfl (l' := #[.val (.int p1), .val (.int p2), .val (.long q3), .second, .val (.long q4), .second, .val (.long q5), .second, .val (.int v4), .val (.int (2 : Int32)), .val (.int (1 : Int32)), .val (.ref b2), .val (.int (1 : Int32))]) rfl (XS.iload X29.here hx rfl (hb hby at_109) rfl (XS.iconst X29.here hx rfl (hb hby at_111) k)))))) ?_
      show GoW p e below QQ (T29.setTop (mkF m 112 #[.val (.int p1), .val (.int p2), .val (.long q3), .second, .val (.long q4), .second, .val (.long q5), .second, .val (.int v4), .val (.int (2 : Int32)), .val (.int (1 : Int32)), .val (.ref b2), .val (.int (1 : Int32))] [(.int (1 : Int32)), (.int (1 : Int32))]))
      have hc112 : ¬ ((1 : Int32) < (1 : Int32)) := by decide
      refine GoW.st (fun t k => XS.icmpNo X29.here hx rfl (hb hby at_112) rfl (flt hc112).1 (XS.aload X29.here hx rfl (hb hby at_115) rfl rfl k)) ?_
      show GoW p e below QQ (T29.setTop (mkF m 117 #[.val (.int p1), .val (.int p2), .val (.long q3), .second, .val (.long q4), .second, .val (.long q5), .second, .val (.int v4), .val (.int (2 : Int32)), .val (.int (1 : Int32)), .val (.ref b2), .val (.int (1 : Int32))] [(.ref b2)]))
      obtain ⟨cq30, kq30, qa30, qb30, qc30⟩ := isOf hZ hh29 p27_0
      obtain ⟨_, _, ⟨T30, zL30, zk30, zn30⟩, -, X30, ⟨Lc30, hQ30, zl30, zy30, zz30⟩, st30⟩ := X29.virtualBack hx (y := (⟨"com/example/eunomia/eunomia/sticky/LongHeap", "remove", "()V"⟩ : MethodName)) (z := (⟨"com/example/eunomia/eunomia/sticky/LongHeap", "remove", "()V"⟩ : MethodName)) hown (mvT hZ (hw _ (List.mem_of_getElem? (i := 40) rfl))) (mvT hZ (hw _ (List.mem_of_getElem? (i := 41) rfl))) (notFace_of_selects (args := #[]) (mvT hZ (hw _ (List.mem_of_getElem? (i := 43) rfl)))) (mvT hZ (hw _ (List.mem_of_getElem? (i := 43) rfl))) (mvT hZ (hw _ (List.mem_of_getElem? (i := 42) rfl))) (by decide) (backOf (W := 0) (rm8_2 l Z a0 hw [] b2 b_63 kb_63 zz_63 wa_63 wb_63 wc_63 wd_63 T27.heap n0 (Nat.le_trans Z0 K27.1) p27_0 gg2 p27_3 p27_4 p27_1 p27_2 p27_5 (by omega)) hZ (hw _ (List.mem_of_getElem? (i := 44) rfl)) (hw _ (List.mem_of_getElem? (i := 6) rfl)) (by decide) (by decide)) qa30 qc30 (g := (mkF m 117 #[.val (.int p1), .val (.int p2), .val (.long q3), .second, .val (.long q4), .second, .val (.long q5), .second, .val (.int v4), .val (.int (2 : Int32)), .val (.int (1 : Int32)), .val (.ref b2), .val (.int (1 : Int32))] [(.ref b2)])) rfl (by rw [hml]; rfl) (Steps.refl _) (argsL := []) (rest := []) (lenOf pd_5 rfl) rfl (by show 2 * 0 + _ ≤ _; exact Nat.le_of_eq rfl) (hb hby at_117) (fun _ _ => ⟨rfl, hh29, (by decide : 3 + 0 ≤ _), (by decide : 11 + 0 ≤ _)⟩)
      dsimp only [Pt.U, Pt.locs, Pt.cells, Pt.slots] at X30 zl30 zy30 zz30 st30 hQ30
      subst zl30 zy30 zz30
      obtain ⟨wa_117, wb_117, wc_117, wd_117, rfl, Nq30, Kq30, p30_0, p30_1, p30_2, p30_3⟩ := hQ30
      have N30 := Fr.app N29 Nq30
      refine GoW.st (fun t k => st30.trans k) ?_
      have K30 : Keep h0 T30.heap [] := K27.trans Kq30 (allS (Or.inr sz2) (allS (Or.inr (Nat.le_trans Z1 p27_3)) all0))
      show GoW p e below QQ (T30.setTop (mkF m 120 #[.val (.int p1), .val (.int p2), .val (.long q3), .second, .val (.long q4), .second, .val (.long q5), .second, .val (.int v4), .val (.int (2 : Int32)), .val (.int (1 : Int32)), .val (.ref b2), .val (.int (1 : Int32))] []))
      refine GoW.st (fun t k => XS.iload X30.here hx rfl (hb hby at_120) rfl (XS.iconst X30.here hx rfl (hb hby at_122) k)) ?_
      show GoW p e below QQ (T30.setTop (mkF m 123 #[.val (.int p1), .val (.int p2), .val (.long q3), .second, .val (.long q4), .second, .val (.long q5), .second, .val (.int v4), .val (.int (2 : Int32)), .val (.int (1 : Int32)), .val (.ref b2), .val (.int (1 : Int32))] [(.int (2 : Int32)), (.int (1 : Int32))]))
      have hc123 : (1 : Int32) < (2 : Int32) := by decide
      refine GoW.st (fun t k => XS.icmpYes X30.here hx rfl (pc0 := 123) (pc' := 131) rfl (hb hby at_123) rfl (tlt hc123).1 (by decide) (by decide) (XS.iload X30.here hx rfl (hb hby at_131) rfl (XS.iconst X30.here hx rfl (hb hby at_133) k))) ?_
      show GoW p e below QQ (T30.setTop (mkF m 134 #[.val (.int p1), .val (.int p2), .val (.long q3), .second, .val (.long q4), .second, .val (.long q5), .second, .val (.int v4), .val (.int (2 : Int32)), .val (.int (1 : Int32)), .val (.ref b2), .val (.int (1 : Int32))] [(.int (3 : Int32)), (.int (1 : Int32))]))
      have hc134 : (1 : Int32) < (3 : Int32) := by decide
      refine GoW.st (fun t k => XS.icmpYes X30.here hx rfl (pc0 := 134) (pc' := 142) rfl (hb hby at_134) rfl (tlt hc134).1 (by decide) (by decide) (XS.iload X30.here hx rfl (hb hby at_142) rfl k)) ?_
      show GoW p e below QQ (T30.setTop (mkF m 144 #[.val (.int p1), .val (.int p2), .val (.long q3), .second, .val (.long q4), .second, .val (.long q5), .second, .val (.int v4), .val (.int (2 : Int32)), .val (.int (1 : Int32)), .val (.ref b2), .val (.int (1 : Int32))] [(.int (1 : Int32))]))
      have hc144 : ¬ ((1 : Int32) = (0 : Int32)) := by decide
      refine GoW.st (fun t k => XS.ifNo X30.here hx rfl (hb hby at_144) rfl ((if0 _ _).trans (feq hc144).1) (XS.aload X30.here hx rfl (hb hby at_147) rfl rfl k)) ?_
      show GoW p e below QQ (T30.setTop (mkF m 149 #[.val (.int p1), .val (.int p2), .val (.long q3), .second, .val (.long q4), .second, .val (.long q5), .second, .val (.int v4), .val (.int (2 : Int32)), .val (.int (1 : Int32)), .val (.ref b2), .val (.int (1 : Int32))] [(.ref b2)]))
      obtain ⟨cq32, kq32, qa32, qb32, qc32⟩ := isOf hZ rfl p30_0
      obtain ⟨_, _, ⟨T32, zL32, zk32, zn32⟩, -, X32, ⟨Lc32, hQ32, zl32, zy32, zz32⟩, st32⟩ := X30.virtualBack hx (y := (⟨"com/example/eunomia/eunomia/sticky/LongHeap", "isEmpty", "()Z"⟩ : MethodName)) (z := (⟨"com/example/eunomia/eunomia/sticky/LongHeap", "isEmpty", "()Z"⟩ : MethodName)) hown (mvT hZ (hw _ (List.mem_of_getElem? (i := 19) rfl))) (mvT hZ (hw _ (List.mem_of_getElem? (i := 20) rfl))) (notFace_of_selects (args := #[]) (mvT hZ (hw _ (List.mem_of_getElem? (i := 22) rfl)))) (mvT hZ (hw _ (List.mem_of_getElem? (i := 22) rfl))) (mvT hZ (hw _ (List.mem_of_getElem? (i := 21) rfl))) (by decide) (backOf (W := 0) (rm5_1 l Z a0 hw [] b2 T30.heap n0 (Nat.le_trans Z0 K30.1) p30_2) hZ (hw _ (List.mem_of_getElem? (i := 23) rfl)) (hw _ (List.mem_of_getElem? (i := 6) rfl)) (by decide) (by decide)) qa32 qc32 (g := (mkF m 149 #[.val (.int p1), .val (.int p2), .val (.long q3), .second, .val (.long q4), .second, .val (.long q5), .second, .val (.int v4), .val (.int (2 : Int32)), .val (.int (1 : Int32)), .val (.ref b2), .val (.int (1 : Int32))] [(.ref b2)])) rfl (by rw [hml]; rfl) (Steps.refl _) (argsL := []) (rest := []) (lenOf pd_4 rfl) rfl (by show 2 * 0 + _ ≤ _; exact Nat.le_of_eq rfl) (hb hby at_149) (fun _ _ => ⟨rfl, rfl, (by decide : 3 + 0 ≤ _), (by decide : 11 + 0 ≤ _)⟩)
      dsimp only [Pt.U, Pt.locs, Pt.cells, Pt.slots] at X32 zl32 zy32 zz32 st32 hQ32
      subst zl32 zy32 zz32
      obtain ⟨rfl, Nq32, hh32⟩ := hQ32
      have N32 := Fr.app N30 Nq32
      refine GoW.st (fun t k => st32.trans k) ?_
      show GoW p e below QQ (T32.setTop (mkF m 152 #[.val (.int p1), .val (.int p2), .val (.long q3), .second, .val (.long q4), .second, .val (.long q5), .second, .val (.int v4), .val (.int (2 : Int32)), .val (.int (1 : Int32)), .val (.ref b2), .val (.int (1 : Int32))] [(.int (0 : Int32))]))
      refine GoW.st (fun t k => XS.iload X32.here hx rfl (hb hby at_152) rfl (XS.iload X32.here hx rfl (hb hby at_154) rfl (XS.isub X32.here hx rfl (hb hby at_156) rfl k))) ?_
      show GoW p e below QQ (T32.setTop (mkF m 157 #[.val (.int p1), .val (.int p2), .val (.long q3), .second, .val (.long q4), .second, .val (.long q5), .second, .val (.int v4), .val (.int (2 : Int32)), .val (.int (1 : Int32)), .val (.ref b2), .val (.int (1 : Int32))] [(.int (1 : Int32)), (.int (0 : Int32))]))
      have hc157 : ¬ ((1 : Int32) = (0 : Int32)) := by decide
      refine GoW.st (fun t k => XS.ifYes X32.here hx rfl (pc0 := 157) (pc' := 164) rfl (hb hby at_157) rfl ((if0 _ _).trans (feq hc157).2) (by decide) (by decide) (XS.iconst X32.here hx rfl (hb hby at_164) k)) ?_
      show GoW p e below QQ (T32.setTop (mkF m 165 #[.val (.int p1), .val (.int p2), .val (.long q3), .second, .val (.long q4), .second, .val (.long q5), .second, .val (.int v4), .val (.int (2 : Int32)), .val (.int (1 : Int32)), .val (.ref b2), .val (.int (1 : Int32))] [(.int (0 : Int32)), (.int (0 : Int32))]))
      have hc165 : (0 : Int32) = (0 : Int32) := by decide
      refine GoW.st (fun t k => XS.icmpNo X32.here hx rfl (hb hby at_165) rfl (teq hc165).2 (XS.iconst X32.here hx rfl (hb hby at_168) (XS.goto X32.here hx rfl (pc0 := 169) (pc' := 173) rfl (hb hby at_169) (by decide) (by decide) (XS.istore X32.here hx rfl (hb hby at_173) rfl (l' := #[.val (.int p1), .val (.int p2), .val (.long q3), .second, .val (.long q4), .second, .val (.long q5), .second, .val (.int v4), .val (.int (2 : Int32)), .val (.int (1 : Int32)), .val (.ref b2), .val (.int (1 : Int32))]) rfl (XS.iload X32.here hx rfl (hb hby at_175) rfl k))))) ?_
      show GoW p e below QQ (T32.setTop (mkF m 177 #[.val (.int p1), .val (.int p2), .val (.long q3), .second, .val (.long q4), .second, .val (.long q5), .second, .val (.int v4), .val (.int (2 : Int32)), .val (.int (1 : Int32)), .val (.ref b2), .val (.int (1 : Int32))] [(.int (1 : Int32))]))
      exact GoW.fin X32 (some (.int (nar .boolean (1 : Int32)))) (fun q => by rw [hret] at q; cases q) hlk hQ hh32 ⟨rfl, N32⟩ (by decide) (by decide) (fun fs hr => retN X32 hx (t := .boolean) hret (by simp) (hb hby at_177) hr)
    · skip
      show GoW p e below QQ (T6.setTop (mkF m 43 #[.val (.int p1), .val (.int p2), .val (.long q3), .second, .val (.long q4), .second, .val (.long q5), .second, .val (.int v4), .val (.int (2 : Int32)), .val (.int (2 : Int32)), .val (.ref b2), .val (.int (1 : Int32))] [(.int (2 : Int32))]))
      refine GoW.st (fun t k => XS.iconst X6.here hx rfl (hb hby at_43) k) ?_
      show GoW p e below QQ (T6.setTop (mkF m 44 #[.val (.int p1), .val (.int p2), .val (.long q3), .second, .val (.long q4), .second, .val (.long q5), .second, .val (.int v4), .val (.int (2 : Int32)), .val (.int (2 : Int32)), .val (.ref b2), .val (.int (1 : Int32))] [(.int (1 : Int32)), (.int (2 : Int32))]))
      have hc44 : ¬ ((2 : Int32) < (1 : Int32)) := by decide
      refine GoW.st (fun t k => XS.icmpNo X6.here hx rfl (hb hby at_44) rfl (flt hc44).1 (XS.aload X6.here hx rfl (hb hby at_47) rfl rfl (XS.lloadN X6.here hx rfl (hb hby at_49) rfl k))) ?_
      show GoW p e below QQ (T6.setTop (mkF m 50 #[.val (.int p1), .val (.int p2), .val (.long q3), .second, .val (.long q4), .second, .val (.long q5), .second, .val (.int v4), .val (.int (2 : Int32)), .val (.int (2 : Int32)), .val (.ref b2), .val (.int (1 : Int32))] [(.long q3), (.ref b2)]))
      obtain ⟨cq33, kq33, qa33, qb33, qc33⟩ := isOf hZ hh6 p4_0
      obtain ⟨_, _, ⟨T33, zL33, zk33, zn33⟩, -, X33, ⟨Lc33, hQ33, zl33, zy33, zz33⟩, st33⟩ := X6.virtualBack hx (y := (⟨"com/example/eunomia/eunomia/sticky/LongHeap", "add", "(J)V"⟩ : MethodName)) (z := (⟨"com/example/eunomia/eunomia/sticky/LongHeap", "add", "(J)V"⟩ : MethodName)) hown (mvT hZ (hw _ (List.mem_of_getElem? (i := 26) rfl))) (mvT hZ (hw _ (List.mem_of_getElem? (i := 27) rfl))) (notFace_of_selects (args := #[]) (mvT hZ (hw _ (List.mem_of_getElem? (i := 29) rfl)))) (mvT hZ (hw _ (List.mem_of_getElem? (i := 29) rfl))) (mvT hZ (hw _ (List.mem_of_getElem? (i := 28) rfl))) (by decide) (backOf (W := 0) (rm6_0 l Z a0 hw [] b2 q3 b_29 kb_29 z_29 (0 : Int64) (0 : Int64) (0 : Int64) (0 : Int64) T4.heap n0 (Nat.le_trans Z0 K4.1) p4_0 gg2 gg4_b_29 (Ne.symm ne4_b2_b_29) p4_1 p4_2 p4_4 (by omega)) hZ (hw _ (List.mem_of_getElem? (i := 30) rfl)) (hw _ (List.mem_of_getElem? (i := 6) rfl)) (by decide) (by decide)) qa33 qc33 (g := (mkF m 50 #[.val (.int p1), .val (.int p2), .val (.long q3), .second, .val (.long q4), .second, .val (.long q5), .second, .val (.int v4), .val (.int (2 : Int32)), .val (.int (2 : Int32)), .val (.ref b2), .val (.int (1 : Int32))] [(.long q3), (.ref b2)])) rfl (by rw [hml]; rfl) (Steps.refl _) (argsL := [(.long q3)]) (rest := []) (lenOf pd_2 rfl) rfl (by show 2 * 0 + _ ≤ _; exact Nat.le_of_eq rfl) (hb hby at_50) (fun _ _ => ⟨rfl, hh6, (by decide : 2 + 0 ≤ _), (by decide : 9 + 0 ≤ _)⟩)
      dsimp only [Pt.U, Pt.locs, Pt.cells, Pt.slots] at X33 zl33 zy33 zz33 st33 hQ33
      subst zl33 zy33 zz33
      obtain ⟨b_50, kb_50, zz_50, wa_50, wb_50, wc_50, wd_50, rfl, Nq33, Kq33, p33_0, p33_1, p33_2, p33_3, p33_4, p33_5, p33_6⟩ := hQ33
      have N33 := Fr.app N6 Nq33
      refine GoW.st (fun t k => st33.trans k) ?_
      have K33 : Keep h0 T33.heap [] := K4.trans Kq33 (allS (Or.inr sz2) (allS (Or.inr sz4_b_29) all0))
      have hzz_50 := p33_6
      show GoW p e below QQ (T33.setTop (mkF m 53 #[.val (.int p1), .val (.int p2), .val (.long q3), .second, .val (.long q4), .second, .val (.long q5), .second, .val (.int v4), .val (.int (2 : Int32)), .val (.int (2 : Int32)), .val (.ref b2), .val (.int (1 : Int32))] []))
      refine GoW.st (fun t k => XS.iload X33.here hx rfl (hb hby at_53) rfl (XS.iconst X33.here hx rfl (hb hby at_55) k)) ?_
      show GoW p e below QQ (T33.setTop (mkF m 56 #[.val (.int p1), .val (.int p2), .val (.long q3), .second, .val (.long q4), .second, .val (.long q5), .second, .val (.int v4), .val (.int (2 : Int32)), .val (.int (2 : Int32)), .val (.ref b2), .val (.int (1 : Int32))] [(.int (2 : Int32)), (.int (2 : Int32))]))
      have hc56 : ¬ ((2 : Int32) < (2 : Int32)) := by decide
      refine GoW.st (fun t k => XS.icmpNo X33.here hx rfl (hb hby at_56) rfl (flt hc56).1 (XS.aload X33.here hx rfl (hb hby at_59) rfl rfl (XS.lload X33.here hx rfl (hb hby at_61) rfl k))) ?_
      show GoW p e below QQ (T33.setTop (mkF m 63 #[.val (.int p1), .val (.int p2), .val (.long q3), .second, .val (.long q4), .second, .val (.long q5), .second, .val (.int v4), .val (.int (2 : Int32)), .val (.int (2 : Int32)), .val (.ref b2), .val (.int (1 : Int32))] [(.long q4), (.ref b2)]))
      obtain ⟨cq35, kq35, qa35, qb35, qc35⟩ := isOf hZ rfl p33_0
      obtain ⟨_, _, ⟨T35, zL35, zk35, zn35⟩, -, X35, ⟨Lc35, hQ35, zl35, zy35, zz35⟩, st35⟩ := X33.virtualBack hx (y := (⟨"com/example/eunomia/eunomia/sticky/LongHeap", "add", "(J)V"⟩ : MethodName)) (z := (⟨"com/example/eunomia/eunomia/sticky/LongHeap", "add", "(J)V"⟩ : MethodName)) hown (mvT hZ (hw _ (List.mem_of_getElem? (i := 26) rfl))) (mvT hZ (hw _ (List.mem_of_getElem? (i := 27) rfl))) (notFace_of_selects (args := #[]) (mvT hZ (hw _ (List.mem_of_getElem? (i := 29) rfl)))) (mvT hZ (hw _ (List.mem_of_getElem? (i := 29) rfl))) (mvT hZ (hw _ (List.mem_of_getElem? (i := 28) rfl))) (by decide) (backOf (W := 0) (rm6_1 l Z a0 hw [] b2 q4 b_50 kb_50 zz_50 wa_50 wb_50 wc_50 wd_50 T33.heap n0 (Nat.le_trans Z0 K33.1) p33_0 gg2 p33_3 p33_4 p33_1 p33_2 p33_5 (by omega)) hZ (hw _ (List.mem_of_getElem? (i := 30) rfl)) (hw _ (List.mem_of_getElem? (i := 6) rfl)) (by decide) (by decide)) qa35 qc35 (g := (mkF m 63 #[.val (.int p1), .val (.int p2), .val (.long q3), .second, .val (.long q4), .second, .val (.long q5), .second, .val (.int v4), .val (.int (2 : Int32)), .val (.int (2 : Int32)), .val (.ref b2), .val (.int (1 : Int32))] [(.long q4), (.ref b2)])) rfl (by rw [hml]; rfl) (Steps.refl _) (argsL := [(.long q4)]) (rest := []) (lenOf pd_2 rfl) rfl (by show 2 * 0 + _ ≤ _; exact Nat.le_of_eq rfl) (hb hby at_63) (fun _ _ => ⟨rfl, rfl, (by decide : 2 + 1 ≤ _), (by decide : 9 + 2 ≤ _)⟩)
      dsimp only [Pt.U, Pt.locs, Pt.cells, Pt.slots] at X35 zl35 zy35 zz35 st35 hQ35
      subst zl35 zy35 zz35
      obtain ⟨b_63, kb_63, zz_63, wa_63, wb_63, wc_63, wd_63, rfl, Nq35, Kq35, p35_0, p35_1, p35_2, p35_3, p35_4, p35_5, p35_6⟩ := hQ35
      have N35 := Fr.app N33 Nq35
      refine GoW.st (fun t k => st35.trans k) ?_
      have K35 : Keep h0 T35.heap [] := K33.trans Kq35 (allS (Or.inr sz2) (allS (Or.inr (Nat.le_trans Z1 p33_3)) all0))
      have hzz_63 := p35_6
      show GoW p e below QQ (T35.setTop (mkF m 66 #[.val (.int p1), .val (.int p2), .val (.long q3), .second, .val (.long q4), .second, .val (.long q5), .second, .val (.int v4), .val (.int (2 : Int32)), .val (.int (2 : Int32)), .val (.ref b2), .val (.int (1 : Int32))] []))
      refine GoW.st (fun t k => XS.iload X35.here hx rfl (hb hby at_66) rfl (XS.iconst X35.here hx rfl (hb hby at_68) k)) ?_
      show GoW p e below QQ (T35.setTop (mkF m 69 #[.val (.int p1), .val (.int p2), .val (.long q3), .second, .val (.long q4), .second, .val (.long q5), .second, .val (.int v4), .val (.int (2 : Int32)), .val (.int (2 : Int32)), .val (.ref b2), .val (.int (1 : Int32))] [(.int (3 : Int32)), (.int (2 : Int32))]))
      have hc69 : (2 : Int32) < (3 : Int32) := by decide
      refine GoW.st (fun t k => XS.icmpYes X35.here hx rfl (pc0 := 69) (pc' := 79) rfl (hb hby at_69) rfl (tlt hc69).1 (by decide) (by decide) (XS.iload X35.here hx rfl (hb hby at_79) rfl k)) ?_
      show GoW p e below QQ (T35.setTop (mkF m 81 #[.val (.int p1), .val (.int p2), .val (.long q3), .second, .val (.long q4), .second, .val (.long q5), .second, .val (.int v4), .val (.int (2 : Int32)), .val (.int (2 : Int32)), .val (.ref b2), .val (.int (1 : Int32))] [(.int (1 : Int32))]))
      have hc81 : ¬ ((1 : Int32) = (0 : Int32)) := by decide
      refine GoW.st (fun t k => XS.ifNo X35.here hx rfl (hb hby at_81) rfl ((if0 _ _).trans (feq hc81).1) (XS.aload X35.here hx rfl (hb hby at_84) rfl rfl k)) ?_
      show GoW p e below QQ (T35.setTop (mkF m 86 #[.val (.int p1), .val (.int p2), .val (.long q3), .second, .val (.long q4), .second, .val (.long q5), .second, .val (.int v4), .val (.int (2 : Int32)), .val (.int (2 : Int32)), .val (.ref b2), .val (.int (1 : Int32))] [(.ref b2)]))
      obtain ⟨cq37, kq37, qa37, qb37, qc37⟩ := isOf hZ rfl p35_0
      obtain ⟨_, _, ⟨T37, zL37, zk37, zn37⟩, -, X37, ⟨Lc37, hQ37, zl37, zy37, zz37⟩, st37⟩ := X35.virtualBack hx (y := (⟨"com/example/eunomia/eunomia/sticky/LongHeap", "isEmpty", "()Z"⟩ : MethodName)) (z := (⟨"com/example/eunomia/eunomia/sticky/LongHeap", "isEmpty", "()Z"⟩ : MethodName)) hown (mvT hZ (hw _ (List.mem_of_getElem? (i := 19) rfl))) (mvT hZ (hw _ (List.mem_of_getElem? (i := 20) rfl))) (notFace_of_selects (args := #[]) (mvT hZ (hw _ (List.mem_of_getElem? (i := 22) rfl)))) (mvT hZ (hw _ (List.mem_of_getElem? (i := 22) rfl))) (mvT hZ (hw _ (List.mem_of_getElem? (i := 21) rfl))) (by decide) (backOf (W := 0) (rm5_2 l Z a0 hw [] b2 T35.heap n0 (Nat.le_trans Z0 K35.1) p35_2) hZ (hw _ (List.mem_of_getElem? (i := 23) rfl)) (hw _ (List.mem_of_getElem? (i := 6) rfl)) (by decide) (by decide)) qa37 qc37 (g := (mkF m 86 #[.val (.int p1), .val (.int p2), .val (.long q3), .second, .val (.long q4), .second, .val (.long q5), .second, .val (.int v4), .val (.int (2 : Int32)), .val (.int (2 : Int32)), .val (.ref b2), .val (.int (1 : Int32))] [(.ref b2)])) rfl (by rw [hml]; rfl) (Steps.refl _) (argsL := []) (rest := []) (lenOf pd_4 rfl) rfl (by show 2 * 0 + _ ≤ _; exact Nat.le_of_eq rfl) (hb hby at_86) (fun _ _ => ⟨rfl, rfl, (by decide : 3 + 0 ≤ _), (by decide : 11 + 0 ≤ _)⟩)
      dsimp only [Pt.U, Pt.locs, Pt.cells, Pt.slots] at X37 zl37 zy37 zz37 st37 hQ37
      subst zl37 zy37 zz37
      obtain ⟨rfl, Nq37, hh37⟩ := hQ37
      have N37 := Fr.app N35 Nq37
      refine GoW.st (fun t k => st37.trans k) ?_
      show GoW p e below QQ (T37.setTop (mkF m 89 #[.val (.int p1), .val (.int p2), .val (.long q3), .second, .val (.long q4), .second, .val (.long q5), .second, .val (.int v4), .val (.int (2 : Int32)), .val (.int (2 : Int32)), .val (.ref b2), .val (.int (1 : Int32))] [(.int (0 : Int32))]))
      refine GoW.st (fun t k => XS.iload X37.here hx rfl (hb hby at_89) rfl k) ?_
      show GoW p e below QQ (T37.setTop (mkF m 91 #[.val (.int p1), .val (.int p2), .val (.long q3), .second, .val (.long q4), .second, .val (.long q5), .second, .val (.int v4), .val (.int (2 : Int32)), .val (.int (2 : Int32)), .val (.ref b2), .val (.int (1 : Int32))] [(.int (2 : Int32)), (.int (0 : Int32))]))
      have hc91 : ¬ ((2 : Int32) = (0 : Int32)) := by decide
      refine GoW.st (fun t k => XS.ifYes X37.here hx rfl (pc0 := 91) (pc' := 98) rfl (hb hby at_91) rfl ((if0 _ _).trans (feq hc91).2) (by decide) (by decide) (XS.iconst X37.here hx rfl (hb hby at_98) k)) ?_
      show GoW p e below QQ (T37.setTop (mkF m 99 #[.val (.int p1), .val (.int p2), .val (.long q3), .second, .val (.long q4), .second, .val (.long q5), .second, .val (.int v4), .val (.int (2 : Int32)), .val (.int (2 : Int32)), .val (.ref b2), .val (.int (1 : Int32))] [(.int (0 : Int32)), (.int (0 : Int32))]))
      have hc99 : (0 : Int32) = (0 : Int32) := by decide
      refine GoW.st (fun t k => XS.icmpNo X37.here hx rfl (hb hby at_99) rfl (teq hc99).2 (XS.iconst X37.here hx rfl (hb hby at_102) (XS.goto X37.here hx rfl (pc0 := 103) (pc' := 107) rfl (hb hby at_103) (by decide) (by decide) (XS.istore X37.here hx rfl (hb hby at_107) rfl (l' := #[.val (.int p1), .val (.int p2), .val (.long q3), .second, .val (.long q4), .second, .val (.long q5), .second, .val (.int v4), .val (.int (2 : Int32)), .val (.int (2 : Int32)), .val (.ref b2), .val (.int (1 : Int32))]) rfl (XS.iload X37.here hx rfl (hb hby at_109) rfl (XS.iconst X37.here hx rfl (hb hby at_111) k)))))) ?_
      show GoW p e below QQ (T37.setTop (mkF m 112 #[.val (.int p1), .val (.int p2), .val (.long q3), .second, .val (.long q4), .second, .val (.long q5), .second, .val (.int v4), .val (.int (2 : Int32)), .val (.int (2 : Int32)), .val (.ref b2), .val (.int (1 : Int32))] [(.int (1 : Int32)), (.int (2 : Int32))]))
      have hc112 : ¬ ((2 : Int32) < (1 : Int32)) := by decide
      refine GoW.st (fun t k => XS.icmpNo X37.here hx rfl (hb hby at_112) rfl (flt hc112).1 (XS.aload X37.here hx rfl (hb hby at_115) rfl rfl k)) ?_
      show GoW p e below QQ (T37.setTop (mkF m 117 #[.val (.int p1), .val (.int p2), .val (.long q3), .second, .val (.long q4), .second, .val (.long q5), .second, .val (.int v4), .val (.int (2 : Int32)), .val (.int (2 : Int32)), .val (.ref b2), .val (.int (1 : Int32))] [(.ref b2)]))
      obtain ⟨cq38, kq38, qa38, qb38, qc38⟩ := isOf hZ hh37 p35_0
      obtain ⟨_, _, ⟨T38, zL38, zk38, zn38⟩, -, X38, ⟨Lc38, hQ38, zl38, zy38, zz38⟩, st38⟩ := X37.virtualBack hx (y := (⟨"com/example/eunomia/eunomia/sticky/LongHeap", "remove", "()V"⟩ : MethodName)) (z := (⟨"com/example/eunomia/eunomia/sticky/LongHeap", "remove", "()V"⟩ : MethodName)) hown (mvT hZ (hw _ (List.mem_of_getElem? (i := 40) rfl))) (mvT hZ (hw _ (List.mem_of_getElem? (i := 41) rfl))) (notFace_of_selects (args := #[]) (mvT hZ (hw _ (List.mem_of_getElem? (i := 43) rfl)))) (mvT hZ (hw _ (List.mem_of_getElem? (i := 43) rfl))) (mvT hZ (hw _ (List.mem_of_getElem? (i := 42) rfl))) (by decide) (backOf (W := 0) (rm8_2 l Z a0 hw [] b2 b_63 kb_63 zz_63 wa_63 wb_63 wc_63 wd_63 T35.heap n0 (Nat.le_trans Z0 K35.1) p35_0 gg2 p35_3 p35_4 p35_1 p35_2 p35_5 (by omega)) hZ (hw _ (List.mem_of_getElem? (i := 44) rfl)) (hw _ (List.mem_of_getElem? (i := 6) rfl)) (by decide) (by decide)) qa38 qc38 (g := (mkF m 117 #[.val (.int p1), .val (.int p2), .val (.long q3), .second, .val (.long q4), .second, .val (.long q5), .second, .val (.int v4), .val (.int (2 : Int32)), .val (.int (2 : Int32)), .val (.ref b2), .val (.int (1 : Int32))] [(.ref b2)])) rfl (by rw [hml]; rfl) (Steps.refl _) (argsL := []) (rest := []) (lenOf pd_5 rfl) rfl (by show 2 * 0 + _ ≤ _; exact Nat.le_of_eq rfl) (hb hby at_117) (fun _ _ => ⟨rfl, hh37, (by decide : 3 + 0 ≤ _), (by decide : 11 + 0 ≤ _)⟩)
      dsimp only [Pt.U, Pt.locs, Pt.cells, Pt.slots] at X38 zl38 zy38 zz38 st38 hQ38
      subst zl38 zy38 zz38
      obtain ⟨wa_117, wb_117, wc_117, wd_117, rfl, Nq38, Kq38, p38_0, p38_1, p38_2, p38_3⟩ := hQ38
      have N38 := Fr.app N37 Nq38
      refine GoW.st (fun t k => st38.trans k) ?_
      have K38 : Keep h0 T38.heap [] := K35.trans Kq38 (allS (Or.inr sz2) (allS (Or.inr (Nat.le_trans Z1 p35_3)) all0))
      show GoW p e below QQ (T38.setTop (mkF m 120 #[.val (.int p1), .val (.int p2), .val (.long q3), .second, .val (.long q4), .second, .val (.long q5), .second, .val (.int v4), .val (.int (2 : Int32)), .val (.int (2 : Int32)), .val (.ref b2), .val (.int (1 : Int32))] []))
      refine GoW.st (fun t k => XS.iload X38.here hx rfl (hb hby at_120) rfl (XS.iconst X38.here hx rfl (hb hby at_122) k)) ?_
      show GoW p e below QQ (T38.setTop (mkF m 123 #[.val (.int p1), .val (.int p2), .val (.long q3), .second, .val (.long q4), .second, .val (.long q5), .second, .val (.int v4), .val (.int (2 : Int32)), .val (.int (2 : Int32)), .val (.ref b2), .val (.int (1 : Int32))] [(.int (2 : Int32)), (.int (2 : Int32))]))
      have hc123 : ¬ ((2 : Int32) < (2 : Int32)) := by decide
      refine GoW.st (fun t k => XS.icmpNo X38.here hx rfl (hb hby at_123) rfl (flt hc123).1 (XS.aload X38.here hx rfl (hb hby at_126) rfl rfl k)) ?_
      show GoW p e below QQ (T38.setTop (mkF m 128 #[.val (.int p1), .val (.int p2), .val (.long q3), .second, .val (.long q4), .second, .val (.long q5), .second, .val (.int v4), .val (.int (2 : Int32)), .val (.int (2 : Int32)), .val (.ref b2), .val (.int (1 : Int32))] [(.ref b2)]))
      obtain ⟨cq40, kq40, qa40, qb40, qc40⟩ := isOf hZ rfl p38_0
      obtain ⟨_, _, ⟨T40, zL40, zk40, zn40⟩, -, X40, ⟨Lc40, hQ40, zl40, zy40, zz40⟩, st40⟩ := X38.virtualBack hx (y := (⟨"com/example/eunomia/eunomia/sticky/LongHeap", "remove", "()V"⟩ : MethodName)) (z := (⟨"com/example/eunomia/eunomia/sticky/LongHeap", "remove", "()V"⟩ : MethodName)) hown (mvT hZ (hw _ (List.mem_of_getElem? (i := 40) rfl))) (mvT hZ (hw _ (List.mem_of_getElem? (i := 41) rfl))) (notFace_of_selects (args := #[]) (mvT hZ (hw _ (List.mem_of_getElem? (i := 43) rfl)))) (mvT hZ (hw _ (List.mem_of_getElem? (i := 43) rfl))) (mvT hZ (hw _ (List.mem_of_getElem? (i := 42) rfl))) (by decide) (backOf (W := 0) (rm8_1 l Z a0 hw [] b2 b_63 kb_63 zz_63 wa_117 wb_117 wc_117 wd_117 T38.heap n0 (Nat.le_trans Z0 K38.1) p38_0 gg2 p35_3 p35_4 p38_1 p38_2 p38_3 (by omega)) hZ (hw _ (List.mem_of_getElem? (i := 44) rfl)) (hw _ (List.mem_of_getElem? (i := 6) rfl)) (by decide) (by decide)) qa40 qc40 (g := (mkF m 128 #[.val (.int p1), .val (.int p2), .val (.long q3), .second, .val (.long q4), .second, .val (.long q5), .second, .val (.int v4), .val (.int (2 : Int32)), .val (.int (2 : Int32)), .val (.ref b2), .val (.int (1 : Int32))] [(.ref b2)])) rfl (by rw [hml]; rfl) (Steps.refl _) (argsL := []) (rest := []) (lenOf pd_5 rfl) rfl (by show 2 * 0 + _ ≤ _; exact Nat.le_of_eq rfl) (hb hby at_128) (fun _ _ => ⟨rfl, rfl, (by decide : 3 + 0 ≤ _), (by decide : 11 + 0 ≤ _)⟩)
      dsimp only [Pt.U, Pt.locs, Pt.cells, Pt.slots] at X40 zl40 zy40 zz40 st40 hQ40
      subst zl40 zy40 zz40
      obtain ⟨wa_128, wb_128, wc_128, wd_128, rfl, Nq40, Kq40, p40_0, p40_1, p40_2, p40_3⟩ := hQ40
      have N40 := Fr.app N38 Nq40
      refine GoW.st (fun t k => st40.trans k) ?_
      have K40 : Keep h0 T40.heap [] := K38.trans Kq40 (allS (Or.inr sz2) (allS (Or.inr (Nat.le_trans Z1 p35_3)) all0))
      show GoW p e below QQ (T40.setTop (mkF m 131 #[.val (.int p1), .val (.int p2), .val (.long q3), .second, .val (.long q4), .second, .val (.long q5), .second, .val (.int v4), .val (.int (2 : Int32)), .val (.int (2 : Int32)), .val (.ref b2), .val (.int (1 : Int32))] []))
      refine GoW.st (fun t k => XS.iload X40.here hx rfl (hb hby at_131) rfl (XS.iconst X40.here hx rfl (hb hby at_133) k)) ?_
      show GoW p e below QQ (T40.setTop (mkF m 134 #[.val (.int p1), .val (.int p2), .val (.long q3), .second, .val (.long q4), .second, .val (.long q5), .second, .val (.int v4), .val (.int (2 : Int32)), .val (.int (2 : Int32)), .val (.ref b2), .val (.int (1 : Int32))] [(.int (3 : Int32)), (.int (2 : Int32))]))
      have hc134 : (2 : Int32) < (3 : Int32) := by decide
      refine GoW.st (fun t k => XS.icmpYes X40.here hx rfl (pc0 := 134) (pc' := 142) rfl (hb hby at_134) rfl (tlt hc134).1 (by decide) (by decide) (XS.iload X40.here hx rfl (hb hby at_142) rfl k)) ?_
      show GoW p e below QQ (T40.setTop (mkF m 144 #[.val (.int p1), .val (.int p2), .val (.long q3), .second, .val (.long q4), .second, .val (.long q5), .second, .val (.int v4), .val (.int (2 : Int32)), .val (.int (2 : Int32)), .val (.ref b2), .val (.int (1 : Int32))] [(.int (1 : Int32))]))
      have hc144 : ¬ ((1 : Int32) = (0 : Int32)) := by decide
      refine GoW.st (fun t k => XS.ifNo X40.here hx rfl (hb hby at_144) rfl ((if0 _ _).trans (feq hc144).1) (XS.aload X40.here hx rfl (hb hby at_147) rfl rfl k)) ?_
      show GoW p e below QQ (T40.setTop (mkF m 149 #[.val (.int p1), .val (.int p2), .val (.long q3), .second, .val (.long q4), .second, .val (.long q5), .second, .val (.int v4), .val (.int (2 : Int32)), .val (.int (2 : Int32)), .val (.ref b2), .val (.int (1 : Int32))] [(.ref b2)]))
      obtain ⟨cq42, kq42, qa42, qb42, qc42⟩ := isOf hZ rfl p40_0
      obtain ⟨_, _, ⟨T42, zL42, zk42, zn42⟩, -, X42, ⟨Lc42, hQ42, zl42, zy42, zz42⟩, st42⟩ := X40.virtualBack hx (y := (⟨"com/example/eunomia/eunomia/sticky/LongHeap", "isEmpty", "()Z"⟩ : MethodName)) (z := (⟨"com/example/eunomia/eunomia/sticky/LongHeap", "isEmpty", "()Z"⟩ : MethodName)) hown (mvT hZ (hw _ (List.mem_of_getElem? (i := 19) rfl))) (mvT hZ (hw _ (List.mem_of_getElem? (i := 20) rfl))) (notFace_of_selects (args := #[]) (mvT hZ (hw _ (List.mem_of_getElem? (i := 22) rfl)))) (mvT hZ (hw _ (List.mem_of_getElem? (i := 22) rfl))) (mvT hZ (hw _ (List.mem_of_getElem? (i := 21) rfl))) (by decide) (backOf (W := 0) (rm5_0 l Z a0 hw [] b2 T40.heap n0 (Nat.le_trans Z0 K40.1) p40_2) hZ (hw _ (List.mem_of_getElem? (i := 23) rfl)) (hw _ (List.mem_of_getElem? (i := 6) rfl)) (by decide) (by decide)) qa42 qc42 (g := (mkF m 149 #[.val (.int p1), .val (.int p2), .val (.long q3), .second, .val (.long q4), .second, .val (.long q5), .second, .val (.int v4), .val (.int (2 : Int32)), .val (.int (2 : Int32)), .val (.ref b2), .val (.int (1 : Int32))] [(.ref b2)])) rfl (by rw [hml]; rfl) (Steps.refl _) (argsL := []) (rest := []) (lenOf pd_4 rfl) rfl (by show 2 * 0 + _ ≤ _; exact Nat.le_of_eq rfl) (hb hby at_149) (fun _ _ => ⟨rfl, rfl, (by decide : 3 + 0 ≤ _), (by decide : 11 + 0 ≤ _)⟩)
      dsimp only [Pt.U, Pt.locs, Pt.cells, Pt.slots] at X42 zl42 zy42 zz42 st42 hQ42
      subst zl42 zy42 zz42
      obtain ⟨rfl, Nq42, hh42⟩ := hQ42
      have N42 := Fr.app N40 Nq42
      refine GoW.st (fun t k => st42.trans k) ?_
      show GoW p e below QQ (T42.setTop (mkF m 152 #[.val (.int p1), .val (.int p2), .val (.long q3), .second, .val (.long q4), .second, .val (.long q5), .second, .val (.int v4), .val (.int (2 : Int32)), .val (.int (2 : Int32)), .val (.ref b2), .val (.int (1 : Int32))] [(.int (1 : Int32))]))
      refine GoW.st (fun t k => XS.iload X42.here hx rfl (hb hby at_152) rfl (XS.iload X42.here hx rfl (hb hby at_154) rfl (XS.isub X42.here hx rfl (hb hby at_156) rfl k))) ?_
      show GoW p e below QQ (T42.setTop (mkF m 157 #[.val (.int p1), .val (.int p2), .val (.long q3), .second, .val (.long q4), .second, .val (.long q5), .second, .val (.int v4), .val (.int (2 : Int32)), .val (.int (2 : Int32)), .val (.ref b2), .val (.int (1 : Int32))] [(.int (0 : Int32)), (.int (1 : Int32))]))
      have hc157 : (0 : Int32) = (0 : Int32) := by decide
      refine GoW.st (fun t k => XS.ifNo X42.here hx rfl (hb hby at_157) rfl ((if0 _ _).trans (teq hc157).2) (XS.iconst X42.here hx rfl (hb hby at_160) (XS.goto X42.here hx rfl (pc0 := 161) (pc' := 165) rfl (hb hby at_161) (by decide) (by decide) k))) ?_
      show GoW p e below QQ (T42.setTop (mkF m 165 #[.val (.int p1), .val (.int p2), .val (.long q3), .second, .val (.long q4), .second, .val (.long q5), .second, .val (.int v4), .val (.int (2 : Int32)), .val (.int (2 : Int32)), .val (.ref b2), .val (.int (1 : Int32))] [(.int (1 : Int32)), (.int (1 : Int32))]))
      have hc165 : (1 : Int32) = (1 : Int32) := by decide
      refine GoW.st (fun t k => XS.icmpNo X42.here hx rfl (hb hby at_165) rfl (teq hc165).2 (XS.iconst X42.here hx rfl (hb hby at_168) (XS.goto X42.here hx rfl (pc0 := 169) (pc' := 173) rfl (hb hby at_169) (by decide) (by decide) (XS.istore X42.here hx rfl (hb hby at_173) rfl (l' := #[.val (.int p1), .val (.int p2), .val (.long q3), .second, .val (.long q4), .second, .val (.long q5), .second, .val (.int v4), .val (.int (2 : Int32)), .val (.int (2 : Int32)), .val (.ref b2), .val (.int (1 : Int32))]) rfl (XS.iload X42.here hx rfl (hb hby at_175) rfl k))))) ?_
      show GoW p e below QQ (T42.setTop (mkF m 177 #[.val (.int p1), .val (.int p2), .val (.long q3), .second, .val (.long q4), .second, .val (.long q5), .second, .val (.int v4), .val (.int (2 : Int32)), .val (.int (2 : Int32)), .val (.ref b2), .val (.int (1 : Int32))] [(.int (1 : Int32))]))
      exact GoW.fin X42 (some (.int (nar .boolean (1 : Int32)))) (fun q => by rw [hret] at q; cases q) hlk hQ hh42 ⟨rfl, N42⟩ (by decide) (by decide) (fun fs hr => retN X42 hx (t := .boolean) hret (by simp) (hb hby at_177) hr)
  · skip
    refine GoW.st (fun t k => XS.iload X6.here hx rfl (hb hby at_41) rfl k) ?_
    show GoW p e below QQ (T6.setTop (mkF m 43 #[.val (.int p1), .val (.int p2), .val (.long q3), .second, .val (.long q4), .second, .val (.long q5), .second, .val (.int v4), .val (.int (3 : Int32)), .val (.int v21), .val (.ref b2), .val (.int (1 : Int32))] [(.int (3 : Int32))]))
    have mC : v21 = 0 ∨ v21 = 1 ∨ v21 = 2 ∨ v21 = 3 := by
      have q : v21.toInt = 0 ∨ v21.toInt = 1 ∨ v21.toInt = 2 ∨ v21.toInt = 3 := by omega
      rcases q with q | q | q | q
      · exact Or.inl (own_eq_of q)
      · exact Or.inr (Or.inl (own_eq_of q))
      · exact Or.inr (Or.inr (Or.inl (own_eq_of q)))
      · exact Or.inr (Or.inr (Or.inr (own_eq_of q)))
    rcases mC with rfl | rfl | rfl | rfl
    · skip
      show GoW p e below QQ (T6.setTop (mkF m 43 #[.val (.int p1), .val (.int p2), .val (.long q3), .second, .val (.long q4), .second, .val (.long q5), .second, .val (.int v4), .val (.int (3 : Int32)), .val (.int (0 : Int32)), .val (.ref b2), .val (.int (1 : Int32))] [(.int (3 : Int32))]))
      refine GoW.st (fun t k => XS.iconst X6.here hx rfl (hb hby at_43) k) ?_
      show GoW p e below QQ (T6.setTop (mkF m 44 #[.val (.int p1), .val (.int p2), .val (.long q3), .second, .val (.long q4), .second, .val (.long q5), .second, .val (.int v4), .val (.int (3 : Int32)), .val (.int (0 : Int32)), .val (.ref b2), .val (.int (1 : Int32))] [(.int (1 : Int32)), (.int (3 : Int32))]))
      have hc44 : ¬ ((3 : Int32) < (1 : Int32)) := by decide
      refine GoW.st (fun t k => XS.icmpNo X6.here hx rfl (hb hby at_44) rfl (flt hc44).1 (XS.aload X6.here hx rfl (hb hby at_47) rfl rfl (XS.lloadN X6.here hx rfl (hb hby at_49) rfl k))) ?_
      show GoW p e below QQ (T6.setTop (mkF m 50 #[.val (.int p1), .val (.int p2), .val (.long q3), .second, .val (.long q4), .second, .val (.long q5), .second, .val (.int v4), .val (.int (3 : Int32)), .val (.int (0 : Int32)), .val (.ref b2), .val (.int (1 : Int32))] [(.long q3), (.ref b2)]))
      obtain ⟨cq43, kq43, qa43, qb43, qc43⟩ := isOf hZ hh6 p4_0
      obtain ⟨_, _, ⟨T43, zL43, zk43, zn43⟩, -, X43, ⟨Lc43, hQ43, zl43, zy43, zz43⟩, st43⟩ := X6.virtualBack hx (y := (⟨"com/example/eunomia/eunomia/sticky/LongHeap", "add", "(J)V"⟩ : MethodName)) (z := (⟨"com/example/eunomia/eunomia/sticky/LongHeap", "add", "(J)V"⟩ : MethodName)) hown (mvT hZ (hw _ (List.mem_of_getElem? (i := 26) rfl))) (mvT hZ (hw _ (List.mem_of_getElem? (i := 27) rfl))) (notFace_of_selects (args := #[]) (mvT hZ (hw _ (List.mem_of_getElem? (i := 29) rfl)))) (mvT hZ (hw _ (List.mem_of_getElem? (i := 29) rfl))) (mvT hZ (hw _ (List.mem_of_getElem? (i := 28) rfl))) (by decide) (backOf (W := 0) (rm6_0 l Z a0 hw [] b2 q3 b_29 kb_29 z_29 (0 : Int64) (0 : Int64) (0 : Int64) (0 : Int64) T4.heap n0 (Nat.le_trans Z0 K4.1) p4_0 gg2 gg4_b_29 (Ne.symm ne4_b2_b_29) p4_1 p4_2 p4_4 (by omega)) hZ (hw _ (List.mem_of_getElem? (i := 30) rfl)) (hw _ (List.mem_of_getElem? (i := 6) rfl)) (by decide) (by decide)) qa43 qc43 (g := (mkF m 50 #[.val (.int p1), .val (.int p2), .val (.long q3), .second, .val (.long q4), .second, .val (.long q5), .second, .val (.int v4), .val (.int (3 : Int32)), .val (.int (0 : Int32)), .val (.ref b2), .val (.int (1 : Int32))] [(.long q3), (.ref b2)])) rfl (by rw [hml]; rfl) (Steps.refl _) (argsL := [(.long q3)]) (rest := []) (lenOf pd_2 rfl) rfl (by show 2 * 0 + _ ≤ _; exact Nat.le_of_eq rfl) (hb hby at_50) (fun _ _ => ⟨rfl, hh6, (by decide : 2 + 0 ≤ _), (by decide : 9 + 0 ≤ _)⟩)
      dsimp only [Pt.U, Pt.locs, Pt.cells, Pt.slots] at X43 zl43 zy43 zz43 st43 hQ43
      subst zl43 zy43 zz43
      obtain ⟨b_50, kb_50, zz_50, wa_50, wb_50, wc_50, wd_50, rfl, Nq43, Kq43, p43_0, p43_1, p43_2, p43_3, p43_4, p43_5, p43_6⟩ := hQ43
      have N43 := Fr.app N6 Nq43
      refine GoW.st (fun t k => st43.trans k) ?_
      have K43 : Keep h0 T43.heap [] := K4.trans Kq43 (allS (Or.inr sz2) (allS (Or.inr sz4_b_29) all0))
      have hzz_50 := p43_6
      show GoW p e below QQ (T43.setTop (mkF m 53 #[.val (.int p1), .val (.int p2), .val (.long q3), .second, .val (.long q4), .second, .val (.long q5), .second, .val (.int v4), .val (.int (3 : Int32)), .val (.int (0 : Int32)), .val (.ref b2), .val (.int (1 : Int32))] []))
      refine GoW.st (fun t k => XS.iload X43.here hx rfl (hb hby at_53) rfl (XS.iconst X43.here hx rfl (hb hby at_55) k)) ?_
      show GoW p e below QQ (T43.setTop (mkF m 56 #[.val (.int p1), .val (.int p2), .val (.long q3), .second, .val (.long q4), .second, .val (.long q5), .second, .val (.int v4), .val (.int (3 : Int32)), .val (.int (0 : Int32)), .val (.ref b2), .val (.int (1 : Int32))] [(.int (2 : Int32)), (.int (3 : Int32))]))
      have hc56 : ¬ ((3 : Int32) < (2 : Int32)) := by decide
      refine GoW.st (fun t k => XS.icmpNo X43.here hx rfl (hb hby at_56) rfl (flt hc56).1 (XS.aload X43.here hx rfl (hb hby at_59) rfl rfl (XS.lload X43.here hx rfl (hb hby at_61) rfl k))) ?_
      show GoW p e below QQ (T43.setTop (mkF m 63 #[.val (.int p1), .val (.int p2), .val (.long q3), .second, .val (.long q4), .second, .val (.long q5), .second, .val (.int v4), .val (.int (3 : Int32)), .val (.int (0 : Int32)), .val (.ref b2), .val (.int (1 : Int32))] [(.long q4), (.ref b2)]))
      obtain ⟨cq45, kq45, qa45, qb45, qc45⟩ := isOf hZ rfl p43_0
      obtain ⟨_, _, ⟨T45, zL45, zk45, zn45⟩, -, X45, ⟨Lc45, hQ45, zl45, zy45, zz45⟩, st45⟩ := X43.virtualBack hx (y := (⟨"com/example/eunomia/eunomia/sticky/LongHeap", "add", "(J)V"⟩ : MethodName)) (z := (⟨"com/example/eunomia/eunomia/sticky/LongHeap", "add", "(J)V"⟩ : MethodName)) hown (mvT hZ (hw _ (List.mem_of_getElem? (i := 26) rfl))) (mvT hZ (hw _ (List.mem_of_getElem? (i := 27) rfl))) (notFace_of_selects (args := #[]) (mvT hZ (hw _ (List.mem_of_getElem? (i := 29) rfl)))) (mvT hZ (hw _ (List.mem_of_getElem? (i := 29) rfl))) (mvT hZ (hw _ (List.mem_of_getElem? (i := 28) rfl))) (by decide) (backOf (W := 0) (rm6_1 l Z a0 hw [] b2 q4 b_50 kb_50 zz_50 wa_50 wb_50 wc_50 wd_50 T43.heap n0 (Nat.le_trans Z0 K43.1) p43_0 gg2 p43_3 p43_4 p43_1 p43_2 p43_5 (by omega)) hZ (hw _ (List.mem_of_getElem? (i := 30) rfl)) (hw _ (List.mem_of_getElem? (i := 6) rfl)) (by decide) (by decide)) qa45 qc45 (g := (mkF m 63 #[.val (.int p1), .val (.int p2), .val (.long q3), .second, .val (.long q4), .second, .val (.long q5), .second, .val (.int v4), .val (.int (3 : Int32)), .val (.int (0 : Int32)), .val (.ref b2), .val (.int (1 : Int32))] [(.long q4), (.ref b2)])) rfl (by rw [hml]; rfl) (Steps.refl _) (argsL := [(.long q4)]) (rest := []) (lenOf pd_2 rfl) rfl (by show 2 * 0 + _ ≤ _; exact Nat.le_of_eq rfl) (hb hby at_63) (fun _ _ => ⟨rfl, rfl, (by decide : 2 + 1 ≤ _), (by decide : 9 + 2 ≤ _)⟩)
      dsimp only [Pt.U, Pt.locs, Pt.cells, Pt.slots] at X45 zl45 zy45 zz45 st45 hQ45
      subst zl45 zy45 zz45
      obtain ⟨b_63, kb_63, zz_63, wa_63, wb_63, wc_63, wd_63, rfl, Nq45, Kq45, p45_0, p45_1, p45_2, p45_3, p45_4, p45_5, p45_6⟩ := hQ45
      have N45 := Fr.app N43 Nq45
      refine GoW.st (fun t k => st45.trans k) ?_
      have K45 : Keep h0 T45.heap [] := K43.trans Kq45 (allS (Or.inr sz2) (allS (Or.inr (Nat.le_trans Z1 p43_3)) all0))
      have hzz_63 := p45_6
      show GoW p e below QQ (T45.setTop (mkF m 66 #[.val (.int p1), .val (.int p2), .val (.long q3), .second, .val (.long q4), .second, .val (.long q5), .second, .val (.int v4), .val (.int (3 : Int32)), .val (.int (0 : Int32)), .val (.ref b2), .val (.int (1 : Int32))] []))
      refine GoW.st (fun t k => XS.iload X45.here hx rfl (hb hby at_66) rfl (XS.iconst X45.here hx rfl (hb hby at_68) k)) ?_
      show GoW p e below QQ (T45.setTop (mkF m 69 #[.val (.int p1), .val (.int p2), .val (.long q3), .second, .val (.long q4), .second, .val (.long q5), .second, .val (.int v4), .val (.int (3 : Int32)), .val (.int (0 : Int32)), .val (.ref b2), .val (.int (1 : Int32))] [(.int (3 : Int32)), (.int (3 : Int32))]))
      have hc69 : ¬ ((3 : Int32) < (3 : Int32)) := by decide
      refine GoW.st (fun t k => XS.icmpNo X45.here hx rfl (hb hby at_69) rfl (flt hc69).1 (XS.aload X45.here hx rfl (hb hby at_72) rfl rfl (XS.lload X45.here hx rfl (hb hby at_74) rfl k))) ?_
      show GoW p e below QQ (T45.setTop (mkF m 76 #[.val (.int p1), .val (.int p2), .val (.long q3), .second, .val (.long q4), .second, .val (.long q5), .second, .val (.int v4), .val (.int (3 : Int32)), .val (.int (0 : Int32)), .val (.ref b2), .val (.int (1 : Int32))] [(.long q5), (.ref b2)]))
      obtain ⟨cq47, kq47, qa47, qb47, qc47⟩ := isOf hZ rfl p45_0
      obtain ⟨_, _, ⟨T47, zL47, zk47, zn47⟩, -, X47, ⟨Lc47, hQ47, zl47, zy47, zz47⟩, st47⟩ := X45.virtualBack hx (y := (⟨"com/example/eunomia/eunomia/sticky/LongHeap", "add", "(J)V"⟩ : MethodName)) (z := (⟨"com/example/eunomia/eunomia/sticky/LongHeap", "add", "(J)V"⟩ : MethodName)) hown (mvT hZ (hw _ (List.mem_of_getElem? (i := 26) rfl))) (mvT hZ (hw _ (List.mem_of_getElem? (i := 27) rfl))) (notFace_of_selects (args := #[]) (mvT hZ (hw _ (List.mem_of_getElem? (i := 29) rfl)))) (mvT hZ (hw _ (List.mem_of_getElem? (i := 29) rfl))) (mvT hZ (hw _ (List.mem_of_getElem? (i := 28) rfl))) (by decide) (backOf (W := 0) (rm6_2 l Z a0 hw [] b2 q5 b_63 kb_63 zz_63 wa_63 wb_63 wc_63 wd_63 T45.heap n0 (Nat.le_trans Z0 K45.1) p45_0 gg2 p45_3 p45_4 p45_1 p45_2 p45_5 (by omega)) hZ (hw _ (List.mem_of_getElem? (i := 30) rfl)) (hw _ (List.mem_of_getElem? (i := 6) rfl)) (by decide) (by decide)) qa47 qc47 (g := (mkF m 76 #[.val (.int p1), .val (.int p2), .val (.long q3), .second, .val (.long q4), .second, .val (.long q5), .second, .val (.int v4), .val (.int (3 : Int32)), .val (.int (0 : Int32)), .val (.ref b2), .val (.int (1 : Int32))] [(.long q5), (.ref b2)])) rfl (by rw [hml]; rfl) (Steps.refl _) (argsL := [(.long q5)]) (rest := []) (lenOf pd_2 rfl) rfl (by show 2 * 0 + _ ≤ _; exact Nat.le_of_eq rfl) (hb hby at_76) (fun _ _ => ⟨rfl, rfl, (by decide : 3 + 1 ≤ _), (by decide : 11 + 4 ≤ _)⟩)
      dsimp only [Pt.U, Pt.locs, Pt.cells, Pt.slots] at X47 zl47 zy47 zz47 st47 hQ47
      subst zl47 zy47 zz47
      obtain ⟨b_76, kb_76, zz_76, wa_76, wb_76, wc_76, wd_76, rfl, Nq47, Kq47, p47_0, p47_1, p47_2, p47_3, p47_4, p47_5, p47_6⟩ := hQ47
      have N47 := Fr.app N45 Nq47
      refine GoW.st (fun t k => st47.trans k) ?_
      have K47 : Keep h0 T47.heap [] := K45.trans Kq47 (allS (Or.inr sz2) (allS (Or.inr (Nat.le_trans Z1 p45_3)) all0))
      have hzz_76 := p47_6
      show GoW p e below QQ (T47.setTop (mkF m 79 #[.val (.int p1), .val (.int p2), .val (.long q3), .second, .val (.long q4), .second, .val (.long q5), .second, .val (.int v4), .val (.int (3 : Int32)), .val (.int (0 : Int32)), .val (.ref b2), .val (.int (1 : Int32))] []))
      refine GoW.st (fun t k => XS.iload X47.here hx rfl (hb hby at_79) rfl k) ?_
      show GoW p e below QQ (T47.setTop (mkF m 81 #[.val (.int p1), .val (.int p2), .val (.long q3), .second, .val (.long q4), .second, .val (.long q5), .second, .val (.int v4), .val (.int (3 : Int32)), .val (.int (0 : Int32)), .val (.ref b2), .val (.int (1 : Int32))] [(.int (1 : Int32))]))
      have hc81 : ¬ ((1 : Int32) = (0 : Int32)) := by decide
      refine GoW.st (fun t k => XS.ifNo X47.here hx rfl (hb hby at_81) rfl ((if0 _ _).trans (feq hc81).1) (XS.aload X47.here hx rfl (hb hby at_84) rfl rfl k)) ?_
      show GoW p e below QQ (T47.setTop (mkF m 86 #[.val (.int p1), .val (.int p2), .val (.long q3), .second, .val (.long q4), .second, .val (.long q5), .second, .val (.int v4), .val (.int (3 : Int32)), .val (.int (0 : Int32)), .val (.ref b2), .val (.int (1 : Int32))] [(.ref b2)]))
      obtain ⟨cq49, kq49, qa49, qb49, qc49⟩ := isOf hZ rfl p47_0
      obtain ⟨_, _, ⟨T49, zL49, zk49, zn49⟩, -, X49, ⟨Lc49, hQ49, zl49, zy49, zz49⟩, st49⟩ := X47.virtualBack hx (y := (⟨"com/example/eunomia/eunomia/sticky/LongHeap", "isEmpty", "()Z"⟩ : MethodName)) (z := (⟨"com/example/eunomia/eunomia/sticky/LongHeap", "isEmpty", "()Z"⟩ : MethodName)) hown (mvT hZ (hw _ (List.mem_of_getElem? (i := 19) rfl))) (mvT hZ (hw _ (List.mem_of_getElem? (i := 20) rfl))) (notFace_of_selects (args := #[]) (mvT hZ (hw _ (List.mem_of_getElem? (i := 22) rfl)))) (mvT hZ (hw _ (List.mem_of_getElem? (i := 22) rfl))) (mvT hZ (hw _ (List.mem_of_getElem? (i := 21) rfl))) (by decide) (backOf (W := 0) (rm5_3 l Z a0 hw [] b2 T47.heap n0 (Nat.le_trans Z0 K47.1) p47_2) hZ (hw _ (List.mem_of_getElem? (i := 23) rfl)) (hw _ (List.mem_of_getElem? (i := 6) rfl)) (by decide) (by decide)) qa49 qc49 (g := (mkF m 86 #[.val (.int p1), .val (.int p2), .val (.long q3), .second, .val (.long q4), .second, .val (.long q5), .second, .val (.int v4), .val (.int (3 : Int32)), .val (.int (0 : Int32)), .val (.ref b2), .val (.int (1 : Int32))] [(.ref b2)])) rfl (by rw [hml]; rfl) (Steps.refl _) (argsL := []) (rest := []) (lenOf pd_4 rfl) rfl (by show 2 * 0 + _ ≤ _; exact Nat.le_of_eq rfl) (hb hby at_86) (fun _ _ => ⟨rfl, rfl, (by decide : 4 + 0 ≤ _), (by decide : 15 + 0 ≤ _)⟩)
      dsimp only [Pt.U, Pt.locs, Pt.cells, Pt.slots] at X49 zl49 zy49 zz49 st49 hQ49
      subst zl49 zy49 zz49
      obtain ⟨rfl, Nq49, hh49⟩ := hQ49
      have N49 := Fr.app N47 Nq49
      refine GoW.st (fun t k => st49.trans k) ?_
      show GoW p e below QQ (T49.setTop (mkF m 89 #[.val (.int p1), .val (.int p2), .val (.long q3), .second, .val (.long q4), .second, .val (.long q5), .second, .val (.int v4), .val (.int (3 : Int32)), .val (.int (0 : Int32)), .val (.ref b2), .val (.int (1 : Int32))] [(.int (0 : Int32))]))
      refine GoW.st (fun t k => XS.iload X49.here hx rfl (hb hby at_89) rfl k) ?_
      show GoW p e below QQ (T49.setTop (mkF m 91 #[.val (.int p1), .val (.int p2), .val (.long q3), .second, .val (.long q4), .second, .val (.long q5), .second, .val (.int v4), .val (.int (3 : Int32)), .val (.int (0 : Int32)), .val (.ref b2), .val (.int (1 : Int32))] [(.int (3 : Int32)), (.int (0 : Int32))]))
      have hc91 : ¬ ((3 : Int32) = (0 : Int32)) := by decide
      refine GoW.st (fun t k => XS.ifYes X49.here hx rfl (pc0 := 91) (pc' := 98) rfl (hb hby at_91) rfl ((if0 _ _).trans (feq hc91).2) (by decide) (by decide) (XS.iconst X49.here hx rfl (hb hby at_98) k)) ?_
      show GoW p e below QQ (T49.setTop (mkF m 99 #[.val (.int p1), .val (.int p2), .val (.long q3), .second, .val (.long q4), .second, .val (.long q5), .second, .val (.int v4), .val (.int (3 : Int32)), .val (.int (0 : Int32)), .val (.ref b2), .val (.int (1 : Int32))] [(.int (0 : Int32)), (.int (0 : Int32))]))
      have hc99 : (0 : Int32) = (0 : Int32) := by decide
      refine GoW.st (fun t k => XS.icmpNo X49.here hx rfl (hb hby at_99) rfl (teq hc99).2 (XS.iconst X49.here hx rfl (hb hby at_102) (XS.goto X49.here hx rfl (pc0 := 103) (pc' := 107) rfl (hb hby at_103) (by decide) (by decide) (XS.istore X49.here hx rfl (hb hby at_107) rfl (l' := #[.val (.int p1), .val (.int p2), .val (.long q3), .second, .val (.long q4), .second, .val (.long q5), .second, .val (.int v4), .val (.int (3 : Int32)), .val (.int (0 : Int32)), .val (.ref b2), .val (.int (1 : Int32))]) rfl (XS.iload X49.here hx rfl (hb hby at_109) rfl (XS.iconst X49.here hx rfl (hb hby at_111) k)))))) ?_
      show GoW p e below QQ (T49.setTop (mkF m 112 #[.val (.int p1), .val (.int p2), .val (.long q3), .second, .val (.long q4), .second, .val (.long q5), .second, .val (.int v4), .val (.int (3 : Int32)), .val (.int (0 : Int32)), .val (.ref b2), .val (.int (1 : Int32))] [(.int (1 : Int32)), (.int (0 : Int32))]))
      have hc112 : (0 : Int32) < (1 : Int32) := by decide
      refine GoW.st (fun t k => XS.icmpYes X49.here hx rfl (pc0 := 112) (pc' := 120) rfl (hb hby at_112) rfl (tlt hc112).1 (by decide) (by decide) (XS.iload X49.here hx rfl (hb hby at_120) rfl (XS.iconst X49.here hx rfl (hb hby at_122) k))) ?_
      show GoW p e below QQ (T49.setTop (mkF m 123 #[.val (.int p1), .val (.int p2), .val (.long q3), .second, .val (.long q4), .second, .val (.long q5), .second, .val (.int v4), .val (.int (3 : Int32)), .val (.int (0 : Int32)), .val (.ref b2), .val (.int (1 : Int32))] [(.int (2 : Int32)), (.int (0 : Int32))]))
      have hc123 : (0 : Int32) < (2 : Int32) := by decide
      refine GoW.st (fun t k => XS.icmpYes X49.here hx rfl (pc0 := 123) (pc' := 131) rfl (hb hby at_123) rfl (tlt hc123).1 (by decide) (by decide) (XS.iload X49.here hx rfl (hb hby at_131) rfl (XS.iconst X49.here hx rfl (hb hby at_133) k))) ?_
      show GoW p e below QQ (T49.setTop (mkF m 134 #[.val (.int p1), .val (.int p2), .val (.long q3), .second, .val (.long q4), .second, .val (.long q5), .second, .val (.int v4), .val (.int (3 : Int32)), .val (.int (0 : Int32)), .val (.ref b2), .val (.int (1 : Int32))] [(.int (3 : Int32)), (.int (0 : Int32))]))
      have hc134 : (0 : Int32) < (3 : Int32) := by decide
      refine GoW.st (fun t k => XS.icmpYes X49.here hx rfl (pc0 := 134) (pc' := 142) rfl (hb hby at_134) rfl (tlt hc134).1 (by decide) (by decide) (XS.iload X49.here hx rfl (hb hby at_142) rfl k)) ?_
      show GoW p e below QQ (T49.setTop (mkF m 144 #[.val (.int p1), .val (.int p2), .val (.long q3), .second, .val (.long q4), .second, .val (.long q5), .second, .val (.int v4), .val (.int (3 : Int32)), .val (.int (0 : Int32)), .val (.ref b2), .val (.int (1 : Int32))] [(.int (1 : Int32))]))
      have hc144 : ¬ ((1 : Int32) = (0 : Int32)) := by decide
      refine GoW.st (fun t k => XS.ifNo X49.here hx rfl (hb hby at_144) rfl ((if0 _ _).trans (feq hc144).1) (XS.aload X49.here hx rfl (hb hby at_147) rfl rfl k)) ?_
      show GoW p e below QQ (T49.setTop (mkF m 149 #[.val (.int p1), .val (.int p2), .val (.long q3), .second, .val (.long q4), .second, .val (.long q5), .second, .val (.int v4), .val (.int (3 : Int32)), .val (.int (0 : Int32)), .val (.ref b2), .val (.int (1 : Int32))] [(.ref b2)]))
      obtain ⟨cq50, kq50, qa50, qb50, qc50⟩ := isOf hZ hh49 p47_0
      obtain ⟨_, _, ⟨T50, zL50, zk50, zn50⟩, -, X50, ⟨Lc50, hQ50, zl50, zy50, zz50⟩, st50⟩ := X49.virtualBack hx (y := (⟨"com/example/eunomia/eunomia/sticky/LongHeap", "isEmpty", "()Z"⟩ : MethodName)) (z := (⟨"com/example/eunomia/eunomia/sticky/LongHeap", "isEmpty", "()Z"⟩ : MethodName)) hown (mvT hZ (hw _ (List.mem_of_getElem? (i := 19) rfl))) (mvT hZ (hw _ (List.mem_of_getElem? (i := 20) rfl))) (notFace_of_selects (args := #[]) (mvT hZ (hw _ (List.mem_of_getElem? (i := 22) rfl)))) (mvT hZ (hw _ (List.mem_of_getElem? (i := 22) rfl))) (mvT hZ (hw _ (List.mem_of_getElem? (i := 21) rfl))) (by decide) (backOf (W := 0) (rm5_3 l Z a0 hw [] b2 T47.heap n0 (Nat.le_trans Z0 K47.1) p47_2) hZ (hw _ (List.mem_of_getElem? (i := 23) rfl)) (hw _ (List.mem_of_getElem? (i := 6) rfl)) (by decide) (by decide)) qa50 qc50 (g := (mkF m 149 #[.val (.int p1), .val (.int p2), .val (.long q3), .second, .val (.long q4), .second, .val (.long q5), .second, .val (.int v4), .val (.int (3 : Int32)), .val (.int (0 : Int32)), .val (.ref b2), .val (.int (1 : Int32))] [(.ref b2)])) rfl (by rw [hml]; rfl) (Steps.refl _) (argsL := []) (rest := []) (lenOf pd_4 rfl) rfl (by show 2 * 0 + _ ≤ _; exact Nat.le_of_eq rfl) (hb hby at_149) (fun _ _ => ⟨rfl, hh49, (by decide : 4 + 0 ≤ _), (by decide : 15 + 0 ≤ _)⟩)
      dsimp only [Pt.U, Pt.locs, Pt.cells, Pt.slots] at X50 zl50 zy50 zz50 st50 hQ50
      subst zl50 zy50 zz50
      obtain ⟨rfl, Nq50, hh50⟩ := hQ50
      have N50 := Fr.app N49 Nq50
      refine GoW.st (fun t k => st50.trans k) ?_
      show GoW p e below QQ (T50.setTop (mkF m 152 #[.val (.int p1), .val (.int p2), .val (.long q3), .second, .val (.long q4), .second, .val (.long q5), .second, .val (.int v4), .val (.int (3 : Int32)), .val (.int (0 : Int32)), .val (.ref b2), .val (.int (1 : Int32))] [(.int (0 : Int32))]))
      refine GoW.st (fun t k => XS.iload X50.here hx rfl (hb hby at_152) rfl (XS.iload X50.here hx rfl (hb hby at_154) rfl (XS.isub X50.here hx rfl (hb hby at_156) rfl k))) ?_
      show GoW p e below QQ (T50.setTop (mkF m 157 #[.val (.int p1), .val (.int p2), .val (.long q3), .second, .val (.long q4), .second, .val (.long q5), .second, .val (.int v4), .val (.int (3 : Int32)), .val (.int (0 : Int32)), .val (.ref b2), .val (.int (1 : Int32))] [(.int (3 : Int32)), (.int (0 : Int32))]))
      have hc157 : ¬ ((3 : Int32) = (0 : Int32)) := by decide
      refine GoW.st (fun t k => XS.ifYes X50.here hx rfl (pc0 := 157) (pc' := 164) rfl (hb hby at_157) rfl ((if0 _ _).trans (feq hc157).2) (by decide) (by decide) (XS.iconst X50.here hx rfl (hb hby at_164) k)) ?_
      show GoW p e below QQ (T50.setTop (mkF m 165 #[.val (.int p1), .val (.int p2), .val (.long q3), .second, .val (.long q4), .second, .val (.long q5), .second, .val (.int v4), .val (.int (3 : Int32)), .val (.int (0 : Int32)), .val (.ref b2), .val (.int (1 : Int32))] [(.int (0 : Int32)), (.int (0 : Int32))]))
      have hc165 : (0 : Int32) = (0 : Int32) := by decide
      refine GoW.st (fun t k => XS.icmpNo X50.here hx rfl (hb hby at_165) rfl (teq hc165).2 (XS.iconst X50.here hx rfl (hb hby at_168) (XS.goto X50.here hx rfl (pc0 := 169) (pc' := 173) rfl (hb hby at_169) (by decide) (by decide) (XS.istore X50.here hx rfl (hb hby at_173) rfl (l' := #[.val (.int p1), .val (.int p2), .val (.long q3), .second, .val (.long q4), .second, .val (.long q5), .second, .val (.int v4), .val (.int (3 : Int32)), .val (.int (0 : Int32)), .val (.ref b2), .val (.int (1 : Int32))]) rfl (XS.iload X50.here hx rfl (hb hby at_175) rfl k))))) ?_
      show GoW p e below QQ (T50.setTop (mkF m 177 #[.val (.int p1), .val (.int p2), .val (.long q3), .second, .val (.long q4), .second, .val (.long q5), .second, .val (.int v4), .val (.int (3 : Int32)), .val (.int (0 : Int32)), .val (.ref b2), .val (.int (1 : Int32))] [(.int (1 : Int32))]))
      exact GoW.fin X50 (some (.int (nar .boolean (1 : Int32)))) (fun q => by rw [hret] at q; cases q) hlk hQ hh50 ⟨rfl, N50⟩ (by decide) (by decide) (fun fs hr => retN X50 hx (t := .boolean) hret (by simp) (hb hby at_177) hr)
    · skip
      show GoW p e below QQ (T6.setTop (mkF m 43 #[.val (.int p1), .val (.int p2), .val (.long q3), .second, .val (.long q4), .second, .val (.long q5), .second, .val (.int v4), .val (.int (3 : Int32)), .val (.int (1 : Int32)), .val (.ref b2), .val (.int (1 : Int32))] [(.int (3 : Int32))]))
      refine GoW.st (fun t k => XS.iconst X6.here hx rfl (hb hby at_43) k) ?_
      show GoW p e below QQ (T6.setTop (mkF m 44 #[.val (.int p1), .val (.int p2), .val (.long q3), .second, .val (.long q4), .second, .val (.long q5), .second, .val (.int v4), .val (.int (3 : Int32)), .val (.int (1 : Int32)), .val (.ref b2), .val (.int (1 : Int32))] [(.int (1 : Int32)), (.int (3 : Int32))]))
      have hc44 : ¬ ((3 : Int32) < (1 : Int32)) := by decide
      refine GoW.st (fun t k => XS.icmpNo X6.here hx rfl (hb hby at_44) rfl (flt hc44).1 (XS.aload X6.here hx rfl (hb hby at_47) rfl rfl (XS.lloadN X6.here hx rfl (hb hby at_49) rfl k))) ?_
      show GoW p e below QQ (T6.setTop (mkF m 50 #[.val (.int p1), .val (.int p2), .val (.long q3), .second, .val (.long q4), .second, .val (.long q5), .second, .val (.int v4), .val (.int (3 : Int32)), .val (.int (1 : Int32)), .val (.ref b2), .val (.int (1 : Int32))] [(.long q3), (.ref b2)]))
      obtain ⟨cq51, kq51, qa51, qb51, qc51⟩ := isOf hZ hh6 p4_0
      obtain ⟨_, _, ⟨T51, zL51, zk51, zn51⟩, -, X51, ⟨Lc51, hQ51, zl51, zy51, zz51⟩, st51⟩ := X6.virtualBack hx (y := (⟨"com/example/eunomia/eunomia/sticky/LongHeap", "add", "(J)V"⟩ : MethodName)) (z := (⟨"com/example/eunomia/eunomia/sticky/LongHeap", "add", "(J)V"⟩ : MethodName)) hown (mvT hZ (hw _ (List.mem_of_getElem? (i := 26) rfl))) (mvT hZ (hw _ (List.mem_of_getElem? (i := 27) rfl))) (notFace_of_selects (args := #[]) (mvT hZ (hw _ (List.mem_of_getElem? (i := 29) rfl)))) (mvT hZ (hw _ (List.mem_of_getElem? (i := 29) rfl))) (mvT hZ (hw _ (List.mem_of_getElem? (i := 28) rfl))) (by decide) (backOf (W := 0) (rm6_0 l Z a0 hw [] b2 q3 b_29 kb_29 z_29 (0 : Int64) (0 : Int64) (0 : Int64) (0 : Int64) T4.heap n0 (Nat.le_trans Z0 K4.1) p4_0 gg2 gg4_b_29 (Ne.symm ne4_b2_b_29) p4_1 p4_2 p4_4 (by omega)) hZ (hw _ (List.mem_of_getElem? (i := 30) rfl)) (hw _ (List.mem_of_getElem? (i := 6) rfl)) (by decide) (by decide)) qa51 qc51 (g := (mkF m 50 #[.val (.int p1), .val (.int p2), .val (.long q3), .second, .val (.long q4), .second, .val (.long q5), .second, .val (.int v4), .val (.int (3 : Int32)), .val (.int (1 : Int32)), .val (.ref b2), .val (.int (1 : Int32))] [(.long q3), (.ref b2)])) rfl (by rw [hml]; rfl) (Steps.refl _) (argsL := [(.long q3)]) (rest := []) (lenOf pd_2 rfl) rfl (by show 2 * 0 + _ ≤ _; exact Nat.le_of_eq rfl) (hb hby at_50) (fun _ _ => ⟨rfl, hh6, (by decide : 2 + 0 ≤ _), (by decide : 9 + 0 ≤ _)⟩)
      dsimp only [Pt.U, Pt.locs, Pt.cells, Pt.slots] at X51 zl51 zy51 zz51 st51 hQ51
      subst zl51 zy51 zz51
      obtain ⟨b_50, kb_50, zz_50, wa_50, wb_50, wc_50, wd_50, rfl, Nq51, Kq51, p51_0, p51_1, p51_2, p51_3, p51_4, p51_5, p51_6⟩ := hQ51
      have N51 := Fr.app N6 Nq51
      refine GoW.st (fun t k => st51.trans k) ?_
      have K51 : Keep h0 T51.heap [] := K4.trans Kq51 (allS (Or.inr sz2) (allS (Or.inr sz4_b_29) all0))
      have hzz_50 := p51_6
      show GoW p e below QQ (T51.setTop (mkF m 53 #[.val (.int p1), .val (.int p2), .val (.long q3), .second, .val (.long q4), .second, .val (.long q5), .second, .val (.int v4), .val (.int (3 : Int32)), .val (.int (1 : Int32)), .val (.ref b2), .val (.int (1 : Int32))] []))
      refine GoW.st (fun t k => XS.iload X51.here hx rfl (hb hby at_53) rfl (XS.iconst X51.here hx rfl (hb hby at_55) k)) ?_
      show GoW p e below QQ (T51.setTop (mkF m 56 #[.val (.int p1), .val (.int p2), .val (.long q3), .second, .val (.long q4), .second, .val (.long q5), .second, .val (.int v4), .val (.int (3 : Int32)), .val (.int (1 : Int32)), .val (.ref b2), .val (.int (1 : Int32))] [(.int (2 : Int32)), (.int (3 : Int32))]))
      have hc56 : ¬ ((3 : Int32) < (2 : Int32)) := by decide
      refine GoW.st (fun t k => XS.icmpNo X51.here hx rfl (hb hby at_56) rfl (flt hc56).1 (XS.aload X51.here hx rfl (hb hby at_59) rfl rfl (XS.lload X51.here hx rfl (hb hby at_61) rfl k))) ?_
      show GoW p e below QQ (T51.setTop (mkF m 63 #[.val (.int p1), .val (.int p2), .val (.long q3), .second, .val (.long q4), .second, .val (.long q5), .second, .val (.int v4), .val (.int (3 : Int32)), .val (.int (1 : Int32)), .val (.ref b2), .val (.int (1 : Int32))] [(.long q4), (.ref b2)]))
      obtain ⟨cq53, kq53, qa53, qb53, qc53⟩ := isOf hZ rfl p51_0
      obtain ⟨_, _, ⟨T53, zL53, zk53, zn53⟩, -, X53, ⟨Lc53, hQ53, zl53, zy53, zz53⟩, st53⟩ := X51.virtualBack hx (y := (⟨"com/example/eunomia/eunomia/sticky/LongHeap", "add", "(J)V"⟩ : MethodName)) (z := (⟨"com/example/eunomia/eunomia/sticky/LongHeap", "add", "(J)V"⟩ : MethodName)) hown (mvT hZ (hw _ (List.mem_of_getElem? (i := 26) rfl))) (mvT hZ (hw _ (List.mem_of_getElem? (i := 27) rfl))) (notFace_of_selects (args := #[]) (mvT hZ (hw _ (List.mem_of_getElem? (i := 29) rfl)))) (mvT hZ (hw _ (List.mem_of_getElem? (i := 29) rfl))) (mvT hZ (hw _ (List.mem_of_getElem? (i := 28) rfl))) (by decide) (backOf (W := 0) (rm6_1 l Z a0 hw [] b2 q4 b_50 kb_50 zz_50 wa_50 wb_50 wc_50 wd_50 T51.heap n0 (Nat.le_trans Z0 K51.1) p51_0 gg2 p51_3 p51_4 p51_1 p51_2 p51_5 (by omega)) hZ (hw _ (List.mem_of_getElem? (i := 30) rfl)) (hw _ (List.mem_of_getElem? (i := 6) rfl)) (by decide) (by decide)) qa53 qc53 (g := (mkF m 63 #[.val (.int p1), .val (.int p2), .val (.long q3), .second, .val (.long q4), .second, .val (.long q5), .second, .val (.int v4), .val (.int (3 : Int32)), .val (.int (1 : Int32)), .val (.ref b2), .val (.int (1 : Int32))] [(.long q4), (.ref b2)])) rfl (by rw [hml]; rfl) (Steps.refl _) (argsL := [(.long q4)]) (rest := []) (lenOf pd_2 rfl) rfl (by show 2 * 0 + _ ≤ _; exact Nat.le_of_eq rfl) (hb hby at_63) (fun _ _ => ⟨rfl, rfl, (by decide : 2 + 1 ≤ _), (by decide : 9 + 2 ≤ _)⟩)
      dsimp only [Pt.U, Pt.locs, Pt.cells, Pt.slots] at X53 zl53 zy53 zz53 st53 hQ53
      subst zl53 zy53 zz53
      obtain ⟨b_63, kb_63, zz_63, wa_63, wb_63, wc_63, wd_63, rfl, Nq53, Kq53, p53_0, p53_1, p53_2, p53_3, p53_4, p53_5, p53_6⟩ := hQ53
      have N53 := Fr.app N51 Nq53
      refine GoW.st (fun t k => st53.trans k) ?_
      have K53 : Keep h0 T53.heap [] := K51.trans Kq53 (allS (Or.inr sz2) (allS (Or.inr (Nat.le_trans Z1 p51_3)) all0))
      have hzz_63 := p53_6
      show GoW p e below QQ (T53.setTop (mkF m 66 #[.val (.int p1), .val (.int p2), .val (.long q3), .second, .val (.long q4), .second, .val (.long q5), .second, .val (.int v4), .val (.int (3 : Int32)), .val (.int (1 : Int32)), .val (.ref b2), .val (.int (1 : Int32))] []))
      refine GoW.st (fun t k => XS.iload X53.here hx rfl (hb hby at_66) rfl (XS.iconst X53.here hx rfl (hb hby at_68) k)) ?_
      show GoW p e below QQ (T53.setTop (mkF m 69 #[.val (.int p1), .val (.int p2), .val (.long q3), .second, .val (.long q4), .second, .val (.long q5), .second, .val (.int v4), .val (.int (3 : Int32)), .val (.int (1 : Int32)), .val (.ref b2), .val (.int (1 : Int32))] [(.int (3 : Int32)), (.int (3 : Int32))]))
      have hc69 : ¬ ((3 : Int32) < (3 : Int32)) := by decide
      refine GoW.st (fun t k => XS.icmpNo X53.here hx rfl (hb hby at_69) rfl (flt hc69).1 (XS.aload X53.here hx rfl (hb hby at_72) rfl rfl (XS.lload X53.here hx rfl (hb hby at_74) rfl k))) ?_
      show GoW p e below QQ (T53.setTop (mkF m 76 #[.val (.int p1), .val (.int p2), .val (.long q3), .second, .val (.long q4), .second, .val (.long q5), .second, .val (.int v4), .val (.int (3 : Int32)), .val (.int (1 : Int32)), .val (.ref b2), .val (.int (1 : Int32))] [(.long q5), (.ref b2)]))
      obtain ⟨cq55, kq55, qa55, qb55, qc55⟩ := isOf hZ rfl p53_0
      obtain ⟨_, _, ⟨T55, zL55, zk55, zn55⟩, -, X55, ⟨Lc55, hQ55, zl55, zy55, zz55⟩, st55⟩ := X53.virtualBack hx (y := (⟨"com/example/eunomia/eunomia/sticky/LongHeap", "add", "(J)V"⟩ : MethodName)) (z := (⟨"com/example/eunomia/eunomia/sticky/LongHeap", "add", "(J)V"⟩ : MethodName)) hown (mvT hZ (hw _ (List.mem_of_getElem? (i := 26) rfl))) (mvT hZ (hw _ (List.mem_of_getElem? (i := 27) rfl))) (notFace_of_selects (args := #[]) (mvT hZ (hw _ (List.mem_of_getElem? (i := 29) rfl)))) (mvT hZ (hw _ (List.mem_of_getElem? (i := 29) rfl))) (mvT hZ (hw _ (List.mem_of_getElem? (i := 28) rfl))) (by decide) (backOf (W := 0) (rm6_2 l Z a0 hw [] b2 q5 b_63 kb_63 zz_63 wa_63 wb_63 wc_63 wd_63 T53.heap n0 (Nat.le_trans Z0 K53.1) p53_0 gg2 p53_3 p53_4 p53_1 p53_2 p53_5 (by omega)) hZ (hw _ (List.mem_of_getElem? (i := 30) rfl)) (hw _ (List.mem_of_getElem? (i := 6) rfl)) (by decide) (by decide)) qa55 qc55 (g := (mkF m 76 #[.val (.int p1), .val (.int p2), .val (.long q3), .second, .val (.long q4), .second, .val (.long q5), .second, .val (.int v4), .val (.int (3 : Int32)), .val (.int (1 : Int32)), .val (.ref b2), .val (.int (1 : Int32))] [(.long q5), (.ref b2)])) rfl (by rw [hml]; rfl) (Steps.refl _) (argsL := [(.long q5)]) (rest := []) (lenOf pd_2 rfl) rfl (by show 2 * 0 + _ ≤ _; exact Nat.le_of_eq rfl) (hb hby at_76) (fun _ _ => ⟨rfl, rfl, (by decide : 3 + 1 ≤ _), (by decide : 11 + 4 ≤ _)⟩)
      dsimp only [Pt.U, Pt.locs, Pt.cells, Pt.slots] at X55 zl55 zy55 zz55 st55 hQ55
      subst zl55 zy55 zz55
      obtain ⟨b_76, kb_76, zz_76, wa_76, wb_76, wc_76, wd_76, rfl, Nq55, Kq55, p55_0, p55_1, p55_2, p55_3, p55_4, p55_5, p55_6⟩ := hQ55
      have N55 := Fr.app N53 Nq55
      refine GoW.st (fun t k => st55.trans k) ?_
      have K55 : Keep h0 T55.heap [] := K53.trans Kq55 (allS (Or.inr sz2) (allS (Or.inr (Nat.le_trans Z1 p53_3)) all0))
      have hzz_76 := p55_6
      show GoW p e below QQ (T55.setTop (mkF m 79 #[.val (.int p1), .val (.int p2), .val (.long q3), .second, .val (.long q4), .second, .val (.long q5), .second, .val (.int v4), .val (.int (3 : Int32)), .val (.int (1 : Int32)), .val (.ref b2), .val (.int (1 : Int32))] []))
      refine GoW.st (fun t k => XS.iload X55.here hx rfl (hb hby at_79) rfl k) ?_
      show GoW p e below QQ (T55.setTop (mkF m 81 #[.val (.int p1), .val (.int p2), .val (.long q3), .second, .val (.long q4), .second, .val (.long q5), .second, .val (.int v4), .val (.int (3 : Int32)), .val (.int (1 : Int32)), .val (.ref b2), .val (.int (1 : Int32))] [(.int (1 : Int32))]))
      have hc81 : ¬ ((1 : Int32) = (0 : Int32)) := by decide
      refine GoW.st (fun t k => XS.ifNo X55.here hx rfl (hb hby at_81) rfl ((if0 _ _).trans (feq hc81).1) (XS.aload X55.here hx rfl (hb hby at_84) rfl rfl k)) ?_
      show GoW p e below QQ (T55.setTop (mkF m 86 #[.val (.int p1), .val (.int p2), .val (.long q3), .second, .val (.long q4), .second, .val (.long q5), .second, .val (.int v4), .val (.int (3 : Int32)), .val (.int (1 : Int32)), .val (.ref b2), .val (.int (1 : Int32))] [(.ref b2)]))
      obtain ⟨cq57, kq57, qa57, qb57, qc57⟩ := isOf hZ rfl p55_0
      obtain ⟨_, _, ⟨T57, zL57, zk57, zn57⟩, -, X57, ⟨Lc57, hQ57, zl57, zy57, zz57⟩, st57⟩ := X55.virtualBack hx (y := (⟨"com/example/eunomia/eunomia/sticky/LongHeap", "isEmpty", "()Z"⟩ : MethodName)) (z := (⟨"com/example/eunomia/eunomia/sticky/LongHeap", "isEmpty", "()Z"⟩ : MethodName)) hown (mvT hZ (hw _ (List.mem_of_getElem? (i := 19) rfl))) (mvT hZ (hw _ (List.mem_of_getElem? (i := 20) rfl))) (notFace_of_selects (args := #[]) (mvT hZ (hw _ (List.mem_of_getElem? (i := 22) rfl)))) (mvT hZ (hw _ (List.mem_of_getElem? (i := 22) rfl))) (mvT hZ (hw _ (List.mem_of_getElem? (i := 21) rfl))) (by decide) (backOf (W := 0) (rm5_3 l Z a0 hw [] b2 T55.heap n0 (Nat.le_trans Z0 K55.1) p55_2) hZ (hw _ (List.mem_of_getElem? (i := 23) rfl)) (hw _ (List.mem_of_getElem? (i := 6) rfl)) (by decide) (by decide)) qa57 qc57 (g := (mkF m 86 #[.val (.int p1), .val (.int p2), .val (.long q3), .second, .val (.long q4), .second, .val (.long q5), .second, .val (.int v4), .val (.int (3 : Int32)), .val (.int (1 : Int32)), .val (.ref b2), .val (.int (1 : Int32))] [(.ref b2)])) rfl (by rw [hml]; rfl) (Steps.refl _) (argsL := []) (rest := []) (lenOf pd_4 rfl) rfl (by show 2 * 0 + _ ≤ _; exact Nat.le_of_eq rfl) (hb hby at_86) (fun _ _ => ⟨rfl, rfl, (by decide : 4 + 0 ≤ _), (by decide : 15 + 0 ≤ _)⟩)
      dsimp only [Pt.U, Pt.locs, Pt.cells, Pt.slots] at X57 zl57 zy57 zz57 st57 hQ57
      subst zl57 zy57 zz57
      obtain ⟨rfl, Nq57, hh57⟩ := hQ57
      have N57 := Fr.app N55 Nq57
      refine GoW.st (fun t k => st57.trans k) ?_
      show GoW p e below QQ (T57.setTop (mkF m 89 #[.val (.int p1), .val (.int p2), .val (.long q3), .second, .val (.long q4), .second, .val (.long q5), .second, .val (.int v4), .val (.int (3 : Int32)), .val (.int (1 : Int32)), .val (.ref b2), .val (.int (1 : Int32))] [(.int (0 : Int32))]))
      refine GoW.st (fun t k => XS.iload X57.here hx rfl (hb hby at_89) rfl k) ?_
      show GoW p e below QQ (T57.setTop (mkF m 91 #[.val (.int p1), .val (.int p2), .val (.long q3), .second, .val (.long q4), .second, .val (.long q5), .second, .val (.int v4), .val (.int (3 : Int32)), .val (.int (1 : Int32)), .val (.ref b2), .val (.int (1 : Int32))] [(.int (3 : Int32)), (.int (0 : Int32))]))
      have hc91 : ¬ ((3 : Int32) = (0 : Int32)) := by decide
      refine GoW.st (fun t k => XS.ifYes X57.here hx rfl (pc0 := 91) (pc' := 98) rfl (hb hby at_91) rfl ((if0 _ _).trans (feq hc91).2) (by decide) (by decide) (XS.iconst X57.here hx rfl (hb hby at_98) k)) ?_
      show GoW p e below QQ (T57.setTop (mkF m 99 #[.val (.int p1), .val (.int p2), .val (.long q3), .second, .val (.long q4), .second, .val (.long q5), .second, .val (.int v4), .val (.int (3 : Int32)), .val (.int (1 : Int32)), .val (.ref b2), .val (.int (1 : Int32))] [(.int (0 : Int32)), (.int (0 : Int32))]))
      have hc99 : (0 : Int32) = (0 : Int32) := by decide
      refine GoW.st (fun t k => XS.icmpNo X57.here hx rfl (hb hby at_99) rfl (teq hc99).2 (XS.iconst X57.here hx rfl (hb hby at_102) (XS.goto X57.here hx rfl (pc0 := 103) (pc' := 107) rfl (hb hby at_103) (by decide) (by decide) (XS.istore X57.here hx rfl (hb hby at_107) rfl (l' := #[.val (.int p1), .val (.int p2), .val (.long q3), .second, .val (.long q4), .second, .val (.long q5), .second, .val (.int v4), .val (.int (3 : Int32)), .val (.int (1 : Int32)), .val (.ref b2), .val (.int (1 : Int32))]) rfl (XS.iload X57.here hx rfl (hb hby at_109) rfl (XS.iconst X57.here hx rfl (hb hby at_111) k)))))) ?_
      show GoW p e below QQ (T57.setTop (mkF m 112 #[.val (.int p1), .val (.int p2), .val (.long q3), .second, .val (.long q4), .second, .val (.long q5), .second, .val (.int v4), .val (.int (3 : Int32)), .val (.int (1 : Int32)), .val (.ref b2), .val (.int (1 : Int32))] [(.int (1 : Int32)), (.int (1 : Int32))]))
      have hc112 : ¬ ((1 : Int32) < (1 : Int32)) := by decide
      refine GoW.st (fun t k => XS.icmpNo X57.here hx rfl (hb hby at_112) rfl (flt hc112).1 (XS.aload X57.here hx rfl (hb hby at_115) rfl rfl k)) ?_
      show GoW p e below QQ (T57.setTop (mkF m 117 #[.val (.int p1), .val (.int p2), .val (.long q3), .second, .val (.long q4), .second, .val (.long q5), .second, .val (.int v4), .val (.int (3 : Int32)), .val (.int (1 : Int32)), .val (.ref b2), .val (.int (1 : Int32))] [(.ref b2)]))
      obtain ⟨cq58, kq58, qa58, qb58, qc58⟩ := isOf hZ hh57 p55_0
      obtain ⟨_, _, ⟨T58, zL58, zk58, zn58⟩, -, X58, ⟨Lc58, hQ58, zl58, zy58, zz58⟩, st58⟩ := X57.virtualBack hx (y := (⟨"com/example/eunomia/eunomia/sticky/LongHeap", "remove", "()V"⟩ : MethodName)) (z := (⟨"com/example/eunomia/eunomia/sticky/LongHeap", "remove", "()V"⟩ : MethodName)) hown (mvT hZ (hw _ (List.mem_of_getElem? (i := 40) rfl))) (mvT hZ (hw _ (List.mem_of_getElem? (i := 41) rfl))) (notFace_of_selects (args := #[]) (mvT hZ (hw _ (List.mem_of_getElem? (i := 43) rfl)))) (mvT hZ (hw _ (List.mem_of_getElem? (i := 43) rfl))) (mvT hZ (hw _ (List.mem_of_getElem? (i := 42) rfl))) (by decide) (backOf (W := 0) (rm8_3 l Z a0 hw [] b2 b_76 kb_76 zz_76 wa_76 wb_76 wc_76 wd_76 T55.heap n0 (Nat.le_trans Z0 K55.1) p55_0 gg2 p55_3 p55_4 p55_1 p55_2 p55_5 (by omega)) hZ (hw _ (List.mem_of_getElem? (i := 44) rfl)) (hw _ (List.mem_of_getElem? (i := 6) rfl)) (by decide) (by decide)) qa58 qc58 (g := (mkF m 117 #[.val (.int p1), .val (.int p2), .val (.long q3), .second, .val (.long q4), .second, .val (.long q5), .second, .val (.int v4), .val (.int (3 : Int32)), .val (.int (1 : Int32)), .val (.ref b2), .val (.int (1 : Int32))] [(.ref b2)])) rfl (by rw [hml]; rfl) (Steps.refl _) (argsL := []) (rest := []) (lenOf pd_5 rfl) rfl (by show 2 * 0 + _ ≤ _; exact Nat.le_of_eq rfl) (hb hby at_117) (fun _ _ => ⟨rfl, hh57, (by decide : 4 + 0 ≤ _), (by decide : 15 + 0 ≤ _)⟩)
      dsimp only [Pt.U, Pt.locs, Pt.cells, Pt.slots] at X58 zl58 zy58 zz58 st58 hQ58
      subst zl58 zy58 zz58
      obtain ⟨wa_117, wb_117, wc_117, wd_117, rfl, Nq58, Kq58, p58_0, p58_1, p58_2, p58_3⟩ := hQ58
      have N58 := Fr.app N57 Nq58
      refine GoW.st (fun t k => st58.trans k) ?_
      have K58 : Keep h0 T58.heap [] := K55.trans Kq58 (allS (Or.inr sz2) (allS (Or.inr (Nat.le_trans Z1 p55_3)) all0))
      show GoW p e below QQ (T58.setTop (mkF m 120 #[.val (.int p1), .val (.int p2), .val (.long q3), .second, .val (.long q4), .second, .val (.long q5), .second, .val (.int v4), .val (.int (3 : Int32)), .val (.int (1 : Int32)), .val (.ref b2), .val (.int (1 : Int32))] []))
      refine GoW.st (fun t k => XS.iload X58.here hx rfl (hb hby at_120) rfl (XS.iconst X58.here hx rfl (hb hby at_122) k)) ?_
      show GoW p e below QQ (T58.setTop (mkF m 123 #[.val (.int p1), .val (.int p2), .val (.long q3), .second, .val (.long q4), .second, .val (.long q5), .second, .val (.int v4), .val (.int (3 : Int32)), .val (.int (1 : Int32)), .val (.ref b2), .val (.int (1 : Int32))] [(.int (2 : Int32)), (.int (1 : Int32))]))
      have hc123 : (1 : Int32) < (2 : Int32) := by decide
      refine GoW.st (fun t k => XS.icmpYes X58.here hx rfl (pc0 := 123) (pc' := 131) rfl (hb hby at_123) rfl (tlt hc123).1 (by decide) (by decide) (XS.iload X58.here hx rfl (hb hby at_131) rfl (XS.iconst X58.here hx rfl (hb hby at_133) k))) ?_
      show GoW p e below QQ (T58.setTop (mkF m 134 #[.val (.int p1), .val (.int p2), .val (.long q3), .second, .val (.long q4), .second, .val (.long q5), .second, .val (.int v4), .val (.int (3 : Int32)), .val (.int (1 : Int32)), .val (.ref b2), .val (.int (1 : Int32))] [(.int (3 : Int32)), (.int (1 : Int32))]))
      have hc134 : (1 : Int32) < (3 : Int32) := by decide
      refine GoW.st (fun t k => XS.icmpYes X58.here hx rfl (pc0 := 134) (pc' := 142) rfl (hb hby at_134) rfl (tlt hc134).1 (by decide) (by decide) (XS.iload X58.here hx rfl (hb hby at_142) rfl k)) ?_
      show GoW p e below QQ (T58.setTop (mkF m 144 #[.val (.int p1), .val (.int p2), .val (.long q3), .second, .val (.long q4), .second, .val (.long q5), .second, .val (.int v4), .val (.int (3 : Int32)), .val (.int (1 : Int32)), .val (.ref b2), .val (.int (1 : Int32))] [(.int (1 : Int32))]))
      have hc144 : ¬ ((1 : Int32) = (0 : Int32)) := by decide
      refine GoW.st (fun t k => XS.ifNo X58.here hx rfl (hb hby at_144) rfl ((if0 _ _).trans (feq hc144).1) (XS.aload X58.here hx rfl (hb hby at_147) rfl rfl k)) ?_
      show GoW p e below QQ (T58.setTop (mkF m 149 #[.val (.int p1), .val (.int p2), .val (.long q3), .second, .val (.long q4), .second, .val (.long q5), .second, .val (.int v4), .val (.int (3 : Int32)), .val (.int (1 : Int32)), .val (.ref b2), .val (.int (1 : Int32))] [(.ref b2)]))
      obtain ⟨cq60, kq60, qa60, qb60, qc60⟩ := isOf hZ rfl p58_0
      obtain ⟨_, _, ⟨T60, zL60, zk60, zn60⟩, -, X60, ⟨Lc60, hQ60, zl60, zy60, zz60⟩, st60⟩ := X58.virtualBack hx (y := (⟨"com/example/eunomia/eunomia/sticky/LongHeap", "isEmpty", "()Z"⟩ : MethodName)) (z := (⟨"com/example/eunomia/eunomia/sticky/LongHeap", "isEmpty", "()Z"⟩ : MethodName)) hown (mvT hZ (hw _ (List.mem_of_getElem? (i := 19) rfl))) (mvT hZ (hw _ (List.mem_of_getElem? (i := 20) rfl))) (notFace_of_selects (args := #[]) (mvT hZ (hw _ (List.mem_of_getElem? (i := 22) rfl)))) (mvT hZ (hw _ (List.mem_of_getElem? (i := 22) rfl))) (mvT hZ (hw _ (List.mem_of_getElem? (i := 21) rfl))) (by decide) (backOf (W := 0) (rm5_2 l Z a0 hw [] b2 T58.heap n0 (Nat.le_trans Z0 K58.1) p58_2) hZ (hw _ (List.mem_of_getElem? (i := 23) rfl)) (hw _ (List.mem_of_getElem? (i := 6) rfl)) (by decide) (by decide)) qa60 qc60 (g := (mkF m 149 #[.val (.int p1), .val (.int p2), .val (.long q3), .second, .val (.long q4), .second, .val (.long q5), .second, .val (.int v4), .val (.int (3 : Int32)), .val (.int (1 : Int32)), .val (.ref b2), .val (.int (1 : Int32))] [(.ref b2)])) rfl (by rw [hml]; rfl) (Steps.refl _) (argsL := []) (rest := []) (lenOf pd_4 rfl) rfl (by show 2 * 0 + _ ≤ _; exact Nat.le_of_eq rfl) (hb hby at_149) (fun _ _ => ⟨rfl, rfl, (by decide : 4 + 0 ≤ _), (by decide : 15 + 0 ≤ _)⟩)
      dsimp only [Pt.U, Pt.locs, Pt.cells, Pt.slots] at X60 zl60 zy60 zz60 st60 hQ60
      subst zl60 zy60 zz60
      obtain ⟨rfl, Nq60, hh60⟩ := hQ60
      have N60 := Fr.app N58 Nq60
      refine GoW.st (fun t k => st60.trans k) ?_
      show GoW p e below QQ (T60.setTop (mkF m 152 #[.val (.int p1), .val (.int p2), .val (.long q3), .second, .val (.long q4), .second, .val (.long q5), .second, .val (.int v4), .val (.int (3 : Int32)), .val (.int (1 : Int32)), .val (.ref b2), .val (.int (1 : Int32))] [(.int (0 : Int32))]))
      refine GoW.st (fun t k => XS.iload X60.here hx rfl (hb hby at_152) rfl (XS.iload X60.here hx rfl (hb hby at_154) rfl (XS.isub X60.here hx rfl (hb hby at_156) rfl k))) ?_
      show GoW p e below QQ (T60.setTop (mkF m 157 #[.val (.int p1), .val (.int p2), .val (.long q3), .second, .val (.long q4), .second, .val (.long q5), .second, .val (.int v4), .val (.int (3 : Int32)), .val (.int (1 : Int32)), .val (.ref b2), .val (.int (1 : Int32))] [(.int (2 : Int32)), (.int (0 : Int32))]))
      have hc157 : ¬ ((2 : Int32) = (0 : Int32)) := by decide
      refine GoW.st (fun t k => XS.ifYes X60.here hx rfl (pc0 := 157) (pc' := 164) rfl (hb hby at_157) rfl ((if0 _ _).trans (feq hc157).2) (by decide) (by decide) (XS.iconst X60.here hx rfl (hb hby at_164) k)) ?_
      show GoW p e below QQ (T60.setTop (mkF m 165 #[.val (.int p1), .val (.int p2), .val (.long q3), .second, .val (.long q4), .second, .val (.long q5), .second, .val (.int v4), .val (.int (3 : Int32)), .val (.int (1 : Int32)), .val (.ref b2), .val (.int (1 : Int32))] [(.int (0 : Int32)), (.int (0 : Int32))]))
      have hc165 : (0 : Int32) = (0 : Int32) := by decide
      refine GoW.st (fun t k => XS.icmpNo X60.here hx rfl (hb hby at_165) rfl (teq hc165).2 (XS.iconst X60.here hx rfl (hb hby at_168) (XS.goto X60.here hx rfl (pc0 := 169) (pc' := 173) rfl (hb hby at_169) (by decide) (by decide) (XS.istore X60.here hx rfl (hb hby at_173) rfl (l' := #[.val (.int p1), .val (.int p2), .val (.long q3), .second, .val (.long q4), .second, .val (.long q5), .second, .val (.int v4), .val (.int (3 : Int32)), .val (.int (1 : Int32)), .val (.ref b2), .val (.int (1 : Int32))]) rfl (XS.iload X60.here hx rfl (hb hby at_175) rfl k))))) ?_
      show GoW p e below QQ (T60.setTop (mkF m 177 #[.val (.int p1), .val (.int p2), .val (.long q3), .second, .val (.long q4), .second, .val (.long q5), .second, .val (.int v4), .val (.int (3 : Int32)), .val (.int (1 : Int32)), .val (.ref b2), .val (.int (1 : Int32))] [(.int (1 : Int32))]))
      exact GoW.fin X60 (some (.int (nar .boolean (1 : Int32)))) (fun q => by rw [hret] at q; cases q) hlk hQ hh60 ⟨rfl, N60⟩ (by decide) (by decide) (fun fs hr => retN X60 hx (t := .boolean) hret (by simp) (hb hby at_177) hr)
    · skip
      show GoW p e below QQ (T6.setTop (mkF m 43 #[.val (.int p1), .val (.int p2), .val (.long q3), .second, .val (.long q4), .second, .val (.long q5), .second, .val (.int v4), .val (.int (3 : Int32)), .val (.int (2 : Int32)), .val (.ref b2), .val (.int (1 : Int32))] [(.int (3 : Int32))]))
      refine GoW.st (fun t k => XS.iconst X6.here hx rfl (hb hby at_43) k) ?_
      show GoW p e below QQ (T6.setTop (mkF m 44 #[.val (.int p1), .val (.int p2), .val (.long q3), .second, .val (.long q4), .second, .val (.long q5), .second, .val (.int v4), .val (.int (3 : Int32)), .val (.int (2 : Int32)), .val (.ref b2), .val (.int (1 : Int32))] [(.int (1 : Int32)), (.int (3 : Int32))]))
      have hc44 : ¬ ((3 : Int32) < (1 : Int32)) := by decide
      refine GoW.st (fun t k => XS.icmpNo X6.here hx rfl (hb hby at_44) rfl (flt hc44).1 (XS.aload X6.here hx rfl (hb hby at_47) rfl rfl (XS.lloadN X6.here hx rfl (hb hby at_49) rfl k))) ?_
      show GoW p e below QQ (T6.setTop (mkF m 50 #[.val (.int p1), .val (.int p2), .val (.long q3), .second, .val (.long q4), .second, .val (.long q5), .second, .val (.int v4), .val (.int (3 : Int32)), .val (.int (2 : Int32)), .val (.ref b2), .val (.int (1 : Int32))] [(.long q3), (.ref b2)]))
      obtain ⟨cq61, kq61, qa61, qb61, qc61⟩ := isOf hZ hh6 p4_0
      obtain ⟨_, _, ⟨T61, zL61, zk61, zn61⟩, -, X61, ⟨Lc61, hQ61, zl61, zy61, zz61⟩, st61⟩ := X6.virtualBack hx (y := (⟨"com/example/eunomia/eunomia/sticky/LongHeap", "add", "(J)V"⟩ : MethodName)) (z := (⟨"com/example/eunomia/eunomia/sticky/LongHeap", "add", "(J)V"⟩ : MethodName)) hown (mvT hZ (hw _ (List.mem_of_getElem? (i := 26) rfl))) (mvT hZ (hw _ (List.mem_of_getElem? (i := 27) rfl))) (notFace_of_selects (args := #[]) (mvT hZ (hw _ (List.mem_of_getElem? (i := 29) rfl)))) (mvT hZ (hw _ (List.mem_of_getElem? (i := 29) rfl))) (mvT hZ (hw _ (List.mem_of_getElem? (i := 28) rfl))) (by decide) (backOf (W := 0) (rm6_0 l Z a0 hw [] b2 q3 b_29 kb_29 z_29 (0 : Int64) (0 : Int64) (0 : Int64) (0 : Int64) T4.heap n0 (Nat.le_trans Z0 K4.1) p4_0 gg2 gg4_b_29 (Ne.symm ne4_b2_b_29) p4_1 p4_2 p4_4 (by omega)) hZ (hw _ (List.mem_of_getElem? (i := 30) rfl)) (hw _ (List.mem_of_getElem? (i := 6) rfl)) (by decide) (by decide)) qa61 qc61 (g := (mkF m 50 #[.val (.int p1), .val (.int p2), .val (.long q3), .second, .val (.long q4), .second, .val (.long q5), .second, .val (.int v4), .val (.int (3 : Int32)), .val (.int (2 : Int32)), .val (.ref b2), .val (.int (1 : Int32))] [(.long q3), (.ref b2)])) rfl (by rw [hml]; rfl) (Steps.refl _) (argsL := [(.long q3)]) (rest := []) (lenOf pd_2 rfl) rfl (by show 2 * 0 + _ ≤ _; exact Nat.le_of_eq rfl) (hb hby at_50) (fun _ _ => ⟨rfl, hh6, (by decide : 2 + 0 ≤ _), (by decide : 9 + 0 ≤ _)⟩)
      dsimp only [Pt.U, Pt.locs, Pt.cells, Pt.slots] at X61 zl61 zy61 zz61 st61 hQ61
      subst zl61 zy61 zz61
      obtain ⟨b_50, kb_50, zz_50, wa_50, wb_50, wc_50, wd_50, rfl, Nq61, Kq61, p61_0, p61_1, p61_2, p61_3, p61_4, p61_5, p61_6⟩ := hQ61
      have N61 := Fr.app N6 Nq61
      refine GoW.st (fun t k => st61.trans k) ?_
      have K61 : Keep h0 T61.heap [] := K4.trans Kq61 (allS (Or.inr sz2) (allS (Or.inr sz4_b_29) all0))
      have hzz_50 := p61_6
      show GoW p e below QQ (T61.setTop (mkF m 53 #[.val (.int p1), .val (.int p2), .val (.long q3), .second, .val (.long q4), .second, .val (.long q5), .second, .val (.int v4), .val (.int (3 : Int32)), .val (.int (2 : Int32)), .val (.ref b2), .val (.int (1 : Int32))] []))
      refine GoW.st (fun t k => XS.iload X61.here hx rfl (hb hby at_53) rfl (XS.iconst X61.here hx rfl (hb hby at_55) k)) ?_
      show GoW p e below QQ (T61.setTop (mkF m 56 #[.val (.int p1), .val (.int p2), .val (.long q3), .second, .val (.long q4), .second, .val (.long q5), .second, .val (.int v4), .val (.int (3 : Int32)), .val (.int (2 : Int32)), .val (.ref b2), .val (.int (1 : Int32))] [(.int (2 : Int32)), (.int (3 : Int32))]))
      have hc56 : ¬ ((3 : Int32) < (2 : Int32)) := by decide
      refine GoW.st (fun t k => XS.icmpNo X61.here hx rfl (hb hby at_56) rfl (flt hc56).1 (XS.aload X61.here hx rfl (hb hby at_59) rfl rfl (XS.lload X61.here hx rfl (hb hby at_61) rfl k))) ?_
      show GoW p e below QQ (T61.setTop (mkF m 63 #[.val (.int p1), .val (.int p2), .val (.long q3), .second, .val (.long q4), .second, .val (.long q5), .second, .val (.int v4), .val (.int (3 : Int32)), .val (.int (2 : Int32)), .val (.ref b2), .val (.int (1 : Int32))] [(.long q4), (.ref b2)]))
      obtain ⟨cq63, kq63, qa63, qb63, qc63⟩ := isOf hZ rfl p61_0
      obtain ⟨_, _, ⟨T63, zL63, zk63, zn63⟩, -, X63, ⟨Lc63, hQ63, zl63, zy63, zz63⟩, st63⟩ := X61.virtualBack hx (y := (⟨"com/example/eunomia/eunomia/sticky/LongHeap", "add", "(J)V"⟩ : MethodName)) (z := (⟨"com/example/eunomia/eunomia/sticky/LongHeap", "add", "(J)V"⟩ : MethodName)) hown (mvT hZ (hw _ (List.mem_of_getElem? (i := 26) rfl))) (mvT hZ (hw _ (List.mem_of_getElem? (i := 27) rfl))) (notFace_of_selects (args := #[]) (mvT hZ (hw _ (List.mem_of_getElem? (i := 29) rfl)))) (mvT hZ (hw _ (List.mem_of_getElem? (i := 29) rfl))) (mvT hZ (hw _ (List.mem_of_getElem? (i := 28) rfl))) (by decide) (backOf (W := 0) (rm6_1 l Z a0 hw [] b2 q4 b_50 kb_50 zz_50 wa_50 wb_50 wc_50 wd_50 T61.heap n0 (Nat.le_trans Z0 K61.1) p61_0 gg2 p61_3 p61_4 p61_1 p61_2 p61_5 (by omega)) hZ (hw _ (List.mem_of_getElem? (i := 30) rfl)) (hw _ (List.mem_of_getElem? (i := 6) rfl)) (by decide) (by decide)) qa63 qc63 (g := (mkF m 63 #[.val (.int p1), .val (.int p2), .val (.long q3), .second, .val (.long q4), .second, .val (.long q5), .second, .val (.int v4), .val (.int (3 : Int32)), .val (.int (2 : Int32)), .val (.ref b2), .val (.int (1 : Int32))] [(.long q4), (.ref b2)])) rfl (by rw [hml]; rfl) (Steps.refl _) (argsL := [(.long q4)]) (rest := []) (lenOf pd_2 rfl) rfl (by show 2 * 0 + _ ≤ _; exact Nat.le_of_eq rfl) (hb hby at_63) (fun _ _ => ⟨rfl, rfl, (by decide : 2 + 1 ≤ _), (by decide : 9 + 2 ≤ _)⟩)
      dsimp only [Pt.U, Pt.locs, Pt.cells, Pt.slots] at X63 zl63 zy63 zz63 st63 hQ63
      subst zl63 zy63 zz63
      obtain ⟨b_63, kb_63, zz_63, wa_63, wb_63, wc_63, wd_63, rfl, Nq63, Kq63, p63_0, p63_1, p63_2, p63_3, p63_4, p63_5, p63_6⟩ := hQ63
      have N63 := Fr.app N61 Nq63
      refine GoW.st (fun t k => st63.trans k) ?_
      have K63 : Keep h0 T63.heap [] := K61.trans Kq63 (allS (Or.inr sz2) (allS (Or.inr (Nat.le_trans Z1 p61_3)) all0))
      have hzz_63 := p63_6
      show GoW p e below QQ (T63.setTop (mkF m 66 #[.val (.int p1), .val (.int p2), .val (.long q3), .second, .val (.long q4), .second, .val (.long q5), .second, .val (.int v4), .val (.int (3 : Int32)), .val (.int (2 : Int32)), .val (.ref b2), .val (.int (1 : Int32))] []))
      refine GoW.st (fun t k => XS.iload X63.here hx rfl (hb hby at_66) rfl (XS.iconst X63.here hx rfl (hb hby at_68) k)) ?_
      show GoW p e below QQ (T63.setTop (mkF m 69 #[.val (.int p1), .val (.int p2), .val (.long q3), .second, .val (.long q4), .second, .val (.long q5), .second, .val (.int v4), .val (.int (3 : Int32)), .val (.int (2 : Int32)), .val (.ref b2), .val (.int (1 : Int32))] [(.int (3 : Int32)), (.int (3 : Int32))]))
      have hc69 : ¬ ((3 : Int32) < (3 : Int32)) := by decide
      refine GoW.st (fun t k => XS.icmpNo X63.here hx rfl (hb hby at_69) rfl (flt hc69).1 (XS.aload X63.here hx rfl (hb hby at_72) rfl rfl (XS.lload X63.here hx rfl (hb hby at_74) rfl k))) ?_
      show GoW p e below QQ (T63.setTop (mkF m 76 #[.val (.int p1), .val (.int p2), .val (.long q3), .second, .val (.long q4), .second, .val (.long q5), .second, .val (.int v4), .val (.int (3 : Int32)), .val (.int (2 : Int32)), .val (.ref b2), .val (.int (1 : Int32))] [(.long q5), (.ref b2)]))
      obtain ⟨cq65, kq65, qa65, qb65, qc65⟩ := isOf hZ rfl p63_0
      obtain ⟨_, _, ⟨T65, zL65, zk65, zn65⟩, -, X65, ⟨Lc65, hQ65, zl65, zy65, zz65⟩, st65⟩ := X63.virtualBack hx (y := (⟨"com/example/eunomia/eunomia/sticky/LongHeap", "add", "(J)V"⟩ : MethodName)) (z := (⟨"com/example/eunomia/eunomia/sticky/LongHeap", "add", "(J)V"⟩ : MethodName)) hown (mvT hZ (hw _ (List.mem_of_getElem? (i := 26) rfl))) (mvT hZ (hw _ (List.mem_of_getElem? (i := 27) rfl))) (notFace_of_selects (args := #[]) (mvT hZ (hw _ (List.mem_of_getElem? (i := 29) rfl)))) (mvT hZ (hw _ (List.mem_of_getElem? (i := 29) rfl))) (mvT hZ (hw _ (List.mem_of_getElem? (i := 28) rfl))) (by decide) (backOf (W := 0) (rm6_2 l Z a0 hw [] b2 q5 b_63 kb_63 zz_63 wa_63 wb_63 wc_63 wd_63 T63.heap n0 (Nat.le_trans Z0 K63.1) p63_0 gg2 p63_3 p63_4 p63_1 p63_2 p63_5 (by omega)) hZ (hw _ (List.mem_of_getElem? (i := 30) rfl)) (hw _ (List.mem_of_getElem? (i := 6) rfl)) (by decide) (by decide)) qa65 qc65 (g := (mkF m 76 #[.val (.int p1), .val (.int p2), .val (.long q3), .second, .val (.long q4), .second, .val (.long q5), .second, .val (.int v4), .val (.int (3 : Int32)), .val (.int (2 : Int32)), .val (.ref b2), .val (.int (1 : Int32))] [(.long q5), (.ref b2)])) rfl (by rw [hml]; rfl) (Steps.refl _) (argsL := [(.long q5)]) (rest := []) (lenOf pd_2 rfl) rfl (by show 2 * 0 + _ ≤ _; exact Nat.le_of_eq rfl) (hb hby at_76) (fun _ _ => ⟨rfl, rfl, (by decide : 3 + 1 ≤ _), (by decide : 11 + 4 ≤ _)⟩)
      dsimp only [Pt.U, Pt.locs, Pt.cells, Pt.slots] at X65 zl65 zy65 zz65 st65 hQ65
      subst zl65 zy65 zz65
      obtain ⟨b_76, kb_76, zz_76, wa_76, wb_76, wc_76, wd_76, rfl, Nq65, Kq65, p65_0, p65_1, p65_2, p65_3, p65_4, p65_5, p65_6⟩ := hQ65
      have N65 := Fr.app N63 Nq65
      refine GoW.st (fun t k => st65.trans k) ?_
      have K65 : Keep h0 T65.heap [] := K63.trans Kq65 (allS (Or.inr sz2) (allS (Or.inr (Nat.le_trans Z1 p63_3)) all0))
      have hzz_76 := p65_6
      show GoW p e below QQ (T65.setTop (mkF m 79 #[.val (.int p1), .val (.int p2), .val (.long q3), .second, .val (.long q4), .second, .val (.long q5), .second, .val (.int v4), .val (.int (3 : Int32)), .val (.int (2 : Int32)), .val (.ref b2), .val (.int (1 : Int32))] []))
      refine GoW.st (fun t k => XS.iload X65.here hx rfl (hb hby at_79) rfl k) ?_
      show GoW p e below QQ (T65.setTop (mkF m 81 #[.val (.int p1), .val (.int p2), .val (.long q3), .second, .val (.long q4), .second, .val (.long q5), .second, .val (.int v4), .val (.int (3 : Int32)), .val (.int (2 : Int32)), .val (.ref b2), .val (.int (1 : Int32))] [(.int (1 : Int32))]))
      have hc81 : ¬ ((1 : Int32) = (0 : Int32)) := by decide
      refine GoW.st (fun t k => XS.ifNo X65.here hx rfl (hb hby at_81) rfl ((if0 _ _).trans (feq hc81).1) (XS.aload X65.here hx rfl (hb hby at_84) rfl rfl k)) ?_
      show GoW p e below QQ (T65.setTop (mkF m 86 #[.val (.int p1), .val (.int p2), .val (.long q3), .second, .val (.long q4), .second, .val (.long q5), .second, .val (.int v4), .val (.int (3 : Int32)), .val (.int (2 : Int32)), .val (.ref b2), .val (.int (1 : Int32))] [(.ref b2)]))
      obtain ⟨cq67, kq67, qa67, qb67, qc67⟩ := isOf hZ rfl p65_0
      obtain ⟨_, _, ⟨T67, zL67, zk67, zn67⟩, -, X67, ⟨Lc67, hQ67, zl67, zy67, zz67⟩, st67⟩ := X65.virtualBack hx (y := (⟨"com/example/eunomia/eunomia/sticky/LongHeap", "isEmpty", "()Z"⟩ : MethodName)) (z := (⟨"com/example/eunomia/eunomia/sticky/LongHeap", "isEmpty", "()Z"⟩ : MethodName)) hown (mvT hZ (hw _ (List.mem_of_getElem? (i := 19) rfl))) (mvT hZ (hw _ (List.mem_of_getElem? (i := 20) rfl))) (notFace_of_selects (args := #[]) (mvT hZ (hw _ (List.mem_of_getElem? (i := 22) rfl)))) (mvT hZ (hw _ (List.mem_of_getElem? (i := 22) rfl))) (mvT hZ (hw _ (List.mem_of_getElem? (i := 21) rfl))) (by decide) (backOf (W := 0) (rm5_3 l Z a0 hw [] b2 T65.heap n0 (Nat.le_trans Z0 K65.1) p65_2) hZ (hw _ (List.mem_of_getElem? (i := 23) rfl)) (hw _ (List.mem_of_getElem? (i := 6) rfl)) (by decide) (by decide)) qa67 qc67 (g := (mkF m 86 #[.val (.int p1), .val (.int p2), .val (.long q3), .second, .val (.long q4), .second, .val (.long q5), .second, .val (.int v4), .val (.int (3 : Int32)), .val (.int (2 : Int32)), .val (.ref b2), .val (.int (1 : Int32))] [(.ref b2)])) rfl (by rw [hml]; rfl) (Steps.refl _) (argsL := []) (rest := []) (lenOf pd_4 rfl) rfl (by show 2 * 0 + _ ≤ _; exact Nat.le_of_eq rfl) (hb hby at_86) (fun _ _ => ⟨rfl, rfl, (by decide : 4 + 0 ≤ _), (by decide : 15 + 0 ≤ _)⟩)
      dsimp only [Pt.U, Pt.locs, Pt.cells, Pt.slots] at X67 zl67 zy67 zz67 st67 hQ67
      subst zl67 zy67 zz67
      obtain ⟨rfl, Nq67, hh67⟩ := hQ67
      have N67 := Fr.app N65 Nq67
      refine GoW.st (fun t k => st67.trans k) ?_
      show GoW p e below QQ (T67.setTop (mkF m 89 #[.val (.int p1), .val (.int p2), .val (.long q3), .second, .val (.long q4), .second, .val (.long q5), .second, .val (.int v4), .val (.int (3 : Int32)), .val (.int (2 : Int32)), .val (.ref b2), .val (.int (1 : Int32))] [(.int (0 : Int32))]))
      refine GoW.st (fun t k => XS.iload X67.here hx rfl (hb hby at_89) rfl k) ?_
      show GoW p e below QQ (T67.setTop (mkF m 91 #[.val (.int p1), .val (.int p2), .val (.long q3), .second, .val (.long q4), .second, .val (.long q5), .second, .val (.int v4), .val (.int (3 : Int32)), .val (.int (2 : Int32)), .val (.ref b2), .val (.int (1 : Int32))] [(.int (3 : Int32)), (.int (0 : Int32))]))
      have hc91 : ¬ ((3 : Int32) = (0 : Int32)) := by decide
      refine GoW.st (fun t k => XS.ifYes X67.here hx rfl (pc0 := 91) (pc' := 98) rfl (hb hby at_91) rfl ((if0 _ _).trans (feq hc91).2) (by decide) (by decide) (XS.iconst X67.here hx rfl (hb hby at_98) k)) ?_
      show GoW p e below QQ (T67.setTop (mkF m 99 #[.val (.int p1), .val (.int p2), .val (.long q3), .second, .val (.long q4), .second, .val (.long q5), .second, .val (.int v4), .val (.int (3 : Int32)), .val (.int (2 : Int32)), .val (.ref b2), .val (.int (1 : Int32))] [(.int (0 : Int32)), (.int (0 : Int32))]))
      have hc99 : (0 : Int32) = (0 : Int32) := by decide
      refine GoW.st (fun t k => XS.icmpNo X67.here hx rfl (hb hby at_99) rfl (teq hc99).2 (XS.iconst X67.here hx rfl (hb hby at_102) (XS.goto X67.here hx rfl (pc0 := 103) (pc' := 107) rfl (hb hby at_103) (by decide) (by decide) (XS.istore X67.here hx rfl (hb hby at_107) rfl (l' := #[.val (.int p1), .val (.int p2), .val (.long q3), .second, .val (.long q4), .second, .val (.long q5), .second, .val (.int v4), .val (.int (3 : Int32)), .val (.int (2 : Int32)), .val (.ref b2), .val (.int (1 : Int32))]) rfl (XS.iload X67.here hx rfl (hb hby at_109) rfl (XS.iconst X67.here hx rfl (hb hby at_111) k)))))) ?_
      show GoW p e below QQ (T67.setTop (mkF m 112 #[.val (.int p1), .val (.int p2), .val (.long q3), .second, .val (.long q4), .second, .val (.long q5), .second, .val (.int v4), .val (.int (3 : Int32)), .val (.int (2 : Int32)), .val (.ref b2), .val (.int (1 : Int32))] [(.int (1 : Int32)), (.int (2 : Int32))]))
      have hc112 : ¬ ((2 : Int32) < (1 : Int32)) := by decide
      refine GoW.st (fun t k => XS.icmpNo X67.here hx rfl (hb hby at_112) rfl (flt hc112).1 (XS.aload X67.here hx rfl (hb hby at_115) rfl rfl k)) ?_
      show GoW p e below QQ (T67.setTop (mkF m 117 #[.val (.int p1), .val (.int p2), .val (.long q3), .second, .val (.long q4), .second, .val (.long q5), .second, .val (.int v4), .val (.int (3 : Int32)), .val (.int (2 : Int32)), .val (.ref b2), .val (.int (1 : Int32))] [(.ref b2)]))
      obtain ⟨cq68, kq68, qa68, qb68, qc68⟩ := isOf hZ hh67 p65_0
      obtain ⟨_, _, ⟨T68, zL68, zk68, zn68⟩, -, X68, ⟨Lc68, hQ68, zl68, zy68, zz68⟩, st68⟩ := X67.virtualBack hx (y := (⟨"com/example/eunomia/eunomia/sticky/LongHeap", "remove", "()V"⟩ : MethodName)) (z := (⟨"com/example/eunomia/eunomia/sticky/LongHeap", "remove", "()V"⟩ : MethodName)) hown (mvT hZ (hw _ (List.mem_of_getElem? (i := 40) rfl))) (mvT hZ (hw _ (List.mem_of_getElem? (i := 41) rfl))) (notFace_of_selects (args := #[]) (mvT hZ (hw _ (List.mem_of_getElem? (i := 43) rfl)))) (mvT hZ (hw _ (List.mem_of_getElem? (i := 43) rfl))) (mvT hZ (hw _ (List.mem_of_getElem? (i := 42) rfl))) (by decide) (backOf (W := 0) (rm8_3 l Z a0 hw [] b2 b_76 kb_76 zz_76 wa_76 wb_76 wc_76 wd_76 T65.heap n0 (Nat.le_trans Z0 K65.1) p65_0 gg2 p65_3 p65_4 p65_1 p65_2 p65_5 (by omega)) hZ (hw _ (List.mem_of_getElem? (i := 44) rfl)) (hw _ (List.mem_of_getElem? (i := 6) rfl)) (by decide) (by decide)) qa68 qc68 (g := (mkF m 117 #[.val (.int p1), .val (.int p2), .val (.long q3), .second, .val (.long q4), .second, .val (.long q5), .second, .val (.int v4), .val (.int (3 : Int32)), .val (.int (2 : Int32)), .val (.ref b2), .val (.int (1 : Int32))] [(.ref b2)])) rfl (by rw [hml]; rfl) (Steps.refl _) (argsL := []) (rest := []) (lenOf pd_5 rfl) rfl (by show 2 * 0 + _ ≤ _; exact Nat.le_of_eq rfl) (hb hby at_117) (fun _ _ => ⟨rfl, hh67, (by decide : 4 + 0 ≤ _), (by decide : 15 + 0 ≤ _)⟩)
      dsimp only [Pt.U, Pt.locs, Pt.cells, Pt.slots] at X68 zl68 zy68 zz68 st68 hQ68
      subst zl68 zy68 zz68
      obtain ⟨wa_117, wb_117, wc_117, wd_117, rfl, Nq68, Kq68, p68_0, p68_1, p68_2, p68_3⟩ := hQ68
      have N68 := Fr.app N67 Nq68
      refine GoW.st (fun t k => st68.trans k) ?_
      have K68 : Keep h0 T68.heap [] := K65.trans Kq68 (allS (Or.inr sz2) (allS (Or.inr (Nat.le_trans Z1 p65_3)) all0))
      show GoW p e below QQ (T68.setTop (mkF m 120 #[.val (.int p1), .val (.int p2), .val (.long q3), .second, .val (.long q4), .second, .val (.long q5), .second, .val (.int v4), .val (.int (3 : Int32)), .val (.int (2 : Int32)), .val (.ref b2), .val (.int (1 : Int32))] []))
      refine GoW.st (fun t k => XS.iload X68.here hx rfl (hb hby at_120) rfl (XS.iconst X68.here hx rfl (hb hby at_122) k)) ?_
      show GoW p e below QQ (T68.setTop (mkF m 123 #[.val (.int p1), .val (.int p2), .val (.long q3), .second, .val (.long q4), .second, .val (.long q5), .second, .val (.int v4), .val (.int (3 : Int32)), .val (.int (2 : Int32)), .val (.ref b2), .val (.int (1 : Int32))] [(.int (2 : Int32)), (.int (2 : Int32))]))
      have hc123 : ¬ ((2 : Int32) < (2 : Int32)) := by decide
      refine GoW.st (fun t k => XS.icmpNo X68.here hx rfl (hb hby at_123) rfl (flt hc123).1 (XS.aload X68.here hx rfl (hb hby at_126) rfl rfl k)) ?_
      show GoW p e below QQ (T68.setTop (mkF m 128 #[.val (.int p1), .val (.int p2), .val (.long q3), .second, .val (.long q4), .second, .val (.long q5), .second, .val (.int v4), .val (.int (3 : Int32)), .val (.int (2 : Int32)), .val (.ref b2), .val (.int (1 : Int32))] [(.ref b2)]))
      obtain ⟨cq70, kq70, qa70, qb70, qc70⟩ := isOf hZ rfl p68_0
      obtain ⟨_, _, ⟨T70, zL70, zk70, zn70⟩, -, X70, ⟨Lc70, hQ70, zl70, zy70, zz70⟩, st70⟩ := X68.virtualBack hx (y := (⟨"com/example/eunomia/eunomia/sticky/LongHeap", "remove", "()V"⟩ : MethodName)) (z := (⟨"com/example/eunomia/eunomia/sticky/LongHeap", "remove", "()V"⟩ : MethodName)) hown (mvT hZ (hw _ (List.mem_of_getElem? (i := 40) rfl))) (mvT hZ (hw _ (List.mem_of_getElem? (i := 41) rfl))) (notFace_of_selects (args := #[]) (mvT hZ (hw _ (List.mem_of_getElem? (i := 43) rfl)))) (mvT hZ (hw _ (List.mem_of_getElem? (i := 43) rfl))) (mvT hZ (hw _ (List.mem_of_getElem? (i := 42) rfl))) (by decide) (backOf (W := 0) (rm8_2 l Z a0 hw [] b2 b_76 kb_76 zz_76 wa_117 wb_117 wc_117 wd_117 T68.heap n0 (Nat.le_trans Z0 K68.1) p68_0 gg2 p65_3 p65_4 p68_1 p68_2 p68_3 (by omega)) hZ (hw _ (List.mem_of_getElem? (i := 44) rfl)) (hw _ (List.mem_of_getElem? (i := 6) rfl)) (by decide) (by decide)) qa70 qc70 (g := (mkF m 128 #[.val (.int p1), .val (.int p2), .val (.long q3), .second, .val (.long q4), .second, .val (.long q5), .second, .val (.int v4), .val (.int (3 : Int32)), .val (.int (2 : Int32)), .val (.ref b2), .val (.int (1 : Int32))] [(.ref b2)])) rfl (by rw [hml]; rfl) (Steps.refl _) (argsL := []) (rest := []) (lenOf pd_5 rfl) rfl (by show 2 * 0 + _ ≤ _; exact Nat.le_of_eq rfl) (hb hby at_128) (fun _ _ => ⟨rfl, rfl, (by decide : 4 + 0 ≤ _), (by decide : 15 + 0 ≤ _)⟩)
      dsimp only [Pt.U, Pt.locs, Pt.cells, Pt.slots] at X70 zl70 zy70 zz70 st70 hQ70
      subst zl70 zy70 zz70
      obtain ⟨wa_128, wb_128, wc_128, wd_128, rfl, Nq70, Kq70, p70_0, p70_1, p70_2, p70_3⟩ := hQ70
      have N70 := Fr.app N68 Nq70
      refine GoW.st (fun t k => st70.trans k) ?_
      have K70 : Keep h0 T70.heap [] := K68.trans Kq70 (allS (Or.inr sz2) (allS (Or.inr (Nat.le_trans Z1 p65_3)) all0))
      show GoW p e below QQ (T70.setTop (mkF m 131 #[.val (.int p1), .val (.int p2), .val (.long q3), .second, .val (.long q4), .second, .val (.long q5), .second, .val (.int v4), .val (.int (3 : Int32)), .val (.int (2 : Int32)), .val (.ref b2), .val (.int (1 : Int32))] []))
      refine GoW.st (fun t k => XS.iload X70.here hx rfl (hb hby at_131) rfl (XS.iconst X70.here hx rfl (hb hby at_133) k)) ?_
      show GoW p e below QQ (T70.setTop (mkF m 134 #[.val (.int p1), .val (.int p2), .val (.long q3), .second, .val (.long q4), .second, .val (.long q5), .second, .val (.int v4), .val (.int (3 : Int32)), .val (.int (2 : Int32)), .val (.ref b2), .val (.int (1 : Int32))] [(.int (3 : Int32)), (.int (2 : Int32))]))
      have hc134 : (2 : Int32) < (3 : Int32) := by decide
      refine GoW.st (fun t k => XS.icmpYes X70.here hx rfl (pc0 := 134) (pc' := 142) rfl (hb hby at_134) rfl (tlt hc134).1 (by decide) (by decide) (XS.iload X70.here hx rfl (hb hby at_142) rfl k)) ?_
      show GoW p e below QQ (T70.setTop (mkF m 144 #[.val (.int p1), .val (.int p2), .val (.long q3), .second, .val (.long q4), .second, .val (.long q5), .second, .val (.int v4), .val (.int (3 : Int32)), .val (.int (2 : Int32)), .val (.ref b2), .val (.int (1 : Int32))] [(.int (1 : Int32))]))
      have hc144 : ¬ ((1 : Int32) = (0 : Int32)) := by decide
      refine GoW.st (fun t k => XS.ifNo X70.here hx rfl (hb hby at_144) rfl ((if0 _ _).trans (feq hc144).1) (XS.aload X70.here hx rfl (hb hby at_147) rfl rfl k)) ?_
      show GoW p e below QQ (T70.setTop (mkF m 149 #[.val (.int p1), .val (.int p2), .val (.long q3), .second, .val (.long q4), .second, .val (.long q5), .second, .val (.int v4), .val (.int (3 : Int32)), .val (.int (2 : Int32)), .val (.ref b2), .val (.int (1 : Int32))] [(.ref b2)]))
      obtain ⟨cq72, kq72, qa72, qb72, qc72⟩ := isOf hZ rfl p70_0
      obtain ⟨_, _, ⟨T72, zL72, zk72, zn72⟩, -, X72, ⟨Lc72, hQ72, zl72, zy72, zz72⟩, st72⟩ := X70.virtualBack hx (y := (⟨"com/example/eunomia/eunomia/sticky/LongHeap", "isEmpty", "()Z"⟩ : MethodName)) (z := (⟨"com/example/eunomia/eunomia/sticky/LongHeap", "isEmpty", "()Z"⟩ : MethodName)) hown (mvT hZ (hw _ (List.mem_of_getElem? (i := 19) rfl))) (mvT hZ (hw _ (List.mem_of_getElem? (i := 20) rfl))) (notFace_of_selects (args := #[]) (mvT hZ (hw _ (List.mem_of_getElem? (i := 22) rfl)))) (mvT hZ (hw _ (List.mem_of_getElem? (i := 22) rfl))) (mvT hZ (hw _ (List.mem_of_getElem? (i := 21) rfl))) (by decide) (backOf (W := 0) (rm5_1 l Z a0 hw [] b2 T70.heap n0 (Nat.le_trans Z0 K70.1) p70_2) hZ (hw _ (List.mem_of_getElem? (i := 23) rfl)) (hw _ (List.mem_of_getElem? (i := 6) rfl)) (by decide) (by decide)) qa72 qc72 (g := (mkF m 149 #[.val (.int p1), .val (.int p2), .val (.long q3), .second, .val (.long q4), .second, .val (.long q5), .second, .val (.int v4), .val (.int (3 : Int32)), .val (.int (2 : Int32)), .val (.ref b2), .val (.int (1 : Int32))] [(.ref b2)])) rfl (by rw [hml]; rfl) (Steps.refl _) (argsL := []) (rest := []) (lenOf pd_4 rfl) rfl (by show 2 * 0 + _ ≤ _; exact Nat.le_of_eq rfl) (hb hby at_149) (fun _ _ => ⟨rfl, rfl, (by decide : 4 + 0 ≤ _), (by decide : 15 + 0 ≤ _)⟩)
      dsimp only [Pt.U, Pt.locs, Pt.cells, Pt.slots] at X72 zl72 zy72 zz72 st72 hQ72
      subst zl72 zy72 zz72
      obtain ⟨rfl, Nq72, hh72⟩ := hQ72
      have N72 := Fr.app N70 Nq72
      refine GoW.st (fun t k => st72.trans k) ?_
      show GoW p e below QQ (T72.setTop (mkF m 152 #[.val (.int p1), .val (.int p2), .val (.long q3), .second, .val (.long q4), .second, .val (.long q5), .second, .val (.int v4), .val (.int (3 : Int32)), .val (.int (2 : Int32)), .val (.ref b2), .val (.int (1 : Int32))] [(.int (0 : Int32))]))
      refine GoW.st (fun t k => XS.iload X72.here hx rfl (hb hby at_152) rfl (XS.iload X72.here hx rfl (hb hby at_154) rfl (XS.isub X72.here hx rfl (hb hby at_156) rfl k))) ?_
      show GoW p e below QQ (T72.setTop (mkF m 157 #[.val (.int p1), .val (.int p2), .val (.long q3), .second, .val (.long q4), .second, .val (.long q5), .second, .val (.int v4), .val (.int (3 : Int32)), .val (.int (2 : Int32)), .val (.ref b2), .val (.int (1 : Int32))] [(.int (1 : Int32)), (.int (0 : Int32))]))
      have hc157 : ¬ ((1 : Int32) = (0 : Int32)) := by decide
      refine GoW.st (fun t k => XS.ifYes X72.here hx rfl (pc0 := 157) (pc' := 164) rfl (hb hby at_157) rfl ((if0 _ _).trans (feq hc157).2) (by decide) (by decide) (XS.iconst X72.here hx rfl (hb hby at_164) k)) ?_
      show GoW p e below QQ (T72.setTop (mkF m 165 #[.val (.int p1), .val (.int p2), .val (.long q3), .second, .val (.long q4), .second, .val (.long q5), .second, .val (.int v4), .val (.int (3 : Int32)), .val (.int (2 : Int32)), .val (.ref b2), .val (.int (1 : Int32))] [(.int (0 : Int32)), (.int (0 : Int32))]))
      have hc165 : (0 : Int32) = (0 : Int32) := by decide
      refine GoW.st (fun t k => XS.icmpNo X72.here hx rfl (hb hby at_165) rfl (teq hc165).2 (XS.iconst X72.here hx rfl (hb hby at_168) (XS.goto X72.here hx rfl (pc0 := 169) (pc' := 173) rfl (hb hby at_169) (by decide) (by decide) (XS.istore X72.here hx rfl (hb hby at_173) rfl (l' := #[.val (.int p1), .val (.int p2), .val (.long q3), .second, .val (.long q4), .second, .val (.long q5), .second, .val (.int v4), .val (.int (3 : Int32)), .val (.int (2 : Int32)), .val (.ref b2), .val (.int (1 : Int32))]) rfl (XS.iload X72.here hx rfl (hb hby at_175) rfl k))))) ?_
      show GoW p e below QQ (T72.setTop (mkF m 177 #[.val (.int p1), .val (.int p2), .val (.long q3), .second, .val (.long q4), .second, .val (.long q5), .second, .val (.int v4), .val (.int (3 : Int32)), .val (.int (2 : Int32)), .val (.ref b2), .val (.int (1 : Int32))] [(.int (1 : Int32))]))
      exact GoW.fin X72 (some (.int (nar .boolean (1 : Int32)))) (fun q => by rw [hret] at q; cases q) hlk hQ hh72 ⟨rfl, N72⟩ (by decide) (by decide) (fun fs hr => retN X72 hx (t := .boolean) hret (by simp) (hb hby at_177) hr)
    · skip
      show GoW p e below QQ (T6.setTop (mkF m 43 #[.val (.int p1), .val (.int p2), .val (.long q3), .second, .val (.long q4), .second, .val (.long q5), .second, .val (.int v4), .val (.int (3 : Int32)), .val (.int (3 : Int32)), .val (.ref b2), .val (.int (1 : Int32))] [(.int (3 : Int32))]))
      refine GoW.st (fun t k => XS.iconst X6.here hx rfl (hb hby at_43) k) ?_
      show GoW p e below QQ (T6.setTop (mkF m 44 #[.val (.int p1), .val (.int p2), .val (.long q3), .second, .val (.long q4), .second, .val (.long q5), .second, .val (.int v4), .val (.int (3 : Int32)), .val (.int (3 : Int32)), .val (.ref b2), .val (.int (1 : Int32))] [(.int (1 : Int32)), (.int (3 : Int32))]))
      have hc44 : ¬ ((3 : Int32) < (1 : Int32)) := by decide
      refine GoW.st (fun t k => XS.icmpNo X6.here hx rfl (hb hby at_44) rfl (flt hc44).1 (XS.aload X6.here hx rfl (hb hby at_47) rfl rfl (XS.lloadN X6.here hx rfl (hb hby at_49) rfl k))) ?_
      show GoW p e below QQ (T6.setTop (mkF m 50 #[.val (.int p1), .val (.int p2), .val (.long q3), .second, .val (.long q4), .second, .val (.long q5), .second, .val (.int v4), .val (.int (3 : Int32)), .val (.int (3 : Int32)), .val (.ref b2), .val (.int (1 : Int32))] [(.long q3), (.ref b2)]))
      obtain ⟨cq73, kq73, qa73, qb73, qc73⟩ := isOf hZ hh6 p4_0
      obtain ⟨_, _, ⟨T73, zL73, zk73, zn73⟩, -, X73, ⟨Lc73, hQ73, zl73, zy73, zz73⟩, st73⟩ := X6.virtualBack hx (y := (⟨"com/example/eunomia/eunomia/sticky/LongHeap", "add", "(J)V"⟩ : MethodName)) (z := (⟨"com/example/eunomia/eunomia/sticky/LongHeap", "add", "(J)V"⟩ : MethodName)) hown (mvT hZ (hw _ (List.mem_of_getElem? (i := 26) rfl))) (mvT hZ (hw _ (List.mem_of_getElem? (i := 27) rfl))) (notFace_of_selects (args := #[]) (mvT hZ (hw _ (List.mem_of_getElem? (i := 29) rfl)))) (mvT hZ (hw _ (List.mem_of_getElem? (i := 29) rfl))) (mvT hZ (hw _ (List.mem_of_getElem? (i := 28) rfl))) (by decide) (backOf (W := 0) (rm6_0 l Z a0 hw [] b2 q3 b_29 kb_29 z_29 (0 : Int64) (0 : Int64) (0 : Int64) (0 : Int64) T4.heap n0 (Nat.le_trans Z0 K4.1) p4_0 gg2 gg4_b_29 (Ne.symm ne4_b2_b_29) p4_1 p4_2 p4_4 (by omega)) hZ (hw _ (List.mem_of_getElem? (i := 30) rfl)) (hw _ (List.mem_of_getElem? (i := 6) rfl)) (by decide) (by decide)) qa73 qc73 (g := (mkF m 50 #[.val (.int p1), .val (.int p2), .val (.long q3), .second, .val (.long q4), .second, .val (.long q5), .second, .val (.int v4), .val (.int (3 : Int32)), .val (.int (3 : Int32)), .val (.ref b2), .val (.int (1 : Int32))] [(.long q3), (.ref b2)])) rfl (by rw [hml]; rfl) (Steps.refl _) (argsL := [(.long q3)]) (rest := []) (lenOf pd_2 rfl) rfl (by show 2 * 0 + _ ≤ _; exact Nat.le_of_eq rfl) (hb hby at_50) (fun _ _ => ⟨rfl, hh6, (by decide : 2 + 0 ≤ _), (by decide : 9 + 0 ≤ _)⟩)
      dsimp only [Pt.U, Pt.locs, Pt.cells, Pt.slots] at X73 zl73 zy73 zz73 st73 hQ73
      subst zl73 zy73 zz73
      obtain ⟨b_50, kb_50, zz_50, wa_50, wb_50, wc_50, wd_50, rfl, Nq73, Kq73, p73_0, p73_1, p73_2, p73_3, p73_4, p73_5, p73_6⟩ := hQ73
      have N73 := Fr.app N6 Nq73
      refine GoW.st (fun t k => st73.trans k) ?_
      have K73 : Keep h0 T73.heap [] := K4.trans Kq73 (allS (Or.inr sz2) (allS (Or.inr sz4_b_29) all0))
      have hzz_50 := p73_6
      show GoW p e below QQ (T73.setTop (mkF m 53 #[.val (.int p1), .val (.int p2), .val (.long q3), .second, .val (.long q4), .second, .val (.long q5), .second, .val (.int v4), .val (.int (3 : Int32)), .val (.int (3 : Int32)), .val (.ref b2), .val (.int (1 : Int32))] []))
      refine GoW.st (fun t k => XS.iload X73.here hx rfl (hb hby at_53) rfl (XS.iconst X73.here hx rfl (hb hby at_55) k)) ?_
      show GoW p e below QQ (T73.setTop (mkF m 56 #[.val (.int p1), .val (.int p2), .val (.long q3), .second, .val (.long q4), .second, .val (.long q5), .second, .val (.int v4), .val (.int (3 : Int32)), .val (.int (3 : Int32)), .val (.ref b2), .val (.int (1 : Int32))] [(.int (2 : Int32)), (.int (3 : Int32))]))
      have hc56 : ¬ ((3 : Int32) < (2 : Int32)) := by decide
      refine GoW.st (fun t k => XS.icmpNo X73.here hx rfl (hb hby at_56) rfl (flt hc56).1 (XS.aload X73.here hx rfl (hb hby at_59) rfl rfl (XS.lload X73.here hx rfl (hb hby at_61) rfl k))) ?_
      show GoW p e below QQ (T73.setTop (mkF m 63 #[.val (.int p1), .val (.int p2), .val (.long q3), .second, .val (.long q4), .second, .val (.long q5), .second, .val (.int v4), .val (.int (3 : Int32)), .val (.int (3 : Int32)), .val (.ref b2), .val (.int (1 : Int32))] [(.long q4), (.ref b2)]))
      obtain ⟨cq75, kq75, qa75, qb75, qc75⟩ := isOf hZ rfl p73_0
      obtain ⟨_, _, ⟨T75, zL75, zk75, zn75⟩, -, X75, ⟨Lc75, hQ75, zl75, zy75, zz75⟩, st75⟩ := X73.virtualBack hx (y := (⟨"com/example/eunomia/eunomia/sticky/LongHeap", "add", "(J)V"⟩ : MethodName)) (z := (⟨"com/example/eunomia/eunomia/sticky/LongHeap", "add", "(J)V"⟩ : MethodName)) hown (mvT hZ (hw _ (List.mem_of_getElem? (i := 26) rfl))) (mvT hZ (hw _ (List.mem_of_getElem? (i := 27) rfl))) (notFace_of_selects (args := #[]) (mvT hZ (hw _ (List.mem_of_getElem? (i := 29) rfl)))) (mvT hZ (hw _ (List.mem_of_getElem? (i := 29) rfl))) (mvT hZ (hw _ (List.mem_of_getElem? (i := 28) rfl))) (by decide) (backOf (W := 0) (rm6_1 l Z a0 hw [] b2 q4 b_50 kb_50 zz_50 wa_50 wb_50 wc_50 wd_50 T73.heap n0 (Nat.le_trans Z0 K73.1) p73_0 gg2 p73_3 p73_4 p73_1 p73_2 p73_5 (by omega)) hZ (hw _ (List.mem_of_getElem? (i := 30) rfl)) (hw _ (List.mem_of_getElem? (i := 6) rfl)) (by decide) (by decide)) qa75 qc75 (g := (mkF m 63 #[.val (.int p1), .val (.int p2), .val (.long q3), .second, .val (.long q4), .second, .val (.long q5), .second, .val (.int v4), .val (.int (3 : Int32)), .val (.int (3 : Int32)), .val (.ref b2), .val (.int (1 : Int32))] [(.long q4), (.ref b2)])) rfl (by rw [hml]; rfl) (Steps.refl _) (argsL := [(.long q4)]) (rest := []) (lenOf pd_2 rfl) rfl (by show 2 * 0 + _ ≤ _; exact Nat.le_of_eq rfl) (hb hby at_63) (fun _ _ => ⟨rfl, rfl, (by decide : 2 + 1 ≤ _), (by decide : 9 + 2 ≤ _)⟩)
      dsimp only [Pt.U, Pt.locs, Pt.cells, Pt.slots] at X75 zl75 zy75 zz75 st75 hQ75
      subst zl75 zy75 zz75
      obtain ⟨b_63, kb_63, zz_63, wa_63, wb_63, wc_63, wd_63, rfl, Nq75, Kq75, p75_0, p75_1, p75_2, p75_3, p75_4, p75_5, p75_6⟩ := hQ75
      have N75 := Fr.app N73 Nq75
      refine GoW.st (fun t k => st75.trans k) ?_
      have K75 : Keep h0 T75.heap [] := K73.trans Kq75 (allS (Or.inr sz2) (allS (Or.inr (Nat.le_trans Z1 p73_3)) all0))
      have hzz_63 := p75_6
      show GoW p e below QQ (T75.setTop (mkF m 66 #[.val (.int p1), .val (.int p2), .val (.long q3), .second, .val (.long q4), .second, .val (.long q5), .second, .val (.int v4), .val (.int (3 : Int32)), .val (.int (3 : Int32)), .val (.ref b2), .val (.int (1 : Int32))] []))
      refine GoW.st (fun t k => XS.iload X75.here hx rfl (hb hby at_66) rfl (XS.iconst X75.here hx rfl (hb hby at_68) k)) ?_
      show GoW p e below QQ (T75.setTop (mkF m 69 #[.val (.int p1), .val (.int p2), .val (.long q3), .second, .val (.long q4), .second, .val (.long q5), .second, .val (.int v4), .val (.int (3 : Int32)), .val (.int (3 : Int32)), .val (.ref b2), .val (.int (1 : Int32))] [(.int (3 : Int32)), (.int (3 : Int32))]))
      have hc69 : ¬ ((3 : Int32) < (3 : Int32)) := by decide
      refine GoW.st (fun t k => XS.icmpNo X75.here hx rfl (hb hby at_69) rfl (flt hc69).1 (XS.aload X75.here hx rfl (hb hby at_72) rfl rfl (XS.lload X75.here hx rfl (hb hby at_74) rfl k))) ?_
      show GoW p e below QQ (T75.setTop (mkF m 76 #[.val (.int p1), .val (.int p2), .val (.long q3), .second, .val (.long q4), .second, .val (.long q5), .second, .val (.int v4), .val (.int (3 : Int32)), .val (.int (3 : Int32)), .val (.ref b2), .val (.int (1 : Int32))] [(.long q5), (.ref b2)]))
      obtain ⟨cq77, kq77, qa77, qb77, qc77⟩ := isOf hZ rfl p75_0
      obtain ⟨_, _, ⟨T77, zL77, zk77, zn77⟩, -, X77, ⟨Lc77, hQ77, zl77, zy77, zz77⟩, st77⟩ := X75.virtualBack hx (y := (⟨"com/example/eunomia/eunomia/sticky/LongHeap", "add", "(J)V"⟩ : MethodName)) (z := (⟨"com/example/eunomia/eunomia/sticky/LongHeap", "add", "(J)V"⟩ : MethodName)) hown (mvT hZ (hw _ (List.mem_of_getElem? (i := 26) rfl))) (mvT hZ (hw _ (List.mem_of_getElem? (i := 27) rfl))) (notFace_of_selects (args := #[]) (mvT hZ (hw _ (List.mem_of_getElem? (i := 29) rfl)))) (mvT hZ (hw _ (List.mem_of_getElem? (i := 29) rfl))) (mvT hZ (hw _ (List.mem_of_getElem? (i := 28) rfl))) (by decide) (backOf (W := 0) (rm6_2 l Z a0 hw [] b2 q5 b_63 kb_63 zz_63 wa_63 wb_63 wc_63 wd_63 T75.heap n0 (Nat.le_trans Z0 K75.1) p75_0 gg2 p75_3 p75_4 p75_1 p75_2 p75_5 (by omega)) hZ (hw _ (List.mem_of_getElem? (i := 30) rfl)) (hw _ (List.mem_of_getElem? (i := 6) rfl)) (by decide) (by decide)) qa77 qc77 (g := (mkF m 76 #[.val (.int p1), .val (.int p2), .val (.long q3), .second, .val (.long q4), .second, .val (.long q5), .second, .val (.int v4), .val (.int (3 : Int32)), .val (.int (3 : Int32)), .val (.ref b2), .val (.int (1 : Int32))] [(.long q5), (.ref b2)])) rfl (by rw [hml]; rfl) (Steps.refl _) (argsL := [(.long q5)]) (rest := []) (lenOf pd_2 rfl) rfl (by show 2 * 0 + _ ≤ _; exact Nat.le_of_eq rfl) (hb hby at_76) (fun _ _ => ⟨rfl, rfl, (by decide : 3 + 1 ≤ _), (by decide : 11 + 4 ≤ _)⟩)
      dsimp only [Pt.U, Pt.locs, Pt.cells, Pt.slots] at X77 zl77 zy77 zz77 st77 hQ77
      subst zl77 zy77 zz77
      obtain ⟨b_76, kb_76, zz_76, wa_76, wb_76, wc_76, wd_76, rfl, Nq77, Kq77, p77_0, p77_1, p77_2, p77_3, p77_4, p77_5, p77_6⟩ := hQ77
      have N77 := Fr.app N75 Nq77
      refine GoW.st (fun t k => st77.trans k) ?_
      have K77 : Keep h0 T77.heap [] := K75.trans Kq77 (allS (Or.inr sz2) (allS (Or.inr (Nat.le_trans Z1 p75_3)) all0))
      have hzz_76 := p77_6
      show GoW p e below QQ (T77.setTop (mkF m 79 #[.val (.int p1), .val (.int p2), .val (.long q3), .second, .val (.long q4), .second, .val (.long q5), .second, .val (.int v4), .val (.int (3 : Int32)), .val (.int (3 : Int32)), .val (.ref b2), .val (.int (1 : Int32))] []))
      refine GoW.st (fun t k => XS.iload X77.here hx rfl (hb hby at_79) rfl k) ?_
      show GoW p e below QQ (T77.setTop (mkF m 81 #[.val (.int p1), .val (.int p2), .val (.long q3), .second, .val (.long q4), .second, .val (.long q5), .second, .val (.int v4), .val (.int (3 : Int32)), .val (.int (3 : Int32)), .val (.ref b2), .val (.int (1 : Int32))] [(.int (1 : Int32))]))
      have hc81 : ¬ ((1 : Int32) = (0 : Int32)) := by decide
      refine GoW.st (fun t k => XS.ifNo X77.here hx rfl (hb hby at_81) rfl ((if0 _ _).trans (feq hc81).1) (XS.aload X77.here hx rfl (hb hby at_84) rfl rfl k)) ?_
      show GoW p e below QQ (T77.setTop (mkF m 86 #[.val (.int p1), .val (.int p2), .val (.long q3), .second, .val (.long q4), .second, .val (.long q5), .second, .val (.int v4), .val (.int (3 : Int32)), .val (.int (3 : Int32)), .val (.ref b2), .val (.int (1 : Int32))] [(.ref b2)]))
      obtain ⟨cq79, kq79, qa79, qb79, qc79⟩ := isOf hZ rfl p77_0
      obtain ⟨_, _, ⟨T79, zL79, zk79, zn79⟩, -, X79, ⟨Lc79, hQ79, zl79, zy79, zz79⟩, st79⟩ := X77.virtualBack hx (y := (⟨"com/example/eunomia/eunomia/sticky/LongHeap", "isEmpty", "()Z"⟩ : MethodName)) (z := (⟨"com/example/eunomia/eunomia/sticky/LongHeap", "isEmpty", "()Z"⟩ : MethodName)) hown (mvT hZ (hw _ (List.mem_of_getElem? (i := 19) rfl))) (mvT hZ (hw _ (List.mem_of_getElem? (i := 20) rfl))) (notFace_of_selects (args := #[]) (mvT hZ (hw _ (List.mem_of_getElem? (i := 22) rfl)))) (mvT hZ (hw _ (List.mem_of_getElem? (i := 22) rfl))) (mvT hZ (hw _ (List.mem_of_getElem? (i := 21) rfl))) (by decide) (backOf (W := 0) (rm5_3 l Z a0 hw [] b2 T77.heap n0 (Nat.le_trans Z0 K77.1) p77_2) hZ (hw _ (List.mem_of_getElem? (i := 23) rfl)) (hw _ (List.mem_of_getElem? (i := 6) rfl)) (by decide) (by decide)) qa79 qc79 (g := (mkF m 86 #[.val (.int p1), .val (.int p2), .val (.long q3), .second, .val (.long q4), .second, .val (.long q5), .second, .val (.int v4), .val (.int (3 : Int32)), .val (.int (3 : Int32)), .val (.ref b2), .val (.int (1 : Int32))] [(.ref b2)])) rfl (by rw [hml]; rfl) (Steps.refl _) (argsL := []) (rest := []) (lenOf pd_4 rfl) rfl (by show 2 * 0 + _ ≤ _; exact Nat.le_of_eq rfl) (hb hby at_86) (fun _ _ => ⟨rfl, rfl, (by decide : 4 + 0 ≤ _), (by decide : 15 + 0 ≤ _)⟩)
      dsimp only [Pt.U, Pt.locs, Pt.cells, Pt.slots] at X79 zl79 zy79 zz79 st79 hQ79
      subst zl79 zy79 zz79
      obtain ⟨rfl, Nq79, hh79⟩ := hQ79
      have N79 := Fr.app N77 Nq79
      refine GoW.st (fun t k => st79.trans k) ?_
      show GoW p e below QQ (T79.setTop (mkF m 89 #[.val (.int p1), .val (.int p2), .val (.long q3), .second, .val (.long q4), .second, .val (.long q5), .second, .val (.int v4), .val (.int (3 : Int32)), .val (.int (3 : Int32)), .val (.ref b2), .val (.int (1 : Int32))] [(.int (0 : Int32))]))
      refine GoW.st (fun t k => XS.iload X79.here hx rfl (hb hby at_89) rfl k) ?_
      show GoW p e below QQ (T79.setTop (mkF m 91 #[.val (.int p1), .val (.int p2), .val (.long q3), .second, .val (.long q4), .second, .val (.long q5), .second, .val (.int v4), .val (.int (3 : Int32)), .val (.int (3 : Int32)), .val (.ref b2), .val (.int (1 : Int32))] [(.int (3 : Int32)), (.int (0 : Int32))]))
      have hc91 : ¬ ((3 : Int32) = (0 : Int32)) := by decide
      refine GoW.st (fun t k => XS.ifYes X79.here hx rfl (pc0 := 91) (pc' := 98) rfl (hb hby at_91) rfl ((if0 _ _).trans (feq hc91).2) (by decide) (by decide) (XS.iconst X79.here hx rfl (hb hby at_98) k)) ?_
      show GoW p e below QQ (T79.setTop (mkF m 99 #[.val (.int p1), .val (.int p2), .val (.long q3), .second, .val (.long q4), .second, .val (.long q5), .second, .val (.int v4), .val (.int (3 : Int32)), .val (.int (3 : Int32)), .val (.ref b2), .val (.int (1 : Int32))] [(.int (0 : Int32)), (.int (0 : Int32))]))
      have hc99 : (0 : Int32) = (0 : Int32) := by decide
      refine GoW.st (fun t k => XS.icmpNo X79.here hx rfl (hb hby at_99) rfl (teq hc99).2 (XS.iconst X79.here hx rfl (hb hby at_102) (XS.goto X79.here hx rfl (pc0 := 103) (pc' := 107) rfl (hb hby at_103) (by decide) (by decide) (XS.istore X79.here hx rfl (hb hby at_107) rfl (l' := #[.val (.int p1), .val (.int p2), .val (.long q3), .second, .val (.long q4), .second, .val (.long q5), .second, .val (.int v4), .val (.int (3 : Int32)), .val (.int (3 : Int32)), .val (.ref b2), .val (.int (1 : Int32))]) rfl (XS.iload X79.here hx rfl (hb hby at_109) rfl (XS.iconst X79.here hx rfl (hb hby at_111) k)))))) ?_
      show GoW p e below QQ (T79.setTop (mkF m 112 #[.val (.int p1), .val (.int p2), .val (.long q3), .second, .val (.long q4), .second, .val (.long q5), .second, .val (.int v4), .val (.int (3 : Int32)), .val (.int (3 : Int32)), .val (.ref b2), .val (.int (1 : Int32))] [(.int (1 : Int32)), (.int (3 : Int32))]))
      have hc112 : ¬ ((3 : Int32) < (1 : Int32)) := by decide
      refine GoW.st (fun t k => XS.icmpNo X79.here hx rfl (hb hby at_112) rfl (flt hc112).1 (XS.aload X79.here hx rfl (hb hby at_115) rfl rfl k)) ?_
      show GoW p e below QQ (T79.setTop (mkF m 117 #[.val (.int p1), .val (.int p2), .val (.long q3), .second, .val (.long q4), .second, .val (.long q5), .second, .val (.int v4), .val (.int (3 : Int32)), .val (.int (3 : Int32)), .val (.ref b2), .val (.int (1 : Int32))] [(.ref b2)]))
      obtain ⟨cq80, kq80, qa80, qb80, qc80⟩ := isOf hZ hh79 p77_0
      obtain ⟨_, _, ⟨T80, zL80, zk80, zn80⟩, -, X80, ⟨Lc80, hQ80, zl80, zy80, zz80⟩, st80⟩ := X79.virtualBack hx (y := (⟨"com/example/eunomia/eunomia/sticky/LongHeap", "remove", "()V"⟩ : MethodName)) (z := (⟨"com/example/eunomia/eunomia/sticky/LongHeap", "remove", "()V"⟩ : MethodName)) hown (mvT hZ (hw _ (List.mem_of_getElem? (i := 40) rfl))) (mvT hZ (hw _ (List.mem_of_getElem? (i := 41) rfl))) (notFace_of_selects (args := #[]) (mvT hZ (hw _ (List.mem_of_getElem? (i := 43) rfl)))) (mvT hZ (hw _ (List.mem_of_getElem? (i := 43) rfl))) (mvT hZ (hw _ (List.mem_of_getElem? (i := 42) rfl))) (by decide) (backOf (W := 0) (rm8_3 l Z a0 hw [] b2 b_76 kb_76 zz_76 wa_76 wb_76 wc_76 wd_76 T77.heap n0 (Nat.le_trans Z0 K77.1) p77_0 gg2 p77_3 p77_4 p77_1 p77_2 p77_5 (by omega)) hZ (hw _ (List.mem_of_getElem? (i := 44) rfl)) (hw _ (List.mem_of_getElem? (i := 6) rfl)) (by decide) (by decide)) qa80 qc80 (g := (mkF m 117 #[.val (.int p1), .val (.int p2), .val (.long q3), .second, .val (.long q4), .second, .val (.long q5), .second, .val (.int v4), .val (.int (3 : Int32)), .val (.int (3 : Int32)), .val (.ref b2), .val (.int (1 : Int32))] [(.ref b2)])) rfl (by rw [hml]; rfl) (Steps.refl _) (argsL := []) (rest := []) (lenOf pd_5 rfl) rfl (by show 2 * 0 + _ ≤ _; exact Nat.le_of_eq rfl) (hb hby at_117) (fun _ _ => ⟨rfl, hh79, (by decide : 4 + 0 ≤ _), (by decide : 15 + 0 ≤ _)⟩)
      dsimp only [Pt.U, Pt.locs, Pt.cells, Pt.slots] at X80 zl80 zy80 zz80 st80 hQ80
      subst zl80 zy80 zz80
      obtain ⟨wa_117, wb_117, wc_117, wd_117, rfl, Nq80, Kq80, p80_0, p80_1, p80_2, p80_3⟩ := hQ80
      have N80 := Fr.app N79 Nq80
      refine GoW.st (fun t k => st80.trans k) ?_
      have K80 : Keep h0 T80.heap [] := K77.trans Kq80 (allS (Or.inr sz2) (allS (Or.inr (Nat.le_trans Z1 p77_3)) all0))
      show GoW p e below QQ (T80.setTop (mkF m 120 #[.val (.int p1), .val (.int p2), .val (.long q3), .second, .val (.long q4), .second, .val (.long q5), .second, .val (.int v4), .val (.int (3 : Int32)), .val (.int (3 : Int32)), .val (.ref b2), .val (.int (1 : Int32))] []))
      refine GoW.st (fun t k => XS.iload X80.here hx rfl (hb hby at_120) rfl (XS.iconst X80.here hx rfl (hb hby at_122) k)) ?_
      show GoW p e below QQ (T80.setTop (mkF m 123 #[.val (.int p1), .val (.int p2), .val (.long q3), .second, .val (.long q4), .second, .val (.long q5), .second, .val (.int v4), .val (.int (3 : Int32)), .val (.int (3 : Int32)), .val (.ref b2), .val (.int (1 : Int32))] [(.int (2 : Int32)), (.int (3 : Int32))]))
      have hc123 : ¬ ((3 : Int32) < (2 : Int32)) := by decide
      refine GoW.st (fun t k => XS.icmpNo X80.here hx rfl (hb hby at_123) rfl (flt hc123).1 (XS.aload X80.here hx rfl (hb hby at_126) rfl rfl k)) ?_
      show GoW p e below QQ (T80.setTop (mkF m 128 #[.val (.int p1), .val (.int p2), .val (.long q3), .second, .val (.long q4), .second, .val (.long q5), .second, .val (.int v4), .val (.int (3 : Int32)), .val (.int (3 : Int32)), .val (.ref b2), .val (.int (1 : Int32))] [(.ref b2)]))
      obtain ⟨cq82, kq82, qa82, qb82, qc82⟩ := isOf hZ rfl p80_0
      obtain ⟨_, _, ⟨T82, zL82, zk82, zn82⟩, -, X82, ⟨Lc82, hQ82, zl82, zy82, zz82⟩, st82⟩ := X80.virtualBack hx (y := (⟨"com/example/eunomia/eunomia/sticky/LongHeap", "remove", "()V"⟩ : MethodName)) (z := (⟨"com/example/eunomia/eunomia/sticky/LongHeap", "remove", "()V"⟩ : MethodName)) hown (mvT hZ (hw _ (List.mem_of_getElem? (i := 40) rfl))) (mvT hZ (hw _ (List.mem_of_getElem? (i := 41) rfl))) (notFace_of_selects (args := #[]) (mvT hZ (hw _ (List.mem_of_getElem? (i := 43) rfl)))) (mvT hZ (hw _ (List.mem_of_getElem? (i := 43) rfl))) (mvT hZ (hw _ (List.mem_of_getElem? (i := 42) rfl))) (by decide) (backOf (W := 0) (rm8_2 l Z a0 hw [] b2 b_76 kb_76 zz_76 wa_117 wb_117 wc_117 wd_117 T80.heap n0 (Nat.le_trans Z0 K80.1) p80_0 gg2 p77_3 p77_4 p80_1 p80_2 p80_3 (by omega)) hZ (hw _ (List.mem_of_getElem? (i := 44) rfl)) (hw _ (List.mem_of_getElem? (i := 6) rfl)) (by decide) (by decide)) qa82 qc82 (g := (mkF m 128 #[.val (.int p1), .val (.int p2), .val (.long q3), .second, .val (.long q4), .second, .val (.long q5), .second, .val (.int v4), .val (.int (3 : Int32)), .val (.int (3 : Int32)), .val (.ref b2), .val (.int (1 : Int32))] [(.ref b2)])) rfl (by rw [hml]; rfl) (Steps.refl _) (argsL := []) (rest := []) (lenOf pd_5 rfl) rfl (by show 2 * 0 + _ ≤ _; exact Nat.le_of_eq rfl) (hb hby at_128) (fun _ _ => ⟨rfl, rfl, (by decide : 4 + 0 ≤ _), (by decide : 15 + 0 ≤ _)⟩)
      dsimp only [Pt.U, Pt.locs, Pt.cells, Pt.slots] at X82 zl82 zy82 zz82 st82 hQ82
      subst zl82 zy82 zz82
      obtain ⟨wa_128, wb_128, wc_128, wd_128, rfl, Nq82, Kq82, p82_0, p82_1, p82_2, p82_3⟩ := hQ82
      have N82 := Fr.app N80 Nq82
      refine GoW.st (fun t k => st82.trans k) ?_
      have K82 : Keep h0 T82.heap [] := K80.trans Kq82 (allS (Or.inr sz2) (allS (Or.inr (Nat.le_trans Z1 p77_3)) all0))
      show GoW p e below QQ (T82.setTop (mkF m 131 #[.val (.int p1), .val (.int p2), .val (.long q3), .second, .val (.long q4), .second, .val (.long q5), .second, .val (.int v4), .val (.int (3 : Int32)), .val (.int (3 : Int32)), .val (.ref b2), .val (.int (1 : Int32))] []))
      refine GoW.st (fun t k => XS.iload X82.here hx rfl (hb hby at_131) rfl (XS.iconst X82.here hx rfl (hb hby at_133) k)) ?_
      show GoW p e below QQ (T82.setTop (mkF m 134 #[.val (.int p1), .val (.int p2), .val (.long q3), .second, .val (.long q4), .second, .val (.long q5), .second, .val (.int v4), .val (.int (3 : Int32)), .val (.int (3 : Int32)), .val (.ref b2), .val (.int (1 : Int32))] [(.int (3 : Int32)), (.int (3 : Int32))]))
      have hc134 : ¬ ((3 : Int32) < (3 : Int32)) := by decide
      refine GoW.st (fun t k => XS.icmpNo X82.here hx rfl (hb hby at_134) rfl (flt hc134).1 (XS.aload X82.here hx rfl (hb hby at_137) rfl rfl k)) ?_
      show GoW p e below QQ (T82.setTop (mkF m 139 #[.val (.int p1), .val (.int p2), .val (.long q3), .second, .val (.long q4), .second, .val (.long q5), .second, .val (.int v4), .val (.int (3 : Int32)), .val (.int (3 : Int32)), .val (.ref b2), .val (.int (1 : Int32))] [(.ref b2)]))
      obtain ⟨cq84, kq84, qa84, qb84, qc84⟩ := isOf hZ rfl p82_0
      obtain ⟨_, _, ⟨T84, zL84, zk84, zn84⟩, -, X84, ⟨Lc84, hQ84, zl84, zy84, zz84⟩, st84⟩ := X82.virtualBack hx (y := (⟨"com/example/eunomia/eunomia/sticky/LongHeap", "remove", "()V"⟩ : MethodName)) (z := (⟨"com/example/eunomia/eunomia/sticky/LongHeap", "remove", "()V"⟩ : MethodName)) hown (mvT hZ (hw _ (List.mem_of_getElem? (i := 40) rfl))) (mvT hZ (hw _ (List.mem_of_getElem? (i := 41) rfl))) (notFace_of_selects (args := #[]) (mvT hZ (hw _ (List.mem_of_getElem? (i := 43) rfl)))) (mvT hZ (hw _ (List.mem_of_getElem? (i := 43) rfl))) (mvT hZ (hw _ (List.mem_of_getElem? (i := 42) rfl))) (by decide) (backOf (W := 0) (rm8_1 l Z a0 hw [] b2 b_76 kb_76 zz_76 wa_128 wb_128 wc_128 wd_128 T82.heap n0 (Nat.le_trans Z0 K82.1) p82_0 gg2 p77_3 p77_4 p82_1 p82_2 p82_3 (by omega)) hZ (hw _ (List.mem_of_getElem? (i := 44) rfl)) (hw _ (List.mem_of_getElem? (i := 6) rfl)) (by decide) (by decide)) qa84 qc84 (g := (mkF m 139 #[.val (.int p1), .val (.int p2), .val (.long q3), .second, .val (.long q4), .second, .val (.long q5), .second, .val (.int v4), .val (.int (3 : Int32)), .val (.int (3 : Int32)), .val (.ref b2), .val (.int (1 : Int32))] [(.ref b2)])) rfl (by rw [hml]; rfl) (Steps.refl _) (argsL := []) (rest := []) (lenOf pd_5 rfl) rfl (by show 2 * 0 + _ ≤ _; exact Nat.le_of_eq rfl) (hb hby at_139) (fun _ _ => ⟨rfl, rfl, (by decide : 4 + 0 ≤ _), (by decide : 15 + 0 ≤ _)⟩)
      dsimp only [Pt.U, Pt.locs, Pt.cells, Pt.slots] at X84 zl84 zy84 zz84 st84 hQ84
      subst zl84 zy84 zz84
      obtain ⟨wa_139, wb_139, wc_139, wd_139, rfl, Nq84, Kq84, p84_0, p84_1, p84_2, p84_3⟩ := hQ84
      have N84 := Fr.app N82 Nq84
      refine GoW.st (fun t k => st84.trans k) ?_
      have K84 : Keep h0 T84.heap [] := K82.trans Kq84 (allS (Or.inr sz2) (allS (Or.inr (Nat.le_trans Z1 p77_3)) all0))
      show GoW p e below QQ (T84.setTop (mkF m 142 #[.val (.int p1), .val (.int p2), .val (.long q3), .second, .val (.long q4), .second, .val (.long q5), .second, .val (.int v4), .val (.int (3 : Int32)), .val (.int (3 : Int32)), .val (.ref b2), .val (.int (1 : Int32))] []))
      refine GoW.st (fun t k => XS.iload X84.here hx rfl (hb hby at_142) rfl k) ?_
      show GoW p e below QQ (T84.setTop (mkF m 144 #[.val (.int p1), .val (.int p2), .val (.long q3), .second, .val (.long q4), .second, .val (.long q5), .second, .val (.int v4), .val (.int (3 : Int32)), .val (.int (3 : Int32)), .val (.ref b2), .val (.int (1 : Int32))] [(.int (1 : Int32))]))
      have hc144 : ¬ ((1 : Int32) = (0 : Int32)) := by decide
      refine GoW.st (fun t k => XS.ifNo X84.here hx rfl (hb hby at_144) rfl ((if0 _ _).trans (feq hc144).1) (XS.aload X84.here hx rfl (hb hby at_147) rfl rfl k)) ?_
      show GoW p e below QQ (T84.setTop (mkF m 149 #[.val (.int p1), .val (.int p2), .val (.long q3), .second, .val (.long q4), .second, .val (.long q5), .second, .val (.int v4), .val (.int (3 : Int32)), .val (.int (3 : Int32)), .val (.ref b2), .val (.int (1 : Int32))] [(.ref b2)]))
      obtain ⟨cq86, kq86, qa86, qb86, qc86⟩ := isOf hZ rfl p84_0
      obtain ⟨_, _, ⟨T86, zL86, zk86, zn86⟩, -, X86, ⟨Lc86, hQ86, zl86, zy86, zz86⟩, st86⟩ := X84.virtualBack hx (y := (⟨"com/example/eunomia/eunomia/sticky/LongHeap", "isEmpty", "()Z"⟩ : MethodName)) (z := (⟨"com/example/eunomia/eunomia/sticky/LongHeap", "isEmpty", "()Z"⟩ : MethodName)) hown (mvT hZ (hw _ (List.mem_of_getElem? (i := 19) rfl))) (mvT hZ (hw _ (List.mem_of_getElem? (i := 20) rfl))) (notFace_of_selects (args := #[]) (mvT hZ (hw _ (List.mem_of_getElem? (i := 22) rfl)))) (mvT hZ (hw _ (List.mem_of_getElem? (i := 22) rfl))) (mvT hZ (hw _ (List.mem_of_getElem? (i := 21) rfl))) (by decide) (backOf (W := 0) (rm5_0 l Z a0 hw [] b2 T84.heap n0 (Nat.le_trans Z0 K84.1) p84_2) hZ (hw _ (List.mem_of_getElem? (i := 23) rfl)) (hw _ (List.mem_of_getElem? (i := 6) rfl)) (by decide) (by decide)) qa86 qc86 (g := (mkF m 149 #[.val (.int p1), .val (.int p2), .val (.long q3), .second, .val (.long q4), .second, .val (.long q5), .second, .val (.int v4), .val (.int (3 : Int32)), .val (.int (3 : Int32)), .val (.ref b2), .val (.int (1 : Int32))] [(.ref b2)])) rfl (by rw [hml]; rfl) (Steps.refl _) (argsL := []) (rest := []) (lenOf pd_4 rfl) rfl (by show 2 * 0 + _ ≤ _; exact Nat.le_of_eq rfl) (hb hby at_149) (fun _ _ => ⟨rfl, rfl, (by decide : 4 + 0 ≤ _), (by decide : 15 + 0 ≤ _)⟩)
      dsimp only [Pt.U, Pt.locs, Pt.cells, Pt.slots] at X86 zl86 zy86 zz86 st86 hQ86
      subst zl86 zy86 zz86
      obtain ⟨rfl, Nq86, hh86⟩ := hQ86
      have N86 := Fr.app N84 Nq86
      refine GoW.st (fun t k => st86.trans k) ?_
      show GoW p e below QQ (T86.setTop (mkF m 152 #[.val (.int p1), .val (.int p2), .val (.long q3), .second, .val (.long q4), .second, .val (.long q5), .second, .val (.int v4), .val (.int (3 : Int32)), .val (.int (3 : Int32)), .val (.ref b2), .val (.int (1 : Int32))] [(.int (1 : Int32))]))
      refine GoW.st (fun t k => XS.iload X86.here hx rfl (hb hby at_152) rfl (XS.iload X86.here hx rfl (hb hby at_154) rfl (XS.isub X86.here hx rfl (hb hby at_156) rfl k))) ?_
      show GoW p e below QQ (T86.setTop (mkF m 157 #[.val (.int p1), .val (.int p2), .val (.long q3), .second, .val (.long q4), .second, .val (.long q5), .second, .val (.int v4), .val (.int (3 : Int32)), .val (.int (3 : Int32)), .val (.ref b2), .val (.int (1 : Int32))] [(.int (0 : Int32)), (.int (1 : Int32))]))
      have hc157 : (0 : Int32) = (0 : Int32) := by decide
      refine GoW.st (fun t k => XS.ifNo X86.here hx rfl (hb hby at_157) rfl ((if0 _ _).trans (teq hc157).2) (XS.iconst X86.here hx rfl (hb hby at_160) (XS.goto X86.here hx rfl (pc0 := 161) (pc' := 165) rfl (hb hby at_161) (by decide) (by decide) k))) ?_
      show GoW p e below QQ (T86.setTop (mkF m 165 #[.val (.int p1), .val (.int p2), .val (.long q3), .second, .val (.long q4), .second, .val (.long q5), .second, .val (.int v4), .val (.int (3 : Int32)), .val (.int (3 : Int32)), .val (.ref b2), .val (.int (1 : Int32))] [(.int (1 : Int32)), (.int (1 : Int32))]))
      have hc165 : (1 : Int32) = (1 : Int32) := by decide
      refine GoW.st (fun t k => XS.icmpNo X86.here hx rfl (hb hby at_165) rfl (teq hc165).2 (XS.iconst X86.here hx rfl (hb hby at_168) (XS.goto X86.here hx rfl (pc0 := 169) (pc' := 173) rfl (hb hby at_169) (by decide) (by decide) (XS.istore X86.here hx rfl (hb hby at_173) rfl (l' := #[.val (.int p1), .val (.int p2), .val (.long q3), .second, .val (.long q4), .second, .val (.long q5), .second, .val (.int v4), .val (.int (3 : Int32)), .val (.int (3 : Int32)), .val (.ref b2), .val (.int (1 : Int32))]) rfl (XS.iload X86.here hx rfl (hb hby at_175) rfl k))))) ?_
      show GoW p e below QQ (T86.setTop (mkF m 177 #[.val (.int p1), .val (.int p2), .val (.long q3), .second, .val (.long q4), .second, .val (.long q5), .second, .val (.int v4), .val (.int (3 : Int32)), .val (.int (3 : Int32)), .val (.ref b2), .val (.int (1 : Int32))] [(.int (1 : Int32))]))
      exact GoW.fin X86 (some (.int (nar .boolean (1 : Int32)))) (fun q => by rw [hret] at q; cases q) hlk hQ hh86 ⟨rfl, N86⟩ (by decide) (by decide) (fun fs hr => retN X86 hx (t := .boolean) hret (by simp) (hb hby at_177) hr)
set_option maxRecDepth 65536 in
set_option maxHeartbeats 40000000 in
theorem comes_1 {Post : Tables → Env → Array Value → State → Outcome → State → Prop} (hpost : ∀ tb e args s v u, (limb_1_1.after args s (.returned v) u = true ∧ limb_1_2.after args s (.returned v) u = true ∧ True) → FrameEnd s (.returned v) u (Jvm.fieldLocs frame_1_writes args s ++ Jvm.arrayLocs frame_1_arrays args s ++ Jvm.staticLocs frame_1_statics s) 16 128 → Post tb e args s (.returned v) u) :
    ArmFor flags0 classFile x code maxLocals ret World_1 tables_1 room_1 Calls_1 rest_1 Pre_1 Post := by
  intro l hfl _ _ p e ha hc hk s m args below hf hA hF happ hP
  obtain ⟨hcalls, hrest, hpre⟩ := hP
  obtain ⟨-, -, -, hnamed, -, -, -, hat⟩ := (Spec.applies_iff hf).mp happ
  obtain ⟨hg, hn⟩ := and_e (Cond.before_iff.mp (show (Jvm.Cond.and given_1 narrow_1).before args s = true from hpre))
  obtain ⟨gcount, gr0⟩ := and_e hg
  obtain ⟨ga0, gr1⟩ := and_e gr0
  obtain ⟨ga1, gr2⟩ := and_e gr1
  obtain ⟨ga2, gr3⟩ := and_e gr2
  obtain ⟨ga3, gr4⟩ := and_e gr3
  obtain ⟨w0, w1, w2, w3, w4, rfl⟩ : ∃ w0 w1 w2 w3 w4 : Value, args = #[w0, w1, w2, w3, w4] := by
    have hs : args.size = 5 := by simpa [Cond.value, given_1] using gcount
    obtain ⟨L⟩ := args
    match L, hs with
    | [w0, w1, w2, w3, w4], _ => exact ⟨w0, w1, w2, w3, w4, rfl⟩
  have hw := fun d (hd : d ∈ tables_1) => atoms_spec (ws := Jvm.Cond.code x code maxLocals ret :: tables_1) hat d (List.mem_cons_of_mem _ hd)
  obtain ⟨i0, ei0⟩ := is_v ga0
  obtain rfl : w0 = (.int i0) := Option.some.inj ei0
  obtain ⟨i1, ei1⟩ := is_v ga1
  obtain rfl : w1 = (.int i1) := Option.some.inj ei1
  obtain ⟨i2, ei2⟩ := isL_v ga2
  obtain rfl : w2 = (.long i2) := Option.some.inj ei2
  obtain ⟨i3, ei3⟩ := isL_v ga3
  obtain rfl : w3 = (.long i3) := Option.some.inj ei3
  obtain ⟨i4, ei4⟩ := isL_v gr4
  obtain rfl : w4 = (.long i4) := Option.some.inj ei4
  obtain ⟨n, o, h1, h2, h3, _, L, rfl, ⟨rfl, N⟩, hq⟩ := rm0 l s _ hw tables_1 i0 i1 i2 i3 i4 s.heap s.heap.size (Nat.le_refl _) (Nat.le_refl _) p e ha hc hk s m _ below hf ((Spec.applies_iff_loose hf).mp happ).1 ⟨rfl, State.Warmed39.refl s, rfl⟩ trivial
  refine ⟨n, _, h1, h2, h3, hpost _ _ _ _ _ _ ⟨Cond.after_iff.mpr rfl, Cond.after_iff.mpr (eq_i res_at (Term.int_eval (1)) rfl), trivial⟩ ⟨hq.1, hq.2.1, (hq.2.2.sift fun y hy => Or.inr (N y hy)).mono (by decide) (by decide)⟩⟩
theorem main_1_1 : Claimed_1_1 := comes_1 fun _ _ _ _ _ _ h hF => ⟨h.1, hF⟩
theorem main_1_2 : Claimed_1_2 := comes_1 fun _ _ _ _ _ _ h hF => ⟨h.2.1, hF⟩
end Jvm.Pilot.@@N@@
namespace Jvm.Pilot.@@N@@
open Jvm Jvm.ClassFile Sem Op Lib Jvm.Free Jvm.Stand Jvm.Pilot.@@N@@.Jvm.D
/-! MADE BY PROGRAM (witnessworld.py) out of the Statement's table words and the real class files: 14 classes; the members and pool entries that the words name. The judged class is class 1, her method 1. -/
namespace start1
open Jvm.ClassFile
def u (s : String) : CpInfo := .utf8 (stringToUtf16 s)
/-- a pool by its gaps: so many unusable entries, then the entry; so many at the end -/
def gap : Nat → List CpInfo → List CpInfo
  | 0, r => r
  | n + 1, r => .unusable :: gap n r
def poolList (es : List (Nat × CpInfo)) (last : Nat) : List CpInfo := es.foldr (fun e r => gap e.1 (e.2 :: r)) (gap last [])
def pool (es : List (Nat × CpInfo)) (last : Nat) : Array CpInfo := ⟨poolList es last⟩
def fileOf (pool : Array CpInfo) (this : Nat) (attrs : Array Attribute := #[]) (ms : Array MethodInfo := #[]) (fl : Nat := 33) (sup : Nat := 0) (ifs : Array Nat := #[]) (fds : Array FieldInfo := #[]) : ClassFile where
  minorVersion := 0
  majorVersion := 65
  constantPool := pool
  accessFlags := fl
  thisClass := this
  superClass := sup
  interfaces := ifs
  fields := fds
  methods := ms
  attributes := attrs
def plain (name : String) (sup : Option ClassId) : Class where
  name := name
  kind := .ordinary
  loader := none
  accessFlags := 33
  super := sup
  interfaces := #[]
  cf := none
  fields := #[]
  methods := #[]
  instanceTypes := #[]
  staticTypes := #[]
  resolved := #[]
  callSites := []
  init := .initialized
  statics := none
  mirror := none

def pool0 : Array CpInfo := pool [(5, u "<init>"), (0, u "()V"), (1, .class_ 10), (1, u "java/lang/Object")] 113

def k0c0 : Code := { maxStack := 0, maxLocals := 1, code := object_method_1_code, exceptionTable := #[], attributes := #[] }
def k0m0 : Method := { name := "<init>", desc := "()V", sig := { parameters := [], returnType := none }, accessFlags := 1, code := some k0c0 }
/-- java/lang/Object -/
def k0 : Class := { plain "java/lang/Object" none with
  accessFlags := 33
  interfaces := #[]
  cf := some (fileOf pool0 8 #[] #[{ accessFlags := 1, nameIndex := 5, descriptorIndex := 6, attributes := #[] }] 33 0 #[] #[])
  fields := #[]
  methods := #[k0m0]
  instanceTypes := #[]
  staticTypes := #[]
  resolved := Array.replicate 124 none
  statics := none }

def pool1 : Array CpInfo := pool [(2, .class_ 4), (1, u "java/lang/Object"), (0, u "<init>"), (0, u "()V"), (0, .methodref 8 9), (0, .class_ 10), (0, .nameAndType 11 12), (0, u "java/lang/Math"), (0, u "min"), (0, u "(II)I"), (0, .class_ 14), (0, u "com/example/eunomia/eunomia/sticky/LongHeap"), (0, .methodref 13 16), (0, .nameAndType 5 17), (0, u "(I)V"), (0, .methodref 13 19), (0, .nameAndType 20 21), (0, u "isEmpty"), (0, u "()Z"), (0, .methodref 13 23), (0, .nameAndType 24 25), (0, u "add"), (0, u "(J)V"), (0, .methodref 13 27), (0, .nameAndType 28 6), (0, u "remove"), (0, .class_ 30), (0, u "com/example/eunomia/eunomia/sticky/LongHeapIsEmptyPinLaw"), (2, u "law"), (0, u "(IIJJJ)Z")] 3

def k1m0 : Method := { name := "<init>", desc := "()V", sig := { parameters := [], returnType := none }, accessFlags := 1, code := none }
def k1c1 : Code := { maxStack := 3, maxLocals := 13, code := code, exceptionTable := #[], attributes := #[] }
def k1m1 : Method := { name := "law", desc := "(IIJJJ)Z", sig := { parameters := [.int, .int, .long, .long, .long], returnType := some .boolean }, accessFlags := 9, code := some k1c1 }
/-- com/example/eunomia/eunomia/sticky/LongHeapIsEmptyPinLaw -/
def k1 : Class := { plain "com/example/eunomia/eunomia/sticky/LongHeapIsEmptyPinLaw" (some 0) with
  accessFlags := 49
  interfaces := #[]
  cf := some (fileOf pool1 29 #[] #[{ accessFlags := 1, nameIndex := 5, descriptorIndex := 6, attributes := #[] }, { accessFlags := 9, nameIndex := 33, descriptorIndex := 34, attributes := #[] }] 49 2 #[] #[])
  fields := #[]
  methods := #[k1m0, k1m1]
  instanceTypes := #[]
  staticTypes := #[]
  resolved := Array.replicate 38 none
  statics := none }

def pool2 : Array CpInfo := pool [(1, .class_ 2), (0, u "java/lang/Math"), (1, .class_ 6), (1, u "java/lang/Object"), (0, u "<init>"), (0, u "()V"), (89, .class_ 100), (1, u "java/lang/Math$RandomNumberGeneratorHolder"), (71, u "negativeZeroFloatBits"), (0, u "J"), (2, u "negativeZeroDoubleBits"), (21, u "max"), (2, u "min"), (43, u "$assertionsDisabled"), (0, u "Z"), (88, u "(II)I"), (2, u "twoToTheDoubleScaleDown"), (0, u "D"), (4, u "twoToTheDoubleScaleUp"), (9, u "E"), (3, u "PI"), (2, u "TAU"), (2, u "DEGREES_TO_RADIANS"), (0, u "RADIANS_TO_DEGREES")] 94

def k2m0 : Method := { name := "<init>", desc := "()V", sig := { parameters := [], returnType := none }, accessFlags := 2, code := none }
def k2c1 : Code := { maxStack := 2, maxLocals := 2, code := jdk_29_method_65_code, exceptionTable := #[], attributes := #[] }
def k2m1 : Method := { name := "max", desc := "(II)I", sig := { parameters := [.int, .int], returnType := some .int }, accessFlags := 9, code := some k2c1 }
def k2c2 : Code := { maxStack := 2, maxLocals := 2, code := jdk_29_method_69_code, exceptionTable := #[], attributes := #[] }
def k2m2 : Method := { name := "min", desc := "(II)I", sig := { parameters := [.int, .int], returnType := some .int }, accessFlags := 9, code := some k2c2 }
/-- java/lang/Math -/
def k2 : Class := { plain "java/lang/Math" (some 0) with
  accessFlags := 49
  interfaces := #[]
  cf := some (fileOf pool2 1 #[.nestMembers #[98]] #[{ accessFlags := 2, nameIndex := 7, descriptorIndex := 8, attributes := #[] }, { accessFlags := 9, nameIndex := 198, descriptorIndex := 335, attributes := #[] }, { accessFlags := 9, nameIndex := 201, descriptorIndex := 335, attributes := #[] }] 49 4 #[] #[{ accessFlags := 25, nameIndex := 354, descriptorIndex := 339, attributes := #[] }, { accessFlags := 25, nameIndex := 358, descriptorIndex := 339, attributes := #[] }, { accessFlags := 25, nameIndex := 361, descriptorIndex := 339, attributes := #[] }, { accessFlags := 26, nameIndex := 364, descriptorIndex := 339, attributes := #[] }, { accessFlags := 26, nameIndex := 365, descriptorIndex := 339, attributes := #[] }, { accessFlags := 26, nameIndex := 172, descriptorIndex := 173, attributes := #[] }, { accessFlags := 26, nameIndex := 176, descriptorIndex := 173, attributes := #[] }, { accessFlags := 8, nameIndex := 344, descriptorIndex := 339, attributes := #[] }, { accessFlags := 8, nameIndex := 338, descriptorIndex := 339, attributes := #[] }, { accessFlags := 4120, nameIndex := 245, descriptorIndex := 246, attributes := #[] }])
  fields := #[{ name := "E", type := .double, accessFlags := 25, slot := 0, constantValue := 0 }, { name := "PI", type := .double, accessFlags := 25, slot := 1, constantValue := 0 }, { name := "TAU", type := .double, accessFlags := 25, slot := 2, constantValue := 0 }, { name := "DEGREES_TO_RADIANS", type := .double, accessFlags := 26, slot := 3, constantValue := 0 }, { name := "RADIANS_TO_DEGREES", type := .double, accessFlags := 26, slot := 4, constantValue := 0 }, { name := "negativeZeroFloatBits", type := .long, accessFlags := 26, slot := 5, constantValue := 0 }, { name := "negativeZeroDoubleBits", type := .long, accessFlags := 26, slot := 6, constantValue := 0 }, { name := "twoToTheDoubleScaleUp", type := .double, accessFlags := 8, slot := 7, constantValue := 0 }, { name := "twoToTheDoubleScaleDown", type := .double, accessFlags := 8, slot := 8, constantValue := 0 }, { name := "$assertionsDisabled", type := .boolean, accessFlags := 4120, slot := 9, constantValue := 0 }]
  methods := #[k2m0, k2m1, k2m2]
  instanceTypes := #[]
  staticTypes := #[.double, .double, .double, .double, .double, .long, .long, .double, .double, .boolean]
  resolved := Array.replicate 460 none
  statics := none }

def pool3 : Array CpInfo := pool [(1, .methodref 2 3), (0, .class_ 4), (0, .nameAndType 5 6), (0, u "java/lang/Object"), (0, u "<init>"), (0, u "()V"), (0, .methodref 8 9), (0, .class_ 10), (0, .nameAndType 11 12), (0, u "java/lang/Math"), (0, u "max"), (0, u "(II)I"), (0, .fieldref 14 15), (0, .class_ 16), (0, .nameAndType 17 18), (0, u "com/example/eunomia/eunomia/sticky/LongHeap"), (0, u "values"), (0, u "[J"), (0, .fieldref 14 20), (0, .nameAndType 21 22), (0, u "size"), (0, u "I"), (0, .methodref 24 25), (0, .class_ 26), (0, .nameAndType 27 28), (0, u "java/util/Arrays"), (0, u "copyOf"), (0, u "([JI)[J"), (0, .methodref 14 30), (0, .nameAndType 31 32), (0, u "siftDown"), (0, u "(J)V"), (0, u "(I)V"), (2, u "isEmpty"), (0, u "()Z"), (3, u "add"), (0, u "remove")] 3

def k3c0 : Code := { maxStack := 3, maxLocals := 2, code := prog_40_method_1_code, exceptionTable := #[], attributes := #[] }
def k3m0 : Method := { name := "<init>", desc := "(I)V", sig := { parameters := [.int], returnType := none }, accessFlags := 0, code := some k3c0 }
def k3c1 : Code := { maxStack := 1, maxLocals := 1, code := prog_40_method_2_code, exceptionTable := #[], attributes := #[] }
def k3m1 : Method := { name := "isEmpty", desc := "()Z", sig := { parameters := [], returnType := some .boolean }, accessFlags := 0, code := some k3c1 }
def k3c2 : Code := { maxStack := 5, maxLocals := 4, code := prog_40_method_4_code, exceptionTable := #[], attributes := #[] }
def k3m2 : Method := { name := "add", desc := "(J)V", sig := { parameters := [.long], returnType := none }, accessFlags := 0, code := some k3c2 }
def k3c3 : Code := { maxStack := 4, maxLocals := 3, code := prog_40_method_5_code, exceptionTable := #[], attributes := #[] }
def k3m3 : Method := { name := "remove", desc := "()V", sig := { parameters := [], returnType := none }, accessFlags := 0, code := some k3c3 }
def k3c4 : Code := { maxStack := 4, maxLocals := 6, code := prog_40_method_7_code, exceptionTable := #[], attributes := #[] }
def k3m4 : Method := { name := "siftDown", desc := "(J)V", sig := { parameters := [.long], returnType := none }, accessFlags := 2, code := some k3c4 }
/-- com/example/eunomia/eunomia/sticky/LongHeap -/
def k3 : Class := { plain "com/example/eunomia/eunomia/sticky/LongHeap" (some 0) with
  accessFlags := 48
  interfaces := #[]
  cf := some (fileOf pool3 14 #[] #[{ accessFlags := 0, nameIndex := 5, descriptorIndex := 33, attributes := #[] }, { accessFlags := 0, nameIndex := 36, descriptorIndex := 37, attributes := #[] }, { accessFlags := 0, nameIndex := 41, descriptorIndex := 32, attributes := #[] }, { accessFlags := 0, nameIndex := 42, descriptorIndex := 6, attributes := #[] }, { accessFlags := 2, nameIndex := 31, descriptorIndex := 32, attributes := #[] }] 48 2 #[] #[{ accessFlags := 2, nameIndex := 17, descriptorIndex := 18, attributes := #[] }, { accessFlags := 2, nameIndex := 21, descriptorIndex := 22, attributes := #[] }])
  fields := #[{ name := "values", type := (.array .long), accessFlags := 2, slot := 0, constantValue := 0 }, { name := "size", type := .int, accessFlags := 2, slot := 1, constantValue := 0 }]
  methods := #[k3m0, k3m1, k3m2, k3m3, k3m4]
  instanceTypes := #[(.array .long), .int]
  staticTypes := #[]
  resolved := Array.replicate 46 none
  statics := none }

def pool4 : Array CpInfo := pool [(2, .class_ 4), (1, u "java/lang/Object"), (0, u "<init>"), (0, u "()V"), (7, .class_ 16), (1, u "java/util/Arrays"), (57, .class_ 76), (1, u "java/util/Arrays$NaturalOrder"), (36, .class_ 115), (1, u "java/util/Arrays$LegacyMergeSort"), (1, u "Z"), (32, .methodref 151 152), (0, .class_ 153), (0, .nameAndType 154 155), (0, u "java/lang/System"), (0, u "arraycopy"), (0, u "(Ljava/lang/Object;ILjava/lang/Object;II)V"), (146, u "copyOf"), (1, .methodref 305 306), (0, .class_ 307), (0, .nameAndType 308 309), (0, u "java/lang/Math"), (0, u "min"), (0, u "(II)I"), (65, .class_ 376), (0, u "java/util/Arrays$ArrayList"), (68, u "$assertionsDisabled"), (269, u "MIN_ARRAY_SORT_GRAN"), (0, u "I"), (2, u "INSERTIONSORT_THRESHOLD"), (152, u "([JI)[J"), (102, .class_ 976), (0, u "java/util/Arrays$ArrayItr")] 52

def k4m0 : Method := { name := "<init>", desc := "()V", sig := { parameters := [], returnType := none }, accessFlags := 2, code := none }
def k4c1 : Code := { maxStack := 6, maxLocals := 3, code := jdk_65_method_124_code, exceptionTable := #[], attributes := #[] }
def k4m1 : Method := { name := "copyOf", desc := "([JI)[J", sig := { parameters := [(.array .long), .int], returnType := some (.array .long) }, accessFlags := 9, code := some k4c1 }
/-- java/util/Arrays -/
def k4 : Class := { plain "java/util/Arrays" (some 0) with
  accessFlags := 49
  interfaces := #[]
  cf := some (fileOf pool4 14 #[.nestMembers #[975, 375, 113, 74]] #[{ accessFlags := 2, nameIndex := 5, descriptorIndex := 6, attributes := #[] }, { accessFlags := 9, nameIndex := 302, descriptorIndex := 872, attributes := #[] }] 49 2 #[] #[{ accessFlags := 26, nameIndex := 715, descriptorIndex := 716, attributes := #[] }, { accessFlags := 26, nameIndex := 719, descriptorIndex := 716, attributes := #[] }, { accessFlags := 4120, nameIndex := 445, descriptorIndex := 117, attributes := #[] }])
  fields := #[{ name := "MIN_ARRAY_SORT_GRAN", type := .int, accessFlags := 26, slot := 0, constantValue := 0 }, { name := "INSERTIONSORT_THRESHOLD", type := .int, accessFlags := 26, slot := 1, constantValue := 0 }, { name := "$assertionsDisabled", type := .boolean, accessFlags := 4120, slot := 2, constantValue := 0 }]
  methods := #[k4m0, k4m1]
  instanceTypes := #[]
  staticTypes := #[.int, .int, .boolean]
  resolved := Array.replicate 1029 none
  statics := none }

def pool5 : Array CpInfo := pool [(2, .class_ 4), (1, u "java/lang/Object"), (0, u "<init>"), (0, u "()V"), (1, .class_ 10), (1, u "java/lang/System"), (0, u "allowSecurityManager"), (0, u "I"), (16, u "cons"), (0, u "Ljava/io/Console;"), (77, .class_ 110), (1, u "java/lang/System$CallersHolder"), (43, u "initialErrStream"), (0, u "Ljava/io/PrintStream;"), (19, u "security"), (0, u "Ljava/lang/SecurityManager;"), (31, .class_ 209), (0, u "java/lang/System$1"), (7, u "props"), (0, u "Ljava/util/Properties;"), (2, u "lineSeparator"), (0, u "Ljava/lang/String;"), (96, .class_ 321), (1, u "java/lang/System$LoggerFinder"), (5, .class_ 328), (0, u "java/lang/System$Logger"), (67, u "err"), (2, u "out"), (91, u "notSupportedJnuEncoding"), (15, u "in"), (17, u "initialIn"), (0, u "Ljava/io/InputStream;"), (35, u "bootLayer"), (0, u "Ljava/lang/ModuleLayer;"), (99, .class_ 664), (0, u "java/lang/System$2"), (9, u "NEVER"), (2, u "MAYBE"), (49, u "arraycopy"), (0, u "(Ljava/lang/Object;ILjava/lang/Object;II)V"), (72, .class_ 802), (0, u "java/lang/System$Logger$Level")] 31

def k5m0 : Method := { name := "<init>", desc := "()V", sig := { parameters := [], returnType := none }, accessFlags := 2, code := none }
def k5m1 : Method := { name := "arraycopy", desc := "(Ljava/lang/Object;ILjava/lang/Object;II)V", sig := { parameters := [(.object "java/lang/Object"), .int, (.object "java/lang/Object"), .int, .int], returnType := none }, accessFlags := 265, code := none }
/-- java/lang/System -/
def k5 : Class := { plain "java/lang/System" (some 0) with
  accessFlags := 49
  interfaces := #[]
  cf := some (fileOf pool5 8 #[.nestMembers #[319, 327, 801, 108, 663, 208]] #[{ accessFlags := 2, nameIndex := 5, descriptorIndex := 6, attributes := #[] }, { accessFlags := 265, nameIndex := 727, descriptorIndex := 728, attributes := #[] }] 49 2 #[] #[{ accessFlags := 25, nameIndex := 507, descriptorIndex := 526, attributes := #[] }, { accessFlags := 25, nameIndex := 399, descriptorIndex := 155, attributes := #[] }, { accessFlags := 25, nameIndex := 396, descriptorIndex := 155, attributes := #[] }, { accessFlags := 10, nameIndex := 525, descriptorIndex := 526, attributes := #[] }, { accessFlags := 26, nameIndex := 674, descriptorIndex := 12, attributes := #[] }, { accessFlags := 26, nameIndex := 677, descriptorIndex := 12, attributes := #[] }, { accessFlags := 10, nameIndex := 11, descriptorIndex := 12, attributes := #[] }, { accessFlags := 74, nameIndex := 175, descriptorIndex := 176, attributes := #[] }, { accessFlags := 10, nameIndex := 491, descriptorIndex := 222, attributes := #[] }, { accessFlags := 74, nameIndex := 29, descriptorIndex := 30, attributes := #[] }, { accessFlags := 74, nameIndex := 154, descriptorIndex := 155, attributes := #[] }, { accessFlags := 10, nameIndex := 217, descriptorIndex := 218, attributes := #[] }, { accessFlags := 10, nameIndex := 221, descriptorIndex := 222, attributes := #[] }, { accessFlags := 8, nameIndex := 562, descriptorIndex := 563, attributes := #[] }])
  fields := #[{ name := "in", type := (.object "java/io/InputStream"), accessFlags := 25, slot := 0, constantValue := 0 }, { name := "out", type := (.object "java/io/PrintStream"), accessFlags := 25, slot := 1, constantValue := 0 }, { name := "err", type := (.object "java/io/PrintStream"), accessFlags := 25, slot := 2, constantValue := 0 }, { name := "initialIn", type := (.object "java/io/InputStream"), accessFlags := 10, slot := 3, constantValue := 0 }, { name := "NEVER", type := .int, accessFlags := 26, slot := 4, constantValue := 0 }, { name := "MAYBE", type := .int, accessFlags := 26, slot := 5, constantValue := 0 }, { name := "allowSecurityManager", type := .int, accessFlags := 10, slot := 6, constantValue := 0 }, { name := "security", type := (.object "java/lang/SecurityManager"), accessFlags := 74, slot := 7, constantValue := 0 }, { name := "notSupportedJnuEncoding", type := (.object "java/lang/String"), accessFlags := 10, slot := 8, constantValue := 0 }, { name := "cons", type := (.object "java/io/Console"), accessFlags := 74, slot := 9, constantValue := 0 }, { name := "initialErrStream", type := (.object "java/io/PrintStream"), accessFlags := 74, slot := 10, constantValue := 0 }, { name := "props", type := (.object "java/util/Properties"), accessFlags := 10, slot := 11, constantValue := 0 }, { name := "lineSeparator", type := (.object "java/lang/String"), accessFlags := 10, slot := 12, constantValue := 0 }, { name := "bootLayer", type := (.object "java/lang/ModuleLayer"), accessFlags := 8, slot := 13, constantValue := 0 }]
  methods := #[k5m0, k5m1]
  instanceTypes := #[]
  staticTypes := #[(.object "java/io/InputStream"), (.object "java/io/PrintStream"), (.object "java/io/PrintStream"), (.object "java/io/InputStream"), .int, .int, .int, (.object "java/lang/SecurityManager"), (.object "java/lang/String"), (.object "java/io/Console"), (.object "java/io/PrintStream"), (.object "java/util/Properties"), (.object "java/lang/String"), (.object "java/lang/ModuleLayer")]
  resolved := Array.replicate 834 none
  statics := none }

def pool6 : Array CpInfo := pool [(1, u "java/lang/Cloneable"), (0, .class_ 1), (0, u "java/lang/Object"), (0, .class_ 3)] 3

/-- java/lang/Cloneable -/
def k6 : Class := { plain "java/lang/Cloneable" (some 0) with
  accessFlags := 1537
  interfaces := #[]
  cf := some (fileOf pool6 2 #[] #[] 1537 4 #[] #[])
  fields := #[]
  methods := #[]
  instanceTypes := #[]
  staticTypes := #[]
  resolved := Array.replicate 8 none
  statics := none }

def pool7 : Array CpInfo := pool [(1, u "java/io/Serializable"), (0, .class_ 1), (0, u "java/lang/Object"), (0, .class_ 3)] 3

/-- java/io/Serializable -/
def k7 : Class := { plain "java/io/Serializable" (some 0) with
  accessFlags := 1537
  interfaces := #[]
  cf := some (fileOf pool7 2 #[] #[] 1537 4 #[] #[])
  fields := #[]
  methods := #[]
  instanceTypes := #[]
  staticTypes := #[]
  resolved := Array.replicate 8 none
  statics := none }

/-- the primitive byte -/
def k8 : Class := { plain "byte" none with kind := .primitive 'B', accessFlags := 0x411 }
/-- [B -/
def k9 : Class := { plain "[B" (some 0) with kind := .array 8 .byte, interfaces := #[6, 7], accessFlags := 1041 }

/-- the primitive int -/
def k10 : Class := { plain "int" none with kind := .primitive 'I', accessFlags := 0x411 }
/-- [I -/
def k11 : Class := { plain "[I" (some 0) with kind := .array 10 .int, interfaces := #[6, 7], accessFlags := 1041 }

/-- the primitive long -/
def k12 : Class := { plain "long" none with kind := .primitive 'J', accessFlags := 0x411 }
/-- [J -/
def k13 : Class := { plain "[J" (some 0) with kind := .array 12 .long, interfaces := #[6, 7], accessFlags := 1041 }

def heap : Heap := #[]
def classes : Array Class := #[k0, k1, k2, k3, k4, k5, k6, k7, k8, k9, k10, k11, k12, k13]
def interned : List (Array UInt16 × Addr) := []
def slotsUsed : Nat := 0
def theMethod : MethodId := ⟨1, 1⟩
def args0 : Array Value := #[.int 5, .int 6, .long 7, .long 8, .long 9]
def aboutOver (below : List Frame) : State where
  vm := { classes := classes, interned := interned.toArray }
  heap := heap
  slotsUsed := slotsUsed
  threads := #[{ frames := .invoking theMethod args0 :: below }]
def below0 : List Frame := [.native { method := ⟨0, 0⟩, args := #[] }]
def about1 : State := aboutOver below0
def p0 : Program := .bare "" "" ""
def e0 : Env := launch0.env 0 0 0
theorem w_frames : about1.frames = Frame.invoking theMethod args0 :: below0 := rfl
set_option maxRecDepth 65536 in
theorem w_args : argsFit about1.vm theMethod args0 = true := by decide +kernel
set_option maxRecDepth 65536 in
theorem w_heap : heapFits about1 = true := by decide +kernel
set_option maxRecDepth 65536 in
theorem w_runnable : about1.curStatus? = some .runnable := by decide +kernel
set_option maxRecDepth 65536 in
theorem w_alone : about1.alone = true := by decide +kernel
set_option maxRecDepth 65536 in
theorem w_named : about1.methodNamed? x = some theMethod := by decide +kernel
set_option maxRecDepth 65536 in
theorem w_hears : about1.hears theMethod below0 = true := by decide +kernel
set_option maxRecDepth 65536 in
theorem w_ripe : about1.ripe theMethod args0 below0 = true := by decide +kernel
theorem w_running : about1.status = .running := rfl
set_option maxRecDepth 65536 in
theorem w_room : about1.hasRoom e0.platform room_1 = true :=
  launch0.hasRoom_least _ room_1 (by decide +kernel) (by decide +kernel) (by decide +kernel) (by decide +kernel) (by decide +kernel) (by decide +kernel)
theorem allAtoms_all (ts : List Jvm.Cond) (a : Array Jvm.Value) (st : Jvm.State) : (allAtoms ts).before a st = ts.all (fun c => c.before a st) := by
  induction ts with
  | nil => rfl
  | cons c t ih =>
    show (Jvm.Cond.and c (allAtoms t)).before a st = _
    rw [Jvm.Cond.before_and, ih, List.all_cons]
def words1 : List Jvm.Cond := Jvm.Cond.code x code maxLocals ret :: tables_1
/-- a 'code' word, met by the world's own term for the bytes: nothing is compared byte by byte -/
theorem code_word {y : MethodName} {bytes : ByteArray} {mx : Nat} {rt : Option FieldType} {a : Array Value} {s : State} {m : MethodId} {meth : Method} {c : Code} (h1 : s.methodNamed? y = some m) (h2 : s.vm.method? m = some meth) (h3 : meth.code = some c) (h4 : c.code = bytes)
    (h5 : (c.maxLocals == mx && c.exceptionTable.isEmpty && decide (c.maxStack ≤ mostOperands) && decide (meth.sig.returnType = rt) && !meth.locks && decide (parseMethodDescriptor y.desc = some meth.sig)) = true) : (Jvm.Cond.code y bytes mx rt).before a s = true := by
  simp only [Bool.and_eq_true, beq_iff_eq, Bool.not_eq_true', decide_eq_true_eq] at h5
  obtain ⟨⟨⟨⟨⟨g1, g2⟩, g3⟩, g4⟩, g5⟩, g6⟩ := h5
  simp [Cond.before, Cond.holds, Cond.value, h1, h2, h3, h4, g1, g2, g3, g4, g5, g6]
def isCode : Jvm.Cond → Bool
  | .code _ _ _ _ => true
  | _ => false
theorem all_split {L : List Jvm.Cond} {P : Jvm.Cond → Bool} (h1 : L.all (fun c => isCode c || P c) = true) (h2 : ∀ c ∈ L.filter isCode, P c = true) : L.all P = true := by
  refine List.all_eq_true.mpr fun c hc => ?_
  have h := List.all_eq_true.mp h1 c hc
  rcases Bool.eq_false_or_eq_true (isCode c) with hi | hi
  · exact h2 c (List.mem_filter.mpr ⟨hc, hi⟩)
  · simpa [hi] using h
set_option maxRecDepth 65536 in
theorem w_c0 : (Jvm.Cond.code x code maxLocals ret).before args0 about1 = true := code_word (m := ⟨1, 1⟩) (meth := k1m1) (c := k1c1) (by decide +kernel) rfl rfl rfl (by decide +kernel)
set_option maxRecDepth 65536 in
theorem w_c1 : (Jvm.Cond.code ({ cls := "java/lang/Math", name := "min", desc := "(II)I" } : Jvm.MethodName) jdk_29_method_69_code (2 : Nat) (Option.some Jvm.ClassFile.FieldType.int)).before args0 about1 = true := code_word (m := ⟨2, 2⟩) (meth := k2m2) (c := k2c2) (by decide +kernel) rfl rfl rfl (by decide +kernel)
set_option maxRecDepth 65536 in
theorem w_c2 : (Jvm.Cond.code ({ cls := "com/example/eunomia/eunomia/sticky/LongHeap", name := "<init>", desc := "(I)V" } : Jvm.MethodName) prog_40_method_1_code (2 : Nat) (Option.none : Option Jvm.ClassFile.FieldType)).before args0 about1 = true := code_word (m := ⟨3, 0⟩) (meth := k3m0) (c := k3c0) (by decide +kernel) rfl rfl rfl (by decide +kernel)
set_option maxRecDepth 65536 in
theorem w_c3 : (Jvm.Cond.code ({ cls := "java/lang/Object", name := "<init>", desc := "()V" } : Jvm.MethodName) object_method_1_code (1 : Nat) (Option.none : Option Jvm.ClassFile.FieldType)).before args0 about1 = true := code_word (m := ⟨0, 0⟩) (meth := k0m0) (c := k0c0) (by decide +kernel) rfl rfl rfl (by decide +kernel)
set_option maxRecDepth 65536 in
theorem w_c4 : (Jvm.Cond.code ({ cls := "java/lang/Math", name := "max", desc := "(II)I" } : Jvm.MethodName) jdk_29_method_65_code (2 : Nat) (Option.some Jvm.ClassFile.FieldType.int)).before args0 about1 = true := code_word (m := ⟨2, 1⟩) (meth := k2m1) (c := k2c1) (by decide +kernel) rfl rfl rfl (by decide +kernel)
set_option maxRecDepth 65536 in
theorem w_c5 : (Jvm.Cond.code ({ cls := "com/example/eunomia/eunomia/sticky/LongHeap", name := "isEmpty", desc := "()Z" } : Jvm.MethodName) prog_40_method_2_code (1 : Nat) (Option.some Jvm.ClassFile.FieldType.boolean)).before args0 about1 = true := code_word (m := ⟨3, 1⟩) (meth := k3m1) (c := k3c1) (by decide +kernel) rfl rfl rfl (by decide +kernel)
set_option maxRecDepth 65536 in
theorem w_c6 : (Jvm.Cond.code ({ cls := "com/example/eunomia/eunomia/sticky/LongHeap", name := "add", desc := "(J)V" } : Jvm.MethodName) prog_40_method_4_code (4 : Nat) (Option.none : Option Jvm.ClassFile.FieldType)).before args0 about1 = true := code_word (m := ⟨3, 2⟩) (meth := k3m2) (c := k3c2) (by decide +kernel) rfl rfl rfl (by decide +kernel)
set_option maxRecDepth 65536 in
theorem w_c7 : (Jvm.Cond.code ({ cls := "java/util/Arrays", name := "copyOf", desc := "([JI)[J" } : Jvm.MethodName) jdk_65_method_124_code (3 : Nat) (Option.some (Jvm.ClassFile.FieldType.array Jvm.ClassFile.FieldType.long))).before args0 about1 = true := code_word (m := ⟨4, 1⟩) (meth := k4m1) (c := k4c1) (by decide +kernel) rfl rfl rfl (by decide +kernel)
set_option maxRecDepth 65536 in
theorem w_c8 : (Jvm.Cond.code ({ cls := "com/example/eunomia/eunomia/sticky/LongHeap", name := "remove", desc := "()V" } : Jvm.MethodName) prog_40_method_5_code (3 : Nat) (Option.none : Option Jvm.ClassFile.FieldType)).before args0 about1 = true := code_word (m := ⟨3, 3⟩) (meth := k3m3) (c := k3c3) (by decide +kernel) rfl rfl rfl (by decide +kernel)
set_option maxRecDepth 65536 in
theorem w_c9 : (Jvm.Cond.code ({ cls := "com/example/eunomia/eunomia/sticky/LongHeap", name := "siftDown", desc := "(J)V" } : Jvm.MethodName) prog_40_method_7_code (6 : Nat) (Option.none : Option Jvm.ClassFile.FieldType)).before args0 about1 = true := code_word (m := ⟨3, 4⟩) (meth := k3m4) (c := k3c4) (by decide +kernel) rfl rfl rfl (by decide +kernel)
def codes1 : List Jvm.Cond := [Jvm.Cond.code x code maxLocals ret, Jvm.Cond.code ({ cls := "java/lang/Math", name := "min", desc := "(II)I" } : Jvm.MethodName) jdk_29_method_69_code (2 : Nat) (Option.some Jvm.ClassFile.FieldType.int), Jvm.Cond.code ({ cls := "com/example/eunomia/eunomia/sticky/LongHeap", name := "<init>", desc := "(I)V" } : Jvm.MethodName) prog_40_method_1_code (2 : Nat) (Option.none : Option Jvm.ClassFile.FieldType), Jvm.Cond.code ({ cls := "java/lang/Object", name := "<init>", desc := "()V" } : Jvm.MethodName) object_method_1_code (1 : Nat) (Option.none : Option Jvm.ClassFile.FieldType), Jvm.Cond.code ({ cls := "java/lang/Math", name := "max", desc := "(II)I" } : Jvm.MethodName) jdk_29_method_65_code (2 : Nat) (Option.some Jvm.ClassFile.FieldType.int), Jvm.Cond.code ({ cls := "com/example/eunomia/eunomia/sticky/LongHeap", name := "isEmpty", desc := "()Z" } : Jvm.MethodName) prog_40_method_2_code (1 : Nat) (Option.some Jvm.ClassFile.FieldType.boolean), Jvm.Cond.code ({ cls := "com/example/eunomia/eunomia/sticky/LongHeap", name := "add", desc := "(J)V" } : Jvm.MethodName) prog_40_method_4_code (4 : Nat) (Option.none : Option Jvm.ClassFile.FieldType), Jvm.Cond.code ({ cls := "java/util/Arrays", name := "copyOf", desc := "([JI)[J" } : Jvm.MethodName) jdk_65_method_124_code (3 : Nat) (Option.some (Jvm.ClassFile.FieldType.array Jvm.ClassFile.FieldType.long)), Jvm.Cond.code ({ cls := "com/example/eunomia/eunomia/sticky/LongHeap", name := "remove", desc := "()V" } : Jvm.MethodName) prog_40_method_5_code (3 : Nat) (Option.none : Option Jvm.ClassFile.FieldType), Jvm.Cond.code ({ cls := "com/example/eunomia/eunomia/sticky/LongHeap", name := "siftDown", desc := "(J)V" } : Jvm.MethodName) prog_40_method_7_code (6 : Nat) (Option.none : Option Jvm.ClassFile.FieldType)]
set_option maxRecDepth 65536 in
theorem codes_eq : words1.filter isCode = codes1 := rfl
theorem w_codes : ∀ c ∈ words1.filter isCode, c.before args0 about1 = true := by
  rw [codes_eq]
  intro c hc
  simp only [codes1, List.mem_cons, List.not_mem_nil, or_false] at hc
  rcases hc with rfl | rfl | rfl | rfl | rfl | rfl | rfl | rfl | rfl | rfl
  · exact w_c0
  · exact w_c1
  · exact w_c2
  · exact w_c3
  · exact w_c4
  · exact w_c5
  · exact w_c6
  · exact w_c7
  · exact w_c8
  · exact w_c9
set_option maxRecDepth 65536 in
theorem w_t1 : (words1.take 24).all (fun c => isCode c || c.before args0 about1) = true := by decide +kernel
set_option maxRecDepth 65536 in
theorem w_t2 : ((words1.drop 24).take 24).all (fun c => isCode c || c.before args0 about1) = true := by decide +kernel
set_option maxRecDepth 65536 in
theorem w_t3 : ((words1.drop 24).drop 24).all (fun c => isCode c || c.before args0 about1) = true := by decide +kernel
theorem w_tables : (allAtoms (Jvm.Cond.code x code maxLocals ret :: tables_1)).before args0 about1 = true := by
  rw [allAtoms_all]
  show words1.all (fun c => c.before args0 about1) = true
  refine all_split ?_ w_codes
  rw [← List.take_append_drop 24 words1, List.all_append, w_t1, ← List.take_append_drop 24 (words1.drop 24), List.all_append, w_t2, w_t3]
  rfl
set_option maxRecDepth 65536 in
theorem w_case : (Jvm.Cond.and given_1 narrow_1).before args0 about1 = true := by decide +kernel
theorem w_applies : (headSpec (Jvm.Cond.code x code maxLocals ret :: tables_1) room_1).applies x e0.platform about1 = true :=
  (Spec.applies_iff w_frames).mpr ⟨w_running, w_runnable, w_alone, w_named, w_hears, w_ripe, w_room, w_tables⟩
theorem atStart : AtStart classFile x code maxLocals ret World_1 tables_1 room_1 Calls_1 rest_1 Pre_1 launch0 p0 e0 about1 theMethod args0 below0 :=
  ⟨lists_1, trivial, launch0.admits_env _ _ _, launch0.least_env, fairChoices_fair.cas, fairChoices_fair.clock, w_frames, w_args, w_heap, w_applies, trivial, trivial, w_case⟩
end start1
theorem witness_1 : WitnessClaimed_1 := ⟨start1.p0, start1.e0, start1.about1, start1.theMethod, start1.args0, start1.below0, start1.atStart⟩
end Jvm.Pilot.@@N@@
