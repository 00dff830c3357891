import JvmDerived
import JvmDerived.Pilot.@@N@@Statement
import JvmDerived.Pilot.@@N@@Code
set_option linter.unusedVariables false
set_option linter.unusedSimpArgs false
namespace Jvm.RoadKit
open Sem ClassFile Op Lib Jvm.Stand Jvm.Free Jvm.LawKit
section Own
variable {p : Program} {l : Launch} {e : Env} {R : Room} {s : State} {m : MethodId} {args : Array Value} {below : List Frame} {meth : Method} {c : Code} {T : State} {locs : List Loc} {cells slots : Nat}
theorem retI (X : Stand p l e R s m args below meth c T locs cells slots) (hx : p.tables.exec = Jvm.exec) {pc : Nat} {Ls : Array Slot} {z : Int32} {rest : List Value} (hret : meth.sig.returnType = some .int) (hd : decode c.code pc = .ok (.ireturn, 1)) {fs : List Frame}
    (hl : ∀ (f : JFrame) (acts : List Action), f.method = m → f.locked = none → f.entered = [] → (doReturn e (T.setTop f) acts (some (.int z))).1 = T.setFrames fs) : Steps p.tables e below (T.setTop (mkF m pc Ls (.int z :: rest))) (T.setFrames fs) := by
  have hm' : T.vm.method? m = some meth := X.method'
  have hn : narrow .int (.int z) = .int z := rfl
  show Steps p.tables e below (T.setTop { method := m, pc := pc, locals := Ls, stack := _ :: rest, locked := none }) _
  jvm_step X.here [X.here.top, hx, hd, hm', hret, hn]
  first | (intro acts; rw [hl _ acts rfl rfl rfl]) | rw [hl _ _ rfl rfl rfl]
  exact Steps.refl _
/-- the run comes from the state A to its end, and the end is as QQ says -/
def GoW (p : Program) (e : Env) (below : List Frame) (QQ : Outcome → State → Prop) (A : State) : Prop :=
  ∃ s₂ o, Steps p.tables e below A s₂ ∧ s₂.status = .running ∧ Ended s₂ below o ∧ QQ o s₂
theorem GoW.st {QQ : Outcome → State → Prop} {A B : State} (h : ∀ t, Steps p.tables e below B t → Steps p.tables e below A t) (g : GoW p e below QQ B) : GoW p e below QQ A := by
  obtain ⟨s₂, o, h1, h2⟩ := g
  exact ⟨s₂, o, h _ h1, h2⟩
/-- what an end with the value v, the heap and the written places must say -/
def EndsW (s : State) (Q : Option Value → Heap → List Loc → Prop) (cl sl : Nat) (QQ : Outcome → State → Prop) : Prop :=
  ∀ (v : Option Value) (L : List Loc) (T : State), Q v T.heap L → FrameEnd s (.returned v) T L cl sl → QQ (.returned v) T
theorem GoW.fin {Q : Option Value → Heap → List Loc → Prop} {cl sl : Nat} {QQ : Outcome → State → Prop} {A : State} (X : Stand p l e R s m args below meth c T locs cells slots) (v : Option Value) (hv : meth.sig.returnType = none → v = none) (hlk : meth.locks = false) (hQ : EndsW s Q cl sl QQ) {h : Heap} (eT : T.heap = h)
    (q : Q v h locs) (hc : cells ≤ cl) (hs : slots ≤ sl)
    (st : ∀ fs, (∀ (f : JFrame) (acts : List Action), f.method = m → f.locked = none → f.entered = [] → (doReturn e (T.setTop f) acts v).1 = T.setFrames fs) → Steps p.tables e below A (T.setFrames fs)) : GoW p e below QQ A := by
  obtain ⟨fs, hr, hrun, hended, hW, hsame⟩ := X.leave (v := v) hv hlk
  subst eT
  exact ⟨_, _, st fs hr, hrun, hended, hQ _ _ _ q ⟨⟨_, rfl⟩, hW, hsame.mono hc hs⟩⟩
theorem met_of {y : MethodName} {bytes : ByteArray} {maxL : Nat} {ret : Option FieldType} {ws : List Cond} {as' : Array Value} {Z : State} {h0 : Heap} {Q : Option Value → Heap → List Loc → Prop} {cl sl : Nat} (hp : plainFor y = true) {Ls : Array Slot} (ef : ∀ m, entryFrame m as' maxL = mkF m 0 Ls [])
    (core : ∀ (p : Program) (e : Env) (s : State) (m : MethodId) (below : List Frame) (meth : Method) (c : Code) (T : State) (QQ : Outcome → State → Prop), p.tables.exec = Jvm.exec → Z.Warmed39 s.vm → c.code = bytes → c.maxLocals = maxL → s.vm.findClass y.cls = some m.cls → meth.name = y.name → meth.sig.returnType = ret → meth.locks = false →
      Stand p l e R s m as' below meth c T [] 0 0 → T.heap = h0 → EndsW s Q cl sl QQ → GoW p e below QQ (T.setTop (mkF m 0 Ls []))) :
    MetFree l y (head1 (Cond.code y bytes maxL ret :: ws) R) (fun a U => a = as' ∧ Z.Warmed39 U.vm ∧ U.heap = h0) (fun _ _ _ _ _ => True) (fun _ U o U' => ∃ v L, o = .returned v ∧ Q v U'.heap L ∧ FrameEnd U o U' L cl sl) := by
  refine MetFree.of_bodySF hp hisR ?_
  intro p e s m args below meth c s₁ Bd hml0 hP hK
  obtain ⟨rfl, hZ, hh⟩ := hP
  obtain ⟨s₂, o, g1, g2, g3, g4⟩ := core p e s m below meth c s₁ (fun o U' => ∃ v L, o = .returned v ∧ Q v U'.heap L ∧ FrameEnd s o U' L cl sl) Bd.exec hZ Bd.bytes hml0 (findClass_of_methodNamed Bd.named) (name_of_methodNamed Bd.named Bd.method).1 Bd.returns Bd.notSynchronized (Stand.of_body Bd) (by rw [← hh, Bd.state]; rfl) (fun v L T q f => ⟨v, L, rfl, q, f⟩)
  exact ⟨s₂, o, castTop (ef m) g1, g2, g3, g4⟩
theorem standUp (X : Stand p l e R s m args below meth c T locs cells slots) {cells' slots' : Nat} (hc : cells ≤ cells') (hs : slots ≤ slots') : Stand p l e R s m args below meth c T locs cells' slots' :=
  { X with same := X.same.mono hc hs }
theorem lremM {g : JFrame} {target : State} (X : Stand p l e R s m args below meth c T locs cells slots) (hx : p.tables.exec = Jvm.exec) (hg : g.method = m) {x y : Int64} {rest : List Value} (hd : decode c.code g.pc = .ok (.lrem, 1)) (hs : g.stack = .long y :: .long x :: rest) (hy : y ≠ 0)
    (hr : Steps p.tables e below (T.setTop { g with pc := g.pc + 1, stack := .long (x % y) :: rest }) target) : Steps p.tables e below (T.setTop g) target := by
  have q : x - x / y * y = x % y := lrem_mod x y
  exact XS.lrem X.here hx hg hd hs hy (by rw [q]; exact hr)
theorem ldVI {Z : State} {h : Heap} {a : Addr} {kc : ClassId} {z j : Int32} {vs : List Value} {dv v : Value} (X : Stand p l e R s m args below meth c T locs cells slots) (hx : p.tables.exec = Jvm.exec) (hZ : Z.Warmed39 s.vm) (eT : T.heap = h) (F : Arv Z h a kc .int z vs dv) (hj : ¬ j < 0 ∧ j < z) (hv : vs.getD j.toNatClampNeg dv = v)
    {g : JFrame} (hg : g.method = m) {rest : List Value} (hs : g.stack = .int j :: .ref a :: rest) (hd : decode c.code g.pc = .ok (.iaload, 1)) (t : State) (k : Steps p.tables e below (T.setTop { g with pc := g.pc + 1, stack := v :: rest }) t) : Steps p.tables e below (T.setTop g) t := by
  obtain ⟨c', A, -, S, -, H, -⟩ := F
  have i := inb_of S hj
  exact X.iaload hx (by rw [eT]; exact A.1) (State.isArrayOf_alike hZ.alike A.2.1) A.2.2 i (H.at i hv) hg hs hd t k
theorem ldVJ {Z : State} {h : Heap} {a : Addr} {kc : ClassId} {z j : Int32} {vs : List Value} {dv v : Value} (X : Stand p l e R s m args below meth c T locs cells slots) (hx : p.tables.exec = Jvm.exec) (hZ : Z.Warmed39 s.vm) (eT : T.heap = h) (F : Arv Z h a kc .long z vs dv) (hj : ¬ j < 0 ∧ j < z) (hv : vs.getD j.toNatClampNeg dv = v)
    {g : JFrame} (hg : g.method = m) {rest : List Value} (hs : g.stack = .int j :: .ref a :: rest) (hd : decode c.code g.pc = .ok (.laload, 1)) (t : State) (k : Steps p.tables e below (T.setTop { g with pc := g.pc + 1, stack := v :: rest }) t) : Steps p.tables e below (T.setTop g) t := by
  obtain ⟨c', A, -, S, -, H, -⟩ := F
  have i := inb_of S hj
  exact X.laload hx (by rw [eT]; exact A.1) (State.isArrayOf_alike hZ.alike A.2.1) A.2.2 i (H.at i hv) hg hs hd t k
theorem ldVB {Z : State} {h : Heap} {a : Addr} {kc : ClassId} {z j : Int32} {vs : List Value} {dv v : Value} (X : Stand p l e R s m args below meth c T locs cells slots) (hx : p.tables.exec = Jvm.exec) (hZ : Z.Warmed39 s.vm) (eT : T.heap = h) (F : Arv Z h a kc .byte z vs dv) (hj : ¬ j < 0 ∧ j < z) (hv : vs.getD j.toNatClampNeg dv = v)
    {g : JFrame} (hg : g.method = m) {rest : List Value} (hs : g.stack = .int j :: .ref a :: rest) (hd : decode c.code g.pc = .ok (.baload, 1)) (t : State) (k : Steps p.tables e below (T.setTop { g with pc := g.pc + 1, stack := v :: rest }) t) : Steps p.tables e below (T.setTop g) t := by
  obtain ⟨c', A, -, S, -, H, -⟩ := F
  have i := inb_of S hj
  exact X.baloadBytes hx (by rw [eT]; exact A.1) (State.isArrayOf_alike hZ.alike A.2.1) A.2.2 i (H.at i hv) hg hs hd t k
theorem stVI {Z : State} {h : Heap} {a : Addr} {kc : ClassId} {z j : Int32} {vs : List Value} {dv : Value} {x : Int32} (X : Stand p l e R s m args below meth c T locs cells slots) (hx : p.tables.exec = Jvm.exec) (hZ : Z.Warmed39 s.vm) (eT : T.heap = h) (F : Arv Z h a kc .int z vs dv) (hj : ¬ j < 0 ∧ j < z) (i : Nat) (hi : j.toNatClampNeg = i) (hl : i < vs.length)
    {g : JFrame} (hg : g.method = m) {rest : List Value} (hs : g.stack = (.int x) :: .int j :: .ref a :: rest) (hd : decode c.code g.pc = .ok (.iastore, 1)) :
    ∃ T' h', Stand p l e R s m args below meth c T' (locs ++ [⟨a, j.toNatClampNeg⟩]) cells slots ∧ T'.heap = h' ∧ Wr h h' a j.toNatClampNeg (.int x) ∧ Arv Z h' a kc .int z (vs.set i (.int x)) dv ∧ ∀ target, Steps p.tables e below (T'.setTop { g with pc := g.pc + 1, stack := rest }) target → Steps p.tables e below (T.setTop g) target := by
  obtain ⟨c', A, q, S, M, H, G⟩ := F
  obtain ⟨T', h', X', e', W', st⟩ := stI X hx hZ eT A (inb_of S hj) hg hs hd
  exact ⟨T', h', X', e', W', Arv.set A q S M H G rfl W' i hi hl, st⟩
theorem stVJ {Z : State} {h : Heap} {a : Addr} {kc : ClassId} {z j : Int32} {vs : List Value} {dv : Value} {x : Int64} (X : Stand p l e R s m args below meth c T locs cells slots) (hx : p.tables.exec = Jvm.exec) (hZ : Z.Warmed39 s.vm) (eT : T.heap = h) (F : Arv Z h a kc .long z vs dv) (hj : ¬ j < 0 ∧ j < z) (i : Nat) (hi : j.toNatClampNeg = i) (hl : i < vs.length)
    {g : JFrame} (hg : g.method = m) {rest : List Value} (hs : g.stack = (.long x) :: .int j :: .ref a :: rest) (hd : decode c.code g.pc = .ok (.lastore, 1)) :
    ∃ T' h', Stand p l e R s m args below meth c T' (locs ++ [⟨a, j.toNatClampNeg⟩]) cells slots ∧ T'.heap = h' ∧ Wr h h' a j.toNatClampNeg (.long x) ∧ Arv Z h' a kc .long z (vs.set i (.long x)) dv ∧ ∀ target, Steps p.tables e below (T'.setTop { g with pc := g.pc + 1, stack := rest }) target → Steps p.tables e below (T.setTop g) target := by
  obtain ⟨c', A, q, S, M, H, G⟩ := F
  obtain ⟨T', h', X', e', W', st⟩ := stJ X hx hZ eT A (inb_of S hj) hg hs hd
  exact ⟨T', h', X', e', W', Arv.set A q S M H G rfl W' i hi hl, st⟩
theorem stVB {Z : State} {h : Heap} {a : Addr} {kc : ClassId} {z j : Int32} {vs : List Value} {dv : Value} {x : Int32} (X : Stand p l e R s m args below meth c T locs cells slots) (hx : p.tables.exec = Jvm.exec) (hZ : Z.Warmed39 s.vm) (eT : T.heap = h) (F : Arv Z h a kc .byte z vs dv) (hj : ¬ j < 0 ∧ j < z) (i : Nat) (hi : j.toNatClampNeg = i) (hl : i < vs.length)
    {g : JFrame} (hg : g.method = m) {rest : List Value} (hs : g.stack = (.int x) :: .int j :: .ref a :: rest) (hd : decode c.code g.pc = .ok (.bastore, 1)) :
    ∃ T' h', Stand p l e R s m args below meth c T' (locs ++ [⟨a, j.toNatClampNeg⟩]) cells slots ∧ T'.heap = h' ∧ Wr h h' a j.toNatClampNeg (.int (nar .byte x)) ∧ Arv Z h' a kc .byte z (vs.set i (.int (nar .byte x))) dv ∧ ∀ target, Steps p.tables e below (T'.setTop { g with pc := g.pc + 1, stack := rest }) target → Steps p.tables e below (T.setTop g) target := by
  obtain ⟨c', A, q, S, M, H, G⟩ := F
  obtain ⟨T', h', X', e', W', st⟩ := stB X hx hZ eT A (inb_of S hj) hg hs hd
  exact ⟨T', h', X', e', W', Arv.set A q S M H G (fits_nar_byte _) W' i hi hl, st⟩
theorem lnV {Z : State} {h : Heap} {a : Addr} {kc : ClassId} {ty : FieldType} {z : Int32} {vs : List Value} {dv : Value} (X : Stand p l e R s m args below meth c T locs cells slots) (hx : p.tables.exec = Jvm.exec) (hZ : Z.Warmed39 s.vm) (eT : T.heap = h) (F : Arv Z h a kc ty z vs dv)
    {g : JFrame} (hg : g.method = m) {rest : List Value} (hs : g.stack = .ref a :: rest) (hd : decode c.code g.pc = .ok (.arraylength, 1)) (t : State) (k : Steps p.tables e below (T.setTop { g with pc := g.pc + 1, stack := .int z :: rest }) t) : Steps p.tables e below (T.setTop g) t := by
  obtain ⟨c', A, -, S, M, -, -⟩ := F
  refine X.arraylength hx (by rw [eT]; exact A.1) (State.isArrayOf_alike hZ.alike A.2.1) hg hs hd t ?_
  rw [len_of S M]; exact k
theorem gdI (vs : List Int32) (d : Int32) (i : Nat) : (vs.map Value.int).getD i (.int d) = .int (vs.getD i d) := by
  induction vs generalizing i with
  | nil => rfl
  | cons a t ih => cases i with
    | zero => rfl
    | succ i => simpa using ih i
theorem gdJ (vs : List Int64) (d : Int64) (i : Nat) : (vs.map Value.long).getD i (.long d) = .long (vs.getD i d) := by
  induction vs generalizing i with
  | nil => rfl
  | cons a t ih => cases i with
    | zero => rfl
    | succ i => simpa using ih i
end Own
end Jvm.RoadKit
namespace Jvm.RoadKit
open Sem ClassFile Op Lib Jvm.Stand Jvm.Free Jvm.LawKit
/-- a private instance method is selected by itself; that its class is no interface comes out of any 'selects' word that lands in that class -/
theorem selOwn {s : State} {args : Array Value} {C : String} {y y2 z2 : MethodName} (hinst : (Cond.instanceMethod y).before args s = true) (hpriv : s.PrivateAt y) (hsel : (Cond.selects C y2 z2).before args s = true) (hcls : z2.cls = y.cls) (hy : y.cls ≠ "java/lang/invoke/MethodHandle" ∧ y.cls ≠ "java/lang/invoke/VarHandle") : (Cond.selects y.cls y y).before args s = true := by
  obtain ⟨mk, meth, hn, hm, -, -⟩ := Cond.instanceMethod_spec hinst
  obtain ⟨-, -, m2, -, -, q3, -, kP, hkP, hni⟩ := Cond.selects_spec hsel
  have hc := findClass_of_methodNamed hn
  have hc2 := findClass_of_methodNamed q3
  rw [hcls] at hc2
  have ec : m2.cls = mk.cls := Option.some.inj (hc2.symm.trans hc)
  rw [ec] at hkP
  have hf : s.methodFound? y.cls y.name y.desc = some mk := State.methodFound?_of_named hn hy
  have hs : selectMethod {} s.vm mk.cls mk = .method mk := selectMethod_private hm (hpriv mk meth hn hm)
  simp [Cond.before, Cond.holds, Cond.value, hc, hf, hn, hs, hkP, hni]
end Jvm.RoadKit
namespace Jvm.Pilot.@@N@@
open Jvm Jvm.ClassFile Sem Op Lib Jvm.Free Jvm.Stand Jvm.LawKit Jvm.RoadKit Bundle Jvm.Pilot.@@N@@.Jvm.D
def own_minL (x y : Int64) : Int64 := if y < x then y else x
theorem d1_0 : decode jdk_29_method_70_code 0 = .ok (.lload_n 0, 1) := by decide +kernel
theorem d1_1 : decode jdk_29_method_70_code 1 = .ok (.lload_n 2, 1) := by decide +kernel
theorem d1_2 : decode jdk_29_method_70_code 2 = .ok (.lcmp, 1) := by decide +kernel
theorem d1_3 : decode jdk_29_method_70_code 3 = .ok (.ifCond .gt 7, 3) := by decide +kernel
theorem d1_10 : decode jdk_29_method_70_code 10 = .ok (.lload_n 2, 1) := by decide +kernel
theorem d1_11 : decode jdk_29_method_70_code 11 = .ok (.lreturn, 1) := by decide +kernel
theorem d1_6 : decode jdk_29_method_70_code 6 = .ok (.lload_n 0, 1) := by decide +kernel
theorem d1_7 : decode jdk_29_method_70_code 7 = .ok (.goto 4, 3) := by decide +kernel
def RM1 : Room := { frames := 0, cells := 0, slots := 0, locals := 0 }
def Q1 (Z : State) (q1 : Int64) (q2 : Int64) (h0 : Heap) (n0 : Nat) (v : Option Value) (h : Heap) (L : List Loc) : Prop := v = some (.long (own_minL q1 q2)) ∧ Fr n0 L ∧ h = h0
set_option maxRecDepth 65536 in
set_option maxHeartbeats 40000000 in
theorem rm1 (l : Launch) (Z : State) (a0 : Array Value) (hw : ∀ d ∈ tables_1, d.before a0 Z = true) (ws : List Jvm.Cond) (q1 : Int64) (q2 : Int64) (h0 : Heap) (n0 : Nat) (Z0 : n0 ≤ h0.size)  :
    MetFree l (⟨"java/lang/Math", "min", "(JJ)J"⟩ : MethodName) (head1 (Jvm.Cond.code (⟨"java/lang/Math", "min", "(JJ)J"⟩ : MethodName) jdk_29_method_70_code 4 (some .long) :: ws) RM1) (fun a U => a = #[(.long q1), (.long q2)] ∧ Z.Warmed39 U.vm ∧ U.heap = h0) (fun _ _ _ _ _ => True) (fun _ U o U' => ∃ v L, o = .returned v ∧ Q1 Z q1 q2 h0 n0 v U'.heap L ∧ FrameEnd U o U' L RM1.cells RM1.slots) := by
  refine met_of (Q := fun v h L => Q1 Z q1 q2 h0 n0 v h L) (Jvm.Free.JP.mathPlain rfl (by decide +kernel)) (fun m => by first | (simp [entryFrame, mkF, argsToLocals, Value.category]; done) | rfl) (Ls := #[.val (.long q1), .second, .val (.long q2), .second]) ?_
  intro p e s m below meth c T0 QQ hx hZ hby hml hown hnm hret hlk X0 e0 hQ
  have hml : c.maxLocals = 4 := hml
  have hown : s.vm.findClass "java/lang/Math" = some m.cls := hown
  have hnm : meth.name = "min" := hnm
  have hret : meth.sig.returnType = some .long := hret
  have N0 := Fr.nil n0
  have K0 : Keep h0 h0 [] := Keep.refl h0 _
  show GoW p e below QQ (T0.setTop (mkF m 0 #[.val (.long q1), .second, .val (.long q2), .second] []))
  refine GoW.st (fun t k => XS.lloadN X0.here hx rfl (hb hby d1_0) rfl (XS.lloadN X0.here hx rfl (hb hby d1_1) rfl (XS.lcmp X0.here hx rfl (hb hby d1_2) rfl k))) ?_
  show GoW p e below QQ (T0.setTop (mkF m 3 #[.val (.long q1), .second, .val (.long q2), .second] [(.int (lcmpW q1 q2))]))
  by_cases hc3 : q2 < q1
  · skip
    refine GoW.st (fun t k => XS.ifYes X0.here hx rfl (pc0 := 3) (pc' := 10) rfl (hb hby d1_3) rfl ((if0 _ _).trans (tlt ((lw_gt q1 q2).mpr hc3)).2.2.1) (by decide) (by decide) (XS.lloadN X0.here hx rfl (hb hby d1_10) rfl k)) ?_
    show GoW p e below QQ (T0.setTop (mkF m 11 #[.val (.long q1), .second, .val (.long q2), .second] [(.long q2)]))
    have rv : ((some (.long q2)) : Option Value) = some (.long (own_minL q1 q2)) := by
      rw [own_minL, if_pos hc3]
      all_goals first | rfl | (simp; done)
    exact GoW.fin X0 (some (.long q2)) (fun q => by rw [hret] at q; cases q) hlk hQ e0 ⟨rv, N0, rfl⟩ (by decide) (by decide) (fun fs hr => retOut X0 hx hret rfl (Or.inr (Or.inl ⟨rfl, rfl, _, rfl⟩)) (hb hby d1_11) hr)
  · skip
    refine GoW.st (fun t k => XS.ifNo X0.here hx rfl (hb hby d1_3) rfl ((if0 _ _).trans (flt (fun q => hc3 ((lw_gt q1 q2).mp q))).2.2.1) (XS.lloadN X0.here hx rfl (hb hby d1_6) rfl (XS.goto X0.here hx rfl (pc0 := 7) (pc' := 11) rfl (hb hby d1_7) (by decide) (by decide) k))) ?_
    show GoW p e below QQ (T0.setTop (mkF m 11 #[.val (.long q1), .second, .val (.long q2), .second] [(.long q1)]))
    have rv : ((some (.long q1)) : Option Value) = some (.long (own_minL q1 q2)) := by
      rw [own_minL, if_neg hc3]
      all_goals first | rfl | (simp; done)
    exact GoW.fin X0 (some (.long q1)) (fun q => by rw [hret] at q; cases q) hlk hQ e0 ⟨rv, N0, rfl⟩ (by decide) (by decide) (fun fs hr => retOut X0 hx hret rfl (Or.inr (Or.inl ⟨rfl, rfl, _, rfl⟩)) (hb hby d1_11) hr)
def own_maxL (x y : Int64) : Int64 := if x < y then y else x
theorem d2_0 : decode jdk_29_method_66_code 0 = .ok (.lload_n 0, 1) := by decide +kernel
theorem d2_1 : decode jdk_29_method_66_code 1 = .ok (.lload_n 2, 1) := by decide +kernel
theorem d2_2 : decode jdk_29_method_66_code 2 = .ok (.lcmp, 1) := by decide +kernel
theorem d2_3 : decode jdk_29_method_66_code 3 = .ok (.ifCond .lt 7, 3) := by decide +kernel
theorem d2_10 : decode jdk_29_method_66_code 10 = .ok (.lload_n 2, 1) := by decide +kernel
theorem d2_11 : decode jdk_29_method_66_code 11 = .ok (.lreturn, 1) := by decide +kernel
theorem d2_6 : decode jdk_29_method_66_code 6 = .ok (.lload_n 0, 1) := by decide +kernel
theorem d2_7 : decode jdk_29_method_66_code 7 = .ok (.goto 4, 3) := by decide +kernel
def RM2 : Room := { frames := 0, cells := 0, slots := 0, locals := 0 }
def Q2 (Z : State) (q1 : Int64) (q2 : Int64) (h0 : Heap) (n0 : Nat) (v : Option Value) (h : Heap) (L : List Loc) : Prop := v = some (.long (own_maxL q1 q2)) ∧ Fr n0 L ∧ h = h0
set_option maxRecDepth 65536 in
set_option maxHeartbeats 40000000 in
theorem rm2 (l : Launch) (Z : State) (a0 : Array Value) (hw : ∀ d ∈ tables_1, d.before a0 Z = true) (ws : List Jvm.Cond) (q1 : Int64) (q2 : Int64) (h0 : Heap) (n0 : Nat) (Z0 : n0 ≤ h0.size)  :
    MetFree l (⟨"java/lang/Math", "max", "(JJ)J"⟩ : MethodName) (head1 (Jvm.Cond.code (⟨"java/lang/Math", "max", "(JJ)J"⟩ : MethodName) jdk_29_method_66_code 4 (some .long) :: ws) RM2) (fun a U => a = #[(.long q1), (.long q2)] ∧ Z.Warmed39 U.vm ∧ U.heap = h0) (fun _ _ _ _ _ => True) (fun _ U o U' => ∃ v L, o = .returned v ∧ Q2 Z q1 q2 h0 n0 v U'.heap L ∧ FrameEnd U o U' L RM2.cells RM2.slots) := by
  refine met_of (Q := fun v h L => Q2 Z q1 q2 h0 n0 v h L) (Jvm.Free.JP.mathPlain rfl (by decide +kernel)) (fun m => by first | (simp [entryFrame, mkF, argsToLocals, Value.category]; done) | rfl) (Ls := #[.val (.long q1), .second, .val (.long q2), .second]) ?_
  intro p e s m below meth c T0 QQ hx hZ hby hml hown hnm hret hlk X0 e0 hQ
  have hml : c.maxLocals = 4 := hml
  have hown : s.vm.findClass "java/lang/Math" = some m.cls := hown
  have hnm : meth.name = "max" := hnm
  have hret : meth.sig.returnType = some .long := hret
  have N0 := Fr.nil n0
  have K0 : Keep h0 h0 [] := Keep.refl h0 _
  show GoW p e below QQ (T0.setTop (mkF m 0 #[.val (.long q1), .second, .val (.long q2), .second] []))
  refine GoW.st (fun t k => XS.lloadN X0.here hx rfl (hb hby d2_0) rfl (XS.lloadN X0.here hx rfl (hb hby d2_1) rfl (XS.lcmp X0.here hx rfl (hb hby d2_2) rfl k))) ?_
  show GoW p e below QQ (T0.setTop (mkF m 3 #[.val (.long q1), .second, .val (.long q2), .second] [(.int (lcmpW q1 q2))]))
  by_cases hc3 : q1 < q2
  · skip
    refine GoW.st (fun t k => XS.ifYes X0.here hx rfl (pc0 := 3) (pc' := 10) rfl (hb hby d2_3) rfl ((if0 _ _).trans (tlt ((lw_lt q1 q2).mpr hc3)).1) (by decide) (by decide) (XS.lloadN X0.here hx rfl (hb hby d2_10) rfl k)) ?_
    show GoW p e below QQ (T0.setTop (mkF m 11 #[.val (.long q1), .second, .val (.long q2), .second] [(.long q2)]))
    have rv : ((some (.long q2)) : Option Value) = some (.long (own_maxL q1 q2)) := by
      rw [own_maxL, if_pos hc3]
      all_goals first | rfl | (simp; done)
    exact GoW.fin X0 (some (.long q2)) (fun q => by rw [hret] at q; cases q) hlk hQ e0 ⟨rv, N0, rfl⟩ (by decide) (by decide) (fun fs hr => retOut X0 hx hret rfl (Or.inr (Or.inl ⟨rfl, rfl, _, rfl⟩)) (hb hby d2_11) hr)
  · skip
    refine GoW.st (fun t k => XS.ifNo X0.here hx rfl (hb hby d2_3) rfl ((if0 _ _).trans (flt (fun q => hc3 ((lw_lt q1 q2).mp q))).1) (XS.lloadN X0.here hx rfl (hb hby d2_6) rfl (XS.goto X0.here hx rfl (pc0 := 7) (pc' := 11) rfl (hb hby d2_7) (by decide) (by decide) k))) ?_
    show GoW p e below QQ (T0.setTop (mkF m 11 #[.val (.long q1), .second, .val (.long q2), .second] [(.long q1)]))
    have rv : ((some (.long q1)) : Option Value) = some (.long (own_maxL q1 q2)) := by
      rw [own_maxL, if_neg hc3]
      all_goals first | rfl | (simp; done)
    exact GoW.fin X0 (some (.long q1)) (fun q => by rw [hret] at q; cases q) hlk hQ e0 ⟨rv, N0, rfl⟩ (by decide) (by decide) (fun fs hr => retOut X0 hx hret rfl (Or.inr (Or.inl ⟨rfl, rfl, _, rfl⟩)) (hb hby d2_11) hr)
theorem own_nlt_of {x y : Int32} (h : y.toInt ≤ x.toInt) : ¬ x < y := by rw [Int32.lt_iff_toInt_lt]; omega
theorem own_lt_of {x y : Int32} (h : x.toInt < y.toInt) : x < y := by rw [Int32.lt_iff_toInt_lt]; exact h
theorem own_eq_of {x y : Int32} (h : x.toInt = y.toInt) : x = y := Int32.toInt_inj.mp h
theorem own_ne_of {x y : Int32} (h : x.toInt ≠ y.toInt) : ¬ x = y := fun q => h (congrArg Int32.toInt q)
theorem own_cap (x : Int32) (n : Nat) (h0 : 0 ≤ x.toInt) (h : x.toInt ≤ n) : x.toNatClampNeg ≤ n := by simp only [Int32.toNatClampNeg]; omega
def own_minI (x y : Int32) : Int32 := if y < x then y else x
theorem d8_0 : decode jdk_29_method_69_code 0 = .ok (.iload_n 0, 1) := by decide +kernel
theorem d8_1 : decode jdk_29_method_69_code 1 = .ok (.iload_n 1, 1) := by decide +kernel
theorem d8_2 : decode jdk_29_method_69_code 2 = .ok (.if_icmp .gt 7, 3) := by decide +kernel
theorem d8_9 : decode jdk_29_method_69_code 9 = .ok (.iload_n 1, 1) := by decide +kernel
theorem d8_10 : decode jdk_29_method_69_code 10 = .ok (.ireturn, 1) := by decide +kernel
theorem d8_5 : decode jdk_29_method_69_code 5 = .ok (.iload_n 0, 1) := by decide +kernel
theorem d8_6 : decode jdk_29_method_69_code 6 = .ok (.goto 4, 3) := by decide +kernel
def RM8 : Room := { frames := 0, cells := 0, slots := 0, locals := 0 }
def Q8 (Z : State) (p1 : Int32) (p2 : Int32) (h0 : Heap) (n0 : Nat) (v : Option Value) (h : Heap) (L : List Loc) : Prop := v = some (.int (own_minI p1 p2)) ∧ Fr n0 L ∧ h = h0
set_option maxRecDepth 65536 in
set_option maxHeartbeats 40000000 in
theorem rm8 (l : Launch) (Z : State) (a0 : Array Value) (hw : ∀ d ∈ tables_1, d.before a0 Z = true) (ws : List Jvm.Cond) (p1 : Int32) (p2 : Int32) (h0 : Heap) (n0 : Nat) (Z0 : n0 ≤ h0.size)  :
    MetFree l (⟨"java/lang/Math", "min", "(II)I"⟩ : MethodName) (head1 (Jvm.Cond.code (⟨"java/lang/Math", "min", "(II)I"⟩ : MethodName) jdk_29_method_69_code 2 (some .int) :: ws) RM8) (fun a U => a = #[(.int p1), (.int p2)] ∧ Z.Warmed39 U.vm ∧ U.heap = h0) (fun _ _ _ _ _ => True) (fun _ U o U' => ∃ v L, o = .returned v ∧ Q8 Z p1 p2 h0 n0 v U'.heap L ∧ FrameEnd U o U' L RM8.cells RM8.slots) := by
  refine met_of (Q := fun v h L => Q8 Z p1 p2 h0 n0 v h L) (Jvm.Free.JP.mathPlain rfl (by decide +kernel)) (fun m => by first | (simp [entryFrame, mkF, argsToLocals, Value.category]; done) | rfl) (Ls := #[.val (.int p1), .val (.int p2)]) ?_
  intro p e s m below meth c T0 QQ hx hZ hby hml hown hnm hret hlk X0 e0 hQ
  have hml : c.maxLocals = 2 := hml
  have hown : s.vm.findClass "java/lang/Math" = some m.cls := hown
  have hnm : meth.name = "min" := hnm
  have hret : meth.sig.returnType = some .int := hret
  have N0 := Fr.nil n0
  have K0 : Keep h0 h0 [] := Keep.refl h0 _
  show GoW p e below QQ (T0.setTop (mkF m 0 #[.val (.int p1), .val (.int p2)] []))
  refine GoW.st (fun t k => XS.iloadN X0.here hx rfl (hb hby d8_0) rfl (XS.iloadN X0.here hx rfl (hb hby d8_1) rfl k)) ?_
  show GoW p e below QQ (T0.setTop (mkF m 2 #[.val (.int p1), .val (.int p2)] [(.int p2), (.int p1)]))
  by_cases hc2 : p2 < p1
  · skip
    refine GoW.st (fun t k => XS.icmpYes X0.here hx rfl (pc0 := 2) (pc' := 9) rfl (hb hby d8_2) rfl (tlt hc2).2.2.1 (by decide) (by decide) (XS.iloadN X0.here hx rfl (hb hby d8_9) rfl k)) ?_
    show GoW p e below QQ (T0.setTop (mkF m 10 #[.val (.int p1), .val (.int p2)] [(.int p2)]))
    have rv : ((some (.int p2)) : Option Value) = some (.int (own_minI p1 p2)) := by
      rw [own_minI, if_pos hc2]
      all_goals first | rfl | (simp; done)
    exact GoW.fin X0 (some (.int p2)) (fun q => by rw [hret] at q; cases q) hlk hQ e0 ⟨rv, N0, rfl⟩ (by decide) (by decide) (fun fs hr => retI X0 hx hret (hb hby d8_10) hr)
  · skip
    refine GoW.st (fun t k => XS.icmpNo X0.here hx rfl (hb hby d8_2) rfl (flt hc2).2.2.1 (XS.iloadN X0.here hx rfl (hb hby d8_5) rfl (XS.goto X0.here hx rfl (pc0 := 6) (pc' := 10) rfl (hb hby d8_6) (by decide) (by decide) k))) ?_
    show GoW p e below QQ (T0.setTop (mkF m 10 #[.val (.int p1), .val (.int p2)] [(.int p1)]))
    have rv : ((some (.int p1)) : Option Value) = some (.int (own_minI p1 p2)) := by
      rw [own_minI, if_neg hc2]
      all_goals first | rfl | (simp; done)
    exact GoW.fin X0 (some (.int p1)) (fun q => by rw [hret] at q; cases q) hlk hQ e0 ⟨rv, N0, rfl⟩ (by decide) (by decide) (fun fs hr => retI X0 hx hret (hb hby d8_10) hr)
def own_maxI (x y : Int32) : Int32 := if x < y then y else x
theorem d5_0 : decode jdk_29_method_65_code 0 = .ok (.iload_n 0, 1) := by decide +kernel
theorem d5_1 : decode jdk_29_method_65_code 1 = .ok (.iload_n 1, 1) := by decide +kernel
theorem d5_2 : decode jdk_29_method_65_code 2 = .ok (.if_icmp .lt 7, 3) := by decide +kernel
theorem d5_9 : decode jdk_29_method_65_code 9 = .ok (.iload_n 1, 1) := by decide +kernel
theorem d5_10 : decode jdk_29_method_65_code 10 = .ok (.ireturn, 1) := by decide +kernel
theorem d5_5 : decode jdk_29_method_65_code 5 = .ok (.iload_n 0, 1) := by decide +kernel
theorem d5_6 : decode jdk_29_method_65_code 6 = .ok (.goto 4, 3) := by decide +kernel
def RM5 : Room := { frames := 0, cells := 0, slots := 0, locals := 0 }
def Q5 (Z : State) (p1 : Int32) (p2 : Int32) (h0 : Heap) (n0 : Nat) (v : Option Value) (h : Heap) (L : List Loc) : Prop := v = some (.int (own_maxI p1 p2)) ∧ Fr n0 L ∧ h = h0
set_option maxRecDepth 65536 in
set_option maxHeartbeats 40000000 in
theorem rm5 (l : Launch) (Z : State) (a0 : Array Value) (hw : ∀ d ∈ tables_1, d.before a0 Z = true) (ws : List Jvm.Cond) (p1 : Int32) (p2 : Int32) (h0 : Heap) (n0 : Nat) (Z0 : n0 ≤ h0.size)  :
    MetFree l (⟨"java/lang/Math", "max", "(II)I"⟩ : MethodName) (head1 (Jvm.Cond.code (⟨"java/lang/Math", "max", "(II)I"⟩ : MethodName) jdk_29_method_65_code 2 (some .int) :: ws) RM5) (fun a U => a = #[(.int p1), (.int p2)] ∧ Z.Warmed39 U.vm ∧ U.heap = h0) (fun _ _ _ _ _ => True) (fun _ U o U' => ∃ v L, o = .returned v ∧ Q5 Z p1 p2 h0 n0 v U'.heap L ∧ FrameEnd U o U' L RM5.cells RM5.slots) := by
  refine met_of (Q := fun v h L => Q5 Z p1 p2 h0 n0 v h L) (Jvm.Free.JP.mathPlain rfl (by decide +kernel)) (fun m => by first | (simp [entryFrame, mkF, argsToLocals, Value.category]; done) | rfl) (Ls := #[.val (.int p1), .val (.int p2)]) ?_
  intro p e s m below meth c T0 QQ hx hZ hby hml hown hnm hret hlk X0 e0 hQ
  have hml : c.maxLocals = 2 := hml
  have hown : s.vm.findClass "java/lang/Math" = some m.cls := hown
  have hnm : meth.name = "max" := hnm
  have hret : meth.sig.returnType = some .int := hret
  have N0 := Fr.nil n0
  have K0 : Keep h0 h0 [] := Keep.refl h0 _
  show GoW p e below QQ (T0.setTop (mkF m 0 #[.val (.int p1), .val (.int p2)] []))
  refine GoW.st (fun t k => XS.iloadN X0.here hx rfl (hb hby d5_0) rfl (XS.iloadN X0.here hx rfl (hb hby d5_1) rfl k)) ?_
  show GoW p e below QQ (T0.setTop (mkF m 2 #[.val (.int p1), .val (.int p2)] [(.int p2), (.int p1)]))
  by_cases hc2 : p1 < p2
  · skip
    refine GoW.st (fun t k => XS.icmpYes X0.here hx rfl (pc0 := 2) (pc' := 9) rfl (hb hby d5_2) rfl (tlt hc2).1 (by decide) (by decide) (XS.iloadN X0.here hx rfl (hb hby d5_9) rfl k)) ?_
    show GoW p e below QQ (T0.setTop (mkF m 10 #[.val (.int p1), .val (.int p2)] [(.int p2)]))
    have rv : ((some (.int p2)) : Option Value) = some (.int (own_maxI p1 p2)) := by
      rw [own_maxI, if_pos hc2]
      all_goals first | rfl | (simp; done)
    exact GoW.fin X0 (some (.int p2)) (fun q => by rw [hret] at q; cases q) hlk hQ e0 ⟨rv, N0, rfl⟩ (by decide) (by decide) (fun fs hr => retI X0 hx hret (hb hby d5_10) hr)
  · skip
    refine GoW.st (fun t k => XS.icmpNo X0.here hx rfl (hb hby d5_2) rfl (flt hc2).1 (XS.iloadN X0.here hx rfl (hb hby d5_5) rfl (XS.goto X0.here hx rfl (pc0 := 6) (pc' := 10) rfl (hb hby d5_6) (by decide) (by decide) k))) ?_
    show GoW p e below QQ (T0.setTop (mkF m 10 #[.val (.int p1), .val (.int p2)] [(.int p1)]))
    have rv : ((some (.int p1)) : Option Value) = some (.int (own_maxI p1 p2)) := by
      rw [own_maxI, if_neg hc2]
      all_goals first | rfl | (simp; done)
    exact GoW.fin X0 (some (.int p1)) (fun q => by rw [hret] at q; cases q) hlk hQ e0 ⟨rv, N0, rfl⟩ (by decide) (by decide) (fun fs hr => retI X0 hx hret (hb hby d5_10) hr)
theorem own_max1 (x : Int32) (h : x.toInt ≤ 7) : 1 ≤ (own_maxI (1 : Int32) x).toInt ∧ (own_maxI (1 : Int32) x).toInt ≤ 7 := by
  have z : (1 : Int32).toInt = 1 := rfl
  rw [own_maxI]
  split
  · rename_i q; rw [Int32.lt_iff_toInt_lt] at q; omega
  · omega
theorem pn_0 : plainName "com/example/eunomia/eunomia/sticky/LongHeap" = true := by first | (simp [plainName, overriddenIn]; done) | decide +kernel
theorem d3_0 : decode prog_40_method_1_code 0 = .ok (.aload_n 0, 1) := by decide +kernel
theorem d3_1 : decode prog_40_method_1_code 1 = .ok (.invokespecial 1, 3) := by decide +kernel
theorem d3_4 : decode prog_40_method_1_code 4 = .ok (.aload_n 0, 1) := by decide +kernel
theorem d3_5 : decode prog_40_method_1_code 5 = .ok (.iconst 1, 1) := by decide +kernel
theorem d3_6 : decode prog_40_method_1_code 6 = .ok (.iload_n 1, 1) := by decide +kernel
theorem d3_7 : decode prog_40_method_1_code 7 = .ok (.invokestatic 7, 3) := by decide +kernel
theorem pd_0 : parseMethodDescriptor "(II)I" = some ⟨[.int, .int], some .int⟩ := by decide +kernel
theorem d3_10 : decode prog_40_method_1_code 10 = .ok (.newarray .long, 2) := by decide +kernel
theorem d3_12 : decode prog_40_method_1_code 12 = .ok (.putfield 13, 3) := by decide +kernel
theorem d3_15 : decode prog_40_method_1_code 15 = .ok (.return_, 1) := by decide +kernel
def RM3 : Room := { frames := 1, cells := 1, slots := 7, locals := 14 }
def Q3 (Z : State) (a1 : Addr) (p1 : Int32) (h0 : Heap) (n0 : Nat) (v : Option Value) (h : Heap) (L : List Loc) : Prop := ∃ (b : Addr) (kb : ClassId) (z : Int32), v = none ∧ Fr n0 L ∧ Keep h0 h [a1] ∧ (Exa Z h a1 "com/example/eunomia/eunomia/sticky/LongHeap") ∧ (Fld Z h a1 "com/example/eunomia/eunomia/sticky/LongHeap" "values" "[J" (.ref b)) ∧ (Fld Z h a1 "com/example/eunomia/eunomia/sticky/LongHeap" "size" "I" (.int (0 : Int32))) ∧ (h0.size ≤ b) ∧ (Arv Z h b kb .long z [(.long (0 : Int64)), (.long (0 : Int64)), (.long (0 : Int64)), (.long (0 : Int64))] (.long (0 : Int64))) ∧ (1 ≤ z.toInt ∧ z.toInt ≤ 7)
set_option maxRecDepth 65536 in
set_option maxHeartbeats 40000000 in
theorem rm3 (l : Launch) (Z : State) (a0 : Array Value) (hw : ∀ d ∈ tables_1, d.before a0 Z = true) (ws : List Jvm.Cond) (a1 : Addr) (p1 : Int32) (h0 : Heap) (n0 : Nat) (Z0 : n0 ≤ h0.size) (pre_E_a1 : Exa Z h0 a1 "com/example/eunomia/eunomia/sticky/LongHeap") (pre_g_a1 : n0 ≤ a1) (pre_F_a1_values : Fld Z h0 a1 "com/example/eunomia/eunomia/sticky/LongHeap" "values" "[J" .null) (pre_F_a1_size : Fld Z h0 a1 "com/example/eunomia/eunomia/sticky/LongHeap" "size" "I" (.int (0 : Int32))) (hp : p1.toInt ≤ 7) :
    MetFree l (⟨"com/example/eunomia/eunomia/sticky/LongHeap", "<init>", "(I)V"⟩ : MethodName) (head1 (Jvm.Cond.code (⟨"com/example/eunomia/eunomia/sticky/LongHeap", "<init>", "(I)V"⟩ : MethodName) prog_40_method_1_code 2 none :: ws) RM3) (fun a U => a = #[(.ref a1), (.int p1)] ∧ Z.Warmed39 U.vm ∧ U.heap = h0) (fun _ _ _ _ _ => True) (fun _ U o U' => ∃ v L, o = .returned v ∧ Q3 Z a1 p1 h0 n0 v U'.heap L ∧ FrameEnd U o U' L RM3.cells RM3.slots) := by
  refine met_of (Q := fun v h L => Q3 Z a1 p1 h0 n0 v h L) (plainFor_of_name pn_0) (fun m => by first | (simp [entryFrame, mkF, argsToLocals, Value.category]; done) | rfl) (Ls := #[.val (.ref a1), .val (.int p1)]) ?_
  intro p e s m below meth c T0 QQ hx hZ hby hml hown hnm hret hlk X0 e0 hQ
  have hml : c.maxLocals = 2 := hml
  have hown : s.vm.findClass "com/example/eunomia/eunomia/sticky/LongHeap" = some m.cls := hown
  have hnm : meth.name = "<init>" := hnm
  have hret : meth.sig.returnType = none := hret
  have N0 := Fr.nil n0
  have K0 : Keep h0 h0 [a1] := Keep.refl h0 _
  show GoW p e below QQ (T0.setTop (mkF m 0 #[.val (.ref a1), .val (.int p1)] []))
  refine GoW.st (fun t k => XS.aloadN X0.here hx rfl (hb hby d3_0) rfl rfl k) ?_
  show GoW p e below QQ (T0.setTop (mkF m 1 #[.val (.ref a1), .val (.int p1)] [(.ref a1)]))
  obtain ⟨T1, X1, e1, st1⟩ := initO X0 hx hZ hown (hw _ (List.mem_of_getElem? (i := 13) rfl)) (hw _ (List.mem_of_getElem? (i := 14) rfl)) (hw _ (List.mem_of_getElem? (i := 15) rfl)) e0 (g := (mkF m 1 #[.val (.ref a1), .val (.int p1)] [(.ref a1)])) rfl (by rw [hml]; rfl) rfl (hb hby d3_1) (by decide) (W := 0) (by show 2 * 0 + _ ≤ _; exact Nat.le_of_eq rfl) (by decide)
  refine GoW.st st1 ?_
  show GoW p e below QQ (T1.setTop (mkF m 4 #[.val (.ref a1), .val (.int p1)] []))
  have mx := own_max1 p1 hp
  have z0 : (0 : Int32).toInt = 0 := rfl
  refine GoW.st (fun t k => XS.aloadN X1.here hx rfl (hb hby d3_4) rfl rfl (XS.iconst X1.here hx rfl (hb hby d3_5) (XS.iloadN X1.here hx rfl (hb hby d3_6) rfl k))) ?_
  show GoW p e below QQ (T1.setTop (mkF m 7 #[.val (.ref a1), .val (.int p1)] [(.int p1), (.int (1 : Int32)), (.ref a1)]))
  obtain ⟨_, _, ⟨T2, zL2, zk2, zn2⟩, -, X2, ⟨Lc2, hQ2, zl2, zy2, zz2⟩, st2⟩ := Jvm.LawKit.callS X1 hx (y := (⟨"java/lang/Math", "max", "(II)I"⟩ : MethodName)) hown (mvT hZ (hw _ (List.mem_of_getElem? (i := 16) rfl))) (mvT hZ (hw _ (List.mem_of_getElem? (i := 17) rfl))) (mvT hZ (hw _ (List.mem_of_getElem? (i := 2) rfl))) (mvT hZ (hw _ (List.mem_of_getElem? (i := 18) rfl))) (by decide) (backOf (W := 1) (rm5 l Z a0 hw [] (1 : Int32) p1 h0 n0 (Nat.le_trans Z0 K0.1) ) hZ (hw _ (List.mem_of_getElem? (i := 18) rfl)) (hw _ (List.mem_of_getElem? (i := 2) rfl)) (by decide) (by decide)) (g := (mkF m 7 #[.val (.ref a1), .val (.int p1)] [(.int p1), (.int (1 : Int32)), (.ref a1)])) rfl (by rw [hml]; rfl) (argsL := [(.int (1 : Int32)), (.int p1)]) (rest := [(.ref a1)]) (lenOf pd_0 rfl) rfl (by show 2 * 0 + _ ≤ _; exact Nat.le_of_eq rfl) (hb hby d3_7) (fun _ _ => ⟨rfl, e1, (by decide : 0 + 0 ≤ _), (by decide : 0 + 0 ≤ _)⟩)
  dsimp only [Pt.U, Pt.locs, Pt.cells, Pt.slots] at X2 zl2 zy2 zz2 st2 hQ2
  subst zl2 zy2 zz2
  obtain ⟨rfl, Nq2, hh2⟩ := hQ2
  have N2 := Fr.app N0 Nq2
  refine GoW.st st2 ?_
  show GoW p e below QQ (T2.setTop (mkF m 10 #[.val (.ref a1), .val (.int p1)] [(.int (own_maxI (1 : Int32) p1)), (.ref a1)]))
  obtain ⟨T3, h3, k3, X3, e3, E3, A3, st3⟩ := newP X2 hx hZ (hw _ (List.mem_of_getElem? (i := 19) rfl)) hh2 (g := (mkF m 10 #[.val (.ref a1), .val (.int p1)] [(.int (own_maxI (1 : Int32) p1)), (.ref a1)])) rfl (hb hby d3_10) rfl (own_nlt_of (by omega)) (cap := 7) (own_cap _ 7 (by omega) (by omega)) (by decide) (by decide) (by decide)
  obtain ⟨b3, g3⟩ : ∃ z, z = h0.size := ⟨_, rfl⟩
  rw [← g3] at A3 st3
  refine GoW.st st3 ?_
  have gg3 : n0 ≤ b3 := Nat.le_trans (Nat.le_trans Z0 K0.1) (Nat.le_of_eq g3.symm)
  have sz3 : h0.size ≤ b3 := Nat.le_trans K0.1 (Nat.le_of_eq g3.symm)
  have ne3_a1 : a1 ≠ b3 := Nat.ne_of_lt (Nat.lt_of_lt_of_le pre_E_a1.lt (Nat.le_of_eq g3.symm))
  have f4_E_a1 : Exa Z h3 a1 "com/example/eunomia/eunomia/sticky/LongHeap" := pre_E_a1.ext E3
  have f4_F_a1_values : Fld Z h3 a1 "com/example/eunomia/eunomia/sticky/LongHeap" "values" "[J" .null := pre_F_a1_values.ext E3
  have f4_F_a1_size : Fld Z h3 a1 "com/example/eunomia/eunomia/sticky/LongHeap" "size" "I" (.int (0 : Int32)) := pre_F_a1_size.ext E3
  have K3 : Keep h0 h3 [a1] := K0.ext E3
  have V3 : Arv Z h3 b3 k3 .long (own_maxI (1 : Int32) p1) [(.long (0 : Int64)), (.long (0 : Int64)), (.long (0 : Int64)), (.long (0 : Int64))] (.long (0 : Int64)) := (Arv.new A3 (own_nlt_of (by omega))).pad (pad_rep [] (.long (0 : Int64)) 4)
  show GoW p e below QQ (T3.setTop (mkF m 12 #[.val (.ref a1), .val (.int p1)] [(.ref b3), (.ref a1)]))
  obtain ⟨T5, h5, X5, e5, W5, st5⟩ := putF X3 hx hZ hown (host := "") (Or.inl (hw _ (List.mem_of_getElem? (i := 20) rfl))) Via.refl e3 f4_F_a1_values f4_E_a1 (Or.inl (hw _ (List.mem_of_getElem? (i := 21) rfl))) (hw _ (List.mem_of_getElem? (i := 8) rfl)) (ty := (.array .long)) (by decide) rfl rfl (g := (mkF m 12 #[.val (.ref a1), .val (.int p1)] [(.ref b3), (.ref a1)])) rfl rfl (hb hby d3_12)
  refine GoW.st st5 ?_
  have f6_E_a1 : Exa Z h5 a1 "com/example/eunomia/eunomia/sticky/LongHeap" := f4_E_a1.wr W5
  have f6_F_a1_values : Fld Z h5 a1 "com/example/eunomia/eunomia/sticky/LongHeap" "values" "[J" (.ref b3) := f4_F_a1_values.same W5
  have f6_F_a1_size : Fld Z h5 a1 "com/example/eunomia/eunomia/sticky/LongHeap" "size" "I" (.int (0 : Int32)) := f4_F_a1_size.other W5 (Or.inr (slot_ne (Or.inl (hw _ (List.mem_of_getElem? (i := 28) rfl))) (Or.inl (hw _ (List.mem_of_getElem? (i := 21) rfl))) (by decide) (t := .int) (t' := (.array .long)) (by decide) (by decide)))
  have f6_V_b3 : Arv Z h5 b3 k3 .long (own_maxI (1 : Int32) p1) [(.long (0 : Int64)), (.long (0 : Int64)), (.long (0 : Int64)), (.long (0 : Int64))] (.long (0 : Int64)) := V3.other W5 (Ne.symm ne3_a1)
  have K5 : Keep h0 h5 [a1] := K3.wr W5 (Or.inl (List.mem_of_getElem? (i := 0) rfl))
  have N5 := Fr.snoc X5 N2 pre_g_a1
  show GoW p e below QQ (T5.setTop (mkF m 15 #[.val (.ref a1), .val (.int p1)] []))
  exact GoW.fin X5 none (fun _ => rfl) hlk hQ e5 ⟨b3, k3, (own_maxI (1 : Int32) p1), rfl, N5, K5, f6_E_a1, f6_F_a1_values, f6_F_a1_size, sz3, f6_V_b3, mx⟩ (by decide) (by decide) (fun fs hr => X5.returnOut hx hret (hb hby d3_15) hr)
theorem d12_0 : decode prog_40_method_2_code 0 = .ok (.aload_n 0, 1) := by decide +kernel
theorem d12_1 : decode prog_40_method_2_code 1 = .ok (.getfield 19, 3) := by decide +kernel
theorem d12_4 : decode prog_40_method_2_code 4 = .ok (.ifCond .ne 7, 3) := by decide +kernel
theorem d12_7 : decode prog_40_method_2_code 7 = .ok (.iconst 1, 1) := by decide +kernel
theorem d12_8 : decode prog_40_method_2_code 8 = .ok (.goto 4, 3) := by decide +kernel
theorem d12_12 : decode prog_40_method_2_code 12 = .ok (.ireturn, 1) := by decide +kernel
def RM12_0 : Room := { frames := 0, cells := 0, slots := 0, locals := 0 }
def Q12_0 (Z : State) (a1 : Addr) (h0 : Heap) (n0 : Nat) (v : Option Value) (h : Heap) (L : List Loc) : Prop := v = some (.int (1 : Int32)) ∧ Fr n0 L ∧ h = h0
set_option maxRecDepth 65536 in
set_option maxHeartbeats 40000000 in
theorem rm12_0 (l : Launch) (Z : State) (a0 : Array Value) (hw : ∀ d ∈ tables_1, d.before a0 Z = true) (ws : List Jvm.Cond) (a1 : Addr) (h0 : Heap) (n0 : Nat) (Z0 : n0 ≤ h0.size) (pre_F_a1_size : Fld Z h0 a1 "com/example/eunomia/eunomia/sticky/LongHeap" "size" "I" (.int (0 : Int32))) :
    MetFree l (⟨"com/example/eunomia/eunomia/sticky/LongHeap", "isEmpty", "()Z"⟩ : MethodName) (head1 (Jvm.Cond.code (⟨"com/example/eunomia/eunomia/sticky/LongHeap", "isEmpty", "()Z"⟩ : MethodName) prog_40_method_2_code 1 (some .boolean) :: ws) RM12_0) (fun a U => a = #[(.ref a1)] ∧ Z.Warmed39 U.vm ∧ U.heap = h0) (fun _ _ _ _ _ => True) (fun _ U o U' => ∃ v L, o = .returned v ∧ Q12_0 Z a1 h0 n0 v U'.heap L ∧ FrameEnd U o U' L RM12_0.cells RM12_0.slots) := by
  refine met_of (Q := fun v h L => Q12_0 Z a1 h0 n0 v h L) (plainFor_of_name pn_0) (fun m => by first | (simp [entryFrame, mkF, argsToLocals, Value.category]; done) | rfl) (Ls := #[.val (.ref a1)]) ?_
  intro p e s m below meth c T0 QQ hx hZ hby hml hown hnm hret hlk X0 e0 hQ
  have hml : c.maxLocals = 1 := hml
  have hown : s.vm.findClass "com/example/eunomia/eunomia/sticky/LongHeap" = some m.cls := hown
  have hnm : meth.name = "isEmpty" := hnm
  have hret : meth.sig.returnType = some .boolean := hret
  have N0 := Fr.nil n0
  have K0 : Keep h0 h0 [] := Keep.refl h0 _
  show GoW p e below QQ (T0.setTop (mkF m 0 #[.val (.ref a1)] []))
  refine GoW.st (fun t k => XS.aloadN X0.here hx rfl (hb hby d12_0) rfl rfl k) ?_
  show GoW p e below QQ (T0.setTop (mkF m 1 #[.val (.ref a1)] [(.ref a1)]))
  obtain ⟨T1, X1, e1, st1⟩ := getF X0 hx hZ hown (host := "") (Or.inl (hw _ (List.mem_of_getElem? (i := 27) rfl))) Via.refl e0 pre_F_a1_size (g := (mkF m 1 #[.val (.ref a1)] [(.ref a1)])) rfl rfl (hb hby d12_1)
  refine GoW.st st1 ?_
  show GoW p e below QQ (T1.setTop (mkF m 4 #[.val (.ref a1)] [(.int (0 : Int32))]))
  have hc4 : (0 : Int32) = (0 : Int32) := by decide
  refine GoW.st (fun t k => XS.ifNo X1.here hx rfl (hb hby d12_4) rfl ((if0 _ _).trans (teq hc4).2) (XS.iconst X1.here hx rfl (hb hby d12_7) (XS.goto X1.here hx rfl (pc0 := 8) (pc' := 12) rfl (hb hby d12_8) (by decide) (by decide) k))) ?_
  show GoW p e below QQ (T1.setTop (mkF m 12 #[.val (.ref a1)] [(.int (1 : Int32))]))
  exact GoW.fin X1 (some (.int (nar .boolean (1 : Int32)))) (fun q => by rw [hret] at q; cases q) hlk hQ e1 ⟨rfl, N0, rfl⟩ (by decide) (by decide) (fun fs hr => retN X1 hx (t := .boolean) hret (by simp) (hb hby d12_12) hr)
theorem d12_11 : decode prog_40_method_2_code 11 = .ok (.iconst 0, 1) := by decide +kernel
def RM12_1 : Room := { frames := 0, cells := 0, slots := 0, locals := 0 }
def Q12_1 (Z : State) (a1 : Addr) (h0 : Heap) (n0 : Nat) (v : Option Value) (h : Heap) (L : List Loc) : Prop := v = some (.int (0 : Int32)) ∧ Fr n0 L ∧ h = h0
set_option maxRecDepth 65536 in
set_option maxHeartbeats 40000000 in
theorem rm12_1 (l : Launch) (Z : State) (a0 : Array Value) (hw : ∀ d ∈ tables_1, d.before a0 Z = true) (ws : List Jvm.Cond) (a1 : Addr) (h0 : Heap) (n0 : Nat) (Z0 : n0 ≤ h0.size) (pre_F_a1_size : Fld Z h0 a1 "com/example/eunomia/eunomia/sticky/LongHeap" "size" "I" (.int (1 : Int32))) :
    MetFree l (⟨"com/example/eunomia/eunomia/sticky/LongHeap", "isEmpty", "()Z"⟩ : MethodName) (head1 (Jvm.Cond.code (⟨"com/example/eunomia/eunomia/sticky/LongHeap", "isEmpty", "()Z"⟩ : MethodName) prog_40_method_2_code 1 (some .boolean) :: ws) RM12_1) (fun a U => a = #[(.ref a1)] ∧ Z.Warmed39 U.vm ∧ U.heap = h0) (fun _ _ _ _ _ => True) (fun _ U o U' => ∃ v L, o = .returned v ∧ Q12_1 Z a1 h0 n0 v U'.heap L ∧ FrameEnd U o U' L RM12_1.cells RM12_1.slots) := by
  refine met_of (Q := fun v h L => Q12_1 Z a1 h0 n0 v h L) (plainFor_of_name pn_0) (fun m => by first | (simp [entryFrame, mkF, argsToLocals, Value.category]; done) | rfl) (Ls := #[.val (.ref a1)]) ?_
  intro p e s m below meth c T0 QQ hx hZ hby hml hown hnm hret hlk X0 e0 hQ
  have hml : c.maxLocals = 1 := hml
  have hown : s.vm.findClass "com/example/eunomia/eunomia/sticky/LongHeap" = some m.cls := hown
  have hnm : meth.name = "isEmpty" := hnm
  have hret : meth.sig.returnType = some .boolean := hret
  have N0 := Fr.nil n0
  have K0 : Keep h0 h0 [] := Keep.refl h0 _
  show GoW p e below QQ (T0.setTop (mkF m 0 #[.val (.ref a1)] []))
  refine GoW.st (fun t k => XS.aloadN X0.here hx rfl (hb hby d12_0) rfl rfl k) ?_
  show GoW p e below QQ (T0.setTop (mkF m 1 #[.val (.ref a1)] [(.ref a1)]))
  obtain ⟨T1, X1, e1, st1⟩ := getF X0 hx hZ hown (host := "") (Or.inl (hw _ (List.mem_of_getElem? (i := 27) rfl))) Via.refl e0 pre_F_a1_size (g := (mkF m 1 #[.val (.ref a1)] [(.ref a1)])) rfl rfl (hb hby d12_1)
  refine GoW.st st1 ?_
  show GoW p e below QQ (T1.setTop (mkF m 4 #[.val (.ref a1)] [(.int (1 : Int32))]))
  have hc4 : ¬ ((1 : Int32) = (0 : Int32)) := by decide
  refine GoW.st (fun t k => XS.ifYes X1.here hx rfl (pc0 := 4) (pc' := 11) rfl (hb hby d12_4) rfl ((if0 _ _).trans (feq hc4).2) (by decide) (by decide) (XS.iconst X1.here hx rfl (hb hby d12_11) k)) ?_
  show GoW p e below QQ (T1.setTop (mkF m 12 #[.val (.ref a1)] [(.int (0 : Int32))]))
  exact GoW.fin X1 (some (.int (nar .boolean (0 : Int32)))) (fun q => by rw [hret] at q; cases q) hlk hQ e1 ⟨rfl, N0, rfl⟩ (by decide) (by decide) (fun fs hr => retN X1 hx (t := .boolean) hret (by simp) (hb hby d12_12) hr)
def RM12_2 : Room := { frames := 0, cells := 0, slots := 0, locals := 0 }
def Q12_2 (Z : State) (a1 : Addr) (h0 : Heap) (n0 : Nat) (v : Option Value) (h : Heap) (L : List Loc) : Prop := v = some (.int (0 : Int32)) ∧ Fr n0 L ∧ h = h0
set_option maxRecDepth 65536 in
set_option maxHeartbeats 40000000 in
theorem rm12_2 (l : Launch) (Z : State) (a0 : Array Value) (hw : ∀ d ∈ tables_1, d.before a0 Z = true) (ws : List Jvm.Cond) (a1 : Addr) (h0 : Heap) (n0 : Nat) (Z0 : n0 ≤ h0.size) (pre_F_a1_size : Fld Z h0 a1 "com/example/eunomia/eunomia/sticky/LongHeap" "size" "I" (.int (2 : Int32))) :
    MetFree l (⟨"com/example/eunomia/eunomia/sticky/LongHeap", "isEmpty", "()Z"⟩ : MethodName) (head1 (Jvm.Cond.code (⟨"com/example/eunomia/eunomia/sticky/LongHeap", "isEmpty", "()Z"⟩ : MethodName) prog_40_method_2_code 1 (some .boolean) :: ws) RM12_2) (fun a U => a = #[(.ref a1)] ∧ Z.Warmed39 U.vm ∧ U.heap = h0) (fun _ _ _ _ _ => True) (fun _ U o U' => ∃ v L, o = .returned v ∧ Q12_2 Z a1 h0 n0 v U'.heap L ∧ FrameEnd U o U' L RM12_2.cells RM12_2.slots) := by
  refine met_of (Q := fun v h L => Q12_2 Z a1 h0 n0 v h L) (plainFor_of_name pn_0) (fun m => by first | (simp [entryFrame, mkF, argsToLocals, Value.category]; done) | rfl) (Ls := #[.val (.ref a1)]) ?_
  intro p e s m below meth c T0 QQ hx hZ hby hml hown hnm hret hlk X0 e0 hQ
  have hml : c.maxLocals = 1 := hml
  have hown : s.vm.findClass "com/example/eunomia/eunomia/sticky/LongHeap" = some m.cls := hown
  have hnm : meth.name = "isEmpty" := hnm
  have hret : meth.sig.returnType = some .boolean := hret
  have N0 := Fr.nil n0
  have K0 : Keep h0 h0 [] := Keep.refl h0 _
  show GoW p e below QQ (T0.setTop (mkF m 0 #[.val (.ref a1)] []))
  refine GoW.st (fun t k => XS.aloadN X0.here hx rfl (hb hby d12_0) rfl rfl k) ?_
  show GoW p e below QQ (T0.setTop (mkF m 1 #[.val (.ref a1)] [(.ref a1)]))
  obtain ⟨T1, X1, e1, st1⟩ := getF X0 hx hZ hown (host := "") (Or.inl (hw _ (List.mem_of_getElem? (i := 27) rfl))) Via.refl e0 pre_F_a1_size (g := (mkF m 1 #[.val (.ref a1)] [(.ref a1)])) rfl rfl (hb hby d12_1)
  refine GoW.st st1 ?_
  show GoW p e below QQ (T1.setTop (mkF m 4 #[.val (.ref a1)] [(.int (2 : Int32))]))
  have hc4 : ¬ ((2 : Int32) = (0 : Int32)) := by decide
  refine GoW.st (fun t k => XS.ifYes X1.here hx rfl (pc0 := 4) (pc' := 11) rfl (hb hby d12_4) rfl ((if0 _ _).trans (feq hc4).2) (by decide) (by decide) (XS.iconst X1.here hx rfl (hb hby d12_11) k)) ?_
  show GoW p e below QQ (T1.setTop (mkF m 12 #[.val (.ref a1)] [(.int (0 : Int32))]))
  exact GoW.fin X1 (some (.int (nar .boolean (0 : Int32)))) (fun q => by rw [hret] at q; cases q) hlk hQ e1 ⟨rfl, N0, rfl⟩ (by decide) (by decide) (fun fs hr => retN X1 hx (t := .boolean) hret (by simp) (hb hby d12_12) hr)
def RM12_3 : Room := { frames := 0, cells := 0, slots := 0, locals := 0 }
def Q12_3 (Z : State) (a1 : Addr) (h0 : Heap) (n0 : Nat) (v : Option Value) (h : Heap) (L : List Loc) : Prop := v = some (.int (0 : Int32)) ∧ Fr n0 L ∧ h = h0
set_option maxRecDepth 65536 in
set_option maxHeartbeats 40000000 in
theorem rm12_3 (l : Launch) (Z : State) (a0 : Array Value) (hw : ∀ d ∈ tables_1, d.before a0 Z = true) (ws : List Jvm.Cond) (a1 : Addr) (h0 : Heap) (n0 : Nat) (Z0 : n0 ≤ h0.size) (pre_F_a1_size : Fld Z h0 a1 "com/example/eunomia/eunomia/sticky/LongHeap" "size" "I" (.int (3 : Int32))) :
    MetFree l (⟨"com/example/eunomia/eunomia/sticky/LongHeap", "isEmpty", "()Z"⟩ : MethodName) (head1 (Jvm.Cond.code (⟨"com/example/eunomia/eunomia/sticky/LongHeap", "isEmpty", "()Z"⟩ : MethodName) prog_40_method_2_code 1 (some .boolean) :: ws) RM12_3) (fun a U => a = #[(.ref a1)] ∧ Z.Warmed39 U.vm ∧ U.heap = h0) (fun _ _ _ _ _ => True) (fun _ U o U' => ∃ v L, o = .returned v ∧ Q12_3 Z a1 h0 n0 v U'.heap L ∧ FrameEnd U o U' L RM12_3.cells RM12_3.slots) := by
  refine met_of (Q := fun v h L => Q12_3 Z a1 h0 n0 v h L) (plainFor_of_name pn_0) (fun m => by first | (simp [entryFrame, mkF, argsToLocals, Value.category]; done) | rfl) (Ls := #[.val (.ref a1)]) ?_
  intro p e s m below meth c T0 QQ hx hZ hby hml hown hnm hret hlk X0 e0 hQ
  have hml : c.maxLocals = 1 := hml
  have hown : s.vm.findClass "com/example/eunomia/eunomia/sticky/LongHeap" = some m.cls := hown
  have hnm : meth.name = "isEmpty" := hnm
  have hret : meth.sig.returnType = some .boolean := hret
  have N0 := Fr.nil n0
  have K0 : Keep h0 h0 [] := Keep.refl h0 _
  show GoW p e below QQ (T0.setTop (mkF m 0 #[.val (.ref a1)] []))
  refine GoW.st (fun t k => XS.aloadN X0.here hx rfl (hb hby d12_0) rfl rfl k) ?_
  show GoW p e below QQ (T0.setTop (mkF m 1 #[.val (.ref a1)] [(.ref a1)]))
  obtain ⟨T1, X1, e1, st1⟩ := getF X0 hx hZ hown (host := "") (Or.inl (hw _ (List.mem_of_getElem? (i := 27) rfl))) Via.refl e0 pre_F_a1_size (g := (mkF m 1 #[.val (.ref a1)] [(.ref a1)])) rfl rfl (hb hby d12_1)
  refine GoW.st st1 ?_
  show GoW p e below QQ (T1.setTop (mkF m 4 #[.val (.ref a1)] [(.int (3 : Int32))]))
  have hc4 : ¬ ((3 : Int32) = (0 : Int32)) := by decide
  refine GoW.st (fun t k => XS.ifYes X1.here hx rfl (pc0 := 4) (pc' := 11) rfl (hb hby d12_4) rfl ((if0 _ _).trans (feq hc4).2) (by decide) (by decide) (XS.iconst X1.here hx rfl (hb hby d12_11) k)) ?_
  show GoW p e below QQ (T1.setTop (mkF m 12 #[.val (.ref a1)] [(.int (0 : Int32))]))
  exact GoW.fin X1 (some (.int (nar .boolean (0 : Int32)))) (fun q => by rw [hret] at q; cases q) hlk hQ e1 ⟨rfl, N0, rfl⟩ (by decide) (by decide) (fun fs hr => retN X1 hx (t := .boolean) hret (by simp) (hb hby d12_12) hr)
def RM12_4 : Room := { frames := 0, cells := 0, slots := 0, locals := 0 }
def Q12_4 (Z : State) (a1 : Addr) (h0 : Heap) (n0 : Nat) (v : Option Value) (h : Heap) (L : List Loc) : Prop := v = some (.int (0 : Int32)) ∧ Fr n0 L ∧ h = h0
set_option maxRecDepth 65536 in
set_option maxHeartbeats 40000000 in
theorem rm12_4 (l : Launch) (Z : State) (a0 : Array Value) (hw : ∀ d ∈ tables_1, d.before a0 Z = true) (ws : List Jvm.Cond) (a1 : Addr) (h0 : Heap) (n0 : Nat) (Z0 : n0 ≤ h0.size) (pre_F_a1_size : Fld Z h0 a1 "com/example/eunomia/eunomia/sticky/LongHeap" "size" "I" (.int (4 : Int32))) :
    MetFree l (⟨"com/example/eunomia/eunomia/sticky/LongHeap", "isEmpty", "()Z"⟩ : MethodName) (head1 (Jvm.Cond.code (⟨"com/example/eunomia/eunomia/sticky/LongHeap", "isEmpty", "()Z"⟩ : MethodName) prog_40_method_2_code 1 (some .boolean) :: ws) RM12_4) (fun a U => a = #[(.ref a1)] ∧ Z.Warmed39 U.vm ∧ U.heap = h0) (fun _ _ _ _ _ => True) (fun _ U o U' => ∃ v L, o = .returned v ∧ Q12_4 Z a1 h0 n0 v U'.heap L ∧ FrameEnd U o U' L RM12_4.cells RM12_4.slots) := by
  refine met_of (Q := fun v h L => Q12_4 Z a1 h0 n0 v h L) (plainFor_of_name pn_0) (fun m => by first | (simp [entryFrame, mkF, argsToLocals, Value.category]; done) | rfl) (Ls := #[.val (.ref a1)]) ?_
  intro p e s m below meth c T0 QQ hx hZ hby hml hown hnm hret hlk X0 e0 hQ
  have hml : c.maxLocals = 1 := hml
  have hown : s.vm.findClass "com/example/eunomia/eunomia/sticky/LongHeap" = some m.cls := hown
  have hnm : meth.name = "isEmpty" := hnm
  have hret : meth.sig.returnType = some .boolean := hret
  have N0 := Fr.nil n0
  have K0 : Keep h0 h0 [] := Keep.refl h0 _
  show GoW p e below QQ (T0.setTop (mkF m 0 #[.val (.ref a1)] []))
  refine GoW.st (fun t k => XS.aloadN X0.here hx rfl (hb hby d12_0) rfl rfl k) ?_
  show GoW p e below QQ (T0.setTop (mkF m 1 #[.val (.ref a1)] [(.ref a1)]))
  obtain ⟨T1, X1, e1, st1⟩ := getF X0 hx hZ hown (host := "") (Or.inl (hw _ (List.mem_of_getElem? (i := 27) rfl))) Via.refl e0 pre_F_a1_size (g := (mkF m 1 #[.val (.ref a1)] [(.ref a1)])) rfl rfl (hb hby d12_1)
  refine GoW.st st1 ?_
  show GoW p e below QQ (T1.setTop (mkF m 4 #[.val (.ref a1)] [(.int (4 : Int32))]))
  have hc4 : ¬ ((4 : Int32) = (0 : Int32)) := by decide
  refine GoW.st (fun t k => XS.ifYes X1.here hx rfl (pc0 := 4) (pc' := 11) rfl (hb hby d12_4) rfl ((if0 _ _).trans (feq hc4).2) (by decide) (by decide) (XS.iconst X1.here hx rfl (hb hby d12_11) k)) ?_
  show GoW p e below QQ (T1.setTop (mkF m 12 #[.val (.ref a1)] [(.int (0 : Int32))]))
  exact GoW.fin X1 (some (.int (nar .boolean (0 : Int32)))) (fun q => by rw [hret] at q; cases q) hlk hQ e1 ⟨rfl, N0, rfl⟩ (by decide) (by decide) (fun fs hr => retN X1 hx (t := .boolean) hret (by simp) (hb hby d12_12) hr)
theorem d11_0 : decode prog_40_method_3_code 0 = .ok (.aload_n 0, 1) := by decide +kernel
theorem d11_1 : decode prog_40_method_3_code 1 = .ok (.getfield 13, 3) := by decide +kernel
theorem d11_4 : decode prog_40_method_3_code 4 = .ok (.iconst 0, 1) := by decide +kernel
theorem d11_5 : decode prog_40_method_3_code 5 = .ok (.laload, 1) := by decide +kernel
theorem d11_6 : decode prog_40_method_3_code 6 = .ok (.lreturn, 1) := by decide +kernel
def RM11 : Room := { frames := 0, cells := 0, slots := 0, locals := 0 }
def Q11 (Z : State) (a1 : Addr) (a2 : Addr) (ka : ClassId) (z : Int32) (va : Int64) (vb : Int64) (vc : Int64) (vd : Int64) (h0 : Heap) (n0 : Nat) (v : Option Value) (h : Heap) (L : List Loc) : Prop := v = some (.long va) ∧ Fr n0 L ∧ h = h0
set_option maxRecDepth 65536 in
set_option maxHeartbeats 40000000 in
theorem rm11 (l : Launch) (Z : State) (a0 : Array Value) (hw : ∀ d ∈ tables_1, d.before a0 Z = true) (ws : List Jvm.Cond) (a1 : Addr) (a2 : Addr) (ka : ClassId) (z : Int32) (va : Int64) (vb : Int64) (vc : Int64) (vd : Int64) (h0 : Heap) (n0 : Nat) (Z0 : n0 ≤ h0.size) (pre_F_a1_values : Fld Z h0 a1 "com/example/eunomia/eunomia/sticky/LongHeap" "values" "[J" (.ref a2)) (pre_V_a2 : Arv Z h0 a2 ka .long z [(.long va), (.long vb), (.long vc), (.long vd)] (.long (0 : Int64))) (hz : 1 ≤ z.toInt) :
    MetFree l (⟨"com/example/eunomia/eunomia/sticky/LongHeap", "peek", "()J"⟩ : MethodName) (head1 (Jvm.Cond.code (⟨"com/example/eunomia/eunomia/sticky/LongHeap", "peek", "()J"⟩ : MethodName) prog_40_method_3_code 1 (some .long) :: ws) RM11) (fun a U => a = #[(.ref a1)] ∧ Z.Warmed39 U.vm ∧ U.heap = h0) (fun _ _ _ _ _ => True) (fun _ U o U' => ∃ v L, o = .returned v ∧ Q11 Z a1 a2 ka z va vb vc vd h0 n0 v U'.heap L ∧ FrameEnd U o U' L RM11.cells RM11.slots) := by
  refine met_of (Q := fun v h L => Q11 Z a1 a2 ka z va vb vc vd h0 n0 v h L) (plainFor_of_name pn_0) (fun m => by first | (simp [entryFrame, mkF, argsToLocals, Value.category]; done) | rfl) (Ls := #[.val (.ref a1)]) ?_
  intro p e s m below meth c T0 QQ hx hZ hby hml hown hnm hret hlk X0 e0 hQ
  have hml : c.maxLocals = 1 := hml
  have hown : s.vm.findClass "com/example/eunomia/eunomia/sticky/LongHeap" = some m.cls := hown
  have hnm : meth.name = "peek" := hnm
  have hret : meth.sig.returnType = some .long := hret
  have N0 := Fr.nil n0
  have K0 : Keep h0 h0 [] := Keep.refl h0 _
  show GoW p e below QQ (T0.setTop (mkF m 0 #[.val (.ref a1)] []))
  have z0 : (0 : Int32).toInt = 0 := rfl
  refine GoW.st (fun t k => XS.aloadN X0.here hx rfl (hb hby d11_0) rfl rfl k) ?_
  show GoW p e below QQ (T0.setTop (mkF m 1 #[.val (.ref a1)] [(.ref a1)]))
  obtain ⟨T1, X1, e1, st1⟩ := getF X0 hx hZ hown (host := "") (Or.inl (hw _ (List.mem_of_getElem? (i := 20) rfl))) Via.refl e0 pre_F_a1_values (g := (mkF m 1 #[.val (.ref a1)] [(.ref a1)])) rfl rfl (hb hby d11_1)
  refine GoW.st st1 ?_
  show GoW p e below QQ (T1.setTop (mkF m 4 #[.val (.ref a1)] [(.ref a2)]))
  refine GoW.st (fun t k => XS.iconst X1.here hx rfl (hb hby d11_4) (ldVJ X1 hx hZ e1 pre_V_a2 (v := (.long va)) ⟨by decide, own_lt_of (by omega)⟩ rfl (g := (mkF m 5 #[.val (.ref a1)] [(.int (0 : Int32)), (.ref a2)])) rfl rfl (hb hby d11_5) t k)) ?_
  show GoW p e below QQ (T1.setTop (mkF m 6 #[.val (.ref a1)] [(.long va)]))
  exact GoW.fin X1 (some (.long va)) (fun q => by rw [hret] at q; cases q) hlk hQ e1 ⟨rfl, N0, rfl⟩ (by decide) (by decide) (fun fs hr => retOut X1 hx hret rfl (Or.inr (Or.inl ⟨rfl, rfl, _, rfl⟩)) (hb hby d11_6) hr)
theorem pn_1 : plainName "java/util/Arrays" = true := by first | (simp [plainName, overriddenIn]; done) | decide +kernel
theorem d7_0 : decode jdk_65_method_124_code 0 = .ok (.iload_n 1, 1) := by decide +kernel
theorem d7_1 : decode jdk_65_method_124_code 1 = .ok (.aload_n 0, 1) := by decide +kernel
theorem d7_2 : decode jdk_65_method_124_code 2 = .ok (.arraylength, 1) := by decide +kernel
theorem d7_3 : decode jdk_65_method_124_code 3 = .ok (.if_icmp .ne 11, 3) := by decide +kernel
theorem d7_14 : decode jdk_65_method_124_code 14 = .ok (.iload_n 1, 1) := by decide +kernel
theorem d7_15 : decode jdk_65_method_124_code 15 = .ok (.newarray .long, 2) := by decide +kernel
theorem d7_17 : decode jdk_65_method_124_code 17 = .ok (.astore_n 2, 1) := by decide +kernel
theorem d7_18 : decode jdk_65_method_124_code 18 = .ok (.aload_n 0, 1) := by decide +kernel
theorem d7_19 : decode jdk_65_method_124_code 19 = .ok (.iconst 0, 1) := by decide +kernel
theorem d7_20 : decode jdk_65_method_124_code 20 = .ok (.aload_n 2, 1) := by decide +kernel
theorem d7_21 : decode jdk_65_method_124_code 21 = .ok (.iconst 0, 1) := by decide +kernel
theorem d7_22 : decode jdk_65_method_124_code 22 = .ok (.aload_n 0, 1) := by decide +kernel
theorem d7_23 : decode jdk_65_method_124_code 23 = .ok (.arraylength, 1) := by decide +kernel
theorem d7_24 : decode jdk_65_method_124_code 24 = .ok (.iload_n 1, 1) := by decide +kernel
theorem d7_25 : decode jdk_65_method_124_code 25 = .ok (.invokestatic 304, 3) := by decide +kernel
theorem d7_28 : decode jdk_65_method_124_code 28 = .ok (.invokestatic 150, 3) := by decide +kernel
theorem d7_31 : decode jdk_65_method_124_code 31 = .ok (.aload_n 2, 1) := by decide +kernel
theorem d7_32 : decode jdk_65_method_124_code 32 = .ok (.areturn, 1) := by decide +kernel
def RM7_1 : Room := { frames := 1, cells := 1, slots := 2, locals := 64 }
def Q7_1 (Z : State) (a1 : Addr) (ka : ClassId) (va : Int64) (vb : Int64) (vc : Int64) (vd : Int64) (h0 : Heap) (n0 : Nat) (v : Option Value) (h : Heap) (L : List Loc) : Prop := ∃ (b : Addr) (kb : ClassId), v = some (.ref b) ∧ Fr n0 L ∧ Keep h0 h [] ∧ (h0.size ≤ b) ∧ (Arv Z h b kb .long (2 : Int32) [(.long va), (.long (0 : Int64)), (.long (0 : Int64)), (.long (0 : Int64))] (.long (0 : Int64)))
set_option maxRecDepth 65536 in
set_option maxHeartbeats 40000000 in
theorem rm7_1 (l : Launch) (Z : State) (a0 : Array Value) (hw : ∀ d ∈ tables_1, d.before a0 Z = true) (ws : List Jvm.Cond) (a1 : Addr) (ka : ClassId) (va : Int64) (vb : Int64) (vc : Int64) (vd : Int64) (h0 : Heap) (n0 : Nat) (Z0 : n0 ≤ h0.size) (pre_V_a1 : Arv Z h0 a1 ka .long (1 : Int32) [(.long va), (.long vb), (.long vc), (.long vd)] (.long (0 : Int64))) :
    MetFree l (⟨"java/util/Arrays", "copyOf", "([JI)[J"⟩ : MethodName) (head1 (Jvm.Cond.code (⟨"java/util/Arrays", "copyOf", "([JI)[J"⟩ : MethodName) jdk_65_method_124_code 3 (some (.array .long)) :: ws) RM7_1) (fun a U => a = #[(.ref a1), (.int (2 : Int32))] ∧ Z.Warmed39 U.vm ∧ U.heap = h0) (fun _ _ _ _ _ => True) (fun _ U o U' => ∃ v L, o = .returned v ∧ Q7_1 Z a1 ka va vb vc vd h0 n0 v U'.heap L ∧ FrameEnd U o U' L RM7_1.cells RM7_1.slots) := by
  refine met_of (Q := fun v h L => Q7_1 Z a1 ka va vb vc vd h0 n0 v h L) (plainFor_of_name pn_1) (fun m => by first | (simp [entryFrame, mkF, argsToLocals, Value.category]; done) | rfl) (Ls := #[.val (.ref a1), .val (.int (2 : Int32)), .unset]) ?_
  intro p e s m below meth c T0 QQ hx hZ hby hml hown hnm hret hlk X0 e0 hQ
  have hml : c.maxLocals = 3 := hml
  have hown : s.vm.findClass "java/util/Arrays" = some m.cls := hown
  have hnm : meth.name = "copyOf" := hnm
  have hret : meth.sig.returnType = some (.array .long) := hret
  have N0 := Fr.nil n0
  have K0 : Keep h0 h0 [] := Keep.refl h0 _
  show GoW p e below QQ (T0.setTop (mkF m 0 #[.val (.ref a1), .val (.int (2 : Int32)), .unset] []))
  refine GoW.st (fun t k => XS.iloadN X0.here hx rfl (hb hby d7_0) rfl (XS.aloadN X0.here hx rfl (hb hby d7_1) rfl rfl (lnV X0 hx hZ e0 pre_V_a1 (g := (mkF m 2 #[.val (.ref a1), .val (.int (2 : Int32)), .unset] [(.ref a1), (.int (2 : Int32))])) rfl rfl (hb hby d7_2) t k))) ?_
  show GoW p e below QQ (T0.setTop (mkF m 3 #[.val (.ref a1), .val (.int (2 : Int32)), .unset] [(.int (1 : Int32)), (.int (2 : Int32))]))
  have hc3 : ¬ ((2 : Int32) = (1 : Int32)) := by decide
  refine GoW.st (fun t k => XS.icmpYes X0.here hx rfl (pc0 := 3) (pc' := 14) rfl (hb hby d7_3) rfl (feq hc3).2 (by decide) (by decide) (XS.iloadN X0.here hx rfl (hb hby d7_14) rfl k)) ?_
  show GoW p e below QQ (T0.setTop (mkF m 15 #[.val (.ref a1), .val (.int (2 : Int32)), .unset] [(.int (2 : Int32))]))
  obtain ⟨T1, h1, k1, X1, e1, E1, A1, st1⟩ := newP X0 hx hZ (hw _ (List.mem_of_getElem? (i := 19) rfl)) e0 (g := (mkF m 15 #[.val (.ref a1), .val (.int (2 : Int32)), .unset] [(.int (2 : Int32))])) rfl (hb hby d7_15) rfl (by decide) (cap := 2) (by decide) (by decide) (by decide) (by decide)
  obtain ⟨b1, g1⟩ : ∃ z, z = h0.size := ⟨_, rfl⟩
  rw [← g1] at A1 st1
  refine GoW.st st1 ?_
  have gg1 : n0 ≤ b1 := Nat.le_trans (Nat.le_trans Z0 K0.1) (Nat.le_of_eq g1.symm)
  have sz1 : h0.size ≤ b1 := Nat.le_trans K0.1 (Nat.le_of_eq g1.symm)
  have ne1_a1 : a1 ≠ b1 := Nat.ne_of_lt (Nat.lt_of_lt_of_le pre_V_a1.lt (Nat.le_of_eq g1.symm))
  have f2_V_a1 : Arv Z h1 a1 ka .long (1 : Int32) [(.long va), (.long vb), (.long vc), (.long vd)] (.long (0 : Int64)) := pre_V_a1.ext E1
  have K1 : Keep h0 h1 [] := K0.ext E1
  have V1 : Arv Z h1 b1 k1 .long (2 : Int32) [(.long (0 : Int64)), (.long (0 : Int64)), (.long (0 : Int64)), (.long (0 : Int64))] (.long (0 : Int64)) := (Arv.new A1 (by decide)).pad (pad_rep [] (.long (0 : Int64)) 4)
  show GoW p e below QQ (T1.setTop (mkF m 17 #[.val (.ref a1), .val (.int (2 : Int32)), .unset] [(.ref b1)]))
  refine GoW.st (fun t k => XS.astoreN X1.here hx rfl (hb hby d7_17) rfl rfl (l' := #[.val (.ref a1), .val (.int (2 : Int32)), .val (.ref b1)]) rfl (XS.aloadN X1.here hx rfl (hb hby d7_18) rfl rfl (XS.iconst X1.here hx rfl (hb hby d7_19) (XS.aloadN X1.here hx rfl (hb hby d7_20) rfl rfl (XS.iconst X1.here hx rfl (hb hby d7_21) (XS.aloadN X1.here hx rfl (hb hby d7_22) rfl rfl k)))))) ?_
  show GoW p e below QQ (T1.setTop (mkF m 23 #[.val (.ref a1), .val (.int (2 : Int32)), .val (.ref b1)] [(.ref a1), (.int (0 : Int32)), (.ref b1), (.int (0 : Int32)), (.ref a1)]))
  refine GoW.st (fun t k => lnV X1 hx hZ e1 f2_V_a1 (g := (mkF m 23 #[.val (.ref a1), .val (.int (2 : Int32)), .val (.ref b1)] [(.ref a1), (.int (0 : Int32)), (.ref b1), (.int (0 : Int32)), (.ref a1)])) rfl rfl (hb hby d7_23) t (XS.iloadN X1.here hx rfl (hb hby d7_24) rfl k)) ?_
  show GoW p e below QQ (T1.setTop (mkF m 25 #[.val (.ref a1), .val (.int (2 : Int32)), .val (.ref b1)] [(.int (2 : Int32)), (.int (1 : Int32)), (.int (0 : Int32)), (.ref b1), (.int (0 : Int32)), (.ref a1)]))
  obtain ⟨_, _, ⟨T3, zL3, zk3, zn3⟩, -, X3, ⟨Lc3, hQ3, zl3, zy3, zz3⟩, st3⟩ := Jvm.LawKit.callS X1 hx (y := (⟨"java/lang/Math", "min", "(II)I"⟩ : MethodName)) hown (mvT hZ (hw _ (List.mem_of_getElem? (i := 33) rfl))) (mvT hZ (hw _ (List.mem_of_getElem? (i := 34) rfl))) (mvT hZ (hw _ (List.mem_of_getElem? (i := 2) rfl))) (mvT hZ (hw _ (List.mem_of_getElem? (i := 35) rfl))) (by decide) (backOf (W := 4) (rm8 l Z a0 hw [] (1 : Int32) (2 : Int32) h1 n0 (Nat.le_trans Z0 K1.1) ) hZ (hw _ (List.mem_of_getElem? (i := 35) rfl)) (hw _ (List.mem_of_getElem? (i := 2) rfl)) (by decide) (by decide)) (g := (mkF m 25 #[.val (.ref a1), .val (.int (2 : Int32)), .val (.ref b1)] [(.int (2 : Int32)), (.int (1 : Int32)), (.int (0 : Int32)), (.ref b1), (.int (0 : Int32)), (.ref a1)])) rfl (by rw [hml]; rfl) (argsL := [(.int (1 : Int32)), (.int (2 : Int32))]) (rest := [(.int (0 : Int32)), (.ref b1), (.int (0 : Int32)), (.ref a1)]) (lenOf pd_0 rfl) rfl (by show 2 * 0 + _ ≤ _; exact Nat.le_of_eq rfl) (hb hby d7_25) (fun _ _ => ⟨rfl, e1, (by decide : 1 + 0 ≤ _), (by decide : 2 + 0 ≤ _)⟩)
  dsimp only [Pt.U, Pt.locs, Pt.cells, Pt.slots] at X3 zl3 zy3 zz3 st3 hQ3
  subst zl3 zy3 zz3
  obtain ⟨rfl, Nq3, hh3⟩ := hQ3
  have N3 := Fr.app N0 Nq3
  refine GoW.st st3 ?_
  show GoW p e below QQ (T3.setTop (mkF m 28 #[.val (.ref a1), .val (.int (2 : Int32)), .val (.ref b1)] [(.int (own_minI (1 : Int32) (2 : Int32))), (.int (0 : Int32)), (.ref b1), (.int (0 : Int32)), (.ref a1)]))
  have e28 : own_minI (1 : Int32) (2 : Int32) = (1 : Int32) := by decide
  rw [e28]
  show GoW p e below QQ (T3.setTop (mkF m 28 #[.val (.ref a1), .val (.int (2 : Int32)), .val (.ref b1)] [(.int (1 : Int32)), (.int (0 : Int32)), (.ref b1), (.int (0 : Int32)), (.ref a1)]))
  obtain ⟨T4, h4, L4, X4, e4, N4, Kq4, V4, st4⟩ := cpA X3 hx hZ hown (hw _ (List.mem_of_getElem? (i := 36) rfl)) (hw _ (List.mem_of_getElem? (i := 39) rfl)) (hw _ (List.mem_of_getElem? (i := 37) rfl)) (hw _ (List.mem_of_getElem? (i := 38) rfl)) hh3 f2_V_a1 V1 (us := [(.long va)]) (Or.inl ⟨rfl, rfl⟩) (by decide) (by decide) (by decide) (by decide) (by decide) rfl (Nat.le_of_ble_eq_true rfl) N3 gg1 (g := (mkF m 28 #[.val (.ref a1), .val (.int (2 : Int32)), .val (.ref b1)] [(.int (1 : Int32)), (.int (0 : Int32)), (.ref b1), (.int (0 : Int32)), (.ref a1)])) rfl (by rw [hml]; rfl) rfl (hb hby d7_28) (by decide) (W := 0) (by show 2 * 0 + _ ≤ _; exact Nat.le_of_eq rfl) (by decide)
  refine GoW.st st4 ?_
  have f5_V_a1 : Arv Z h4 a1 ka .long (1 : Int32) [(.long va), (.long vb), (.long vc), (.long vd)] (.long (0 : Int64)) := f2_V_a1.keep Kq4 (ninS ne1_a1 nin0)
  have f5_V_b1 : Arv Z h4 b1 k1 .long (2 : Int32) [(.long va), (.long (0 : Int64)), (.long (0 : Int64)), (.long (0 : Int64))] (.long (0 : Int64)) := V4
  have K4 : Keep h0 h4 [] := K1.trans Kq4 (allS (Or.inr sz1) all0)
  show GoW p e below QQ (T4.setTop (mkF m 31 #[.val (.ref a1), .val (.int (2 : Int32)), .val (.ref b1)] []))
  refine GoW.st (fun t k => XS.aloadN X4.here hx rfl (hb hby d7_31) rfl rfl k) ?_
  show GoW p e below QQ (T4.setTop (mkF m 32 #[.val (.ref a1), .val (.int (2 : Int32)), .val (.ref b1)] [(.ref b1)]))
  exact GoW.fin X4 (some (.ref b1)) (fun q => by rw [hret] at q; cases q) hlk hQ e4 ⟨b1, k1, rfl, N4, K4, sz1, f5_V_b1⟩ (by decide) (by decide) (fun fs hr => retOut X4 hx hret rfl (Or.inr (Or.inr (Or.inr (Or.inr ⟨rfl, rfl, rfl⟩)))) (hb hby d7_32) hr)
def RM7_2 : Room := { frames := 1, cells := 1, slots := 4, locals := 64 }
def Q7_2 (Z : State) (a1 : Addr) (ka : ClassId) (va : Int64) (vb : Int64) (vc : Int64) (vd : Int64) (h0 : Heap) (n0 : Nat) (v : Option Value) (h : Heap) (L : List Loc) : Prop := ∃ (b : Addr) (kb : ClassId), v = some (.ref b) ∧ Fr n0 L ∧ Keep h0 h [] ∧ (h0.size ≤ b) ∧ (Arv Z h b kb .long (4 : Int32) [(.long va), (.long vb), (.long (0 : Int64)), (.long (0 : Int64))] (.long (0 : Int64)))
set_option maxRecDepth 65536 in
set_option maxHeartbeats 40000000 in
theorem rm7_2 (l : Launch) (Z : State) (a0 : Array Value) (hw : ∀ d ∈ tables_1, d.before a0 Z = true) (ws : List Jvm.Cond) (a1 : Addr) (ka : ClassId) (va : Int64) (vb : Int64) (vc : Int64) (vd : Int64) (h0 : Heap) (n0 : Nat) (Z0 : n0 ≤ h0.size) (pre_V_a1 : Arv Z h0 a1 ka .long (2 : Int32) [(.long va), (.long vb), (.long vc), (.long vd)] (.long (0 : Int64))) :
    MetFree l (⟨"java/util/Arrays", "copyOf", "([JI)[J"⟩ : MethodName) (head1 (Jvm.Cond.code (⟨"java/util/Arrays", "copyOf", "([JI)[J"⟩ : MethodName) jdk_65_method_124_code 3 (some (.array .long)) :: ws) RM7_2) (fun a U => a = #[(.ref a1), (.int (4 : Int32))] ∧ Z.Warmed39 U.vm ∧ U.heap = h0) (fun _ _ _ _ _ => True) (fun _ U o U' => ∃ v L, o = .returned v ∧ Q7_2 Z a1 ka va vb vc vd h0 n0 v U'.heap L ∧ FrameEnd U o U' L RM7_2.cells RM7_2.slots) := by
  refine met_of (Q := fun v h L => Q7_2 Z a1 ka va vb vc vd h0 n0 v h L) (plainFor_of_name pn_1) (fun m => by first | (simp [entryFrame, mkF, argsToLocals, Value.category]; done) | rfl) (Ls := #[.val (.ref a1), .val (.int (4 : Int32)), .unset]) ?_
  intro p e s m below meth c T0 QQ hx hZ hby hml hown hnm hret hlk X0 e0 hQ
  have hml : c.maxLocals = 3 := hml
  have hown : s.vm.findClass "java/util/Arrays" = some m.cls := hown
  have hnm : meth.name = "copyOf" := hnm
  have hret : meth.sig.returnType = some (.array .long) := hret
  have N0 := Fr.nil n0
  have K0 : Keep h0 h0 [] := Keep.refl h0 _
  show GoW p e below QQ (T0.setTop (mkF m 0 #[.val (.ref a1), .val (.int (4 : Int32)), .unset] []))
  refine GoW.st (fun t k => XS.iloadN X0.here hx rfl (hb hby d7_0) rfl (XS.aloadN X0.here hx rfl (hb hby d7_1) rfl rfl (lnV X0 hx hZ e0 pre_V_a1 (g := (mkF m 2 #[.val (.ref a1), .val (.int (4 : Int32)), .unset] [(.ref a1), (.int (4 : Int32))])) rfl rfl (hb hby d7_2) t k))) ?_
  show GoW p e below QQ (T0.setTop (mkF m 3 #[.val (.ref a1), .val (.int (4 : Int32)), .unset] [(.int (2 : Int32)), (.int (4 : Int32))]))
  have hc3 : ¬ ((4 : Int32) = (2 : Int32)) := by decide
  refine GoW.st (fun t k => XS.icmpYes X0.here hx rfl (pc0 := 3) (pc' := 14) rfl (hb hby d7_3) rfl (feq hc3).2 (by decide) (by decide) (XS.iloadN X0.here hx rfl (hb hby d7_14) rfl k)) ?_
  show GoW p e below QQ (T0.setTop (mkF m 15 #[.val (.ref a1), .val (.int (4 : Int32)), .unset] [(.int (4 : Int32))]))
  obtain ⟨T1, h1, k1, X1, e1, E1, A1, st1⟩ := newP X0 hx hZ (hw _ (List.mem_of_getElem? (i := 19) rfl)) e0 (g := (mkF m 15 #[.val (.ref a1), .val (.int (4 : Int32)), .unset] [(.int (4 : Int32))])) rfl (hb hby d7_15) rfl (by decide) (cap := 4) (by decide) (by decide) (by decide) (by decide)
  obtain ⟨b1, g1⟩ : ∃ z, z = h0.size := ⟨_, rfl⟩
  rw [← g1] at A1 st1
  refine GoW.st st1 ?_
  have gg1 : n0 ≤ b1 := Nat.le_trans (Nat.le_trans Z0 K0.1) (Nat.le_of_eq g1.symm)
  have sz1 : h0.size ≤ b1 := Nat.le_trans K0.1 (Nat.le_of_eq g1.symm)
  have ne1_a1 : a1 ≠ b1 := Nat.ne_of_lt (Nat.lt_of_lt_of_le pre_V_a1.lt (Nat.le_of_eq g1.symm))
  have f2_V_a1 : Arv Z h1 a1 ka .long (2 : Int32) [(.long va), (.long vb), (.long vc), (.long vd)] (.long (0 : Int64)) := pre_V_a1.ext E1
  have K1 : Keep h0 h1 [] := K0.ext E1
  have V1 : Arv Z h1 b1 k1 .long (4 : Int32) [(.long (0 : Int64)), (.long (0 : Int64)), (.long (0 : Int64)), (.long (0 : Int64))] (.long (0 : Int64)) := (Arv.new A1 (by decide)).pad (pad_rep [] (.long (0 : Int64)) 4)
  show GoW p e below QQ (T1.setTop (mkF m 17 #[.val (.ref a1), .val (.int (4 : Int32)), .unset] [(.ref b1)]))
  refine GoW.st (fun t k => XS.astoreN X1.here hx rfl (hb hby d7_17) rfl rfl (l' := #[.val (.ref a1), .val (.int (4 : Int32)), .val (.ref b1)]) rfl (XS.aloadN X1.here hx rfl (hb hby d7_18) rfl rfl (XS.iconst X1.here hx rfl (hb hby d7_19) (XS.aloadN X1.here hx rfl (hb hby d7_20) rfl rfl (XS.iconst X1.here hx rfl (hb hby d7_21) (XS.aloadN X1.here hx rfl (hb hby d7_22) rfl rfl k)))))) ?_
  show GoW p e below QQ (T1.setTop (mkF m 23 #[.val (.ref a1), .val (.int (4 : Int32)), .val (.ref b1)] [(.ref a1), (.int (0 : Int32)), (.ref b1), (.int (0 : Int32)), (.ref a1)]))
  refine GoW.st (fun t k => lnV X1 hx hZ e1 f2_V_a1 (g := (mkF m 23 #[.val (.ref a1), .val (.int (4 : Int32)), .val (.ref b1)] [(.ref a1), (.int (0 : Int32)), (.ref b1), (.int (0 : Int32)), (.ref a1)])) rfl rfl (hb hby d7_23) t (XS.iloadN X1.here hx rfl (hb hby d7_24) rfl k)) ?_
  show GoW p e below QQ (T1.setTop (mkF m 25 #[.val (.ref a1), .val (.int (4 : Int32)), .val (.ref b1)] [(.int (4 : Int32)), (.int (2 : Int32)), (.int (0 : Int32)), (.ref b1), (.int (0 : Int32)), (.ref a1)]))
  obtain ⟨_, _, ⟨T3, zL3, zk3, zn3⟩, -, X3, ⟨Lc3, hQ3, zl3, zy3, zz3⟩, st3⟩ := Jvm.LawKit.callS X1 hx (y := (⟨"java/lang/Math", "min", "(II)I"⟩ : MethodName)) hown (mvT hZ (hw _ (List.mem_of_getElem? (i := 33) rfl))) (mvT hZ (hw _ (List.mem_of_getElem? (i := 34) rfl))) (mvT hZ (hw _ (List.mem_of_getElem? (i := 2) rfl))) (mvT hZ (hw _ (List.mem_of_getElem? (i := 35) rfl))) (by decide) (backOf (W := 4) (rm8 l Z a0 hw [] (2 : Int32) (4 : Int32) h1 n0 (Nat.le_trans Z0 K1.1) ) hZ (hw _ (List.mem_of_getElem? (i := 35) rfl)) (hw _ (List.mem_of_getElem? (i := 2) rfl)) (by decide) (by decide)) (g := (mkF m 25 #[.val (.ref a1), .val (.int (4 : Int32)), .val (.ref b1)] [(.int (4 : Int32)), (.int (2 : Int32)), (.int (0 : Int32)), (.ref b1), (.int (0 : Int32)), (.ref a1)])) rfl (by rw [hml]; rfl) (argsL := [(.int (2 : Int32)), (.int (4 : Int32))]) (rest := [(.int (0 : Int32)), (.ref b1), (.int (0 : Int32)), (.ref a1)]) (lenOf pd_0 rfl) rfl (by show 2 * 0 + _ ≤ _; exact Nat.le_of_eq rfl) (hb hby d7_25) (fun _ _ => ⟨rfl, e1, (by decide : 1 + 0 ≤ _), (by decide : 4 + 0 ≤ _)⟩)
  dsimp only [Pt.U, Pt.locs, Pt.cells, Pt.slots] at X3 zl3 zy3 zz3 st3 hQ3
  subst zl3 zy3 zz3
  obtain ⟨rfl, Nq3, hh3⟩ := hQ3
  have N3 := Fr.app N0 Nq3
  refine GoW.st st3 ?_
  show GoW p e below QQ (T3.setTop (mkF m 28 #[.val (.ref a1), .val (.int (4 : Int32)), .val (.ref b1)] [(.int (own_minI (2 : Int32) (4 : Int32))), (.int (0 : Int32)), (.ref b1), (.int (0 : Int32)), (.ref a1)]))
  have e28 : own_minI (2 : Int32) (4 : Int32) = (2 : Int32) := by decide
  rw [e28]
  show GoW p e below QQ (T3.setTop (mkF m 28 #[.val (.ref a1), .val (.int (4 : Int32)), .val (.ref b1)] [(.int (2 : Int32)), (.int (0 : Int32)), (.ref b1), (.int (0 : Int32)), (.ref a1)]))
  obtain ⟨T4, h4, L4, X4, e4, N4, Kq4, V4, st4⟩ := cpA X3 hx hZ hown (hw _ (List.mem_of_getElem? (i := 36) rfl)) (hw _ (List.mem_of_getElem? (i := 39) rfl)) (hw _ (List.mem_of_getElem? (i := 37) rfl)) (hw _ (List.mem_of_getElem? (i := 38) rfl)) hh3 f2_V_a1 V1 (us := [(.long va), (.long vb)]) (Or.inl ⟨rfl, rfl⟩) (by decide) (by decide) (by decide) (by decide) (by decide) rfl (Nat.le_of_ble_eq_true rfl) N3 gg1 (g := (mkF m 28 #[.val (.ref a1), .val (.int (4 : Int32)), .val (.ref b1)] [(.int (2 : Int32)), (.int (0 : Int32)), (.ref b1), (.int (0 : Int32)), (.ref a1)])) rfl (by rw [hml]; rfl) rfl (hb hby d7_28) (by decide) (W := 0) (by show 2 * 0 + _ ≤ _; exact Nat.le_of_eq rfl) (by decide)
  refine GoW.st st4 ?_
  have f5_V_a1 : Arv Z h4 a1 ka .long (2 : Int32) [(.long va), (.long vb), (.long vc), (.long vd)] (.long (0 : Int64)) := f2_V_a1.keep Kq4 (ninS ne1_a1 nin0)
  have f5_V_b1 : Arv Z h4 b1 k1 .long (4 : Int32) [(.long va), (.long vb), (.long (0 : Int64)), (.long (0 : Int64))] (.long (0 : Int64)) := V4
  have K4 : Keep h0 h4 [] := K1.trans Kq4 (allS (Or.inr sz1) all0)
  show GoW p e below QQ (T4.setTop (mkF m 31 #[.val (.ref a1), .val (.int (4 : Int32)), .val (.ref b1)] []))
  refine GoW.st (fun t k => XS.aloadN X4.here hx rfl (hb hby d7_31) rfl rfl k) ?_
  show GoW p e below QQ (T4.setTop (mkF m 32 #[.val (.ref a1), .val (.int (4 : Int32)), .val (.ref b1)] [(.ref b1)]))
  exact GoW.fin X4 (some (.ref b1)) (fun q => by rw [hret] at q; cases q) hlk hQ e4 ⟨b1, k1, rfl, N4, K4, sz1, f5_V_b1⟩ (by decide) (by decide) (fun fs hr => retOut X4 hx hret rfl (Or.inr (Or.inr (Or.inr (Or.inr ⟨rfl, rfl, rfl⟩)))) (hb hby d7_32) hr)
def RM7_3 : Room := { frames := 1, cells := 1, slots := 6, locals := 64 }
def Q7_3 (Z : State) (a1 : Addr) (ka : ClassId) (va : Int64) (vb : Int64) (vc : Int64) (vd : Int64) (h0 : Heap) (n0 : Nat) (v : Option Value) (h : Heap) (L : List Loc) : Prop := ∃ (b : Addr) (kb : ClassId), v = some (.ref b) ∧ Fr n0 L ∧ Keep h0 h [] ∧ (h0.size ≤ b) ∧ (Arv Z h b kb .long (6 : Int32) [(.long va), (.long vb), (.long vc), (.long (0 : Int64))] (.long (0 : Int64)))
set_option maxRecDepth 65536 in
set_option maxHeartbeats 40000000 in
theorem rm7_3 (l : Launch) (Z : State) (a0 : Array Value) (hw : ∀ d ∈ tables_1, d.before a0 Z = true) (ws : List Jvm.Cond) (a1 : Addr) (ka : ClassId) (va : Int64) (vb : Int64) (vc : Int64) (vd : Int64) (h0 : Heap) (n0 : Nat) (Z0 : n0 ≤ h0.size) (pre_V_a1 : Arv Z h0 a1 ka .long (3 : Int32) [(.long va), (.long vb), (.long vc), (.long vd)] (.long (0 : Int64))) :
    MetFree l (⟨"java/util/Arrays", "copyOf", "([JI)[J"⟩ : MethodName) (head1 (Jvm.Cond.code (⟨"java/util/Arrays", "copyOf", "([JI)[J"⟩ : MethodName) jdk_65_method_124_code 3 (some (.array .long)) :: ws) RM7_3) (fun a U => a = #[(.ref a1), (.int (6 : Int32))] ∧ Z.Warmed39 U.vm ∧ U.heap = h0) (fun _ _ _ _ _ => True) (fun _ U o U' => ∃ v L, o = .returned v ∧ Q7_3 Z a1 ka va vb vc vd h0 n0 v U'.heap L ∧ FrameEnd U o U' L RM7_3.cells RM7_3.slots) := by
  refine met_of (Q := fun v h L => Q7_3 Z a1 ka va vb vc vd h0 n0 v h L) (plainFor_of_name pn_1) (fun m => by first | (simp [entryFrame, mkF, argsToLocals, Value.category]; done) | rfl) (Ls := #[.val (.ref a1), .val (.int (6 : Int32)), .unset]) ?_
  intro p e s m below meth c T0 QQ hx hZ hby hml hown hnm hret hlk X0 e0 hQ
  have hml : c.maxLocals = 3 := hml
  have hown : s.vm.findClass "java/util/Arrays" = some m.cls := hown
  have hnm : meth.name = "copyOf" := hnm
  have hret : meth.sig.returnType = some (.array .long) := hret
  have N0 := Fr.nil n0
  have K0 : Keep h0 h0 [] := Keep.refl h0 _
  show GoW p e below QQ (T0.setTop (mkF m 0 #[.val (.ref a1), .val (.int (6 : Int32)), .unset] []))
  refine GoW.st (fun t k => XS.iloadN X0.here hx rfl (hb hby d7_0) rfl (XS.aloadN X0.here hx rfl (hb hby d7_1) rfl rfl (lnV X0 hx hZ e0 pre_V_a1 (g := (mkF m 2 #[.val (.ref a1), .val (.int (6 : Int32)), .unset] [(.ref a1), (.int (6 : Int32))])) rfl rfl (hb hby d7_2) t k))) ?_
  show GoW p e below QQ (T0.setTop (mkF m 3 #[.val (.ref a1), .val (.int (6 : Int32)), .unset] [(.int (3 : Int32)), (.int (6 : Int32))]))
  have hc3 : ¬ ((6 : Int32) = (3 : Int32)) := by decide
  refine GoW.st (fun t k => XS.icmpYes X0.here hx rfl (pc0 := 3) (pc' := 14) rfl (hb hby d7_3) rfl (feq hc3).2 (by decide) (by decide) (XS.iloadN X0.here hx rfl (hb hby d7_14) rfl k)) ?_
  show GoW p e below QQ (T0.setTop (mkF m 15 #[.val (.ref a1), .val (.int (6 : Int32)), .unset] [(.int (6 : Int32))]))
  obtain ⟨T1, h1, k1, X1, e1, E1, A1, st1⟩ := newP X0 hx hZ (hw _ (List.mem_of_getElem? (i := 19) rfl)) e0 (g := (mkF m 15 #[.val (.ref a1), .val (.int (6 : Int32)), .unset] [(.int (6 : Int32))])) rfl (hb hby d7_15) rfl (by decide) (cap := 6) (by decide) (by decide) (by decide) (by decide)
  obtain ⟨b1, g1⟩ : ∃ z, z = h0.size := ⟨_, rfl⟩
  rw [← g1] at A1 st1
  refine GoW.st st1 ?_
  have gg1 : n0 ≤ b1 := Nat.le_trans (Nat.le_trans Z0 K0.1) (Nat.le_of_eq g1.symm)
  have sz1 : h0.size ≤ b1 := Nat.le_trans K0.1 (Nat.le_of_eq g1.symm)
  have ne1_a1 : a1 ≠ b1 := Nat.ne_of_lt (Nat.lt_of_lt_of_le pre_V_a1.lt (Nat.le_of_eq g1.symm))
  have f2_V_a1 : Arv Z h1 a1 ka .long (3 : Int32) [(.long va), (.long vb), (.long vc), (.long vd)] (.long (0 : Int64)) := pre_V_a1.ext E1
  have K1 : Keep h0 h1 [] := K0.ext E1
  have V1 : Arv Z h1 b1 k1 .long (6 : Int32) [(.long (0 : Int64)), (.long (0 : Int64)), (.long (0 : Int64)), (.long (0 : Int64))] (.long (0 : Int64)) := (Arv.new A1 (by decide)).pad (pad_rep [] (.long (0 : Int64)) 4)
  show GoW p e below QQ (T1.setTop (mkF m 17 #[.val (.ref a1), .val (.int (6 : Int32)), .unset] [(.ref b1)]))
  refine GoW.st (fun t k => XS.astoreN X1.here hx rfl (hb hby d7_17) rfl rfl (l' := #[.val (.ref a1), .val (.int (6 : Int32)), .val (.ref b1)]) rfl (XS.aloadN X1.here hx rfl (hb hby d7_18) rfl rfl (XS.iconst X1.here hx rfl (hb hby d7_19) (XS.aloadN X1.here hx rfl (hb hby d7_20) rfl rfl (XS.iconst X1.here hx rfl (hb hby d7_21) (XS.aloadN X1.here hx rfl (hb hby d7_22) rfl rfl k)))))) ?_
  show GoW p e below QQ (T1.setTop (mkF m 23 #[.val (.ref a1), .val (.int (6 : Int32)), .val (.ref b1)] [(.ref a1), (.int (0 : Int32)), (.ref b1), (.int (0 : Int32)), (.ref a1)]))
  refine GoW.st (fun t k => lnV X1 hx hZ e1 f2_V_a1 (g := (mkF m 23 #[.val (.ref a1), .val (.int (6 : Int32)), .val (.ref b1)] [(.ref a1), (.int (0 : Int32)), (.ref b1), (.int (0 : Int32)), (.ref a1)])) rfl rfl (hb hby d7_23) t (XS.iloadN X1.here hx rfl (hb hby d7_24) rfl k)) ?_
  show GoW p e below QQ (T1.setTop (mkF m 25 #[.val (.ref a1), .val (.int (6 : Int32)), .val (.ref b1)] [(.int (6 : Int32)), (.int (3 : Int32)), (.int (0 : Int32)), (.ref b1), (.int (0 : Int32)), (.ref a1)]))
  obtain ⟨_, _, ⟨T3, zL3, zk3, zn3⟩, -, X3, ⟨Lc3, hQ3, zl3, zy3, zz3⟩, st3⟩ := Jvm.LawKit.callS X1 hx (y := (⟨"java/lang/Math", "min", "(II)I"⟩ : MethodName)) hown (mvT hZ (hw _ (List.mem_of_getElem? (i := 33) rfl))) (mvT hZ (hw _ (List.mem_of_getElem? (i := 34) rfl))) (mvT hZ (hw _ (List.mem_of_getElem? (i := 2) rfl))) (mvT hZ (hw _ (List.mem_of_getElem? (i := 35) rfl))) (by decide) (backOf (W := 4) (rm8 l Z a0 hw [] (3 : Int32) (6 : Int32) h1 n0 (Nat.le_trans Z0 K1.1) ) hZ (hw _ (List.mem_of_getElem? (i := 35) rfl)) (hw _ (List.mem_of_getElem? (i := 2) rfl)) (by decide) (by decide)) (g := (mkF m 25 #[.val (.ref a1), .val (.int (6 : Int32)), .val (.ref b1)] [(.int (6 : Int32)), (.int (3 : Int32)), (.int (0 : Int32)), (.ref b1), (.int (0 : Int32)), (.ref a1)])) rfl (by rw [hml]; rfl) (argsL := [(.int (3 : Int32)), (.int (6 : Int32))]) (rest := [(.int (0 : Int32)), (.ref b1), (.int (0 : Int32)), (.ref a1)]) (lenOf pd_0 rfl) rfl (by show 2 * 0 + _ ≤ _; exact Nat.le_of_eq rfl) (hb hby d7_25) (fun _ _ => ⟨rfl, e1, (by decide : 1 + 0 ≤ _), (by decide : 6 + 0 ≤ _)⟩)
  dsimp only [Pt.U, Pt.locs, Pt.cells, Pt.slots] at X3 zl3 zy3 zz3 st3 hQ3
  subst zl3 zy3 zz3
  obtain ⟨rfl, Nq3, hh3⟩ := hQ3
  have N3 := Fr.app N0 Nq3
  refine GoW.st st3 ?_
  show GoW p e below QQ (T3.setTop (mkF m 28 #[.val (.ref a1), .val (.int (6 : Int32)), .val (.ref b1)] [(.int (own_minI (3 : Int32) (6 : Int32))), (.int (0 : Int32)), (.ref b1), (.int (0 : Int32)), (.ref a1)]))
  have e28 : own_minI (3 : Int32) (6 : Int32) = (3 : Int32) := by decide
  rw [e28]
  show GoW p e below QQ (T3.setTop (mkF m 28 #[.val (.ref a1), .val (.int (6 : Int32)), .val (.ref b1)] [(.int (3 : Int32)), (.int (0 : Int32)), (.ref b1), (.int (0 : Int32)), (.ref a1)]))
  obtain ⟨T4, h4, L4, X4, e4, N4, Kq4, V4, st4⟩ := cpA X3 hx hZ hown (hw _ (List.mem_of_getElem? (i := 36) rfl)) (hw _ (List.mem_of_getElem? (i := 39) rfl)) (hw _ (List.mem_of_getElem? (i := 37) rfl)) (hw _ (List.mem_of_getElem? (i := 38) rfl)) hh3 f2_V_a1 V1 (us := [(.long va), (.long vb), (.long vc)]) (Or.inl ⟨rfl, rfl⟩) (by decide) (by decide) (by decide) (by decide) (by decide) rfl (Nat.le_of_ble_eq_true rfl) N3 gg1 (g := (mkF m 28 #[.val (.ref a1), .val (.int (6 : Int32)), .val (.ref b1)] [(.int (3 : Int32)), (.int (0 : Int32)), (.ref b1), (.int (0 : Int32)), (.ref a1)])) rfl (by rw [hml]; rfl) rfl (hb hby d7_28) (by decide) (W := 0) (by show 2 * 0 + _ ≤ _; exact Nat.le_of_eq rfl) (by decide)
  refine GoW.st st4 ?_
  have f5_V_a1 : Arv Z h4 a1 ka .long (3 : Int32) [(.long va), (.long vb), (.long vc), (.long vd)] (.long (0 : Int64)) := f2_V_a1.keep Kq4 (ninS ne1_a1 nin0)
  have f5_V_b1 : Arv Z h4 b1 k1 .long (6 : Int32) [(.long va), (.long vb), (.long vc), (.long (0 : Int64))] (.long (0 : Int64)) := V4
  have K4 : Keep h0 h4 [] := K1.trans Kq4 (allS (Or.inr sz1) all0)
  show GoW p e below QQ (T4.setTop (mkF m 31 #[.val (.ref a1), .val (.int (6 : Int32)), .val (.ref b1)] []))
  refine GoW.st (fun t k => XS.aloadN X4.here hx rfl (hb hby d7_31) rfl rfl k) ?_
  show GoW p e below QQ (T4.setTop (mkF m 32 #[.val (.ref a1), .val (.int (6 : Int32)), .val (.ref b1)] [(.ref b1)]))
  exact GoW.fin X4 (some (.ref b1)) (fun q => by rw [hret] at q; cases q) hlk hQ e4 ⟨b1, k1, rfl, N4, K4, sz1, f5_V_b1⟩ (by decide) (by decide) (fun fs hr => retOut X4 hx hret rfl (Or.inr (Or.inr (Or.inr (Or.inr ⟨rfl, rfl, rfl⟩)))) (hb hby d7_32) hr)
theorem d6_0 : decode prog_40_method_4_code 0 = .ok (.aload_n 0, 1) := by decide +kernel
theorem d6_1 : decode prog_40_method_4_code 1 = .ok (.getfield 19, 3) := by decide +kernel
theorem d6_4 : decode prog_40_method_4_code 4 = .ok (.aload_n 0, 1) := by decide +kernel
theorem d6_5 : decode prog_40_method_4_code 5 = .ok (.getfield 13, 3) := by decide +kernel
theorem d6_8 : decode prog_40_method_4_code 8 = .ok (.arraylength, 1) := by decide +kernel
theorem d6_9 : decode prog_40_method_4_code 9 = .ok (.if_icmp .ne 20, 3) := by decide +kernel
theorem d6_29 : decode prog_40_method_4_code 29 = .ok (.aload_n 0, 1) := by decide +kernel
theorem d6_30 : decode prog_40_method_4_code 30 = .ok (.dup, 1) := by decide +kernel
theorem d6_31 : decode prog_40_method_4_code 31 = .ok (.getfield 19, 3) := by decide +kernel
theorem d6_34 : decode prog_40_method_4_code 34 = .ok (.dup_x1, 1) := by decide +kernel
theorem d6_35 : decode prog_40_method_4_code 35 = .ok (.iconst 1, 1) := by decide +kernel
theorem d6_36 : decode prog_40_method_4_code 36 = .ok (.iadd, 1) := by decide +kernel
theorem d6_37 : decode prog_40_method_4_code 37 = .ok (.putfield 19, 3) := by decide +kernel
theorem d6_40 : decode prog_40_method_4_code 40 = .ok (.istore_n 3, 1) := by decide +kernel
theorem d6_41 : decode prog_40_method_4_code 41 = .ok (.iload_n 3, 1) := by decide +kernel
theorem d6_42 : decode prog_40_method_4_code 42 = .ok (.ifCond .le 43, 3) := by decide +kernel
theorem d6_85 : decode prog_40_method_4_code 85 = .ok (.aload_n 0, 1) := by decide +kernel
theorem d6_86 : decode prog_40_method_4_code 86 = .ok (.getfield 13, 3) := by decide +kernel
theorem d6_89 : decode prog_40_method_4_code 89 = .ok (.iload_n 3, 1) := by decide +kernel
theorem d6_90 : decode prog_40_method_4_code 90 = .ok (.lload_n 1, 1) := by decide +kernel
theorem d6_91 : decode prog_40_method_4_code 91 = .ok (.lastore, 1) := by decide +kernel
theorem d6_92 : decode prog_40_method_4_code 92 = .ok (.return_, 1) := by decide +kernel
def RM6_0 : Room := { frames := 0, cells := 0, slots := 0, locals := 0 }
def Q6_0 (Z : State) (a1 : Addr) (q1 : Int64) (a2 : Addr) (ka : ClassId) (z : Int32) (va : Int64) (vb : Int64) (vc : Int64) (vd : Int64) (h0 : Heap) (n0 : Nat) (v : Option Value) (h : Heap) (L : List Loc) : Prop := ∃ (b : Addr) (kb : ClassId) (zz : Int32) (wa : Int64) (wb : Int64) (wc : Int64) (wd : Int64), v = none ∧ Fr n0 L ∧ Keep h0 h [a1, a2] ∧ (Exa Z h a1 "com/example/eunomia/eunomia/sticky/LongHeap") ∧ (Fld Z h a1 "com/example/eunomia/eunomia/sticky/LongHeap" "values" "[J" (.ref b)) ∧ (Fld Z h a1 "com/example/eunomia/eunomia/sticky/LongHeap" "size" "I" (.int (1 : Int32))) ∧ (n0 ≤ b) ∧ (b ≠ a1) ∧ (Arv Z h b kb .long zz [(.long wa), (.long wb), (.long wc), (.long wd)] (.long (0 : Int64))) ∧ (1 ≤ zz.toInt ∧ 1 ≤ zz.toInt ∧ zz.toInt ≤ 8) ∧ (∀ f : Int64 → Int, f wa = f q1)
set_option maxRecDepth 65536 in
set_option maxHeartbeats 40000000 in
theorem rm6_0 (l : Launch) (Z : State) (a0 : Array Value) (hw : ∀ d ∈ tables_1, d.before a0 Z = true) (ws : List Jvm.Cond) (a1 : Addr) (q1 : Int64) (a2 : Addr) (ka : ClassId) (z : Int32) (va : Int64) (vb : Int64) (vc : Int64) (vd : Int64) (h0 : Heap) (n0 : Nat) (Z0 : n0 ≤ h0.size) (pre_E_a1 : Exa Z h0 a1 "com/example/eunomia/eunomia/sticky/LongHeap") (pre_g_a1 : n0 ≤ a1) (pre_g_a2 : n0 ≤ a2) (pre_a2_a1 : a2 ≠ a1) (pre_F_a1_values : Fld Z h0 a1 "com/example/eunomia/eunomia/sticky/LongHeap" "values" "[J" (.ref a2)) (pre_F_a1_size : Fld Z h0 a1 "com/example/eunomia/eunomia/sticky/LongHeap" "size" "I" (.int (0 : Int32))) (pre_V_a2 : Arv Z h0 a2 ka .long z [(.long va), (.long vb), (.long vc), (.long vd)] (.long (0 : Int64))) (hz : 1 ≤ z.toInt ∧ 0 ≤ z.toInt ∧ z.toInt ≤ 8) :
    MetFree l (⟨"com/example/eunomia/eunomia/sticky/LongHeap", "add", "(J)V"⟩ : MethodName) (head1 (Jvm.Cond.code (⟨"com/example/eunomia/eunomia/sticky/LongHeap", "add", "(J)V"⟩ : MethodName) prog_40_method_4_code 4 none :: ws) RM6_0) (fun a U => a = #[(.ref a1), (.long q1)] ∧ Z.Warmed39 U.vm ∧ U.heap = h0) (fun _ _ _ _ _ => True) (fun _ U o U' => ∃ v L, o = .returned v ∧ Q6_0 Z a1 q1 a2 ka z va vb vc vd h0 n0 v U'.heap L ∧ FrameEnd U o U' L RM6_0.cells RM6_0.slots) := by
  refine met_of (Q := fun v h L => Q6_0 Z a1 q1 a2 ka z va vb vc vd h0 n0 v h L) (plainFor_of_name pn_0) (fun m => by first | (simp [entryFrame, mkF, argsToLocals, Value.category]; done) | rfl) (Ls := #[.val (.ref a1), .val (.long q1), .second, .unset]) ?_
  intro p e s m below meth c T0 QQ hx hZ hby hml hown hnm hret hlk X0 e0 hQ
  have hml : c.maxLocals = 4 := hml
  have hown : s.vm.findClass "com/example/eunomia/eunomia/sticky/LongHeap" = some m.cls := hown
  have hnm : meth.name = "add" := hnm
  have hret : meth.sig.returnType = none := hret
  have N0 := Fr.nil n0
  have K0 : Keep h0 h0 [a1, a2] := Keep.refl h0 _
  show GoW p e below QQ (T0.setTop (mkF m 0 #[.val (.ref a1), .val (.long q1), .second, .unset] []))
  have z0 : (0 : Int32).toInt = 0 := rfl
  have z1 : (1 : Int32).toInt = 1 := rfl
  have z2 : (2 : Int32).toInt = 2 := rfl
  have z3 : (3 : Int32).toInt = 3 := rfl
  have z4 : (4 : Int32).toInt = 4 := rfl
  have z6 : (6 : Int32).toInt = 6 := rfl
  refine GoW.st (fun t k => XS.aloadN X0.here hx rfl (hb hby d6_0) rfl rfl k) ?_
  show GoW p e below QQ (T0.setTop (mkF m 1 #[.val (.ref a1), .val (.long q1), .second, .unset] [(.ref a1)]))
  obtain ⟨T1, X1, e1, st1⟩ := getF X0 hx hZ hown (host := "") (Or.inl (hw _ (List.mem_of_getElem? (i := 27) rfl))) Via.refl e0 pre_F_a1_size (g := (mkF m 1 #[.val (.ref a1), .val (.long q1), .second, .unset] [(.ref a1)])) rfl rfl (hb hby d6_1)
  refine GoW.st st1 ?_
  show GoW p e below QQ (T1.setTop (mkF m 4 #[.val (.ref a1), .val (.long q1), .second, .unset] [(.int (0 : Int32))]))
  refine GoW.st (fun t k => XS.aloadN X1.here hx rfl (hb hby d6_4) rfl rfl k) ?_
  show GoW p e below QQ (T1.setTop (mkF m 5 #[.val (.ref a1), .val (.long q1), .second, .unset] [(.ref a1), (.int (0 : Int32))]))
  obtain ⟨T2, X2, e2, st2⟩ := getF X1 hx hZ hown (host := "") (Or.inl (hw _ (List.mem_of_getElem? (i := 20) rfl))) Via.refl e1 pre_F_a1_values (g := (mkF m 5 #[.val (.ref a1), .val (.long q1), .second, .unset] [(.ref a1), (.int (0 : Int32))])) rfl rfl (hb hby d6_5)
  refine GoW.st st2 ?_
  show GoW p e below QQ (T2.setTop (mkF m 8 #[.val (.ref a1), .val (.long q1), .second, .unset] [(.ref a2), (.int (0 : Int32))]))
  refine GoW.st (fun t k => lnV X2 hx hZ e2 pre_V_a2 (g := (mkF m 8 #[.val (.ref a1), .val (.long q1), .second, .unset] [(.ref a2), (.int (0 : Int32))])) rfl rfl (hb hby d6_8) t k) ?_
  show GoW p e below QQ (T2.setTop (mkF m 9 #[.val (.ref a1), .val (.long q1), .second, .unset] [(.int z), (.int (0 : Int32))]))
  have hc9 : ¬ ((0 : Int32) = z) := by
    exact own_ne_of (by omega)
  refine GoW.st (fun t k => XS.icmpYes X2.here hx rfl (pc0 := 9) (pc' := 29) rfl (hb hby d6_9) rfl (feq hc9).2 (by decide) (by decide) k) ?_
  show GoW p e below QQ (T2.setTop (mkF m 29 #[.val (.ref a1), .val (.long q1), .second, .unset] []))
  have hi9 : ¬ (0 = z.toInt) := (fun q => hc9 (Int32.toInt_inj.mp q))
  have hlt := fun q => hc9 (own_eq_of q)
  refine GoW.st (fun t k => XS.aloadN X2.here hx rfl (hb hby d6_29) rfl rfl (XS.dup X2.here hx rfl (hb hby d6_30) rfl rfl k)) ?_
  show GoW p e below QQ (T2.setTop (mkF m 31 #[.val (.ref a1), .val (.long q1), .second, .unset] [(.ref a1), (.ref a1)]))
  obtain ⟨T3, X3, e3, st3⟩ := getF X2 hx hZ hown (host := "") (Or.inl (hw _ (List.mem_of_getElem? (i := 27) rfl))) Via.refl e2 pre_F_a1_size (g := (mkF m 31 #[.val (.ref a1), .val (.long q1), .second, .unset] [(.ref a1), (.ref a1)])) rfl rfl (hb hby d6_31)
  refine GoW.st st3 ?_
  show GoW p e below QQ (T3.setTop (mkF m 34 #[.val (.ref a1), .val (.long q1), .second, .unset] [(.int (0 : Int32)), (.ref a1)]))
  refine GoW.st (fun t k => XS.dupX1 X3.here hx rfl (hb hby d6_34) rfl rfl rfl (XS.iconst X3.here hx rfl (hb hby d6_35) (XS.iadd X3.here hx rfl (hb hby d6_36) rfl k))) ?_
  show GoW p e below QQ (T3.setTop (mkF m 37 #[.val (.ref a1), .val (.long q1), .second, .unset] [(.int (1 : Int32)), (.ref a1), (.int (0 : Int32))]))
  obtain ⟨T4, h4, X4, e4, W4, st4⟩ := putF X3 hx hZ hown (host := "") (Or.inl (hw _ (List.mem_of_getElem? (i := 27) rfl))) Via.refl e3 pre_F_a1_size pre_E_a1 (Or.inl (hw _ (List.mem_of_getElem? (i := 28) rfl))) (hw _ (List.mem_of_getElem? (i := 8) rfl)) (ty := .int) (by decide) rfl rfl (g := (mkF m 37 #[.val (.ref a1), .val (.long q1), .second, .unset] [(.int (1 : Int32)), (.ref a1), (.int (0 : Int32))])) rfl rfl (hb hby d6_37)
  refine GoW.st st4 ?_
  have f5_E_a1 : Exa Z h4 a1 "com/example/eunomia/eunomia/sticky/LongHeap" := pre_E_a1.wr W4
  have f5_F_a1_values : Fld Z h4 a1 "com/example/eunomia/eunomia/sticky/LongHeap" "values" "[J" (.ref a2) := pre_F_a1_values.other W4 (Or.inr (slot_ne (Or.inl (hw _ (List.mem_of_getElem? (i := 21) rfl))) (Or.inl (hw _ (List.mem_of_getElem? (i := 28) rfl))) (by decide) (t := (.array .long)) (t' := .int) (by decide) (by decide)))
  have f5_F_a1_size : Fld Z h4 a1 "com/example/eunomia/eunomia/sticky/LongHeap" "size" "I" (.int (1 : Int32)) := pre_F_a1_size.same W4
  have f5_V_a2 : Arv Z h4 a2 ka .long z [(.long va), (.long vb), (.long vc), (.long vd)] (.long (0 : Int64)) := pre_V_a2.other W4 pre_a2_a1
  have K4 : Keep h0 h4 [a1, a2] := K0.wr W4 (Or.inl (List.mem_of_getElem? (i := 0) rfl))
  have N4 := Fr.snoc X4 N0 pre_g_a1
  show GoW p e below QQ (T4.setTop (mkF m 40 #[.val (.ref a1), .val (.long q1), .second, .unset] [(.int (0 : Int32))]))
  refine GoW.st (fun t k => XS.istoreN X4.here hx rfl (hb hby d6_40) rfl (l' := #[.val (.ref a1), .val (.long q1), .second, .val (.int (0 : Int32))]) rfl (XS.iloadN X4.here hx rfl (hb hby d6_41) rfl k)) ?_
  show GoW p e below QQ (T4.setTop (mkF m 42 #[.val (.ref a1), .val (.long q1), .second, .val (.int (0 : Int32))] [(.int (0 : Int32))]))
  have hc42 : ¬ ((0 : Int32) < (0 : Int32)) := by decide
  refine GoW.st (fun t k => XS.ifYes X4.here hx rfl (pc0 := 42) (pc' := 85) rfl (hb hby d6_42) rfl ((if0 _ _).trans (flt hc42).2.2.2) (by decide) (by decide) (XS.aloadN X4.here hx rfl (hb hby d6_85) rfl rfl k)) ?_
  show GoW p e below QQ (T4.setTop (mkF m 86 #[.val (.ref a1), .val (.long q1), .second, .val (.int (0 : Int32))] [(.ref a1)]))
  obtain ⟨T6, X6, e6, st6⟩ := getF X4 hx hZ hown (host := "") (Or.inl (hw _ (List.mem_of_getElem? (i := 20) rfl))) Via.refl e4 f5_F_a1_values (g := (mkF m 86 #[.val (.ref a1), .val (.long q1), .second, .val (.int (0 : Int32))] [(.ref a1)])) rfl rfl (hb hby d6_86)
  refine GoW.st st6 ?_
  show GoW p e below QQ (T6.setTop (mkF m 89 #[.val (.ref a1), .val (.long q1), .second, .val (.int (0 : Int32))] [(.ref a2)]))
  refine GoW.st (fun t k => XS.iloadN X6.here hx rfl (hb hby d6_89) rfl (XS.lloadN X6.here hx rfl (hb hby d6_90) rfl k)) ?_
  show GoW p e below QQ (T6.setTop (mkF m 91 #[.val (.ref a1), .val (.long q1), .second, .val (.int (0 : Int32))] [(.long q1), (.int (0 : Int32)), (.ref a2)]))
  obtain ⟨T7, h7, X7, e7, W7, V7, st7⟩ := stVJ X6 hx hZ e6 f5_V_a2 ⟨by decide, own_lt_of (by omega)⟩ 0 rfl (Nat.le_of_ble_eq_true rfl) (g := (mkF m 91 #[.val (.ref a1), .val (.long q1), .second, .val (.int (0 : Int32))] [(.long q1), (.int (0 : Int32)), (.ref a2)])) rfl rfl (hb hby d6_91)
  refine GoW.st st7 ?_
  have f8_E_a1 : Exa Z h7 a1 "com/example/eunomia/eunomia/sticky/LongHeap" := f5_E_a1.wr W7
  have f8_F_a1_values : Fld Z h7 a1 "com/example/eunomia/eunomia/sticky/LongHeap" "values" "[J" (.ref a2) := f5_F_a1_values.other W7 (Or.inl (Ne.symm pre_a2_a1))
  have f8_F_a1_size : Fld Z h7 a1 "com/example/eunomia/eunomia/sticky/LongHeap" "size" "I" (.int (1 : Int32)) := f5_F_a1_size.other W7 (Or.inl (Ne.symm pre_a2_a1))
  have f8_V_a2 : Arv Z h7 a2 ka .long z [(.long q1), (.long vb), (.long vc), (.long vd)] (.long (0 : Int64)) := V7
  have K7 : Keep h0 h7 [a1, a2] := K4.wr W7 (Or.inl (List.mem_of_getElem? (i := 1) rfl))
  have N7 := Fr.snoc X7 N4 pre_g_a2
  show GoW p e below QQ (T7.setTop (mkF m 92 #[.val (.ref a1), .val (.long q1), .second, .val (.int (0 : Int32))] []))
  exact GoW.fin X7 none (fun _ => rfl) hlk hQ e7 ⟨a2, ka, z, q1, vb, vc, vd, rfl, N7, K7, f8_E_a1, f8_F_a1_values, f8_F_a1_size, pre_g_a2, pre_a2_a1, f8_V_a2, (by omega), (fun f => by omega)⟩ (by decide) (by decide) (fun fs hr => X7.returnOut hx hret (hb hby d6_92) hr)
theorem d6_12 : decode prog_40_method_4_code 12 = .ok (.aload_n 0, 1) := by decide +kernel
theorem d6_13 : decode prog_40_method_4_code 13 = .ok (.aload_n 0, 1) := by decide +kernel
theorem d6_14 : decode prog_40_method_4_code 14 = .ok (.getfield 13, 3) := by decide +kernel
theorem d6_17 : decode prog_40_method_4_code 17 = .ok (.iconst 2, 1) := by decide +kernel
theorem d6_18 : decode prog_40_method_4_code 18 = .ok (.aload_n 0, 1) := by decide +kernel
theorem d6_19 : decode prog_40_method_4_code 19 = .ok (.getfield 19, 3) := by decide +kernel
theorem d6_22 : decode prog_40_method_4_code 22 = .ok (.imul, 1) := by decide +kernel
theorem d6_23 : decode prog_40_method_4_code 23 = .ok (.invokestatic 23, 3) := by decide +kernel
theorem pd_1 : parseMethodDescriptor "([JI)[J" = some ⟨[(.array .long), .int], some (.array .long)⟩ := by decide +kernel
theorem d6_26 : decode prog_40_method_4_code 26 = .ok (.putfield 13, 3) := by decide +kernel
theorem d6_45 : decode prog_40_method_4_code 45 = .ok (.lload_n 1, 1) := by decide +kernel
theorem d6_46 : decode prog_40_method_4_code 46 = .ok (.aload_n 0, 1) := by decide +kernel
theorem d6_47 : decode prog_40_method_4_code 47 = .ok (.getfield 13, 3) := by decide +kernel
theorem d6_50 : decode prog_40_method_4_code 50 = .ok (.iload_n 3, 1) := by decide +kernel
theorem d6_51 : decode prog_40_method_4_code 51 = .ok (.iconst 1, 1) := by decide +kernel
theorem d6_52 : decode prog_40_method_4_code 52 = .ok (.isub, 1) := by decide +kernel
theorem d6_53 : decode prog_40_method_4_code 53 = .ok (.iconst 2, 1) := by decide +kernel
theorem d6_54 : decode prog_40_method_4_code 54 = .ok (.idiv, 1) := by decide +kernel
theorem d6_55 : decode prog_40_method_4_code 55 = .ok (.laload, 1) := by decide +kernel
theorem d6_56 : decode prog_40_method_4_code 56 = .ok (.lcmp, 1) := by decide +kernel
theorem d6_57 : decode prog_40_method_4_code 57 = .ok (.ifCond .ge 28, 3) := by decide +kernel
theorem d6_60 : decode prog_40_method_4_code 60 = .ok (.aload_n 0, 1) := by decide +kernel
theorem d6_61 : decode prog_40_method_4_code 61 = .ok (.getfield 13, 3) := by decide +kernel
theorem d6_64 : decode prog_40_method_4_code 64 = .ok (.iload_n 3, 1) := by decide +kernel
theorem d6_65 : decode prog_40_method_4_code 65 = .ok (.aload_n 0, 1) := by decide +kernel
theorem d6_66 : decode prog_40_method_4_code 66 = .ok (.getfield 13, 3) := by decide +kernel
theorem d6_69 : decode prog_40_method_4_code 69 = .ok (.iload_n 3, 1) := by decide +kernel
theorem d6_70 : decode prog_40_method_4_code 70 = .ok (.iconst 1, 1) := by decide +kernel
theorem d6_71 : decode prog_40_method_4_code 71 = .ok (.isub, 1) := by decide +kernel
theorem d6_72 : decode prog_40_method_4_code 72 = .ok (.iconst 2, 1) := by decide +kernel
theorem d6_73 : decode prog_40_method_4_code 73 = .ok (.idiv, 1) := by decide +kernel
theorem d6_74 : decode prog_40_method_4_code 74 = .ok (.laload, 1) := by decide +kernel
theorem d6_75 : decode prog_40_method_4_code 75 = .ok (.lastore, 1) := by decide +kernel
theorem d6_76 : decode prog_40_method_4_code 76 = .ok (.iload_n 3, 1) := by decide +kernel
theorem d6_77 : decode prog_40_method_4_code 77 = .ok (.iconst 1, 1) := by decide +kernel
theorem d6_78 : decode prog_40_method_4_code 78 = .ok (.isub, 1) := by decide +kernel
theorem d6_79 : decode prog_40_method_4_code 79 = .ok (.iconst 2, 1) := by decide +kernel
theorem d6_80 : decode prog_40_method_4_code 80 = .ok (.idiv, 1) := by decide +kernel
theorem d6_81 : decode prog_40_method_4_code 81 = .ok (.istore_n 3, 1) := by decide +kernel
theorem d6_82 : decode prog_40_method_4_code 82 = .ok (.goto (-41), 3) := by decide +kernel
def RM6_1 : Room := { frames := 2, cells := 1, slots := 2, locals := 79 }
def Q6_1 (Z : State) (a1 : Addr) (q1 : Int64) (a2 : Addr) (ka : ClassId) (z : Int32) (va : Int64) (vb : Int64) (vc : Int64) (vd : Int64) (h0 : Heap) (n0 : Nat) (v : Option Value) (h : Heap) (L : List Loc) : Prop := ∃ (b : Addr) (kb : ClassId) (zz : Int32) (wa : Int64) (wb : Int64) (wc : Int64) (wd : Int64), v = none ∧ Fr n0 L ∧ Keep h0 h [a1, a2] ∧ (Exa Z h a1 "com/example/eunomia/eunomia/sticky/LongHeap") ∧ (Fld Z h a1 "com/example/eunomia/eunomia/sticky/LongHeap" "values" "[J" (.ref b)) ∧ (Fld Z h a1 "com/example/eunomia/eunomia/sticky/LongHeap" "size" "I" (.int (2 : Int32))) ∧ (n0 ≤ b) ∧ (b ≠ a1) ∧ (Arv Z h b kb .long zz [(.long wa), (.long wb), (.long wc), (.long wd)] (.long (0 : Int64))) ∧ (1 ≤ zz.toInt ∧ 2 ≤ zz.toInt ∧ zz.toInt ≤ 8) ∧ (∀ f : Int64 → Int, f wa + f wb = f va + f q1) ∧ (wa.toInt ≤ wb.toInt)
set_option maxRecDepth 65536 in
set_option maxHeartbeats 40000000 in
theorem rm6_1 (l : Launch) (Z : State) (a0 : Array Value) (hw : ∀ d ∈ tables_1, d.before a0 Z = true) (ws : List Jvm.Cond) (a1 : Addr) (q1 : Int64) (a2 : Addr) (ka : ClassId) (z : Int32) (va : Int64) (vb : Int64) (vc : Int64) (vd : Int64) (h0 : Heap) (n0 : Nat) (Z0 : n0 ≤ h0.size) (pre_E_a1 : Exa Z h0 a1 "com/example/eunomia/eunomia/sticky/LongHeap") (pre_g_a1 : n0 ≤ a1) (pre_g_a2 : n0 ≤ a2) (pre_a2_a1 : a2 ≠ a1) (pre_F_a1_values : Fld Z h0 a1 "com/example/eunomia/eunomia/sticky/LongHeap" "values" "[J" (.ref a2)) (pre_F_a1_size : Fld Z h0 a1 "com/example/eunomia/eunomia/sticky/LongHeap" "size" "I" (.int (1 : Int32))) (pre_V_a2 : Arv Z h0 a2 ka .long z [(.long va), (.long vb), (.long vc), (.long vd)] (.long (0 : Int64))) (hz : 1 ≤ z.toInt ∧ 1 ≤ z.toInt ∧ z.toInt ≤ 8) :
    MetFree l (⟨"com/example/eunomia/eunomia/sticky/LongHeap", "add", "(J)V"⟩ : MethodName) (head1 (Jvm.Cond.code (⟨"com/example/eunomia/eunomia/sticky/LongHeap", "add", "(J)V"⟩ : MethodName) prog_40_method_4_code 4 none :: ws) RM6_1) (fun a U => a = #[(.ref a1), (.long q1)] ∧ Z.Warmed39 U.vm ∧ U.heap = h0) (fun _ _ _ _ _ => True) (fun _ U o U' => ∃ v L, o = .returned v ∧ Q6_1 Z a1 q1 a2 ka z va vb vc vd h0 n0 v U'.heap L ∧ FrameEnd U o U' L RM6_1.cells RM6_1.slots) := by
  refine met_of (Q := fun v h L => Q6_1 Z a1 q1 a2 ka z va vb vc vd h0 n0 v h L) (plainFor_of_name pn_0) (fun m => by first | (simp [entryFrame, mkF, argsToLocals, Value.category]; done) | rfl) (Ls := #[.val (.ref a1), .val (.long q1), .second, .unset]) ?_
  intro p e s m below meth c T0 QQ hx hZ hby hml hown hnm hret hlk X0 e0 hQ
  have hml : c.maxLocals = 4 := hml
  have hown : s.vm.findClass "com/example/eunomia/eunomia/sticky/LongHeap" = some m.cls := hown
  have hnm : meth.name = "add" := hnm
  have hret : meth.sig.returnType = none := hret
  have N0 := Fr.nil n0
  have K0 : Keep h0 h0 [a1, a2] := Keep.refl h0 _
  show GoW p e below QQ (T0.setTop (mkF m 0 #[.val (.ref a1), .val (.long q1), .second, .unset] []))
  have z0 : (0 : Int32).toInt = 0 := rfl
  have z1 : (1 : Int32).toInt = 1 := rfl
  have z2 : (2 : Int32).toInt = 2 := rfl
  have z3 : (3 : Int32).toInt = 3 := rfl
  have z4 : (4 : Int32).toInt = 4 := rfl
  have z6 : (6 : Int32).toInt = 6 := rfl
  refine GoW.st (fun t k => XS.aloadN X0.here hx rfl (hb hby d6_0) rfl rfl k) ?_
  show GoW p e below QQ (T0.setTop (mkF m 1 #[.val (.ref a1), .val (.long q1), .second, .unset] [(.ref a1)]))
  obtain ⟨T1, X1, e1, st1⟩ := getF X0 hx hZ hown (host := "") (Or.inl (hw _ (List.mem_of_getElem? (i := 27) rfl))) Via.refl e0 pre_F_a1_size (g := (mkF m 1 #[.val (.ref a1), .val (.long q1), .second, .unset] [(.ref a1)])) rfl rfl (hb hby d6_1)
  refine GoW.st st1 ?_
  show GoW p e below QQ (T1.setTop (mkF m 4 #[.val (.ref a1), .val (.long q1), .second, .unset] [(.int (1 : Int32))]))
  refine GoW.st (fun t k => XS.aloadN X1.here hx rfl (hb hby d6_4) rfl rfl k) ?_
  show GoW p e below QQ (T1.setTop (mkF m 5 #[.val (.ref a1), .val (.long q1), .second, .unset] [(.ref a1), (.int (1 : Int32))]))
  obtain ⟨T2, X2, e2, st2⟩ := getF X1 hx hZ hown (host := "") (Or.inl (hw _ (List.mem_of_getElem? (i := 20) rfl))) Via.refl e1 pre_F_a1_values (g := (mkF m 5 #[.val (.ref a1), .val (.long q1), .second, .unset] [(.ref a1), (.int (1 : Int32))])) rfl rfl (hb hby d6_5)
  refine GoW.st st2 ?_
  show GoW p e below QQ (T2.setTop (mkF m 8 #[.val (.ref a1), .val (.long q1), .second, .unset] [(.ref a2), (.int (1 : Int32))]))
  refine GoW.st (fun t k => lnV X2 hx hZ e2 pre_V_a2 (g := (mkF m 8 #[.val (.ref a1), .val (.long q1), .second, .unset] [(.ref a2), (.int (1 : Int32))])) rfl rfl (hb hby d6_8) t k) ?_
  show GoW p e below QQ (T2.setTop (mkF m 9 #[.val (.ref a1), .val (.long q1), .second, .unset] [(.int z), (.int (1 : Int32))]))
  by_cases hc9 : (1 : Int32) = z
  · skip
    refine GoW.st (fun t k => XS.icmpNo X2.here hx rfl (hb hby d6_9) rfl (teq hc9).2 k) ?_
    show GoW p e below QQ (T2.setTop (mkF m 12 #[.val (.ref a1), .val (.long q1), .second, .unset] []))
    have hi9 : 1 = z.toInt := (congrArg Int32.toInt hc9)
    subst hc9
    refine GoW.st (fun t k => XS.aloadN X2.here hx rfl (hb hby d6_12) rfl rfl (XS.aloadN X2.here hx rfl (hb hby d6_13) rfl rfl k)) ?_
    show GoW p e below QQ (T2.setTop (mkF m 14 #[.val (.ref a1), .val (.long q1), .second, .unset] [(.ref a1), (.ref a1)]))
    obtain ⟨T3, X3, e3, st3⟩ := getF X2 hx hZ hown (host := "") (Or.inl (hw _ (List.mem_of_getElem? (i := 20) rfl))) Via.refl e2 pre_F_a1_values (g := (mkF m 14 #[.val (.ref a1), .val (.long q1), .second, .unset] [(.ref a1), (.ref a1)])) rfl rfl (hb hby d6_14)
    refine GoW.st st3 ?_
    show GoW p e below QQ (T3.setTop (mkF m 17 #[.val (.ref a1), .val (.long q1), .second, .unset] [(.ref a2), (.ref a1)]))
    refine GoW.st (fun t k => XS.iconst X3.here hx rfl (hb hby d6_17) (XS.aloadN X3.here hx rfl (hb hby d6_18) rfl rfl k)) ?_
    show GoW p e below QQ (T3.setTop (mkF m 19 #[.val (.ref a1), .val (.long q1), .second, .unset] [(.ref a1), (.int (2 : Int32)), (.ref a2), (.ref a1)]))
    obtain ⟨T4, X4, e4, st4⟩ := getF X3 hx hZ hown (host := "") (Or.inl (hw _ (List.mem_of_getElem? (i := 27) rfl))) Via.refl e3 pre_F_a1_size (g := (mkF m 19 #[.val (.ref a1), .val (.long q1), .second, .unset] [(.ref a1), (.int (2 : Int32)), (.ref a2), (.ref a1)])) rfl rfl (hb hby d6_19)
    refine GoW.st st4 ?_
    show GoW p e below QQ (T4.setTop (mkF m 22 #[.val (.ref a1), .val (.long q1), .second, .unset] [(.int (1 : Int32)), (.int (2 : Int32)), (.ref a2), (.ref a1)]))
    refine GoW.st (fun t k => XS.imul X4.here hx rfl (hb hby d6_22) rfl k) ?_
    show GoW p e below QQ (T4.setTop (mkF m 23 #[.val (.ref a1), .val (.long q1), .second, .unset] [(.int (2 : Int32)), (.ref a2), (.ref a1)]))
    obtain ⟨_, _, ⟨T5, zL5, zk5, zn5⟩, -, X5, ⟨Lc5, hQ5, zl5, zy5, zz5⟩, st5⟩ := Jvm.LawKit.callS X4 hx (y := (⟨"java/util/Arrays", "copyOf", "([JI)[J"⟩ : MethodName)) hown (mvT hZ (hw _ (List.mem_of_getElem? (i := 29) rfl))) (mvT hZ (hw _ (List.mem_of_getElem? (i := 30) rfl))) (mvT hZ (hw _ (List.mem_of_getElem? (i := 31) rfl))) (mvT hZ (hw _ (List.mem_of_getElem? (i := 32) rfl))) (by decide) (backOf (W := 1) (rm7_1 l Z a0 hw [] a2 ka va vb vc vd h0 n0 (Nat.le_trans Z0 K0.1) pre_V_a2) hZ (hw _ (List.mem_of_getElem? (i := 32) rfl)) (hw _ (List.mem_of_getElem? (i := 31) rfl)) (by decide) (by decide)) (g := (mkF m 23 #[.val (.ref a1), .val (.long q1), .second, .unset] [(.int (2 : Int32)), (.ref a2), (.ref a1)])) rfl (by rw [hml]; rfl) (argsL := [(.ref a2), (.int (2 : Int32))]) (rest := [(.ref a1)]) (lenOf pd_1 rfl) rfl (by show 2 * 0 + _ ≤ _; exact Nat.le_of_eq rfl) (hb hby d6_23) (fun _ _ => ⟨rfl, e4, (by decide : 0 + 1 ≤ _), (by decide : 0 + 2 ≤ _)⟩)
    dsimp only [Pt.U, Pt.locs, Pt.cells, Pt.slots] at X5 zl5 zy5 zz5 st5 hQ5
    subst zl5 zy5 zz5
    obtain ⟨b_23, kb_23, rfl, Nq5, Kq5, p5_0, p5_1⟩ := hQ5
    have N5 := Fr.app N0 Nq5
    refine GoW.st st5 ?_
    have ne5_a1_b_23 : a1 ≠ b_23 := Nat.ne_of_lt (Nat.lt_of_lt_of_le pre_E_a1.lt p5_0)
    have ne5_a2_b_23 : a2 ≠ b_23 := Nat.ne_of_lt (Nat.lt_of_lt_of_le pre_V_a2.lt p5_0)
    have sz5_b_23 : h0.size ≤ b_23 := Nat.le_trans K0.1 p5_0
    have gg5_b_23 : n0 ≤ b_23 := Nat.le_trans Z0 sz5_b_23
    have f6_E_a1 : Exa Z T5.heap a1 "com/example/eunomia/eunomia/sticky/LongHeap" := pre_E_a1.keep Kq5
    have f6_F_a1_values : Fld Z T5.heap a1 "com/example/eunomia/eunomia/sticky/LongHeap" "values" "[J" (.ref a2) := pre_F_a1_values.keep Kq5 nin0
    have f6_F_a1_size : Fld Z T5.heap a1 "com/example/eunomia/eunomia/sticky/LongHeap" "size" "I" (.int (1 : Int32)) := pre_F_a1_size.keep Kq5 nin0
    have f6_V_a2 : Arv Z T5.heap a2 ka .long (1 : Int32) [(.long va), (.long vb), (.long vc), (.long vd)] (.long (0 : Int64)) := pre_V_a2.keep Kq5 nin0
    have K5 : Keep h0 T5.heap [a1, a2] := K0.trans Kq5 all0
    show GoW p e below QQ (T5.setTop (mkF m 26 #[.val (.ref a1), .val (.long q1), .second, .unset] [(.ref b_23), (.ref a1)]))
    obtain ⟨T7, h7, X7, e7, W7, st7⟩ := putF X5 hx hZ hown (host := "") (Or.inl (hw _ (List.mem_of_getElem? (i := 20) rfl))) Via.refl rfl f6_F_a1_values f6_E_a1 (Or.inl (hw _ (List.mem_of_getElem? (i := 21) rfl))) (hw _ (List.mem_of_getElem? (i := 8) rfl)) (ty := (.array .long)) (by decide) rfl rfl (g := (mkF m 26 #[.val (.ref a1), .val (.long q1), .second, .unset] [(.ref b_23), (.ref a1)])) rfl rfl (hb hby d6_26)
    refine GoW.st st7 ?_
    have f8_E_a1 : Exa Z h7 a1 "com/example/eunomia/eunomia/sticky/LongHeap" := f6_E_a1.wr W7
    have f8_F_a1_values : Fld Z h7 a1 "com/example/eunomia/eunomia/sticky/LongHeap" "values" "[J" (.ref b_23) := f6_F_a1_values.same W7
    have f8_F_a1_size : Fld Z h7 a1 "com/example/eunomia/eunomia/sticky/LongHeap" "size" "I" (.int (1 : Int32)) := f6_F_a1_size.other W7 (Or.inr (slot_ne (Or.inl (hw _ (List.mem_of_getElem? (i := 28) rfl))) (Or.inl (hw _ (List.mem_of_getElem? (i := 21) rfl))) (by decide) (t := .int) (t' := (.array .long)) (by decide) (by decide)))
    have f8_V_a2 : Arv Z h7 a2 ka .long (1 : Int32) [(.long va), (.long vb), (.long vc), (.long vd)] (.long (0 : Int64)) := f6_V_a2.other W7 pre_a2_a1
    have f8_V_b_23 : Arv Z h7 b_23 kb_23 .long (2 : Int32) [(.long va), (.long (0 : Int64)), (.long (0 : Int64)), (.long (0 : Int64))] (.long (0 : Int64)) := p5_1.other W7 (Ne.symm ne5_a1_b_23)
    have K7 : Keep h0 h7 [a1, a2] := K5.wr W7 (Or.inl (List.mem_of_getElem? (i := 0) rfl))
    have N7 := Fr.snoc X7 N5 pre_g_a1
    show GoW p e below QQ (T7.setTop (mkF m 29 #[.val (.ref a1), .val (.long q1), .second, .unset] []))
    refine GoW.st (fun t k => XS.aloadN X7.here hx rfl (hb hby d6_29) rfl rfl (XS.dup X7.here hx rfl (hb hby d6_30) rfl rfl k)) ?_
    show GoW p e below QQ (T7.setTop (mkF m 31 #[.val (.ref a1), .val (.long q1), .second, .unset] [(.ref a1), (.ref a1)]))
    obtain ⟨T9, X9, e9, st9⟩ := getF X7 hx hZ hown (host := "") (Or.inl (hw _ (List.mem_of_getElem? (i := 27) rfl))) Via.refl e7 f8_F_a1_size (g := (mkF m 31 #[.val (.ref a1), .val (.long q1), .second, .unset] [(.ref a1), (.ref a1)])) rfl rfl (hb hby d6_31)
    refine GoW.st st9 ?_
    show GoW p e below QQ (T9.setTop (mkF m 34 #[.val (.ref a1), .val (.long q1), .second, .unset] [(.int (1 : Int32)), (.ref a1)]))
    refine GoW.st (fun t k => XS.dupX1 X9.here hx rfl (hb hby d6_34) rfl rfl rfl (XS.iconst X9.here hx rfl (hb hby d6_35) (XS.iadd X9.here hx rfl (hb hby d6_36) rfl k))) ?_
    show GoW p e below QQ (T9.setTop (mkF m 37 #[.val (.ref a1), .val (.long q1), .second, .unset] [(.int (2 : Int32)), (.ref a1), (.int (1 : Int32))]))
    obtain ⟨T10, h10, X10, e10, W10, st10⟩ := putF X9 hx hZ hown (host := "") (Or.inl (hw _ (List.mem_of_getElem? (i := 27) rfl))) Via.refl e9 f8_F_a1_size f8_E_a1 (Or.inl (hw _ (List.mem_of_getElem? (i := 28) rfl))) (hw _ (List.mem_of_getElem? (i := 8) rfl)) (ty := .int) (by decide) rfl rfl (g := (mkF m 37 #[.val (.ref a1), .val (.long q1), .second, .unset] [(.int (2 : Int32)), (.ref a1), (.int (1 : Int32))])) rfl rfl (hb hby d6_37)
    refine GoW.st st10 ?_
    have f11_E_a1 : Exa Z h10 a1 "com/example/eunomia/eunomia/sticky/LongHeap" := f8_E_a1.wr W10
    have f11_F_a1_values : Fld Z h10 a1 "com/example/eunomia/eunomia/sticky/LongHeap" "values" "[J" (.ref b_23) := f8_F_a1_values.other W10 (Or.inr (slot_ne (Or.inl (hw _ (List.mem_of_getElem? (i := 21) rfl))) (Or.inl (hw _ (List.mem_of_getElem? (i := 28) rfl))) (by decide) (t := (.array .long)) (t' := .int) (by decide) (by decide)))
    have f11_F_a1_size : Fld Z h10 a1 "com/example/eunomia/eunomia/sticky/LongHeap" "size" "I" (.int (2 : Int32)) := f8_F_a1_size.same W10
    have f11_V_b_23 : Arv Z h10 b_23 kb_23 .long (2 : Int32) [(.long va), (.long (0 : Int64)), (.long (0 : Int64)), (.long (0 : Int64))] (.long (0 : Int64)) := f8_V_b_23.other W10 (Ne.symm ne5_a1_b_23)
    have K10 : Keep h0 h10 [a1, a2] := K7.wr W10 (Or.inl (List.mem_of_getElem? (i := 0) rfl))
    have N10 := Fr.snoc X10 N7 pre_g_a1
    show GoW p e below QQ (T10.setTop (mkF m 40 #[.val (.ref a1), .val (.long q1), .second, .unset] [(.int (1 : Int32))]))
    refine GoW.st (fun t k => XS.istoreN X10.here hx rfl (hb hby d6_40) rfl (l' := #[.val (.ref a1), .val (.long q1), .second, .val (.int (1 : Int32))]) rfl (XS.iloadN X10.here hx rfl (hb hby d6_41) rfl k)) ?_
    show GoW p e below QQ (T10.setTop (mkF m 42 #[.val (.ref a1), .val (.long q1), .second, .val (.int (1 : Int32))] [(.int (1 : Int32))]))
    have hc42 : (0 : Int32) < (1 : Int32) := by decide
    refine GoW.st (fun t k => XS.ifNo X10.here hx rfl (hb hby d6_42) rfl ((if0 _ _).trans (tlt hc42).2.2.2) (XS.lloadN X10.here hx rfl (hb hby d6_45) rfl (XS.aloadN X10.here hx rfl (hb hby d6_46) rfl rfl k))) ?_
    show GoW p e below QQ (T10.setTop (mkF m 47 #[.val (.ref a1), .val (.long q1), .second, .val (.int (1 : Int32))] [(.ref a1), (.long q1)]))
    obtain ⟨T12, X12, e12, st12⟩ := getF X10 hx hZ hown (host := "") (Or.inl (hw _ (List.mem_of_getElem? (i := 20) rfl))) Via.refl e10 f11_F_a1_values (g := (mkF m 47 #[.val (.ref a1), .val (.long q1), .second, .val (.int (1 : Int32))] [(.ref a1), (.long q1)])) rfl rfl (hb hby d6_47)
    refine GoW.st st12 ?_
    show GoW p e below QQ (T12.setTop (mkF m 50 #[.val (.ref a1), .val (.long q1), .second, .val (.int (1 : Int32))] [(.ref b_23), (.long q1)]))
    refine GoW.st (fun t k => XS.iloadN X12.here hx rfl (hb hby d6_50) rfl (XS.iconst X12.here hx rfl (hb hby d6_51) (XS.isub X12.here hx rfl (hb hby d6_52) rfl (XS.iconst X12.here hx rfl (hb hby d6_53) (XS.idiv X12.here hx rfl (hb hby d6_54) rfl (by decide) (ldVJ X12 hx hZ e12 f11_V_b_23 (v := (.long va)) ⟨by decide, by decide⟩ rfl (g := (mkF m 55 #[.val (.ref a1), .val (.long q1), .second, .val (.int (1 : Int32))] [(.int (0 : Int32)), (.ref b_23), (.long q1)])) rfl rfl (hb hby d6_55) t k)))))) ?_
    show GoW p e below QQ (T12.setTop (mkF m 56 #[.val (.ref a1), .val (.long q1), .second, .val (.int (1 : Int32))] [(.long va), (.long q1)]))
    refine GoW.st (fun t k => XS.lcmp X12.here hx rfl (hb hby d6_56) rfl k) ?_
    show GoW p e below QQ (T12.setTop (mkF m 57 #[.val (.ref a1), .val (.long q1), .second, .val (.int (1 : Int32))] [(.int (lcmpW q1 va))]))
    by_cases hc57 : q1 < va
    · skip
      refine GoW.st (fun t k => XS.ifNo X12.here hx rfl (hb hby d6_57) rfl ((if0 _ _).trans (tlt ((lw_lt q1 va).mpr hc57)).2.1) k) ?_
      show GoW p e below QQ (T12.setTop (mkF m 60 #[.val (.ref a1), .val (.long q1), .second, .val (.int (1 : Int32))] []))
      have hi57 : q1.toInt < va.toInt := (Int64.lt_iff_toInt_lt.mp hc57)
      refine GoW.st (fun t k => XS.aloadN X12.here hx rfl (hb hby d6_60) rfl rfl k) ?_
      show GoW p e below QQ (T12.setTop (mkF m 61 #[.val (.ref a1), .val (.long q1), .second, .val (.int (1 : Int32))] [(.ref a1)]))
      obtain ⟨T13, X13, e13, st13⟩ := getF X12 hx hZ hown (host := "") (Or.inl (hw _ (List.mem_of_getElem? (i := 20) rfl))) Via.refl e12 f11_F_a1_values (g := (mkF m 61 #[.val (.ref a1), .val (.long q1), .second, .val (.int (1 : Int32))] [(.ref a1)])) rfl rfl (hb hby d6_61)
      refine GoW.st st13 ?_
      show GoW p e below QQ (T13.setTop (mkF m 64 #[.val (.ref a1), .val (.long q1), .second, .val (.int (1 : Int32))] [(.ref b_23)]))
      refine GoW.st (fun t k => XS.iloadN X13.here hx rfl (hb hby d6_64) rfl (XS.aloadN X13.here hx rfl (hb hby d6_65) rfl rfl k)) ?_
      show GoW p e below QQ (T13.setTop (mkF m 66 #[.val (.ref a1), .val (.long q1), .second, .val (.int (1 : Int32))] [(.ref a1), (.int (1 : Int32)), (.ref b_23)]))
      obtain ⟨T14, X14, e14, st14⟩ := getF X13 hx hZ hown (host := "") (Or.inl (hw _ (List.mem_of_getElem? (i := 20) rfl))) Via.refl e13 f11_F_a1_values (g := (mkF m 66 #[.val (.ref a1), .val (.long q1), .second, .val (.int (1 : Int32))] [(.ref a1), (.int (1 : Int32)), (.ref b_23)])) rfl rfl (hb hby d6_66)
      refine GoW.st st14 ?_
      show GoW p e below QQ (T14.setTop (mkF m 69 #[.val (.ref a1), .val (.long q1), .second, .val (.int (1 : Int32))] [(.ref b_23), (.int (1 : Int32)), (.ref b_23)]))
      refine GoW.st (fun t k => XS.iloadN X14.here hx rfl (hb hby d6_69) rfl (XS.iconst X14.here hx rfl (hb hby d6_70) (XS.isub X14.here hx rfl (hb hby d6_71) rfl (XS.iconst X14.here hx rfl (hb hby d6_72) (XS.idiv X14.here hx rfl (hb hby d6_73) rfl (by decide) (ldVJ X14 hx hZ e14 f11_V_b_23 (v := (.long va)) ⟨by decide, by decide⟩ rfl (g := (mkF m 74 #[.val (.ref a1), .val (.long q1), .second, .val (.int (1 : Int32))] [(.int (0 : Int32)), (.ref b_23), (.int (1 : Int32)), (.ref b_23)])) rfl rfl (hb hby d6_74) t k)))))) ?_
      show GoW p e below QQ (T14.setTop (mkF m 75 #[.val (.ref a1), .val (.long q1), .second, .val (.int (1 : Int32))] [(.long va), (.int (1 : Int32)), (.ref b_23)]))
      obtain ⟨T15, h15, X15, e15, W15, V15, st15⟩ := stVJ X14 hx hZ e14 f11_V_b_23 ⟨by decide, by decide⟩ 1 rfl (Nat.le_of_ble_eq_true rfl) (g := (mkF m 75 #[.val (.ref a1), .val (.long q1), .second, .val (.int (1 : Int32))] [(.long va), (.int (1 : Int32)), (.ref b_23)])) rfl rfl (hb hby d6_75)
      refine GoW.st st15 ?_
      have f16_E_a1 : Exa Z h15 a1 "com/example/eunomia/eunomia/sticky/LongHeap" := f11_E_a1.wr W15
      have f16_F_a1_values : Fld Z h15 a1 "com/example/eunomia/eunomia/sticky/LongHeap" "values" "[J" (.ref b_23) := f11_F_a1_values.other W15 (Or.inl ne5_a1_b_23)
      have f16_F_a1_size : Fld Z h15 a1 "com/example/eunomia/eunomia/sticky/LongHeap" "size" "I" (.int (2 : Int32)) := f11_F_a1_size.other W15 (Or.inl ne5_a1_b_23)
      have f16_V_b_23 : Arv Z h15 b_23 kb_23 .long (2 : Int32) [(.long va), (.long va), (.long (0 : Int64)), (.long (0 : Int64))] (.long (0 : Int64)) := V15
      have K15 : Keep h0 h15 [a1, a2] := K10.wr W15 (Or.inr sz5_b_23)
      have N15 := Fr.snoc X15 N10 gg5_b_23
      show GoW p e below QQ (T15.setTop (mkF m 76 #[.val (.ref a1), .val (.long q1), .second, .val (.int (1 : Int32))] []))
      refine GoW.st (fun t k => XS.iloadN X15.here hx rfl (hb hby d6_76) rfl (XS.iconst X15.here hx rfl (hb hby d6_77) (XS.isub X15.here hx rfl (hb hby d6_78) rfl (XS.iconst X15.here hx rfl (hb hby d6_79) (XS.idiv X15.here hx rfl (hb hby d6_80) rfl (by decide) (XS.istoreN X15.here hx rfl (hb hby d6_81) rfl (l' := #[.val (.ref a1), .val (.long q1), .second, .val (.int (0 : Int32))]) rfl k)))))) ?_
      show GoW p e below QQ (T15.setTop (mkF m 82 #[.val (.ref a1), .val (.long q1), .second, .val (.int (0 : Int32))] []))
      refine GoW.st (fun t k => XS.goto X15.here hx rfl (pc0 := 82) (pc' := 41) rfl (hb hby d6_82) (by decide) (by decide) (XS.iloadN X15.here hx rfl (hb hby d6_41) rfl k)) ?_
      show GoW p e below QQ (T15.setTop (mkF m 42 #[.val (.ref a1), .val (.long q1), .second, .val (.int (0 : Int32))] [(.int (0 : Int32))]))
      have hc42_2 : ¬ ((0 : Int32) < (0 : Int32)) := by decide
      refine GoW.st (fun t k => XS.ifYes X15.here hx rfl (pc0 := 42) (pc' := 85) rfl (hb hby d6_42) rfl ((if0 _ _).trans (flt hc42_2).2.2.2) (by decide) (by decide) (XS.aloadN X15.here hx rfl (hb hby d6_85) rfl rfl k)) ?_
      show GoW p e below QQ (T15.setTop (mkF m 86 #[.val (.ref a1), .val (.long q1), .second, .val (.int (0 : Int32))] [(.ref a1)]))
      obtain ⟨T17, X17, e17, st17⟩ := getF X15 hx hZ hown (host := "") (Or.inl (hw _ (List.mem_of_getElem? (i := 20) rfl))) Via.refl e15 f16_F_a1_values (g := (mkF m 86 #[.val (.ref a1), .val (.long q1), .second, .val (.int (0 : Int32))] [(.ref a1)])) rfl rfl (hb hby d6_86)
      refine GoW.st st17 ?_
      show GoW p e below QQ (T17.setTop (mkF m 89 #[.val (.ref a1), .val (.long q1), .second, .val (.int (0 : Int32))] [(.ref b_23)]))
      refine GoW.st (fun t k => XS.iloadN X17.here hx rfl (hb hby d6_89) rfl (XS.lloadN X17.here hx rfl (hb hby d6_90) rfl k)) ?_
      show GoW p e below QQ (T17.setTop (mkF m 91 #[.val (.ref a1), .val (.long q1), .second, .val (.int (0 : Int32))] [(.long q1), (.int (0 : Int32)), (.ref b_23)]))
      obtain ⟨T18, h18, X18, e18, W18, V18, st18⟩ := stVJ X17 hx hZ e17 f16_V_b_23 ⟨by decide, by decide⟩ 0 rfl (Nat.le_of_ble_eq_true rfl) (g := (mkF m 91 #[.val (.ref a1), .val (.long q1), .second, .val (.int (0 : Int32))] [(.long q1), (.int (0 : Int32)), (.ref b_23)])) rfl rfl (hb hby d6_91)
      refine GoW.st st18 ?_
      have f19_E_a1 : Exa Z h18 a1 "com/example/eunomia/eunomia/sticky/LongHeap" := f16_E_a1.wr W18
      have f19_F_a1_values : Fld Z h18 a1 "com/example/eunomia/eunomia/sticky/LongHeap" "values" "[J" (.ref b_23) := f16_F_a1_values.other W18 (Or.inl ne5_a1_b_23)
      have f19_F_a1_size : Fld Z h18 a1 "com/example/eunomia/eunomia/sticky/LongHeap" "size" "I" (.int (2 : Int32)) := f16_F_a1_size.other W18 (Or.inl ne5_a1_b_23)
      have f19_V_b_23 : Arv Z h18 b_23 kb_23 .long (2 : Int32) [(.long q1), (.long va), (.long (0 : Int64)), (.long (0 : Int64))] (.long (0 : Int64)) := V18
      have K18 : Keep h0 h18 [a1, a2] := K15.wr W18 (Or.inr sz5_b_23)
      have N18 := Fr.snoc X18 N15 gg5_b_23
      show GoW p e below QQ (T18.setTop (mkF m 92 #[.val (.ref a1), .val (.long q1), .second, .val (.int (0 : Int32))] []))
      exact GoW.fin X18 none (fun _ => rfl) hlk hQ e18 ⟨b_23, kb_23, (2 : Int32), q1, va, (0 : Int64), (0 : Int64), rfl, N18, K18, f19_E_a1, f19_F_a1_values, f19_F_a1_size, gg5_b_23, (Ne.symm ne5_a1_b_23), f19_V_b_23, (by omega), (fun f => by omega), (by omega)⟩ (by decide) (by decide) (fun fs hr => X18.returnOut hx hret (hb hby d6_92) hr)
    · skip
      refine GoW.st (fun t k => XS.ifYes X12.here hx rfl (pc0 := 57) (pc' := 85) rfl (hb hby d6_57) rfl ((if0 _ _).trans (flt (fun q => hc57 ((lw_lt q1 va).mp q))).2.1) (by decide) (by decide) k) ?_
      show GoW p e below QQ (T12.setTop (mkF m 85 #[.val (.ref a1), .val (.long q1), .second, .val (.int (1 : Int32))] []))
      have hi57 : ¬ (q1.toInt < va.toInt) := (fun q => hc57 (Int64.lt_iff_toInt_lt.mpr q))
      refine GoW.st (fun t k => XS.aloadN X12.here hx rfl (hb hby d6_85) rfl rfl k) ?_
      show GoW p e below QQ (T12.setTop (mkF m 86 #[.val (.ref a1), .val (.long q1), .second, .val (.int (1 : Int32))] [(.ref a1)]))
      obtain ⟨T20, X20, e20, st20⟩ := getF X12 hx hZ hown (host := "") (Or.inl (hw _ (List.mem_of_getElem? (i := 20) rfl))) Via.refl e12 f11_F_a1_values (g := (mkF m 86 #[.val (.ref a1), .val (.long q1), .second, .val (.int (1 : Int32))] [(.ref a1)])) rfl rfl (hb hby d6_86)
      refine GoW.st st20 ?_
      show GoW p e below QQ (T20.setTop (mkF m 89 #[.val (.ref a1), .val (.long q1), .second, .val (.int (1 : Int32))] [(.ref b_23)]))
      refine GoW.st (fun t k => XS.iloadN X20.here hx rfl (hb hby d6_89) rfl (XS.lloadN X20.here hx rfl (hb hby d6_90) rfl k)) ?_
      show GoW p e below QQ (T20.setTop (mkF m 91 #[.val (.ref a1), .val (.long q1), .second, .val (.int (1 : Int32))] [(.long q1), (.int (1 : Int32)), (.ref b_23)]))
      obtain ⟨T21, h21, X21, e21, W21, V21, st21⟩ := stVJ X20 hx hZ e20 f11_V_b_23 ⟨by decide, by decide⟩ 1 rfl (Nat.le_of_ble_eq_true rfl) (g := (mkF m 91 #[.val (.ref a1), .val (.long q1), .second, .val (.int (1 : Int32))] [(.long q1), (.int (1 : Int32)), (.ref b_23)])) rfl rfl (hb hby d6_91)
      refine GoW.st st21 ?_
      have f22_E_a1 : Exa Z h21 a1 "com/example/eunomia/eunomia/sticky/LongHeap" := f11_E_a1.wr W21
      have f22_F_a1_values : Fld Z h21 a1 "com/example/eunomia/eunomia/sticky/LongHeap" "values" "[J" (.ref b_23) := f11_F_a1_values.other W21 (Or.inl ne5_a1_b_23)
      have f22_F_a1_size : Fld Z h21 a1 "com/example/eunomia/eunomia/sticky/LongHeap" "size" "I" (.int (2 : Int32)) := f11_F_a1_size.other W21 (Or.inl ne5_a1_b_23)
      have f22_V_b_23 : Arv Z h21 b_23 kb_23 .long (2 : Int32) [(.long va), (.long q1), (.long (0 : Int64)), (.long (0 : Int64))] (.long (0 : Int64)) := V21
      have K21 : Keep h0 h21 [a1, a2] := K10.wr W21 (Or.inr sz5_b_23)
      have N21 := Fr.snoc X21 N10 gg5_b_23
      show GoW p e below QQ (T21.setTop (mkF m 92 #[.val (.ref a1), .val (.long q1), .second, .val (.int (1 : Int32))] []))
      exact GoW.fin X21 none (fun _ => rfl) hlk hQ e21 ⟨b_23, kb_23, (2 : Int32), va, q1, (0 : Int64), (0 : Int64), rfl, N21, K21, f22_E_a1, f22_F_a1_values, f22_F_a1_size, gg5_b_23, (Ne.symm ne5_a1_b_23), f22_V_b_23, (by omega), (fun f => by omega), (by omega)⟩ (by decide) (by decide) (fun fs hr => X21.returnOut hx hret (hb hby d6_92) hr)
  · skip
    refine GoW.st (fun t k => XS.icmpYes X2.here hx rfl (pc0 := 9) (pc' := 29) rfl (hb hby d6_9) rfl (feq hc9).2 (by decide) (by decide) k) ?_
    show GoW p e below QQ (T2.setTop (mkF m 29 #[.val (.ref a1), .val (.long q1), .second, .unset] []))
    have hi9 : ¬ (1 = z.toInt) := (fun q => hc9 (Int32.toInt_inj.mp q))
    have hlt := fun q => hc9 (own_eq_of q)
    refine GoW.st (fun t k => XS.aloadN X2.here hx rfl (hb hby d6_29) rfl rfl (XS.dup X2.here hx rfl (hb hby d6_30) rfl rfl k)) ?_
    show GoW p e below QQ (T2.setTop (mkF m 31 #[.val (.ref a1), .val (.long q1), .second, .unset] [(.ref a1), (.ref a1)]))
    obtain ⟨T23, X23, e23, st23⟩ := getF X2 hx hZ hown (host := "") (Or.inl (hw _ (List.mem_of_getElem? (i := 27) rfl))) Via.refl e2 pre_F_a1_size (g := (mkF m 31 #[.val (.ref a1), .val (.long q1), .second, .unset] [(.ref a1), (.ref a1)])) rfl rfl (hb hby d6_31)
    refine GoW.st st23 ?_
    show GoW p e below QQ (T23.setTop (mkF m 34 #[.val (.ref a1), .val (.long q1), .second, .unset] [(.int (1 : Int32)), (.ref a1)]))
    refine GoW.st (fun t k => XS.dupX1 X23.here hx rfl (hb hby d6_34) rfl rfl rfl (XS.iconst X23.here hx rfl (hb hby d6_35) (XS.iadd X23.here hx rfl (hb hby d6_36) rfl k))) ?_
    show GoW p e below QQ (T23.setTop (mkF m 37 #[.val (.ref a1), .val (.long q1), .second, .unset] [(.int (2 : Int32)), (.ref a1), (.int (1 : Int32))]))
    obtain ⟨T24, h24, X24, e24, W24, st24⟩ := putF X23 hx hZ hown (host := "") (Or.inl (hw _ (List.mem_of_getElem? (i := 27) rfl))) Via.refl e23 pre_F_a1_size pre_E_a1 (Or.inl (hw _ (List.mem_of_getElem? (i := 28) rfl))) (hw _ (List.mem_of_getElem? (i := 8) rfl)) (ty := .int) (by decide) rfl rfl (g := (mkF m 37 #[.val (.ref a1), .val (.long q1), .second, .unset] [(.int (2 : Int32)), (.ref a1), (.int (1 : Int32))])) rfl rfl (hb hby d6_37)
    refine GoW.st st24 ?_
    have f25_E_a1 : Exa Z h24 a1 "com/example/eunomia/eunomia/sticky/LongHeap" := pre_E_a1.wr W24
    have f25_F_a1_values : Fld Z h24 a1 "com/example/eunomia/eunomia/sticky/LongHeap" "values" "[J" (.ref a2) := pre_F_a1_values.other W24 (Or.inr (slot_ne (Or.inl (hw _ (List.mem_of_getElem? (i := 21) rfl))) (Or.inl (hw _ (List.mem_of_getElem? (i := 28) rfl))) (by decide) (t := (.array .long)) (t' := .int) (by decide) (by decide)))
    have f25_F_a1_size : Fld Z h24 a1 "com/example/eunomia/eunomia/sticky/LongHeap" "size" "I" (.int (2 : Int32)) := pre_F_a1_size.same W24
    have f25_V_a2 : Arv Z h24 a2 ka .long z [(.long va), (.long vb), (.long vc), (.long vd)] (.long (0 : Int64)) := pre_V_a2.other W24 pre_a2_a1
    have K24 : Keep h0 h24 [a1, a2] := K0.wr W24 (Or.inl (List.mem_of_getElem? (i := 0) rfl))
    have N24 := Fr.snoc X24 N0 pre_g_a1
    show GoW p e below QQ (T24.setTop (mkF m 40 #[.val (.ref a1), .val (.long q1), .second, .unset] [(.int (1 : Int32))]))
    refine GoW.st (fun t k => XS.istoreN X24.here hx rfl (hb hby d6_40) rfl (l' := #[.val (.ref a1), .val (.long q1), .second, .val (.int (1 : Int32))]) rfl (XS.iloadN X24.here hx rfl (hb hby d6_41) rfl k)) ?_
    show GoW p e below QQ (T24.setTop (mkF m 42 #[.val (.ref a1), .val (.long q1), .second, .val (.int (1 : Int32))] [(.int (1 : Int32))]))
    have hc42 : (0 : Int32) < (1 : Int32) := by decide
    refine GoW.st (fun t k => XS.ifNo X24.here hx rfl (hb hby d6_42) rfl ((if0 _ _).trans (tlt hc42).2.2.2) (XS.lloadN X24.here hx rfl (hb hby d6_45) rfl (XS.aloadN X24.here hx rfl (hb hby d6_46) rfl rfl k))) ?_
    show GoW p e below QQ (T24.setTop (mkF m 47 #[.val (.ref a1), .val (.long q1), .second, .val (.int (1 : Int32))] [(.ref a1), (.long q1)]))
    obtain ⟨T26, X26, e26, st26⟩ := getF X24 hx hZ hown (host := "") (Or.inl (hw _ (List.mem_of_getElem? (i := 20) rfl))) Via.refl e24 f25_F_a1_values (g := (mkF m 47 #[.val (.ref a1), .val (.long q1), .second, .val (.int (1 : Int32))] [(.ref a1), (.long q1)])) rfl rfl (hb hby d6_47)
    refine GoW.st st26 ?_
    show GoW p e below QQ (T26.setTop (mkF m 50 #[.val (.ref a1), .val (.long q1), .second, .val (.int (1 : Int32))] [(.ref a2), (.long q1)]))
    refine GoW.st (fun t k => XS.iloadN X26.here hx rfl (hb hby d6_50) rfl (XS.iconst X26.here hx rfl (hb hby d6_51) (XS.isub X26.here hx rfl (hb hby d6_52) rfl (XS.iconst X26.here hx rfl (hb hby d6_53) (XS.idiv X26.here hx rfl (hb hby d6_54) rfl (by decide) (ldVJ X26 hx hZ e26 f25_V_a2 (v := (.long va)) ⟨by decide, own_lt_of (by omega)⟩ rfl (g := (mkF m 55 #[.val (.ref a1), .val (.long q1), .second, .val (.int (1 : Int32))] [(.int (0 : Int32)), (.ref a2), (.long q1)])) rfl rfl (hb hby d6_55) t k)))))) ?_
    show GoW p e below QQ (T26.setTop (mkF m 56 #[.val (.ref a1), .val (.long q1), .second, .val (.int (1 : Int32))] [(.long va), (.long q1)]))
    refine GoW.st (fun t k => XS.lcmp X26.here hx rfl (hb hby d6_56) rfl k) ?_
    show GoW p e below QQ (T26.setTop (mkF m 57 #[.val (.ref a1), .val (.long q1), .second, .val (.int (1 : Int32))] [(.int (lcmpW q1 va))]))
    by_cases hc57 : q1 < va
    · skip
      refine GoW.st (fun t k => XS.ifNo X26.here hx rfl (hb hby d6_57) rfl ((if0 _ _).trans (tlt ((lw_lt q1 va).mpr hc57)).2.1) k) ?_
      show GoW p e below QQ (T26.setTop (mkF m 60 #[.val (.ref a1), .val (.long q1), .second, .val (.int (1 : Int32))] []))
      have hi57 : q1.toInt < va.toInt := (Int64.lt_iff_toInt_lt.mp hc57)
      refine GoW.st (fun t k => XS.aloadN X26.here hx rfl (hb hby d6_60) rfl rfl k) ?_
      show GoW p e below QQ (T26.setTop (mkF m 61 #[.val (.ref a1), .val (.long q1), .second, .val (.int (1 : Int32))] [(.ref a1)]))
      obtain ⟨T27, X27, e27, st27⟩ := getF X26 hx hZ hown (host := "") (Or.inl (hw _ (List.mem_of_getElem? (i := 20) rfl))) Via.refl e26 f25_F_a1_values (g := (mkF m 61 #[.val (.ref a1), .val (.long q1), .second, .val (.int (1 : Int32))] [(.ref a1)])) rfl rfl (hb hby d6_61)
      refine GoW.st st27 ?_
      show GoW p e below QQ (T27.setTop (mkF m 64 #[.val (.ref a1), .val (.long q1), .second, .val (.int (1 : Int32))] [(.ref a2)]))
      refine GoW.st (fun t k => XS.iloadN X27.here hx rfl (hb hby d6_64) rfl (XS.aloadN X27.here hx rfl (hb hby d6_65) rfl rfl k)) ?_
      show GoW p e below QQ (T27.setTop (mkF m 66 #[.val (.ref a1), .val (.long q1), .second, .val (.int (1 : Int32))] [(.ref a1), (.int (1 : Int32)), (.ref a2)]))
      obtain ⟨T28, X28, e28, st28⟩ := getF X27 hx hZ hown (host := "") (Or.inl (hw _ (List.mem_of_getElem? (i := 20) rfl))) Via.refl e27 f25_F_a1_values (g := (mkF m 66 #[.val (.ref a1), .val (.long q1), .second, .val (.int (1 : Int32))] [(.ref a1), (.int (1 : Int32)), (.ref a2)])) rfl rfl (hb hby d6_66)
      refine GoW.st st28 ?_
      show GoW p e below QQ (T28.setTop (mkF m 69 #[.val (.ref a1), .val (.long q1), .second, .val (.int (1 : Int32))] [(.ref a2), (.int (1 : Int32)), (.ref a2)]))
      refine GoW.st (fun t k => XS.iloadN X28.here hx rfl (hb hby d6_69) rfl (XS.iconst X28.here hx rfl (hb hby d6_70) (XS.isub X28.here hx rfl (hb hby d6_71) rfl (XS.iconst X28.here hx rfl (hb hby d6_72) (XS.idiv X28.here hx rfl (hb hby d6_73) rfl (by decide) (ldVJ X28 hx hZ e28 f25_V_a2 (v := (.long va)) ⟨by decide, own_lt_of (by omega)⟩ rfl (g := (mkF m 74 #[.val (.ref a1), .val (.long q1), .second, .val (.int (1 : Int32))] [(.int (0 : Int32)), (.ref a2), (.int (1 : Int32)), (.ref a2)])) rfl rfl (hb hby d6_74) t k)))))) ?_
      show GoW p e below QQ (T28.setTop (mkF m 75 #[.val (.ref a1), .val (.long q1), .second, .val (.int (1 : Int32))] [(.long va), (.int (1 : Int32)), (.ref a2)]))
      obtain ⟨T29, h29, X29, e29, W29, V29, st29⟩ := stVJ X28 hx hZ e28 f25_V_a2 ⟨by decide, own_lt_of (by omega)⟩ 1 rfl (Nat.le_of_ble_eq_true rfl) (g := (mkF m 75 #[.val (.ref a1), .val (.long q1), .second, .val (.int (1 : Int32))] [(.long va), (.int (1 : Int32)), (.ref a2)])) rfl rfl (hb hby d6_75)
      refine GoW.st st29 ?_
      have f30_E_a1 : Exa Z h29 a1 "com/example/eunomia/eunomia/sticky/LongHeap" := f25_E_a1.wr W29
      have f30_F_a1_values : Fld Z h29 a1 "com/example/eunomia/eunomia/sticky/LongHeap" "values" "[J" (.ref a2) := f25_F_a1_values.other W29 (Or.inl (Ne.symm pre_a2_a1))
      have f30_F_a1_size : Fld Z h29 a1 "com/example/eunomia/eunomia/sticky/LongHeap" "size" "I" (.int (2 : Int32)) := f25_F_a1_size.other W29 (Or.inl (Ne.symm pre_a2_a1))
      have f30_V_a2 : Arv Z h29 a2 ka .long z [(.long va), (.long va), (.long vc), (.long vd)] (.long (0 : Int64)) := V29
      have K29 : Keep h0 h29 [a1, a2] := K24.wr W29 (Or.inl (List.mem_of_getElem? (i := 1) rfl))
      have N29 := Fr.snoc X29 N24 pre_g_a2
      show GoW p e below QQ (T29.setTop (mkF m 76 #[.val (.ref a1), .val (.long q1), .second, .val (.int (1 : Int32))] []))
      refine GoW.st (fun t k => XS.iloadN X29.here hx rfl (hb hby d6_76) rfl (XS.iconst X29.here hx rfl (hb hby d6_77) (XS.isub X29.here hx rfl (hb hby d6_78) rfl (XS.iconst X29.here hx rfl (hb hby d6_79) (XS.idiv X29.here hx rfl (hb hby d6_80) rfl (by decide) (XS.istoreN X29.here hx rfl (hb hby d6_81) rfl (l' := #[.val (.ref a1), .val (.long q1), .second, .val (.int (0 : Int32))]) rfl k)))))) ?_
      show GoW p e below QQ (T29.setTop (mkF m 82 #[.val (.ref a1), .val (.long q1), .second, .val (.int (0 : Int32))] []))
      refine GoW.st (fun t k => XS.goto X29.here hx rfl (pc0 := 82) (pc' := 41) rfl (hb hby d6_82) (by decide) (by decide) (XS.iloadN X29.here hx rfl (hb hby d6_41) rfl k)) ?_
      show GoW p e below QQ (T29.setTop (mkF m 42 #[.val (.ref a1), .val (.long q1), .second, .val (.int (0 : Int32))] [(.int (0 : Int32))]))
      have hc42_2 : ¬ ((0 : Int32) < (0 : Int32)) := by decide
      refine GoW.st (fun t k => XS.ifYes X29.here hx rfl (pc0 := 42) (pc' := 85) rfl (hb hby d6_42) rfl ((if0 _ _).trans (flt hc42_2).2.2.2) (by decide) (by decide) (XS.aloadN X29.here hx rfl (hb hby d6_85) rfl rfl k)) ?_
      show GoW p e below QQ (T29.setTop (mkF m 86 #[.val (.ref a1), .val (.long q1), .second, .val (.int (0 : Int32))] [(.ref a1)]))
      obtain ⟨T31, X31, e31, st31⟩ := getF X29 hx hZ hown (host := "") (Or.inl (hw _ (List.mem_of_getElem? (i := 20) rfl))) Via.refl e29 f30_F_a1_values (g := (mkF m 86 #[.val (.ref a1), .val (.long q1), .second, .val (.int (0 : Int32))] [(.ref a1)])) rfl rfl (hb hby d6_86)
      refine GoW.st st31 ?_
      show GoW p e below QQ (T31.setTop (mkF m 89 #[.val (.ref a1), .val (.long q1), .second, .val (.int (0 : Int32))] [(.ref a2)]))
      refine GoW.st (fun t k => XS.iloadN X31.here hx rfl (hb hby d6_89) rfl (XS.lloadN X31.here hx rfl (hb hby d6_90) rfl k)) ?_
      show GoW p e below QQ (T31.setTop (mkF m 91 #[.val (.ref a1), .val (.long q1), .second, .val (.int (0 : Int32))] [(.long q1), (.int (0 : Int32)), (.ref a2)]))
      obtain ⟨T32, h32, X32, e32, W32, V32, st32⟩ := stVJ X31 hx hZ e31 f30_V_a2 ⟨by decide, own_lt_of (by omega)⟩ 0 rfl (Nat.le_of_ble_eq_true rfl) (g := (mkF m 91 #[.val (.ref a1), .val (.long q1), .second, .val (.int (0 : Int32))] [(.long q1), (.int (0 : Int32)), (.ref a2)])) rfl rfl (hb hby d6_91)
      refine GoW.st st32 ?_
      have f33_E_a1 : Exa Z h32 a1 "com/example/eunomia/eunomia/sticky/LongHeap" := f30_E_a1.wr W32
      have f33_F_a1_values : Fld Z h32 a1 "com/example/eunomia/eunomia/sticky/LongHeap" "values" "[J" (.ref a2) := f30_F_a1_values.other W32 (Or.inl (Ne.symm pre_a2_a1))
      have f33_F_a1_size : Fld Z h32 a1 "com/example/eunomia/eunomia/sticky/LongHeap" "size" "I" (.int (2 : Int32)) := f30_F_a1_size.other W32 (Or.inl (Ne.symm pre_a2_a1))
      have f33_V_a2 : Arv Z h32 a2 ka .long z [(.long q1), (.long va), (.long vc), (.long vd)] (.long (0 : Int64)) := V32
      have K32 : Keep h0 h32 [a1, a2] := K29.wr W32 (Or.inl (List.mem_of_getElem? (i := 1) rfl))
      have N32 := Fr.snoc X32 N29 pre_g_a2
      show GoW p e below QQ (T32.setTop (mkF m 92 #[.val (.ref a1), .val (.long q1), .second, .val (.int (0 : Int32))] []))
      exact GoW.fin X32 none (fun _ => rfl) hlk hQ e32 ⟨a2, ka, z, q1, va, vc, vd, rfl, N32, K32, f33_E_a1, f33_F_a1_values, f33_F_a1_size, pre_g_a2, pre_a2_a1, f33_V_a2, (by omega), (fun f => by omega), (by omega)⟩ (by decide) (by decide) (fun fs hr => X32.returnOut hx hret (hb hby d6_92) hr)
    · skip
      refine GoW.st (fun t k => XS.ifYes X26.here hx rfl (pc0 := 57) (pc' := 85) rfl (hb hby d6_57) rfl ((if0 _ _).trans (flt (fun q => hc57 ((lw_lt q1 va).mp q))).2.1) (by decide) (by decide) k) ?_
      show GoW p e below QQ (T26.setTop (mkF m 85 #[.val (.ref a1), .val (.long q1), .second, .val (.int (1 : Int32))] []))
      have hi57 : ¬ (q1.toInt < va.toInt) := (fun q => hc57 (Int64.lt_iff_toInt_lt.mpr q))
      refine GoW.st (fun t k => XS.aloadN X26.here hx rfl (hb hby d6_85) rfl rfl k) ?_
      show GoW p e below QQ (T26.setTop (mkF m 86 #[.val (.ref a1), .val (.long q1), .second, .val (.int (1 : Int32))] [(.ref a1)]))
      obtain ⟨T34, X34, e34, st34⟩ := getF X26 hx hZ hown (host := "") (Or.inl (hw _ (List.mem_of_getElem? (i := 20) rfl))) Via.refl e26 f25_F_a1_values (g := (mkF m 86 #[.val (.ref a1), .val (.long q1), .second, .val (.int (1 : Int32))] [(.ref a1)])) rfl rfl (hb hby d6_86)
      refine GoW.st st34 ?_
      show GoW p e below QQ (T34.setTop (mkF m 89 #[.val (.ref a1), .val (.long q1), .second, .val (.int (1 : Int32))] [(.ref a2)]))
      refine GoW.st (fun t k => XS.iloadN X34.here hx rfl (hb hby d6_89) rfl (XS.lloadN X34.here hx rfl (hb hby d6_90) rfl k)) ?_
      show GoW p e below QQ (T34.setTop (mkF m 91 #[.val (.ref a1), .val (.long q1), .second, .val (.int (1 : Int32))] [(.long q1), (.int (1 : Int32)), (.ref a2)]))
      obtain ⟨T35, h35, X35, e35, W35, V35, st35⟩ := stVJ X34 hx hZ e34 f25_V_a2 ⟨by decide, own_lt_of (by omega)⟩ 1 rfl (Nat.le_of_ble_eq_true rfl) (g := (mkF m 91 #[.val (.ref a1), .val (.long q1), .second, .val (.int (1 : Int32))] [(.long q1), (.int (1 : Int32)), (.ref a2)])) rfl rfl (hb hby d6_91)
      refine GoW.st st35 ?_
      have f36_E_a1 : Exa Z h35 a1 "com/example/eunomia/eunomia/sticky/LongHeap" := f25_E_a1.wr W35
      have f36_F_a1_values : Fld Z h35 a1 "com/example/eunomia/eunomia/sticky/LongHeap" "values" "[J" (.ref a2) := f25_F_a1_values.other W35 (Or.inl (Ne.symm pre_a2_a1))
      have f36_F_a1_size : Fld Z h35 a1 "com/example/eunomia/eunomia/sticky/LongHeap" "size" "I" (.int (2 : Int32)) := f25_F_a1_size.other W35 (Or.inl (Ne.symm pre_a2_a1))
      have f36_V_a2 : Arv Z h35 a2 ka .long z [(.long va), (.long q1), (.long vc), (.long vd)] (.long (0 : Int64)) := V35
      have K35 : Keep h0 h35 [a1, a2] := K24.wr W35 (Or.inl (List.mem_of_getElem? (i := 1) rfl))
      have N35 := Fr.snoc X35 N24 pre_g_a2
      show GoW p e below QQ (T35.setTop (mkF m 92 #[.val (.ref a1), .val (.long q1), .second, .val (.int (1 : Int32))] []))
      exact GoW.fin X35 none (fun _ => rfl) hlk hQ e35 ⟨a2, ka, z, va, q1, vc, vd, rfl, N35, K35, f36_E_a1, f36_F_a1_values, f36_F_a1_size, pre_g_a2, pre_a2_a1, f36_V_a2, (by omega), (fun f => by omega), (by omega)⟩ (by decide) (by decide) (fun fs hr => X35.returnOut hx hret (hb hby d6_92) hr)
def RM6_2 : Room := { frames := 2, cells := 1, slots := 4, locals := 79 }
def Q6_2 (Z : State) (a1 : Addr) (q1 : Int64) (a2 : Addr) (ka : ClassId) (z : Int32) (va : Int64) (vb : Int64) (vc : Int64) (vd : Int64) (h0 : Heap) (n0 : Nat) (v : Option Value) (h : Heap) (L : List Loc) : Prop := ∃ (b : Addr) (kb : ClassId) (zz : Int32) (wa : Int64) (wb : Int64) (wc : Int64) (wd : Int64), v = none ∧ Fr n0 L ∧ Keep h0 h [a1, a2] ∧ (Exa Z h a1 "com/example/eunomia/eunomia/sticky/LongHeap") ∧ (Fld Z h a1 "com/example/eunomia/eunomia/sticky/LongHeap" "values" "[J" (.ref b)) ∧ (Fld Z h a1 "com/example/eunomia/eunomia/sticky/LongHeap" "size" "I" (.int (3 : Int32))) ∧ (n0 ≤ b) ∧ (b ≠ a1) ∧ (Arv Z h b kb .long zz [(.long wa), (.long wb), (.long wc), (.long wd)] (.long (0 : Int64))) ∧ (1 ≤ zz.toInt ∧ 3 ≤ zz.toInt ∧ zz.toInt ≤ 8) ∧ (∀ f : Int64 → Int, f wa + f wb + f wc = f va + f vb + f q1) ∧ (wa.toInt ≤ wb.toInt ∧ wa.toInt ≤ wc.toInt)
set_option maxRecDepth 65536 in
set_option maxHeartbeats 40000000 in
theorem rm6_2 (l : Launch) (Z : State) (a0 : Array Value) (hw : ∀ d ∈ tables_1, d.before a0 Z = true) (ws : List Jvm.Cond) (a1 : Addr) (q1 : Int64) (a2 : Addr) (ka : ClassId) (z : Int32) (va : Int64) (vb : Int64) (vc : Int64) (vd : Int64) (h0 : Heap) (n0 : Nat) (Z0 : n0 ≤ h0.size) (pre_E_a1 : Exa Z h0 a1 "com/example/eunomia/eunomia/sticky/LongHeap") (pre_g_a1 : n0 ≤ a1) (pre_g_a2 : n0 ≤ a2) (pre_a2_a1 : a2 ≠ a1) (pre_F_a1_values : Fld Z h0 a1 "com/example/eunomia/eunomia/sticky/LongHeap" "values" "[J" (.ref a2)) (pre_F_a1_size : Fld Z h0 a1 "com/example/eunomia/eunomia/sticky/LongHeap" "size" "I" (.int (2 : Int32))) (pre_V_a2 : Arv Z h0 a2 ka .long z [(.long va), (.long vb), (.long vc), (.long vd)] (.long (0 : Int64))) (hz : 1 ≤ z.toInt ∧ 2 ≤ z.toInt ∧ z.toInt ≤ 8) (ho : va.toInt ≤ vb.toInt) :
    MetFree l (⟨"com/example/eunomia/eunomia/sticky/LongHeap", "add", "(J)V"⟩ : MethodName) (head1 (Jvm.Cond.code (⟨"com/example/eunomia/eunomia/sticky/LongHeap", "add", "(J)V"⟩ : MethodName) prog_40_method_4_code 4 none :: ws) RM6_2) (fun a U => a = #[(.ref a1), (.long q1)] ∧ Z.Warmed39 U.vm ∧ U.heap = h0) (fun _ _ _ _ _ => True) (fun _ U o U' => ∃ v L, o = .returned v ∧ Q6_2 Z a1 q1 a2 ka z va vb vc vd h0 n0 v U'.heap L ∧ FrameEnd U o U' L RM6_2.cells RM6_2.slots) := by
  refine met_of (Q := fun v h L => Q6_2 Z a1 q1 a2 ka z va vb vc vd h0 n0 v h L) (plainFor_of_name pn_0) (fun m => by first | (simp [entryFrame, mkF, argsToLocals, Value.category]; done) | rfl) (Ls := #[.val (.ref a1), .val (.long q1), .second, .unset]) ?_
  intro p e s m below meth c T0 QQ hx hZ hby hml hown hnm hret hlk X0 e0 hQ
  have hml : c.maxLocals = 4 := hml
  have hown : s.vm.findClass "com/example/eunomia/eunomia/sticky/LongHeap" = some m.cls := hown
  have hnm : meth.name = "add" := hnm
  have hret : meth.sig.returnType = none := hret
  have N0 := Fr.nil n0
  have K0 : Keep h0 h0 [a1, a2] := Keep.refl h0 _
  show GoW p e below QQ (T0.setTop (mkF m 0 #[.val (.ref a1), .val (.long q1), .second, .unset] []))
  have z0 : (0 : Int32).toInt = 0 := rfl
  have z1 : (1 : Int32).toInt = 1 := rfl
  have z2 : (2 : Int32).toInt = 2 := rfl
  have z3 : (3 : Int32).toInt = 3 := rfl
  have z4 : (4 : Int32).toInt = 4 := rfl
  have z6 : (6 : Int32).toInt = 6 := rfl
  refine GoW.st (fun t k => XS.aloadN X0.here hx rfl (hb hby d6_0) rfl rfl k) ?_
  show GoW p e below QQ (T0.setTop (mkF m 1 #[.val (.ref a1), .val (.long q1), .second, .unset] [(.ref a1)]))
  obtain ⟨T1, X1, e1, st1⟩ := getF X0 hx hZ hown (host := "") (Or.inl (hw _ (List.mem_of_getElem? (i := 27) rfl))) Via.refl e0 pre_F_a1_size (g := (mkF m 1 #[.val (.ref a1), .val (.long q1), .second, .unset] [(.ref a1)])) rfl rfl (hb hby d6_1)
  refine GoW.st st1 ?_
  show GoW p e below QQ (T1.setTop (mkF m 4 #[.val (.ref a1), .val (.long q1), .second, .unset] [(.int (2 : Int32))]))
  refine GoW.st (fun t k => XS.aloadN X1.here hx rfl (hb hby d6_4) rfl rfl k) ?_
  show GoW p e below QQ (T1.setTop (mkF m 5 #[.val (.ref a1), .val (.long q1), .second, .unset] [(.ref a1), (.int (2 : Int32))]))
  obtain ⟨T2, X2, e2, st2⟩ := getF X1 hx hZ hown (host := "") (Or.inl (hw _ (List.mem_of_getElem? (i := 20) rfl))) Via.refl e1 pre_F_a1_values (g := (mkF m 5 #[.val (.ref a1), .val (.long q1), .second, .unset] [(.ref a1), (.int (2 : Int32))])) rfl rfl (hb hby d6_5)
  refine GoW.st st2 ?_
  show GoW p e below QQ (T2.setTop (mkF m 8 #[.val (.ref a1), .val (.long q1), .second, .unset] [(.ref a2), (.int (2 : Int32))]))
  refine GoW.st (fun t k => lnV X2 hx hZ e2 pre_V_a2 (g := (mkF m 8 #[.val (.ref a1), .val (.long q1), .second, .unset] [(.ref a2), (.int (2 : Int32))])) rfl rfl (hb hby d6_8) t k) ?_
  show GoW p e below QQ (T2.setTop (mkF m 9 #[.val (.ref a1), .val (.long q1), .second, .unset] [(.int z), (.int (2 : Int32))]))
  by_cases hc9 : (2 : Int32) = z
  · skip
    refine GoW.st (fun t k => XS.icmpNo X2.here hx rfl (hb hby d6_9) rfl (teq hc9).2 k) ?_
    show GoW p e below QQ (T2.setTop (mkF m 12 #[.val (.ref a1), .val (.long q1), .second, .unset] []))
    have hi9 : 2 = z.toInt := (congrArg Int32.toInt hc9)
    subst hc9
    refine GoW.st (fun t k => XS.aloadN X2.here hx rfl (hb hby d6_12) rfl rfl (XS.aloadN X2.here hx rfl (hb hby d6_13) rfl rfl k)) ?_
    show GoW p e below QQ (T2.setTop (mkF m 14 #[.val (.ref a1), .val (.long q1), .second, .unset] [(.ref a1), (.ref a1)]))
    obtain ⟨T3, X3, e3, st3⟩ := getF X2 hx hZ hown (host := "") (Or.inl (hw _ (List.mem_of_getElem? (i := 20) rfl))) Via.refl e2 pre_F_a1_values (g := (mkF m 14 #[.val (.ref a1), .val (.long q1), .second, .unset] [(.ref a1), (.ref a1)])) rfl rfl (hb hby d6_14)
    refine GoW.st st3 ?_
    show GoW p e below QQ (T3.setTop (mkF m 17 #[.val (.ref a1), .val (.long q1), .second, .unset] [(.ref a2), (.ref a1)]))
    refine GoW.st (fun t k => XS.iconst X3.here hx rfl (hb hby d6_17) (XS.aloadN X3.here hx rfl (hb hby d6_18) rfl rfl k)) ?_
    show GoW p e below QQ (T3.setTop (mkF m 19 #[.val (.ref a1), .val (.long q1), .second, .unset] [(.ref a1), (.int (2 : Int32)), (.ref a2), (.ref a1)]))
    obtain ⟨T4, X4, e4, st4⟩ := getF X3 hx hZ hown (host := "") (Or.inl (hw _ (List.mem_of_getElem? (i := 27) rfl))) Via.refl e3 pre_F_a1_size (g := (mkF m 19 #[.val (.ref a1), .val (.long q1), .second, .unset] [(.ref a1), (.int (2 : Int32)), (.ref a2), (.ref a1)])) rfl rfl (hb hby d6_19)
    refine GoW.st st4 ?_
    show GoW p e below QQ (T4.setTop (mkF m 22 #[.val (.ref a1), .val (.long q1), .second, .unset] [(.int (2 : Int32)), (.int (2 : Int32)), (.ref a2), (.ref a1)]))
    refine GoW.st (fun t k => XS.imul X4.here hx rfl (hb hby d6_22) rfl k) ?_
    show GoW p e below QQ (T4.setTop (mkF m 23 #[.val (.ref a1), .val (.long q1), .second, .unset] [(.int (4 : Int32)), (.ref a2), (.ref a1)]))
    obtain ⟨_, _, ⟨T5, zL5, zk5, zn5⟩, -, X5, ⟨Lc5, hQ5, zl5, zy5, zz5⟩, st5⟩ := Jvm.LawKit.callS X4 hx (y := (⟨"java/util/Arrays", "copyOf", "([JI)[J"⟩ : MethodName)) hown (mvT hZ (hw _ (List.mem_of_getElem? (i := 29) rfl))) (mvT hZ (hw _ (List.mem_of_getElem? (i := 30) rfl))) (mvT hZ (hw _ (List.mem_of_getElem? (i := 31) rfl))) (mvT hZ (hw _ (List.mem_of_getElem? (i := 32) rfl))) (by decide) (backOf (W := 1) (rm7_2 l Z a0 hw [] a2 ka va vb vc vd h0 n0 (Nat.le_trans Z0 K0.1) pre_V_a2) hZ (hw _ (List.mem_of_getElem? (i := 32) rfl)) (hw _ (List.mem_of_getElem? (i := 31) rfl)) (by decide) (by decide)) (g := (mkF m 23 #[.val (.ref a1), .val (.long q1), .second, .unset] [(.int (4 : Int32)), (.ref a2), (.ref a1)])) rfl (by rw [hml]; rfl) (argsL := [(.ref a2), (.int (4 : Int32))]) (rest := [(.ref a1)]) (lenOf pd_1 rfl) rfl (by show 2 * 0 + _ ≤ _; exact Nat.le_of_eq rfl) (hb hby d6_23) (fun _ _ => ⟨rfl, e4, (by decide : 0 + 1 ≤ _), (by decide : 0 + 4 ≤ _)⟩)
    dsimp only [Pt.U, Pt.locs, Pt.cells, Pt.slots] at X5 zl5 zy5 zz5 st5 hQ5
    subst zl5 zy5 zz5
    obtain ⟨b_23, kb_23, rfl, Nq5, Kq5, p5_0, p5_1⟩ := hQ5
    have N5 := Fr.app N0 Nq5
    refine GoW.st st5 ?_
    have ne5_a1_b_23 : a1 ≠ b_23 := Nat.ne_of_lt (Nat.lt_of_lt_of_le pre_E_a1.lt p5_0)
    have ne5_a2_b_23 : a2 ≠ b_23 := Nat.ne_of_lt (Nat.lt_of_lt_of_le pre_V_a2.lt p5_0)
    have sz5_b_23 : h0.size ≤ b_23 := Nat.le_trans K0.1 p5_0
    have gg5_b_23 : n0 ≤ b_23 := Nat.le_trans Z0 sz5_b_23
    have f6_E_a1 : Exa Z T5.heap a1 "com/example/eunomia/eunomia/sticky/LongHeap" := pre_E_a1.keep Kq5
    have f6_F_a1_values : Fld Z T5.heap a1 "com/example/eunomia/eunomia/sticky/LongHeap" "values" "[J" (.ref a2) := pre_F_a1_values.keep Kq5 nin0
    have f6_F_a1_size : Fld Z T5.heap a1 "com/example/eunomia/eunomia/sticky/LongHeap" "size" "I" (.int (2 : Int32)) := pre_F_a1_size.keep Kq5 nin0
    have f6_V_a2 : Arv Z T5.heap a2 ka .long (2 : Int32) [(.long va), (.long vb), (.long vc), (.long vd)] (.long (0 : Int64)) := pre_V_a2.keep Kq5 nin0
    have K5 : Keep h0 T5.heap [a1, a2] := K0.trans Kq5 all0
    show GoW p e below QQ (T5.setTop (mkF m 26 #[.val (.ref a1), .val (.long q1), .second, .unset] [(.ref b_23), (.ref a1)]))
    obtain ⟨T7, h7, X7, e7, W7, st7⟩ := putF X5 hx hZ hown (host := "") (Or.inl (hw _ (List.mem_of_getElem? (i := 20) rfl))) Via.refl rfl f6_F_a1_values f6_E_a1 (Or.inl (hw _ (List.mem_of_getElem? (i := 21) rfl))) (hw _ (List.mem_of_getElem? (i := 8) rfl)) (ty := (.array .long)) (by decide) rfl rfl (g := (mkF m 26 #[.val (.ref a1), .val (.long q1), .second, .unset] [(.ref b_23), (.ref a1)])) rfl rfl (hb hby d6_26)
    refine GoW.st st7 ?_
    have f8_E_a1 : Exa Z h7 a1 "com/example/eunomia/eunomia/sticky/LongHeap" := f6_E_a1.wr W7
    have f8_F_a1_values : Fld Z h7 a1 "com/example/eunomia/eunomia/sticky/LongHeap" "values" "[J" (.ref b_23) := f6_F_a1_values.same W7
    have f8_F_a1_size : Fld Z h7 a1 "com/example/eunomia/eunomia/sticky/LongHeap" "size" "I" (.int (2 : Int32)) := f6_F_a1_size.other W7 (Or.inr (slot_ne (Or.inl (hw _ (List.mem_of_getElem? (i := 28) rfl))) (Or.inl (hw _ (List.mem_of_getElem? (i := 21) rfl))) (by decide) (t := .int) (t' := (.array .long)) (by decide) (by decide)))
    have f8_V_a2 : Arv Z h7 a2 ka .long (2 : Int32) [(.long va), (.long vb), (.long vc), (.long vd)] (.long (0 : Int64)) := f6_V_a2.other W7 pre_a2_a1
    have f8_V_b_23 : Arv Z h7 b_23 kb_23 .long (4 : Int32) [(.long va), (.long vb), (.long (0 : Int64)), (.long (0 : Int64))] (.long (0 : Int64)) := p5_1.other W7 (Ne.symm ne5_a1_b_23)
    have K7 : Keep h0 h7 [a1, a2] := K5.wr W7 (Or.inl (List.mem_of_getElem? (i := 0) rfl))
    have N7 := Fr.snoc X7 N5 pre_g_a1
    show GoW p e below QQ (T7.setTop (mkF m 29 #[.val (.ref a1), .val (.long q1), .second, .unset] []))
    refine GoW.st (fun t k => XS.aloadN X7.here hx rfl (hb hby d6_29) rfl rfl (XS.dup X7.here hx rfl (hb hby d6_30) rfl rfl k)) ?_
    show GoW p e below QQ (T7.setTop (mkF m 31 #[.val (.ref a1), .val (.long q1), .second, .unset] [(.ref a1), (.ref a1)]))
    obtain ⟨T9, X9, e9, st9⟩ := getF X7 hx hZ hown (host := "") (Or.inl (hw _ (List.mem_of_getElem? (i := 27) rfl))) Via.refl e7 f8_F_a1_size (g := (mkF m 31 #[.val (.ref a1), .val (.long q1), .second, .unset] [(.ref a1), (.ref a1)])) rfl rfl (hb hby d6_31)
    refine GoW.st st9 ?_
    show GoW p e below QQ (T9.setTop (mkF m 34 #[.val (.ref a1), .val (.long q1), .second, .unset] [(.int (2 : Int32)), (.ref a1)]))
    refine GoW.st (fun t k => XS.dupX1 X9.here hx rfl (hb hby d6_34) rfl rfl rfl (XS.iconst X9.here hx rfl (hb hby d6_35) (XS.iadd X9.here hx rfl (hb hby d6_36) rfl k))) ?_
    show GoW p e below QQ (T9.setTop (mkF m 37 #[.val (.ref a1), .val (.long q1), .second, .unset] [(.int (3 : Int32)), (.ref a1), (.int (2 : Int32))]))
    obtain ⟨T10, h10, X10, e10, W10, st10⟩ := putF X9 hx hZ hown (host := "") (Or.inl (hw _ (List.mem_of_getElem? (i := 27) rfl))) Via.refl e9 f8_F_a1_size f8_E_a1 (Or.inl (hw _ (List.mem_of_getElem? (i := 28) rfl))) (hw _ (List.mem_of_getElem? (i := 8) rfl)) (ty := .int) (by decide) rfl rfl (g := (mkF m 37 #[.val (.ref a1), .val (.long q1), .second, .unset] [(.int (3 : Int32)), (.ref a1), (.int (2 : Int32))])) rfl rfl (hb hby d6_37)
    refine GoW.st st10 ?_
    have f11_E_a1 : Exa Z h10 a1 "com/example/eunomia/eunomia/sticky/LongHeap" := f8_E_a1.wr W10
    have f11_F_a1_values : Fld Z h10 a1 "com/example/eunomia/eunomia/sticky/LongHeap" "values" "[J" (.ref b_23) := f8_F_a1_values.other W10 (Or.inr (slot_ne (Or.inl (hw _ (List.mem_of_getElem? (i := 21) rfl))) (Or.inl (hw _ (List.mem_of_getElem? (i := 28) rfl))) (by decide) (t := (.array .long)) (t' := .int) (by decide) (by decide)))
    have f11_F_a1_size : Fld Z h10 a1 "com/example/eunomia/eunomia/sticky/LongHeap" "size" "I" (.int (3 : Int32)) := f8_F_a1_size.same W10
    have f11_V_b_23 : Arv Z h10 b_23 kb_23 .long (4 : Int32) [(.long va), (.long vb), (.long (0 : Int64)), (.long (0 : Int64))] (.long (0 : Int64)) := f8_V_b_23.other W10 (Ne.symm ne5_a1_b_23)
    have K10 : Keep h0 h10 [a1, a2] := K7.wr W10 (Or.inl (List.mem_of_getElem? (i := 0) rfl))
    have N10 := Fr.snoc X10 N7 pre_g_a1
    show GoW p e below QQ (T10.setTop (mkF m 40 #[.val (.ref a1), .val (.long q1), .second, .unset] [(.int (2 : Int32))]))
    refine GoW.st (fun t k => XS.istoreN X10.here hx rfl (hb hby d6_40) rfl (l' := #[.val (.ref a1), .val (.long q1), .second, .val (.int (2 : Int32))]) rfl (XS.iloadN X10.here hx rfl (hb hby d6_41) rfl k)) ?_
    show GoW p e below QQ (T10.setTop (mkF m 42 #[.val (.ref a1), .val (.long q1), .second, .val (.int (2 : Int32))] [(.int (2 : Int32))]))
    have hc42 : (0 : Int32) < (2 : Int32) := by decide
    refine GoW.st (fun t k => XS.ifNo X10.here hx rfl (hb hby d6_42) rfl ((if0 _ _).trans (tlt hc42).2.2.2) (XS.lloadN X10.here hx rfl (hb hby d6_45) rfl (XS.aloadN X10.here hx rfl (hb hby d6_46) rfl rfl k))) ?_
    show GoW p e below QQ (T10.setTop (mkF m 47 #[.val (.ref a1), .val (.long q1), .second, .val (.int (2 : Int32))] [(.ref a1), (.long q1)]))
    obtain ⟨T12, X12, e12, st12⟩ := getF X10 hx hZ hown (host := "") (Or.inl (hw _ (List.mem_of_getElem? (i := 20) rfl))) Via.refl e10 f11_F_a1_values (g := (mkF m 47 #[.val (.ref a1), .val (.long q1), .second, .val (.int (2 : Int32))] [(.ref a1), (.long q1)])) rfl rfl (hb hby d6_47)
    refine GoW.st st12 ?_
    show GoW p e below QQ (T12.setTop (mkF m 50 #[.val (.ref a1), .val (.long q1), .second, .val (.int (2 : Int32))] [(.ref b_23), (.long q1)]))
    refine GoW.st (fun t k => XS.iloadN X12.here hx rfl (hb hby d6_50) rfl (XS.iconst X12.here hx rfl (hb hby d6_51) (XS.isub X12.here hx rfl (hb hby d6_52) rfl (XS.iconst X12.here hx rfl (hb hby d6_53) (XS.idiv X12.here hx rfl (hb hby d6_54) rfl (by decide) (ldVJ X12 hx hZ e12 f11_V_b_23 (v := (.long va)) ⟨by decide, by decide⟩ rfl (g := (mkF m 55 #[.val (.ref a1), .val (.long q1), .second, .val (.int (2 : Int32))] [(.int (0 : Int32)), (.ref b_23), (.long q1)])) rfl rfl (hb hby d6_55) t k)))))) ?_
    show GoW p e below QQ (T12.setTop (mkF m 56 #[.val (.ref a1), .val (.long q1), .second, .val (.int (2 : Int32))] [(.long va), (.long q1)]))
    refine GoW.st (fun t k => XS.lcmp X12.here hx rfl (hb hby d6_56) rfl k) ?_
    show GoW p e below QQ (T12.setTop (mkF m 57 #[.val (.ref a1), .val (.long q1), .second, .val (.int (2 : Int32))] [(.int (lcmpW q1 va))]))
    by_cases hc57 : q1 < va
    · skip
      refine GoW.st (fun t k => XS.ifNo X12.here hx rfl (hb hby d6_57) rfl ((if0 _ _).trans (tlt ((lw_lt q1 va).mpr hc57)).2.1) k) ?_
      show GoW p e below QQ (T12.setTop (mkF m 60 #[.val (.ref a1), .val (.long q1), .second, .val (.int (2 : Int32))] []))
      have hi57 : q1.toInt < va.toInt := (Int64.lt_iff_toInt_lt.mp hc57)
      refine GoW.st (fun t k => XS.aloadN X12.here hx rfl (hb hby d6_60) rfl rfl k) ?_
      show GoW p e below QQ (T12.setTop (mkF m 61 #[.val (.ref a1), .val (.long q1), .second, .val (.int (2 : Int32))] [(.ref a1)]))
      obtain ⟨T13, X13, e13, st13⟩ := getF X12 hx hZ hown (host := "") (Or.inl (hw _ (List.mem_of_getElem? (i := 20) rfl))) Via.refl e12 f11_F_a1_values (g := (mkF m 61 #[.val (.ref a1), .val (.long q1), .second, .val (.int (2 : Int32))] [(.ref a1)])) rfl rfl (hb hby d6_61)
      refine GoW.st st13 ?_
      show GoW p e below QQ (T13.setTop (mkF m 64 #[.val (.ref a1), .val (.long q1), .second, .val (.int (2 : Int32))] [(.ref b_23)]))
      refine GoW.st (fun t k => XS.iloadN X13.here hx rfl (hb hby d6_64) rfl (XS.aloadN X13.here hx rfl (hb hby d6_65) rfl rfl k)) ?_
      show GoW p e below QQ (T13.setTop (mkF m 66 #[.val (.ref a1), .val (.long q1), .second, .val (.int (2 : Int32))] [(.ref a1), (.int (2 : Int32)), (.ref b_23)]))
      obtain ⟨T14, X14, e14, st14⟩ := getF X13 hx hZ hown (host := "") (Or.inl (hw _ (List.mem_of_getElem? (i := 20) rfl))) Via.refl e13 f11_F_a1_values (g := (mkF m 66 #[.val (.ref a1), .val (.long q1), .second, .val (.int (2 : Int32))] [(.ref a1), (.int (2 : Int32)), (.ref b_23)])) rfl rfl (hb hby d6_66)
      refine GoW.st st14 ?_
      show GoW p e below QQ (T14.setTop (mkF m 69 #[.val (.ref a1), .val (.long q1), .second, .val (.int (2 : Int32))] [(.ref b_23), (.int (2 : Int32)), (.ref b_23)]))
      refine GoW.st (fun t k => XS.iloadN X14.here hx rfl (hb hby d6_69) rfl (XS.iconst X14.here hx rfl (hb hby d6_70) (XS.isub X14.here hx rfl (hb hby d6_71) rfl (XS.iconst X14.here hx rfl (hb hby d6_72) (XS.idiv X14.here hx rfl (hb hby d6_73) rfl (by decide) (ldVJ X14 hx hZ e14 f11_V_b_23 (v := (.long va)) ⟨by decide, by decide⟩ rfl (g := (mkF m 74 #[.val (.ref a1), .val (.long q1), .second, .val (.int (2 : Int32))] [(.int (0 : Int32)), (.ref b_23), (.int (2 : Int32)), (.ref b_23)])) rfl rfl (hb hby d6_74) t k)))))) ?_
      show GoW p e below QQ (T14.setTop (mkF m 75 #[.val (.ref a1), .val (.long q1), .second, .val (.int (2 : Int32))] [(.long va), (.int (2 : Int32)), (.ref b_23)]))
      obtain ⟨T15, h15, X15, e15, W15, V15, st15⟩ := stVJ X14 hx hZ e14 f11_V_b_23 ⟨by decide, by decide⟩ 2 rfl (Nat.le_of_ble_eq_true rfl) (g := (mkF m 75 #[.val (.ref a1), .val (.long q1), .second, .val (.int (2 : Int32))] [(.long va), (.int (2 : Int32)), (.ref b_23)])) rfl rfl (hb hby d6_75)
      refine GoW.st st15 ?_
      have f16_E_a1 : Exa Z h15 a1 "com/example/eunomia/eunomia/sticky/LongHeap" := f11_E_a1.wr W15
      have f16_F_a1_values : Fld Z h15 a1 "com/example/eunomia/eunomia/sticky/LongHeap" "values" "[J" (.ref b_23) := f11_F_a1_values.other W15 (Or.inl ne5_a1_b_23)
      have f16_F_a1_size : Fld Z h15 a1 "com/example/eunomia/eunomia/sticky/LongHeap" "size" "I" (.int (3 : Int32)) := f11_F_a1_size.other W15 (Or.inl ne5_a1_b_23)
      have f16_V_b_23 : Arv Z h15 b_23 kb_23 .long (4 : Int32) [(.long va), (.long vb), (.long va), (.long (0 : Int64))] (.long (0 : Int64)) := V15
      have K15 : Keep h0 h15 [a1, a2] := K10.wr W15 (Or.inr sz5_b_23)
      have N15 := Fr.snoc X15 N10 gg5_b_23
      show GoW p e below QQ (T15.setTop (mkF m 76 #[.val (.ref a1), .val (.long q1), .second, .val (.int (2 : Int32))] []))
      refine GoW.st (fun t k => XS.iloadN X15.here hx rfl (hb hby d6_76) rfl (XS.iconst X15.here hx rfl (hb hby d6_77) (XS.isub X15.here hx rfl (hb hby d6_78) rfl (XS.iconst X15.here hx rfl (hb hby d6_79) (XS.idiv X15.here hx rfl (hb hby d6_80) rfl (by decide) (XS.istoreN X15.here hx rfl (hb hby d6_81) rfl (l' := #[.val (.ref a1), .val (.long q1), .second, .val (.int (0 : Int32))]) rfl k)))))) ?_
      show GoW p e below QQ (T15.setTop (mkF m 82 #[.val (.ref a1), .val (.long q1), .second, .val (.int (0 : Int32))] []))
      refine GoW.st (fun t k => XS.goto X15.here hx rfl (pc0 := 82) (pc' := 41) rfl (hb hby d6_82) (by decide) (by decide) (XS.iloadN X15.here hx rfl (hb hby d6_41) rfl k)) ?_
      show GoW p e below QQ (T15.setTop (mkF m 42 #[.val (.ref a1), .val (.long q1), .second, .val (.int (0 : Int32))] [(.int (0 : Int32))]))
      have hc42_2 : ¬ ((0 : Int32) < (0 : Int32)) := by decide
      refine GoW.st (fun t k => XS.ifYes X15.here hx rfl (pc0 := 42) (pc' := 85) rfl (hb hby d6_42) rfl ((if0 _ _).trans (flt hc42_2).2.2.2) (by decide) (by decide) (XS.aloadN X15.here hx rfl (hb hby d6_85) rfl rfl k)) ?_
      show GoW p e below QQ (T15.setTop (mkF m 86 #[.val (.ref a1), .val (.long q1), .second, .val (.int (0 : Int32))] [(.ref a1)]))
      obtain ⟨T17, X17, e17, st17⟩ := getF X15 hx hZ hown (host := "") (Or.inl (hw _ (List.mem_of_getElem? (i := 20) rfl))) Via.refl e15 f16_F_a1_values (g := (mkF m 86 #[.val (.ref a1), .val (.long q1), .second, .val (.int (0 : Int32))] [(.ref a1)])) rfl rfl (hb hby d6_86)
      refine GoW.st st17 ?_
      show GoW p e below QQ (T17.setTop (mkF m 89 #[.val (.ref a1), .val (.long q1), .second, .val (.int (0 : Int32))] [(.ref b_23)]))
      refine GoW.st (fun t k => XS.iloadN X17.here hx rfl (hb hby d6_89) rfl (XS.lloadN X17.here hx rfl (hb hby d6_90) rfl k)) ?_
      show GoW p e below QQ (T17.setTop (mkF m 91 #[.val (.ref a1), .val (.long q1), .second, .val (.int (0 : Int32))] [(.long q1), (.int (0 : Int32)), (.ref b_23)]))
      obtain ⟨T18, h18, X18, e18, W18, V18, st18⟩ := stVJ X17 hx hZ e17 f16_V_b_23 ⟨by decide, by decide⟩ 0 rfl (Nat.le_of_ble_eq_true rfl) (g := (mkF m 91 #[.val (.ref a1), .val (.long q1), .second, .val (.int (0 : Int32))] [(.long q1), (.int (0 : Int32)), (.ref b_23)])) rfl rfl (hb hby d6_91)
      refine GoW.st st18 ?_
      have f19_E_a1 : Exa Z h18 a1 "com/example/eunomia/eunomia/sticky/LongHeap" := f16_E_a1.wr W18
      have f19_F_a1_values : Fld Z h18 a1 "com/example/eunomia/eunomia/sticky/LongHeap" "values" "[J" (.ref b_23) := f16_F_a1_values.other W18 (Or.inl ne5_a1_b_23)
      have f19_F_a1_size : Fld Z h18 a1 "com/example/eunomia/eunomia/sticky/LongHeap" "size" "I" (.int (3 : Int32)) := f16_F_a1_size.other W18 (Or.inl ne5_a1_b_23)
      have f19_V_b_23 : Arv Z h18 b_23 kb_23 .long (4 : Int32) [(.long q1), (.long vb), (.long va), (.long (0 : Int64))] (.long (0 : Int64)) := V18
      have K18 : Keep h0 h18 [a1, a2] := K15.wr W18 (Or.inr sz5_b_23)
      have N18 := Fr.snoc X18 N15 gg5_b_23
      show GoW p e below QQ (T18.setTop (mkF m 92 #[.val (.ref a1), .val (.long q1), .second, .val (.int (0 : Int32))] []))
      exact GoW.fin X18 none (fun _ => rfl) hlk hQ e18 ⟨b_23, kb_23, (4 : Int32), q1, vb, va, (0 : Int64), rfl, N18, K18, f19_E_a1, f19_F_a1_values, f19_F_a1_size, gg5_b_23, (Ne.symm ne5_a1_b_23), f19_V_b_23, (by omega), (fun f => by omega), (by omega)⟩ (by decide) (by decide) (fun fs hr => X18.returnOut hx hret (hb hby d6_92) hr)
    · skip
      refine GoW.st (fun t k => XS.ifYes X12.here hx rfl (pc0 := 57) (pc' := 85) rfl (hb hby d6_57) rfl ((if0 _ _).trans (flt (fun q => hc57 ((lw_lt q1 va).mp q))).2.1) (by decide) (by decide) k) ?_
      show GoW p e below QQ (T12.setTop (mkF m 85 #[.val (.ref a1), .val (.long q1), .second, .val (.int (2 : Int32))] []))
      have hi57 : ¬ (q1.toInt < va.toInt) := (fun q => hc57 (Int64.lt_iff_toInt_lt.mpr q))
      refine GoW.st (fun t k => XS.aloadN X12.here hx rfl (hb hby d6_85) rfl rfl k) ?_
      show GoW p e below QQ (T12.setTop (mkF m 86 #[.val (.ref a1), .val (.long q1), .second, .val (.int (2 : Int32))] [(.ref a1)]))
      obtain ⟨T20, X20, e20, st20⟩ := getF X12 hx hZ hown (host := "") (Or.inl (hw _ (List.mem_of_getElem? (i := 20) rfl))) Via.refl e12 f11_F_a1_values (g := (mkF m 86 #[.val (.ref a1), .val (.long q1), .second, .val (.int (2 : Int32))] [(.ref a1)])) rfl rfl (hb hby d6_86)
      refine GoW.st st20 ?_
      show GoW p e below QQ (T20.setTop (mkF m 89 #[.val (.ref a1), .val (.long q1), .second, .val (.int (2 : Int32))] [(.ref b_23)]))
      refine GoW.st (fun t k => XS.iloadN X20.here hx rfl (hb hby d6_89) rfl (XS.lloadN X20.here hx rfl (hb hby d6_90) rfl k)) ?_
      show GoW p e below QQ (T20.setTop (mkF m 91 #[.val (.ref a1), .val (.long q1), .second, .val (.int (2 : Int32))] [(.long q1), (.int (2 : Int32)), (.ref b_23)]))
      obtain ⟨T21, h21, X21, e21, W21, V21, st21⟩ := stVJ X20 hx hZ e20 f11_V_b_23 ⟨by decide, by decide⟩ 2 rfl (Nat.le_of_ble_eq_true rfl) (g := (mkF m 91 #[.val (.ref a1), .val (.long q1), .second, .val (.int (2 : Int32))] [(.long q1), (.int (2 : Int32)), (.ref b_23)])) rfl rfl (hb hby d6_91)
      refine GoW.st st21 ?_
      have f22_E_a1 : Exa Z h21 a1 "com/example/eunomia/eunomia/sticky/LongHeap" := f11_E_a1.wr W21
      have f22_F_a1_values : Fld Z h21 a1 "com/example/eunomia/eunomia/sticky/LongHeap" "values" "[J" (.ref b_23) := f11_F_a1_values.other W21 (Or.inl ne5_a1_b_23)
      have f22_F_a1_size : Fld Z h21 a1 "com/example/eunomia/eunomia/sticky/LongHeap" "size" "I" (.int (3 : Int32)) := f11_F_a1_size.other W21 (Or.inl ne5_a1_b_23)
      have f22_V_b_23 : Arv Z h21 b_23 kb_23 .long (4 : Int32) [(.long va), (.long vb), (.long q1), (.long (0 : Int64))] (.long (0 : Int64)) := V21
      have K21 : Keep h0 h21 [a1, a2] := K10.wr W21 (Or.inr sz5_b_23)
      have N21 := Fr.snoc X21 N10 gg5_b_23
      show GoW p e below QQ (T21.setTop (mkF m 92 #[.val (.ref a1), .val (.long q1), .second, .val (.int (2 : Int32))] []))
      exact GoW.fin X21 none (fun _ => rfl) hlk hQ e21 ⟨b_23, kb_23, (4 : Int32), va, vb, q1, (0 : Int64), rfl, N21, K21, f22_E_a1, f22_F_a1_values, f22_F_a1_size, gg5_b_23, (Ne.symm ne5_a1_b_23), f22_V_b_23, (by omega), (fun f => by omega), (by omega)⟩ (by decide) (by decide) (fun fs hr => X21.returnOut hx hret (hb hby d6_92) hr)
  · skip
    refine GoW.st (fun t k => XS.icmpYes X2.here hx rfl (pc0 := 9) (pc' := 29) rfl (hb hby d6_9) rfl (feq hc9).2 (by decide) (by decide) k) ?_
    show GoW p e below QQ (T2.setTop (mkF m 29 #[.val (.ref a1), .val (.long q1), .second, .unset] []))
    have hi9 : ¬ (2 = z.toInt) := (fun q => hc9 (Int32.toInt_inj.mp q))
    have hlt := fun q => hc9 (own_eq_of q)
    refine GoW.st (fun t k => XS.aloadN X2.here hx rfl (hb hby d6_29) rfl rfl (XS.dup X2.here hx rfl (hb hby d6_30) rfl rfl k)) ?_
    show GoW p e below QQ (T2.setTop (mkF m 31 #[.val (.ref a1), .val (.long q1), .second, .unset] [(.ref a1), (.ref a1)]))
    obtain ⟨T23, X23, e23, st23⟩ := getF X2 hx hZ hown (host := "") (Or.inl (hw _ (List.mem_of_getElem? (i := 27) rfl))) Via.refl e2 pre_F_a1_size (g := (mkF m 31 #[.val (.ref a1), .val (.long q1), .second, .unset] [(.ref a1), (.ref a1)])) rfl rfl (hb hby d6_31)
    refine GoW.st st23 ?_
    show GoW p e below QQ (T23.setTop (mkF m 34 #[.val (.ref a1), .val (.long q1), .second, .unset] [(.int (2 : Int32)), (.ref a1)]))
    refine GoW.st (fun t k => XS.dupX1 X23.here hx rfl (hb hby d6_34) rfl rfl rfl (XS.iconst X23.here hx rfl (hb hby d6_35) (XS.iadd X23.here hx rfl (hb hby d6_36) rfl k))) ?_
    show GoW p e below QQ (T23.setTop (mkF m 37 #[.val (.ref a1), .val (.long q1), .second, .unset] [(.int (3 : Int32)), (.ref a1), (.int (2 : Int32))]))
    obtain ⟨T24, h24, X24, e24, W24, st24⟩ := putF X23 hx hZ hown (host := "") (Or.inl (hw _ (List.mem_of_getElem? (i := 27) rfl))) Via.refl e23 pre_F_a1_size pre_E_a1 (Or.inl (hw _ (List.mem_of_getElem? (i := 28) rfl))) (hw _ (List.mem_of_getElem? (i := 8) rfl)) (ty := .int) (by decide) rfl rfl (g := (mkF m 37 #[.val (.ref a1), .val (.long q1), .second, .unset] [(.int (3 : Int32)), (.ref a1), (.int (2 : Int32))])) rfl rfl (hb hby d6_37)
    refine GoW.st st24 ?_
    have f25_E_a1 : Exa Z h24 a1 "com/example/eunomia/eunomia/sticky/LongHeap" := pre_E_a1.wr W24
    have f25_F_a1_values : Fld Z h24 a1 "com/example/eunomia/eunomia/sticky/LongHeap" "values" "[J" (.ref a2) := pre_F_a1_values.other W24 (Or.inr (slot_ne (Or.inl (hw _ (List.mem_of_getElem? (i := 21) rfl))) (Or.inl (hw _ (List.mem_of_getElem? (i := 28) rfl))) (by decide) (t := (.array .long)) (t' := .int) (by decide) (by decide)))
    have f25_F_a1_size : Fld Z h24 a1 "com/example/eunomia/eunomia/sticky/LongHeap" "size" "I" (.int (3 : Int32)) := pre_F_a1_size.same W24
    have f25_V_a2 : Arv Z h24 a2 ka .long z [(.long va), (.long vb), (.long vc), (.long vd)] (.long (0 : Int64)) := pre_V_a2.other W24 pre_a2_a1
    have K24 : Keep h0 h24 [a1, a2] := K0.wr W24 (Or.inl (List.mem_of_getElem? (i := 0) rfl))
    have N24 := Fr.snoc X24 N0 pre_g_a1
    show GoW p e below QQ (T24.setTop (mkF m 40 #[.val (.ref a1), .val (.long q1), .second, .unset] [(.int (2 : Int32))]))
    refine GoW.st (fun t k => XS.istoreN X24.here hx rfl (hb hby d6_40) rfl (l' := #[.val (.ref a1), .val (.long q1), .second, .val (.int (2 : Int32))]) rfl (XS.iloadN X24.here hx rfl (hb hby d6_41) rfl k)) ?_
    show GoW p e below QQ (T24.setTop (mkF m 42 #[.val (.ref a1), .val (.long q1), .second, .val (.int (2 : Int32))] [(.int (2 : Int32))]))
    have hc42 : (0 : Int32) < (2 : Int32) := by decide
    refine GoW.st (fun t k => XS.ifNo X24.here hx rfl (hb hby d6_42) rfl ((if0 _ _).trans (tlt hc42).2.2.2) (XS.lloadN X24.here hx rfl (hb hby d6_45) rfl (XS.aloadN X24.here hx rfl (hb hby d6_46) rfl rfl k))) ?_
    show GoW p e below QQ (T24.setTop (mkF m 47 #[.val (.ref a1), .val (.long q1), .second, .val (.int (2 : Int32))] [(.ref a1), (.long q1)]))
    obtain ⟨T26, X26, e26, st26⟩ := getF X24 hx hZ hown (host := "") (Or.inl (hw _ (List.mem_of_getElem? (i := 20) rfl))) Via.refl e24 f25_F_a1_values (g := (mkF m 47 #[.val (.ref a1), .val (.long q1), .second, .val (.int (2 : Int32))] [(.ref a1), (.long q1)])) rfl rfl (hb hby d6_47)
    refine GoW.st st26 ?_
    show GoW p e below QQ (T26.setTop (mkF m 50 #[.val (.ref a1), .val (.long q1), .second, .val (.int (2 : Int32))] [(.ref a2), (.long q1)]))
    refine GoW.st (fun t k => XS.iloadN X26.here hx rfl (hb hby d6_50) rfl (XS.iconst X26.here hx rfl (hb hby d6_51) (XS.isub X26.here hx rfl (hb hby d6_52) rfl (XS.iconst X26.here hx rfl (hb hby d6_53) (XS.idiv X26.here hx rfl (hb hby d6_54) rfl (by decide) (ldVJ X26 hx hZ e26 f25_V_a2 (v := (.long va)) ⟨by decide, own_lt_of (by omega)⟩ rfl (g := (mkF m 55 #[.val (.ref a1), .val (.long q1), .second, .val (.int (2 : Int32))] [(.int (0 : Int32)), (.ref a2), (.long q1)])) rfl rfl (hb hby d6_55) t k)))))) ?_
    show GoW p e below QQ (T26.setTop (mkF m 56 #[.val (.ref a1), .val (.long q1), .second, .val (.int (2 : Int32))] [(.long va), (.long q1)]))
    refine GoW.st (fun t k => XS.lcmp X26.here hx rfl (hb hby d6_56) rfl k) ?_
    show GoW p e below QQ (T26.setTop (mkF m 57 #[.val (.ref a1), .val (.long q1), .second, .val (.int (2 : Int32))] [(.int (lcmpW q1 va))]))
    by_cases hc57 : q1 < va
    · skip
      refine GoW.st (fun t k => XS.ifNo X26.here hx rfl (hb hby d6_57) rfl ((if0 _ _).trans (tlt ((lw_lt q1 va).mpr hc57)).2.1) k) ?_
      show GoW p e below QQ (T26.setTop (mkF m 60 #[.val (.ref a1), .val (.long q1), .second, .val (.int (2 : Int32))] []))
      have hi57 : q1.toInt < va.toInt := (Int64.lt_iff_toInt_lt.mp hc57)
      refine GoW.st (fun t k => XS.aloadN X26.here hx rfl (hb hby d6_60) rfl rfl k) ?_
      show GoW p e below QQ (T26.setTop (mkF m 61 #[.val (.ref a1), .val (.long q1), .second, .val (.int (2 : Int32))] [(.ref a1)]))
      obtain ⟨T27, X27, e27, st27⟩ := getF X26 hx hZ hown (host := "") (Or.inl (hw _ (List.mem_of_getElem? (i := 20) rfl))) Via.refl e26 f25_F_a1_values (g := (mkF m 61 #[.val (.ref a1), .val (.long q1), .second, .val (.int (2 : Int32))] [(.ref a1)])) rfl rfl (hb hby d6_61)
      refine GoW.st st27 ?_
      show GoW p e below QQ (T27.setTop (mkF m 64 #[.val (.ref a1), .val (.long q1), .second, .val (.int (2 : Int32))] [(.ref a2)]))
      refine GoW.st (fun t k => XS.iloadN X27.here hx rfl (hb hby d6_64) rfl (XS.aloadN X27.here hx rfl (hb hby d6_65) rfl rfl k)) ?_
      show GoW p e below QQ (T27.setTop (mkF m 66 #[.val (.ref a1), .val (.long q1), .second, .val (.int (2 : Int32))] [(.ref a1), (.int (2 : Int32)), (.ref a2)]))
      obtain ⟨T28, X28, e28, st28⟩ := getF X27 hx hZ hown (host := "") (Or.inl (hw _ (List.mem_of_getElem? (i := 20) rfl))) Via.refl e27 f25_F_a1_values (g := (mkF m 66 #[.val (.ref a1), .val (.long q1), .second, .val (.int (2 : Int32))] [(.ref a1), (.int (2 : Int32)), (.ref a2)])) rfl rfl (hb hby d6_66)
      refine GoW.st st28 ?_
      show GoW p e below QQ (T28.setTop (mkF m 69 #[.val (.ref a1), .val (.long q1), .second, .val (.int (2 : Int32))] [(.ref a2), (.int (2 : Int32)), (.ref a2)]))
      refine GoW.st (fun t k => XS.iloadN X28.here hx rfl (hb hby d6_69) rfl (XS.iconst X28.here hx rfl (hb hby d6_70) (XS.isub X28.here hx rfl (hb hby d6_71) rfl (XS.iconst X28.here hx rfl (hb hby d6_72) (XS.idiv X28.here hx rfl (hb hby d6_73) rfl (by decide) (ldVJ X28 hx hZ e28 f25_V_a2 (v := (.long va)) ⟨by decide, own_lt_of (by omega)⟩ rfl (g := (mkF m 74 #[.val (.ref a1), .val (.long q1), .second, .val (.int (2 : Int32))] [(.int (0 : Int32)), (.ref a2), (.int (2 : Int32)), (.ref a2)])) rfl rfl (hb hby d6_74) t k)))))) ?_
      show GoW p e below QQ (T28.setTop (mkF m 75 #[.val (.ref a1), .val (.long q1), .second, .val (.int (2 : Int32))] [(.long va), (.int (2 : Int32)), (.ref a2)]))
      obtain ⟨T29, h29, X29, e29, W29, V29, st29⟩ := stVJ X28 hx hZ e28 f25_V_a2 ⟨by decide, own_lt_of (by omega)⟩ 2 rfl (Nat.le_of_ble_eq_true rfl) (g := (mkF m 75 #[.val (.ref a1), .val (.long q1), .second, .val (.int (2 : Int32))] [(.long va), (.int (2 : Int32)), (.ref a2)])) rfl rfl (hb hby d6_75)
      refine GoW.st st29 ?_
      have f30_E_a1 : Exa Z h29 a1 "com/example/eunomia/eunomia/sticky/LongHeap" := f25_E_a1.wr W29
      have f30_F_a1_values : Fld Z h29 a1 "com/example/eunomia/eunomia/sticky/LongHeap" "values" "[J" (.ref a2) := f25_F_a1_values.other W29 (Or.inl (Ne.symm pre_a2_a1))
      have f30_F_a1_size : Fld Z h29 a1 "com/example/eunomia/eunomia/sticky/LongHeap" "size" "I" (.int (3 : Int32)) := f25_F_a1_size.other W29 (Or.inl (Ne.symm pre_a2_a1))
      have f30_V_a2 : Arv Z h29 a2 ka .long z [(.long va), (.long vb), (.long va), (.long vd)] (.long (0 : Int64)) := V29
      have K29 : Keep h0 h29 [a1, a2] := K24.wr W29 (Or.inl (List.mem_of_getElem? (i := 1) rfl))
      have N29 := Fr.snoc X29 N24 pre_g_a2
      show GoW p e below QQ (T29.setTop (mkF m 76 #[.val (.ref a1), .val (.long q1), .second, .val (.int (2 : Int32))] []))
      refine GoW.st (fun t k => XS.iloadN X29.here hx rfl (hb hby d6_76) rfl (XS.iconst X29.here hx rfl (hb hby d6_77) (XS.isub X29.here hx rfl (hb hby d6_78) rfl (XS.iconst X29.here hx rfl (hb hby d6_79) (XS.idiv X29.here hx rfl (hb hby d6_80) rfl (by decide) (XS.istoreN X29.here hx rfl (hb hby d6_81) rfl (l' := #[.val (.ref a1), .val (.long q1), .second, .val (.int (0 : Int32))]) rfl k)))))) ?_
      show GoW p e below QQ (T29.setTop (mkF m 82 #[.val (.ref a1), .val (.long q1), .second, .val (.int (0 : Int32))] []))
      refine GoW.st (fun t k => XS.goto X29.here hx rfl (pc0 := 82) (pc' := 41) rfl (hb hby d6_82) (by decide) (by decide) (XS.iloadN X29.here hx rfl (hb hby d6_41) rfl k)) ?_
      show GoW p e below QQ (T29.setTop (mkF m 42 #[.val (.ref a1), .val (.long q1), .second, .val (.int (0 : Int32))] [(.int (0 : Int32))]))
      have hc42_2 : ¬ ((0 : Int32) < (0 : Int32)) := by decide
      refine GoW.st (fun t k => XS.ifYes X29.here hx rfl (pc0 := 42) (pc' := 85) rfl (hb hby d6_42) rfl ((if0 _ _).trans (flt hc42_2).2.2.2) (by decide) (by decide) (XS.aloadN X29.here hx rfl (hb hby d6_85) rfl rfl k)) ?_
      show GoW p e below QQ (T29.setTop (mkF m 86 #[.val (.ref a1), .val (.long q1), .second, .val (.int (0 : Int32))] [(.ref a1)]))
      obtain ⟨T31, X31, e31, st31⟩ := getF X29 hx hZ hown (host := "") (Or.inl (hw _ (List.mem_of_getElem? (i := 20) rfl))) Via.refl e29 f30_F_a1_values (g := (mkF m 86 #[.val (.ref a1), .val (.long q1), .second, .val (.int (0 : Int32))] [(.ref a1)])) rfl rfl (hb hby d6_86)
      refine GoW.st st31 ?_
      show GoW p e below QQ (T31.setTop (mkF m 89 #[.val (.ref a1), .val (.long q1), .second, .val (.int (0 : Int32))] [(.ref a2)]))
      refine GoW.st (fun t k => XS.iloadN X31.here hx rfl (hb hby d6_89) rfl (XS.lloadN X31.here hx rfl (hb hby d6_90) rfl k)) ?_
      show GoW p e below QQ (T31.setTop (mkF m 91 #[.val (.ref a1), .val (.long q1), .second, .val (.int (0 : Int32))] [(.long q1), (.int (0 : Int32)), (.ref a2)]))
      obtain ⟨T32, h32, X32, e32, W32, V32, st32⟩ := stVJ X31 hx hZ e31 f30_V_a2 ⟨by decide, own_lt_of (by omega)⟩ 0 rfl (Nat.le_of_ble_eq_true rfl) (g := (mkF m 91 #[.val (.ref a1), .val (.long q1), .second, .val (.int (0 : Int32))] [(.long q1), (.int (0 : Int32)), (.ref a2)])) rfl rfl (hb hby d6_91)
      refine GoW.st st32 ?_
      have f33_E_a1 : Exa Z h32 a1 "com/example/eunomia/eunomia/sticky/LongHeap" := f30_E_a1.wr W32
      have f33_F_a1_values : Fld Z h32 a1 "com/example/eunomia/eunomia/sticky/LongHeap" "values" "[J" (.ref a2) := f30_F_a1_values.other W32 (Or.inl (Ne.symm pre_a2_a1))
      have f33_F_a1_size : Fld Z h32 a1 "com/example/eunomia/eunomia/sticky/LongHeap" "size" "I" (.int (3 : Int32)) := f30_F_a1_size.other W32 (Or.inl (Ne.symm pre_a2_a1))
      have f33_V_a2 : Arv Z h32 a2 ka .long z [(.long q1), (.long vb), (.long va), (.long vd)] (.long (0 : Int64)) := V32
      have K32 : Keep h0 h32 [a1, a2] := K29.wr W32 (Or.inl (List.mem_of_getElem? (i := 1) rfl))
      have N32 := Fr.snoc X32 N29 pre_g_a2
      show GoW p e below QQ (T32.setTop (mkF m 92 #[.val (.ref a1), .val (.long q1), .second, .val (.int (0 : Int32))] []))
      exact GoW.fin X32 none (fun _ => rfl) hlk hQ e32 ⟨a2, ka, z, q1, vb, va, vd, rfl, N32, K32, f33_E_a1, f33_F_a1_values, f33_F_a1_size, pre_g_a2, pre_a2_a1, f33_V_a2, (by omega), (fun f => by omega), (by omega)⟩ (by decide) (by decide) (fun fs hr => X32.returnOut hx hret (hb hby d6_92) hr)
    · skip
      refine GoW.st (fun t k => XS.ifYes X26.here hx rfl (pc0 := 57) (pc' := 85) rfl (hb hby d6_57) rfl ((if0 _ _).trans (flt (fun q => hc57 ((lw_lt q1 va).mp q))).2.1) (by decide) (by decide) k) ?_
      show GoW p e below QQ (T26.setTop (mkF m 85 #[.val (.ref a1), .val (.long q1), .second, .val (.int (2 : Int32))] []))
      have hi57 : ¬ (q1.toInt < va.toInt) := (fun q => hc57 (Int64.lt_iff_toInt_lt.mpr q))
      refine GoW.st (fun t k => XS.aloadN X26.here hx rfl (hb hby d6_85) rfl rfl k) ?_
      show GoW p e below QQ (T26.setTop (mkF m 86 #[.val (.ref a1), .val (.long q1), .second, .val (.int (2 : Int32))] [(.ref a1)]))
      obtain ⟨T34, X34, e34, st34⟩ := getF X26 hx hZ hown (host := "") (Or.inl (hw _ (List.mem_of_getElem? (i := 20) rfl))) Via.refl e26 f25_F_a1_values (g := (mkF m 86 #[.val (.ref a1), .val (.long q1), .second, .val (.int (2 : Int32))] [(.ref a1)])) rfl rfl (hb hby d6_86)
      refine GoW.st st34 ?_
      show GoW p e below QQ (T34.setTop (mkF m 89 #[.val (.ref a1), .val (.long q1), .second, .val (.int (2 : Int32))] [(.ref a2)]))
      refine GoW.st (fun t k => XS.iloadN X34.here hx rfl (hb hby d6_89) rfl (XS.lloadN X34.here hx rfl (hb hby d6_90) rfl k)) ?_
      show GoW p e below QQ (T34.setTop (mkF m 91 #[.val (.ref a1), .val (.long q1), .second, .val (.int (2 : Int32))] [(.long q1), (.int (2 : Int32)), (.ref a2)]))
      obtain ⟨T35, h35, X35, e35, W35, V35, st35⟩ := stVJ X34 hx hZ e34 f25_V_a2 ⟨by decide, own_lt_of (by omega)⟩ 2 rfl (Nat.le_of_ble_eq_true rfl) (g := (mkF m 91 #[.val (.ref a1), .val (.long q1), .second, .val (.int (2 : Int32))] [(.long q1), (.int (2 : Int32)), (.ref a2)])) rfl rfl (hb hby d6_91)
      refine GoW.st st35 ?_
      have f36_E_a1 : Exa Z h35 a1 "com/example/eunomia/eunomia/sticky/LongHeap" := f25_E_a1.wr W35
      have f36_F_a1_values : Fld Z h35 a1 "com/example/eunomia/eunomia/sticky/LongHeap" "values" "[J" (.ref a2) := f25_F_a1_values.other W35 (Or.inl (Ne.symm pre_a2_a1))
      have f36_F_a1_size : Fld Z h35 a1 "com/example/eunomia/eunomia/sticky/LongHeap" "size" "I" (.int (3 : Int32)) := f25_F_a1_size.other W35 (Or.inl (Ne.symm pre_a2_a1))
      have f36_V_a2 : Arv Z h35 a2 ka .long z [(.long va), (.long vb), (.long q1), (.long vd)] (.long (0 : Int64)) := V35
      have K35 : Keep h0 h35 [a1, a2] := K24.wr W35 (Or.inl (List.mem_of_getElem? (i := 1) rfl))
      have N35 := Fr.snoc X35 N24 pre_g_a2
      show GoW p e below QQ (T35.setTop (mkF m 92 #[.val (.ref a1), .val (.long q1), .second, .val (.int (2 : Int32))] []))
      exact GoW.fin X35 none (fun _ => rfl) hlk hQ e35 ⟨a2, ka, z, va, vb, q1, vd, rfl, N35, K35, f36_E_a1, f36_F_a1_values, f36_F_a1_size, pre_g_a2, pre_a2_a1, f36_V_a2, (by omega), (fun f => by omega), (by omega)⟩ (by decide) (by decide) (fun fs hr => X35.returnOut hx hret (hb hby d6_92) hr)
def RM6_3 : Room := { frames := 2, cells := 1, slots := 6, locals := 79 }
def Q6_3 (Z : State) (a1 : Addr) (q1 : Int64) (a2 : Addr) (ka : ClassId) (z : Int32) (va : Int64) (vb : Int64) (vc : Int64) (vd : Int64) (h0 : Heap) (n0 : Nat) (v : Option Value) (h : Heap) (L : List Loc) : Prop := ∃ (b : Addr) (kb : ClassId) (zz : Int32) (wa : Int64) (wb : Int64) (wc : Int64) (wd : Int64), v = none ∧ Fr n0 L ∧ Keep h0 h [a1, a2] ∧ (Exa Z h a1 "com/example/eunomia/eunomia/sticky/LongHeap") ∧ (Fld Z h a1 "com/example/eunomia/eunomia/sticky/LongHeap" "values" "[J" (.ref b)) ∧ (Fld Z h a1 "com/example/eunomia/eunomia/sticky/LongHeap" "size" "I" (.int (4 : Int32))) ∧ (n0 ≤ b) ∧ (b ≠ a1) ∧ (Arv Z h b kb .long zz [(.long wa), (.long wb), (.long wc), (.long wd)] (.long (0 : Int64))) ∧ (1 ≤ zz.toInt ∧ 4 ≤ zz.toInt ∧ zz.toInt ≤ 8) ∧ (∀ f : Int64 → Int, f wa + f wb + f wc + f wd = f va + f vb + f vc + f q1) ∧ (wa.toInt ≤ wb.toInt ∧ wa.toInt ≤ wc.toInt ∧ wb.toInt ≤ wd.toInt)
set_option maxRecDepth 65536 in
set_option maxHeartbeats 40000000 in
theorem rm6_3 (l : Launch) (Z : State) (a0 : Array Value) (hw : ∀ d ∈ tables_1, d.before a0 Z = true) (ws : List Jvm.Cond) (a1 : Addr) (q1 : Int64) (a2 : Addr) (ka : ClassId) (z : Int32) (va : Int64) (vb : Int64) (vc : Int64) (vd : Int64) (h0 : Heap) (n0 : Nat) (Z0 : n0 ≤ h0.size) (pre_E_a1 : Exa Z h0 a1 "com/example/eunomia/eunomia/sticky/LongHeap") (pre_g_a1 : n0 ≤ a1) (pre_g_a2 : n0 ≤ a2) (pre_a2_a1 : a2 ≠ a1) (pre_F_a1_values : Fld Z h0 a1 "com/example/eunomia/eunomia/sticky/LongHeap" "values" "[J" (.ref a2)) (pre_F_a1_size : Fld Z h0 a1 "com/example/eunomia/eunomia/sticky/LongHeap" "size" "I" (.int (3 : Int32))) (pre_V_a2 : Arv Z h0 a2 ka .long z [(.long va), (.long vb), (.long vc), (.long vd)] (.long (0 : Int64))) (hz : 1 ≤ z.toInt ∧ 3 ≤ z.toInt ∧ z.toInt ≤ 8) (ho : va.toInt ≤ vb.toInt ∧ va.toInt ≤ vc.toInt) :
    MetFree l (⟨"com/example/eunomia/eunomia/sticky/LongHeap", "add", "(J)V"⟩ : MethodName) (head1 (Jvm.Cond.code (⟨"com/example/eunomia/eunomia/sticky/LongHeap", "add", "(J)V"⟩ : MethodName) prog_40_method_4_code 4 none :: ws) RM6_3) (fun a U => a = #[(.ref a1), (.long q1)] ∧ Z.Warmed39 U.vm ∧ U.heap = h0) (fun _ _ _ _ _ => True) (fun _ U o U' => ∃ v L, o = .returned v ∧ Q6_3 Z a1 q1 a2 ka z va vb vc vd h0 n0 v U'.heap L ∧ FrameEnd U o U' L RM6_3.cells RM6_3.slots) := by
  refine met_of (Q := fun v h L => Q6_3 Z a1 q1 a2 ka z va vb vc vd h0 n0 v h L) (plainFor_of_name pn_0) (fun m => by first | (simp [entryFrame, mkF, argsToLocals, Value.category]; done) | rfl) (Ls := #[.val (.ref a1), .val (.long q1), .second, .unset]) ?_
  intro p e s m below meth c T0 QQ hx hZ hby hml hown hnm hret hlk X0 e0 hQ
  have hml : c.maxLocals = 4 := hml
  have hown : s.vm.findClass "com/example/eunomia/eunomia/sticky/LongHeap" = some m.cls := hown
  have hnm : meth.name = "add" := hnm
  have hret : meth.sig.returnType = none := hret
  have N0 := Fr.nil n0
  have K0 : Keep h0 h0 [a1, a2] := Keep.refl h0 _
  show GoW p e below QQ (T0.setTop (mkF m 0 #[.val (.ref a1), .val (.long q1), .second, .unset] []))
  have z0 : (0 : Int32).toInt = 0 := rfl
  have z1 : (1 : Int32).toInt = 1 := rfl
  have z2 : (2 : Int32).toInt = 2 := rfl
  have z3 : (3 : Int32).toInt = 3 := rfl
  have z4 : (4 : Int32).toInt = 4 := rfl
  have z6 : (6 : Int32).toInt = 6 := rfl
  refine GoW.st (fun t k => XS.aloadN X0.here hx rfl (hb hby d6_0) rfl rfl k) ?_
  show GoW p e below QQ (T0.setTop (mkF m 1 #[.val (.ref a1), .val (.long q1), .second, .unset] [(.ref a1)]))
  obtain ⟨T1, X1, e1, st1⟩ := getF X0 hx hZ hown (host := "") (Or.inl (hw _ (List.mem_of_getElem? (i := 27) rfl))) Via.refl e0 pre_F_a1_size (g := (mkF m 1 #[.val (.ref a1), .val (.long q1), .second, .unset] [(.ref a1)])) rfl rfl (hb hby d6_1)
  refine GoW.st st1 ?_
  show GoW p e below QQ (T1.setTop (mkF m 4 #[.val (.ref a1), .val (.long q1), .second, .unset] [(.int (3 : Int32))]))
  refine GoW.st (fun t k => XS.aloadN X1.here hx rfl (hb hby d6_4) rfl rfl k) ?_
  show GoW p e below QQ (T1.setTop (mkF m 5 #[.val (.ref a1), .val (.long q1), .second, .unset] [(.ref a1), (.int (3 : Int32))]))
  obtain ⟨T2, X2, e2, st2⟩ := getF X1 hx hZ hown (host := "") (Or.inl (hw _ (List.mem_of_getElem? (i := 20) rfl))) Via.refl e1 pre_F_a1_values (g := (mkF m 5 #[.val (.ref a1), .val (.long q1), .second, .unset] [(.ref a1), (.int (3 : Int32))])) rfl rfl (hb hby d6_5)
  refine GoW.st st2 ?_
  show GoW p e below QQ (T2.setTop (mkF m 8 #[.val (.ref a1), .val (.long q1), .second, .unset] [(.ref a2), (.int (3 : Int32))]))
  refine GoW.st (fun t k => lnV X2 hx hZ e2 pre_V_a2 (g := (mkF m 8 #[.val (.ref a1), .val (.long q1), .second, .unset] [(.ref a2), (.int (3 : Int32))])) rfl rfl (hb hby d6_8) t k) ?_
  show GoW p e below QQ (T2.setTop (mkF m 9 #[.val (.ref a1), .val (.long q1), .second, .unset] [(.int z), (.int (3 : Int32))]))
  by_cases hc9 : (3 : Int32) = z
  · skip
    refine GoW.st (fun t k => XS.icmpNo X2.here hx rfl (hb hby d6_9) rfl (teq hc9).2 k) ?_
    show GoW p e below QQ (T2.setTop (mkF m 12 #[.val (.ref a1), .val (.long q1), .second, .unset] []))
    have hi9 : 3 = z.toInt := (congrArg Int32.toInt hc9)
    subst hc9
    refine GoW.st (fun t k => XS.aloadN X2.here hx rfl (hb hby d6_12) rfl rfl (XS.aloadN X2.here hx rfl (hb hby d6_13) rfl rfl k)) ?_
    show GoW p e below QQ (T2.setTop (mkF m 14 #[.val (.ref a1), .val (.long q1), .second, .unset] [(.ref a1), (.ref a1)]))
    obtain ⟨T3, X3, e3, st3⟩ := getF X2 hx hZ hown (host := "") (Or.inl (hw _ (List.mem_of_getElem? (i := 20) rfl))) Via.refl e2 pre_F_a1_values (g := (mkF m 14 #[.val (.ref a1), .val (.long q1), .second, .unset] [(.ref a1), (.ref a1)])) rfl rfl (hb hby d6_14)
    refine GoW.st st3 ?_
    show GoW p e below QQ (T3.setTop (mkF m 17 #[.val (.ref a1), .val (.long q1), .second, .unset] [(.ref a2), (.ref a1)]))
    refine GoW.st (fun t k => XS.iconst X3.here hx rfl (hb hby d6_17) (XS.aloadN X3.here hx rfl (hb hby d6_18) rfl rfl k)) ?_
    show GoW p e below QQ (T3.setTop (mkF m 19 #[.val (.ref a1), .val (.long q1), .second, .unset] [(.ref a1), (.int (2 : Int32)), (.ref a2), (.ref a1)]))
    obtain ⟨T4, X4, e4, st4⟩ := getF X3 hx hZ hown (host := "") (Or.inl (hw _ (List.mem_of_getElem? (i := 27) rfl))) Via.refl e3 pre_F_a1_size (g := (mkF m 19 #[.val (.ref a1), .val (.long q1), .second, .unset] [(.ref a1), (.int (2 : Int32)), (.ref a2), (.ref a1)])) rfl rfl (hb hby d6_19)
    refine GoW.st st4 ?_
    show GoW p e below QQ (T4.setTop (mkF m 22 #[.val (.ref a1), .val (.long q1), .second, .unset] [(.int (3 : Int32)), (.int (2 : Int32)), (.ref a2), (.ref a1)]))
    refine GoW.st (fun t k => XS.imul X4.here hx rfl (hb hby d6_22) rfl k) ?_
    show GoW p e below QQ (T4.setTop (mkF m 23 #[.val (.ref a1), .val (.long q1), .second, .unset] [(.int (6 : Int32)), (.ref a2), (.ref a1)]))
    obtain ⟨_, _, ⟨T5, zL5, zk5, zn5⟩, -, X5, ⟨Lc5, hQ5, zl5, zy5, zz5⟩, st5⟩ := Jvm.LawKit.callS X4 hx (y := (⟨"java/util/Arrays", "copyOf", "([JI)[J"⟩ : MethodName)) hown (mvT hZ (hw _ (List.mem_of_getElem? (i := 29) rfl))) (mvT hZ (hw _ (List.mem_of_getElem? (i := 30) rfl))) (mvT hZ (hw _ (List.mem_of_getElem? (i := 31) rfl))) (mvT hZ (hw _ (List.mem_of_getElem? (i := 32) rfl))) (by decide) (backOf (W := 1) (rm7_3 l Z a0 hw [] a2 ka va vb vc vd h0 n0 (Nat.le_trans Z0 K0.1) pre_V_a2) hZ (hw _ (List.mem_of_getElem? (i := 32) rfl)) (hw _ (List.mem_of_getElem? (i := 31) rfl)) (by decide) (by decide)) (g := (mkF m 23 #[.val (.ref a1), .val (.long q1), .second, .unset] [(.int (6 : Int32)), (.ref a2), (.ref a1)])) rfl (by rw [hml]; rfl) (argsL := [(.ref a2), (.int (6 : Int32))]) (rest := [(.ref a1)]) (lenOf pd_1 rfl) rfl (by show 2 * 0 + _ ≤ _; exact Nat.le_of_eq rfl) (hb hby d6_23) (fun _ _ => ⟨rfl, e4, (by decide : 0 + 1 ≤ _), (by decide : 0 + 6 ≤ _)⟩)
    dsimp only [Pt.U, Pt.locs, Pt.cells, Pt.slots] at X5 zl5 zy5 zz5 st5 hQ5
    subst zl5 zy5 zz5
    obtain ⟨b_23, kb_23, rfl, Nq5, Kq5, p5_0, p5_1⟩ := hQ5
    have N5 := Fr.app N0 Nq5
    refine GoW.st st5 ?_
    have ne5_a1_b_23 : a1 ≠ b_23 := Nat.ne_of_lt (Nat.lt_of_lt_of_le pre_E_a1.lt p5_0)
    have ne5_a2_b_23 : a2 ≠ b_23 := Nat.ne_of_lt (Nat.lt_of_lt_of_le pre_V_a2.lt p5_0)
    have sz5_b_23 : h0.size ≤ b_23 := Nat.le_trans K0.1 p5_0
    have gg5_b_23 : n0 ≤ b_23 := Nat.le_trans Z0 sz5_b_23
    have f6_E_a1 : Exa Z T5.heap a1 "com/example/eunomia/eunomia/sticky/LongHeap" := pre_E_a1.keep Kq5
    have f6_F_a1_values : Fld Z T5.heap a1 "com/example/eunomia/eunomia/sticky/LongHeap" "values" "[J" (.ref a2) := pre_F_a1_values.keep Kq5 nin0
    have f6_F_a1_size : Fld Z T5.heap a1 "com/example/eunomia/eunomia/sticky/LongHeap" "size" "I" (.int (3 : Int32)) := pre_F_a1_size.keep Kq5 nin0
    have f6_V_a2 : Arv Z T5.heap a2 ka .long (3 : Int32) [(.long va), (.long vb), (.long vc), (.long vd)] (.long (0 : Int64)) := pre_V_a2.keep Kq5 nin0
    have K5 : Keep h0 T5.heap [a1, a2] := K0.trans Kq5 all0
    show GoW p e below QQ (T5.setTop (mkF m 26 #[.val (.ref a1), .val (.long q1), .second, .unset] [(.ref b_23), (.ref a1)]))
    obtain ⟨T7, h7, X7, e7, W7, st7⟩ := putF X5 hx hZ hown (host := "") (Or.inl (hw _ (List.mem_of_getElem? (i := 20) rfl))) Via.refl rfl f6_F_a1_values f6_E_a1 (Or.inl (hw _ (List.mem_of_getElem? (i := 21) rfl))) (hw _ (List.mem_of_getElem? (i := 8) rfl)) (ty := (.array .long)) (by decide) rfl rfl (g := (mkF m 26 #[.val (.ref a1), .val (.long q1), .second, .unset] [(.ref b_23), (.ref a1)])) rfl rfl (hb hby d6_26)
    refine GoW.st st7 ?_
    have f8_E_a1 : Exa Z h7 a1 "com/example/eunomia/eunomia/sticky/LongHeap" := f6_E_a1.wr W7
    have f8_F_a1_values : Fld Z h7 a1 "com/example/eunomia/eunomia/sticky/LongHeap" "values" "[J" (.ref b_23) := f6_F_a1_values.same W7
    have f8_F_a1_size : Fld Z h7 a1 "com/example/eunomia/eunomia/sticky/LongHeap" "size" "I" (.int (3 : Int32)) := f6_F_a1_size.other W7 (Or.inr (slot_ne (Or.inl (hw _ (List.mem_of_getElem? (i := 28) rfl))) (Or.inl (hw _ (List.mem_of_getElem? (i := 21) rfl))) (by decide) (t := .int) (t' := (.array .long)) (by decide) (by decide)))
    have f8_V_a2 : Arv Z h7 a2 ka .long (3 : Int32) [(.long va), (.long vb), (.long vc), (.long vd)] (.long (0 : Int64)) := f6_V_a2.other W7 pre_a2_a1
    have f8_V_b_23 : Arv Z h7 b_23 kb_23 .long (6 : Int32) [(.long va), (.long vb), (.long vc), (.long (0 : Int64))] (.long (0 : Int64)) := p5_1.other W7 (Ne.symm ne5_a1_b_23)
    have K7 : Keep h0 h7 [a1, a2] := K5.wr W7 (Or.inl (List.mem_of_getElem? (i := 0) rfl))
    have N7 := Fr.snoc X7 N5 pre_g_a1
    show GoW p e below QQ (T7.setTop (mkF m 29 #[.val (.ref a1), .val (.long q1), .second, .unset] []))
    refine GoW.st (fun t k => XS.aloadN X7.here hx rfl (hb hby d6_29) rfl rfl (XS.dup X7.here hx rfl (hb hby d6_30) rfl rfl k)) ?_
    show GoW p e below QQ (T7.setTop (mkF m 31 #[.val (.ref a1), .val (.long q1), .second, .unset] [(.ref a1), (.ref a1)]))
    obtain ⟨T9, X9, e9, st9⟩ := getF X7 hx hZ hown (host := "") (Or.inl (hw _ (List.mem_of_getElem? (i := 27) rfl))) Via.refl e7 f8_F_a1_size (g := (mkF m 31 #[.val (.ref a1), .val (.long q1), .second, .unset] [(.ref a1), (.ref a1)])) rfl rfl (hb hby d6_31)
    refine GoW.st st9 ?_
    show GoW p e below QQ (T9.setTop (mkF m 34 #[.val (.ref a1), .val (.long q1), .second, .unset] [(.int (3 : Int32)), (.ref a1)]))
    refine GoW.st (fun t k => XS.dupX1 X9.here hx rfl (hb hby d6_34) rfl rfl rfl (XS.iconst X9.here hx rfl (hb hby d6_35) (XS.iadd X9.here hx rfl (hb hby d6_36) rfl k))) ?_
    show GoW p e below QQ (T9.setTop (mkF m 37 #[.val (.ref a1), .val (.long q1), .second, .unset] [(.int (4 : Int32)), (.ref a1), (.int (3 : Int32))]))
    obtain ⟨T10, h10, X10, e10, W10, st10⟩ := putF X9 hx hZ hown (host := "") (Or.inl (hw _ (List.mem_of_getElem? (i := 27) rfl))) Via.refl e9 f8_F_a1_size f8_E_a1 (Or.inl (hw _ (List.mem_of_getElem? (i := 28) rfl))) (hw _ (List.mem_of_getElem? (i := 8) rfl)) (ty := .int) (by decide) rfl rfl (g := (mkF m 37 #[.val (.ref a1), .val (.long q1), .second, .unset] [(.int (4 : Int32)), (.ref a1), (.int (3 : Int32))])) rfl rfl (hb hby d6_37)
    refine GoW.st st10 ?_
    have f11_E_a1 : Exa Z h10 a1 "com/example/eunomia/eunomia/sticky/LongHeap" := f8_E_a1.wr W10
    have f11_F_a1_values : Fld Z h10 a1 "com/example/eunomia/eunomia/sticky/LongHeap" "values" "[J" (.ref b_23) := f8_F_a1_values.other W10 (Or.inr (slot_ne (Or.inl (hw _ (List.mem_of_getElem? (i := 21) rfl))) (Or.inl (hw _ (List.mem_of_getElem? (i := 28) rfl))) (by decide) (t := (.array .long)) (t' := .int) (by decide) (by decide)))
    have f11_F_a1_size : Fld Z h10 a1 "com/example/eunomia/eunomia/sticky/LongHeap" "size" "I" (.int (4 : Int32)) := f8_F_a1_size.same W10
    have f11_V_b_23 : Arv Z h10 b_23 kb_23 .long (6 : Int32) [(.long va), (.long vb), (.long vc), (.long (0 : Int64))] (.long (0 : Int64)) := f8_V_b_23.other W10 (Ne.symm ne5_a1_b_23)
    have K10 : Keep h0 h10 [a1, a2] := K7.wr W10 (Or.inl (List.mem_of_getElem? (i := 0) rfl))
    have N10 := Fr.snoc X10 N7 pre_g_a1
    show GoW p e below QQ (T10.setTop (mkF m 40 #[.val (.ref a1), .val (.long q1), .second, .unset] [(.int (3 : Int32))]))
    refine GoW.st (fun t k => XS.istoreN X10.here hx rfl (hb hby d6_40) rfl (l' := #[.val (.ref a1), .val (.long q1), .second, .val (.int (3 : Int32))]) rfl (XS.iloadN X10.here hx rfl (hb hby d6_41) rfl k)) ?_
    show GoW p e below QQ (T10.setTop (mkF m 42 #[.val (.ref a1), .val (.long q1), .second, .val (.int (3 : Int32))] [(.int (3 : Int32))]))
    have hc42 : (0 : Int32) < (3 : Int32) := by decide
    refine GoW.st (fun t k => XS.ifNo X10.here hx rfl (hb hby d6_42) rfl ((if0 _ _).trans (tlt hc42).2.2.2) (XS.lloadN X10.here hx rfl (hb hby d6_45) rfl (XS.aloadN X10.here hx rfl (hb hby d6_46) rfl rfl k))) ?_
    show GoW p e below QQ (T10.setTop (mkF m 47 #[.val (.ref a1), .val (.long q1), .second, .val (.int (3 : Int32))] [(.ref a1), (.long q1)]))
    obtain ⟨T12, X12, e12, st12⟩ := getF X10 hx hZ hown (host := "") (Or.inl (hw _ (List.mem_of_getElem? (i := 20) rfl))) Via.refl e10 f11_F_a1_values (g := (mkF m 47 #[.val (.ref a1), .val (.long q1), .second, .val (.int (3 : Int32))] [(.ref a1), (.long q1)])) rfl rfl (hb hby d6_47)
    refine GoW.st st12 ?_
    show GoW p e below QQ (T12.setTop (mkF m 50 #[.val (.ref a1), .val (.long q1), .second, .val (.int (3 : Int32))] [(.ref b_23), (.long q1)]))
    refine GoW.st (fun t k => XS.iloadN X12.here hx rfl (hb hby d6_50) rfl (XS.iconst X12.here hx rfl (hb hby d6_51) (XS.isub X12.here hx rfl (hb hby d6_52) rfl (XS.iconst X12.here hx rfl (hb hby d6_53) (XS.idiv X12.here hx rfl (hb hby d6_54) rfl (by decide) (ldVJ X12 hx hZ e12 f11_V_b_23 (v := (.long vb)) ⟨by decide, by decide⟩ rfl (g := (mkF m 55 #[.val (.ref a1), .val (.long q1), .second, .val (.int (3 : Int32))] [(.int (1 : Int32)), (.ref b_23), (.long q1)])) rfl rfl (hb hby d6_55) t k)))))) ?_
    show GoW p e below QQ (T12.setTop (mkF m 56 #[.val (.ref a1), .val (.long q1), .second, .val (.int (3 : Int32))] [(.long vb), (.long q1)]))
    refine GoW.st (fun t k => XS.lcmp X12.here hx rfl (hb hby d6_56) rfl k) ?_
    show GoW p e below QQ (T12.setTop (mkF m 57 #[.val (.ref a1), .val (.long q1), .second, .val (.int (3 : Int32))] [(.int (lcmpW q1 vb))]))
    by_cases hc57 : q1 < vb
    · skip
      refine GoW.st (fun t k => XS.ifNo X12.here hx rfl (hb hby d6_57) rfl ((if0 _ _).trans (tlt ((lw_lt q1 vb).mpr hc57)).2.1) k) ?_
      show GoW p e below QQ (T12.setTop (mkF m 60 #[.val (.ref a1), .val (.long q1), .second, .val (.int (3 : Int32))] []))
      have hi57 : q1.toInt < vb.toInt := (Int64.lt_iff_toInt_lt.mp hc57)
      refine GoW.st (fun t k => XS.aloadN X12.here hx rfl (hb hby d6_60) rfl rfl k) ?_
      show GoW p e below QQ (T12.setTop (mkF m 61 #[.val (.ref a1), .val (.long q1), .second, .val (.int (3 : Int32))] [(.ref a1)]))
      obtain ⟨T13, X13, e13, st13⟩ := getF X12 hx hZ hown (host := "") (Or.inl (hw _ (List.mem_of_getElem? (i := 20) rfl))) Via.refl e12 f11_F_a1_values (g := (mkF m 61 #[.val (.ref a1), .val (.long q1), .second, .val (.int (3 : Int32))] [(.ref a1)])) rfl rfl (hb hby d6_61)
      refine GoW.st st13 ?_
      show GoW p e below QQ (T13.setTop (mkF m 64 #[.val (.ref a1), .val (.long q1), .second, .val (.int (3 : Int32))] [(.ref b_23)]))
      refine GoW.st (fun t k => XS.iloadN X13.here hx rfl (hb hby d6_64) rfl (XS.aloadN X13.here hx rfl (hb hby d6_65) rfl rfl k)) ?_
      show GoW p e below QQ (T13.setTop (mkF m 66 #[.val (.ref a1), .val (.long q1), .second, .val (.int (3 : Int32))] [(.ref a1), (.int (3 : Int32)), (.ref b_23)]))
      obtain ⟨T14, X14, e14, st14⟩ := getF X13 hx hZ hown (host := "") (Or.inl (hw _ (List.mem_of_getElem? (i := 20) rfl))) Via.refl e13 f11_F_a1_values (g := (mkF m 66 #[.val (.ref a1), .val (.long q1), .second, .val (.int (3 : Int32))] [(.ref a1), (.int (3 : Int32)), (.ref b_23)])) rfl rfl (hb hby d6_66)
      refine GoW.st st14 ?_
      show GoW p e below QQ (T14.setTop (mkF m 69 #[.val (.ref a1), .val (.long q1), .second, .val (.int (3 : Int32))] [(.ref b_23), (.int (3 : Int32)), (.ref b_23)]))
      refine GoW.st (fun t k => XS.iloadN X14.here hx rfl (hb hby d6_69) rfl (XS.iconst X14.here hx rfl (hb hby d6_70) (XS.isub X14.here hx rfl (hb hby d6_71) rfl (XS.iconst X14.here hx rfl (hb hby d6_72) (XS.idiv X14.here hx rfl (hb hby d6_73) rfl (by decide) (ldVJ X14 hx hZ e14 f11_V_b_23 (v := (.long vb)) ⟨by decide, by decide⟩ rfl (g := (mkF m 74 #[.val (.ref a1), .val (.long q1), .second, .val (.int (3 : Int32))] [(.int (1 : Int32)), (.ref b_23), (.int (3 : Int32)), (.ref b_23)])) rfl rfl (hb hby d6_74) t k)))))) ?_
      show GoW p e below QQ (T14.setTop (mkF m 75 #[.val (.ref a1), .val (.long q1), .second, .val (.int (3 : Int32))] [(.long vb), (.int (3 : Int32)), (.ref b_23)]))
      obtain ⟨T15, h15, X15, e15, W15, V15, st15⟩ := stVJ X14 hx hZ e14 f11_V_b_23 ⟨by decide, by decide⟩ 3 rfl (Nat.le_of_ble_eq_true rfl) (g := (mkF m 75 #[.val (.ref a1), .val (.long q1), .second, .val (.int (3 : Int32))] [(.long vb), (.int (3 : Int32)), (.ref b_23)])) rfl rfl (hb hby d6_75)
      refine GoW.st st15 ?_
      have f16_E_a1 : Exa Z h15 a1 "com/example/eunomia/eunomia/sticky/LongHeap" := f11_E_a1.wr W15
      have f16_F_a1_values : Fld Z h15 a1 "com/example/eunomia/eunomia/sticky/LongHeap" "values" "[J" (.ref b_23) := f11_F_a1_values.other W15 (Or.inl ne5_a1_b_23)
      have f16_F_a1_size : Fld Z h15 a1 "com/example/eunomia/eunomia/sticky/LongHeap" "size" "I" (.int (4 : Int32)) := f11_F_a1_size.other W15 (Or.inl ne5_a1_b_23)
      have f16_V_b_23 : Arv Z h15 b_23 kb_23 .long (6 : Int32) [(.long va), (.long vb), (.long vc), (.long vb)] (.long (0 : Int64)) := V15
      have K15 : Keep h0 h15 [a1, a2] := K10.wr W15 (Or.inr sz5_b_23)
      have N15 := Fr.snoc X15 N10 gg5_b_23
      show GoW p e below QQ (T15.setTop (mkF m 76 #[.val (.ref a1), .val (.long q1), .second, .val (.int (3 : Int32))] []))
      refine GoW.st (fun t k => XS.iloadN X15.here hx rfl (hb hby d6_76) rfl (XS.iconst X15.here hx rfl (hb hby d6_77) (XS.isub X15.here hx rfl (hb hby d6_78) rfl (XS.iconst X15.here hx rfl (hb hby d6_79) (XS.idiv X15.here hx rfl (hb hby d6_80) rfl (by decide) (XS.istoreN X15.here hx rfl (hb hby d6_81) rfl (l' := #[.val (.ref a1), .val (.long q1), .second, .val (.int (1 : Int32))]) rfl k)))))) ?_
      show GoW p e below QQ (T15.setTop (mkF m 82 #[.val (.ref a1), .val (.long q1), .second, .val (.int (1 : Int32))] []))
      refine GoW.st (fun t k => XS.goto X15.here hx rfl (pc0 := 82) (pc' := 41) rfl (hb hby d6_82) (by decide) (by decide) (XS.iloadN X15.here hx rfl (hb hby d6_41) rfl k)) ?_
      show GoW p e below QQ (T15.setTop (mkF m 42 #[.val (.ref a1), .val (.long q1), .second, .val (.int (1 : Int32))] [(.int (1 : Int32))]))
      have hc42_2 : (0 : Int32) < (1 : Int32) := by decide
      refine GoW.st (fun t k => XS.ifNo X15.here hx rfl (hb hby d6_42) rfl ((if0 _ _).trans (tlt hc42_2).2.2.2) (XS.lloadN X15.here hx rfl (hb hby d6_45) rfl (XS.aloadN X15.here hx rfl (hb hby d6_46) rfl rfl k))) ?_
      show GoW p e below QQ (T15.setTop (mkF m 47 #[.val (.ref a1), .val (.long q1), .second, .val (.int (1 : Int32))] [(.ref a1), (.long q1)]))
      obtain ⟨T17, X17, e17, st17⟩ := getF X15 hx hZ hown (host := "") (Or.inl (hw _ (List.mem_of_getElem? (i := 20) rfl))) Via.refl e15 f16_F_a1_values (g := (mkF m 47 #[.val (.ref a1), .val (.long q1), .second, .val (.int (1 : Int32))] [(.ref a1), (.long q1)])) rfl rfl (hb hby d6_47)
      refine GoW.st st17 ?_
      show GoW p e below QQ (T17.setTop (mkF m 50 #[.val (.ref a1), .val (.long q1), .second, .val (.int (1 : Int32))] [(.ref b_23), (.long q1)]))
      refine GoW.st (fun t k => XS.iloadN X17.here hx rfl (hb hby d6_50) rfl (XS.iconst X17.here hx rfl (hb hby d6_51) (XS.isub X17.here hx rfl (hb hby d6_52) rfl (XS.iconst X17.here hx rfl (hb hby d6_53) (XS.idiv X17.here hx rfl (hb hby d6_54) rfl (by decide) (ldVJ X17 hx hZ e17 f16_V_b_23 (v := (.long va)) ⟨by decide, by decide⟩ rfl (g := (mkF m 55 #[.val (.ref a1), .val (.long q1), .second, .val (.int (1 : Int32))] [(.int (0 : Int32)), (.ref b_23), (.long q1)])) rfl rfl (hb hby d6_55) t k)))))) ?_
      show GoW p e below QQ (T17.setTop (mkF m 56 #[.val (.ref a1), .val (.long q1), .second, .val (.int (1 : Int32))] [(.long va), (.long q1)]))
      refine GoW.st (fun t k => XS.lcmp X17.here hx rfl (hb hby d6_56) rfl k) ?_
      show GoW p e below QQ (T17.setTop (mkF m 57 #[.val (.ref a1), .val (.long q1), .second, .val (.int (1 : Int32))] [(.int (lcmpW q1 va))]))
      by_cases hc57_2 : q1 < va
      · skip
        refine GoW.st (fun t k => XS.ifNo X17.here hx rfl (hb hby d6_57) rfl ((if0 _ _).trans (tlt ((lw_lt q1 va).mpr hc57_2)).2.1) k) ?_
        show GoW p e below QQ (T17.setTop (mkF m 60 #[.val (.ref a1), .val (.long q1), .second, .val (.int (1 : Int32))] []))
        have hi57_2 : q1.toInt < va.toInt := (Int64.lt_iff_toInt_lt.mp hc57_2)
        refine GoW.st (fun t k => XS.aloadN X17.here hx rfl (hb hby d6_60) rfl rfl k) ?_
        show GoW p e below QQ (T17.setTop (mkF m 61 #[.val (.ref a1), .val (.long q1), .second, .val (.int (1 : Int32))] [(.ref a1)]))
        obtain ⟨T18, X18, e18, st18⟩ := getF X17 hx hZ hown (host := "") (Or.inl (hw _ (List.mem_of_getElem? (i := 20) rfl))) Via.refl e17 f16_F_a1_values (g := (mkF m 61 #[.val (.ref a1), .val (.long q1), .second, .val (.int (1 : Int32))] [(.ref a1)])) rfl rfl (hb hby d6_61)
        refine GoW.st st18 ?_
        show GoW p e below QQ (T18.setTop (mkF m 64 #[.val (.ref a1), .val (.long q1), .second, .val (.int (1 : Int32))] [(.ref b_23)]))
        refine GoW.st (fun t k => XS.iloadN X18.here hx rfl (hb hby d6_64) rfl (XS.aloadN X18.here hx rfl (hb hby d6_65) rfl rfl k)) ?_
        show GoW p e below QQ (T18.setTop (mkF m 66 #[.val (.ref a1), .val (.long q1), .second, .val (.int (1 : Int32))] [(.ref a1), (.int (1 : Int32)), (.ref b_23)]))
        obtain ⟨T19, X19, e19, st19⟩ := getF X18 hx hZ hown (host := "") (Or.inl (hw _ (List.mem_of_getElem? (i := 20) rfl))) Via.refl e18 f16_F_a1_values (g := (mkF m 66 #[.val (.ref a1), .val (.long q1), .second, .val (.int (1 : Int32))] [(.ref a1), (.int (1 : Int32)), (.ref b_23)])) rfl rfl (hb hby d6_66)
        refine GoW.st st19 ?_
        show GoW p e below QQ (T19.setTop (mkF m 69 #[.val (.ref a1), .val (.long q1), .second, .val (.int (1 : Int32))] [(.ref b_23), (.int (1 : Int32)), (.ref b_23)]))
        refine GoW.st (fun t k => XS.iloadN X19.here hx rfl (hb hby d6_69) rfl (XS.iconst X19.here hx rfl (hb hby d6_70) (XS.isub X19.here hx rfl (hb hby d6_71) rfl (XS.iconst X19.here hx rfl (hb hby d6_72) (XS.idiv X19.here hx rfl (hb hby d6_73) rfl (by decide) (ldVJ X19 hx hZ e19 f16_V_b_23 (v := (.long va)) ⟨by decide, by decide⟩ rfl (g := (mkF m 74 #[.val (.ref a1), .val (.long q1), .second, .val (.int (1 : Int32))] [(.int (0 : Int32)), (.ref b_23), (.int (1 : Int32)), (.ref b_23)])) rfl rfl (hb hby d6_74) t k)))))) ?_
        show GoW p e below QQ (T19.setTop (mkF m 75 #[.val (.ref a1), .val (.long q1), .second, .val (.int (1 : Int32))] [(.long va), (.int (1 : Int32)), (.ref b_23)]))
        obtain ⟨T20, h20, X20, e20, W20, V20, st20⟩ := stVJ X19 hx hZ e19 f16_V_b_23 ⟨by decide, by decide⟩ 1 rfl (Nat.le_of_ble_eq_true rfl) (g := (mkF m 75 #[.val (.ref a1), .val (.long q1), .second, .val (.int (1 : Int32))] [(.long va), (.int (1 : Int32)), (.ref b_23)])) rfl rfl (hb hby d6_75)
        refine GoW.st st20 ?_
        have f21_E_a1 : Exa Z h20 a1 "com/example/eunomia/eunomia/sticky/LongHeap" := f16_E_a1.wr W20
        have f21_F_a1_values : Fld Z h20 a1 "com/example/eunomia/eunomia/sticky/LongHeap" "values" "[J" (.ref b_23) := f16_F_a1_values.other W20 (Or.inl ne5_a1_b_23)
        have f21_F_a1_size : Fld Z h20 a1 "com/example/eunomia/eunomia/sticky/LongHeap" "size" "I" (.int (4 : Int32)) := f16_F_a1_size.other W20 (Or.inl ne5_a1_b_23)
        have f21_V_b_23 : Arv Z h20 b_23 kb_23 .long (6 : Int32) [(.long va), (.long va), (.long vc), (.long vb)] (.long (0 : Int64)) := V20
        have K20 : Keep h0 h20 [a1, a2] := K15.wr W20 (Or.inr sz5_b_23)
        have N20 := Fr.snoc X20 N15 gg5_b_23
        show GoW p e below QQ (T20.setTop (mkF m 76 #[.val (.ref a1), .val (.long q1), .second, .val (.int (1 : Int32))] []))
        refine GoW.st (fun t k => XS.iloadN X20.here hx rfl (hb hby d6_76) rfl (XS.iconst X20.here hx rfl (hb hby d6_77) (XS.isub X20.here hx rfl (hb hby d6_78) rfl (XS.iconst X20.here hx rfl (hb hby d6_79) (XS.idiv X20.here hx rfl (hb hby d6_80) rfl (by decide) (XS.istoreN X20.here hx rfl (hb hby d6_81) rfl (l' := #[.val (.ref a1), .val (.long q1), .second, .val (.int (0 : Int32))]) rfl k)))))) ?_
        show GoW p e below QQ (T20.setTop (mkF m 82 #[.val (.ref a1), .val (.long q1), .second, .val (.int (0 : Int32))] []))
        refine GoW.st (fun t k => XS.goto X20.here hx rfl (pc0 := 82) (pc' := 41) rfl (hb hby d6_82) (by decide) (by decide) (XS.iloadN X20.here hx rfl (hb hby d6_41) rfl k)) ?_
        show GoW p e below QQ (T20.setTop (mkF m 42 #[.val (.ref a1), .val (.long q1), .second, .val (.int (0 : Int32))] [(.int (0 : Int32))]))
        have hc42_3 : ¬ ((0 : Int32) < (0 : Int32)) := by decide
        refine GoW.st (fun t k => XS.ifYes X20.here hx rfl (pc0 := 42) (pc' := 85) rfl (hb hby d6_42) rfl ((if0 _ _).trans (flt hc42_3).2.2.2) (by decide) (by decide) (XS.aloadN X20.here hx rfl (hb hby d6_85) rfl rfl k)) ?_
        show GoW p e below QQ (T20.setTop (mkF m 86 #[.val (.ref a1), .val (.long q1), .second, .val (.int (0 : Int32))] [(.ref a1)]))
        obtain ⟨T22, X22, e22, st22⟩ := getF X20 hx hZ hown (host := "") (Or.inl (hw _ (List.mem_of_getElem? (i := 20) rfl))) Via.refl e20 f21_F_a1_values (g := (mkF m 86 #[.val (.ref a1), .val (.long q1), .second, .val (.int (0 : Int32))] [(.ref a1)])) rfl rfl (hb hby d6_86)
        refine GoW.st st22 ?_
        show GoW p e below QQ (T22.setTop (mkF m 89 #[.val (.ref a1), .val (.long q1), .second, .val (.int (0 : Int32))] [(.ref b_23)]))
        refine GoW.st (fun t k => XS.iloadN X22.here hx rfl (hb hby d6_89) rfl (XS.lloadN X22.here hx rfl (hb hby d6_90) rfl k)) ?_
        show GoW p e below QQ (T22.setTop (mkF m 91 #[.val (.ref a1), .val (.long q1), .second, .val (.int (0 : Int32))] [(.long q1), (.int (0 : Int32)), (.ref b_23)]))
        obtain ⟨T23, h23, X23, e23, W23, V23, st23⟩ := stVJ X22 hx hZ e22 f21_V_b_23 ⟨by decide, by decide⟩ 0 rfl (Nat.le_of_ble_eq_true rfl) (g := (mkF m 91 #[.val (.ref a1), .val (.long q1), .second, .val (.int (0 : Int32))] [(.long q1), (.int (0 : Int32)), (.ref b_23)])) rfl rfl (hb hby d6_91)
        refine GoW.st st23 ?_
        have f24_E_a1 : Exa Z h23 a1 "com/example/eunomia/eunomia/sticky/LongHeap" := f21_E_a1.wr W23
        have f24_F_a1_values : Fld Z h23 a1 "com/example/eunomia/eunomia/sticky/LongHeap" "values" "[J" (.ref b_23) := f21_F_a1_values.other W23 (Or.inl ne5_a1_b_23)
        have f24_F_a1_size : Fld Z h23 a1 "com/example/eunomia/eunomia/sticky/LongHeap" "size" "I" (.int (4 : Int32)) := f21_F_a1_size.other W23 (Or.inl ne5_a1_b_23)
        have f24_V_b_23 : Arv Z h23 b_23 kb_23 .long (6 : Int32) [(.long q1), (.long va), (.long vc), (.long vb)] (.long (0 : Int64)) := V23
        have K23 : Keep h0 h23 [a1, a2] := K20.wr W23 (Or.inr sz5_b_23)
        have N23 := Fr.snoc X23 N20 gg5_b_23
        show GoW p e below QQ (T23.setTop (mkF m 92 #[.val (.ref a1), .val (.long q1), .second, .val (.int (0 : Int32))] []))
        exact GoW.fin X23 none (fun _ => rfl) hlk hQ e23 ⟨b_23, kb_23, (6 : Int32), q1, va, vc, vb, rfl, N23, K23, f24_E_a1, f24_F_a1_values, f24_F_a1_size, gg5_b_23, (Ne.symm ne5_a1_b_23), f24_V_b_23, (by omega), (fun f => by omega), (by omega)⟩ (by decide) (by decide) (fun fs hr => X23.returnOut hx hret (hb hby d6_92) hr)
      · skip
        refine GoW.st (fun t k => XS.ifYes X17.here hx rfl (pc0 := 57) (pc' := 85) rfl (hb hby d6_57) rfl ((if0 _ _).trans (flt (fun q => hc57_2 ((lw_lt q1 va).mp q))).2.1) (by decide) (by decide) k) ?_
        show GoW p e below QQ (T17.setTop (mkF m 85 #[.val (.ref a1), .val (.long q1), .second, .val (.int (1 : Int32))] []))
        have hi57_2 : ¬ (q1.toInt < va.toInt) := (fun q => hc57_2 (Int64.lt_iff_toInt_lt.mpr q))
        refine GoW.st (fun t k => XS.aloadN X17.here hx rfl (hb hby d6_85) rfl rfl k) ?_
        show GoW p e below QQ (T17.setTop (mkF m 86 #[.val (.ref a1), .val (.long q1), .second, .val (.int (1 : Int32))] [(.ref a1)]))
        obtain ⟨T25, X25, e25, st25⟩ := getF X17 hx hZ hown (host := "") (Or.inl (hw _ (List.mem_of_getElem? (i := 20) rfl))) Via.refl e17 f16_F_a1_values (g := (mkF m 86 #[.val (.ref a1), .val (.long q1), .second, .val (.int (1 : Int32))] [(.ref a1)])) rfl rfl (hb hby d6_86)
        refine GoW.st st25 ?_
        show GoW p e below QQ (T25.setTop (mkF m 89 #[.val (.ref a1), .val (.long q1), .second, .val (.int (1 : Int32))] [(.ref b_23)]))
        refine GoW.st (fun t k => XS.iloadN X25.here hx rfl (hb hby d6_89) rfl (XS.lloadN X25.here hx rfl (hb hby d6_90) rfl k)) ?_
        show GoW p e below QQ (T25.setTop (mkF m 91 #[.val (.ref a1), .val (.long q1), .second, .val (.int (1 : Int32))] [(.long q1), (.int (1 : Int32)), (.ref b_23)]))
        obtain ⟨T26, h26, X26, e26, W26, V26, st26⟩ := stVJ X25 hx hZ e25 f16_V_b_23 ⟨by decide, by decide⟩ 1 rfl (Nat.le_of_ble_eq_true rfl) (g := (mkF m 91 #[.val (.ref a1), .val (.long q1), .second, .val (.int (1 : Int32))] [(.long q1), (.int (1 : Int32)), (.ref b_23)])) rfl rfl (hb hby d6_91)
        refine GoW.st st26 ?_
        have f27_E_a1 : Exa Z h26 a1 "com/example/eunomia/eunomia/sticky/LongHeap" := f16_E_a1.wr W26
        have f27_F_a1_values : Fld Z h26 a1 "com/example/eunomia/eunomia/sticky/LongHeap" "values" "[J" (.ref b_23) := f16_F_a1_values.other W26 (Or.inl ne5_a1_b_23)
        have f27_F_a1_size : Fld Z h26 a1 "com/example/eunomia/eunomia/sticky/LongHeap" "size" "I" (.int (4 : Int32)) := f16_F_a1_size.other W26 (Or.inl ne5_a1_b_23)
        have f27_V_b_23 : Arv Z h26 b_23 kb_23 .long (6 : Int32) [(.long va), (.long q1), (.long vc), (.long vb)] (.long (0 : Int64)) := V26
        have K26 : Keep h0 h26 [a1, a2] := K15.wr W26 (Or.inr sz5_b_23)
        have N26 := Fr.snoc X26 N15 gg5_b_23
        show GoW p e below QQ (T26.setTop (mkF m 92 #[.val (.ref a1), .val (.long q1), .second, .val (.int (1 : Int32))] []))
        exact GoW.fin X26 none (fun _ => rfl) hlk hQ e26 ⟨b_23, kb_23, (6 : Int32), va, q1, vc, vb, rfl, N26, K26, f27_E_a1, f27_F_a1_values, f27_F_a1_size, gg5_b_23, (Ne.symm ne5_a1_b_23), f27_V_b_23, (by omega), (fun f => by omega), (by omega)⟩ (by decide) (by decide) (fun fs hr => X26.returnOut hx hret (hb hby d6_92) hr)
    · skip
      refine GoW.st (fun t k => XS.ifYes X12.here hx rfl (pc0 := 57) (pc' := 85) rfl (hb hby d6_57) rfl ((if0 _ _).trans (flt (fun q => hc57 ((lw_lt q1 vb).mp q))).2.1) (by decide) (by decide) k) ?_
      show GoW p e below QQ (T12.setTop (mkF m 85 #[.val (.ref a1), .val (.long q1), .second, .val (.int (3 : Int32))] []))
      have hi57 : ¬ (q1.toInt < vb.toInt) := (fun q => hc57 (Int64.lt_iff_toInt_lt.mpr q))
      refine GoW.st (fun t k => XS.aloadN X12.here hx rfl (hb hby d6_85) rfl rfl k) ?_
      show GoW p e below QQ (T12.setTop (mkF m 86 #[.val (.ref a1), .val (.long q1), .second, .val (.int (3 : Int32))] [(.ref a1)]))
      obtain ⟨T28, X28, e28, st28⟩ := getF X12 hx hZ hown (host := "") (Or.inl (hw _ (List.mem_of_getElem? (i := 20) rfl))) Via.refl e12 f11_F_a1_values (g := (mkF m 86 #[.val (.ref a1), .val (.long q1), .second, .val (.int (3 : Int32))] [(.ref a1)])) rfl rfl (hb hby d6_86)
      refine GoW.st st28 ?_
      show GoW p e below QQ (T28.setTop (mkF m 89 #[.val (.ref a1), .val (.long q1), .second, .val (.int (3 : Int32))] [(.ref b_23)]))
      refine GoW.st (fun t k => XS.iloadN X28.here hx rfl (hb hby d6_89) rfl (XS.lloadN X28.here hx rfl (hb hby d6_90) rfl k)) ?_
      show GoW p e below QQ (T28.setTop (mkF m 91 #[.val (.ref a1), .val (.long q1), .second, .val (.int (3 : Int32))] [(.long q1), (.int (3 : Int32)), (.ref b_23)]))
      obtain ⟨T29, h29, X29, e29, W29, V29, st29⟩ := stVJ X28 hx hZ e28 f11_V_b_23 ⟨by decide, by decide⟩ 3 rfl (Nat.le_of_ble_eq_true rfl) (g := (mkF m 91 #[.val (.ref a1), .val (.long q1), .second, .val (.int (3 : Int32))] [(.long q1), (.int (3 : Int32)), (.ref b_23)])) rfl rfl (hb hby d6_91)
      refine GoW.st st29 ?_
      have f30_E_a1 : Exa Z h29 a1 "com/example/eunomia/eunomia/sticky/LongHeap" := f11_E_a1.wr W29
      have f30_F_a1_values : Fld Z h29 a1 "com/example/eunomia/eunomia/sticky/LongHeap" "values" "[J" (.ref b_23) := f11_F_a1_values.other W29 (Or.inl ne5_a1_b_23)
      have f30_F_a1_size : Fld Z h29 a1 "com/example/eunomia/eunomia/sticky/LongHeap" "size" "I" (.int (4 : Int32)) := f11_F_a1_size.other W29 (Or.inl ne5_a1_b_23)
      have f30_V_b_23 : Arv Z h29 b_23 kb_23 .long (6 : Int32) [(.long va), (.long vb), (.long vc), (.long q1)] (.long (0 : Int64)) := V29
      have K29 : Keep h0 h29 [a1, a2] := K10.wr W29 (Or.inr sz5_b_23)
      have N29 := Fr.snoc X29 N10 gg5_b_23
      show GoW p e below QQ (T29.setTop (mkF m 92 #[.val (.ref a1), .val (.long q1), .second, .val (.int (3 : Int32))] []))
      exact GoW.fin X29 none (fun _ => rfl) hlk hQ e29 ⟨b_23, kb_23, (6 : Int32), va, vb, vc, q1, rfl, N29, K29, f30_E_a1, f30_F_a1_values, f30_F_a1_size, gg5_b_23, (Ne.symm ne5_a1_b_23), f30_V_b_23, (by omega), (fun f => by omega), (by omega)⟩ (by decide) (by decide) (fun fs hr => X29.returnOut hx hret (hb hby d6_92) hr)
  · skip
    refine GoW.st (fun t k => XS.icmpYes X2.here hx rfl (pc0 := 9) (pc' := 29) rfl (hb hby d6_9) rfl (feq hc9).2 (by decide) (by decide) k) ?_
    show GoW p e below QQ (T2.setTop (mkF m 29 #[.val (.ref a1), .val (.long q1), .second, .unset] []))
    have hi9 : ¬ (3 = z.toInt) := (fun q => hc9 (Int32.toInt_inj.mp q))
    have hlt := fun q => hc9 (own_eq_of q)
    refine GoW.st (fun t k => XS.aloadN X2.here hx rfl (hb hby d6_29) rfl rfl (XS.dup X2.here hx rfl (hb hby d6_30) rfl rfl k)) ?_
    show GoW p e below QQ (T2.setTop (mkF m 31 #[.val (.ref a1), .val (.long q1), .second, .unset] [(.ref a1), (.ref a1)]))
    obtain ⟨T31, X31, e31, st31⟩ := getF X2 hx hZ hown (host := "") (Or.inl (hw _ (List.mem_of_getElem? (i := 27) rfl))) Via.refl e2 pre_F_a1_size (g := (mkF m 31 #[.val (.ref a1), .val (.long q1), .second, .unset] [(.ref a1), (.ref a1)])) rfl rfl (hb hby d6_31)
    refine GoW.st st31 ?_
    show GoW p e below QQ (T31.setTop (mkF m 34 #[.val (.ref a1), .val (.long q1), .second, .unset] [(.int (3 : Int32)), (.ref a1)]))
    refine GoW.st (fun t k => XS.dupX1 X31.here hx rfl (hb hby d6_34) rfl rfl rfl (XS.iconst X31.here hx rfl (hb hby d6_35) (XS.iadd X31.here hx rfl (hb hby d6_36) rfl k))) ?_
    show GoW p e below QQ (T31.setTop (mkF m 37 #[.val (.ref a1), .val (.long q1), .second, .unset] [(.int (4 : Int32)), (.ref a1), (.int (3 : Int32))]))
    obtain ⟨T32, h32, X32, e32, W32, st32⟩ := putF X31 hx hZ hown (host := "") (Or.inl (hw _ (List.mem_of_getElem? (i := 27) rfl))) Via.refl e31 pre_F_a1_size pre_E_a1 (Or.inl (hw _ (List.mem_of_getElem? (i := 28) rfl))) (hw _ (List.mem_of_getElem? (i := 8) rfl)) (ty := .int) (by decide) rfl rfl (g := (mkF m 37 #[.val (.ref a1), .val (.long q1), .second, .unset] [(.int (4 : Int32)), (.ref a1), (.int (3 : Int32))])) rfl rfl (hb hby d6_37)
    refine GoW.st st32 ?_
    have f33_E_a1 : Exa Z h32 a1 "com/example/eunomia/eunomia/sticky/LongHeap" := pre_E_a1.wr W32
    have f33_F_a1_values : Fld Z h32 a1 "com/example/eunomia/eunomia/sticky/LongHeap" "values" "[J" (.ref a2) := pre_F_a1_values.other W32 (Or.inr (slot_ne (Or.inl (hw _ (List.mem_of_getElem? (i := 21) rfl))) (Or.inl (hw _ (List.mem_of_getElem? (i := 28) rfl))) (by decide) (t := (.array .long)) (t' := .int) (by decide) (by decide)))
    have f33_F_a1_size : Fld Z h32 a1 "com/example/eunomia/eunomia/sticky/LongHeap" "size" "I" (.int (4 : Int32)) := pre_F_a1_size.same W32
    have f33_V_a2 : Arv Z h32 a2 ka .long z [(.long va), (.long vb), (.long vc), (.long vd)] (.long (0 : Int64)) := pre_V_a2.other W32 pre_a2_a1
    have K32 : Keep h0 h32 [a1, a2] := K0.wr W32 (Or.inl (List.mem_of_getElem? (i := 0) rfl))
    have N32 := Fr.snoc X32 N0 pre_g_a1
    show GoW p e below QQ (T32.setTop (mkF m 40 #[.val (.ref a1), .val (.long q1), .second, .unset] [(.int (3 : Int32))]))
    refine GoW.st (fun t k => XS.istoreN X32.here hx rfl (hb hby d6_40) rfl (l' := #[.val (.ref a1), .val (.long q1), .second, .val (.int (3 : Int32))]) rfl (XS.iloadN X32.here hx rfl (hb hby d6_41) rfl k)) ?_
    show GoW p e below QQ (T32.setTop (mkF m 42 #[.val (.ref a1), .val (.long q1), .second, .val (.int (3 : Int32))] [(.int (3 : Int32))]))
    have hc42 : (0 : Int32) < (3 : Int32) := by decide
    refine GoW.st (fun t k => XS.ifNo X32.here hx rfl (hb hby d6_42) rfl ((if0 _ _).trans (tlt hc42).2.2.2) (XS.lloadN X32.here hx rfl (hb hby d6_45) rfl (XS.aloadN X32.here hx rfl (hb hby d6_46) rfl rfl k))) ?_
    show GoW p e below QQ (T32.setTop (mkF m 47 #[.val (.ref a1), .val (.long q1), .second, .val (.int (3 : Int32))] [(.ref a1), (.long q1)]))
    obtain ⟨T34, X34, e34, st34⟩ := getF X32 hx hZ hown (host := "") (Or.inl (hw _ (List.mem_of_getElem? (i := 20) rfl))) Via.refl e32 f33_F_a1_values (g := (mkF m 47 #[.val (.ref a1), .val (.long q1), .second, .val (.int (3 : Int32))] [(.ref a1), (.long q1)])) rfl rfl (hb hby d6_47)
    refine GoW.st st34 ?_
    show GoW p e below QQ (T34.setTop (mkF m 50 #[.val (.ref a1), .val (.long q1), .second, .val (.int (3 : Int32))] [(.ref a2), (.long q1)]))
    refine GoW.st (fun t k => XS.iloadN X34.here hx rfl (hb hby d6_50) rfl (XS.iconst X34.here hx rfl (hb hby d6_51) (XS.isub X34.here hx rfl (hb hby d6_52) rfl (XS.iconst X34.here hx rfl (hb hby d6_53) (XS.idiv X34.here hx rfl (hb hby d6_54) rfl (by decide) (ldVJ X34 hx hZ e34 f33_V_a2 (v := (.long vb)) ⟨by decide, own_lt_of (by omega)⟩ rfl (g := (mkF m 55 #[.val (.ref a1), .val (.long q1), .second, .val (.int (3 : Int32))] [(.int (1 : Int32)), (.ref a2), (.long q1)])) rfl rfl (hb hby d6_55) t k)))))) ?_
    show GoW p e below QQ (T34.setTop (mkF m 56 #[.val (.ref a1), .val (.long q1), .second, .val (.int (3 : Int32))] [(.long vb), (.long q1)]))
    refine GoW.st (fun t k => XS.lcmp X34.here hx rfl (hb hby d6_56) rfl k) ?_
    show GoW p e below QQ (T34.setTop (mkF m 57 #[.val (.ref a1), .val (.long q1), .second, .val (.int (3 : Int32))] [(.int (lcmpW q1 vb))]))
    by_cases hc57 : q1 < vb
    · skip
      refine GoW.st (fun t k => XS.ifNo X34.here hx rfl (hb hby d6_57) rfl ((if0 _ _).trans (tlt ((lw_lt q1 vb).mpr hc57)).2.1) k) ?_
      show GoW p e below QQ (T34.setTop (mkF m 60 #[.val (.ref a1), .val (.long q1), .second, .val (.int (3 : Int32))] []))
      have hi57 : q1.toInt < vb.toInt := (Int64.lt_iff_toInt_lt.mp hc57)
      refine GoW.st (fun t k => XS.aloadN X34.here hx rfl (hb hby d6_60) rfl rfl k) ?_
      show GoW p e below QQ (T34.setTop (mkF m 61 #[.val (.ref a1), .val (.long q1), .second, .val (.int (3 : Int32))] [(.ref a1)]))
      obtain ⟨T35, X35, e35, st35⟩ := getF X34 hx hZ hown (host := "") (Or.inl (hw _ (List.mem_of_getElem? (i := 20) rfl))) Via.refl e34 f33_F_a1_values (g := (mkF m 61 #[.val (.ref a1), .val (.long q1), .second, .val (.int (3 : Int32))] [(.ref a1)])) rfl rfl (hb hby d6_61)
      refine GoW.st st35 ?_
      show GoW p e below QQ (T35.setTop (mkF m 64 #[.val (.ref a1), .val (.long q1), .second, .val (.int (3 : Int32))] [(.ref a2)]))
      refine GoW.st (fun t k => XS.iloadN X35.here hx rfl (hb hby d6_64) rfl (XS.aloadN X35.here hx rfl (hb hby d6_65) rfl rfl k)) ?_
      show GoW p e below QQ (T35.setTop (mkF m 66 #[.val (.ref a1), .val (.long q1), .second, .val (.int (3 : Int32))] [(.ref a1), (.int (3 : Int32)), (.ref a2)]))
      obtain ⟨T36, X36, e36, st36⟩ := getF X35 hx hZ hown (host := "") (Or.inl (hw _ (List.mem_of_getElem? (i := 20) rfl))) Via.refl e35 f33_F_a1_values (g := (mkF m 66 #[.val (.ref a1), .val (.long q1), .second, .val (.int (3 : Int32))] [(.ref a1), (.int (3 : Int32)), (.ref a2)])) rfl rfl (hb hby d6_66)
      refine GoW.st st36 ?_
      show GoW p e below QQ (T36.setTop (mkF m 69 #[.val (.ref a1), .val (.long q1), .second, .val (.int (3 : Int32))] [(.ref a2), (.int (3 : Int32)), (.ref a2)]))
      refine GoW.st (fun t k => XS.iloadN X36.here hx rfl (hb hby d6_69) rfl (XS.iconst X36.here hx rfl (hb hby d6_70) (XS.isub X36.here hx rfl (hb hby d6_71) rfl (XS.iconst X36.here hx rfl (hb hby d6_72) (XS.idiv X36.here hx rfl (hb hby d6_73) rfl (by decide) (ldVJ X36 hx hZ e36 f33_V_a2 (v := (.long vb)) ⟨by decide, own_lt_of (by omega)⟩ rfl (g := (mkF m 74 #[.val (.ref a1), .val (.long q1), .second, .val (.int (3 : Int32))] [(.int (1 : Int32)), (.ref a2), (.int (3 : Int32)), (.ref a2)])) rfl rfl (hb hby d6_74) t k)))))) ?_
      show GoW p e below QQ (T36.setTop (mkF m 75 #[.val (.ref a1), .val (.long q1), .second, .val (.int (3 : Int32))] [(.long vb), (.int (3 : Int32)), (.ref a2)]))
      obtain ⟨T37, h37, X37, e37, W37, V37, st37⟩ := stVJ X36 hx hZ e36 f33_V_a2 ⟨by decide, own_lt_of (by omega)⟩ 3 rfl (Nat.le_of_ble_eq_true rfl) (g := (mkF m 75 #[.val (.ref a1), .val (.long q1), .second, .val (.int (3 : Int32))] [(.long vb), (.int (3 : Int32)), (.ref a2)])) rfl rfl (hb hby d6_75)
      refine GoW.st st37 ?_
      have f38_E_a1 : Exa Z h37 a1 "com/example/eunomia/eunomia/sticky/LongHeap" := f33_E_a1.wr W37
      have f38_F_a1_values : Fld Z h37 a1 "com/example/eunomia/eunomia/sticky/LongHeap" "values" "[J" (.ref a2) := f33_F_a1_values.other W37 (Or.inl (Ne.symm pre_a2_a1))
      have f38_F_a1_size : Fld Z h37 a1 "com/example/eunomia/eunomia/sticky/LongHeap" "size" "I" (.int (4 : Int32)) := f33_F_a1_size.other W37 (Or.inl (Ne.symm pre_a2_a1))
      have f38_V_a2 : Arv Z h37 a2 ka .long z [(.long va), (.long vb), (.long vc), (.long vb)] (.long (0 : Int64)) := V37
      have K37 : Keep h0 h37 [a1, a2] := K32.wr W37 (Or.inl (List.mem_of_getElem? (i := 1) rfl))
      have N37 := Fr.snoc X37 N32 pre_g_a2
      show GoW p e below QQ (T37.setTop (mkF m 76 #[.val (.ref a1), .val (.long q1), .second, .val (.int (3 : Int32))] []))
      refine GoW.st (fun t k => XS.iloadN X37.here hx rfl (hb hby d6_76) rfl (XS.iconst X37.here hx rfl (hb hby d6_77) (XS.isub X37.here hx rfl (hb hby d6_78) rfl (XS.iconst X37.here hx rfl (hb hby d6_79) (XS.idiv X37.here hx rfl (hb hby d6_80) rfl (by decide) (XS.istoreN X37.here hx rfl (hb hby d6_81) rfl (l' := #[.val (.ref a1), .val (.long q1), .second, .val (.int (1 : Int32))]) rfl k)))))) ?_
      show GoW p e below QQ (T37.setTop (mkF m 82 #[.val (.ref a1), .val (.long q1), .second, .val (.int (1 : Int32))] []))
      refine GoW.st (fun t k => XS.goto X37.here hx rfl (pc0 := 82) (pc' := 41) rfl (hb hby d6_82) (by decide) (by decide) (XS.iloadN X37.here hx rfl (hb hby d6_41) rfl k)) ?_
      show GoW p e below QQ (T37.setTop (mkF m 42 #[.val (.ref a1), .val (.long q1), .second, .val (.int (1 : Int32))] [(.int (1 : Int32))]))
      have hc42_2 : (0 : Int32) < (1 : Int32) := by decide
      refine GoW.st (fun t k => XS.ifNo X37.here hx rfl (hb hby d6_42) rfl ((if0 _ _).trans (tlt hc42_2).2.2.2) (XS.lloadN X37.here hx rfl (hb hby d6_45) rfl (XS.aloadN X37.here hx rfl (hb hby d6_46) rfl rfl k))) ?_
      show GoW p e below QQ (T37.setTop (mkF m 47 #[.val (.ref a1), .val (.long q1), .second, .val (.int (1 : Int32))] [(.ref a1), (.long q1)]))
      obtain ⟨T39, X39, e39, st39⟩ := getF X37 hx hZ hown (host := "") (Or.inl (hw _ (List.mem_of_getElem? (i := 20) rfl))) Via.refl e37 f38_F_a1_values (g := (mkF m 47 #[.val (.ref a1), .val (.long q1), .second, .val (.int (1 : Int32))] [(.ref a1), (.long q1)])) rfl rfl (hb hby d6_47)
      refine GoW.st st39 ?_
      show GoW p e below QQ (T39.setTop (mkF m 50 #[.val (.ref a1), .val (.long q1), .second, .val (.int (1 : Int32))] [(.ref a2), (.long q1)]))
      refine GoW.st (fun t k => XS.iloadN X39.here hx rfl (hb hby d6_50) rfl (XS.iconst X39.here hx rfl (hb hby d6_51) (XS.isub X39.here hx rfl (hb hby d6_52) rfl (XS.iconst X39.here hx rfl (hb hby d6_53) (XS.idiv X39.here hx rfl (hb hby d6_54) rfl (by decide) (ldVJ X39 hx hZ e39 f38_V_a2 (v := (.long va)) ⟨by decide, own_lt_of (by omega)⟩ rfl (g := (mkF m 55 #[.val (.ref a1), .val (.long q1), .second, .val (.int (1 : Int32))] [(.int (0 : Int32)), (.ref a2), (.long q1)])) rfl rfl (hb hby d6_55) t k)))))) ?_
      show GoW p e below QQ (T39.setTop (mkF m 56 #[.val (.ref a1), .val (.long q1), .second, .val (.int (1 : Int32))] [(.long va), (.long q1)]))
      refine GoW.st (fun t k => XS.lcmp X39.here hx rfl (hb hby d6_56) rfl k) ?_
      show GoW p e below QQ (T39.setTop (mkF m 57 #[.val (.ref a1), .val (.long q1), .second, .val (.int (1 : Int32))] [(.int (lcmpW q1 va))]))
      by_cases hc57_2 : q1 < va
      · skip
        refine GoW.st (fun t k => XS.ifNo X39.here hx rfl (hb hby d6_57) rfl ((if0 _ _).trans (tlt ((lw_lt q1 va).mpr hc57_2)).2.1) k) ?_
        show GoW p e below QQ (T39.setTop (mkF m 60 #[.val (.ref a1), .val (.long q1), .second, .val (.int (1 : Int32))] []))
        have hi57_2 : q1.toInt < va.toInt := (Int64.lt_iff_toInt_lt.mp hc57_2)
        refine GoW.st (fun t k => XS.aloadN X39.here hx rfl (hb hby d6_60) rfl rfl k) ?_
        show GoW p e below QQ (T39.setTop (mkF m 61 #[.val (.ref a1), .val (.long q1), .second, .val (.int (1 : Int32))] [(.ref a1)]))
        obtain ⟨T40, X40, e40, st40⟩ := getF X39 hx hZ hown (host := "") (Or.inl (hw _ (List.mem_of_getElem? (i := 20) rfl))) Via.refl e39 f38_F_a1_values (g := (mkF m 61 #[.val (.ref a1), .val (.long q1), .second, .val (.int (1 : Int32))] [(.ref a1)])) rfl rfl (hb hby d6_61)
        refine GoW.st st40 ?_
        show GoW p e below QQ (T40.setTop (mkF m 64 #[.val (.ref a1), .val (.long q1), .second, .val (.int (1 : Int32))] [(.ref a2)]))
        refine GoW.st (fun t k => XS.iloadN X40.here hx rfl (hb hby d6_64) rfl (XS.aloadN X40.here hx rfl (hb hby d6_65) rfl rfl k)) ?_
        show GoW p e below QQ (T40.setTop (mkF m 66 #[.val (.ref a1), .val (.long q1), .second, .val (.int (1 : Int32))] [(.ref a1), (.int (1 : Int32)), (.ref a2)]))
        obtain ⟨T41, X41, e41, st41⟩ := getF X40 hx hZ hown (host := "") (Or.inl (hw _ (List.mem_of_getElem? (i := 20) rfl))) Via.refl e40 f38_F_a1_values (g := (mkF m 66 #[.val (.ref a1), .val (.long q1), .second, .val (.int (1 : Int32))] [(.ref a1), (.int (1 : Int32)), (.ref a2)])) rfl rfl (hb hby d6_66)
        refine GoW.st st41 ?_
        show GoW p e below QQ (T41.setTop (mkF m 69 #[.val (.ref a1), .val (.long q1), .second, .val (.int (1 : Int32))] [(.ref a2), (.int (1 : Int32)), (.ref a2)]))
        refine GoW.st (fun t k => XS.iloadN X41.here hx rfl (hb hby d6_69) rfl (XS.iconst X41.here hx rfl (hb hby d6_70) (XS.isub X41.here hx rfl (hb hby d6_71) rfl (XS.iconst X41.here hx rfl (hb hby d6_72) (XS.idiv X41.here hx rfl (hb hby d6_73) rfl (by decide) (ldVJ X41 hx hZ e41 f38_V_a2 (v := (.long va)) ⟨by decide, own_lt_of (by omega)⟩ rfl (g := (mkF m 74 #[.val (.ref a1), .val (.long q1), .second, .val (.int (1 : Int32))] [(.int (0 : Int32)), (.ref a2), (.int (1 : Int32)), (.ref a2)])) rfl rfl (hb hby d6_74) t k)))))) ?_
        show GoW p e below QQ (T41.setTop (mkF m 75 #[.val (.ref a1), .val (.long q1), .second, .val (.int (1 : Int32))] [(.long va), (.int (1 : Int32)), (.ref a2)]))
        obtain ⟨T42, h42, X42, e42, W42, V42, st42⟩ := stVJ X41 hx hZ e41 f38_V_a2 ⟨by decide, own_lt_of (by omega)⟩ 1 rfl (Nat.le_of_ble_eq_true rfl) (g := (mkF m 75 #[.val (.ref a1), .val (.long q1), .second, .val (.int (1 : Int32))] [(.long va), (.int (1 : Int32)), (.ref a2)])) rfl rfl (hb hby d6_75)
        refine GoW.st st42 ?_
        have f43_E_a1 : Exa Z h42 a1 "com/example/eunomia/eunomia/sticky/LongHeap" := f38_E_a1.wr W42
        have f43_F_a1_values : Fld Z h42 a1 "com/example/eunomia/eunomia/sticky/LongHeap" "values" "[J" (.ref a2) := f38_F_a1_values.other W42 (Or.inl (Ne.symm pre_a2_a1))
        have f43_F_a1_size : Fld Z h42 a1 "com/example/eunomia/eunomia/sticky/LongHeap" "size" "I" (.int (4 : Int32)) := f38_F_a1_size.other W42 (Or.inl (Ne.symm pre_a2_a1))
        have f43_V_a2 : Arv Z h42 a2 ka .long z [(.long va), (.long va), (.long vc), (.long vb)] (.long (0 : Int64)) := V42
        have K42 : Keep h0 h42 [a1, a2] := K37.wr W42 (Or.inl (List.mem_of_getElem? (i := 1) rfl))
        have N42 := Fr.snoc X42 N37 pre_g_a2
        show GoW p e below QQ (T42.setTop (mkF m 76 #[.val (.ref a1), .val (.long q1), .second, .val (.int (1 : Int32))] []))
        refine GoW.st (fun t k => XS.iloadN X42.here hx rfl (hb hby d6_76) rfl (XS.iconst X42.here hx rfl (hb hby d6_77) (XS.isub X42.here hx rfl (hb hby d6_78) rfl (XS.iconst X42.here hx rfl (hb hby d6_79) (XS.idiv X42.here hx rfl (hb hby d6_80) rfl (by decide) (XS.istoreN X42.here hx rfl (hb hby d6_81) rfl (l' := #[.val (.ref a1), .val (.long q1), .second, .val (.int (0 : Int32))]) rfl k)))))) ?_
        show GoW p e below QQ (T42.setTop (mkF m 82 #[.val (.ref a1), .val (.long q1), .second, .val (.int (0 : Int32))] []))
        refine GoW.st (fun t k => XS.goto X42.here hx rfl (pc0 := 82) (pc' := 41) rfl (hb hby d6_82) (by decide) (by decide) (XS.iloadN X42.here hx rfl (hb hby d6_41) rfl k)) ?_
        show GoW p e below QQ (T42.setTop (mkF m 42 #[.val (.ref a1), .val (.long q1), .second, .val (.int (0 : Int32))] [(.int (0 : Int32))]))
        have hc42_3 : ¬ ((0 : Int32) < (0 : Int32)) := by decide
        refine GoW.st (fun t k => XS.ifYes X42.here hx rfl (pc0 := 42) (pc' := 85) rfl (hb hby d6_42) rfl ((if0 _ _).trans (flt hc42_3).2.2.2) (by decide) (by decide) (XS.aloadN X42.here hx rfl (hb hby d6_85) rfl rfl k)) ?_
        show GoW p e below QQ (T42.setTop (mkF m 86 #[.val (.ref a1), .val (.long q1), .second, .val (.int (0 : Int32))] [(.ref a1)]))
        obtain ⟨T44, X44, e44, st44⟩ := getF X42 hx hZ hown (host := "") (Or.inl (hw _ (List.mem_of_getElem? (i := 20) rfl))) Via.refl e42 f43_F_a1_values (g := (mkF m 86 #[.val (.ref a1), .val (.long q1), .second, .val (.int (0 : Int32))] [(.ref a1)])) rfl rfl (hb hby d6_86)
        refine GoW.st st44 ?_
        show GoW p e below QQ (T44.setTop (mkF m 89 #[.val (.ref a1), .val (.long q1), .second, .val (.int (0 : Int32))] [(.ref a2)]))
        refine GoW.st (fun t k => XS.iloadN X44.here hx rfl (hb hby d6_89) rfl (XS.lloadN X44.here hx rfl (hb hby d6_90) rfl k)) ?_
        show GoW p e below QQ (T44.setTop (mkF m 91 #[.val (.ref a1), .val (.long q1), .second, .val (.int (0 : Int32))] [(.long q1), (.int (0 : Int32)), (.ref a2)]))
        obtain ⟨T45, h45, X45, e45, W45, V45, st45⟩ := stVJ X44 hx hZ e44 f43_V_a2 ⟨by decide, own_lt_of (by omega)⟩ 0 rfl (Nat.le_of_ble_eq_true rfl) (g := (mkF m 91 #[.val (.ref a1), .val (.long q1), .second, .val (.int (0 : Int32))] [(.long q1), (.int (0 : Int32)), (.ref a2)])) rfl rfl (hb hby d6_91)
        refine GoW.st st45 ?_
        have f46_E_a1 : Exa Z h45 a1 "com/example/eunomia/eunomia/sticky/LongHeap" := f43_E_a1.wr W45
        have f46_F_a1_values : Fld Z h45 a1 "com/example/eunomia/eunomia/sticky/LongHeap" "values" "[J" (.ref a2) := f43_F_a1_values.other W45 (Or.inl (Ne.symm pre_a2_a1))
        have f46_F_a1_size : Fld Z h45 a1 "com/example/eunomia/eunomia/sticky/LongHeap" "size" "I" (.int (4 : Int32)) := f43_F_a1_size.other W45 (Or.inl (Ne.symm pre_a2_a1))
        have f46_V_a2 : Arv Z h45 a2 ka .long z [(.long q1), (.long va), (.long vc), (.long vb)] (.long (0 : Int64)) := V45
        have K45 : Keep h0 h45 [a1, a2] := K42.wr W45 (Or.inl (List.mem_of_getElem? (i := 1) rfl))
        have N45 := Fr.snoc X45 N42 pre_g_a2
        show GoW p e below QQ (T45.setTop (mkF m 92 #[.val (.ref a1), .val (.long q1), .second, .val (.int (0 : Int32))] []))
        exact GoW.fin X45 none (fun _ => rfl) hlk hQ e45 ⟨a2, ka, z, q1, va, vc, vb, rfl, N45, K45, f46_E_a1, f46_F_a1_values, f46_F_a1_size, pre_g_a2, pre_a2_a1, f46_V_a2, (by omega), (fun f => by omega), (by omega)⟩ (by decide) (by decide) (fun fs hr => X45.returnOut hx hret (hb hby d6_92) hr)
      · skip
        refine GoW.st (fun t k => XS.ifYes X39.here hx rfl (pc0 := 57) (pc' := 85) rfl (hb hby d6_57) rfl ((if0 _ _).trans (flt (fun q => hc57_2 ((lw_lt q1 va).mp q))).2.1) (by decide) (by decide) k) ?_
        show GoW p e below QQ (T39.setTop (mkF m 85 #[.val (.ref a1), .val (.long q1), .second, .val (.int (1 : Int32))] []))
        have hi57_2 : ¬ (q1.toInt < va.toInt) := (fun q => hc57_2 (Int64.lt_iff_toInt_lt.mpr q))
        refine GoW.st (fun t k => XS.aloadN X39.here hx rfl (hb hby d6_85) rfl rfl k) ?_
        show GoW p e below QQ (T39.setTop (mkF m 86 #[.val (.ref a1), .val (.long q1), .second, .val (.int (1 : Int32))] [(.ref a1)]))
        obtain ⟨T47, X47, e47, st47⟩ := getF X39 hx hZ hown (host := "") (Or.inl (hw _ (List.mem_of_getElem? (i := 20) rfl))) Via.refl e39 f38_F_a1_values (g := (mkF m 86 #[.val (.ref a1), .val (.long q1), .second, .val (.int (1 : Int32))] [(.ref a1)])) rfl rfl (hb hby d6_86)
        refine GoW.st st47 ?_
        show GoW p e below QQ (T47.setTop (mkF m 89 #[.val (.ref a1), .val (.long q1), .second, .val (.int (1 : Int32))] [(.ref a2)]))
        refine GoW.st (fun t k => XS.iloadN X47.here hx rfl (hb hby d6_89) rfl (XS.lloadN X47.here hx rfl (hb hby d6_90) rfl k)) ?_
        show GoW p e below QQ (T47.setTop (mkF m 91 #[.val (.ref a1), .val (.long q1), .second, .val (.int (1 : Int32))] [(.long q1), (.int (1 : Int32)), (.ref a2)]))
        obtain ⟨T48, h48, X48, e48, W48, V48, st48⟩ := stVJ X47 hx hZ e47 f38_V_a2 ⟨by decide, own_lt_of (by omega)⟩ 1 rfl (Nat.le_of_ble_eq_true rfl) (g := (mkF m 91 #[.val (.ref a1), .val (.long q1), .second, .val (.int (1 : Int32))] [(.long q1), (.int (1 : Int32)), (.ref a2)])) rfl rfl (hb hby d6_91)
        refine GoW.st st48 ?_
        have f49_E_a1 : Exa Z h48 a1 "com/example/eunomia/eunomia/sticky/LongHeap" := f38_E_a1.wr W48
        have f49_F_a1_values : Fld Z h48 a1 "com/example/eunomia/eunomia/sticky/LongHeap" "values" "[J" (.ref a2) := f38_F_a1_values.other W48 (Or.inl (Ne.symm pre_a2_a1))
        have f49_F_a1_size : Fld Z h48 a1 "com/example/eunomia/eunomia/sticky/LongHeap" "size" "I" (.int (4 : Int32)) := f38_F_a1_size.other W48 (Or.inl (Ne.symm pre_a2_a1))
        have f49_V_a2 : Arv Z h48 a2 ka .long z [(.long va), (.long q1), (.long vc), (.long vb)] (.long (0 : Int64)) := V48
        have K48 : Keep h0 h48 [a1, a2] := K37.wr W48 (Or.inl (List.mem_of_getElem? (i := 1) rfl))
        have N48 := Fr.snoc X48 N37 pre_g_a2
        show GoW p e below QQ (T48.setTop (mkF m 92 #[.val (.ref a1), .val (.long q1), .second, .val (.int (1 : Int32))] []))
        exact GoW.fin X48 none (fun _ => rfl) hlk hQ e48 ⟨a2, ka, z, va, q1, vc, vb, rfl, N48, K48, f49_E_a1, f49_F_a1_values, f49_F_a1_size, pre_g_a2, pre_a2_a1, f49_V_a2, (by omega), (fun f => by omega), (by omega)⟩ (by decide) (by decide) (fun fs hr => X48.returnOut hx hret (hb hby d6_92) hr)
    · skip
      refine GoW.st (fun t k => XS.ifYes X34.here hx rfl (pc0 := 57) (pc' := 85) rfl (hb hby d6_57) rfl ((if0 _ _).trans (flt (fun q => hc57 ((lw_lt q1 vb).mp q))).2.1) (by decide) (by decide) k) ?_
      show GoW p e below QQ (T34.setTop (mkF m 85 #[.val (.ref a1), .val (.long q1), .second, .val (.int (3 : Int32))] []))
      have hi57 : ¬ (q1.toInt < vb.toInt) := (fun q => hc57 (Int64.lt_iff_toInt_lt.mpr q))
      refine GoW.st (fun t k => XS.aloadN X34.here hx rfl (hb hby d6_85) rfl rfl k) ?_
      show GoW p e below QQ (T34.setTop (mkF m 86 #[.val (.ref a1), .val (.long q1), .second, .val (.int (3 : Int32))] [(.ref a1)]))
      obtain ⟨T50, X50, e50, st50⟩ := getF X34 hx hZ hown (host := "") (Or.inl (hw _ (List.mem_of_getElem? (i := 20) rfl))) Via.refl e34 f33_F_a1_values (g := (mkF m 86 #[.val (.ref a1), .val (.long q1), .second, .val (.int (3 : Int32))] [(.ref a1)])) rfl rfl (hb hby d6_86)
      refine GoW.st st50 ?_
      show GoW p e below QQ (T50.setTop (mkF m 89 #[.val (.ref a1), .val (.long q1), .second, .val (.int (3 : Int32))] [(.ref a2)]))
      refine GoW.st (fun t k => XS.iloadN X50.here hx rfl (hb hby d6_89) rfl (XS.lloadN X50.here hx rfl (hb hby d6_90) rfl k)) ?_
      show GoW p e below QQ (T50.setTop (mkF m 91 #[.val (.ref a1), .val (.long q1), .second, .val (.int (3 : Int32))] [(.long q1), (.int (3 : Int32)), (.ref a2)]))
      obtain ⟨T51, h51, X51, e51, W51, V51, st51⟩ := stVJ X50 hx hZ e50 f33_V_a2 ⟨by decide, own_lt_of (by omega)⟩ 3 rfl (Nat.le_of_ble_eq_true rfl) (g := (mkF m 91 #[.val (.ref a1), .val (.long q1), .second, .val (.int (3 : Int32))] [(.long q1), (.int (3 : Int32)), (.ref a2)])) rfl rfl (hb hby d6_91)
      refine GoW.st st51 ?_
      have f52_E_a1 : Exa Z h51 a1 "com/example/eunomia/eunomia/sticky/LongHeap" := f33_E_a1.wr W51
      have f52_F_a1_values : Fld Z h51 a1 "com/example/eunomia/eunomia/sticky/LongHeap" "values" "[J" (.ref a2) := f33_F_a1_values.other W51 (Or.inl (Ne.symm pre_a2_a1))
      have f52_F_a1_size : Fld Z h51 a1 "com/example/eunomia/eunomia/sticky/LongHeap" "size" "I" (.int (4 : Int32)) := f33_F_a1_size.other W51 (Or.inl (Ne.symm pre_a2_a1))
      have f52_V_a2 : Arv Z h51 a2 ka .long z [(.long va), (.long vb), (.long vc), (.long q1)] (.long (0 : Int64)) := V51
      have K51 : Keep h0 h51 [a1, a2] := K32.wr W51 (Or.inl (List.mem_of_getElem? (i := 1) rfl))
      have N51 := Fr.snoc X51 N32 pre_g_a2
      show GoW p e below QQ (T51.setTop (mkF m 92 #[.val (.ref a1), .val (.long q1), .second, .val (.int (3 : Int32))] []))
      exact GoW.fin X51 none (fun _ => rfl) hlk hQ e51 ⟨a2, ka, z, va, vb, vc, q1, rfl, N51, K51, f52_E_a1, f52_F_a1_values, f52_F_a1_size, pre_g_a2, pre_a2_a1, f52_V_a2, (by omega), (fun f => by omega), (by omega)⟩ (by decide) (by decide) (fun fs hr => X51.returnOut hx hret (hb hby d6_92) hr)
theorem d10_0 : decode prog_40_method_7_code 0 = .ok (.iconst 0, 1) := by decide +kernel
theorem d10_1 : decode prog_40_method_7_code 1 = .ok (.istore_n 3, 1) := by decide +kernel
theorem d10_2 : decode prog_40_method_7_code 2 = .ok (.aload_n 0, 1) := by decide +kernel
theorem d10_3 : decode prog_40_method_7_code 3 = .ok (.getfield 19, 3) := by decide +kernel
theorem d10_6 : decode prog_40_method_7_code 6 = .ok (.iconst 2, 1) := by decide +kernel
theorem d10_7 : decode prog_40_method_7_code 7 = .ok (.idiv, 1) := by decide +kernel
theorem d10_8 : decode prog_40_method_7_code 8 = .ok (.istore 4, 2) := by decide +kernel
theorem d10_10 : decode prog_40_method_7_code 10 = .ok (.iload_n 3, 1) := by decide +kernel
theorem d10_11 : decode prog_40_method_7_code 11 = .ok (.iload 4, 2) := by decide +kernel
theorem d10_13 : decode prog_40_method_7_code 13 = .ok (.if_icmp .ge 78, 3) := by decide +kernel
theorem d10_91 : decode prog_40_method_7_code 91 = .ok (.aload_n 0, 1) := by decide +kernel
theorem d10_92 : decode prog_40_method_7_code 92 = .ok (.getfield 13, 3) := by decide +kernel
theorem d10_95 : decode prog_40_method_7_code 95 = .ok (.iload_n 3, 1) := by decide +kernel
theorem d10_96 : decode prog_40_method_7_code 96 = .ok (.lload_n 1, 1) := by decide +kernel
theorem d10_97 : decode prog_40_method_7_code 97 = .ok (.lastore, 1) := by decide +kernel
theorem d10_98 : decode prog_40_method_7_code 98 = .ok (.return_, 1) := by decide +kernel
def RM10_1 : Room := { frames := 0, cells := 0, slots := 0, locals := 0 }
def Q10_1 (Z : State) (a1 : Addr) (q1 : Int64) (a2 : Addr) (ka : ClassId) (z : Int32) (va : Int64) (vb : Int64) (vc : Int64) (vd : Int64) (h0 : Heap) (n0 : Nat) (v : Option Value) (h : Heap) (L : List Loc) : Prop := ∃ (wa : Int64) (wb : Int64) (wc : Int64) (wd : Int64), v = none ∧ Fr n0 L ∧ Keep h0 h [a2] ∧ (Arv Z h a2 ka .long z [(.long wa), (.long wb), (.long wc), (.long wd)] (.long (0 : Int64))) ∧ (∀ f : Int64 → Int, f wa = f q1) ∧ (va.toInt ≤ wa.toInt)
set_option maxRecDepth 65536 in
set_option maxHeartbeats 40000000 in
theorem rm10_1 (l : Launch) (Z : State) (a0 : Array Value) (hw : ∀ d ∈ tables_1, d.before a0 Z = true) (ws : List Jvm.Cond) (a1 : Addr) (q1 : Int64) (a2 : Addr) (ka : ClassId) (z : Int32) (va : Int64) (vb : Int64) (vc : Int64) (vd : Int64) (h0 : Heap) (n0 : Nat) (Z0 : n0 ≤ h0.size) (pre_g_a2 : n0 ≤ a2) (pre_a2_a1 : a2 ≠ a1) (pre_F_a1_values : Fld Z h0 a1 "com/example/eunomia/eunomia/sticky/LongHeap" "values" "[J" (.ref a2)) (pre_F_a1_size : Fld Z h0 a1 "com/example/eunomia/eunomia/sticky/LongHeap" "size" "I" (.int (1 : Int32))) (pre_V_a2 : Arv Z h0 a2 ka .long z [(.long va), (.long vb), (.long vc), (.long vd)] (.long (0 : Int64))) (hz : 2 ≤ z.toInt) (hlo : va.toInt ≤ q1.toInt) :
    MetFree l (⟨"com/example/eunomia/eunomia/sticky/LongHeap", "siftDown", "(J)V"⟩ : MethodName) (head1 (Jvm.Cond.code (⟨"com/example/eunomia/eunomia/sticky/LongHeap", "siftDown", "(J)V"⟩ : MethodName) prog_40_method_7_code 6 none :: ws) RM10_1) (fun a U => a = #[(.ref a1), (.long q1)] ∧ Z.Warmed39 U.vm ∧ U.heap = h0) (fun _ _ _ _ _ => True) (fun _ U o U' => ∃ v L, o = .returned v ∧ Q10_1 Z a1 q1 a2 ka z va vb vc vd h0 n0 v U'.heap L ∧ FrameEnd U o U' L RM10_1.cells RM10_1.slots) := by
  refine met_of (Q := fun v h L => Q10_1 Z a1 q1 a2 ka z va vb vc vd h0 n0 v h L) (plainFor_of_name pn_0) (fun m => by first | (simp [entryFrame, mkF, argsToLocals, Value.category]; done) | rfl) (Ls := #[.val (.ref a1), .val (.long q1), .second, .unset, .unset, .unset]) ?_
  intro p e s m below meth c T0 QQ hx hZ hby hml hown hnm hret hlk X0 e0 hQ
  have hml : c.maxLocals = 6 := hml
  have hown : s.vm.findClass "com/example/eunomia/eunomia/sticky/LongHeap" = some m.cls := hown
  have hnm : meth.name = "siftDown" := hnm
  have hret : meth.sig.returnType = none := hret
  have N0 := Fr.nil n0
  have K0 : Keep h0 h0 [a2] := Keep.refl h0 _
  show GoW p e below QQ (T0.setTop (mkF m 0 #[.val (.ref a1), .val (.long q1), .second, .unset, .unset, .unset] []))
  have z0 : (0 : Int32).toInt = 0 := rfl
  have z1 : (1 : Int32).toInt = 1 := rfl
  have z2 : (2 : Int32).toInt = 2 := rfl
  have z3 : (3 : Int32).toInt = 3 := rfl
  refine GoW.st (fun t k => XS.iconst X0.here hx rfl (hb hby d10_0) (XS.istoreN X0.here hx rfl (hb hby d10_1) rfl (l' := #[.val (.ref a1), .val (.long q1), .second, .val (.int (0 : Int32)), .unset, .unset]) rfl (XS.aloadN X0.here hx rfl (hb hby d10_2) rfl rfl k))) ?_
  show GoW p e below QQ (T0.setTop (mkF m 3 #[.val (.ref a1), .val (.long q1), .second, .val (.int (0 : Int32)), .unset, .unset] [(.ref a1)]))
  obtain ⟨T1, X1, e1, st1⟩ := getF X0 hx hZ hown (host := "") (Or.inl (hw _ (List.mem_of_getElem? (i := 27) rfl))) Via.refl e0 pre_F_a1_size (g := (mkF m 3 #[.val (.ref a1), .val (.long q1), .second, .val (.int (0 : Int32)), .unset, .unset] [(.ref a1)])) rfl rfl (hb hby d10_3)
  refine GoW.st st1 ?_
  show GoW p e below QQ (T1.setTop (mkF m 6 #[.val (.ref a1), .val (.long q1), .second, .val (.int (0 : Int32)), .unset, .unset] [(.int (1 : Int32))]))
  refine GoW.st (fun t k => XS.iconst X1.here hx rfl (hb hby d10_6) (XS.idiv X1.here hx rfl (hb hby d10_7) rfl (by decide) (XS.istore X1.here hx rfl (hb hby d10_8) rfl (l' := #[.val (.ref a1), .val (.long q1), .second, .val (.int (0 : Int32)), .val (.int (0 : Int32)), .unset]) rfl (XS.iloadN X1.here hx rfl (hb hby d10_10) rfl (XS.iload X1.here hx rfl (hb hby d10_11) rfl k))))) ?_
  show GoW p e below QQ (T1.setTop (mkF m 13 #[.val (.ref a1), .val (.long q1), .second, .val (.int (0 : Int32)), .val (.int (0 : Int32)), .unset] [(.int (0 : Int32)), (.int (0 : Int32))]))
  have hc13 : ¬ ((0 : Int32) < (0 : Int32)) := by decide
  refine GoW.st (fun t k => XS.icmpYes X1.here hx rfl (pc0 := 13) (pc' := 91) rfl (hb hby d10_13) rfl (flt hc13).2.1 (by decide) (by decide) (XS.aloadN X1.here hx rfl (hb hby d10_91) rfl rfl k)) ?_
  show GoW p e below QQ (T1.setTop (mkF m 92 #[.val (.ref a1), .val (.long q1), .second, .val (.int (0 : Int32)), .val (.int (0 : Int32)), .unset] [(.ref a1)]))
  obtain ⟨T2, X2, e2, st2⟩ := getF X1 hx hZ hown (host := "") (Or.inl (hw _ (List.mem_of_getElem? (i := 20) rfl))) Via.refl e1 pre_F_a1_values (g := (mkF m 92 #[.val (.ref a1), .val (.long q1), .second, .val (.int (0 : Int32)), .val (.int (0 : Int32)), .unset] [(.ref a1)])) rfl rfl (hb hby d10_92)
  refine GoW.st st2 ?_
  show GoW p e below QQ (T2.setTop (mkF m 95 #[.val (.ref a1), .val (.long q1), .second, .val (.int (0 : Int32)), .val (.int (0 : Int32)), .unset] [(.ref a2)]))
  refine GoW.st (fun t k => XS.iloadN X2.here hx rfl (hb hby d10_95) rfl (XS.lloadN X2.here hx rfl (hb hby d10_96) rfl k)) ?_
  show GoW p e below QQ (T2.setTop (mkF m 97 #[.val (.ref a1), .val (.long q1), .second, .val (.int (0 : Int32)), .val (.int (0 : Int32)), .unset] [(.long q1), (.int (0 : Int32)), (.ref a2)]))
  obtain ⟨T3, h3, X3, e3, W3, V3, st3⟩ := stVJ X2 hx hZ e2 pre_V_a2 ⟨by decide, own_lt_of (by omega)⟩ 0 rfl (Nat.le_of_ble_eq_true rfl) (g := (mkF m 97 #[.val (.ref a1), .val (.long q1), .second, .val (.int (0 : Int32)), .val (.int (0 : Int32)), .unset] [(.long q1), (.int (0 : Int32)), (.ref a2)])) rfl rfl (hb hby d10_97)
  refine GoW.st st3 ?_
  have f4_F_a1_values : Fld Z h3 a1 "com/example/eunomia/eunomia/sticky/LongHeap" "values" "[J" (.ref a2) := pre_F_a1_values.other W3 (Or.inl (Ne.symm pre_a2_a1))
  have f4_F_a1_size : Fld Z h3 a1 "com/example/eunomia/eunomia/sticky/LongHeap" "size" "I" (.int (1 : Int32)) := pre_F_a1_size.other W3 (Or.inl (Ne.symm pre_a2_a1))
  have f4_V_a2 : Arv Z h3 a2 ka .long z [(.long q1), (.long vb), (.long vc), (.long vd)] (.long (0 : Int64)) := V3
  have K3 : Keep h0 h3 [a2] := K0.wr W3 (Or.inl (List.mem_of_getElem? (i := 0) rfl))
  have N3 := Fr.snoc X3 N0 pre_g_a2
  show GoW p e below QQ (T3.setTop (mkF m 98 #[.val (.ref a1), .val (.long q1), .second, .val (.int (0 : Int32)), .val (.int (0 : Int32)), .unset] []))
  exact GoW.fin X3 none (fun _ => rfl) hlk hQ e3 ⟨q1, vb, vc, vd, rfl, N3, K3, f4_V_a2, (fun f => by omega), (by omega)⟩ (by decide) (by decide) (fun fs hr => X3.returnOut hx hret (hb hby d10_98) hr)
theorem d10_16 : decode prog_40_method_7_code 16 = .ok (.iconst 2, 1) := by decide +kernel
theorem d10_17 : decode prog_40_method_7_code 17 = .ok (.iload_n 3, 1) := by decide +kernel
theorem d10_18 : decode prog_40_method_7_code 18 = .ok (.imul, 1) := by decide +kernel
theorem d10_19 : decode prog_40_method_7_code 19 = .ok (.iconst 1, 1) := by decide +kernel
theorem d10_20 : decode prog_40_method_7_code 20 = .ok (.iadd, 1) := by decide +kernel
theorem d10_21 : decode prog_40_method_7_code 21 = .ok (.istore 5, 2) := by decide +kernel
theorem d10_23 : decode prog_40_method_7_code 23 = .ok (.iload 5, 2) := by decide +kernel
theorem d10_25 : decode prog_40_method_7_code 25 = .ok (.iconst 1, 1) := by decide +kernel
theorem d10_26 : decode prog_40_method_7_code 26 = .ok (.iadd, 1) := by decide +kernel
theorem d10_27 : decode prog_40_method_7_code 27 = .ok (.aload_n 0, 1) := by decide +kernel
theorem d10_28 : decode prog_40_method_7_code 28 = .ok (.getfield 19, 3) := by decide +kernel
theorem d10_31 : decode prog_40_method_7_code 31 = .ok (.if_icmp .ge 26, 3) := by decide +kernel
theorem d10_57 : decode prog_40_method_7_code 57 = .ok (.lload_n 1, 1) := by decide +kernel
theorem d10_58 : decode prog_40_method_7_code 58 = .ok (.aload_n 0, 1) := by decide +kernel
theorem d10_59 : decode prog_40_method_7_code 59 = .ok (.getfield 13, 3) := by decide +kernel
theorem d10_62 : decode prog_40_method_7_code 62 = .ok (.iload 5, 2) := by decide +kernel
theorem d10_64 : decode prog_40_method_7_code 64 = .ok (.laload, 1) := by decide +kernel
theorem d10_65 : decode prog_40_method_7_code 65 = .ok (.lcmp, 1) := by decide +kernel
theorem d10_66 : decode prog_40_method_7_code 66 = .ok (.ifCond .gt 6, 3) := by decide +kernel
theorem d10_72 : decode prog_40_method_7_code 72 = .ok (.aload_n 0, 1) := by decide +kernel
theorem d10_73 : decode prog_40_method_7_code 73 = .ok (.getfield 13, 3) := by decide +kernel
theorem d10_76 : decode prog_40_method_7_code 76 = .ok (.iload_n 3, 1) := by decide +kernel
theorem d10_77 : decode prog_40_method_7_code 77 = .ok (.aload_n 0, 1) := by decide +kernel
theorem d10_78 : decode prog_40_method_7_code 78 = .ok (.getfield 13, 3) := by decide +kernel
theorem d10_81 : decode prog_40_method_7_code 81 = .ok (.iload 5, 2) := by decide +kernel
theorem d10_83 : decode prog_40_method_7_code 83 = .ok (.laload, 1) := by decide +kernel
theorem d10_84 : decode prog_40_method_7_code 84 = .ok (.lastore, 1) := by decide +kernel
theorem d10_85 : decode prog_40_method_7_code 85 = .ok (.iload 5, 2) := by decide +kernel
theorem d10_87 : decode prog_40_method_7_code 87 = .ok (.istore_n 3, 1) := by decide +kernel
theorem d10_88 : decode prog_40_method_7_code 88 = .ok (.goto (-78), 3) := by decide +kernel
theorem d10_69 : decode prog_40_method_7_code 69 = .ok (.goto 22, 3) := by decide +kernel
def RM10_2 : Room := { frames := 0, cells := 0, slots := 0, locals := 0 }
def Q10_2 (Z : State) (a1 : Addr) (q1 : Int64) (a2 : Addr) (ka : ClassId) (z : Int32) (va : Int64) (vb : Int64) (vc : Int64) (vd : Int64) (h0 : Heap) (n0 : Nat) (v : Option Value) (h : Heap) (L : List Loc) : Prop := ∃ (wa : Int64) (wb : Int64) (wc : Int64) (wd : Int64), v = none ∧ Fr n0 L ∧ Keep h0 h [a2] ∧ (Arv Z h a2 ka .long z [(.long wa), (.long wb), (.long wc), (.long wd)] (.long (0 : Int64))) ∧ (∀ f : Int64 → Int, f wa + f wb = f vb + f q1) ∧ (va.toInt ≤ wa.toInt) ∧ (wa.toInt ≤ wb.toInt)
set_option maxRecDepth 65536 in
set_option maxHeartbeats 40000000 in
theorem rm10_2 (l : Launch) (Z : State) (a0 : Array Value) (hw : ∀ d ∈ tables_1, d.before a0 Z = true) (ws : List Jvm.Cond) (a1 : Addr) (q1 : Int64) (a2 : Addr) (ka : ClassId) (z : Int32) (va : Int64) (vb : Int64) (vc : Int64) (vd : Int64) (h0 : Heap) (n0 : Nat) (Z0 : n0 ≤ h0.size) (pre_g_a2 : n0 ≤ a2) (pre_a2_a1 : a2 ≠ a1) (pre_F_a1_values : Fld Z h0 a1 "com/example/eunomia/eunomia/sticky/LongHeap" "values" "[J" (.ref a2)) (pre_F_a1_size : Fld Z h0 a1 "com/example/eunomia/eunomia/sticky/LongHeap" "size" "I" (.int (2 : Int32))) (pre_V_a2 : Arv Z h0 a2 ka .long z [(.long va), (.long vb), (.long vc), (.long vd)] (.long (0 : Int64))) (hz : 3 ≤ z.toInt) (ho : va.toInt ≤ vb.toInt) (hlo : va.toInt ≤ q1.toInt) :
    MetFree l (⟨"com/example/eunomia/eunomia/sticky/LongHeap", "siftDown", "(J)V"⟩ : MethodName) (head1 (Jvm.Cond.code (⟨"com/example/eunomia/eunomia/sticky/LongHeap", "siftDown", "(J)V"⟩ : MethodName) prog_40_method_7_code 6 none :: ws) RM10_2) (fun a U => a = #[(.ref a1), (.long q1)] ∧ Z.Warmed39 U.vm ∧ U.heap = h0) (fun _ _ _ _ _ => True) (fun _ U o U' => ∃ v L, o = .returned v ∧ Q10_2 Z a1 q1 a2 ka z va vb vc vd h0 n0 v U'.heap L ∧ FrameEnd U o U' L RM10_2.cells RM10_2.slots) := by
  refine met_of (Q := fun v h L => Q10_2 Z a1 q1 a2 ka z va vb vc vd h0 n0 v h L) (plainFor_of_name pn_0) (fun m => by first | (simp [entryFrame, mkF, argsToLocals, Value.category]; done) | rfl) (Ls := #[.val (.ref a1), .val (.long q1), .second, .unset, .unset, .unset]) ?_
  intro p e s m below meth c T0 QQ hx hZ hby hml hown hnm hret hlk X0 e0 hQ
  have hml : c.maxLocals = 6 := hml
  have hown : s.vm.findClass "com/example/eunomia/eunomia/sticky/LongHeap" = some m.cls := hown
  have hnm : meth.name = "siftDown" := hnm
  have hret : meth.sig.returnType = none := hret
  have N0 := Fr.nil n0
  have K0 : Keep h0 h0 [a2] := Keep.refl h0 _
  show GoW p e below QQ (T0.setTop (mkF m 0 #[.val (.ref a1), .val (.long q1), .second, .unset, .unset, .unset] []))
  have z0 : (0 : Int32).toInt = 0 := rfl
  have z1 : (1 : Int32).toInt = 1 := rfl
  have z2 : (2 : Int32).toInt = 2 := rfl
  have z3 : (3 : Int32).toInt = 3 := rfl
  refine GoW.st (fun t k => XS.iconst X0.here hx rfl (hb hby d10_0) (XS.istoreN X0.here hx rfl (hb hby d10_1) rfl (l' := #[.val (.ref a1), .val (.long q1), .second, .val (.int (0 : Int32)), .unset, .unset]) rfl (XS.aloadN X0.here hx rfl (hb hby d10_2) rfl rfl k))) ?_
  show GoW p e below QQ (T0.setTop (mkF m 3 #[.val (.ref a1), .val (.long q1), .second, .val (.int (0 : Int32)), .unset, .unset] [(.ref a1)]))
  obtain ⟨T1, X1, e1, st1⟩ := getF X0 hx hZ hown (host := "") (Or.inl (hw _ (List.mem_of_getElem? (i := 27) rfl))) Via.refl e0 pre_F_a1_size (g := (mkF m 3 #[.val (.ref a1), .val (.long q1), .second, .val (.int (0 : Int32)), .unset, .unset] [(.ref a1)])) rfl rfl (hb hby d10_3)
  refine GoW.st st1 ?_
  show GoW p e below QQ (T1.setTop (mkF m 6 #[.val (.ref a1), .val (.long q1), .second, .val (.int (0 : Int32)), .unset, .unset] [(.int (2 : Int32))]))
  refine GoW.st (fun t k => XS.iconst X1.here hx rfl (hb hby d10_6) (XS.idiv X1.here hx rfl (hb hby d10_7) rfl (by decide) (XS.istore X1.here hx rfl (hb hby d10_8) rfl (l' := #[.val (.ref a1), .val (.long q1), .second, .val (.int (0 : Int32)), .val (.int (1 : Int32)), .unset]) rfl (XS.iloadN X1.here hx rfl (hb hby d10_10) rfl (XS.iload X1.here hx rfl (hb hby d10_11) rfl k))))) ?_
  show GoW p e below QQ (T1.setTop (mkF m 13 #[.val (.ref a1), .val (.long q1), .second, .val (.int (0 : Int32)), .val (.int (1 : Int32)), .unset] [(.int (1 : Int32)), (.int (0 : Int32))]))
  have hc13 : (0 : Int32) < (1 : Int32) := by decide
  refine GoW.st (fun t k => XS.icmpNo X1.here hx rfl (hb hby d10_13) rfl (tlt hc13).2.1 (XS.iconst X1.here hx rfl (hb hby d10_16) (XS.iloadN X1.here hx rfl (hb hby d10_17) rfl (XS.imul X1.here hx rfl (hb hby d10_18) rfl (XS.iconst X1.here hx rfl (hb hby d10_19) (XS.iadd X1.here hx rfl (hb hby d10_20) rfl k)))))) ?_
  show GoW p e below QQ (T1.setTop (mkF m 21 #[.val (.ref a1), .val (.long q1), .second, .val (.int (0 : Int32)), .val (.int (1 : Int32)), .unset] [(.int (1 : Int32))]))
  refine GoW.st (fun t k => XS.istore X1.here hx rfl (hb hby d10_21) rfl (l' := #[.val (.ref a1), .val (.long q1), .second, .val (.int (0 : Int32)), .val (.int (1 : Int32)), .val (.int (1 : Int32))]) rfl (XS.iload X1.here hx rfl (hb hby d10_23) rfl (XS.iconst X1.here hx rfl (hb hby d10_25) (XS.iadd X1.here hx rfl (hb hby d10_26) rfl (XS.aloadN X1.here hx rfl (hb hby d10_27) rfl rfl k))))) ?_
  show GoW p e below QQ (T1.setTop (mkF m 28 #[.val (.ref a1), .val (.long q1), .second, .val (.int (0 : Int32)), .val (.int (1 : Int32)), .val (.int (1 : Int32))] [(.ref a1), (.int (2 : Int32))]))
  obtain ⟨T2, X2, e2, st2⟩ := getF X1 hx hZ hown (host := "") (Or.inl (hw _ (List.mem_of_getElem? (i := 27) rfl))) Via.refl e1 pre_F_a1_size (g := (mkF m 28 #[.val (.ref a1), .val (.long q1), .second, .val (.int (0 : Int32)), .val (.int (1 : Int32)), .val (.int (1 : Int32))] [(.ref a1), (.int (2 : Int32))])) rfl rfl (hb hby d10_28)
  refine GoW.st st2 ?_
  show GoW p e below QQ (T2.setTop (mkF m 31 #[.val (.ref a1), .val (.long q1), .second, .val (.int (0 : Int32)), .val (.int (1 : Int32)), .val (.int (1 : Int32))] [(.int (2 : Int32)), (.int (2 : Int32))]))
  have hc31 : ¬ ((2 : Int32) < (2 : Int32)) := by decide
  refine GoW.st (fun t k => XS.icmpYes X2.here hx rfl (pc0 := 31) (pc' := 57) rfl (hb hby d10_31) rfl (flt hc31).2.1 (by decide) (by decide) (XS.lloadN X2.here hx rfl (hb hby d10_57) rfl (XS.aloadN X2.here hx rfl (hb hby d10_58) rfl rfl k))) ?_
  show GoW p e below QQ (T2.setTop (mkF m 59 #[.val (.ref a1), .val (.long q1), .second, .val (.int (0 : Int32)), .val (.int (1 : Int32)), .val (.int (1 : Int32))] [(.ref a1), (.long q1)]))
  obtain ⟨T3, X3, e3, st3⟩ := getF X2 hx hZ hown (host := "") (Or.inl (hw _ (List.mem_of_getElem? (i := 20) rfl))) Via.refl e2 pre_F_a1_values (g := (mkF m 59 #[.val (.ref a1), .val (.long q1), .second, .val (.int (0 : Int32)), .val (.int (1 : Int32)), .val (.int (1 : Int32))] [(.ref a1), (.long q1)])) rfl rfl (hb hby d10_59)
  refine GoW.st st3 ?_
  show GoW p e below QQ (T3.setTop (mkF m 62 #[.val (.ref a1), .val (.long q1), .second, .val (.int (0 : Int32)), .val (.int (1 : Int32)), .val (.int (1 : Int32))] [(.ref a2), (.long q1)]))
  refine GoW.st (fun t k => XS.iload X3.here hx rfl (hb hby d10_62) rfl (ldVJ X3 hx hZ e3 pre_V_a2 (v := (.long vb)) ⟨by decide, own_lt_of (by omega)⟩ rfl (g := (mkF m 64 #[.val (.ref a1), .val (.long q1), .second, .val (.int (0 : Int32)), .val (.int (1 : Int32)), .val (.int (1 : Int32))] [(.int (1 : Int32)), (.ref a2), (.long q1)])) rfl rfl (hb hby d10_64) t (XS.lcmp X3.here hx rfl (hb hby d10_65) rfl k))) ?_
  show GoW p e below QQ (T3.setTop (mkF m 66 #[.val (.ref a1), .val (.long q1), .second, .val (.int (0 : Int32)), .val (.int (1 : Int32)), .val (.int (1 : Int32))] [(.int (lcmpW q1 vb))]))
  by_cases hc66 : vb < q1
  · skip
    refine GoW.st (fun t k => XS.ifYes X3.here hx rfl (pc0 := 66) (pc' := 72) rfl (hb hby d10_66) rfl ((if0 _ _).trans (tlt ((lw_gt q1 vb).mpr hc66)).2.2.1) (by decide) (by decide) k) ?_
    show GoW p e below QQ (T3.setTop (mkF m 72 #[.val (.ref a1), .val (.long q1), .second, .val (.int (0 : Int32)), .val (.int (1 : Int32)), .val (.int (1 : Int32))] []))
    have hi66 : vb.toInt < q1.toInt := (Int64.lt_iff_toInt_lt.mp hc66)
    refine GoW.st (fun t k => XS.aloadN X3.here hx rfl (hb hby d10_72) rfl rfl k) ?_
    show GoW p e below QQ (T3.setTop (mkF m 73 #[.val (.ref a1), .val (.long q1), .second, .val (.int (0 : Int32)), .val (.int (1 : Int32)), .val (.int (1 : Int32))] [(.ref a1)]))
    obtain ⟨T4, X4, e4, st4⟩ := getF X3 hx hZ hown (host := "") (Or.inl (hw _ (List.mem_of_getElem? (i := 20) rfl))) Via.refl e3 pre_F_a1_values (g := (mkF m 73 #[.val (.ref a1), .val (.long q1), .second, .val (.int (0 : Int32)), .val (.int (1 : Int32)), .val (.int (1 : Int32))] [(.ref a1)])) rfl rfl (hb hby d10_73)
    refine GoW.st st4 ?_
    show GoW p e below QQ (T4.setTop (mkF m 76 #[.val (.ref a1), .val (.long q1), .second, .val (.int (0 : Int32)), .val (.int (1 : Int32)), .val (.int (1 : Int32))] [(.ref a2)]))
    refine GoW.st (fun t k => XS.iloadN X4.here hx rfl (hb hby d10_76) rfl (XS.aloadN X4.here hx rfl (hb hby d10_77) rfl rfl k)) ?_
    show GoW p e below QQ (T4.setTop (mkF m 78 #[.val (.ref a1), .val (.long q1), .second, .val (.int (0 : Int32)), .val (.int (1 : Int32)), .val (.int (1 : Int32))] [(.ref a1), (.int (0 : Int32)), (.ref a2)]))
    obtain ⟨T5, X5, e5, st5⟩ := getF X4 hx hZ hown (host := "") (Or.inl (hw _ (List.mem_of_getElem? (i := 20) rfl))) Via.refl e4 pre_F_a1_values (g := (mkF m 78 #[.val (.ref a1), .val (.long q1), .second, .val (.int (0 : Int32)), .val (.int (1 : Int32)), .val (.int (1 : Int32))] [(.ref a1), (.int (0 : Int32)), (.ref a2)])) rfl rfl (hb hby d10_78)
    refine GoW.st st5 ?_
    show GoW p e below QQ (T5.setTop (mkF m 81 #[.val (.ref a1), .val (.long q1), .second, .val (.int (0 : Int32)), .val (.int (1 : Int32)), .val (.int (1 : Int32))] [(.ref a2), (.int (0 : Int32)), (.ref a2)]))
    refine GoW.st (fun t k => XS.iload X5.here hx rfl (hb hby d10_81) rfl (ldVJ X5 hx hZ e5 pre_V_a2 (v := (.long vb)) ⟨by decide, own_lt_of (by omega)⟩ rfl (g := (mkF m 83 #[.val (.ref a1), .val (.long q1), .second, .val (.int (0 : Int32)), .val (.int (1 : Int32)), .val (.int (1 : Int32))] [(.int (1 : Int32)), (.ref a2), (.int (0 : Int32)), (.ref a2)])) rfl rfl (hb hby d10_83) t k)) ?_
    show GoW p e below QQ (T5.setTop (mkF m 84 #[.val (.ref a1), .val (.long q1), .second, .val (.int (0 : Int32)), .val (.int (1 : Int32)), .val (.int (1 : Int32))] [(.long vb), (.int (0 : Int32)), (.ref a2)]))
    obtain ⟨T6, h6, X6, e6, W6, V6, st6⟩ := stVJ X5 hx hZ e5 pre_V_a2 ⟨by decide, own_lt_of (by omega)⟩ 0 rfl (Nat.le_of_ble_eq_true rfl) (g := (mkF m 84 #[.val (.ref a1), .val (.long q1), .second, .val (.int (0 : Int32)), .val (.int (1 : Int32)), .val (.int (1 : Int32))] [(.long vb), (.int (0 : Int32)), (.ref a2)])) rfl rfl (hb hby d10_84)
    refine GoW.st st6 ?_
    have f7_F_a1_values : Fld Z h6 a1 "com/example/eunomia/eunomia/sticky/LongHeap" "values" "[J" (.ref a2) := pre_F_a1_values.other W6 (Or.inl (Ne.symm pre_a2_a1))
    have f7_F_a1_size : Fld Z h6 a1 "com/example/eunomia/eunomia/sticky/LongHeap" "size" "I" (.int (2 : Int32)) := pre_F_a1_size.other W6 (Or.inl (Ne.symm pre_a2_a1))
    have f7_V_a2 : Arv Z h6 a2 ka .long z [(.long vb), (.long vb), (.long vc), (.long vd)] (.long (0 : Int64)) := V6
    have K6 : Keep h0 h6 [a2] := K0.wr W6 (Or.inl (List.mem_of_getElem? (i := 0) rfl))
    have N6 := Fr.snoc X6 N0 pre_g_a2
    show GoW p e below QQ (T6.setTop (mkF m 85 #[.val (.ref a1), .val (.long q1), .second, .val (.int (0 : Int32)), .val (.int (1 : Int32)), .val (.int (1 : Int32))] []))
    refine GoW.st (fun t k => XS.iload X6.here hx rfl (hb hby d10_85) rfl (XS.istoreN X6.here hx rfl (hb hby d10_87) rfl (l' := #[.val (.ref a1), .val (.long q1), .second, .val (.int (1 : Int32)), .val (.int (1 : Int32)), .val (.int (1 : Int32))]) rfl (XS.goto X6.here hx rfl (pc0 := 88) (pc' := 10) rfl (hb hby d10_88) (by decide) (by decide) (XS.iloadN X6.here hx rfl (hb hby d10_10) rfl (XS.iload X6.here hx rfl (hb hby d10_11) rfl k))))) ?_
    show GoW p e below QQ (T6.setTop (mkF m 13 #[.val (.ref a1), .val (.long q1), .second, .val (.int (1 : Int32)), .val (.int (1 : Int32)), .val (.int (1 : Int32))] [(.int (1 : Int32)), (.int (1 : Int32))]))
    have hc13_2 : ¬ ((1 : Int32) < (1 : Int32)) := by decide
    refine GoW.st (fun t k => XS.icmpYes X6.here hx rfl (pc0 := 13) (pc' := 91) rfl (hb hby d10_13) rfl (flt hc13_2).2.1 (by decide) (by decide) (XS.aloadN X6.here hx rfl (hb hby d10_91) rfl rfl k)) ?_
    show GoW p e below QQ (T6.setTop (mkF m 92 #[.val (.ref a1), .val (.long q1), .second, .val (.int (1 : Int32)), .val (.int (1 : Int32)), .val (.int (1 : Int32))] [(.ref a1)]))
    obtain ⟨T8, X8, e8, st8⟩ := getF X6 hx hZ hown (host := "") (Or.inl (hw _ (List.mem_of_getElem? (i := 20) rfl))) Via.refl e6 f7_F_a1_values (g := (mkF m 92 #[.val (.ref a1), .val (.long q1), .second, .val (.int (1 : Int32)), .val (.int (1 : Int32)), .val (.int (1 : Int32))] [(.ref a1)])) rfl rfl (hb hby d10_92)
    refine GoW.st st8 ?_
    show GoW p e below QQ (T8.setTop (mkF m 95 #[.val (.ref a1), .val (.long q1), .second, .val (.int (1 : Int32)), .val (.int (1 : Int32)), .val (.int (1 : Int32))] [(.ref a2)]))
    refine GoW.st (fun t k => XS.iloadN X8.here hx rfl (hb hby d10_95) rfl (XS.lloadN X8.here hx rfl (hb hby d10_96) rfl k)) ?_
    show GoW p e below QQ (T8.setTop (mkF m 97 #[.val (.ref a1), .val (.long q1), .second, .val (.int (1 : Int32)), .val (.int (1 : Int32)), .val (.int (1 : Int32))] [(.long q1), (.int (1 : Int32)), (.ref a2)]))
    obtain ⟨T9, h9, X9, e9, W9, V9, st9⟩ := stVJ X8 hx hZ e8 f7_V_a2 ⟨by decide, own_lt_of (by omega)⟩ 1 rfl (Nat.le_of_ble_eq_true rfl) (g := (mkF m 97 #[.val (.ref a1), .val (.long q1), .second, .val (.int (1 : Int32)), .val (.int (1 : Int32)), .val (.int (1 : Int32))] [(.long q1), (.int (1 : Int32)), (.ref a2)])) rfl rfl (hb hby d10_97)
    refine GoW.st st9 ?_
    have f10_F_a1_values : Fld Z h9 a1 "com/example/eunomia/eunomia/sticky/LongHeap" "values" "[J" (.ref a2) := f7_F_a1_values.other W9 (Or.inl (Ne.symm pre_a2_a1))
    have f10_F_a1_size : Fld Z h9 a1 "com/example/eunomia/eunomia/sticky/LongHeap" "size" "I" (.int (2 : Int32)) := f7_F_a1_size.other W9 (Or.inl (Ne.symm pre_a2_a1))
    have f10_V_a2 : Arv Z h9 a2 ka .long z [(.long vb), (.long q1), (.long vc), (.long vd)] (.long (0 : Int64)) := V9
    have K9 : Keep h0 h9 [a2] := K6.wr W9 (Or.inl (List.mem_of_getElem? (i := 0) rfl))
    have N9 := Fr.snoc X9 N6 pre_g_a2
    show GoW p e below QQ (T9.setTop (mkF m 98 #[.val (.ref a1), .val (.long q1), .second, .val (.int (1 : Int32)), .val (.int (1 : Int32)), .val (.int (1 : Int32))] []))
    exact GoW.fin X9 none (fun _ => rfl) hlk hQ e9 ⟨vb, q1, vc, vd, rfl, N9, K9, f10_V_a2, (fun f => by omega), (by omega), (by omega)⟩ (by decide) (by decide) (fun fs hr => X9.returnOut hx hret (hb hby d10_98) hr)
  · skip
    refine GoW.st (fun t k => XS.ifNo X3.here hx rfl (hb hby d10_66) rfl ((if0 _ _).trans (flt (fun q => hc66 ((lw_gt q1 vb).mp q))).2.2.1) k) ?_
    show GoW p e below QQ (T3.setTop (mkF m 69 #[.val (.ref a1), .val (.long q1), .second, .val (.int (0 : Int32)), .val (.int (1 : Int32)), .val (.int (1 : Int32))] []))
    have hi66 : ¬ (vb.toInt < q1.toInt) := (fun q => hc66 (Int64.lt_iff_toInt_lt.mpr q))
    refine GoW.st (fun t k => XS.goto X3.here hx rfl (pc0 := 69) (pc' := 91) rfl (hb hby d10_69) (by decide) (by decide) (XS.aloadN X3.here hx rfl (hb hby d10_91) rfl rfl k)) ?_
    show GoW p e below QQ (T3.setTop (mkF m 92 #[.val (.ref a1), .val (.long q1), .second, .val (.int (0 : Int32)), .val (.int (1 : Int32)), .val (.int (1 : Int32))] [(.ref a1)]))
    obtain ⟨T11, X11, e11, st11⟩ := getF X3 hx hZ hown (host := "") (Or.inl (hw _ (List.mem_of_getElem? (i := 20) rfl))) Via.refl e3 pre_F_a1_values (g := (mkF m 92 #[.val (.ref a1), .val (.long q1), .second, .val (.int (0 : Int32)), .val (.int (1 : Int32)), .val (.int (1 : Int32))] [(.ref a1)])) rfl rfl (hb hby d10_92)
    refine GoW.st st11 ?_
    show GoW p e below QQ (T11.setTop (mkF m 95 #[.val (.ref a1), .val (.long q1), .second, .val (.int (0 : Int32)), .val (.int (1 : Int32)), .val (.int (1 : Int32))] [(.ref a2)]))
    refine GoW.st (fun t k => XS.iloadN X11.here hx rfl (hb hby d10_95) rfl (XS.lloadN X11.here hx rfl (hb hby d10_96) rfl k)) ?_
    show GoW p e below QQ (T11.setTop (mkF m 97 #[.val (.ref a1), .val (.long q1), .second, .val (.int (0 : Int32)), .val (.int (1 : Int32)), .val (.int (1 : Int32))] [(.long q1), (.int (0 : Int32)), (.ref a2)]))
    obtain ⟨T12, h12, X12, e12, W12, V12, st12⟩ := stVJ X11 hx hZ e11 pre_V_a2 ⟨by decide, own_lt_of (by omega)⟩ 0 rfl (Nat.le_of_ble_eq_true rfl) (g := (mkF m 97 #[.val (.ref a1), .val (.long q1), .second, .val (.int (0 : Int32)), .val (.int (1 : Int32)), .val (.int (1 : Int32))] [(.long q1), (.int (0 : Int32)), (.ref a2)])) rfl rfl (hb hby d10_97)
    refine GoW.st st12 ?_
    have f13_F_a1_values : Fld Z h12 a1 "com/example/eunomia/eunomia/sticky/LongHeap" "values" "[J" (.ref a2) := pre_F_a1_values.other W12 (Or.inl (Ne.symm pre_a2_a1))
    have f13_F_a1_size : Fld Z h12 a1 "com/example/eunomia/eunomia/sticky/LongHeap" "size" "I" (.int (2 : Int32)) := pre_F_a1_size.other W12 (Or.inl (Ne.symm pre_a2_a1))
    have f13_V_a2 : Arv Z h12 a2 ka .long z [(.long q1), (.long vb), (.long vc), (.long vd)] (.long (0 : Int64)) := V12
    have K12 : Keep h0 h12 [a2] := K0.wr W12 (Or.inl (List.mem_of_getElem? (i := 0) rfl))
    have N12 := Fr.snoc X12 N0 pre_g_a2
    show GoW p e below QQ (T12.setTop (mkF m 98 #[.val (.ref a1), .val (.long q1), .second, .val (.int (0 : Int32)), .val (.int (1 : Int32)), .val (.int (1 : Int32))] []))
    exact GoW.fin X12 none (fun _ => rfl) hlk hQ e12 ⟨q1, vb, vc, vd, rfl, N12, K12, f13_V_a2, (fun f => by omega), (by omega), (by omega)⟩ (by decide) (by decide) (fun fs hr => X12.returnOut hx hret (hb hby d10_98) hr)
theorem d10_34 : decode prog_40_method_7_code 34 = .ok (.aload_n 0, 1) := by decide +kernel
theorem d10_35 : decode prog_40_method_7_code 35 = .ok (.getfield 13, 3) := by decide +kernel
theorem d10_38 : decode prog_40_method_7_code 38 = .ok (.iload 5, 2) := by decide +kernel
theorem d10_40 : decode prog_40_method_7_code 40 = .ok (.iconst 1, 1) := by decide +kernel
theorem d10_41 : decode prog_40_method_7_code 41 = .ok (.iadd, 1) := by decide +kernel
theorem d10_42 : decode prog_40_method_7_code 42 = .ok (.laload, 1) := by decide +kernel
theorem d10_43 : decode prog_40_method_7_code 43 = .ok (.aload_n 0, 1) := by decide +kernel
theorem d10_44 : decode prog_40_method_7_code 44 = .ok (.getfield 13, 3) := by decide +kernel
theorem d10_47 : decode prog_40_method_7_code 47 = .ok (.iload 5, 2) := by decide +kernel
theorem d10_49 : decode prog_40_method_7_code 49 = .ok (.laload, 1) := by decide +kernel
theorem d10_50 : decode prog_40_method_7_code 50 = .ok (.lcmp, 1) := by decide +kernel
theorem d10_51 : decode prog_40_method_7_code 51 = .ok (.ifCond .ge 6, 3) := by decide +kernel
theorem d10_54 : decode prog_40_method_7_code 54 = .ok (.iinc 5 1, 3) := by decide +kernel
def RM10_3 : Room := { frames := 0, cells := 0, slots := 0, locals := 0 }
def Q10_3 (Z : State) (a1 : Addr) (q1 : Int64) (a2 : Addr) (ka : ClassId) (z : Int32) (va : Int64) (vb : Int64) (vc : Int64) (vd : Int64) (h0 : Heap) (n0 : Nat) (v : Option Value) (h : Heap) (L : List Loc) : Prop := ∃ (wa : Int64) (wb : Int64) (wc : Int64) (wd : Int64), v = none ∧ Fr n0 L ∧ Keep h0 h [a2] ∧ (Arv Z h a2 ka .long z [(.long wa), (.long wb), (.long wc), (.long wd)] (.long (0 : Int64))) ∧ (∀ f : Int64 → Int, f wa + f wb + f wc = f vb + f vc + f q1) ∧ (va.toInt ≤ wa.toInt) ∧ (wa.toInt ≤ wb.toInt ∧ wa.toInt ≤ wc.toInt)
set_option maxRecDepth 65536 in
set_option maxHeartbeats 40000000 in
theorem rm10_3 (l : Launch) (Z : State) (a0 : Array Value) (hw : ∀ d ∈ tables_1, d.before a0 Z = true) (ws : List Jvm.Cond) (a1 : Addr) (q1 : Int64) (a2 : Addr) (ka : ClassId) (z : Int32) (va : Int64) (vb : Int64) (vc : Int64) (vd : Int64) (h0 : Heap) (n0 : Nat) (Z0 : n0 ≤ h0.size) (pre_g_a2 : n0 ≤ a2) (pre_a2_a1 : a2 ≠ a1) (pre_F_a1_values : Fld Z h0 a1 "com/example/eunomia/eunomia/sticky/LongHeap" "values" "[J" (.ref a2)) (pre_F_a1_size : Fld Z h0 a1 "com/example/eunomia/eunomia/sticky/LongHeap" "size" "I" (.int (3 : Int32))) (pre_V_a2 : Arv Z h0 a2 ka .long z [(.long va), (.long vb), (.long vc), (.long vd)] (.long (0 : Int64))) (hz : 4 ≤ z.toInt) (ho : va.toInt ≤ vb.toInt ∧ va.toInt ≤ vc.toInt) (hlo : va.toInt ≤ q1.toInt) :
    MetFree l (⟨"com/example/eunomia/eunomia/sticky/LongHeap", "siftDown", "(J)V"⟩ : MethodName) (head1 (Jvm.Cond.code (⟨"com/example/eunomia/eunomia/sticky/LongHeap", "siftDown", "(J)V"⟩ : MethodName) prog_40_method_7_code 6 none :: ws) RM10_3) (fun a U => a = #[(.ref a1), (.long q1)] ∧ Z.Warmed39 U.vm ∧ U.heap = h0) (fun _ _ _ _ _ => True) (fun _ U o U' => ∃ v L, o = .returned v ∧ Q10_3 Z a1 q1 a2 ka z va vb vc vd h0 n0 v U'.heap L ∧ FrameEnd U o U' L RM10_3.cells RM10_3.slots) := by
  refine met_of (Q := fun v h L => Q10_3 Z a1 q1 a2 ka z va vb vc vd h0 n0 v h L) (plainFor_of_name pn_0) (fun m => by first | (simp [entryFrame, mkF, argsToLocals, Value.category]; done) | rfl) (Ls := #[.val (.ref a1), .val (.long q1), .second, .unset, .unset, .unset]) ?_
  intro p e s m below meth c T0 QQ hx hZ hby hml hown hnm hret hlk X0 e0 hQ
  have hml : c.maxLocals = 6 := hml
  have hown : s.vm.findClass "com/example/eunomia/eunomia/sticky/LongHeap" = some m.cls := hown
  have hnm : meth.name = "siftDown" := hnm
  have hret : meth.sig.returnType = none := hret
  have N0 := Fr.nil n0
  have K0 : Keep h0 h0 [a2] := Keep.refl h0 _
  show GoW p e below QQ (T0.setTop (mkF m 0 #[.val (.ref a1), .val (.long q1), .second, .unset, .unset, .unset] []))
  have z0 : (0 : Int32).toInt = 0 := rfl
  have z1 : (1 : Int32).toInt = 1 := rfl
  have z2 : (2 : Int32).toInt = 2 := rfl
  have z3 : (3 : Int32).toInt = 3 := rfl
  refine GoW.st (fun t k => XS.iconst X0.here hx rfl (hb hby d10_0) (XS.istoreN X0.here hx rfl (hb hby d10_1) rfl (l' := #[.val (.ref a1), .val (.long q1), .second, .val (.int (0 : Int32)), .unset, .unset]) rfl (XS.aloadN X0.here hx rfl (hb hby d10_2) rfl rfl k))) ?_
  show GoW p e below QQ (T0.setTop (mkF m 3 #[.val (.ref a1), .val (.long q1), .second, .val (.int (0 : Int32)), .unset, .unset] [(.ref a1)]))
  obtain ⟨T1, X1, e1, st1⟩ := getF X0 hx hZ hown (host := "") (Or.inl (hw _ (List.mem_of_getElem? (i := 27) rfl))) Via.refl e0 pre_F_a1_size (g := (mkF m 3 #[.val (.ref a1), .val (.long q1), .second, .val (.int (0 : Int32)), .unset, .unset] [(.ref a1)])) rfl rfl (hb hby d10_3)
  refine GoW.st st1 ?_
  show GoW p e below QQ (T1.setTop (mkF m 6 #[.val (.ref a1), .val (.long q1), .second, .val (.int (0 : Int32)), .unset, .unset] [(.int (3 : Int32))]))
  refine GoW.st (fun t k => XS.iconst X1.here hx rfl (hb hby d10_6) (XS.idiv X1.here hx rfl (hb hby d10_7) rfl (by decide) (XS.istore X1.here hx rfl (hb hby d10_8) rfl (l' := #[.val (.ref a1), .val (.long q1), .second, .val (.int (0 : Int32)), .val (.int (1 : Int32)), .unset]) rfl (XS.iloadN X1.here hx rfl (hb hby d10_10) rfl (XS.iload X1.here hx rfl (hb hby d10_11) rfl k))))) ?_
  show GoW p e below QQ (T1.setTop (mkF m 13 #[.val (.ref a1), .val (.long q1), .second, .val (.int (0 : Int32)), .val (.int (1 : Int32)), .unset] [(.int (1 : Int32)), (.int (0 : Int32))]))
  have hc13 : (0 : Int32) < (1 : Int32) := by decide
  refine GoW.st (fun t k => XS.icmpNo X1.here hx rfl (hb hby d10_13) rfl (tlt hc13).2.1 (XS.iconst X1.here hx rfl (hb hby d10_16) (XS.iloadN X1.here hx rfl (hb hby d10_17) rfl (XS.imul X1.here hx rfl (hb hby d10_18) rfl (XS.iconst X1.here hx rfl (hb hby d10_19) (XS.iadd X1.here hx rfl (hb hby d10_20) rfl k)))))) ?_
  show GoW p e below QQ (T1.setTop (mkF m 21 #[.val (.ref a1), .val (.long q1), .second, .val (.int (0 : Int32)), .val (.int (1 : Int32)), .unset] [(.int (1 : Int32))]))
  refine GoW.st (fun t k => XS.istore X1.here hx rfl (hb hby d10_21) rfl (l' := #[.val (.ref a1), .val (.long q1), .second, .val (.int (0 : Int32)), .val (.int (1 : Int32)), .val (.int (1 : Int32))]) rfl (XS.iload X1.here hx rfl (hb hby d10_23) rfl (XS.iconst X1.here hx rfl (hb hby d10_25) (XS.iadd X1.here hx rfl (hb hby d10_26) rfl (XS.aloadN X1.here hx rfl (hb hby d10_27) rfl rfl k))))) ?_
  show GoW p e below QQ (T1.setTop (mkF m 28 #[.val (.ref a1), .val (.long q1), .second, .val (.int (0 : Int32)), .val (.int (1 : Int32)), .val (.int (1 : Int32))] [(.ref a1), (.int (2 : Int32))]))
  obtain ⟨T2, X2, e2, st2⟩ := getF X1 hx hZ hown (host := "") (Or.inl (hw _ (List.mem_of_getElem? (i := 27) rfl))) Via.refl e1 pre_F_a1_size (g := (mkF m 28 #[.val (.ref a1), .val (.long q1), .second, .val (.int (0 : Int32)), .val (.int (1 : Int32)), .val (.int (1 : Int32))] [(.ref a1), (.int (2 : Int32))])) rfl rfl (hb hby d10_28)
  refine GoW.st st2 ?_
  show GoW p e below QQ (T2.setTop (mkF m 31 #[.val (.ref a1), .val (.long q1), .second, .val (.int (0 : Int32)), .val (.int (1 : Int32)), .val (.int (1 : Int32))] [(.int (3 : Int32)), (.int (2 : Int32))]))
  have hc31 : (2 : Int32) < (3 : Int32) := by decide
  refine GoW.st (fun t k => XS.icmpNo X2.here hx rfl (hb hby d10_31) rfl (tlt hc31).2.1 (XS.aloadN X2.here hx rfl (hb hby d10_34) rfl rfl k)) ?_
  show GoW p e below QQ (T2.setTop (mkF m 35 #[.val (.ref a1), .val (.long q1), .second, .val (.int (0 : Int32)), .val (.int (1 : Int32)), .val (.int (1 : Int32))] [(.ref a1)]))
  obtain ⟨T3, X3, e3, st3⟩ := getF X2 hx hZ hown (host := "") (Or.inl (hw _ (List.mem_of_getElem? (i := 20) rfl))) Via.refl e2 pre_F_a1_values (g := (mkF m 35 #[.val (.ref a1), .val (.long q1), .second, .val (.int (0 : Int32)), .val (.int (1 : Int32)), .val (.int (1 : Int32))] [(.ref a1)])) rfl rfl (hb hby d10_35)
  refine GoW.st st3 ?_
  show GoW p e below QQ (T3.setTop (mkF m 38 #[.val (.ref a1), .val (.long q1), .second, .val (.int (0 : Int32)), .val (.int (1 : Int32)), .val (.int (1 : Int32))] [(.ref a2)]))
  refine GoW.st (fun t k => XS.iload X3.here hx rfl (hb hby d10_38) rfl (XS.iconst X3.here hx rfl (hb hby d10_40) (XS.iadd X3.here hx rfl (hb hby d10_41) rfl (ldVJ X3 hx hZ e3 pre_V_a2 (v := (.long vc)) ⟨by decide, own_lt_of (by omega)⟩ rfl (g := (mkF m 42 #[.val (.ref a1), .val (.long q1), .second, .val (.int (0 : Int32)), .val (.int (1 : Int32)), .val (.int (1 : Int32))] [(.int (2 : Int32)), (.ref a2)])) rfl rfl (hb hby d10_42) t (XS.aloadN X3.here hx rfl (hb hby d10_43) rfl rfl k))))) ?_
  show GoW p e below QQ (T3.setTop (mkF m 44 #[.val (.ref a1), .val (.long q1), .second, .val (.int (0 : Int32)), .val (.int (1 : Int32)), .val (.int (1 : Int32))] [(.ref a1), (.long vc)]))
  obtain ⟨T4, X4, e4, st4⟩ := getF X3 hx hZ hown (host := "") (Or.inl (hw _ (List.mem_of_getElem? (i := 20) rfl))) Via.refl e3 pre_F_a1_values (g := (mkF m 44 #[.val (.ref a1), .val (.long q1), .second, .val (.int (0 : Int32)), .val (.int (1 : Int32)), .val (.int (1 : Int32))] [(.ref a1), (.long vc)])) rfl rfl (hb hby d10_44)
  refine GoW.st st4 ?_
  show GoW p e below QQ (T4.setTop (mkF m 47 #[.val (.ref a1), .val (.long q1), .second, .val (.int (0 : Int32)), .val (.int (1 : Int32)), .val (.int (1 : Int32))] [(.ref a2), (.long vc)]))
  refine GoW.st (fun t k => XS.iload X4.here hx rfl (hb hby d10_47) rfl (ldVJ X4 hx hZ e4 pre_V_a2 (v := (.long vb)) ⟨by decide, own_lt_of (by omega)⟩ rfl (g := (mkF m 49 #[.val (.ref a1), .val (.long q1), .second, .val (.int (0 : Int32)), .val (.int (1 : Int32)), .val (.int (1 : Int32))] [(.int (1 : Int32)), (.ref a2), (.long vc)])) rfl rfl (hb hby d10_49) t (XS.lcmp X4.here hx rfl (hb hby d10_50) rfl k))) ?_
  show GoW p e below QQ (T4.setTop (mkF m 51 #[.val (.ref a1), .val (.long q1), .second, .val (.int (0 : Int32)), .val (.int (1 : Int32)), .val (.int (1 : Int32))] [(.int (lcmpW vc vb))]))
  by_cases hc51 : vc < vb
  · skip
    refine GoW.st (fun t k => XS.ifNo X4.here hx rfl (hb hby d10_51) rfl ((if0 _ _).trans (tlt ((lw_lt vc vb).mpr hc51)).2.1) k) ?_
    show GoW p e below QQ (T4.setTop (mkF m 54 #[.val (.ref a1), .val (.long q1), .second, .val (.int (0 : Int32)), .val (.int (1 : Int32)), .val (.int (1 : Int32))] []))
    have hi51 : vc.toInt < vb.toInt := (Int64.lt_iff_toInt_lt.mp hc51)
    refine GoW.st (fun t k => XS.iinc X4.here hx rfl (hb hby d10_54) rfl (l' := #[.val (.ref a1), .val (.long q1), .second, .val (.int (0 : Int32)), .val (.int (1 : Int32)), .val (.int (2 : Int32))]) rfl (XS.lloadN X4.here hx rfl (hb hby d10_57) rfl (XS.aloadN X4.here hx rfl (hb hby d10_58) rfl rfl k))) ?_
    show GoW p e below QQ (T4.setTop (mkF m 59 #[.val (.ref a1), .val (.long q1), .second, .val (.int (0 : Int32)), .val (.int (1 : Int32)), .val (.int (2 : Int32))] [(.ref a1), (.long q1)]))
    obtain ⟨T5, X5, e5, st5⟩ := getF X4 hx hZ hown (host := "") (Or.inl (hw _ (List.mem_of_getElem? (i := 20) rfl))) Via.refl e4 pre_F_a1_values (g := (mkF m 59 #[.val (.ref a1), .val (.long q1), .second, .val (.int (0 : Int32)), .val (.int (1 : Int32)), .val (.int (2 : Int32))] [(.ref a1), (.long q1)])) rfl rfl (hb hby d10_59)
    refine GoW.st st5 ?_
    show GoW p e below QQ (T5.setTop (mkF m 62 #[.val (.ref a1), .val (.long q1), .second, .val (.int (0 : Int32)), .val (.int (1 : Int32)), .val (.int (2 : Int32))] [(.ref a2), (.long q1)]))
    refine GoW.st (fun t k => XS.iload X5.here hx rfl (hb hby d10_62) rfl (ldVJ X5 hx hZ e5 pre_V_a2 (v := (.long vc)) ⟨by decide, own_lt_of (by omega)⟩ rfl (g := (mkF m 64 #[.val (.ref a1), .val (.long q1), .second, .val (.int (0 : Int32)), .val (.int (1 : Int32)), .val (.int (2 : Int32))] [(.int (2 : Int32)), (.ref a2), (.long q1)])) rfl rfl (hb hby d10_64) t (XS.lcmp X5.here hx rfl (hb hby d10_65) rfl k))) ?_
    show GoW p e below QQ (T5.setTop (mkF m 66 #[.val (.ref a1), .val (.long q1), .second, .val (.int (0 : Int32)), .val (.int (1 : Int32)), .val (.int (2 : Int32))] [(.int (lcmpW q1 vc))]))
    by_cases hc66 : vc < q1
    · skip
      refine GoW.st (fun t k => XS.ifYes X5.here hx rfl (pc0 := 66) (pc' := 72) rfl (hb hby d10_66) rfl ((if0 _ _).trans (tlt ((lw_gt q1 vc).mpr hc66)).2.2.1) (by decide) (by decide) k) ?_
      show GoW p e below QQ (T5.setTop (mkF m 72 #[.val (.ref a1), .val (.long q1), .second, .val (.int (0 : Int32)), .val (.int (1 : Int32)), .val (.int (2 : Int32))] []))
      have hi66 : vc.toInt < q1.toInt := (Int64.lt_iff_toInt_lt.mp hc66)
      refine GoW.st (fun t k => XS.aloadN X5.here hx rfl (hb hby d10_72) rfl rfl k) ?_
      show GoW p e below QQ (T5.setTop (mkF m 73 #[.val (.ref a1), .val (.long q1), .second, .val (.int (0 : Int32)), .val (.int (1 : Int32)), .val (.int (2 : Int32))] [(.ref a1)]))
      obtain ⟨T6, X6, e6, st6⟩ := getF X5 hx hZ hown (host := "") (Or.inl (hw _ (List.mem_of_getElem? (i := 20) rfl))) Via.refl e5 pre_F_a1_values (g := (mkF m 73 #[.val (.ref a1), .val (.long q1), .second, .val (.int (0 : Int32)), .val (.int (1 : Int32)), .val (.int (2 : Int32))] [(.ref a1)])) rfl rfl (hb hby d10_73)
      refine GoW.st st6 ?_
      show GoW p e below QQ (T6.setTop (mkF m 76 #[.val (.ref a1), .val (.long q1), .second, .val (.int (0 : Int32)), .val (.int (1 : Int32)), .val (.int (2 : Int32))] [(.ref a2)]))
      refine GoW.st (fun t k => XS.iloadN X6.here hx rfl (hb hby d10_76) rfl (XS.aloadN X6.here hx rfl (hb hby d10_77) rfl rfl k)) ?_
      show GoW p e below QQ (T6.setTop (mkF m 78 #[.val (.ref a1), .val (.long q1), .second, .val (.int (0 : Int32)), .val (.int (1 : Int32)), .val (.int (2 : Int32))] [(.ref a1), (.int (0 : Int32)), (.ref a2)]))
      obtain ⟨T7, X7, e7, st7⟩ := getF X6 hx hZ hown (host := "") (Or.inl (hw _ (List.mem_of_getElem? (i := 20) rfl))) Via.refl e6 pre_F_a1_values (g := (mkF m 78 #[.val (.ref a1), .val (.long q1), .second, .val (.int (0 : Int32)), .val (.int (1 : Int32)), .val (.int (2 : Int32))] [(.ref a1), (.int (0 : Int32)), (.ref a2)])) rfl rfl (hb hby d10_78)
      refine GoW.st st7 ?_
      show GoW p e below QQ (T7.setTop (mkF m 81 #[.val (.ref a1), .val (.long q1), .second, .val (.int (0 : Int32)), .val (.int (1 : Int32)), .val (.int (2 : Int32))] [(.ref a2), (.int (0 : Int32)), (.ref a2)]))
      refine GoW.st (fun t k => XS.iload X7.here hx rfl (hb hby d10_81) rfl (ldVJ X7 hx hZ e7 pre_V_a2 (v := (.long vc)) ⟨by decide, own_lt_of (by omega)⟩ rfl (g := (mkF m 83 #[.val (.ref a1), .val (.long q1), .second, .val (.int (0 : Int32)), .val (.int (1 : Int32)), .val (.int (2 : Int32))] [(.int (2 : Int32)), (.ref a2), (.int (0 : Int32)), (.ref a2)])) rfl rfl (hb hby d10_83) t k)) ?_
      show GoW p e below QQ (T7.setTop (mkF m 84 #[.val (.ref a1), .val (.long q1), .second, .val (.int (0 : Int32)), .val (.int (1 : Int32)), .val (.int (2 : Int32))] [(.long vc), (.int (0 : Int32)), (.ref a2)]))
      obtain ⟨T8, h8, X8, e8, W8, V8, st8⟩ := stVJ X7 hx hZ e7 pre_V_a2 ⟨by decide, own_lt_of (by omega)⟩ 0 rfl (Nat.le_of_ble_eq_true rfl) (g := (mkF m 84 #[.val (.ref a1), .val (.long q1), .second, .val (.int (0 : Int32)), .val (.int (1 : Int32)), .val (.int (2 : Int32))] [(.long vc), (.int (0 : Int32)), (.ref a2)])) rfl rfl (hb hby d10_84)
      refine GoW.st st8 ?_
      have f9_F_a1_values : Fld Z h8 a1 "com/example/eunomia/eunomia/sticky/LongHeap" "values" "[J" (.ref a2) := pre_F_a1_values.other W8 (Or.inl (Ne.symm pre_a2_a1))
      have f9_F_a1_size : Fld Z h8 a1 "com/example/eunomia/eunomia/sticky/LongHeap" "size" "I" (.int (3 : Int32)) := pre_F_a1_size.other W8 (Or.inl (Ne.symm pre_a2_a1))
      have f9_V_a2 : Arv Z h8 a2 ka .long z [(.long vc), (.long vb), (.long vc), (.long vd)] (.long (0 : Int64)) := V8
      have K8 : Keep h0 h8 [a2] := K0.wr W8 (Or.inl (List.mem_of_getElem? (i := 0) rfl))
      have N8 := Fr.snoc X8 N0 pre_g_a2
      show GoW p e below QQ (T8.setTop (mkF m 85 #[.val (.ref a1), .val (.long q1), .second, .val (.int (0 : Int32)), .val (.int (1 : Int32)), .val (.int (2 : Int32))] []))
      refine GoW.st (fun t k => XS.iload X8.here hx rfl (hb hby d10_85) rfl (XS.istoreN X8.here hx rfl (hb hby d10_87) rfl (l' := #[.val (.ref a1), .val (.long q1), .second, .val (.int (2 : Int32)), .val (.int (1 : Int32)), .val (.int (2 : Int32))]) rfl (XS.goto X8.here hx rfl (pc0 := 88) (pc' := 10) rfl (hb hby d10_88) (by decide) (by decide) (XS.iloadN X8.here hx rfl (hb hby d10_10) rfl (XS.iload X8.here hx rfl (hb hby d10_11) rfl k))))) ?_
      show GoW p e below QQ (T8.setTop (mkF m 13 #[.val (.ref a1), .val (.long q1), .second, .val (.int (2 : Int32)), .val (.int (1 : Int32)), .val (.int (2 : Int32))] [(.int (1 : Int32)), (.int (2 : Int32))]))
      have hc13_2 : ¬ ((2 : Int32) < (1 : Int32)) := by decide
      refine GoW.st (fun t k => XS.icmpYes X8.here hx rfl (pc0 := 13) (pc' := 91) rfl (hb hby d10_13) rfl (flt hc13_2).2.1 (by decide) (by decide) (XS.aloadN X8.here hx rfl (hb hby d10_91) rfl rfl k)) ?_
      show GoW p e below QQ (T8.setTop (mkF m 92 #[.val (.ref a1), .val (.long q1), .second, .val (.int (2 : Int32)), .val (.int (1 : Int32)), .val (.int (2 : Int32))] [(.ref a1)]))
      obtain ⟨T10, X10, e10, st10⟩ := getF X8 hx hZ hown (host := "") (Or.inl (hw _ (List.mem_of_getElem? (i := 20) rfl))) Via.refl e8 f9_F_a1_values (g := (mkF m 92 #[.val (.ref a1), .val (.long q1), .second, .val (.int (2 : Int32)), .val (.int (1 : Int32)), .val (.int (2 : Int32))] [(.ref a1)])) rfl rfl (hb hby d10_92)
      refine GoW.st st10 ?_
      show GoW p e below QQ (T10.setTop (mkF m 95 #[.val (.ref a1), .val (.long q1), .second, .val (.int (2 : Int32)), .val (.int (1 : Int32)), .val (.int (2 : Int32))] [(.ref a2)]))
      refine GoW.st (fun t k => XS.iloadN X10.here hx rfl (hb hby d10_95) rfl (XS.lloadN X10.here hx rfl (hb hby d10_96) rfl k)) ?_
      show GoW p e below QQ (T10.setTop (mkF m 97 #[.val (.ref a1), .val (.long q1), .second, .val (.int (2 : Int32)), .val (.int (1 : Int32)), .val (.int (2 : Int32))] [(.long q1), (.int (2 : Int32)), (.ref a2)]))
      obtain ⟨T11, h11, X11, e11, W11, V11, st11⟩ := stVJ X10 hx hZ e10 f9_V_a2 ⟨by decide, own_lt_of (by omega)⟩ 2 rfl (Nat.le_of_ble_eq_true rfl) (g := (mkF m 97 #[.val (.ref a1), .val (.long q1), .second, .val (.int (2 : Int32)), .val (.int (1 : Int32)), .val (.int (2 : Int32))] [(.long q1), (.int (2 : Int32)), (.ref a2)])) rfl rfl (hb hby d10_97)
      refine GoW.st st11 ?_
      have f12_F_a1_values : Fld Z h11 a1 "com/example/eunomia/eunomia/sticky/LongHeap" "values" "[J" (.ref a2) := f9_F_a1_values.other W11 (Or.inl (Ne.symm pre_a2_a1))
      have f12_F_a1_size : Fld Z h11 a1 "com/example/eunomia/eunomia/sticky/LongHeap" "size" "I" (.int (3 : Int32)) := f9_F_a1_size.other W11 (Or.inl (Ne.symm pre_a2_a1))
      have f12_V_a2 : Arv Z h11 a2 ka .long z [(.long vc), (.long vb), (.long q1), (.long vd)] (.long (0 : Int64)) := V11
      have K11 : Keep h0 h11 [a2] := K8.wr W11 (Or.inl (List.mem_of_getElem? (i := 0) rfl))
      have N11 := Fr.snoc X11 N8 pre_g_a2
      show GoW p e below QQ (T11.setTop (mkF m 98 #[.val (.ref a1), .val (.long q1), .second, .val (.int (2 : Int32)), .val (.int (1 : Int32)), .val (.int (2 : Int32))] []))
      exact GoW.fin X11 none (fun _ => rfl) hlk hQ e11 ⟨vc, vb, q1, vd, rfl, N11, K11, f12_V_a2, (fun f => by omega), (by omega), (by omega)⟩ (by decide) (by decide) (fun fs hr => X11.returnOut hx hret (hb hby d10_98) hr)
    · skip
      refine GoW.st (fun t k => XS.ifNo X5.here hx rfl (hb hby d10_66) rfl ((if0 _ _).trans (flt (fun q => hc66 ((lw_gt q1 vc).mp q))).2.2.1) k) ?_
      show GoW p e below QQ (T5.setTop (mkF m 69 #[.val (.ref a1), .val (.long q1), .second, .val (.int (0 : Int32)), .val (.int (1 : Int32)), .val (.int (2 : Int32))] []))
      have hi66 : ¬ (vc.toInt < q1.toInt) := (fun q => hc66 (Int64.lt_iff_toInt_lt.mpr q))
      refine GoW.st (fun t k => XS.goto X5.here hx rfl (pc0 := 69) (pc' := 91) rfl (hb hby d10_69) (by decide) (by decide) (XS.aloadN X5.here hx rfl (hb hby d10_91) rfl rfl k)) ?_
      show GoW p e below QQ (T5.setTop (mkF m 92 #[.val (.ref a1), .val (.long q1), .second, .val (.int (0 : Int32)), .val (.int (1 : Int32)), .val (.int (2 : Int32))] [(.ref a1)]))
      obtain ⟨T13, X13, e13, st13⟩ := getF X5 hx hZ hown (host := "") (Or.inl (hw _ (List.mem_of_getElem? (i := 20) rfl))) Via.refl e5 pre_F_a1_values (g := (mkF m 92 #[.val (.ref a1), .val (.long q1), .second, .val (.int (0 : Int32)), .val (.int (1 : Int32)), .val (.int (2 : Int32))] [(.ref a1)])) rfl rfl (hb hby d10_92)
      refine GoW.st st13 ?_
      show GoW p e below QQ (T13.setTop (mkF m 95 #[.val (.ref a1), .val (.long q1), .second, .val (.int (0 : Int32)), .val (.int (1 : Int32)), .val (.int (2 : Int32))] [(.ref a2)]))
      refine GoW.st (fun t k => XS.iloadN X13.here hx rfl (hb hby d10_95) rfl (XS.lloadN X13.here hx rfl (hb hby d10_96) rfl k)) ?_
      show GoW p e below QQ (T13.setTop (mkF m 97 #[.val (.ref a1), .val (.long q1), .second, .val (.int (0 : Int32)), .val (.int (1 : Int32)), .val (.int (2 : Int32))] [(.long q1), (.int (0 : Int32)), (.ref a2)]))
      obtain ⟨T14, h14, X14, e14, W14, V14, st14⟩ := stVJ X13 hx hZ e13 pre_V_a2 ⟨by decide, own_lt_of (by omega)⟩ 0 rfl (Nat.le_of_ble_eq_true rfl) (g := (mkF m 97 #[.val (.ref a1), .val (.long q1), .second, .val (.int (0 : Int32)), .val (.int (1 : Int32)), .val (.int (2 : Int32))] [(.long q1), (.int (0 : Int32)), (.ref a2)])) rfl rfl (hb hby d10_97)
      refine GoW.st st14 ?_
      have f15_F_a1_values : Fld Z h14 a1 "com/example/eunomia/eunomia/sticky/LongHeap" "values" "[J" (.ref a2) := pre_F_a1_values.other W14 (Or.inl (Ne.symm pre_a2_a1))
      have f15_F_a1_size : Fld Z h14 a1 "com/example/eunomia/eunomia/sticky/LongHeap" "size" "I" (.int (3 : Int32)) := pre_F_a1_size.other W14 (Or.inl (Ne.symm pre_a2_a1))
      have f15_V_a2 : Arv Z h14 a2 ka .long z [(.long q1), (.long vb), (.long vc), (.long vd)] (.long (0 : Int64)) := V14
      have K14 : Keep h0 h14 [a2] := K0.wr W14 (Or.inl (List.mem_of_getElem? (i := 0) rfl))
      have N14 := Fr.snoc X14 N0 pre_g_a2
      show GoW p e below QQ (T14.setTop (mkF m 98 #[.val (.ref a1), .val (.long q1), .second, .val (.int (0 : Int32)), .val (.int (1 : Int32)), .val (.int (2 : Int32))] []))
      exact GoW.fin X14 none (fun _ => rfl) hlk hQ e14 ⟨q1, vb, vc, vd, rfl, N14, K14, f15_V_a2, (fun f => by omega), (by omega), (by omega)⟩ (by decide) (by decide) (fun fs hr => X14.returnOut hx hret (hb hby d10_98) hr)
  · skip
    refine GoW.st (fun t k => XS.ifYes X4.here hx rfl (pc0 := 51) (pc' := 57) rfl (hb hby d10_51) rfl ((if0 _ _).trans (flt (fun q => hc51 ((lw_lt vc vb).mp q))).2.1) (by decide) (by decide) k) ?_
    show GoW p e below QQ (T4.setTop (mkF m 57 #[.val (.ref a1), .val (.long q1), .second, .val (.int (0 : Int32)), .val (.int (1 : Int32)), .val (.int (1 : Int32))] []))
    have hi51 : ¬ (vc.toInt < vb.toInt) := (fun q => hc51 (Int64.lt_iff_toInt_lt.mpr q))
    refine GoW.st (fun t k => XS.lloadN X4.here hx rfl (hb hby d10_57) rfl (XS.aloadN X4.here hx rfl (hb hby d10_58) rfl rfl k)) ?_
    show GoW p e below QQ (T4.setTop (mkF m 59 #[.val (.ref a1), .val (.long q1), .second, .val (.int (0 : Int32)), .val (.int (1 : Int32)), .val (.int (1 : Int32))] [(.ref a1), (.long q1)]))
    obtain ⟨T16, X16, e16, st16⟩ := getF X4 hx hZ hown (host := "") (Or.inl (hw _ (List.mem_of_getElem? (i := 20) rfl))) Via.refl e4 pre_F_a1_values (g := (mkF m 59 #[.val (.ref a1), .val (.long q1), .second, .val (.int (0 : Int32)), .val (.int (1 : Int32)), .val (.int (1 : Int32))] [(.ref a1), (.long q1)])) rfl rfl (hb hby d10_59)
    refine GoW.st st16 ?_
    show GoW p e below QQ (T16.setTop (mkF m 62 #[.val (.ref a1), .val (.long q1), .second, .val (.int (0 : Int32)), .val (.int (1 : Int32)), .val (.int (1 : Int32))] [(.ref a2), (.long q1)]))
    refine GoW.st (fun t k => XS.iload X16.here hx rfl (hb hby d10_62) rfl (ldVJ X16 hx hZ e16 pre_V_a2 (v := (.long vb)) ⟨by decide, own_lt_of (by omega)⟩ rfl (g := (mkF m 64 #[.val (.ref a1), .val (.long q1), .second, .val (.int (0 : Int32)), .val (.int (1 : Int32)), .val (.int (1 : Int32))] [(.int (1 : Int32)), (.ref a2), (.long q1)])) rfl rfl (hb hby d10_64) t (XS.lcmp X16.here hx rfl (hb hby d10_65) rfl k))) ?_
    show GoW p e below QQ (T16.setTop (mkF m 66 #[.val (.ref a1), .val (.long q1), .second, .val (.int (0 : Int32)), .val (.int (1 : Int32)), .val (.int (1 : Int32))] [(.int (lcmpW q1 vb))]))
    by_cases hc66 : vb < q1
    · skip
      refine GoW.st (fun t k => XS.ifYes X16.here hx rfl (pc0 := 66) (pc' := 72) rfl (hb hby d10_66) rfl ((if0 _ _).trans (tlt ((lw_gt q1 vb).mpr hc66)).2.2.1) (by decide) (by decide) k) ?_
      show GoW p e below QQ (T16.setTop (mkF m 72 #[.val (.ref a1), .val (.long q1), .second, .val (.int (0 : Int32)), .val (.int (1 : Int32)), .val (.int (1 : Int32))] []))
      have hi66 : vb.toInt < q1.toInt := (Int64.lt_iff_toInt_lt.mp hc66)
      refine GoW.st (fun t k => XS.aloadN X16.here hx rfl (hb hby d10_72) rfl rfl k) ?_
      show GoW p e below QQ (T16.setTop (mkF m 73 #[.val (.ref a1), .val (.long q1), .second, .val (.int (0 : Int32)), .val (.int (1 : Int32)), .val (.int (1 : Int32))] [(.ref a1)]))
      obtain ⟨T17, X17, e17, st17⟩ := getF X16 hx hZ hown (host := "") (Or.inl (hw _ (List.mem_of_getElem? (i := 20) rfl))) Via.refl e16 pre_F_a1_values (g := (mkF m 73 #[.val (.ref a1), .val (.long q1), .second, .val (.int (0 : Int32)), .val (.int (1 : Int32)), .val (.int (1 : Int32))] [(.ref a1)])) rfl rfl (hb hby d10_73)
      refine GoW.st st17 ?_
      show GoW p e below QQ (T17.setTop (mkF m 76 #[.val (.ref a1), .val (.long q1), .second, .val (.int (0 : Int32)), .val (.int (1 : Int32)), .val (.int (1 : Int32))] [(.ref a2)]))
      refine GoW.st (fun t k => XS.iloadN X17.here hx rfl (hb hby d10_76) rfl (XS.aloadN X17.here hx rfl (hb hby d10_77) rfl rfl k)) ?_
      show GoW p e below QQ (T17.setTop (mkF m 78 #[.val (.ref a1), .val (.long q1), .second, .val (.int (0 : Int32)), .val (.int (1 : Int32)), .val (.int (1 : Int32))] [(.ref a1), (.int (0 : Int32)), (.ref a2)]))
      obtain ⟨T18, X18, e18, st18⟩ := getF X17 hx hZ hown (host := "") (Or.inl (hw _ (List.mem_of_getElem? (i := 20) rfl))) Via.refl e17 pre_F_a1_values (g := (mkF m 78 #[.val (.ref a1), .val (.long q1), .second, .val (.int (0 : Int32)), .val (.int (1 : Int32)), .val (.int (1 : Int32))] [(.ref a1), (.int (0 : Int32)), (.ref a2)])) rfl rfl (hb hby d10_78)
      refine GoW.st st18 ?_
      show GoW p e below QQ (T18.setTop (mkF m 81 #[.val (.ref a1), .val (.long q1), .second, .val (.int (0 : Int32)), .val (.int (1 : Int32)), .val (.int (1 : Int32))] [(.ref a2), (.int (0 : Int32)), (.ref a2)]))
      refine GoW.st (fun t k => XS.iload X18.here hx rfl (hb hby d10_81) rfl (ldVJ X18 hx hZ e18 pre_V_a2 (v := (.long vb)) ⟨by decide, own_lt_of (by omega)⟩ rfl (g := (mkF m 83 #[.val (.ref a1), .val (.long q1), .second, .val (.int (0 : Int32)), .val (.int (1 : Int32)), .val (.int (1 : Int32))] [(.int (1 : Int32)), (.ref a2), (.int (0 : Int32)), (.ref a2)])) rfl rfl (hb hby d10_83) t k)) ?_
      show GoW p e below QQ (T18.setTop (mkF m 84 #[.val (.ref a1), .val (.long q1), .second, .val (.int (0 : Int32)), .val (.int (1 : Int32)), .val (.int (1 : Int32))] [(.long vb), (.int (0 : Int32)), (.ref a2)]))
      obtain ⟨T19, h19, X19, e19, W19, V19, st19⟩ := stVJ X18 hx hZ e18 pre_V_a2 ⟨by decide, own_lt_of (by omega)⟩ 0 rfl (Nat.le_of_ble_eq_true rfl) (g := (mkF m 84 #[.val (.ref a1), .val (.long q1), .second, .val (.int (0 : Int32)), .val (.int (1 : Int32)), .val (.int (1 : Int32))] [(.long vb), (.int (0 : Int32)), (.ref a2)])) rfl rfl (hb hby d10_84)
      refine GoW.st st19 ?_
      have f20_F_a1_values : Fld Z h19 a1 "com/example/eunomia/eunomia/sticky/LongHeap" "values" "[J" (.ref a2) := pre_F_a1_values.other W19 (Or.inl (Ne.symm pre_a2_a1))
      have f20_F_a1_size : Fld Z h19 a1 "com/example/eunomia/eunomia/sticky/LongHeap" "size" "I" (.int (3 : Int32)) := pre_F_a1_size.other W19 (Or.inl (Ne.symm pre_a2_a1))
      have f20_V_a2 : Arv Z h19 a2 ka .long z [(.long vb), (.long vb), (.long vc), (.long vd)] (.long (0 : Int64)) := V19
      have K19 : Keep h0 h19 [a2] := K0.wr W19 (Or.inl (List.mem_of_getElem? (i := 0) rfl))
      have N19 := Fr.snoc X19 N0 pre_g_a2
      show GoW p e below QQ (T19.setTop (mkF m 85 #[.val (.ref a1), .val (.long q1), .second, .val (.int (0 : Int32)), .val (.int (1 : Int32)), .val (.int (1 : Int32))] []))
      refine GoW.st (fun t k => XS.iload X19.here hx rfl (hb hby d10_85) rfl (XS.istoreN X19.here hx rfl (hb hby d10_87) rfl (l' := #[.val (.ref a1), .val (.long q1), .second, .val (.int (1 : Int32)), .val (.int (1 : Int32)), .val (.int (1 : Int32))]) rfl (XS.goto X19.here hx rfl (pc0 := 88) (pc' := 10) rfl (hb hby d10_88) (by decide) (by decide) (XS.iloadN X19.here hx rfl (hb hby d10_10) rfl (XS.iload X19.here hx rfl (hb hby d10_11) rfl k))))) ?_
      show GoW p e below QQ (T19.setTop (mkF m 13 #[.val (.ref a1), .val (.long q1), .second, .val (.int (1 : Int32)), .val (.int (1 : Int32)), .val (.int (1 : Int32))] [(.int (1 : Int32)), (.int (1 : Int32))]))
      have hc13_2 : ¬ ((1 : Int32) < (1 : Int32)) := by decide
      refine GoW.st (fun t k => XS.icmpYes X19.here hx rfl (pc0 := 13) (pc' := 91) rfl (hb hby d10_13) rfl (flt hc13_2).2.1 (by decide) (by decide) (XS.aloadN X19.here hx rfl (hb hby d10_91) rfl rfl k)) ?_
      show GoW p e below QQ (T19.setTop (mkF m 92 #[.val (.ref a1), .val (.long q1), .second, .val (.int (1 : Int32)), .val (.int (1 : Int32)), .val (.int (1 : Int32))] [(.ref a1)]))
      obtain ⟨T21, X21, e21, st21⟩ := getF X19 hx hZ hown (host := "") (Or.inl (hw _ (List.mem_of_getElem? (i := 20) rfl))) Via.refl e19 f20_F_a1_values (g := (mkF m 92 #[.val (.ref a1), .val (.long q1), .second, .val (.int (1 : Int32)), .val (.int (1 : Int32)), .val (.int (1 : Int32))] [(.ref a1)])) rfl rfl (hb hby d10_92)
      refine GoW.st st21 ?_
      show GoW p e below QQ (T21.setTop (mkF m 95 #[.val (.ref a1), .val (.long q1), .second, .val (.int (1 : Int32)), .val (.int (1 : Int32)), .val (.int (1 : Int32))] [(.ref a2)]))
      refine GoW.st (fun t k => XS.iloadN X21.here hx rfl (hb hby d10_95) rfl (XS.lloadN X21.here hx rfl (hb hby d10_96) rfl k)) ?_
      show GoW p e below QQ (T21.setTop (mkF m 97 #[.val (.ref a1), .val (.long q1), .second, .val (.int (1 : Int32)), .val (.int (1 : Int32)), .val (.int (1 : Int32))] [(.long q1), (.int (1 : Int32)), (.ref a2)]))
      obtain ⟨T22, h22, X22, e22, W22, V22, st22⟩ := stVJ X21 hx hZ e21 f20_V_a2 ⟨by decide, own_lt_of (by omega)⟩ 1 rfl (Nat.le_of_ble_eq_true rfl) (g := (mkF m 97 #[.val (.ref a1), .val (.long q1), .second, .val (.int (1 : Int32)), .val (.int (1 : Int32)), .val (.int (1 : Int32))] [(.long q1), (.int (1 : Int32)), (.ref a2)])) rfl rfl (hb hby d10_97)
      refine GoW.st st22 ?_
      have f23_F_a1_values : Fld Z h22 a1 "com/example/eunomia/eunomia/sticky/LongHeap" "values" "[J" (.ref a2) := f20_F_a1_values.other W22 (Or.inl (Ne.symm pre_a2_a1))
      have f23_F_a1_size : Fld Z h22 a1 "com/example/eunomia/eunomia/sticky/LongHeap" "size" "I" (.int (3 : Int32)) := f20_F_a1_size.other W22 (Or.inl (Ne.symm pre_a2_a1))
      have f23_V_a2 : Arv Z h22 a2 ka .long z [(.long vb), (.long q1), (.long vc), (.long vd)] (.long (0 : Int64)) := V22
      have K22 : Keep h0 h22 [a2] := K19.wr W22 (Or.inl (List.mem_of_getElem? (i := 0) rfl))
      have N22 := Fr.snoc X22 N19 pre_g_a2
      show GoW p e below QQ (T22.setTop (mkF m 98 #[.val (.ref a1), .val (.long q1), .second, .val (.int (1 : Int32)), .val (.int (1 : Int32)), .val (.int (1 : Int32))] []))
      exact GoW.fin X22 none (fun _ => rfl) hlk hQ e22 ⟨vb, q1, vc, vd, rfl, N22, K22, f23_V_a2, (fun f => by omega), (by omega), (by omega)⟩ (by decide) (by decide) (fun fs hr => X22.returnOut hx hret (hb hby d10_98) hr)
    · skip
      refine GoW.st (fun t k => XS.ifNo X16.here hx rfl (hb hby d10_66) rfl ((if0 _ _).trans (flt (fun q => hc66 ((lw_gt q1 vb).mp q))).2.2.1) k) ?_
      show GoW p e below QQ (T16.setTop (mkF m 69 #[.val (.ref a1), .val (.long q1), .second, .val (.int (0 : Int32)), .val (.int (1 : Int32)), .val (.int (1 : Int32))] []))
      have hi66 : ¬ (vb.toInt < q1.toInt) := (fun q => hc66 (Int64.lt_iff_toInt_lt.mpr q))
      refine GoW.st (fun t k => XS.goto X16.here hx rfl (pc0 := 69) (pc' := 91) rfl (hb hby d10_69) (by decide) (by decide) (XS.aloadN X16.here hx rfl (hb hby d10_91) rfl rfl k)) ?_
      show GoW p e below QQ (T16.setTop (mkF m 92 #[.val (.ref a1), .val (.long q1), .second, .val (.int (0 : Int32)), .val (.int (1 : Int32)), .val (.int (1 : Int32))] [(.ref a1)]))
      obtain ⟨T24, X24, e24, st24⟩ := getF X16 hx hZ hown (host := "") (Or.inl (hw _ (List.mem_of_getElem? (i := 20) rfl))) Via.refl e16 pre_F_a1_values (g := (mkF m 92 #[.val (.ref a1), .val (.long q1), .second, .val (.int (0 : Int32)), .val (.int (1 : Int32)), .val (.int (1 : Int32))] [(.ref a1)])) rfl rfl (hb hby d10_92)
      refine GoW.st st24 ?_
      show GoW p e below QQ (T24.setTop (mkF m 95 #[.val (.ref a1), .val (.long q1), .second, .val (.int (0 : Int32)), .val (.int (1 : Int32)), .val (.int (1 : Int32))] [(.ref a2)]))
      refine GoW.st (fun t k => XS.iloadN X24.here hx rfl (hb hby d10_95) rfl (XS.lloadN X24.here hx rfl (hb hby d10_96) rfl k)) ?_
      show GoW p e below QQ (T24.setTop (mkF m 97 #[.val (.ref a1), .val (.long q1), .second, .val (.int (0 : Int32)), .val (.int (1 : Int32)), .val (.int (1 : Int32))] [(.long q1), (.int (0 : Int32)), (.ref a2)]))
      obtain ⟨T25, h25, X25, e25, W25, V25, st25⟩ := stVJ X24 hx hZ e24 pre_V_a2 ⟨by decide, own_lt_of (by omega)⟩ 0 rfl (Nat.le_of_ble_eq_true rfl) (g := (mkF m 97 #[.val (.ref a1), .val (.long q1), .second, .val (.int (0 : Int32)), .val (.int (1 : Int32)), .val (.int (1 : Int32))] [(.long q1), (.int (0 : Int32)), (.ref a2)])) rfl rfl (hb hby d10_97)
      refine GoW.st st25 ?_
      have f26_F_a1_values : Fld Z h25 a1 "com/example/eunomia/eunomia/sticky/LongHeap" "values" "[J" (.ref a2) := pre_F_a1_values.other W25 (Or.inl (Ne.symm pre_a2_a1))
      have f26_F_a1_size : Fld Z h25 a1 "com/example/eunomia/eunomia/sticky/LongHeap" "size" "I" (.int (3 : Int32)) := pre_F_a1_size.other W25 (Or.inl (Ne.symm pre_a2_a1))
      have f26_V_a2 : Arv Z h25 a2 ka .long z [(.long q1), (.long vb), (.long vc), (.long vd)] (.long (0 : Int64)) := V25
      have K25 : Keep h0 h25 [a2] := K0.wr W25 (Or.inl (List.mem_of_getElem? (i := 0) rfl))
      have N25 := Fr.snoc X25 N0 pre_g_a2
      show GoW p e below QQ (T25.setTop (mkF m 98 #[.val (.ref a1), .val (.long q1), .second, .val (.int (0 : Int32)), .val (.int (1 : Int32)), .val (.int (1 : Int32))] []))
      exact GoW.fin X25 none (fun _ => rfl) hlk hQ e25 ⟨q1, vb, vc, vd, rfl, N25, K25, f26_V_a2, (fun f => by omega), (by omega), (by omega)⟩ (by decide) (by decide) (fun fs hr => X25.returnOut hx hret (hb hby d10_98) hr)
theorem d9_0 : decode prog_40_method_5_code 0 = .ok (.aload_n 0, 1) := by decide +kernel
theorem d9_1 : decode prog_40_method_5_code 1 = .ok (.getfield 13, 3) := by decide +kernel
theorem d9_4 : decode prog_40_method_5_code 4 = .ok (.aload_n 0, 1) := by decide +kernel
theorem d9_5 : decode prog_40_method_5_code 5 = .ok (.dup, 1) := by decide +kernel
theorem d9_6 : decode prog_40_method_5_code 6 = .ok (.getfield 19, 3) := by decide +kernel
theorem d9_9 : decode prog_40_method_5_code 9 = .ok (.iconst 1, 1) := by decide +kernel
theorem d9_10 : decode prog_40_method_5_code 10 = .ok (.isub, 1) := by decide +kernel
theorem d9_11 : decode prog_40_method_5_code 11 = .ok (.dup_x1, 1) := by decide +kernel
theorem d9_12 : decode prog_40_method_5_code 12 = .ok (.putfield 19, 3) := by decide +kernel
theorem d9_15 : decode prog_40_method_5_code 15 = .ok (.laload, 1) := by decide +kernel
theorem d9_16 : decode prog_40_method_5_code 16 = .ok (.lstore_n 1, 1) := by decide +kernel
theorem d9_17 : decode prog_40_method_5_code 17 = .ok (.aload_n 0, 1) := by decide +kernel
theorem d9_18 : decode prog_40_method_5_code 18 = .ok (.getfield 19, 3) := by decide +kernel
theorem d9_21 : decode prog_40_method_5_code 21 = .ok (.ifCond .le 8, 3) := by decide +kernel
theorem d9_29 : decode prog_40_method_5_code 29 = .ok (.return_, 1) := by decide +kernel
def RM9_1 : Room := { frames := 0, cells := 0, slots := 0, locals := 0 }
def Q9_1 (Z : State) (a1 : Addr) (a2 : Addr) (ka : ClassId) (z : Int32) (va : Int64) (vb : Int64) (vc : Int64) (vd : Int64) (h0 : Heap) (n0 : Nat) (v : Option Value) (h : Heap) (L : List Loc) : Prop := ∃ (wa : Int64) (wb : Int64) (wc : Int64) (wd : Int64), v = none ∧ Fr n0 L ∧ Keep h0 h [a1, a2] ∧ (Exa Z h a1 "com/example/eunomia/eunomia/sticky/LongHeap") ∧ (Fld Z h a1 "com/example/eunomia/eunomia/sticky/LongHeap" "values" "[J" (.ref a2)) ∧ (Fld Z h a1 "com/example/eunomia/eunomia/sticky/LongHeap" "size" "I" (.int (0 : Int32))) ∧ (Arv Z h a2 ka .long z [(.long wa), (.long wb), (.long wc), (.long wd)] (.long (0 : Int64)))
set_option maxRecDepth 65536 in
set_option maxHeartbeats 40000000 in
theorem rm9_1 (l : Launch) (Z : State) (a0 : Array Value) (hw : ∀ d ∈ tables_1, d.before a0 Z = true) (ws : List Jvm.Cond) (a1 : Addr) (a2 : Addr) (ka : ClassId) (z : Int32) (va : Int64) (vb : Int64) (vc : Int64) (vd : Int64) (h0 : Heap) (n0 : Nat) (Z0 : n0 ≤ h0.size) (pre_E_a1 : Exa Z h0 a1 "com/example/eunomia/eunomia/sticky/LongHeap") (pre_g_a1 : n0 ≤ a1) (pre_g_a2 : n0 ≤ a2) (pre_a2_a1 : a2 ≠ a1) (pre_F_a1_values : Fld Z h0 a1 "com/example/eunomia/eunomia/sticky/LongHeap" "values" "[J" (.ref a2)) (pre_F_a1_size : Fld Z h0 a1 "com/example/eunomia/eunomia/sticky/LongHeap" "size" "I" (.int (1 : Int32))) (pre_V_a2 : Arv Z h0 a2 ka .long z [(.long va), (.long vb), (.long vc), (.long vd)] (.long (0 : Int64))) (hz : 1 ≤ z.toInt) :
    MetFree l (⟨"com/example/eunomia/eunomia/sticky/LongHeap", "remove", "()V"⟩ : MethodName) (head1 (Jvm.Cond.code (⟨"com/example/eunomia/eunomia/sticky/LongHeap", "remove", "()V"⟩ : MethodName) prog_40_method_5_code 3 none :: ws) RM9_1) (fun a U => a = #[(.ref a1)] ∧ Z.Warmed39 U.vm ∧ U.heap = h0) (fun _ _ _ _ _ => True) (fun _ U o U' => ∃ v L, o = .returned v ∧ Q9_1 Z a1 a2 ka z va vb vc vd h0 n0 v U'.heap L ∧ FrameEnd U o U' L RM9_1.cells RM9_1.slots) := by
  refine met_of (Q := fun v h L => Q9_1 Z a1 a2 ka z va vb vc vd h0 n0 v h L) (plainFor_of_name pn_0) (fun m => by first | (simp [entryFrame, mkF, argsToLocals, Value.category]; done) | rfl) (Ls := #[.val (.ref a1), .unset, .unset]) ?_
  intro p e s m below meth c T0 QQ hx hZ hby hml hown hnm hret hlk X0 e0 hQ
  have hml : c.maxLocals = 3 := hml
  have hown : s.vm.findClass "com/example/eunomia/eunomia/sticky/LongHeap" = some m.cls := hown
  have hnm : meth.name = "remove" := hnm
  have hret : meth.sig.returnType = none := hret
  have N0 := Fr.nil n0
  have K0 : Keep h0 h0 [a1, a2] := Keep.refl h0 _
  show GoW p e below QQ (T0.setTop (mkF m 0 #[.val (.ref a1), .unset, .unset] []))
  have z0 : (0 : Int32).toInt = 0 := rfl
  have z1 : (1 : Int32).toInt = 1 := rfl
  have z2 : (2 : Int32).toInt = 2 := rfl
  have z3 : (3 : Int32).toInt = 3 := rfl
  refine GoW.st (fun t k => XS.aloadN X0.here hx rfl (hb hby d9_0) rfl rfl k) ?_
  show GoW p e below QQ (T0.setTop (mkF m 1 #[.val (.ref a1), .unset, .unset] [(.ref a1)]))
  obtain ⟨T1, X1, e1, st1⟩ := getF X0 hx hZ hown (host := "") (Or.inl (hw _ (List.mem_of_getElem? (i := 20) rfl))) Via.refl e0 pre_F_a1_values (g := (mkF m 1 #[.val (.ref a1), .unset, .unset] [(.ref a1)])) rfl rfl (hb hby d9_1)
  refine GoW.st st1 ?_
  show GoW p e below QQ (T1.setTop (mkF m 4 #[.val (.ref a1), .unset, .unset] [(.ref a2)]))
  refine GoW.st (fun t k => XS.aloadN X1.here hx rfl (hb hby d9_4) rfl rfl (XS.dup X1.here hx rfl (hb hby d9_5) rfl rfl k)) ?_
  show GoW p e below QQ (T1.setTop (mkF m 6 #[.val (.ref a1), .unset, .unset] [(.ref a1), (.ref a1), (.ref a2)]))
  obtain ⟨T2, X2, e2, st2⟩ := getF X1 hx hZ hown (host := "") (Or.inl (hw _ (List.mem_of_getElem? (i := 27) rfl))) Via.refl e1 pre_F_a1_size (g := (mkF m 6 #[.val (.ref a1), .unset, .unset] [(.ref a1), (.ref a1), (.ref a2)])) rfl rfl (hb hby d9_6)
  refine GoW.st st2 ?_
  show GoW p e below QQ (T2.setTop (mkF m 9 #[.val (.ref a1), .unset, .unset] [(.int (1 : Int32)), (.ref a1), (.ref a2)]))
  refine GoW.st (fun t k => XS.iconst X2.here hx rfl (hb hby d9_9) (XS.isub X2.here hx rfl (hb hby d9_10) rfl (XS.dupX1 X2.here hx rfl (hb hby d9_11) rfl rfl rfl k))) ?_
  show GoW p e below QQ (T2.setTop (mkF m 12 #[.val (.ref a1), .unset, .unset] [(.int (0 : Int32)), (.ref a1), (.int (0 : Int32)), (.ref a2)]))
  obtain ⟨T3, h3, X3, e3, W3, st3⟩ := putF X2 hx hZ hown (host := "") (Or.inl (hw _ (List.mem_of_getElem? (i := 27) rfl))) Via.refl e2 pre_F_a1_size pre_E_a1 (Or.inl (hw _ (List.mem_of_getElem? (i := 28) rfl))) (hw _ (List.mem_of_getElem? (i := 8) rfl)) (ty := .int) (by decide) rfl rfl (g := (mkF m 12 #[.val (.ref a1), .unset, .unset] [(.int (0 : Int32)), (.ref a1), (.int (0 : Int32)), (.ref a2)])) rfl rfl (hb hby d9_12)
  refine GoW.st st3 ?_
  have f4_E_a1 : Exa Z h3 a1 "com/example/eunomia/eunomia/sticky/LongHeap" := pre_E_a1.wr W3
  have f4_F_a1_values : Fld Z h3 a1 "com/example/eunomia/eunomia/sticky/LongHeap" "values" "[J" (.ref a2) := pre_F_a1_values.other W3 (Or.inr (slot_ne (Or.inl (hw _ (List.mem_of_getElem? (i := 21) rfl))) (Or.inl (hw _ (List.mem_of_getElem? (i := 28) rfl))) (by decide) (t := (.array .long)) (t' := .int) (by decide) (by decide)))
  have f4_F_a1_size : Fld Z h3 a1 "com/example/eunomia/eunomia/sticky/LongHeap" "size" "I" (.int (0 : Int32)) := pre_F_a1_size.same W3
  have f4_V_a2 : Arv Z h3 a2 ka .long z [(.long va), (.long vb), (.long vc), (.long vd)] (.long (0 : Int64)) := pre_V_a2.other W3 pre_a2_a1
  have K3 : Keep h0 h3 [a1, a2] := K0.wr W3 (Or.inl (List.mem_of_getElem? (i := 0) rfl))
  have N3 := Fr.snoc X3 N0 pre_g_a1
  show GoW p e below QQ (T3.setTop (mkF m 15 #[.val (.ref a1), .unset, .unset] [(.int (0 : Int32)), (.ref a2)]))
  refine GoW.st (fun t k => ldVJ X3 hx hZ e3 f4_V_a2 (v := (.long va)) ⟨by decide, own_lt_of (by omega)⟩ rfl (g := (mkF m 15 #[.val (.ref a1), .unset, .unset] [(.int (0 : Int32)), (.ref a2)])) rfl rfl (hb hby d9_15) t (XS.lstoreN X3.here hx rfl (hb hby d9_16) rfl (l' := #[.val (.ref a1), .val (.long va), .second]) rfl (XS.aloadN X3.here hx rfl (hb hby d9_17) rfl rfl k))) ?_
  show GoW p e below QQ (T3.setTop (mkF m 18 #[.val (.ref a1), .val (.long va), .second] [(.ref a1)]))
  obtain ⟨T5, X5, e5, st5⟩ := getF X3 hx hZ hown (host := "") (Or.inl (hw _ (List.mem_of_getElem? (i := 27) rfl))) Via.refl e3 f4_F_a1_size (g := (mkF m 18 #[.val (.ref a1), .val (.long va), .second] [(.ref a1)])) rfl rfl (hb hby d9_18)
  refine GoW.st st5 ?_
  show GoW p e below QQ (T5.setTop (mkF m 21 #[.val (.ref a1), .val (.long va), .second] [(.int (0 : Int32))]))
  have hc21 : ¬ ((0 : Int32) < (0 : Int32)) := by decide
  refine GoW.st (fun t k => XS.ifYes X5.here hx rfl (pc0 := 21) (pc' := 29) rfl (hb hby d9_21) rfl ((if0 _ _).trans (flt hc21).2.2.2) (by decide) (by decide) k) ?_
  show GoW p e below QQ (T5.setTop (mkF m 29 #[.val (.ref a1), .val (.long va), .second] []))
  exact GoW.fin X5 none (fun _ => rfl) hlk hQ e5 ⟨va, vb, vc, vd, rfl, N3, K3, f4_E_a1, f4_F_a1_values, f4_F_a1_size, f4_V_a2⟩ (by decide) (by decide) (fun fs hr => X5.returnOut hx hret (hb hby d9_29) hr)
theorem d9_24 : decode prog_40_method_5_code 24 = .ok (.aload_n 0, 1) := by decide +kernel
theorem d9_25 : decode prog_40_method_5_code 25 = .ok (.lload_n 1, 1) := by decide +kernel
theorem d9_26 : decode prog_40_method_5_code 26 = .ok (.invokevirtual 29, 3) := by decide +kernel
theorem pd_2 : parseMethodDescriptor "(J)V" = some ⟨[.long], none⟩ := by decide +kernel
def RM9_2 : Room := { frames := 1, cells := 0, slots := 0, locals := 17 }
def Q9_2 (Z : State) (a1 : Addr) (a2 : Addr) (ka : ClassId) (z : Int32) (va : Int64) (vb : Int64) (vc : Int64) (vd : Int64) (h0 : Heap) (n0 : Nat) (v : Option Value) (h : Heap) (L : List Loc) : Prop := ∃ (wa : Int64) (wb : Int64) (wc : Int64) (wd : Int64), v = none ∧ Fr n0 L ∧ Keep h0 h [a1, a2] ∧ (Exa Z h a1 "com/example/eunomia/eunomia/sticky/LongHeap") ∧ (Fld Z h a1 "com/example/eunomia/eunomia/sticky/LongHeap" "values" "[J" (.ref a2)) ∧ (Fld Z h a1 "com/example/eunomia/eunomia/sticky/LongHeap" "size" "I" (.int (1 : Int32))) ∧ (Arv Z h a2 ka .long z [(.long wa), (.long wb), (.long wc), (.long wd)] (.long (0 : Int64))) ∧ (∀ f : Int64 → Int, f wa + f va = f va + f vb) ∧ (va.toInt ≤ wa.toInt)
set_option maxRecDepth 65536 in
set_option maxHeartbeats 40000000 in
theorem rm9_2 (l : Launch) (Z : State) (a0 : Array Value) (hw : ∀ d ∈ tables_1, d.before a0 Z = true) (ws : List Jvm.Cond) (a1 : Addr) (a2 : Addr) (ka : ClassId) (z : Int32) (va : Int64) (vb : Int64) (vc : Int64) (vd : Int64) (h0 : Heap) (n0 : Nat) (Z0 : n0 ≤ h0.size) (pre_E_a1 : Exa Z h0 a1 "com/example/eunomia/eunomia/sticky/LongHeap") (pre_g_a1 : n0 ≤ a1) (pre_g_a2 : n0 ≤ a2) (pre_a2_a1 : a2 ≠ a1) (pre_F_a1_values : Fld Z h0 a1 "com/example/eunomia/eunomia/sticky/LongHeap" "values" "[J" (.ref a2)) (pre_F_a1_size : Fld Z h0 a1 "com/example/eunomia/eunomia/sticky/LongHeap" "size" "I" (.int (2 : Int32))) (pre_V_a2 : Arv Z h0 a2 ka .long z [(.long va), (.long vb), (.long vc), (.long vd)] (.long (0 : Int64))) (hz : 2 ≤ z.toInt) (ho : va.toInt ≤ vb.toInt) :
    MetFree l (⟨"com/example/eunomia/eunomia/sticky/LongHeap", "remove", "()V"⟩ : MethodName) (head1 (Jvm.Cond.code (⟨"com/example/eunomia/eunomia/sticky/LongHeap", "remove", "()V"⟩ : MethodName) prog_40_method_5_code 3 none :: ws) RM9_2) (fun a U => a = #[(.ref a1)] ∧ Z.Warmed39 U.vm ∧ U.heap = h0) (fun _ _ _ _ _ => True) (fun _ U o U' => ∃ v L, o = .returned v ∧ Q9_2 Z a1 a2 ka z va vb vc vd h0 n0 v U'.heap L ∧ FrameEnd U o U' L RM9_2.cells RM9_2.slots) := by
  refine met_of (Q := fun v h L => Q9_2 Z a1 a2 ka z va vb vc vd h0 n0 v h L) (plainFor_of_name pn_0) (fun m => by first | (simp [entryFrame, mkF, argsToLocals, Value.category]; done) | rfl) (Ls := #[.val (.ref a1), .unset, .unset]) ?_
  intro p e s m below meth c T0 QQ hx hZ hby hml hown hnm hret hlk X0 e0 hQ
  have hml : c.maxLocals = 3 := hml
  have hown : s.vm.findClass "com/example/eunomia/eunomia/sticky/LongHeap" = some m.cls := hown
  have hnm : meth.name = "remove" := hnm
  have hret : meth.sig.returnType = none := hret
  have N0 := Fr.nil n0
  have K0 : Keep h0 h0 [a1, a2] := Keep.refl h0 _
  show GoW p e below QQ (T0.setTop (mkF m 0 #[.val (.ref a1), .unset, .unset] []))
  have z0 : (0 : Int32).toInt = 0 := rfl
  have z1 : (1 : Int32).toInt = 1 := rfl
  have z2 : (2 : Int32).toInt = 2 := rfl
  have z3 : (3 : Int32).toInt = 3 := rfl
  refine GoW.st (fun t k => XS.aloadN X0.here hx rfl (hb hby d9_0) rfl rfl k) ?_
  show GoW p e below QQ (T0.setTop (mkF m 1 #[.val (.ref a1), .unset, .unset] [(.ref a1)]))
  obtain ⟨T1, X1, e1, st1⟩ := getF X0 hx hZ hown (host := "") (Or.inl (hw _ (List.mem_of_getElem? (i := 20) rfl))) Via.refl e0 pre_F_a1_values (g := (mkF m 1 #[.val (.ref a1), .unset, .unset] [(.ref a1)])) rfl rfl (hb hby d9_1)
  refine GoW.st st1 ?_
  show GoW p e below QQ (T1.setTop (mkF m 4 #[.val (.ref a1), .unset, .unset] [(.ref a2)]))
  refine GoW.st (fun t k => XS.aloadN X1.here hx rfl (hb hby d9_4) rfl rfl (XS.dup X1.here hx rfl (hb hby d9_5) rfl rfl k)) ?_
  show GoW p e below QQ (T1.setTop (mkF m 6 #[.val (.ref a1), .unset, .unset] [(.ref a1), (.ref a1), (.ref a2)]))
  obtain ⟨T2, X2, e2, st2⟩ := getF X1 hx hZ hown (host := "") (Or.inl (hw _ (List.mem_of_getElem? (i := 27) rfl))) Via.refl e1 pre_F_a1_size (g := (mkF m 6 #[.val (.ref a1), .unset, .unset] [(.ref a1), (.ref a1), (.ref a2)])) rfl rfl (hb hby d9_6)
  refine GoW.st st2 ?_
  show GoW p e below QQ (T2.setTop (mkF m 9 #[.val (.ref a1), .unset, .unset] [(.int (2 : Int32)), (.ref a1), (.ref a2)]))
  refine GoW.st (fun t k => XS.iconst X2.here hx rfl (hb hby d9_9) (XS.isub X2.here hx rfl (hb hby d9_10) rfl (XS.dupX1 X2.here hx rfl (hb hby d9_11) rfl rfl rfl k))) ?_
  show GoW p e below QQ (T2.setTop (mkF m 12 #[.val (.ref a1), .unset, .unset] [(.int (1 : Int32)), (.ref a1), (.int (1 : Int32)), (.ref a2)]))
  obtain ⟨T3, h3, X3, e3, W3, st3⟩ := putF X2 hx hZ hown (host := "") (Or.inl (hw _ (List.mem_of_getElem? (i := 27) rfl))) Via.refl e2 pre_F_a1_size pre_E_a1 (Or.inl (hw _ (List.mem_of_getElem? (i := 28) rfl))) (hw _ (List.mem_of_getElem? (i := 8) rfl)) (ty := .int) (by decide) rfl rfl (g := (mkF m 12 #[.val (.ref a1), .unset, .unset] [(.int (1 : Int32)), (.ref a1), (.int (1 : Int32)), (.ref a2)])) rfl rfl (hb hby d9_12)
  refine GoW.st st3 ?_
  have f4_E_a1 : Exa Z h3 a1 "com/example/eunomia/eunomia/sticky/LongHeap" := pre_E_a1.wr W3
  have f4_F_a1_values : Fld Z h3 a1 "com/example/eunomia/eunomia/sticky/LongHeap" "values" "[J" (.ref a2) := pre_F_a1_values.other W3 (Or.inr (slot_ne (Or.inl (hw _ (List.mem_of_getElem? (i := 21) rfl))) (Or.inl (hw _ (List.mem_of_getElem? (i := 28) rfl))) (by decide) (t := (.array .long)) (t' := .int) (by decide) (by decide)))
  have f4_F_a1_size : Fld Z h3 a1 "com/example/eunomia/eunomia/sticky/LongHeap" "size" "I" (.int (1 : Int32)) := pre_F_a1_size.same W3
  have f4_V_a2 : Arv Z h3 a2 ka .long z [(.long va), (.long vb), (.long vc), (.long vd)] (.long (0 : Int64)) := pre_V_a2.other W3 pre_a2_a1
  have K3 : Keep h0 h3 [a1, a2] := K0.wr W3 (Or.inl (List.mem_of_getElem? (i := 0) rfl))
  have N3 := Fr.snoc X3 N0 pre_g_a1
  show GoW p e below QQ (T3.setTop (mkF m 15 #[.val (.ref a1), .unset, .unset] [(.int (1 : Int32)), (.ref a2)]))
  refine GoW.st (fun t k => ldVJ X3 hx hZ e3 f4_V_a2 (v := (.long vb)) ⟨by decide, own_lt_of (by omega)⟩ rfl (g := (mkF m 15 #[.val (.ref a1), .unset, .unset] [(.int (1 : Int32)), (.ref a2)])) rfl rfl (hb hby d9_15) t (XS.lstoreN X3.here hx rfl (hb hby d9_16) rfl (l' := #[.val (.ref a1), .val (.long vb), .second]) rfl (XS.aloadN X3.here hx rfl (hb hby d9_17) rfl rfl k))) ?_
  show GoW p e below QQ (T3.setTop (mkF m 18 #[.val (.ref a1), .val (.long vb), .second] [(.ref a1)]))
  obtain ⟨T5, X5, e5, st5⟩ := getF X3 hx hZ hown (host := "") (Or.inl (hw _ (List.mem_of_getElem? (i := 27) rfl))) Via.refl e3 f4_F_a1_size (g := (mkF m 18 #[.val (.ref a1), .val (.long vb), .second] [(.ref a1)])) rfl rfl (hb hby d9_18)
  refine GoW.st st5 ?_
  show GoW p e below QQ (T5.setTop (mkF m 21 #[.val (.ref a1), .val (.long vb), .second] [(.int (1 : Int32))]))
  have hc21 : (0 : Int32) < (1 : Int32) := by decide
  refine GoW.st (fun t k => XS.ifNo X5.here hx rfl (hb hby d9_21) rfl ((if0 _ _).trans (tlt hc21).2.2.2) (XS.aloadN X5.here hx rfl (hb hby d9_24) rfl rfl (XS.lloadN X5.here hx rfl (hb hby d9_25) rfl k))) ?_
  show GoW p e below QQ (T5.setTop (mkF m 26 #[.val (.ref a1), .val (.long vb), .second] [(.long vb), (.ref a1)]))
  obtain ⟨cq6, qa6, qb6⟩ := f4_E_a1.cell
  obtain ⟨_, _, ⟨T6, zL6, zk6, zn6⟩, -, X6, ⟨Lc6, hQ6, zl6, zy6, zz6⟩, st6⟩ := X5.privateBack hx (y := (⟨"com/example/eunomia/eunomia/sticky/LongHeap", "siftDown", "(J)V"⟩ : MethodName)) hown (mvT hZ (hw _ (List.mem_of_getElem? (i := 45) rfl))) (mvT hZ (hw _ (List.mem_of_getElem? (i := 46) rfl))) (selOwn (mvT hZ (hw _ (List.mem_of_getElem? (i := 46) rfl))) (Cond.privateMethod_at (mvP hZ (hw _ (List.mem_of_getElem? (i := 47) rfl)) (args := #[]))) (mvT hZ (hw _ (List.mem_of_getElem? (i := 25) rfl))) rfl (by decide)) (Cond.privateMethod_at (mvP hZ (hw _ (List.mem_of_getElem? (i := 47) rfl)) (args := #[]))) (mvT hZ (hw _ (List.mem_of_getElem? (i := 48) rfl))) (by decide) (backOf (W := 0) (rm10_1 l Z a0 hw [] a1 vb a2 ka z va vb vc vd h3 n0 (Nat.le_trans Z0 K3.1) pre_g_a2 pre_a2_a1 f4_F_a1_values f4_F_a1_size f4_V_a2 (by omega) (by omega)) hZ (hw _ (List.mem_of_getElem? (i := 48) rfl)) (hw _ (List.mem_of_getElem? (i := 9) rfl)) (by decide) (by decide)) (g := (mkF m 26 #[.val (.ref a1), .val (.long vb), .second] [(.long vb), (.ref a1)])) rfl (by rw [hml]; rfl) (Steps.refl _) (a := a1) (by rw [e5]; exact qa6) qb6 (argsL := [(.long vb)]) (rest := []) (lenOf pd_2 rfl) rfl (by show 2 * 0 + _ ≤ _; exact Nat.le_of_eq rfl) (hb hby d9_26) (fun _ _ => ⟨rfl, e5, (by decide : 0 + 0 ≤ _), (by decide : 0 + 0 ≤ _)⟩)
  dsimp only [Pt.U, Pt.locs, Pt.cells, Pt.slots] at X6 zl6 zy6 zz6 st6 hQ6
  subst zl6 zy6 zz6
  obtain ⟨wa_26, wb_26, wc_26, wd_26, rfl, Nq6, Kq6, p6_0, p6_1, p6_2⟩ := hQ6
  have N6 := Fr.app N3 Nq6
  refine GoW.st (fun t k => st6.trans k) ?_
  have f7_E_a1 : Exa Z T6.heap a1 "com/example/eunomia/eunomia/sticky/LongHeap" := f4_E_a1.keep Kq6
  have f7_F_a1_values : Fld Z T6.heap a1 "com/example/eunomia/eunomia/sticky/LongHeap" "values" "[J" (.ref a2) := f4_F_a1_values.keep Kq6 (ninS (Ne.symm pre_a2_a1) nin0)
  have f7_F_a1_size : Fld Z T6.heap a1 "com/example/eunomia/eunomia/sticky/LongHeap" "size" "I" (.int (1 : Int32)) := f4_F_a1_size.keep Kq6 (ninS (Ne.symm pre_a2_a1) nin0)
  have K6 : Keep h0 T6.heap [a1, a2] := K3.trans Kq6 (allS (Or.inl (List.mem_of_getElem? (i := 1) rfl)) all0)
  have hf_26 := p6_1
  have hlw_26 := p6_2
  show GoW p e below QQ (T6.setTop (mkF m 29 #[.val (.ref a1), .val (.long vb), .second] []))
  exact GoW.fin X6 none (fun _ => rfl) hlk hQ rfl ⟨wa_26, wb_26, wc_26, wd_26, rfl, N6, K6, f7_E_a1, f7_F_a1_values, f7_F_a1_size, p6_0, (fun f => by have q := hf_26 f; omega), hlw_26⟩ (by decide) (by decide) (fun fs hr => X6.returnOut hx hret (hb hby d9_29) hr)
def RM9_3 : Room := { frames := 1, cells := 0, slots := 0, locals := 17 }
def Q9_3 (Z : State) (a1 : Addr) (a2 : Addr) (ka : ClassId) (z : Int32) (va : Int64) (vb : Int64) (vc : Int64) (vd : Int64) (h0 : Heap) (n0 : Nat) (v : Option Value) (h : Heap) (L : List Loc) : Prop := ∃ (wa : Int64) (wb : Int64) (wc : Int64) (wd : Int64), v = none ∧ Fr n0 L ∧ Keep h0 h [a1, a2] ∧ (Exa Z h a1 "com/example/eunomia/eunomia/sticky/LongHeap") ∧ (Fld Z h a1 "com/example/eunomia/eunomia/sticky/LongHeap" "values" "[J" (.ref a2)) ∧ (Fld Z h a1 "com/example/eunomia/eunomia/sticky/LongHeap" "size" "I" (.int (2 : Int32))) ∧ (Arv Z h a2 ka .long z [(.long wa), (.long wb), (.long wc), (.long wd)] (.long (0 : Int64))) ∧ (∀ f : Int64 → Int, f wa + f wb + f va = f va + f vb + f vc) ∧ (va.toInt ≤ wa.toInt) ∧ (wa.toInt ≤ wb.toInt)
set_option maxRecDepth 65536 in
set_option maxHeartbeats 40000000 in
theorem rm9_3 (l : Launch) (Z : State) (a0 : Array Value) (hw : ∀ d ∈ tables_1, d.before a0 Z = true) (ws : List Jvm.Cond) (a1 : Addr) (a2 : Addr) (ka : ClassId) (z : Int32) (va : Int64) (vb : Int64) (vc : Int64) (vd : Int64) (h0 : Heap) (n0 : Nat) (Z0 : n0 ≤ h0.size) (pre_E_a1 : Exa Z h0 a1 "com/example/eunomia/eunomia/sticky/LongHeap") (pre_g_a1 : n0 ≤ a1) (pre_g_a2 : n0 ≤ a2) (pre_a2_a1 : a2 ≠ a1) (pre_F_a1_values : Fld Z h0 a1 "com/example/eunomia/eunomia/sticky/LongHeap" "values" "[J" (.ref a2)) (pre_F_a1_size : Fld Z h0 a1 "com/example/eunomia/eunomia/sticky/LongHeap" "size" "I" (.int (3 : Int32))) (pre_V_a2 : Arv Z h0 a2 ka .long z [(.long va), (.long vb), (.long vc), (.long vd)] (.long (0 : Int64))) (hz : 3 ≤ z.toInt) (ho : va.toInt ≤ vb.toInt ∧ va.toInt ≤ vc.toInt) :
    MetFree l (⟨"com/example/eunomia/eunomia/sticky/LongHeap", "remove", "()V"⟩ : MethodName) (head1 (Jvm.Cond.code (⟨"com/example/eunomia/eunomia/sticky/LongHeap", "remove", "()V"⟩ : MethodName) prog_40_method_5_code 3 none :: ws) RM9_3) (fun a U => a = #[(.ref a1)] ∧ Z.Warmed39 U.vm ∧ U.heap = h0) (fun _ _ _ _ _ => True) (fun _ U o U' => ∃ v L, o = .returned v ∧ Q9_3 Z a1 a2 ka z va vb vc vd h0 n0 v U'.heap L ∧ FrameEnd U o U' L RM9_3.cells RM9_3.slots) := by
  refine met_of (Q := fun v h L => Q9_3 Z a1 a2 ka z va vb vc vd h0 n0 v h L) (plainFor_of_name pn_0) (fun m => by first | (simp [entryFrame, mkF, argsToLocals, Value.category]; done) | rfl) (Ls := #[.val (.ref a1), .unset, .unset]) ?_
  intro p e s m below meth c T0 QQ hx hZ hby hml hown hnm hret hlk X0 e0 hQ
  have hml : c.maxLocals = 3 := hml
  have hown : s.vm.findClass "com/example/eunomia/eunomia/sticky/LongHeap" = some m.cls := hown
  have hnm : meth.name = "remove" := hnm
  have hret : meth.sig.returnType = none := hret
  have N0 := Fr.nil n0
  have K0 : Keep h0 h0 [a1, a2] := Keep.refl h0 _
  show GoW p e below QQ (T0.setTop (mkF m 0 #[.val (.ref a1), .unset, .unset] []))
  have z0 : (0 : Int32).toInt = 0 := rfl
  have z1 : (1 : Int32).toInt = 1 := rfl
  have z2 : (2 : Int32).toInt = 2 := rfl
  have z3 : (3 : Int32).toInt = 3 := rfl
  refine GoW.st (fun t k => XS.aloadN X0.here hx rfl (hb hby d9_0) rfl rfl k) ?_
  show GoW p e below QQ (T0.setTop (mkF m 1 #[.val (.ref a1), .unset, .unset] [(.ref a1)]))
  obtain ⟨T1, X1, e1, st1⟩ := getF X0 hx hZ hown (host := "") (Or.inl (hw _ (List.mem_of_getElem? (i := 20) rfl))) Via.refl e0 pre_F_a1_values (g := (mkF m 1 #[.val (.ref a1), .unset, .unset] [(.ref a1)])) rfl rfl (hb hby d9_1)
  refine GoW.st st1 ?_
  show GoW p e below QQ (T1.setTop (mkF m 4 #[.val (.ref a1), .unset, .unset] [(.ref a2)]))
  refine GoW.st (fun t k => XS.aloadN X1.here hx rfl (hb hby d9_4) rfl rfl (XS.dup X1.here hx rfl (hb hby d9_5) rfl rfl k)) ?_
  show GoW p e below QQ (T1.setTop (mkF m 6 #[.val (.ref a1), .unset, .unset] [(.ref a1), (.ref a1), (.ref a2)]))
  obtain ⟨T2, X2, e2, st2⟩ := getF X1 hx hZ hown (host := "") (Or.inl (hw _ (List.mem_of_getElem? (i := 27) rfl))) Via.refl e1 pre_F_a1_size (g := (mkF m 6 #[.val (.ref a1), .unset, .unset] [(.ref a1), (.ref a1), (.ref a2)])) rfl rfl (hb hby d9_6)
  refine GoW.st st2 ?_
  show GoW p e below QQ (T2.setTop (mkF m 9 #[.val (.ref a1), .unset, .unset] [(.int (3 : Int32)), (.ref a1), (.ref a2)]))
  refine GoW.st (fun t k => XS.iconst X2.here hx rfl (hb hby d9_9) (XS.isub X2.here hx rfl (hb hby d9_10) rfl (XS.dupX1 X2.here hx rfl (hb hby d9_11) rfl rfl rfl k))) ?_
  show GoW p e below QQ (T2.setTop (mkF m 12 #[.val (.ref a1), .unset, .unset] [(.int (2 : Int32)), (.ref a1), (.int (2 : Int32)), (.ref a2)]))
  obtain ⟨T3, h3, X3, e3, W3, st3⟩ := putF X2 hx hZ hown (host := "") (Or.inl (hw _ (List.mem_of_getElem? (i := 27) rfl))) Via.refl e2 pre_F_a1_size pre_E_a1 (Or.inl (hw _ (List.mem_of_getElem? (i := 28) rfl))) (hw _ (List.mem_of_getElem? (i := 8) rfl)) (ty := .int) (by decide) rfl rfl (g := (mkF m 12 #[.val (.ref a1), .unset, .unset] [(.int (2 : Int32)), (.ref a1), (.int (2 : Int32)), (.ref a2)])) rfl rfl (hb hby d9_12)
  refine GoW.st st3 ?_
  have f4_E_a1 : Exa Z h3 a1 "com/example/eunomia/eunomia/sticky/LongHeap" := pre_E_a1.wr W3
  have f4_F_a1_values : Fld Z h3 a1 "com/example/eunomia/eunomia/sticky/LongHeap" "values" "[J" (.ref a2) := pre_F_a1_values.other W3 (Or.inr (slot_ne (Or.inl (hw _ (List.mem_of_getElem? (i := 21) rfl))) (Or.inl (hw _ (List.mem_of_getElem? (i := 28) rfl))) (by decide) (t := (.array .long)) (t' := .int) (by decide) (by decide)))
  have f4_F_a1_size : Fld Z h3 a1 "com/example/eunomia/eunomia/sticky/LongHeap" "size" "I" (.int (2 : Int32)) := pre_F_a1_size.same W3
  have f4_V_a2 : Arv Z h3 a2 ka .long z [(.long va), (.long vb), (.long vc), (.long vd)] (.long (0 : Int64)) := pre_V_a2.other W3 pre_a2_a1
  have K3 : Keep h0 h3 [a1, a2] := K0.wr W3 (Or.inl (List.mem_of_getElem? (i := 0) rfl))
  have N3 := Fr.snoc X3 N0 pre_g_a1
  show GoW p e below QQ (T3.setTop (mkF m 15 #[.val (.ref a1), .unset, .unset] [(.int (2 : Int32)), (.ref a2)]))
  refine GoW.st (fun t k => ldVJ X3 hx hZ e3 f4_V_a2 (v := (.long vc)) ⟨by decide, own_lt_of (by omega)⟩ rfl (g := (mkF m 15 #[.val (.ref a1), .unset, .unset] [(.int (2 : Int32)), (.ref a2)])) rfl rfl (hb hby d9_15) t (XS.lstoreN X3.here hx rfl (hb hby d9_16) rfl (l' := #[.val (.ref a1), .val (.long vc), .second]) rfl (XS.aloadN X3.here hx rfl (hb hby d9_17) rfl rfl k))) ?_
  show GoW p e below QQ (T3.setTop (mkF m 18 #[.val (.ref a1), .val (.long vc), .second] [(.ref a1)]))
  obtain ⟨T5, X5, e5, st5⟩ := getF X3 hx hZ hown (host := "") (Or.inl (hw _ (List.mem_of_getElem? (i := 27) rfl))) Via.refl e3 f4_F_a1_size (g := (mkF m 18 #[.val (.ref a1), .val (.long vc), .second] [(.ref a1)])) rfl rfl (hb hby d9_18)
  refine GoW.st st5 ?_
  show GoW p e below QQ (T5.setTop (mkF m 21 #[.val (.ref a1), .val (.long vc), .second] [(.int (2 : Int32))]))
  have hc21 : (0 : Int32) < (2 : Int32) := by decide
  refine GoW.st (fun t k => XS.ifNo X5.here hx rfl (hb hby d9_21) rfl ((if0 _ _).trans (tlt hc21).2.2.2) (XS.aloadN X5.here hx rfl (hb hby d9_24) rfl rfl (XS.lloadN X5.here hx rfl (hb hby d9_25) rfl k))) ?_
  show GoW p e below QQ (T5.setTop (mkF m 26 #[.val (.ref a1), .val (.long vc), .second] [(.long vc), (.ref a1)]))
  obtain ⟨cq6, qa6, qb6⟩ := f4_E_a1.cell
  obtain ⟨_, _, ⟨T6, zL6, zk6, zn6⟩, -, X6, ⟨Lc6, hQ6, zl6, zy6, zz6⟩, st6⟩ := X5.privateBack hx (y := (⟨"com/example/eunomia/eunomia/sticky/LongHeap", "siftDown", "(J)V"⟩ : MethodName)) hown (mvT hZ (hw _ (List.mem_of_getElem? (i := 45) rfl))) (mvT hZ (hw _ (List.mem_of_getElem? (i := 46) rfl))) (selOwn (mvT hZ (hw _ (List.mem_of_getElem? (i := 46) rfl))) (Cond.privateMethod_at (mvP hZ (hw _ (List.mem_of_getElem? (i := 47) rfl)) (args := #[]))) (mvT hZ (hw _ (List.mem_of_getElem? (i := 25) rfl))) rfl (by decide)) (Cond.privateMethod_at (mvP hZ (hw _ (List.mem_of_getElem? (i := 47) rfl)) (args := #[]))) (mvT hZ (hw _ (List.mem_of_getElem? (i := 48) rfl))) (by decide) (backOf (W := 0) (rm10_2 l Z a0 hw [] a1 vc a2 ka z va vb vc vd h3 n0 (Nat.le_trans Z0 K3.1) pre_g_a2 pre_a2_a1 f4_F_a1_values f4_F_a1_size f4_V_a2 (by omega) (by omega) (by omega)) hZ (hw _ (List.mem_of_getElem? (i := 48) rfl)) (hw _ (List.mem_of_getElem? (i := 9) rfl)) (by decide) (by decide)) (g := (mkF m 26 #[.val (.ref a1), .val (.long vc), .second] [(.long vc), (.ref a1)])) rfl (by rw [hml]; rfl) (Steps.refl _) (a := a1) (by rw [e5]; exact qa6) qb6 (argsL := [(.long vc)]) (rest := []) (lenOf pd_2 rfl) rfl (by show 2 * 0 + _ ≤ _; exact Nat.le_of_eq rfl) (hb hby d9_26) (fun _ _ => ⟨rfl, e5, (by decide : 0 + 0 ≤ _), (by decide : 0 + 0 ≤ _)⟩)
  dsimp only [Pt.U, Pt.locs, Pt.cells, Pt.slots] at X6 zl6 zy6 zz6 st6 hQ6
  subst zl6 zy6 zz6
  obtain ⟨wa_26, wb_26, wc_26, wd_26, rfl, Nq6, Kq6, p6_0, p6_1, p6_2, p6_3⟩ := hQ6
  have N6 := Fr.app N3 Nq6
  refine GoW.st (fun t k => st6.trans k) ?_
  have f7_E_a1 : Exa Z T6.heap a1 "com/example/eunomia/eunomia/sticky/LongHeap" := f4_E_a1.keep Kq6
  have f7_F_a1_values : Fld Z T6.heap a1 "com/example/eunomia/eunomia/sticky/LongHeap" "values" "[J" (.ref a2) := f4_F_a1_values.keep Kq6 (ninS (Ne.symm pre_a2_a1) nin0)
  have f7_F_a1_size : Fld Z T6.heap a1 "com/example/eunomia/eunomia/sticky/LongHeap" "size" "I" (.int (2 : Int32)) := f4_F_a1_size.keep Kq6 (ninS (Ne.symm pre_a2_a1) nin0)
  have K6 : Keep h0 T6.heap [a1, a2] := K3.trans Kq6 (allS (Or.inl (List.mem_of_getElem? (i := 1) rfl)) all0)
  have hf_26 := p6_1
  have hlw_26 := p6_2
  have hoo_26 := p6_3
  show GoW p e below QQ (T6.setTop (mkF m 29 #[.val (.ref a1), .val (.long vc), .second] []))
  exact GoW.fin X6 none (fun _ => rfl) hlk hQ rfl ⟨wa_26, wb_26, wc_26, wd_26, rfl, N6, K6, f7_E_a1, f7_F_a1_values, f7_F_a1_size, p6_0, (fun f => by have q := hf_26 f; omega), hlw_26, hoo_26⟩ (by decide) (by decide) (fun fs hr => X6.returnOut hx hret (hb hby d9_29) hr)
def RM9_4 : Room := { frames := 1, cells := 0, slots := 0, locals := 17 }
def Q9_4 (Z : State) (a1 : Addr) (a2 : Addr) (ka : ClassId) (z : Int32) (va : Int64) (vb : Int64) (vc : Int64) (vd : Int64) (h0 : Heap) (n0 : Nat) (v : Option Value) (h : Heap) (L : List Loc) : Prop := ∃ (wa : Int64) (wb : Int64) (wc : Int64) (wd : Int64), v = none ∧ Fr n0 L ∧ Keep h0 h [a1, a2] ∧ (Exa Z h a1 "com/example/eunomia/eunomia/sticky/LongHeap") ∧ (Fld Z h a1 "com/example/eunomia/eunomia/sticky/LongHeap" "values" "[J" (.ref a2)) ∧ (Fld Z h a1 "com/example/eunomia/eunomia/sticky/LongHeap" "size" "I" (.int (3 : Int32))) ∧ (Arv Z h a2 ka .long z [(.long wa), (.long wb), (.long wc), (.long wd)] (.long (0 : Int64))) ∧ (∀ f : Int64 → Int, f wa + f wb + f wc + f va = f va + f vb + f vc + f vd) ∧ (va.toInt ≤ wa.toInt) ∧ (wa.toInt ≤ wb.toInt ∧ wa.toInt ≤ wc.toInt)
set_option maxRecDepth 65536 in
set_option maxHeartbeats 40000000 in
theorem rm9_4 (l : Launch) (Z : State) (a0 : Array Value) (hw : ∀ d ∈ tables_1, d.before a0 Z = true) (ws : List Jvm.Cond) (a1 : Addr) (a2 : Addr) (ka : ClassId) (z : Int32) (va : Int64) (vb : Int64) (vc : Int64) (vd : Int64) (h0 : Heap) (n0 : Nat) (Z0 : n0 ≤ h0.size) (pre_E_a1 : Exa Z h0 a1 "com/example/eunomia/eunomia/sticky/LongHeap") (pre_g_a1 : n0 ≤ a1) (pre_g_a2 : n0 ≤ a2) (pre_a2_a1 : a2 ≠ a1) (pre_F_a1_values : Fld Z h0 a1 "com/example/eunomia/eunomia/sticky/LongHeap" "values" "[J" (.ref a2)) (pre_F_a1_size : Fld Z h0 a1 "com/example/eunomia/eunomia/sticky/LongHeap" "size" "I" (.int (4 : Int32))) (pre_V_a2 : Arv Z h0 a2 ka .long z [(.long va), (.long vb), (.long vc), (.long vd)] (.long (0 : Int64))) (hz : 4 ≤ z.toInt) (ho : va.toInt ≤ vb.toInt ∧ va.toInt ≤ vc.toInt ∧ vb.toInt ≤ vd.toInt) :
    MetFree l (⟨"com/example/eunomia/eunomia/sticky/LongHeap", "remove", "()V"⟩ : MethodName) (head1 (Jvm.Cond.code (⟨"com/example/eunomia/eunomia/sticky/LongHeap", "remove", "()V"⟩ : MethodName) prog_40_method_5_code 3 none :: ws) RM9_4) (fun a U => a = #[(.ref a1)] ∧ Z.Warmed39 U.vm ∧ U.heap = h0) (fun _ _ _ _ _ => True) (fun _ U o U' => ∃ v L, o = .returned v ∧ Q9_4 Z a1 a2 ka z va vb vc vd h0 n0 v U'.heap L ∧ FrameEnd U o U' L RM9_4.cells RM9_4.slots) := by
  refine met_of (Q := fun v h L => Q9_4 Z a1 a2 ka z va vb vc vd h0 n0 v h L) (plainFor_of_name pn_0) (fun m => by first | (simp [entryFrame, mkF, argsToLocals, Value.category]; done) | rfl) (Ls := #[.val (.ref a1), .unset, .unset]) ?_
  intro p e s m below meth c T0 QQ hx hZ hby hml hown hnm hret hlk X0 e0 hQ
  have hml : c.maxLocals = 3 := hml
  have hown : s.vm.findClass "com/example/eunomia/eunomia/sticky/LongHeap" = some m.cls := hown
  have hnm : meth.name = "remove" := hnm
  have hret : meth.sig.returnType = none := hret
  have N0 := Fr.nil n0
  have K0 : Keep h0 h0 [a1, a2] := Keep.refl h0 _
  show GoW p e below QQ (T0.setTop (mkF m 0 #[.val (.ref a1), .unset, .unset] []))
  have z0 : (0 : Int32).toInt = 0 := rfl
  have z1 : (1 : Int32).toInt = 1 := rfl
  have z2 : (2 : Int32).toInt = 2 := rfl
  have z3 : (3 : Int32).toInt = 3 := rfl
  refine GoW.st (fun t k => XS.aloadN X0.here hx rfl (hb hby d9_0) rfl rfl k) ?_
  show GoW p e below QQ (T0.setTop (mkF m 1 #[.val (.ref a1), .unset, .unset] [(.ref a1)]))
  obtain ⟨T1, X1, e1, st1⟩ := getF X0 hx hZ hown (host := "") (Or.inl (hw _ (List.mem_of_getElem? (i := 20) rfl))) Via.refl e0 pre_F_a1_values (g := (mkF m 1 #[.val (.ref a1), .unset, .unset] [(.ref a1)])) rfl rfl (hb hby d9_1)
  refine GoW.st st1 ?_
  show GoW p e below QQ (T1.setTop (mkF m 4 #[.val (.ref a1), .unset, .unset] [(.ref a2)]))
  refine GoW.st (fun t k => XS.aloadN X1.here hx rfl (hb hby d9_4) rfl rfl (XS.dup X1.here hx rfl (hb hby d9_5) rfl rfl k)) ?_
  show GoW p e below QQ (T1.setTop (mkF m 6 #[.val (.ref a1), .unset, .unset] [(.ref a1), (.ref a1), (.ref a2)]))
  obtain ⟨T2, X2, e2, st2⟩ := getF X1 hx hZ hown (host := "") (Or.inl (hw _ (List.mem_of_getElem? (i := 27) rfl))) Via.refl e1 pre_F_a1_size (g := (mkF m 6 #[.val (.ref a1), .unset, .unset] [(.ref a1), (.ref a1), (.ref a2)])) rfl rfl (hb hby d9_6)
  refine GoW.st st2 ?_
  show GoW p e below QQ (T2.setTop (mkF m 9 #[.val (.ref a1), .unset, .unset] [(.int (4 : Int32)), (.ref a1), (.ref a2)]))
  refine GoW.st (fun t k => XS.iconst X2.here hx rfl (hb hby d9_9) (XS.isub X2.here hx rfl (hb hby d9_10) rfl (XS.dupX1 X2.here hx rfl (hb hby d9_11) rfl rfl rfl k))) ?_
  show GoW p e below QQ (T2.setTop (mkF m 12 #[.val (.ref a1), .unset, .unset] [(.int (3 : Int32)), (.ref a1), (.int (3 : Int32)), (.ref a2)]))
  obtain ⟨T3, h3, X3, e3, W3, st3⟩ := putF X2 hx hZ hown (host := "") (Or.inl (hw _ (List.mem_of_getElem? (i := 27) rfl))) Via.refl e2 pre_F_a1_size pre_E_a1 (Or.inl (hw _ (List.mem_of_getElem? (i := 28) rfl))) (hw _ (List.mem_of_getElem? (i := 8) rfl)) (ty := .int) (by decide) rfl rfl (g := (mkF m 12 #[.val (.ref a1), .unset, .unset] [(.int (3 : Int32)), (.ref a1), (.int (3 : Int32)), (.ref a2)])) rfl rfl (hb hby d9_12)
  refine GoW.st st3 ?_
  have f4_E_a1 : Exa Z h3 a1 "com/example/eunomia/eunomia/sticky/LongHeap" := pre_E_a1.wr W3
  have f4_F_a1_values : Fld Z h3 a1 "com/example/eunomia/eunomia/sticky/LongHeap" "values" "[J" (.ref a2) := pre_F_a1_values.other W3 (Or.inr (slot_ne (Or.inl (hw _ (List.mem_of_getElem? (i := 21) rfl))) (Or.inl (hw _ (List.mem_of_getElem? (i := 28) rfl))) (by decide) (t := (.array .long)) (t' := .int) (by decide) (by decide)))
  have f4_F_a1_size : Fld Z h3 a1 "com/example/eunomia/eunomia/sticky/LongHeap" "size" "I" (.int (3 : Int32)) := pre_F_a1_size.same W3
  have f4_V_a2 : Arv Z h3 a2 ka .long z [(.long va), (.long vb), (.long vc), (.long vd)] (.long (0 : Int64)) := pre_V_a2.other W3 pre_a2_a1
  have K3 : Keep h0 h3 [a1, a2] := K0.wr W3 (Or.inl (List.mem_of_getElem? (i := 0) rfl))
  have N3 := Fr.snoc X3 N0 pre_g_a1
  show GoW p e below QQ (T3.setTop (mkF m 15 #[.val (.ref a1), .unset, .unset] [(.int (3 : Int32)), (.ref a2)]))
  refine GoW.st (fun t k => ldVJ X3 hx hZ e3 f4_V_a2 (v := (.long vd)) ⟨by decide, own_lt_of (by omega)⟩ rfl (g := (mkF m 15 #[.val (.ref a1), .unset, .unset] [(.int (3 : Int32)), (.ref a2)])) rfl rfl (hb hby d9_15) t (XS.lstoreN X3.here hx rfl (hb hby d9_16) rfl (l' := #[.val (.ref a1), .val (.long vd), .second]) rfl (XS.aloadN X3.here hx rfl (hb hby d9_17) rfl rfl k))) ?_
  show GoW p e below QQ (T3.setTop (mkF m 18 #[.val (.ref a1), .val (.long vd), .second] [(.ref a1)]))
  obtain ⟨T5, X5, e5, st5⟩ := getF X3 hx hZ hown (host := "") (Or.inl (hw _ (List.mem_of_getElem? (i := 27) rfl))) Via.refl e3 f4_F_a1_size (g := (mkF m 18 #[.val (.ref a1), .val (.long vd), .second] [(.ref a1)])) rfl rfl (hb hby d9_18)
  refine GoW.st st5 ?_
  show GoW p e below QQ (T5.setTop (mkF m 21 #[.val (.ref a1), .val (.long vd), .second] [(.int (3 : Int32))]))
  have hc21 : (0 : Int32) < (3 : Int32) := by decide
  refine GoW.st (fun t k => XS.ifNo X5.here hx rfl (hb hby d9_21) rfl ((if0 _ _).trans (tlt hc21).2.2.2) (XS.aloadN X5.here hx rfl (hb hby d9_24) rfl rfl (XS.lloadN X5.here hx rfl (hb hby d9_25) rfl k))) ?_
  show GoW p e below QQ (T5.setTop (mkF m 26 #[.val (.ref a1), .val (.long vd), .second] [(.long vd), (.ref a1)]))
  obtain ⟨cq6, qa6, qb6⟩ := f4_E_a1.cell
  obtain ⟨_, _, ⟨T6, zL6, zk6, zn6⟩, -, X6, ⟨Lc6, hQ6, zl6, zy6, zz6⟩, st6⟩ := X5.privateBack hx (y := (⟨"com/example/eunomia/eunomia/sticky/LongHeap", "siftDown", "(J)V"⟩ : MethodName)) hown (mvT hZ (hw _ (List.mem_of_getElem? (i := 45) rfl))) (mvT hZ (hw _ (List.mem_of_getElem? (i := 46) rfl))) (selOwn (mvT hZ (hw _ (List.mem_of_getElem? (i := 46) rfl))) (Cond.privateMethod_at (mvP hZ (hw _ (List.mem_of_getElem? (i := 47) rfl)) (args := #[]))) (mvT hZ (hw _ (List.mem_of_getElem? (i := 25) rfl))) rfl (by decide)) (Cond.privateMethod_at (mvP hZ (hw _ (List.mem_of_getElem? (i := 47) rfl)) (args := #[]))) (mvT hZ (hw _ (List.mem_of_getElem? (i := 48) rfl))) (by decide) (backOf (W := 0) (rm10_3 l Z a0 hw [] a1 vd a2 ka z va vb vc vd h3 n0 (Nat.le_trans Z0 K3.1) pre_g_a2 pre_a2_a1 f4_F_a1_values f4_F_a1_size f4_V_a2 (by omega) (by omega) (by omega)) hZ (hw _ (List.mem_of_getElem? (i := 48) rfl)) (hw _ (List.mem_of_getElem? (i := 9) rfl)) (by decide) (by decide)) (g := (mkF m 26 #[.val (.ref a1), .val (.long vd), .second] [(.long vd), (.ref a1)])) rfl (by rw [hml]; rfl) (Steps.refl _) (a := a1) (by rw [e5]; exact qa6) qb6 (argsL := [(.long vd)]) (rest := []) (lenOf pd_2 rfl) rfl (by show 2 * 0 + _ ≤ _; exact Nat.le_of_eq rfl) (hb hby d9_26) (fun _ _ => ⟨rfl, e5, (by decide : 0 + 0 ≤ _), (by decide : 0 + 0 ≤ _)⟩)
  dsimp only [Pt.U, Pt.locs, Pt.cells, Pt.slots] at X6 zl6 zy6 zz6 st6 hQ6
  subst zl6 zy6 zz6
  obtain ⟨wa_26, wb_26, wc_26, wd_26, rfl, Nq6, Kq6, p6_0, p6_1, p6_2, p6_3⟩ := hQ6
  have N6 := Fr.app N3 Nq6
  refine GoW.st (fun t k => st6.trans k) ?_
  have f7_E_a1 : Exa Z T6.heap a1 "com/example/eunomia/eunomia/sticky/LongHeap" := f4_E_a1.keep Kq6
  have f7_F_a1_values : Fld Z T6.heap a1 "com/example/eunomia/eunomia/sticky/LongHeap" "values" "[J" (.ref a2) := f4_F_a1_values.keep Kq6 (ninS (Ne.symm pre_a2_a1) nin0)
  have f7_F_a1_size : Fld Z T6.heap a1 "com/example/eunomia/eunomia/sticky/LongHeap" "size" "I" (.int (3 : Int32)) := f4_F_a1_size.keep Kq6 (ninS (Ne.symm pre_a2_a1) nin0)
  have K6 : Keep h0 T6.heap [a1, a2] := K3.trans Kq6 (allS (Or.inl (List.mem_of_getElem? (i := 1) rfl)) all0)
  have hf_26 := p6_1
  have hlw_26 := p6_2
  have hoo_26 := p6_3
  show GoW p e below QQ (T6.setTop (mkF m 29 #[.val (.ref a1), .val (.long vd), .second] []))
  exact GoW.fin X6 none (fun _ => rfl) hlk hQ rfl ⟨wa_26, wb_26, wc_26, wd_26, rfl, N6, K6, f7_E_a1, f7_F_a1_values, f7_F_a1_size, p6_0, (fun f => by have q := hf_26 f; omega), hlw_26, hoo_26⟩ (by decide) (by decide) (fun fs hr => X6.returnOut hx hret (hb hby d9_29) hr)
theorem own_minL_i (x y : Int64) : (own_minL x y).toInt = min x.toInt y.toInt := by
  rw [own_minL]
  split
  · rename_i h; rw [Int64.lt_iff_toInt_lt] at h; omega
  · rename_i h; rw [Int64.lt_iff_toInt_lt] at h; omega
theorem own_maxL_i (x y : Int64) : (own_maxL x y).toInt = max x.toInt y.toInt := by
  rw [own_maxL]
  split
  · rename_i h; rw [Int64.lt_iff_toInt_lt] at h; omega
  · rename_i h; rw [Int64.lt_iff_toInt_lt] at h; omega
theorem own_swap (f : Int64 → Int) (x y : Int64) : f (own_minL x y) + f (own_maxL x y) = f x + f y := by
  rw [own_minL, own_maxL]
  by_cases h1 : y < x
  · have h2 : ¬ x < y := by rw [Int64.lt_iff_toInt_lt] at h1 ⊢; omega
    rw [if_pos h1, if_neg h2]; omega
  · by_cases h2 : x < y
    · rw [if_neg h1, if_pos h2]
    · have h3 : x = y := by
        apply Int64.toInt_inj.mp
        rw [Int64.lt_iff_toInt_lt] at h1 h2; omega
      rw [if_neg h1, if_neg h2, h3]
theorem own_if (c z : Int64) : (z.toInt ≤ c.toInt ∧ (if z.toInt ≤ c.toInt then (1 : Int) else 0) = 1) ∨ (c.toInt < z.toInt ∧ (if z.toInt ≤ c.toInt then (1 : Int) else 0) = 0) := by
  by_cases h : z.toInt ≤ c.toInt
  · exact Or.inl ⟨h, if_pos h⟩
  · exact Or.inr ⟨by omega, if_neg h⟩
theorem own_os2 (r0 r1 x y t0 t1 t2 t3 : Int64) (H : ∀ f : Int64 → Int, f r0 + f r1 + f x + f y = f t0 + f t1 + f t2 + f t3) (h1 : r0.toInt ≤ r1.toInt) (h2 : r1.toInt ≤ x.toInt) (h3 : r1.toInt ≤ y.toInt) (g1 : t0.toInt ≤ t1.toInt) (g2 : t1.toInt ≤ t2.toInt) (g3 : t2.toInt ≤ t3.toInt) : r1 = t1 := by
  apply Int64.toInt_inj.mp
  have a := H (fun z => if z.toInt ≤ r1.toInt then 1 else 0)
  have b := H (fun z => if z.toInt ≤ t1.toInt then 1 else 0)
  have a0 := own_if r1 r0; have a1 := own_if r1 r1; have a2 := own_if r1 x; have a3 := own_if r1 y
  have a4 := own_if r1 t0; have a5 := own_if r1 t1; have a6 := own_if r1 t2; have a7 := own_if r1 t3
  have b0 := own_if t1 r0; have b1 := own_if t1 r1; have b2 := own_if t1 x; have b3 := own_if t1 y
  have b4 := own_if t1 t0; have b5 := own_if t1 t1; have b6 := own_if t1 t2; have b7 := own_if t1 t3
  rcases Int.lt_trichotomy r1.toInt t1.toInt with q | q | q
  · clear b b0 b1 b2 b3 b4 b5 b6 b7; omega
  · exact q
  · clear a a0 a1 a2 a3 a4 a5 a6 a7; omega
theorem own_os3 (r0 r1 r2 y t0 t1 t2 t3 : Int64) (H : ∀ f : Int64 → Int, f r0 + f r1 + f r2 + f y = f t0 + f t1 + f t2 + f t3) (h1 : r0.toInt ≤ r1.toInt) (h2 : r1.toInt ≤ r2.toInt) (h3 : r2.toInt ≤ y.toInt) (g1 : t0.toInt ≤ t1.toInt) (g2 : t1.toInt ≤ t2.toInt) (g3 : t2.toInt ≤ t3.toInt) : r2 = t2 := by
  apply Int64.toInt_inj.mp
  have a := H (fun z => if z.toInt ≤ r2.toInt then 1 else 0)
  have b := H (fun z => if z.toInt ≤ t2.toInt then 1 else 0)
  have a0 := own_if r2 r0; have a1 := own_if r2 r1; have a2 := own_if r2 r2; have a3 := own_if r2 y
  have a4 := own_if r2 t0; have a5 := own_if r2 t1; have a6 := own_if r2 t2; have a7 := own_if r2 t3
  have b0 := own_if t2 r0; have b1 := own_if t2 r1; have b2 := own_if t2 r2; have b3 := own_if t2 y
  have b4 := own_if t2 t0; have b5 := own_if t2 t1; have b6 := own_if t2 t2; have b7 := own_if t2 t3
  rcases Int.lt_trichotomy r2.toInt t2.toInt with q | q | q
  · clear b b0 b1 b2 b3 b4 b5 b6 b7; omega
  · exact q
  · clear a a0 a1 a2 a3 a4 a5 a6 a7; omega
theorem own_os4 (r0 r1 r2 r3 t0 t1 t2 t3 : Int64) (H : ∀ f : Int64 → Int, f r0 + f r1 + f r2 + f r3 = f t0 + f t1 + f t2 + f t3) (h1 : r0.toInt ≤ r1.toInt) (h2 : r1.toInt ≤ r2.toInt) (h3 : r2.toInt ≤ r3.toInt) (g1 : t0.toInt ≤ t1.toInt) (g2 : t1.toInt ≤ t2.toInt) (g3 : t2.toInt ≤ t3.toInt) : r3 = t3 := by
  apply Int64.toInt_inj.mp
  have a := H (fun z => if z.toInt ≤ r3.toInt then 1 else 0)
  have b := H (fun z => if z.toInt ≤ t3.toInt then 1 else 0)
  have a0 := own_if r3 r0; have a1 := own_if r3 r1; have a2 := own_if r3 r2; have a3 := own_if r3 r3
  have a4 := own_if r3 t0; have a5 := own_if r3 t1; have a6 := own_if r3 t2; have a7 := own_if r3 t3
  have b0 := own_if t3 r0; have b1 := own_if t3 r1; have b2 := own_if t3 r2; have b3 := own_if t3 r3
  have b4 := own_if t3 t0; have b5 := own_if t3 t1; have b6 := own_if t3 t2; have b7 := own_if t3 t3
  rcases Int.lt_trichotomy r3.toInt t3.toInt with q | q | q
  · clear b b0 b1 b2 b3 b4 b5 b6 b7; omega
  · exact q
  · clear a a0 a1 a2 a3 a4 a5 a6 a7; omega
theorem pn_2 : plainName "com/example/eunomia/eunomia/sticky/LongHeapRemovePinLaw" = true := by first | (simp [plainName, overriddenIn]; done) | decide +kernel
theorem pd_3 : parseMethodDescriptor "(JJ)J" = some ⟨[.long, .long], some .long⟩ := by decide +kernel
theorem pd_4 : parseMethodDescriptor "(I)V" = some ⟨[.int], none⟩ := by decide +kernel
theorem pd_5 : parseMethodDescriptor "()V" = some ⟨[], none⟩ := by decide +kernel
theorem pd_6 : parseMethodDescriptor "()J" = some ⟨[], some .long⟩ := by decide +kernel
theorem pd_7 : parseMethodDescriptor "()Z" = some ⟨[], some .boolean⟩ := by decide +kernel
def Q0 (Z : State) (q1 : Int64) (q2 : Int64) (q3 : Int64) (q4 : Int64) (p5 : Int32) (h0 : Heap) (n0 : Nat) (v : Option Value) (h : Heap) (L : List Loc) : Prop := v = some (.int (1 : Int32)) ∧ Fr n0 L
set_option maxRecDepth 65536 in
set_option maxHeartbeats 40000000 in
theorem rm0 (l : Launch) (Z : State) (a0 : Array Value) (hw : ∀ d ∈ tables_1, d.before a0 Z = true) (ws : List Jvm.Cond) (q1 : Int64) (q2 : Int64) (q3 : Int64) (q4 : Int64) (p5 : Int32) (h0 : Heap) (n0 : Nat) (Z0 : n0 ≤ h0.size) (Z1 : h0.size ≤ n0)  :
    MetFree l x (head1 (Jvm.Cond.code x code maxLocals ret :: ws) room_1) (fun a U => a = #[(.long q1), (.long q2), (.long q3), (.long q4), (.int p5)] ∧ Z.Warmed39 U.vm ∧ U.heap = h0) (fun _ _ _ _ _ => True) (fun _ U o U' => ∃ v L, o = .returned v ∧ Q0 Z q1 q2 q3 q4 p5 h0 n0 v U'.heap L ∧ FrameEnd U o U' L 16 128) := by
  refine met_of (Q := fun v h L => Q0 Z q1 q2 q3 q4 p5 h0 n0 v h L) (plainFor_of_name pn_2) (fun m => by first | (simp [entryFrame, mkF, argsToLocals, Value.category, maxLocals]; done) | rfl) (Ls := #[.val (.long q1), .second, .val (.long q2), .second, .val (.long q3), .second, .val (.long q4), .second, .val (.int p5), .unset, .unset, .unset, .unset, .unset, .unset, .unset, .unset, .unset, .unset, .unset, .unset, .unset, .unset, .unset, .unset, .unset, .unset, .unset, .unset]) ?_
  intro p e s m below meth c T0 QQ hx hZ hby hml hown hnm hret hlk X0 e0 hQ
  have hml : c.maxLocals = 29 := hml
  have hown : s.vm.findClass "com/example/eunomia/eunomia/sticky/LongHeapRemovePinLaw" = some m.cls := hown
  have hnm : meth.name = "law" := hnm
  have hret : meth.sig.returnType = some .boolean := hret
  have N0 := Fr.nil n0
  have K0 : Keep h0 h0 [] := Keep.refl h0 _
  show GoW p e below QQ (T0.setTop (mkF m 0 #[.val (.long q1), .second, .val (.long q2), .second, .val (.long q3), .second, .val (.long q4), .second, .val (.int p5), .unset, .unset, .unset, .unset, .unset, .unset, .unset, .unset, .unset, .unset, .unset, .unset, .unset, .unset, .unset, .unset, .unset, .unset, .unset, .unset] []))
  refine GoW.st (fun t k => XS.lloadN X0.here hx rfl (hb hby at_0) rfl (XS.lloadN X0.here hx rfl (hb hby at_1) rfl k)) ?_
  show GoW p e below QQ (T0.setTop (mkF m 2 #[.val (.long q1), .second, .val (.long q2), .second, .val (.long q3), .second, .val (.long q4), .second, .val (.int p5), .unset, .unset, .unset, .unset, .unset, .unset, .unset, .unset, .unset, .unset, .unset, .unset, .unset, .unset, .unset, .unset, .unset, .unset, .unset, .unset] [(.long q2), (.long q1)]))
  obtain ⟨_, _, ⟨T1, zL1, zk1, zn1⟩, -, X1, ⟨Lc1, hQ1, zl1, zy1, zz1⟩, st1⟩ := Jvm.LawKit.callS X0 hx (y := (⟨"java/lang/Math", "min", "(JJ)J"⟩ : MethodName)) hown (mvT hZ (hw _ (List.mem_of_getElem? (i := 0) rfl))) (mvT hZ (hw _ (List.mem_of_getElem? (i := 1) rfl))) (mvT hZ (hw _ (List.mem_of_getElem? (i := 2) rfl))) (mvT hZ (hw _ (List.mem_of_getElem? (i := 3) rfl))) (by decide) (backOf (W := 0) (rm1 l Z a0 hw [] q1 q2 h0 n0 (Nat.le_trans Z0 K0.1) ) hZ (hw _ (List.mem_of_getElem? (i := 3) rfl)) (hw _ (List.mem_of_getElem? (i := 2) rfl)) (by decide) (by decide)) (g := (mkF m 2 #[.val (.long q1), .second, .val (.long q2), .second, .val (.long q3), .second, .val (.long q4), .second, .val (.int p5), .unset, .unset, .unset, .unset, .unset, .unset, .unset, .unset, .unset, .unset, .unset, .unset, .unset, .unset, .unset, .unset, .unset, .unset, .unset, .unset] [(.long q2), (.long q1)])) rfl (by rw [hml]; rfl) (argsL := [(.long q1), (.long q2)]) (rest := []) (lenOf pd_3 rfl) rfl (by show 2 * 0 + _ ≤ _; exact Nat.le_of_eq rfl) (hb hby at_2) (fun _ _ => ⟨rfl, e0, (by decide : 0 + 0 ≤ _), (by decide : 0 + 0 ≤ _)⟩)
  dsimp only [Pt.U, Pt.locs, Pt.cells, Pt.slots] at X1 zl1 zy1 zz1 st1 hQ1
  subst zl1 zy1 zz1
  obtain ⟨rfl, Nq1, hh1⟩ := hQ1
  have N1 := Fr.app N0 Nq1
  refine GoW.st st1 ?_
  show GoW p e below QQ (T1.setTop (mkF m 5 #[.val (.long q1), .second, .val (.long q2), .second, .val (.long q3), .second, .val (.long q4), .second, .val (.int p5), .unset, .unset, .unset, .unset, .unset, .unset, .unset, .unset, .unset, .unset, .unset, .unset, .unset, .unset, .unset, .unset, .unset, .unset, .unset, .unset] [(.long (own_minL q1 q2))]))
  refine GoW.st (fun t k => XS.lstore X1.here hx rfl (hb hby at_5) rfl (l' := #[.val (.long q1), .second, .val (.long q2), .second, .val (.long q3), .second, .val (.long q4), .second, .val (.int p5), .val (.long (own_minL q1 q2)), .second, .unset, .unset, .unset, .unset, .unset, .unset, .unset, .unset, .unset, .unset, .unset, .unset, .unset, .unset, .unset, .unset, .unset, .unset]) rfl k) ?_
  show GoW p e below QQ (T1.setTop (mkF m 7 #[.val (.long q1), .second, .val (.long q2), .second, .val (.long q3), .second, .val (.long q4), .second, .val (.int p5), .val (.long (own_minL q1 q2)), .second, .unset, .unset, .unset, .unset, .unset, .unset, .unset, .unset, .unset, .unset, .unset, .unset, .unset, .unset, .unset, .unset, .unset, .unset] []))
  generalize hv5 : (own_minL q1 q2) = v5
  refine GoW.st (fun t k => XS.lloadN X1.here hx rfl (hb hby at_7) rfl (XS.lloadN X1.here hx rfl (hb hby at_8) rfl k)) ?_
  show GoW p e below QQ (T1.setTop (mkF m 9 #[.val (.long q1), .second, .val (.long q2), .second, .val (.long q3), .second, .val (.long q4), .second, .val (.int p5), .val (.long v5), .second, .unset, .unset, .unset, .unset, .unset, .unset, .unset, .unset, .unset, .unset, .unset, .unset, .unset, .unset, .unset, .unset, .unset, .unset] [(.long q2), (.long q1)]))
  obtain ⟨_, _, ⟨T2, zL2, zk2, zn2⟩, -, X2, ⟨Lc2, hQ2, zl2, zy2, zz2⟩, st2⟩ := Jvm.LawKit.callS X1 hx (y := (⟨"java/lang/Math", "max", "(JJ)J"⟩ : MethodName)) hown (mvT hZ (hw _ (List.mem_of_getElem? (i := 4) rfl))) (mvT hZ (hw _ (List.mem_of_getElem? (i := 5) rfl))) (mvT hZ (hw _ (List.mem_of_getElem? (i := 2) rfl))) (mvT hZ (hw _ (List.mem_of_getElem? (i := 6) rfl))) (by decide) (backOf (W := 0) (rm2 l Z a0 hw [] q1 q2 h0 n0 (Nat.le_trans Z0 K0.1) ) hZ (hw _ (List.mem_of_getElem? (i := 6) rfl)) (hw _ (List.mem_of_getElem? (i := 2) rfl)) (by decide) (by decide)) (g := (mkF m 9 #[.val (.long q1), .second, .val (.long q2), .second, .val (.long q3), .second, .val (.long q4), .second, .val (.int p5), .val (.long v5), .second, .unset, .unset, .unset, .unset, .unset, .unset, .unset, .unset, .unset, .unset, .unset, .unset, .unset, .unset, .unset, .unset, .unset, .unset] [(.long q2), (.long q1)])) rfl (by rw [hml]; rfl) (argsL := [(.long q1), (.long q2)]) (rest := []) (lenOf pd_3 rfl) rfl (by show 2 * 0 + _ ≤ _; exact Nat.le_of_eq rfl) (hb hby at_9) (fun _ _ => ⟨rfl, hh1, (by decide : 0 + 0 ≤ _), (by decide : 0 + 0 ≤ _)⟩)
  dsimp only [Pt.U, Pt.locs, Pt.cells, Pt.slots] at X2 zl2 zy2 zz2 st2 hQ2
  subst zl2 zy2 zz2
  obtain ⟨rfl, Nq2, hh2⟩ := hQ2
  have N2 := Fr.app N1 Nq2
  refine GoW.st st2 ?_
  show GoW p e below QQ (T2.setTop (mkF m 12 #[.val (.long q1), .second, .val (.long q2), .second, .val (.long q3), .second, .val (.long q4), .second, .val (.int p5), .val (.long v5), .second, .unset, .unset, .unset, .unset, .unset, .unset, .unset, .unset, .unset, .unset, .unset, .unset, .unset, .unset, .unset, .unset, .unset, .unset] [(.long (own_maxL q1 q2))]))
  refine GoW.st (fun t k => XS.lstore X2.here hx rfl (hb hby at_12) rfl (l' := #[.val (.long q1), .second, .val (.long q2), .second, .val (.long q3), .second, .val (.long q4), .second, .val (.int p5), .val (.long v5), .second, .val (.long (own_maxL q1 q2)), .second, .unset, .unset, .unset, .unset, .unset, .unset, .unset, .unset, .unset, .unset, .unset, .unset, .unset, .unset, .unset, .unset]) rfl k) ?_
  show GoW p e below QQ (T2.setTop (mkF m 14 #[.val (.long q1), .second, .val (.long q2), .second, .val (.long q3), .second, .val (.long q4), .second, .val (.int p5), .val (.long v5), .second, .val (.long (own_maxL q1 q2)), .second, .unset, .unset, .unset, .unset, .unset, .unset, .unset, .unset, .unset, .unset, .unset, .unset, .unset, .unset, .unset, .unset] []))
  generalize hv12 : (own_maxL q1 q2) = v12
  refine GoW.st (fun t k => XS.lload X2.here hx rfl (hb hby at_14) rfl (XS.lload X2.here hx rfl (hb hby at_16) rfl k)) ?_
  show GoW p e below QQ (T2.setTop (mkF m 18 #[.val (.long q1), .second, .val (.long q2), .second, .val (.long q3), .second, .val (.long q4), .second, .val (.int p5), .val (.long v5), .second, .val (.long v12), .second, .unset, .unset, .unset, .unset, .unset, .unset, .unset, .unset, .unset, .unset, .unset, .unset, .unset, .unset, .unset, .unset] [(.long q4), (.long q3)]))
  obtain ⟨_, _, ⟨T3, zL3, zk3, zn3⟩, -, X3, ⟨Lc3, hQ3, zl3, zy3, zz3⟩, st3⟩ := Jvm.LawKit.callS X2 hx (y := (⟨"java/lang/Math", "min", "(JJ)J"⟩ : MethodName)) hown (mvT hZ (hw _ (List.mem_of_getElem? (i := 0) rfl))) (mvT hZ (hw _ (List.mem_of_getElem? (i := 1) rfl))) (mvT hZ (hw _ (List.mem_of_getElem? (i := 2) rfl))) (mvT hZ (hw _ (List.mem_of_getElem? (i := 3) rfl))) (by decide) (backOf (W := 0) (rm1 l Z a0 hw [] q3 q4 h0 n0 (Nat.le_trans Z0 K0.1) ) hZ (hw _ (List.mem_of_getElem? (i := 3) rfl)) (hw _ (List.mem_of_getElem? (i := 2) rfl)) (by decide) (by decide)) (g := (mkF m 18 #[.val (.long q1), .second, .val (.long q2), .second, .val (.long q3), .second, .val (.long q4), .second, .val (.int p5), .val (.long v5), .second, .val (.long v12), .second, .unset, .unset, .unset, .unset, .unset, .unset, .unset, .unset, .unset, .unset, .unset, .unset, .unset, .unset, .unset, .unset] [(.long q4), (.long q3)])) rfl (by rw [hml]; rfl) (argsL := [(.long q3), (.long q4)]) (rest := []) (lenOf pd_3 rfl) rfl (by show 2 * 0 + _ ≤ _; exact Nat.le_of_eq rfl) (hb hby at_18) (fun _ _ => ⟨rfl, hh2, (by decide : 0 + 0 ≤ _), (by decide : 0 + 0 ≤ _)⟩)
  dsimp only [Pt.U, Pt.locs, Pt.cells, Pt.slots] at X3 zl3 zy3 zz3 st3 hQ3
  subst zl3 zy3 zz3
  obtain ⟨rfl, Nq3, hh3⟩ := hQ3
  have N3 := Fr.app N2 Nq3
  refine GoW.st st3 ?_
  show GoW p e below QQ (T3.setTop (mkF m 21 #[.val (.long q1), .second, .val (.long q2), .second, .val (.long q3), .second, .val (.long q4), .second, .val (.int p5), .val (.long v5), .second, .val (.long v12), .second, .unset, .unset, .unset, .unset, .unset, .unset, .unset, .unset, .unset, .unset, .unset, .unset, .unset, .unset, .unset, .unset] [(.long (own_minL q3 q4))]))
  refine GoW.st (fun t k => XS.lstore X3.here hx rfl (hb hby at_21) rfl (l' := #[.val (.long q1), .second, .val (.long q2), .second, .val (.long q3), .second, .val (.long q4), .second, .val (.int p5), .val (.long v5), .second, .val (.long v12), .second, .val (.long (own_minL q3 q4)), .second, .unset, .unset, .unset, .unset, .unset, .unset, .unset, .unset, .unset, .unset, .unset, .unset, .unset, .unset]) rfl k) ?_
  show GoW p e below QQ (T3.setTop (mkF m 23 #[.val (.long q1), .second, .val (.long q2), .second, .val (.long q3), .second, .val (.long q4), .second, .val (.int p5), .val (.long v5), .second, .val (.long v12), .second, .val (.long (own_minL q3 q4)), .second, .unset, .unset, .unset, .unset, .unset, .unset, .unset, .unset, .unset, .unset, .unset, .unset, .unset, .unset] []))
  generalize hv21 : (own_minL q3 q4) = v21
  refine GoW.st (fun t k => XS.lload X3.here hx rfl (hb hby at_23) rfl (XS.lload X3.here hx rfl (hb hby at_25) rfl k)) ?_
  show GoW p e below QQ (T3.setTop (mkF m 27 #[.val (.long q1), .second, .val (.long q2), .second, .val (.long q3), .second, .val (.long q4), .second, .val (.int p5), .val (.long v5), .second, .val (.long v12), .second, .val (.long v21), .second, .unset, .unset, .unset, .unset, .unset, .unset, .unset, .unset, .unset, .unset, .unset, .unset, .unset, .unset] [(.long q4), (.long q3)]))
  obtain ⟨_, _, ⟨T4, zL4, zk4, zn4⟩, -, X4, ⟨Lc4, hQ4, zl4, zy4, zz4⟩, st4⟩ := Jvm.LawKit.callS X3 hx (y := (⟨"java/lang/Math", "max", "(JJ)J"⟩ : MethodName)) hown (mvT hZ (hw _ (List.mem_of_getElem? (i := 4) rfl))) (mvT hZ (hw _ (List.mem_of_getElem? (i := 5) rfl))) (mvT hZ (hw _ (List.mem_of_getElem? (i := 2) rfl))) (mvT hZ (hw _ (List.mem_of_getElem? (i := 6) rfl))) (by decide) (backOf (W := 0) (rm2 l Z a0 hw [] q3 q4 h0 n0 (Nat.le_trans Z0 K0.1) ) hZ (hw _ (List.mem_of_getElem? (i := 6) rfl)) (hw _ (List.mem_of_getElem? (i := 2) rfl)) (by decide) (by decide)) (g := (mkF m 27 #[.val (.long q1), .second, .val (.long q2), .second, .val (.long q3), .second, .val (.long q4), .second, .val (.int p5), .val (.long v5), .second, .val (.long v12), .second, .val (.long v21), .second, .unset, .unset, .unset, .unset, .unset, .unset, .unset, .unset, .unset, .unset, .unset, .unset, .unset, .unset] [(.long q4), (.long q3)])) rfl (by rw [hml]; rfl) (argsL := [(.long q3), (.long q4)]) (rest := []) (lenOf pd_3 rfl) rfl (by show 2 * 0 + _ ≤ _; exact Nat.le_of_eq rfl) (hb hby at_27) (fun _ _ => ⟨rfl, hh3, (by decide : 0 + 0 ≤ _), (by decide : 0 + 0 ≤ _)⟩)
  dsimp only [Pt.U, Pt.locs, Pt.cells, Pt.slots] at X4 zl4 zy4 zz4 st4 hQ4
  subst zl4 zy4 zz4
  obtain ⟨rfl, Nq4, hh4⟩ := hQ4
  have N4 := Fr.app N3 Nq4
  refine GoW.st st4 ?_
  show GoW p e below QQ (T4.setTop (mkF m 30 #[.val (.long q1), .second, .val (.long q2), .second, .val (.long q3), .second, .val (.long q4), .second, .val (.int p5), .val (.long v5), .second, .val (.long v12), .second, .val (.long v21), .second, .unset, .unset, .unset, .unset, .unset, .unset, .unset, .unset, .unset, .unset, .unset, .unset, .unset, .unset] [(.long (own_maxL q3 q4))]))
  refine GoW.st (fun t k => XS.lstore X4.here hx rfl (hb hby at_30) rfl (l' := #[.val (.long q1), .second, .val (.long q2), .second, .val (.long q3), .second, .val (.long q4), .second, .val (.int p5), .val (.long v5), .second, .val (.long v12), .second, .val (.long v21), .second, .val (.long (own_maxL q3 q4)), .second, .unset, .unset, .unset, .unset, .unset, .unset, .unset, .unset, .unset, .unset, .unset, .unset]) rfl k) ?_
  show GoW p e below QQ (T4.setTop (mkF m 32 #[.val (.long q1), .second, .val (.long q2), .second, .val (.long q3), .second, .val (.long q4), .second, .val (.int p5), .val (.long v5), .second, .val (.long v12), .second, .val (.long v21), .second, .val (.long (own_maxL q3 q4)), .second, .unset, .unset, .unset, .unset, .unset, .unset, .unset, .unset, .unset, .unset, .unset, .unset] []))
  generalize hv30 : (own_maxL q3 q4) = v30
  refine GoW.st (fun t k => XS.lload X4.here hx rfl (hb hby at_32) rfl (XS.lload X4.here hx rfl (hb hby at_34) rfl k)) ?_
  show GoW p e below QQ (T4.setTop (mkF m 36 #[.val (.long q1), .second, .val (.long q2), .second, .val (.long q3), .second, .val (.long q4), .second, .val (.int p5), .val (.long v5), .second, .val (.long v12), .second, .val (.long v21), .second, .val (.long v30), .second, .unset, .unset, .unset, .unset, .unset, .unset, .unset, .unset, .unset, .unset, .unset, .unset] [(.long v21), (.long v5)]))
  obtain ⟨_, _, ⟨T5, zL5, zk5, zn5⟩, -, X5, ⟨Lc5, hQ5, zl5, zy5, zz5⟩, st5⟩ := Jvm.LawKit.callS X4 hx (y := (⟨"java/lang/Math", "max", "(JJ)J"⟩ : MethodName)) hown (mvT hZ (hw _ (List.mem_of_getElem? (i := 4) rfl))) (mvT hZ (hw _ (List.mem_of_getElem? (i := 5) rfl))) (mvT hZ (hw _ (List.mem_of_getElem? (i := 2) rfl))) (mvT hZ (hw _ (List.mem_of_getElem? (i := 6) rfl))) (by decide) (backOf (W := 0) (rm2 l Z a0 hw [] v5 v21 h0 n0 (Nat.le_trans Z0 K0.1) ) hZ (hw _ (List.mem_of_getElem? (i := 6) rfl)) (hw _ (List.mem_of_getElem? (i := 2) rfl)) (by decide) (by decide)) (g := (mkF m 36 #[.val (.long q1), .second, .val (.long q2), .second, .val (.long q3), .second, .val (.long q4), .second, .val (.int p5), .val (.long v5), .second, .val (.long v12), .second, .val (.long v21), .second, .val (.long v30), .second, .unset, .unset, .unset, .unset, .unset, .unset, .unset, .unset, .unset, .unset, .unset, .unset] [(.long v21), (.long v5)])) rfl (by rw [hml]; rfl) (argsL := [(.long v5), (.long v21)]) (rest := []) (lenOf pd_3 rfl) rfl (by show 2 * 0 + _ ≤ _; exact Nat.le_of_eq rfl) (hb hby at_36) (fun _ _ => ⟨rfl, hh4, (by decide : 0 + 0 ≤ _), (by decide : 0 + 0 ≤ _)⟩)
  dsimp only [Pt.U, Pt.locs, Pt.cells, Pt.slots] at X5 zl5 zy5 zz5 st5 hQ5
  subst zl5 zy5 zz5
  obtain ⟨rfl, Nq5, hh5⟩ := hQ5
  have N5 := Fr.app N4 Nq5
  refine GoW.st st5 ?_
  show GoW p e below QQ (T5.setTop (mkF m 39 #[.val (.long q1), .second, .val (.long q2), .second, .val (.long q3), .second, .val (.long q4), .second, .val (.int p5), .val (.long v5), .second, .val (.long v12), .second, .val (.long v21), .second, .val (.long v30), .second, .unset, .unset, .unset, .unset, .unset, .unset, .unset, .unset, .unset, .unset, .unset, .unset] [(.long (own_maxL v5 v21))]))
  refine GoW.st (fun t k => XS.lstore X5.here hx rfl (hb hby at_39) rfl (l' := #[.val (.long q1), .second, .val (.long q2), .second, .val (.long q3), .second, .val (.long q4), .second, .val (.int p5), .val (.long v5), .second, .val (.long v12), .second, .val (.long v21), .second, .val (.long v30), .second, .val (.long (own_maxL v5 v21)), .second, .unset, .unset, .unset, .unset, .unset, .unset, .unset, .unset, .unset, .unset]) rfl k) ?_
  show GoW p e below QQ (T5.setTop (mkF m 41 #[.val (.long q1), .second, .val (.long q2), .second, .val (.long q3), .second, .val (.long q4), .second, .val (.int p5), .val (.long v5), .second, .val (.long v12), .second, .val (.long v21), .second, .val (.long v30), .second, .val (.long (own_maxL v5 v21)), .second, .unset, .unset, .unset, .unset, .unset, .unset, .unset, .unset, .unset, .unset] []))
  generalize hv39 : (own_maxL v5 v21) = v39
  refine GoW.st (fun t k => XS.lload X5.here hx rfl (hb hby at_41) rfl (XS.lload X5.here hx rfl (hb hby at_43) rfl k)) ?_
  show GoW p e below QQ (T5.setTop (mkF m 45 #[.val (.long q1), .second, .val (.long q2), .second, .val (.long q3), .second, .val (.long q4), .second, .val (.int p5), .val (.long v5), .second, .val (.long v12), .second, .val (.long v21), .second, .val (.long v30), .second, .val (.long v39), .second, .unset, .unset, .unset, .unset, .unset, .unset, .unset, .unset, .unset, .unset] [(.long v30), (.long v12)]))
  obtain ⟨_, _, ⟨T6, zL6, zk6, zn6⟩, -, X6, ⟨Lc6, hQ6, zl6, zy6, zz6⟩, st6⟩ := Jvm.LawKit.callS X5 hx (y := (⟨"java/lang/Math", "min", "(JJ)J"⟩ : MethodName)) hown (mvT hZ (hw _ (List.mem_of_getElem? (i := 0) rfl))) (mvT hZ (hw _ (List.mem_of_getElem? (i := 1) rfl))) (mvT hZ (hw _ (List.mem_of_getElem? (i := 2) rfl))) (mvT hZ (hw _ (List.mem_of_getElem? (i := 3) rfl))) (by decide) (backOf (W := 0) (rm1 l Z a0 hw [] v12 v30 h0 n0 (Nat.le_trans Z0 K0.1) ) hZ (hw _ (List.mem_of_getElem? (i := 3) rfl)) (hw _ (List.mem_of_getElem? (i := 2) rfl)) (by decide) (by decide)) (g := (mkF m 45 #[.val (.long q1), .second, .val (.long q2), .second, .val (.long q3), .second, .val (.long q4), .second, .val (.int p5), .val (.long v5), .second, .val (.long v12), .second, .val (.long v21), .second, .val (.long v30), .second, .val (.long v39), .second, .unset, .unset, .unset, .unset, .unset, .unset, .unset, .unset, .unset, .unset] [(.long v30), (.long v12)])) rfl (by rw [hml]; rfl) (argsL := [(.long v12), (.long v30)]) (rest := []) (lenOf pd_3 rfl) rfl (by show 2 * 0 + _ ≤ _; exact Nat.le_of_eq rfl) (hb hby at_45) (fun _ _ => ⟨rfl, hh5, (by decide : 0 + 0 ≤ _), (by decide : 0 + 0 ≤ _)⟩)
  dsimp only [Pt.U, Pt.locs, Pt.cells, Pt.slots] at X6 zl6 zy6 zz6 st6 hQ6
  subst zl6 zy6 zz6
  obtain ⟨rfl, Nq6, hh6⟩ := hQ6
  have N6 := Fr.app N5 Nq6
  refine GoW.st st6 ?_
  show GoW p e below QQ (T6.setTop (mkF m 48 #[.val (.long q1), .second, .val (.long q2), .second, .val (.long q3), .second, .val (.long q4), .second, .val (.int p5), .val (.long v5), .second, .val (.long v12), .second, .val (.long v21), .second, .val (.long v30), .second, .val (.long v39), .second, .unset, .unset, .unset, .unset, .unset, .unset, .unset, .unset, .unset, .unset] [(.long (own_minL v12 v30))]))
  refine GoW.st (fun t k => XS.lstore X6.here hx rfl (hb hby at_48) rfl (l' := #[.val (.long q1), .second, .val (.long q2), .second, .val (.long q3), .second, .val (.long q4), .second, .val (.int p5), .val (.long v5), .second, .val (.long v12), .second, .val (.long v21), .second, .val (.long v30), .second, .val (.long v39), .second, .val (.long (own_minL v12 v30)), .second, .unset, .unset, .unset, .unset, .unset, .unset, .unset, .unset]) rfl k) ?_
  show GoW p e below QQ (T6.setTop (mkF m 50 #[.val (.long q1), .second, .val (.long q2), .second, .val (.long q3), .second, .val (.long q4), .second, .val (.int p5), .val (.long v5), .second, .val (.long v12), .second, .val (.long v21), .second, .val (.long v30), .second, .val (.long v39), .second, .val (.long (own_minL v12 v30)), .second, .unset, .unset, .unset, .unset, .unset, .unset, .unset, .unset] []))
  generalize hv48 : (own_minL v12 v30) = v48
  refine GoW.st (fun t k => XS.lload X6.here hx rfl (hb hby at_50) rfl (XS.lload X6.here hx rfl (hb hby at_52) rfl k)) ?_
  show GoW p e below QQ (T6.setTop (mkF m 54 #[.val (.long q1), .second, .val (.long q2), .second, .val (.long q3), .second, .val (.long q4), .second, .val (.int p5), .val (.long v5), .second, .val (.long v12), .second, .val (.long v21), .second, .val (.long v30), .second, .val (.long v39), .second, .val (.long v48), .second, .unset, .unset, .unset, .unset, .unset, .unset, .unset, .unset] [(.long v48), (.long v39)]))
  obtain ⟨_, _, ⟨T7, zL7, zk7, zn7⟩, -, X7, ⟨Lc7, hQ7, zl7, zy7, zz7⟩, st7⟩ := Jvm.LawKit.callS X6 hx (y := (⟨"java/lang/Math", "min", "(JJ)J"⟩ : MethodName)) hown (mvT hZ (hw _ (List.mem_of_getElem? (i := 0) rfl))) (mvT hZ (hw _ (List.mem_of_getElem? (i := 1) rfl))) (mvT hZ (hw _ (List.mem_of_getElem? (i := 2) rfl))) (mvT hZ (hw _ (List.mem_of_getElem? (i := 3) rfl))) (by decide) (backOf (W := 0) (rm1 l Z a0 hw [] v39 v48 h0 n0 (Nat.le_trans Z0 K0.1) ) hZ (hw _ (List.mem_of_getElem? (i := 3) rfl)) (hw _ (List.mem_of_getElem? (i := 2) rfl)) (by decide) (by decide)) (g := (mkF m 54 #[.val (.long q1), .second, .val (.long q2), .second, .val (.long q3), .second, .val (.long q4), .second, .val (.int p5), .val (.long v5), .second, .val (.long v12), .second, .val (.long v21), .second, .val (.long v30), .second, .val (.long v39), .second, .val (.long v48), .second, .unset, .unset, .unset, .unset, .unset, .unset, .unset, .unset] [(.long v48), (.long v39)])) rfl (by rw [hml]; rfl) (argsL := [(.long v39), (.long v48)]) (rest := []) (lenOf pd_3 rfl) rfl (by show 2 * 0 + _ ≤ _; exact Nat.le_of_eq rfl) (hb hby at_54) (fun _ _ => ⟨rfl, hh6, (by decide : 0 + 0 ≤ _), (by decide : 0 + 0 ≤ _)⟩)
  dsimp only [Pt.U, Pt.locs, Pt.cells, Pt.slots] at X7 zl7 zy7 zz7 st7 hQ7
  subst zl7 zy7 zz7
  obtain ⟨rfl, Nq7, hh7⟩ := hQ7
  have N7 := Fr.app N6 Nq7
  refine GoW.st st7 ?_
  show GoW p e below QQ (T7.setTop (mkF m 57 #[.val (.long q1), .second, .val (.long q2), .second, .val (.long q3), .second, .val (.long q4), .second, .val (.int p5), .val (.long v5), .second, .val (.long v12), .second, .val (.long v21), .second, .val (.long v30), .second, .val (.long v39), .second, .val (.long v48), .second, .unset, .unset, .unset, .unset, .unset, .unset, .unset, .unset] [(.long (own_minL v39 v48))]))
  refine GoW.st (fun t k => XS.lstore X7.here hx rfl (hb hby at_57) rfl (l' := #[.val (.long q1), .second, .val (.long q2), .second, .val (.long q3), .second, .val (.long q4), .second, .val (.int p5), .val (.long v5), .second, .val (.long v12), .second, .val (.long v21), .second, .val (.long v30), .second, .val (.long v39), .second, .val (.long v48), .second, .val (.long (own_minL v39 v48)), .second, .unset, .unset, .unset, .unset, .unset, .unset]) rfl k) ?_
  show GoW p e below QQ (T7.setTop (mkF m 59 #[.val (.long q1), .second, .val (.long q2), .second, .val (.long q3), .second, .val (.long q4), .second, .val (.int p5), .val (.long v5), .second, .val (.long v12), .second, .val (.long v21), .second, .val (.long v30), .second, .val (.long v39), .second, .val (.long v48), .second, .val (.long (own_minL v39 v48)), .second, .unset, .unset, .unset, .unset, .unset, .unset] []))
  generalize hv57 : (own_minL v39 v48) = v57
  refine GoW.st (fun t k => XS.lload X7.here hx rfl (hb hby at_59) rfl (XS.lload X7.here hx rfl (hb hby at_61) rfl k)) ?_
  show GoW p e below QQ (T7.setTop (mkF m 63 #[.val (.long q1), .second, .val (.long q2), .second, .val (.long q3), .second, .val (.long q4), .second, .val (.int p5), .val (.long v5), .second, .val (.long v12), .second, .val (.long v21), .second, .val (.long v30), .second, .val (.long v39), .second, .val (.long v48), .second, .val (.long v57), .second, .unset, .unset, .unset, .unset, .unset, .unset] [(.long v48), (.long v39)]))
  obtain ⟨_, _, ⟨T8, zL8, zk8, zn8⟩, -, X8, ⟨Lc8, hQ8, zl8, zy8, zz8⟩, st8⟩ := Jvm.LawKit.callS X7 hx (y := (⟨"java/lang/Math", "max", "(JJ)J"⟩ : MethodName)) hown (mvT hZ (hw _ (List.mem_of_getElem? (i := 4) rfl))) (mvT hZ (hw _ (List.mem_of_getElem? (i := 5) rfl))) (mvT hZ (hw _ (List.mem_of_getElem? (i := 2) rfl))) (mvT hZ (hw _ (List.mem_of_getElem? (i := 6) rfl))) (by decide) (backOf (W := 0) (rm2 l Z a0 hw [] v39 v48 h0 n0 (Nat.le_trans Z0 K0.1) ) hZ (hw _ (List.mem_of_getElem? (i := 6) rfl)) (hw _ (List.mem_of_getElem? (i := 2) rfl)) (by decide) (by decide)) (g := (mkF m 63 #[.val (.long q1), .second, .val (.long q2), .second, .val (.long q3), .second, .val (.long q4), .second, .val (.int p5), .val (.long v5), .second, .val (.long v12), .second, .val (.long v21), .second, .val (.long v30), .second, .val (.long v39), .second, .val (.long v48), .second, .val (.long v57), .second, .unset, .unset, .unset, .unset, .unset, .unset] [(.long v48), (.long v39)])) rfl (by rw [hml]; rfl) (argsL := [(.long v39), (.long v48)]) (rest := []) (lenOf pd_3 rfl) rfl (by show 2 * 0 + _ ≤ _; exact Nat.le_of_eq rfl) (hb hby at_63) (fun _ _ => ⟨rfl, hh7, (by decide : 0 + 0 ≤ _), (by decide : 0 + 0 ≤ _)⟩)
  dsimp only [Pt.U, Pt.locs, Pt.cells, Pt.slots] at X8 zl8 zy8 zz8 st8 hQ8
  subst zl8 zy8 zz8
  obtain ⟨rfl, Nq8, hh8⟩ := hQ8
  have N8 := Fr.app N7 Nq8
  refine GoW.st st8 ?_
  show GoW p e below QQ (T8.setTop (mkF m 66 #[.val (.long q1), .second, .val (.long q2), .second, .val (.long q3), .second, .val (.long q4), .second, .val (.int p5), .val (.long v5), .second, .val (.long v12), .second, .val (.long v21), .second, .val (.long v30), .second, .val (.long v39), .second, .val (.long v48), .second, .val (.long v57), .second, .unset, .unset, .unset, .unset, .unset, .unset] [(.long (own_maxL v39 v48))]))
  refine GoW.st (fun t k => XS.lstore X8.here hx rfl (hb hby at_66) rfl (l' := #[.val (.long q1), .second, .val (.long q2), .second, .val (.long q3), .second, .val (.long q4), .second, .val (.int p5), .val (.long v5), .second, .val (.long v12), .second, .val (.long v21), .second, .val (.long v30), .second, .val (.long v39), .second, .val (.long v48), .second, .val (.long v57), .second, .val (.long (own_maxL v39 v48)), .second, .unset, .unset, .unset, .unset]) rfl k) ?_
  show GoW p e below QQ (T8.setTop (mkF m 68 #[.val (.long q1), .second, .val (.long q2), .second, .val (.long q3), .second, .val (.long q4), .second, .val (.int p5), .val (.long v5), .second, .val (.long v12), .second, .val (.long v21), .second, .val (.long v30), .second, .val (.long v39), .second, .val (.long v48), .second, .val (.long v57), .second, .val (.long (own_maxL v39 v48)), .second, .unset, .unset, .unset, .unset] []))
  generalize hv66 : (own_maxL v39 v48) = v66
  refine GoW.st (fun t k => XS.lload X8.here hx rfl (hb hby at_68) rfl (XS.lload X8.here hx rfl (hb hby at_70) rfl k)) ?_
  show GoW p e below QQ (T8.setTop (mkF m 72 #[.val (.long q1), .second, .val (.long q2), .second, .val (.long q3), .second, .val (.long q4), .second, .val (.int p5), .val (.long v5), .second, .val (.long v12), .second, .val (.long v21), .second, .val (.long v30), .second, .val (.long v39), .second, .val (.long v48), .second, .val (.long v57), .second, .val (.long v66), .second, .unset, .unset, .unset, .unset] [(.long v30), (.long v12)]))
  obtain ⟨_, _, ⟨T9, zL9, zk9, zn9⟩, -, X9, ⟨Lc9, hQ9, zl9, zy9, zz9⟩, st9⟩ := Jvm.LawKit.callS X8 hx (y := (⟨"java/lang/Math", "max", "(JJ)J"⟩ : MethodName)) hown (mvT hZ (hw _ (List.mem_of_getElem? (i := 4) rfl))) (mvT hZ (hw _ (List.mem_of_getElem? (i := 5) rfl))) (mvT hZ (hw _ (List.mem_of_getElem? (i := 2) rfl))) (mvT hZ (hw _ (List.mem_of_getElem? (i := 6) rfl))) (by decide) (backOf (W := 0) (rm2 l Z a0 hw [] v12 v30 h0 n0 (Nat.le_trans Z0 K0.1) ) hZ (hw _ (List.mem_of_getElem? (i := 6) rfl)) (hw _ (List.mem_of_getElem? (i := 2) rfl)) (by decide) (by decide)) (g := (mkF m 72 #[.val (.long q1), .second, .val (.long q2), .second, .val (.long q3), .second, .val (.long q4), .second, .val (.int p5), .val (.long v5), .second, .val (.long v12), .second, .val (.long v21), .second, .val (.long v30), .second, .val (.long v39), .second, .val (.long v48), .second, .val (.long v57), .second, .val (.long v66), .second, .unset, .unset, .unset, .unset] [(.long v30), (.long v12)])) rfl (by rw [hml]; rfl) (argsL := [(.long v12), (.long v30)]) (rest := []) (lenOf pd_3 rfl) rfl (by show 2 * 0 + _ ≤ _; exact Nat.le_of_eq rfl) (hb hby at_72) (fun _ _ => ⟨rfl, hh8, (by decide : 0 + 0 ≤ _), (by decide : 0 + 0 ≤ _)⟩)
  dsimp only [Pt.U, Pt.locs, Pt.cells, Pt.slots] at X9 zl9 zy9 zz9 st9 hQ9
  subst zl9 zy9 zz9
  obtain ⟨rfl, Nq9, hh9⟩ := hQ9
  have N9 := Fr.app N8 Nq9
  refine GoW.st st9 ?_
  show GoW p e below QQ (T9.setTop (mkF m 75 #[.val (.long q1), .second, .val (.long q2), .second, .val (.long q3), .second, .val (.long q4), .second, .val (.int p5), .val (.long v5), .second, .val (.long v12), .second, .val (.long v21), .second, .val (.long v30), .second, .val (.long v39), .second, .val (.long v48), .second, .val (.long v57), .second, .val (.long v66), .second, .unset, .unset, .unset, .unset] [(.long (own_maxL v12 v30))]))
  refine GoW.st (fun t k => XS.lstore X9.here hx rfl (hb hby at_75) rfl (l' := #[.val (.long q1), .second, .val (.long q2), .second, .val (.long q3), .second, .val (.long q4), .second, .val (.int p5), .val (.long v5), .second, .val (.long v12), .second, .val (.long v21), .second, .val (.long v30), .second, .val (.long v39), .second, .val (.long v48), .second, .val (.long v57), .second, .val (.long v66), .second, .val (.long (own_maxL v12 v30)), .second, .unset, .unset]) rfl k) ?_
  show GoW p e below QQ (T9.setTop (mkF m 77 #[.val (.long q1), .second, .val (.long q2), .second, .val (.long q3), .second, .val (.long q4), .second, .val (.int p5), .val (.long v5), .second, .val (.long v12), .second, .val (.long v21), .second, .val (.long v30), .second, .val (.long v39), .second, .val (.long v48), .second, .val (.long v57), .second, .val (.long v66), .second, .val (.long (own_maxL v12 v30)), .second, .unset, .unset] []))
  generalize hv75 : (own_maxL v12 v30) = v75
  obtain ⟨t0, ht0⟩ : ∃ t, own_minL v5 v21 = t := ⟨_, rfl⟩
  have sw1 : ∀ f : Int64 → Int, f v5 + f v12 = f q1 + f q2 := fun f => by rw [← hv5, ← hv12]; exact own_swap f q1 q2
  have sw2 : ∀ f : Int64 → Int, f v21 + f v30 = f q3 + f q4 := fun f => by rw [← hv21, ← hv30]; exact own_swap f q3 q4
  have sw3 : ∀ f : Int64 → Int, f t0 + f v39 = f v5 + f v21 := fun f => by rw [← ht0, ← hv39]; exact own_swap f v5 v21
  have sw4 : ∀ f : Int64 → Int, f v48 + f v75 = f v12 + f v30 := fun f => by rw [← hv48, ← hv75]; exact own_swap f v12 v30
  have sw5 : ∀ f : Int64 → Int, f v57 + f v66 = f v39 + f v48 := fun f => by rw [← hv57, ← hv66]; exact own_swap f v39 v48
  have tot : ∀ f : Int64 → Int, f t0 + f v57 + f v66 + f v75 = f q1 + f q2 + f q3 + f q4 := fun f => by have a1 := sw1 f; have a2 := sw2 f; have a3 := sw3 f; have a4 := sw4 f; have a5 := sw5 f; omega
  have i_hv5 := own_minL_i q1 q2
  rw [hv5] at i_hv5
  have i_hv12 := own_maxL_i q1 q2
  rw [hv12] at i_hv12
  have i_hv21 := own_minL_i q3 q4
  rw [hv21] at i_hv21
  have i_hv30 := own_maxL_i q3 q4
  rw [hv30] at i_hv30
  have i_ht0 := own_minL_i v5 v21
  rw [ht0] at i_ht0
  have i_hv39 := own_maxL_i v5 v21
  rw [hv39] at i_hv39
  have i_hv48 := own_minL_i v12 v30
  rw [hv48] at i_hv48
  have i_hv75 := own_maxL_i v12 v30
  rw [hv75] at i_hv75
  have i_hv57 := own_minL_i v39 v48
  rw [hv57] at i_hv57
  have i_hv66 := own_maxL_i v39 v48
  rw [hv66] at i_hv66
  have so1 : t0.toInt ≤ v57.toInt := by omega
  have so2 : v57.toInt ≤ v66.toInt := by omega
  have so3 : v66.toInt ≤ v75.toInt := by omega
  clear sw1 sw2 sw3 sw4 sw5
  clear i_hv5
  clear i_hv12
  clear i_hv21
  clear i_hv30
  clear i_ht0
  clear i_hv39
  clear i_hv48
  clear i_hv75
  clear i_hv57
  clear i_hv66
  obtain ⟨T10, h10, X10, e10, E10, A10, D10, -, st10⟩ := newO X9 hx hZ hown (hw _ (List.mem_of_getElem? (i := 7) rfl)) (hw _ (List.mem_of_getElem? (i := 8) rfl)) (hw _ (List.mem_of_getElem? (i := 9) rfl)) hh9 (g := (mkF m 77 #[.val (.long q1), .second, .val (.long q2), .second, .val (.long q3), .second, .val (.long q4), .second, .val (.int p5), .val (.long v5), .second, .val (.long v12), .second, .val (.long v21), .second, .val (.long v30), .second, .val (.long v39), .second, .val (.long v48), .second, .val (.long v57), .second, .val (.long v66), .second, .val (.long v75), .second, .unset, .unset] [])) rfl (hb hby at_77) (by decide) (by decide)
  obtain ⟨b10, g10⟩ : ∃ z, z = h0.size := ⟨_, rfl⟩
  rw [← g10] at A10 D10 st10
  refine GoW.st st10 ?_
  have gg10 : n0 ≤ b10 := Nat.le_trans (Nat.le_trans Z0 K0.1) (Nat.le_of_eq g10.symm)
  have sz10 : h0.size ≤ b10 := Nat.le_trans K0.1 (Nat.le_of_eq g10.symm)
  have K10 : Keep h0 h10 [] := K0.ext E10
  have F10_values : Fld Z h10 b10 "com/example/eunomia/eunomia/sticky/LongHeap" "values" "[J" .null := D10 (Or.inl (hw _ (List.mem_of_getElem? (i := 21) rfl))) (ty := (.array .long)) (by decide)
  have F10_size : Fld Z h10 b10 "com/example/eunomia/eunomia/sticky/LongHeap" "size" "I" (.int (0 : Int32)) := D10 (Or.inl (hw _ (List.mem_of_getElem? (i := 28) rfl))) (ty := .int) (by decide)
  show GoW p e below QQ (T10.setTop (mkF m 80 #[.val (.long q1), .second, .val (.long q2), .second, .val (.long q3), .second, .val (.long q4), .second, .val (.int p5), .val (.long v5), .second, .val (.long v12), .second, .val (.long v21), .second, .val (.long v30), .second, .val (.long v39), .second, .val (.long v48), .second, .val (.long v57), .second, .val (.long v66), .second, .val (.long v75), .second, .unset, .unset] [(.ref b10)]))
  refine GoW.st (fun t k => XS.dup X10.here hx rfl (hb hby at_80) rfl rfl (XS.iload X10.here hx rfl (hb hby at_81) rfl (XS.bipush X10.here hx rfl (hb hby at_83) (XS.iand X10.here hx rfl (hb hby at_85) rfl k)))) ?_
  show GoW p e below QQ (T10.setTop (mkF m 86 #[.val (.long q1), .second, .val (.long q2), .second, .val (.long q3), .second, .val (.long q4), .second, .val (.int p5), .val (.long v5), .second, .val (.long v12), .second, .val (.long v21), .second, .val (.long v30), .second, .val (.long v39), .second, .val (.long v48), .second, .val (.long v57), .second, .val (.long v66), .second, .val (.long v75), .second, .unset, .unset] [(.int (p5 &&& (7 : Int32))), (.ref b10), (.ref b10)]))
  obtain ⟨_, _, ⟨T12, zL12, zk12, zn12⟩, -, X12, ⟨Lc12, hQ12, zl12, zy12, zz12⟩, st12⟩ := X10.specialBack hx (y := (⟨"com/example/eunomia/eunomia/sticky/LongHeap", "<init>", "(I)V"⟩ : MethodName)) rfl hown (mvT hZ (hw _ (List.mem_of_getElem? (i := 10) rfl))) (mvT hZ (hw _ (List.mem_of_getElem? (i := 11) rfl))) (mvT hZ (hw _ (List.mem_of_getElem? (i := 12) rfl))) (by decide) (backOf (W := 1) (rm3 l Z a0 hw [] b10 (p5 &&& (7 : Int32)) h10 n0 (Nat.le_trans Z0 K10.1) A10 gg10 F10_values F10_size (by have q := c_and p5 7 (by decide); have z7 : (7 : Int32).toInt = 7 := rfl; omega)) hZ (hw _ (List.mem_of_getElem? (i := 12) rfl)) (hw _ (List.mem_of_getElem? (i := 9) rfl)) (by decide) (by decide)) (g := (mkF m 86 #[.val (.long q1), .second, .val (.long q2), .second, .val (.long q3), .second, .val (.long q4), .second, .val (.int p5), .val (.long v5), .second, .val (.long v12), .second, .val (.long v21), .second, .val (.long v30), .second, .val (.long v39), .second, .val (.long v48), .second, .val (.long v57), .second, .val (.long v66), .second, .val (.long v75), .second, .unset, .unset] [(.int (p5 &&& (7 : Int32))), (.ref b10), (.ref b10)])) rfl (by rw [hml]; rfl) (Steps.refl _) (a := b10) (argsL := [(.int (p5 &&& (7 : Int32)))]) (rest := [(.ref b10)]) (lenOf pd_4 rfl) rfl (by show 2 * 0 + _ ≤ _; exact Nat.le_of_eq rfl) (hb hby at_86) (fun _ _ => ⟨rfl, e10, (by decide : 1 + 1 ≤ _), (by decide : 2 + 7 ≤ _)⟩)
  dsimp only [Pt.U, Pt.locs, Pt.cells, Pt.slots] at X12 zl12 zy12 zz12 st12 hQ12
  subst zl12 zy12 zz12
  obtain ⟨b_86, kb_86, z_86, rfl, Nq12, Kq12, p12_0, p12_1, p12_2, p12_3, p12_4, p12_5⟩ := hQ12
  have N12 := Fr.app N9 Nq12
  refine GoW.st (fun t k => st12.trans k) ?_
  have ne12_b10_b_86 : b10 ≠ b_86 := Nat.ne_of_lt (Nat.lt_of_lt_of_le A10.lt p12_3)
  have sz12_b_86 : h0.size ≤ b_86 := Nat.le_trans K10.1 p12_3
  have gg12_b_86 : n0 ≤ b_86 := Nat.le_trans Z0 sz12_b_86
  have K12 : Keep h0 T12.heap [] := K10.trans Kq12 (allS (Or.inr sz10) all0)
  have hz_86 := p12_5
  show GoW p e below QQ (T12.setTop (mkF m 89 #[.val (.long q1), .second, .val (.long q2), .second, .val (.long q3), .second, .val (.long q4), .second, .val (.int p5), .val (.long v5), .second, .val (.long v12), .second, .val (.long v21), .second, .val (.long v30), .second, .val (.long v39), .second, .val (.long v48), .second, .val (.long v57), .second, .val (.long v66), .second, .val (.long v75), .second, .unset, .unset] [(.ref b10)]))
  refine GoW.st (fun t k => XS.astore X12.here hx rfl (hb hby at_89) rfl rfl (l' := #[.val (.long q1), .second, .val (.long q2), .second, .val (.long q3), .second, .val (.long q4), .second, .val (.int p5), .val (.long v5), .second, .val (.long v12), .second, .val (.long v21), .second, .val (.long v30), .second, .val (.long v39), .second, .val (.long v48), .second, .val (.long v57), .second, .val (.long v66), .second, .val (.long v75), .second, .val (.ref b10), .unset]) rfl (XS.aload X12.here hx rfl (hb hby at_91) rfl rfl (XS.lloadN X12.here hx rfl (hb hby at_93) rfl k))) ?_
  show GoW p e below QQ (T12.setTop (mkF m 94 #[.val (.long q1), .second, .val (.long q2), .second, .val (.long q3), .second, .val (.long q4), .second, .val (.int p5), .val (.long v5), .second, .val (.long v12), .second, .val (.long v21), .second, .val (.long v30), .second, .val (.long v39), .second, .val (.long v48), .second, .val (.long v57), .second, .val (.long v66), .second, .val (.long v75), .second, .val (.ref b10), .unset] [(.long q1), (.ref b10)]))
  obtain ⟨cq14, kq14, qa14, qb14, qc14⟩ := isOf hZ rfl p12_0
  obtain ⟨_, _, ⟨T14, zL14, zk14, zn14⟩, -, X14, ⟨Lc14, hQ14, zl14, zy14, zz14⟩, st14⟩ := X12.virtualBack hx (y := (⟨"com/example/eunomia/eunomia/sticky/LongHeap", "add", "(J)V"⟩ : MethodName)) (z := (⟨"com/example/eunomia/eunomia/sticky/LongHeap", "add", "(J)V"⟩ : MethodName)) hown (mvT hZ (hw _ (List.mem_of_getElem? (i := 22) rfl))) (mvT hZ (hw _ (List.mem_of_getElem? (i := 23) rfl))) (notFace_of_selects (args := #[]) (mvT hZ (hw _ (List.mem_of_getElem? (i := 25) rfl)))) (mvT hZ (hw _ (List.mem_of_getElem? (i := 25) rfl))) (mvT hZ (hw _ (List.mem_of_getElem? (i := 24) rfl))) (by decide) (backOf (W := 0) (rm6_0 l Z a0 hw [] b10 q1 b_86 kb_86 z_86 (0 : Int64) (0 : Int64) (0 : Int64) (0 : Int64) T12.heap n0 (Nat.le_trans Z0 K12.1) p12_0 gg10 gg12_b_86 (Ne.symm ne12_b10_b_86) p12_1 p12_2 p12_4 (by omega)) hZ (hw _ (List.mem_of_getElem? (i := 26) rfl)) (hw _ (List.mem_of_getElem? (i := 9) rfl)) (by decide) (by decide)) qa14 qc14 (g := (mkF m 94 #[.val (.long q1), .second, .val (.long q2), .second, .val (.long q3), .second, .val (.long q4), .second, .val (.int p5), .val (.long v5), .second, .val (.long v12), .second, .val (.long v21), .second, .val (.long v30), .second, .val (.long v39), .second, .val (.long v48), .second, .val (.long v57), .second, .val (.long v66), .second, .val (.long v75), .second, .val (.ref b10), .unset] [(.long q1), (.ref b10)])) rfl (by rw [hml]; rfl) (Steps.refl _) (argsL := [(.long q1)]) (rest := []) (lenOf pd_2 rfl) rfl (by show 2 * 0 + _ ≤ _; exact Nat.le_of_eq rfl) (hb hby at_94) (fun _ _ => ⟨rfl, rfl, (by decide : 2 + 0 ≤ _), (by decide : 9 + 0 ≤ _)⟩)
  dsimp only [Pt.U, Pt.locs, Pt.cells, Pt.slots] at X14 zl14 zy14 zz14 st14 hQ14
  subst zl14 zy14 zz14
  obtain ⟨b_94, kb_94, zz_94, wa_94, wb_94, wc_94, wd_94, rfl, Nq14, Kq14, p14_0, p14_1, p14_2, p14_3, p14_4, p14_5, p14_6, p14_7⟩ := hQ14
  have N14 := Fr.app N12 Nq14
  refine GoW.st (fun t k => st14.trans k) ?_
  have K14 : Keep h0 T14.heap [] := K12.trans Kq14 (allS (Or.inr sz10) (allS (Or.inr sz12_b_86) all0))
  have hzz_94 := p14_6
  have hf_94 := p14_7
  show GoW p e below QQ (T14.setTop (mkF m 97 #[.val (.long q1), .second, .val (.long q2), .second, .val (.long q3), .second, .val (.long q4), .second, .val (.int p5), .val (.long v5), .second, .val (.long v12), .second, .val (.long v21), .second, .val (.long v30), .second, .val (.long v39), .second, .val (.long v48), .second, .val (.long v57), .second, .val (.long v66), .second, .val (.long v75), .second, .val (.ref b10), .unset] []))
  refine GoW.st (fun t k => XS.aload X14.here hx rfl (hb hby at_97) rfl rfl (XS.lloadN X14.here hx rfl (hb hby at_99) rfl k)) ?_
  show GoW p e below QQ (T14.setTop (mkF m 100 #[.val (.long q1), .second, .val (.long q2), .second, .val (.long q3), .second, .val (.long q4), .second, .val (.int p5), .val (.long v5), .second, .val (.long v12), .second, .val (.long v21), .second, .val (.long v30), .second, .val (.long v39), .second, .val (.long v48), .second, .val (.long v57), .second, .val (.long v66), .second, .val (.long v75), .second, .val (.ref b10), .unset] [(.long q2), (.ref b10)]))
  obtain ⟨cq16, kq16, qa16, qb16, qc16⟩ := isOf hZ rfl p14_0
  obtain ⟨_, _, ⟨T16, zL16, zk16, zn16⟩, -, X16, ⟨Lc16, hQ16, zl16, zy16, zz16⟩, st16⟩ := X14.virtualBack hx (y := (⟨"com/example/eunomia/eunomia/sticky/LongHeap", "add", "(J)V"⟩ : MethodName)) (z := (⟨"com/example/eunomia/eunomia/sticky/LongHeap", "add", "(J)V"⟩ : MethodName)) hown (mvT hZ (hw _ (List.mem_of_getElem? (i := 22) rfl))) (mvT hZ (hw _ (List.mem_of_getElem? (i := 23) rfl))) (notFace_of_selects (args := #[]) (mvT hZ (hw _ (List.mem_of_getElem? (i := 25) rfl)))) (mvT hZ (hw _ (List.mem_of_getElem? (i := 25) rfl))) (mvT hZ (hw _ (List.mem_of_getElem? (i := 24) rfl))) (by decide) (backOf (W := 0) (rm6_1 l Z a0 hw [] b10 q2 b_94 kb_94 zz_94 wa_94 wb_94 wc_94 wd_94 T14.heap n0 (Nat.le_trans Z0 K14.1) p14_0 gg10 p14_3 p14_4 p14_1 p14_2 p14_5 (by omega)) hZ (hw _ (List.mem_of_getElem? (i := 26) rfl)) (hw _ (List.mem_of_getElem? (i := 9) rfl)) (by decide) (by decide)) qa16 qc16 (g := (mkF m 100 #[.val (.long q1), .second, .val (.long q2), .second, .val (.long q3), .second, .val (.long q4), .second, .val (.int p5), .val (.long v5), .second, .val (.long v12), .second, .val (.long v21), .second, .val (.long v30), .second, .val (.long v39), .second, .val (.long v48), .second, .val (.long v57), .second, .val (.long v66), .second, .val (.long v75), .second, .val (.ref b10), .unset] [(.long q2), (.ref b10)])) rfl (by rw [hml]; rfl) (Steps.refl _) (argsL := [(.long q2)]) (rest := []) (lenOf pd_2 rfl) rfl (by show 2 * 0 + _ ≤ _; exact Nat.le_of_eq rfl) (hb hby at_100) (fun _ _ => ⟨rfl, rfl, (by decide : 2 + 1 ≤ _), (by decide : 9 + 2 ≤ _)⟩)
  dsimp only [Pt.U, Pt.locs, Pt.cells, Pt.slots] at X16 zl16 zy16 zz16 st16 hQ16
  subst zl16 zy16 zz16
  obtain ⟨b_100, kb_100, zz_100, wa_100, wb_100, wc_100, wd_100, rfl, Nq16, Kq16, p16_0, p16_1, p16_2, p16_3, p16_4, p16_5, p16_6, p16_7, p16_8⟩ := hQ16
  have N16 := Fr.app N14 Nq16
  refine GoW.st (fun t k => st16.trans k) ?_
  have K16 : Keep h0 T16.heap [] := K14.trans Kq16 (allS (Or.inr sz10) (allS (Or.inr (Nat.le_trans Z1 p14_3)) all0))
  have hzz_100 := p16_6
  have hf_100 := p16_7
  have hoo_100 := p16_8
  show GoW p e below QQ (T16.setTop (mkF m 103 #[.val (.long q1), .second, .val (.long q2), .second, .val (.long q3), .second, .val (.long q4), .second, .val (.int p5), .val (.long v5), .second, .val (.long v12), .second, .val (.long v21), .second, .val (.long v30), .second, .val (.long v39), .second, .val (.long v48), .second, .val (.long v57), .second, .val (.long v66), .second, .val (.long v75), .second, .val (.ref b10), .unset] []))
  refine GoW.st (fun t k => XS.aload X16.here hx rfl (hb hby at_103) rfl rfl (XS.lload X16.here hx rfl (hb hby at_105) rfl k)) ?_
  show GoW p e below QQ (T16.setTop (mkF m 107 #[.val (.long q1), .second, .val (.long q2), .second, .val (.long q3), .second, .val (.long q4), .second, .val (.int p5), .val (.long v5), .second, .val (.long v12), .second, .val (.long v21), .second, .val (.long v30), .second, .val (.long v39), .second, .val (.long v48), .second, .val (.long v57), .second, .val (.long v66), .second, .val (.long v75), .second, .val (.ref b10), .unset] [(.long q3), (.ref b10)]))
  obtain ⟨cq18, kq18, qa18, qb18, qc18⟩ := isOf hZ rfl p16_0
  obtain ⟨_, _, ⟨T18, zL18, zk18, zn18⟩, -, X18, ⟨Lc18, hQ18, zl18, zy18, zz18⟩, st18⟩ := X16.virtualBack hx (y := (⟨"com/example/eunomia/eunomia/sticky/LongHeap", "add", "(J)V"⟩ : MethodName)) (z := (⟨"com/example/eunomia/eunomia/sticky/LongHeap", "add", "(J)V"⟩ : MethodName)) hown (mvT hZ (hw _ (List.mem_of_getElem? (i := 22) rfl))) (mvT hZ (hw _ (List.mem_of_getElem? (i := 23) rfl))) (notFace_of_selects (args := #[]) (mvT hZ (hw _ (List.mem_of_getElem? (i := 25) rfl)))) (mvT hZ (hw _ (List.mem_of_getElem? (i := 25) rfl))) (mvT hZ (hw _ (List.mem_of_getElem? (i := 24) rfl))) (by decide) (backOf (W := 0) (rm6_2 l Z a0 hw [] b10 q3 b_100 kb_100 zz_100 wa_100 wb_100 wc_100 wd_100 T16.heap n0 (Nat.le_trans Z0 K16.1) p16_0 gg10 p16_3 p16_4 p16_1 p16_2 p16_5 (by omega) (by omega)) hZ (hw _ (List.mem_of_getElem? (i := 26) rfl)) (hw _ (List.mem_of_getElem? (i := 9) rfl)) (by decide) (by decide)) qa18 qc18 (g := (mkF m 107 #[.val (.long q1), .second, .val (.long q2), .second, .val (.long q3), .second, .val (.long q4), .second, .val (.int p5), .val (.long v5), .second, .val (.long v12), .second, .val (.long v21), .second, .val (.long v30), .second, .val (.long v39), .second, .val (.long v48), .second, .val (.long v57), .second, .val (.long v66), .second, .val (.long v75), .second, .val (.ref b10), .unset] [(.long q3), (.ref b10)])) rfl (by rw [hml]; rfl) (Steps.refl _) (argsL := [(.long q3)]) (rest := []) (lenOf pd_2 rfl) rfl (by show 2 * 0 + _ ≤ _; exact Nat.le_of_eq rfl) (hb hby at_107) (fun _ _ => ⟨rfl, rfl, (by decide : 3 + 1 ≤ _), (by decide : 11 + 4 ≤ _)⟩)
  dsimp only [Pt.U, Pt.locs, Pt.cells, Pt.slots] at X18 zl18 zy18 zz18 st18 hQ18
  subst zl18 zy18 zz18
  obtain ⟨b_107, kb_107, zz_107, wa_107, wb_107, wc_107, wd_107, rfl, Nq18, Kq18, p18_0, p18_1, p18_2, p18_3, p18_4, p18_5, p18_6, p18_7, p18_8⟩ := hQ18
  have N18 := Fr.app N16 Nq18
  refine GoW.st (fun t k => st18.trans k) ?_
  have K18 : Keep h0 T18.heap [] := K16.trans Kq18 (allS (Or.inr sz10) (allS (Or.inr (Nat.le_trans Z1 p16_3)) all0))
  have hzz_107 := p18_6
  have hf_107 := p18_7
  have hoo_107 := p18_8
  show GoW p e below QQ (T18.setTop (mkF m 110 #[.val (.long q1), .second, .val (.long q2), .second, .val (.long q3), .second, .val (.long q4), .second, .val (.int p5), .val (.long v5), .second, .val (.long v12), .second, .val (.long v21), .second, .val (.long v30), .second, .val (.long v39), .second, .val (.long v48), .second, .val (.long v57), .second, .val (.long v66), .second, .val (.long v75), .second, .val (.ref b10), .unset] []))
  refine GoW.st (fun t k => XS.aload X18.here hx rfl (hb hby at_110) rfl rfl (XS.lload X18.here hx rfl (hb hby at_112) rfl k)) ?_
  show GoW p e below QQ (T18.setTop (mkF m 114 #[.val (.long q1), .second, .val (.long q2), .second, .val (.long q3), .second, .val (.long q4), .second, .val (.int p5), .val (.long v5), .second, .val (.long v12), .second, .val (.long v21), .second, .val (.long v30), .second, .val (.long v39), .second, .val (.long v48), .second, .val (.long v57), .second, .val (.long v66), .second, .val (.long v75), .second, .val (.ref b10), .unset] [(.long q4), (.ref b10)]))
  obtain ⟨cq20, kq20, qa20, qb20, qc20⟩ := isOf hZ rfl p18_0
  obtain ⟨_, _, ⟨T20, zL20, zk20, zn20⟩, -, X20, ⟨Lc20, hQ20, zl20, zy20, zz20⟩, st20⟩ := X18.virtualBack hx (y := (⟨"com/example/eunomia/eunomia/sticky/LongHeap", "add", "(J)V"⟩ : MethodName)) (z := (⟨"com/example/eunomia/eunomia/sticky/LongHeap", "add", "(J)V"⟩ : MethodName)) hown (mvT hZ (hw _ (List.mem_of_getElem? (i := 22) rfl))) (mvT hZ (hw _ (List.mem_of_getElem? (i := 23) rfl))) (notFace_of_selects (args := #[]) (mvT hZ (hw _ (List.mem_of_getElem? (i := 25) rfl)))) (mvT hZ (hw _ (List.mem_of_getElem? (i := 25) rfl))) (mvT hZ (hw _ (List.mem_of_getElem? (i := 24) rfl))) (by decide) (backOf (W := 0) (rm6_3 l Z a0 hw [] b10 q4 b_107 kb_107 zz_107 wa_107 wb_107 wc_107 wd_107 T18.heap n0 (Nat.le_trans Z0 K18.1) p18_0 gg10 p18_3 p18_4 p18_1 p18_2 p18_5 (by omega) (by omega)) hZ (hw _ (List.mem_of_getElem? (i := 26) rfl)) (hw _ (List.mem_of_getElem? (i := 9) rfl)) (by decide) (by decide)) qa20 qc20 (g := (mkF m 114 #[.val (.long q1), .second, .val (.long q2), .second, .val (.long q3), .second, .val (.long q4), .second, .val (.int p5), .val (.long v5), .second, .val (.long v12), .second, .val (.long v21), .second, .val (.long v30), .second, .val (.long v39), .second, .val (.long v48), .second, .val (.long v57), .second, .val (.long v66), .second, .val (.long v75), .second, .val (.ref b10), .unset] [(.long q4), (.ref b10)])) rfl (by rw [hml]; rfl) (Steps.refl _) (argsL := [(.long q4)]) (rest := []) (lenOf pd_2 rfl) rfl (by show 2 * 0 + _ ≤ _; exact Nat.le_of_eq rfl) (hb hby at_114) (fun _ _ => ⟨rfl, rfl, (by decide : 4 + 1 ≤ _), (by decide : 15 + 6 ≤ _)⟩)
  dsimp only [Pt.U, Pt.locs, Pt.cells, Pt.slots] at X20 zl20 zy20 zz20 st20 hQ20
  subst zl20 zy20 zz20
  obtain ⟨b_114, kb_114, zz_114, wa_114, wb_114, wc_114, wd_114, rfl, Nq20, Kq20, p20_0, p20_1, p20_2, p20_3, p20_4, p20_5, p20_6, p20_7, p20_8⟩ := hQ20
  have N20 := Fr.app N18 Nq20
  refine GoW.st (fun t k => st20.trans k) ?_
  have K20 : Keep h0 T20.heap [] := K18.trans Kq20 (allS (Or.inr sz10) (allS (Or.inr (Nat.le_trans Z1 p18_3)) all0))
  have hzz_114 := p20_6
  have hf_114 := p20_7
  have hoo_114 := p20_8
  show GoW p e below QQ (T20.setTop (mkF m 117 #[.val (.long q1), .second, .val (.long q2), .second, .val (.long q3), .second, .val (.long q4), .second, .val (.int p5), .val (.long v5), .second, .val (.long v12), .second, .val (.long v21), .second, .val (.long v30), .second, .val (.long v39), .second, .val (.long v48), .second, .val (.long v57), .second, .val (.long v66), .second, .val (.long v75), .second, .val (.ref b10), .unset] []))
  refine GoW.st (fun t k => XS.aload X20.here hx rfl (hb hby at_117) rfl rfl k) ?_
  show GoW p e below QQ (T20.setTop (mkF m 119 #[.val (.long q1), .second, .val (.long q2), .second, .val (.long q3), .second, .val (.long q4), .second, .val (.int p5), .val (.long v5), .second, .val (.long v12), .second, .val (.long v21), .second, .val (.long v30), .second, .val (.long v39), .second, .val (.long v48), .second, .val (.long v57), .second, .val (.long v66), .second, .val (.long v75), .second, .val (.ref b10), .unset] [(.ref b10)]))
  obtain ⟨cq22, kq22, qa22, qb22, qc22⟩ := isOf hZ rfl p20_0
  obtain ⟨_, _, ⟨T22, zL22, zk22, zn22⟩, -, X22, ⟨Lc22, hQ22, zl22, zy22, zz22⟩, st22⟩ := X20.virtualBack hx (y := (⟨"com/example/eunomia/eunomia/sticky/LongHeap", "remove", "()V"⟩ : MethodName)) (z := (⟨"com/example/eunomia/eunomia/sticky/LongHeap", "remove", "()V"⟩ : MethodName)) hown (mvT hZ (hw _ (List.mem_of_getElem? (i := 40) rfl))) (mvT hZ (hw _ (List.mem_of_getElem? (i := 41) rfl))) (notFace_of_selects (args := #[]) (mvT hZ (hw _ (List.mem_of_getElem? (i := 43) rfl)))) (mvT hZ (hw _ (List.mem_of_getElem? (i := 43) rfl))) (mvT hZ (hw _ (List.mem_of_getElem? (i := 42) rfl))) (by decide) (backOf (W := 0) (rm9_4 l Z a0 hw [] b10 b_114 kb_114 zz_114 wa_114 wb_114 wc_114 wd_114 T20.heap n0 (Nat.le_trans Z0 K20.1) p20_0 gg10 p20_3 p20_4 p20_1 p20_2 p20_5 (by omega) (by omega)) hZ (hw _ (List.mem_of_getElem? (i := 44) rfl)) (hw _ (List.mem_of_getElem? (i := 9) rfl)) (by decide) (by decide)) qa22 qc22 (g := (mkF m 119 #[.val (.long q1), .second, .val (.long q2), .second, .val (.long q3), .second, .val (.long q4), .second, .val (.int p5), .val (.long v5), .second, .val (.long v12), .second, .val (.long v21), .second, .val (.long v30), .second, .val (.long v39), .second, .val (.long v48), .second, .val (.long v57), .second, .val (.long v66), .second, .val (.long v75), .second, .val (.ref b10), .unset] [(.ref b10)])) rfl (by rw [hml]; rfl) (Steps.refl _) (argsL := []) (rest := []) (lenOf pd_5 rfl) rfl (by show 2 * 0 + _ ≤ _; exact Nat.le_of_eq rfl) (hb hby at_119) (fun _ _ => ⟨rfl, rfl, (by decide : 5 + 0 ≤ _), (by decide : 21 + 0 ≤ _)⟩)
  dsimp only [Pt.U, Pt.locs, Pt.cells, Pt.slots] at X22 zl22 zy22 zz22 st22 hQ22
  subst zl22 zy22 zz22
  obtain ⟨wa_119, wb_119, wc_119, wd_119, rfl, Nq22, Kq22, p22_0, p22_1, p22_2, p22_3, p22_4, p22_5, p22_6⟩ := hQ22
  have N22 := Fr.app N20 Nq22
  refine GoW.st (fun t k => st22.trans k) ?_
  have K22 : Keep h0 T22.heap [] := K20.trans Kq22 (allS (Or.inr sz10) (allS (Or.inr (Nat.le_trans Z1 p20_3)) all0))
  have hf_119 := p22_4
  have hlw_119 := p22_5
  have hoo_119 := p22_6
  show GoW p e below QQ (T22.setTop (mkF m 122 #[.val (.long q1), .second, .val (.long q2), .second, .val (.long q3), .second, .val (.long q4), .second, .val (.int p5), .val (.long v5), .second, .val (.long v12), .second, .val (.long v21), .second, .val (.long v30), .second, .val (.long v39), .second, .val (.long v48), .second, .val (.long v57), .second, .val (.long v66), .second, .val (.long v75), .second, .val (.ref b10), .unset] []))
  refine GoW.st (fun t k => XS.aload X22.here hx rfl (hb hby at_122) rfl rfl k) ?_
  show GoW p e below QQ (T22.setTop (mkF m 124 #[.val (.long q1), .second, .val (.long q2), .second, .val (.long q3), .second, .val (.long q4), .second, .val (.int p5), .val (.long v5), .second, .val (.long v12), .second, .val (.long v21), .second, .val (.long v30), .second, .val (.long v39), .second, .val (.long v48), .second, .val (.long v57), .second, .val (.long v66), .second, .val (.long v75), .second, .val (.ref b10), .unset] [(.ref b10)]))
  obtain ⟨cq24, kq24, qa24, qb24, qc24⟩ := isOf hZ rfl p22_0
  obtain ⟨_, _, ⟨T24, zL24, zk24, zn24⟩, -, X24, ⟨Lc24, hQ24, zl24, zy24, zz24⟩, st24⟩ := X22.virtualBack hx (y := (⟨"com/example/eunomia/eunomia/sticky/LongHeap", "peek", "()J"⟩ : MethodName)) (z := (⟨"com/example/eunomia/eunomia/sticky/LongHeap", "peek", "()J"⟩ : MethodName)) hown (mvT hZ (hw _ (List.mem_of_getElem? (i := 49) rfl))) (mvT hZ (hw _ (List.mem_of_getElem? (i := 50) rfl))) (notFace_of_selects (args := #[]) (mvT hZ (hw _ (List.mem_of_getElem? (i := 52) rfl)))) (mvT hZ (hw _ (List.mem_of_getElem? (i := 52) rfl))) (mvT hZ (hw _ (List.mem_of_getElem? (i := 51) rfl))) (by decide) (backOf (W := 0) (rm11 l Z a0 hw [] b10 b_114 kb_114 zz_114 wa_119 wb_119 wc_119 wd_119 T22.heap n0 (Nat.le_trans Z0 K22.1) p22_1 p22_3 (by omega)) hZ (hw _ (List.mem_of_getElem? (i := 53) rfl)) (hw _ (List.mem_of_getElem? (i := 9) rfl)) (by decide) (by decide)) qa24 qc24 (g := (mkF m 124 #[.val (.long q1), .second, .val (.long q2), .second, .val (.long q3), .second, .val (.long q4), .second, .val (.int p5), .val (.long v5), .second, .val (.long v12), .second, .val (.long v21), .second, .val (.long v30), .second, .val (.long v39), .second, .val (.long v48), .second, .val (.long v57), .second, .val (.long v66), .second, .val (.long v75), .second, .val (.ref b10), .unset] [(.ref b10)])) rfl (by rw [hml]; rfl) (Steps.refl _) (argsL := []) (rest := []) (lenOf pd_6 rfl) rfl (by show 2 * 0 + _ ≤ _; exact Nat.le_of_eq rfl) (hb hby at_124) (fun _ _ => ⟨rfl, rfl, (by decide : 5 + 0 ≤ _), (by decide : 21 + 0 ≤ _)⟩)
  dsimp only [Pt.U, Pt.locs, Pt.cells, Pt.slots] at X24 zl24 zy24 zz24 st24 hQ24
  subst zl24 zy24 zz24
  obtain ⟨rfl, Nq24, hh24⟩ := hQ24
  have N24 := Fr.app N22 Nq24
  refine GoW.st (fun t k => st24.trans k) ?_
  show GoW p e below QQ (T24.setTop (mkF m 127 #[.val (.long q1), .second, .val (.long q2), .second, .val (.long q3), .second, .val (.long q4), .second, .val (.int p5), .val (.long v5), .second, .val (.long v12), .second, .val (.long v21), .second, .val (.long v30), .second, .val (.long v39), .second, .val (.long v48), .second, .val (.long v57), .second, .val (.long v66), .second, .val (.long v75), .second, .val (.ref b10), .unset] [(.long wa_119)]))
  refine GoW.st (fun t k => XS.lload X24.here hx rfl (hb hby at_127) rfl (XS.lcmp X24.here hx rfl (hb hby at_129) rfl k)) ?_
  show GoW p e below QQ (T24.setTop (mkF m 130 #[.val (.long q1), .second, .val (.long q2), .second, .val (.long q3), .second, .val (.long q4), .second, .val (.int p5), .val (.long v5), .second, .val (.long v12), .second, .val (.long v21), .second, .val (.long v30), .second, .val (.long v39), .second, .val (.long v48), .second, .val (.long v57), .second, .val (.long v66), .second, .val (.long v75), .second, .val (.ref b10), .unset] [(.int (lcmpW wa_119 v57))]))
  have hc130 : wa_119 = v57 := by
    exact own_os2 wa_114 wa_119 wb_119 wc_119 t0 v57 v66 v75 (fun f => by have f94 := hf_94 f; have f100 := hf_100 f; have f107 := hf_107 f; have f114 := hf_114 f; have f119 := hf_119 f; have tt := tot f; omega) (by omega) (by omega) (by omega) so1 so2 so3
  refine GoW.st (fun t k => XS.ifNo X24.here hx rfl (hb hby at_130) rfl ((if0 _ _).trans (teq ((lw_eq wa_119 v57).mpr hc130)).2) (XS.iconst X24.here hx rfl (hb hby at_133) (XS.goto X24.here hx rfl (pc0 := 134) (pc' := 138) rfl (hb hby at_134) (by decide) (by decide) (XS.istore X24.here hx rfl (hb hby at_138) rfl (l' := #[.val (.long q1), .second, .val (.long q2), .second, .val (.long q3), .second, .val (.long q4), .second, .val (.int p5), .val (.long v5), .second, .val (.long v12), .second, .val (.long v21), .second, .val (.long v30), .second, .val (.long v39), .second, .val (.long v48), .second, .val (.long v57), .second, .val (.long v66), .second, .val (.long v75), .second, .val (.ref b10), .val (.int (1 : Int32))]) rfl (XS.aload X24.here hx rfl (hb hby at_140) rfl rfl k))))) ?_
  show GoW p e below QQ (T24.setTop (mkF m 142 #[.val (.long q1), .second, .val (.long q2), .second, .val (.long q3), .second, .val (.long q4), .second, .val (.int p5), .val (.long v5), .second, .val (.long v12), .second, .val (.long v21), .second, .val (.long v30), .second, .val (.long v39), .second, .val (.long v48), .second, .val (.long v57), .second, .val (.long v66), .second, .val (.long v75), .second, .val (.ref b10), .val (.int (1 : Int32))] [(.ref b10)]))
  obtain ⟨cq25, kq25, qa25, qb25, qc25⟩ := isOf hZ hh24 p22_0
  obtain ⟨_, _, ⟨T25, zL25, zk25, zn25⟩, -, X25, ⟨Lc25, hQ25, zl25, zy25, zz25⟩, st25⟩ := X24.virtualBack hx (y := (⟨"com/example/eunomia/eunomia/sticky/LongHeap", "remove", "()V"⟩ : MethodName)) (z := (⟨"com/example/eunomia/eunomia/sticky/LongHeap", "remove", "()V"⟩ : MethodName)) hown (mvT hZ (hw _ (List.mem_of_getElem? (i := 40) rfl))) (mvT hZ (hw _ (List.mem_of_getElem? (i := 41) rfl))) (notFace_of_selects (args := #[]) (mvT hZ (hw _ (List.mem_of_getElem? (i := 43) rfl)))) (mvT hZ (hw _ (List.mem_of_getElem? (i := 43) rfl))) (mvT hZ (hw _ (List.mem_of_getElem? (i := 42) rfl))) (by decide) (backOf (W := 0) (rm9_3 l Z a0 hw [] b10 b_114 kb_114 zz_114 wa_119 wb_119 wc_119 wd_119 T22.heap n0 (Nat.le_trans Z0 K22.1) p22_0 gg10 p20_3 p20_4 p22_1 p22_2 p22_3 (by omega) (by omega)) hZ (hw _ (List.mem_of_getElem? (i := 44) rfl)) (hw _ (List.mem_of_getElem? (i := 9) rfl)) (by decide) (by decide)) qa25 qc25 (g := (mkF m 142 #[.val (.long q1), .second, .val (.long q2), .second, .val (.long q3), .second, .val (.long q4), .second, .val (.int p5), .val (.long v5), .second, .val (.long v12), .second, .val (.long v21), .second, .val (.long v30), .second, .val (.long v39), .second, .val (.long v48), .second, .val (.long v57), .second, .val (.long v66), .second, .val (.long v75), .second, .val (.ref b10), .val (.int (1 : Int32))] [(.ref b10)])) rfl (by rw [hml]; rfl) (Steps.refl _) (argsL := []) (rest := []) (lenOf pd_5 rfl) rfl (by show 2 * 0 + _ ≤ _; exact Nat.le_of_eq rfl) (hb hby at_142) (fun _ _ => ⟨rfl, hh24, (by decide : 5 + 0 ≤ _), (by decide : 21 + 0 ≤ _)⟩)
  dsimp only [Pt.U, Pt.locs, Pt.cells, Pt.slots] at X25 zl25 zy25 zz25 st25 hQ25
  subst zl25 zy25 zz25
  obtain ⟨wa_142, wb_142, wc_142, wd_142, rfl, Nq25, Kq25, p25_0, p25_1, p25_2, p25_3, p25_4, p25_5, p25_6⟩ := hQ25
  have N25 := Fr.app N24 Nq25
  refine GoW.st (fun t k => st25.trans k) ?_
  have K25 : Keep h0 T25.heap [] := K22.trans Kq25 (allS (Or.inr sz10) (allS (Or.inr (Nat.le_trans Z1 p20_3)) all0))
  have hf_142 := p25_4
  have hlw_142 := p25_5
  have hoo_142 := p25_6
  show GoW p e below QQ (T25.setTop (mkF m 145 #[.val (.long q1), .second, .val (.long q2), .second, .val (.long q3), .second, .val (.long q4), .second, .val (.int p5), .val (.long v5), .second, .val (.long v12), .second, .val (.long v21), .second, .val (.long v30), .second, .val (.long v39), .second, .val (.long v48), .second, .val (.long v57), .second, .val (.long v66), .second, .val (.long v75), .second, .val (.ref b10), .val (.int (1 : Int32))] []))
  refine GoW.st (fun t k => XS.iload X25.here hx rfl (hb hby at_145) rfl k) ?_
  show GoW p e below QQ (T25.setTop (mkF m 147 #[.val (.long q1), .second, .val (.long q2), .second, .val (.long q3), .second, .val (.long q4), .second, .val (.int p5), .val (.long v5), .second, .val (.long v12), .second, .val (.long v21), .second, .val (.long v30), .second, .val (.long v39), .second, .val (.long v48), .second, .val (.long v57), .second, .val (.long v66), .second, .val (.long v75), .second, .val (.ref b10), .val (.int (1 : Int32))] [(.int (1 : Int32))]))
  have hc147 : ¬ ((1 : Int32) = (0 : Int32)) := by decide
  refine GoW.st (fun t k => XS.ifNo X25.here hx rfl (hb hby at_147) rfl ((if0 _ _).trans (feq hc147).1) (XS.aload X25.here hx rfl (hb hby at_150) rfl rfl k)) ?_
  show GoW p e below QQ (T25.setTop (mkF m 152 #[.val (.long q1), .second, .val (.long q2), .second, .val (.long q3), .second, .val (.long q4), .second, .val (.int p5), .val (.long v5), .second, .val (.long v12), .second, .val (.long v21), .second, .val (.long v30), .second, .val (.long v39), .second, .val (.long v48), .second, .val (.long v57), .second, .val (.long v66), .second, .val (.long v75), .second, .val (.ref b10), .val (.int (1 : Int32))] [(.ref b10)]))
  obtain ⟨cq27, kq27, qa27, qb27, qc27⟩ := isOf hZ rfl p25_0
  obtain ⟨_, _, ⟨T27, zL27, zk27, zn27⟩, -, X27, ⟨Lc27, hQ27, zl27, zy27, zz27⟩, st27⟩ := X25.virtualBack hx (y := (⟨"com/example/eunomia/eunomia/sticky/LongHeap", "peek", "()J"⟩ : MethodName)) (z := (⟨"com/example/eunomia/eunomia/sticky/LongHeap", "peek", "()J"⟩ : MethodName)) hown (mvT hZ (hw _ (List.mem_of_getElem? (i := 49) rfl))) (mvT hZ (hw _ (List.mem_of_getElem? (i := 50) rfl))) (notFace_of_selects (args := #[]) (mvT hZ (hw _ (List.mem_of_getElem? (i := 52) rfl)))) (mvT hZ (hw _ (List.mem_of_getElem? (i := 52) rfl))) (mvT hZ (hw _ (List.mem_of_getElem? (i := 51) rfl))) (by decide) (backOf (W := 0) (rm11 l Z a0 hw [] b10 b_114 kb_114 zz_114 wa_142 wb_142 wc_142 wd_142 T25.heap n0 (Nat.le_trans Z0 K25.1) p25_1 p25_3 (by omega)) hZ (hw _ (List.mem_of_getElem? (i := 53) rfl)) (hw _ (List.mem_of_getElem? (i := 9) rfl)) (by decide) (by decide)) qa27 qc27 (g := (mkF m 152 #[.val (.long q1), .second, .val (.long q2), .second, .val (.long q3), .second, .val (.long q4), .second, .val (.int p5), .val (.long v5), .second, .val (.long v12), .second, .val (.long v21), .second, .val (.long v30), .second, .val (.long v39), .second, .val (.long v48), .second, .val (.long v57), .second, .val (.long v66), .second, .val (.long v75), .second, .val (.ref b10), .val (.int (1 : Int32))] [(.ref b10)])) rfl (by rw [hml]; rfl) (Steps.refl _) (argsL := []) (rest := []) (lenOf pd_6 rfl) rfl (by show 2 * 0 + _ ≤ _; exact Nat.le_of_eq rfl) (hb hby at_152) (fun _ _ => ⟨rfl, rfl, (by decide : 5 + 0 ≤ _), (by decide : 21 + 0 ≤ _)⟩)
  dsimp only [Pt.U, Pt.locs, Pt.cells, Pt.slots] at X27 zl27 zy27 zz27 st27 hQ27
  subst zl27 zy27 zz27
  obtain ⟨rfl, Nq27, hh27⟩ := hQ27
  have N27 := Fr.app N25 Nq27
  refine GoW.st (fun t k => st27.trans k) ?_
  show GoW p e below QQ (T27.setTop (mkF m 155 #[.val (.long q1), .second, .val (.long q2), .second, .val (.long q3), .second, .val (.long q4), .second, .val (.int p5), .val (.long v5), .second, .val (.long v12), .second, .val (.long v21), .second, .val (.long v30), .second, .val (.long v39), .second, .val (.long v48), .second, .val (.long v57), .second, .val (.long v66), .second, .val (.long v75), .second, .val (.ref b10), .val (.int (1 : Int32))] [(.long wa_142)]))
  refine GoW.st (fun t k => XS.lload X27.here hx rfl (hb hby at_155) rfl (XS.lcmp X27.here hx rfl (hb hby at_157) rfl k)) ?_
  show GoW p e below QQ (T27.setTop (mkF m 158 #[.val (.long q1), .second, .val (.long q2), .second, .val (.long q3), .second, .val (.long q4), .second, .val (.int p5), .val (.long v5), .second, .val (.long v12), .second, .val (.long v21), .second, .val (.long v30), .second, .val (.long v39), .second, .val (.long v48), .second, .val (.long v57), .second, .val (.long v66), .second, .val (.long v75), .second, .val (.ref b10), .val (.int (1 : Int32))] [(.int (lcmpW wa_142 v66))]))
  have hc158 : wa_142 = v66 := by
    exact own_os3 wa_114 wa_119 wa_142 wb_142 t0 v57 v66 v75 (fun f => by have f94 := hf_94 f; have f100 := hf_100 f; have f107 := hf_107 f; have f114 := hf_114 f; have f119 := hf_119 f; have f142 := hf_142 f; have tt := tot f; omega) (by omega) (by omega) (by omega) so1 so2 so3
  refine GoW.st (fun t k => XS.ifNo X27.here hx rfl (hb hby at_158) rfl ((if0 _ _).trans (teq ((lw_eq wa_142 v66).mpr hc158)).2) (XS.iconst X27.here hx rfl (hb hby at_161) (XS.goto X27.here hx rfl (pc0 := 162) (pc' := 166) rfl (hb hby at_162) (by decide) (by decide) (XS.istore X27.here hx rfl (hb hby at_166) rfl (l' := #[.val (.long q1), .second, .val (.long q2), .second, .val (.long q3), .second, .val (.long q4), .second, .val (.int p5), .val (.long v5), .second, .val (.long v12), .second, .val (.long v21), .second, .val (.long v30), .second, .val (.long v39), .second, .val (.long v48), .second, .val (.long v57), .second, .val (.long v66), .second, .val (.long v75), .second, .val (.ref b10), .val (.int (1 : Int32))]) rfl (XS.aload X27.here hx rfl (hb hby at_168) rfl rfl k))))) ?_
  show GoW p e below QQ (T27.setTop (mkF m 170 #[.val (.long q1), .second, .val (.long q2), .second, .val (.long q3), .second, .val (.long q4), .second, .val (.int p5), .val (.long v5), .second, .val (.long v12), .second, .val (.long v21), .second, .val (.long v30), .second, .val (.long v39), .second, .val (.long v48), .second, .val (.long v57), .second, .val (.long v66), .second, .val (.long v75), .second, .val (.ref b10), .val (.int (1 : Int32))] [(.ref b10)]))
  obtain ⟨cq28, kq28, qa28, qb28, qc28⟩ := isOf hZ hh27 p25_0
  obtain ⟨_, _, ⟨T28, zL28, zk28, zn28⟩, -, X28, ⟨Lc28, hQ28, zl28, zy28, zz28⟩, st28⟩ := X27.virtualBack hx (y := (⟨"com/example/eunomia/eunomia/sticky/LongHeap", "remove", "()V"⟩ : MethodName)) (z := (⟨"com/example/eunomia/eunomia/sticky/LongHeap", "remove", "()V"⟩ : MethodName)) hown (mvT hZ (hw _ (List.mem_of_getElem? (i := 40) rfl))) (mvT hZ (hw _ (List.mem_of_getElem? (i := 41) rfl))) (notFace_of_selects (args := #[]) (mvT hZ (hw _ (List.mem_of_getElem? (i := 43) rfl)))) (mvT hZ (hw _ (List.mem_of_getElem? (i := 43) rfl))) (mvT hZ (hw _ (List.mem_of_getElem? (i := 42) rfl))) (by decide) (backOf (W := 0) (rm9_2 l Z a0 hw [] b10 b_114 kb_114 zz_114 wa_142 wb_142 wc_142 wd_142 T25.heap n0 (Nat.le_trans Z0 K25.1) p25_0 gg10 p20_3 p20_4 p25_1 p25_2 p25_3 (by omega) (by omega)) hZ (hw _ (List.mem_of_getElem? (i := 44) rfl)) (hw _ (List.mem_of_getElem? (i := 9) rfl)) (by decide) (by decide)) qa28 qc28 (g := (mkF m 170 #[.val (.long q1), .second, .val (.long q2), .second, .val (.long q3), .second, .val (.long q4), .second, .val (.int p5), .val (.long v5), .second, .val (.long v12), .second, .val (.long v21), .second, .val (.long v30), .second, .val (.long v39), .second, .val (.long v48), .second, .val (.long v57), .second, .val (.long v66), .second, .val (.long v75), .second, .val (.ref b10), .val (.int (1 : Int32))] [(.ref b10)])) rfl (by rw [hml]; rfl) (Steps.refl _) (argsL := []) (rest := []) (lenOf pd_5 rfl) rfl (by show 2 * 0 + _ ≤ _; exact Nat.le_of_eq rfl) (hb hby at_170) (fun _ _ => ⟨rfl, hh27, (by decide : 5 + 0 ≤ _), (by decide : 21 + 0 ≤ _)⟩)
  dsimp only [Pt.U, Pt.locs, Pt.cells, Pt.slots] at X28 zl28 zy28 zz28 st28 hQ28
  subst zl28 zy28 zz28
  obtain ⟨wa_170, wb_170, wc_170, wd_170, rfl, Nq28, Kq28, p28_0, p28_1, p28_2, p28_3, p28_4, p28_5⟩ := hQ28
  have N28 := Fr.app N27 Nq28
  refine GoW.st (fun t k => st28.trans k) ?_
  have K28 : Keep h0 T28.heap [] := K25.trans Kq28 (allS (Or.inr sz10) (allS (Or.inr (Nat.le_trans Z1 p20_3)) all0))
  have hf_170 := p28_4
  have hlw_170 := p28_5
  show GoW p e below QQ (T28.setTop (mkF m 173 #[.val (.long q1), .second, .val (.long q2), .second, .val (.long q3), .second, .val (.long q4), .second, .val (.int p5), .val (.long v5), .second, .val (.long v12), .second, .val (.long v21), .second, .val (.long v30), .second, .val (.long v39), .second, .val (.long v48), .second, .val (.long v57), .second, .val (.long v66), .second, .val (.long v75), .second, .val (.ref b10), .val (.int (1 : Int32))] []))
  refine GoW.st (fun t k => XS.iload X28.here hx rfl (hb hby at_173) rfl k) ?_
  show GoW p e below QQ (T28.setTop (mkF m 175 #[.val (.long q1), .second, .val (.long q2), .second, .val (.long q3), .second, .val (.long q4), .second, .val (.int p5), .val (.long v5), .second, .val (.long v12), .second, .val (.long v21), .second, .val (.long v30), .second, .val (.long v39), .second, .val (.long v48), .second, .val (.long v57), .second, .val (.long v66), .second, .val (.long v75), .second, .val (.ref b10), .val (.int (1 : Int32))] [(.int (1 : Int32))]))
  have hc175 : ¬ ((1 : Int32) = (0 : Int32)) := by decide
  refine GoW.st (fun t k => XS.ifNo X28.here hx rfl (hb hby at_175) rfl ((if0 _ _).trans (feq hc175).1) (XS.aload X28.here hx rfl (hb hby at_178) rfl rfl k)) ?_
  show GoW p e below QQ (T28.setTop (mkF m 180 #[.val (.long q1), .second, .val (.long q2), .second, .val (.long q3), .second, .val (.long q4), .second, .val (.int p5), .val (.long v5), .second, .val (.long v12), .second, .val (.long v21), .second, .val (.long v30), .second, .val (.long v39), .second, .val (.long v48), .second, .val (.long v57), .second, .val (.long v66), .second, .val (.long v75), .second, .val (.ref b10), .val (.int (1 : Int32))] [(.ref b10)]))
  obtain ⟨cq30, kq30, qa30, qb30, qc30⟩ := isOf hZ rfl p28_0
  obtain ⟨_, _, ⟨T30, zL30, zk30, zn30⟩, -, X30, ⟨Lc30, hQ30, zl30, zy30, zz30⟩, st30⟩ := X28.virtualBack hx (y := (⟨"com/example/eunomia/eunomia/sticky/LongHeap", "peek", "()J"⟩ : MethodName)) (z := (⟨"com/example/eunomia/eunomia/sticky/LongHeap", "peek", "()J"⟩ : MethodName)) hown (mvT hZ (hw _ (List.mem_of_getElem? (i := 49) rfl))) (mvT hZ (hw _ (List.mem_of_getElem? (i := 50) rfl))) (notFace_of_selects (args := #[]) (mvT hZ (hw _ (List.mem_of_getElem? (i := 52) rfl)))) (mvT hZ (hw _ (List.mem_of_getElem? (i := 52) rfl))) (mvT hZ (hw _ (List.mem_of_getElem? (i := 51) rfl))) (by decide) (backOf (W := 0) (rm11 l Z a0 hw [] b10 b_114 kb_114 zz_114 wa_170 wb_170 wc_170 wd_170 T28.heap n0 (Nat.le_trans Z0 K28.1) p28_1 p28_3 (by omega)) hZ (hw _ (List.mem_of_getElem? (i := 53) rfl)) (hw _ (List.mem_of_getElem? (i := 9) rfl)) (by decide) (by decide)) qa30 qc30 (g := (mkF m 180 #[.val (.long q1), .second, .val (.long q2), .second, .val (.long q3), .second, .val (.long q4), .second, .val (.int p5), .val (.long v5), .second, .val (.long v12), .second, .val (.long v21), .second, .val (.long v30), .second, .val (.long v39), .second, .val (.long v48), .second, .val (.long v57), .second, .val (.long v66), .second, .val (.long v75), .second, .val (.ref b10), .val (.int (1 : Int32))] [(.ref b10)])) rfl (by rw [hml]; rfl) (Steps.refl _) (argsL := []) (rest := []) (lenOf pd_6 rfl) rfl (by show 2 * 0 + _ ≤ _; exact Nat.le_of_eq rfl) (hb hby at_180) (fun _ _ => ⟨rfl, rfl, (by decide : 5 + 0 ≤ _), (by decide : 21 + 0 ≤ _)⟩)
  dsimp only [Pt.U, Pt.locs, Pt.cells, Pt.slots] at X30 zl30 zy30 zz30 st30 hQ30
  subst zl30 zy30 zz30
  obtain ⟨rfl, Nq30, hh30⟩ := hQ30
  have N30 := Fr.app N28 Nq30
  refine GoW.st (fun t k => st30.trans k) ?_
  show GoW p e below QQ (T30.setTop (mkF m 183 #[.val (.long q1), .second, .val (.long q2), .second, .val (.long q3), .second, .val (.long q4), .second, .val (.int p5), .val (.long v5), .second, .val (.long v12), .second, .val (.long v21), .second, .val (.long v30), .second, .val (.long v39), .second, .val (.long v48), .second, .val (.long v57), .second, .val (.long v66), .second, .val (.long v75), .second, .val (.ref b10), .val (.int (1 : Int32))] [(.long wa_170)]))
  refine GoW.st (fun t k => XS.lload X30.here hx rfl (hb hby at_183) rfl (XS.lcmp X30.here hx rfl (hb hby at_185) rfl k)) ?_
  show GoW p e below QQ (T30.setTop (mkF m 186 #[.val (.long q1), .second, .val (.long q2), .second, .val (.long q3), .second, .val (.long q4), .second, .val (.int p5), .val (.long v5), .second, .val (.long v12), .second, .val (.long v21), .second, .val (.long v30), .second, .val (.long v39), .second, .val (.long v48), .second, .val (.long v57), .second, .val (.long v66), .second, .val (.long v75), .second, .val (.ref b10), .val (.int (1 : Int32))] [(.int (lcmpW wa_170 v75))]))
  have hc186 : wa_170 = v75 := by
    exact own_os4 wa_114 wa_119 wa_142 wa_170 t0 v57 v66 v75 (fun f => by have f94 := hf_94 f; have f100 := hf_100 f; have f107 := hf_107 f; have f114 := hf_114 f; have f119 := hf_119 f; have f142 := hf_142 f; have f170 := hf_170 f; have tt := tot f; omega) (by omega) (by omega) (by omega) so1 so2 so3
  refine GoW.st (fun t k => XS.ifNo X30.here hx rfl (hb hby at_186) rfl ((if0 _ _).trans (teq ((lw_eq wa_170 v75).mpr hc186)).2) (XS.iconst X30.here hx rfl (hb hby at_189) (XS.goto X30.here hx rfl (pc0 := 190) (pc' := 194) rfl (hb hby at_190) (by decide) (by decide) (XS.istore X30.here hx rfl (hb hby at_194) rfl (l' := #[.val (.long q1), .second, .val (.long q2), .second, .val (.long q3), .second, .val (.long q4), .second, .val (.int p5), .val (.long v5), .second, .val (.long v12), .second, .val (.long v21), .second, .val (.long v30), .second, .val (.long v39), .second, .val (.long v48), .second, .val (.long v57), .second, .val (.long v66), .second, .val (.long v75), .second, .val (.ref b10), .val (.int (1 : Int32))]) rfl (XS.aload X30.here hx rfl (hb hby at_196) rfl rfl k))))) ?_
  show GoW p e below QQ (T30.setTop (mkF m 198 #[.val (.long q1), .second, .val (.long q2), .second, .val (.long q3), .second, .val (.long q4), .second, .val (.int p5), .val (.long v5), .second, .val (.long v12), .second, .val (.long v21), .second, .val (.long v30), .second, .val (.long v39), .second, .val (.long v48), .second, .val (.long v57), .second, .val (.long v66), .second, .val (.long v75), .second, .val (.ref b10), .val (.int (1 : Int32))] [(.ref b10)]))
  obtain ⟨cq31, kq31, qa31, qb31, qc31⟩ := isOf hZ hh30 p28_0
  obtain ⟨_, _, ⟨T31, zL31, zk31, zn31⟩, -, X31, ⟨Lc31, hQ31, zl31, zy31, zz31⟩, st31⟩ := X30.virtualBack hx (y := (⟨"com/example/eunomia/eunomia/sticky/LongHeap", "remove", "()V"⟩ : MethodName)) (z := (⟨"com/example/eunomia/eunomia/sticky/LongHeap", "remove", "()V"⟩ : MethodName)) hown (mvT hZ (hw _ (List.mem_of_getElem? (i := 40) rfl))) (mvT hZ (hw _ (List.mem_of_getElem? (i := 41) rfl))) (notFace_of_selects (args := #[]) (mvT hZ (hw _ (List.mem_of_getElem? (i := 43) rfl)))) (mvT hZ (hw _ (List.mem_of_getElem? (i := 43) rfl))) (mvT hZ (hw _ (List.mem_of_getElem? (i := 42) rfl))) (by decide) (backOf (W := 0) (rm9_1 l Z a0 hw [] b10 b_114 kb_114 zz_114 wa_170 wb_170 wc_170 wd_170 T28.heap n0 (Nat.le_trans Z0 K28.1) p28_0 gg10 p20_3 p20_4 p28_1 p28_2 p28_3 (by omega)) hZ (hw _ (List.mem_of_getElem? (i := 44) rfl)) (hw _ (List.mem_of_getElem? (i := 9) rfl)) (by decide) (by decide)) qa31 qc31 (g := (mkF m 198 #[.val (.long q1), .second, .val (.long q2), .second, .val (.long q3), .second, .val (.long q4), .second, .val (.int p5), .val (.long v5), .second, .val (.long v12), .second, .val (.long v21), .second, .val (.long v30), .second, .val (.long v39), .second, .val (.long v48), .second, .val (.long v57), .second, .val (.long v66), .second, .val (.long v75), .second, .val (.ref b10), .val (.int (1 : Int32))] [(.ref b10)])) rfl (by rw [hml]; rfl) (Steps.refl _) (argsL := []) (rest := []) (lenOf pd_5 rfl) rfl (by show 2 * 0 + _ ≤ _; exact Nat.le_of_eq rfl) (hb hby at_198) (fun _ _ => ⟨rfl, hh30, (by decide : 5 + 0 ≤ _), (by decide : 21 + 0 ≤ _)⟩)
  dsimp only [Pt.U, Pt.locs, Pt.cells, Pt.slots] at X31 zl31 zy31 zz31 st31 hQ31
  subst zl31 zy31 zz31
  obtain ⟨wa_198, wb_198, wc_198, wd_198, rfl, Nq31, Kq31, p31_0, p31_1, p31_2, p31_3⟩ := hQ31
  have N31 := Fr.app N30 Nq31
  refine GoW.st (fun t k => st31.trans k) ?_
  have K31 : Keep h0 T31.heap [] := K28.trans Kq31 (allS (Or.inr sz10) (allS (Or.inr (Nat.le_trans Z1 p20_3)) all0))
  show GoW p e below QQ (T31.setTop (mkF m 201 #[.val (.long q1), .second, .val (.long q2), .second, .val (.long q3), .second, .val (.long q4), .second, .val (.int p5), .val (.long v5), .second, .val (.long v12), .second, .val (.long v21), .second, .val (.long v30), .second, .val (.long v39), .second, .val (.long v48), .second, .val (.long v57), .second, .val (.long v66), .second, .val (.long v75), .second, .val (.ref b10), .val (.int (1 : Int32))] []))
  refine GoW.st (fun t k => XS.iload X31.here hx rfl (hb hby at_201) rfl k) ?_
  show GoW p e below QQ (T31.setTop (mkF m 203 #[.val (.long q1), .second, .val (.long q2), .second, .val (.long q3), .second, .val (.long q4), .second, .val (.int p5), .val (.long v5), .second, .val (.long v12), .second, .val (.long v21), .second, .val (.long v30), .second, .val (.long v39), .second, .val (.long v48), .second, .val (.long v57), .second, .val (.long v66), .second, .val (.long v75), .second, .val (.ref b10), .val (.int (1 : Int32))] [(.int (1 : Int32))]))
  have hc203 : ¬ ((1 : Int32) = (0 : Int32)) := by decide
  refine GoW.st (fun t k => XS.ifNo X31.here hx rfl (hb hby at_203) rfl ((if0 _ _).trans (feq hc203).1) (XS.aload X31.here hx rfl (hb hby at_206) rfl rfl k)) ?_
  show GoW p e below QQ (T31.setTop (mkF m 208 #[.val (.long q1), .second, .val (.long q2), .second, .val (.long q3), .second, .val (.long q4), .second, .val (.int p5), .val (.long v5), .second, .val (.long v12), .second, .val (.long v21), .second, .val (.long v30), .second, .val (.long v39), .second, .val (.long v48), .second, .val (.long v57), .second, .val (.long v66), .second, .val (.long v75), .second, .val (.ref b10), .val (.int (1 : Int32))] [(.ref b10)]))
  obtain ⟨cq33, kq33, qa33, qb33, qc33⟩ := isOf hZ rfl p31_0
  obtain ⟨_, _, ⟨T33, zL33, zk33, zn33⟩, -, X33, ⟨Lc33, hQ33, zl33, zy33, zz33⟩, st33⟩ := X31.virtualBack hx (y := (⟨"com/example/eunomia/eunomia/sticky/LongHeap", "isEmpty", "()Z"⟩ : MethodName)) (z := (⟨"com/example/eunomia/eunomia/sticky/LongHeap", "isEmpty", "()Z"⟩ : MethodName)) hown (mvT hZ (hw _ (List.mem_of_getElem? (i := 54) rfl))) (mvT hZ (hw _ (List.mem_of_getElem? (i := 55) rfl))) (notFace_of_selects (args := #[]) (mvT hZ (hw _ (List.mem_of_getElem? (i := 57) rfl)))) (mvT hZ (hw _ (List.mem_of_getElem? (i := 57) rfl))) (mvT hZ (hw _ (List.mem_of_getElem? (i := 56) rfl))) (by decide) (backOf (W := 0) (rm12_0 l Z a0 hw [] b10 T31.heap n0 (Nat.le_trans Z0 K31.1) p31_2) hZ (hw _ (List.mem_of_getElem? (i := 58) rfl)) (hw _ (List.mem_of_getElem? (i := 9) rfl)) (by decide) (by decide)) qa33 qc33 (g := (mkF m 208 #[.val (.long q1), .second, .val (.long q2), .second, .val (.long q3), .second, .val (.long q4), .second, .val (.int p5), .val (.long v5), .second, .val (.long v12), .second, .val (.long v21), .second, .val (.long v30), .second, .val (.long v39), .second, .val (.long v48), .second, .val (.long v57), .second, .val (.long v66), .second, .val (.long v75), .second, .val (.ref b10), .val (.int (1 : Int32))] [(.ref b10)])) rfl (by rw [hml]; rfl) (Steps.refl _) (argsL := []) (rest := []) (lenOf pd_7 rfl) rfl (by show 2 * 0 + _ ≤ _; exact Nat.le_of_eq rfl) (hb hby at_208) (fun _ _ => ⟨rfl, rfl, (by decide : 5 + 0 ≤ _), (by decide : 21 + 0 ≤ _)⟩)
  dsimp only [Pt.U, Pt.locs, Pt.cells, Pt.slots] at X33 zl33 zy33 zz33 st33 hQ33
  subst zl33 zy33 zz33
  obtain ⟨rfl, Nq33, hh33⟩ := hQ33
  have N33 := Fr.app N31 Nq33
  refine GoW.st (fun t k => st33.trans k) ?_
  show GoW p e below QQ (T33.setTop (mkF m 211 #[.val (.long q1), .second, .val (.long q2), .second, .val (.long q3), .second, .val (.long q4), .second, .val (.int p5), .val (.long v5), .second, .val (.long v12), .second, .val (.long v21), .second, .val (.long v30), .second, .val (.long v39), .second, .val (.long v48), .second, .val (.long v57), .second, .val (.long v66), .second, .val (.long v75), .second, .val (.ref b10), .val (.int (1 : Int32))] [(.int (1 : Int32))]))
  have hc211 : ¬ ((1 : Int32) = (0 : Int32)) := by decide
  refine GoW.st (fun t k => XS.ifNo X33.here hx rfl (hb hby at_211) rfl ((if0 _ _).trans (feq hc211).1) (XS.iconst X33.here hx rfl (hb hby at_214) (XS.goto X33.here hx rfl (pc0 := 215) (pc' := 219) rfl (hb hby at_215) (by decide) (by decide) (XS.istore X33.here hx rfl (hb hby at_219) rfl (l' := #[.val (.long q1), .second, .val (.long q2), .second, .val (.long q3), .second, .val (.long q4), .second, .val (.int p5), .val (.long v5), .second, .val (.long v12), .second, .val (.long v21), .second, .val (.long v30), .second, .val (.long v39), .second, .val (.long v48), .second, .val (.long v57), .second, .val (.long v66), .second, .val (.long v75), .second, .val (.ref b10), .val (.int (1 : Int32))]) rfl (XS.iload X33.here hx rfl (hb hby at_221) rfl k))))) ?_
  show GoW p e below QQ (T33.setTop (mkF m 223 #[.val (.long q1), .second, .val (.long q2), .second, .val (.long q3), .second, .val (.long q4), .second, .val (.int p5), .val (.long v5), .second, .val (.long v12), .second, .val (.long v21), .second, .val (.long v30), .second, .val (.long v39), .second, .val (.long v48), .second, .val (.long v57), .second, .val (.long v66), .second, .val (.long v75), .second, .val (.ref b10), .val (.int (1 : Int32))] [(.int (1 : Int32))]))
  exact GoW.fin X33 (some (.int (nar .boolean (1 : Int32)))) (fun q => by rw [hret] at q; cases q) hlk hQ hh33 ⟨rfl, N33⟩ (by decide) (by decide) (fun fs hr => retN X33 hx (t := .boolean) hret (by simp) (hb hby at_223) hr)
set_option maxRecDepth 65536 in
set_option maxHeartbeats 40000000 in
theorem comes_1 {Post : Tables → Env → Array Value → State → Outcome → State → Prop} (hpost : ∀ tb e args s v u, (limb_1_1.after args s (.returned v) u = true ∧ limb_1_2.after args s (.returned v) u = true ∧ True) → FrameEnd s (.returned v) u (Jvm.fieldLocs frame_1_writes args s ++ Jvm.arrayLocs frame_1_arrays args s ++ Jvm.staticLocs frame_1_statics s) 16 128 → Post tb e args s (.returned v) u) :
    ArmFor flags0 classFile x code maxLocals ret World_1 tables_1 room_1 Calls_1 rest_1 Pre_1 Post := by
  intro l hfl _ _ p e ha hc hk s m args below hf hA hF happ hP
  obtain ⟨hcalls, hrest, hpre⟩ := hP
  obtain ⟨-, -, -, hnamed, -, -, -, hat⟩ := (Spec.applies_iff hf).mp happ
  obtain ⟨hg, hn⟩ := and_e (Cond.before_iff.mp (show (Jvm.Cond.and given_1 narrow_1).before args s = true from hpre))
  obtain ⟨gcount, gr0⟩ := and_e hg
  obtain ⟨ga0, gr1⟩ := and_e gr0
  obtain ⟨ga1, gr2⟩ := and_e gr1
  obtain ⟨ga2, gr3⟩ := and_e gr2
  obtain ⟨ga3, gr4⟩ := and_e gr3
  obtain ⟨w0, w1, w2, w3, w4, rfl⟩ : ∃ w0 w1 w2 w3 w4 : Value, args = #[w0, w1, w2, w3, w4] := by
    have hs : args.size = 5 := by simpa [Cond.value, given_1] using gcount
    obtain ⟨L⟩ := args
    match L, hs with
    | [w0, w1, w2, w3, w4], _ => exact ⟨w0, w1, w2, w3, w4, rfl⟩
  have hw := fun d (hd : d ∈ tables_1) => atoms_spec (ws := Jvm.Cond.code x code maxLocals ret :: tables_1) hat d (List.mem_cons_of_mem _ hd)
  obtain ⟨i0, ei0⟩ := isL_v ga0
  obtain rfl : w0 = (.long i0) := Option.some.inj ei0
  obtain ⟨i1, ei1⟩ := isL_v ga1
  obtain rfl : w1 = (.long i1) := Option.some.inj ei1
  obtain ⟨i2, ei2⟩ := isL_v ga2
  obtain rfl : w2 = (.long i2) := Option.some.inj ei2
  obtain ⟨i3, ei3⟩ := isL_v ga3
  obtain rfl : w3 = (.long i3) := Option.some.inj ei3
  obtain ⟨i4, ei4⟩ := is_v gr4
  obtain rfl : w4 = (.int i4) := Option.some.inj ei4
  obtain ⟨n, o, h1, h2, h3, _, L, rfl, ⟨rfl, N⟩, hq⟩ := rm0 l s _ hw tables_1 i0 i1 i2 i3 i4 s.heap s.heap.size (Nat.le_refl _) (Nat.le_refl _) p e ha hc hk s m _ below hf ((Spec.applies_iff_loose hf).mp happ).1 ⟨rfl, State.Warmed39.refl s, rfl⟩ trivial
  refine ⟨n, _, h1, h2, h3, hpost _ _ _ _ _ _ ⟨Cond.after_iff.mpr rfl, Cond.after_iff.mpr (eq_i res_at (Term.int_eval (1)) rfl), trivial⟩ ⟨hq.1, hq.2.1, (hq.2.2.sift fun y hy => Or.inr (N y hy)).mono (by decide) (by decide)⟩⟩
theorem main_1_1 : Claimed_1_1 := comes_1 fun _ _ _ _ _ _ h hF => ⟨h.1, hF⟩
theorem main_1_2 : Claimed_1_2 := comes_1 fun _ _ _ _ _ _ h hF => ⟨h.2.1, hF⟩
end Jvm.Pilot.@@N@@
namespace Jvm.Pilot.@@N@@
open Jvm Jvm.ClassFile Sem Op Lib Jvm.Free Jvm.Stand Jvm.Pilot.@@N@@.Jvm.D
/-! MADE BY PROGRAM (witnessworld.py) out of the Statement's table words and the real class files: 14 classes; the members and pool entries that the words name. The judged class is class 1, her method 1. -/
namespace start1
open Jvm.ClassFile
def u (s : String) : CpInfo := .utf8 (stringToUtf16 s)
/-- a pool by its gaps: so many unusable entries, then the entry; so many at the end -/
def gap : Nat → List CpInfo → List CpInfo
  | 0, r => r
  | n + 1, r => .unusable :: gap n r
def poolList (es : List (Nat × CpInfo)) (last : Nat) : List CpInfo := es.foldr (fun e r => gap e.1 (e.2 :: r)) (gap last [])
def pool (es : List (Nat × CpInfo)) (last : Nat) : Array CpInfo := ⟨poolList es last⟩
def fileOf (pool : Array CpInfo) (this : Nat) (attrs : Array Attribute := #[]) (ms : Array MethodInfo := #[]) (fl : Nat := 33) (sup : Nat := 0) (ifs : Array Nat := #[]) (fds : Array FieldInfo := #[]) : ClassFile where
  minorVersion := 0
  majorVersion := 65
  constantPool := pool
  accessFlags := fl
  thisClass := this
  superClass := sup
  interfaces := ifs
  fields := fds
  methods := ms
  attributes := attrs
def plain (name : String) (sup : Option ClassId) : Class where
  name := name
  kind := .ordinary
  loader := none
  accessFlags := 33
  super := sup
  interfaces := #[]
  cf := none
  fields := #[]
  methods := #[]
  instanceTypes := #[]
  staticTypes := #[]
  resolved := #[]
  callSites := []
  init := .initialized
  statics := none
  mirror := none

def pool0 : Array CpInfo := pool [(5, u "<init>"), (0, u "()V"), (1, .class_ 10), (1, u "java/lang/Object")] 113

def k0c0 : Code := { maxStack := 0, maxLocals := 1, code := object_method_1_code, exceptionTable := #[], attributes := #[] }
def k0m0 : Method := { name := "<init>", desc := "()V", sig := { parameters := [], returnType := none }, accessFlags := 1, code := some k0c0 }
/-- java/lang/Object -/
def k0 : Class := { plain "java/lang/Object" none with
  accessFlags := 33
  interfaces := #[]
  cf := some (fileOf pool0 8 #[] #[{ accessFlags := 1, nameIndex := 5, descriptorIndex := 6, attributes := #[] }] 33 0 #[] #[])
  fields := #[]
  methods := #[k0m0]
  instanceTypes := #[]
  staticTypes := #[]
  resolved := Array.replicate 124 none
  statics := none }

def pool1 : Array CpInfo := pool [(2, .class_ 4), (1, u "java/lang/Object"), (0, u "<init>"), (0, u "()V"), (0, .methodref 8 9), (0, .class_ 10), (0, .nameAndType 11 12), (0, u "java/lang/Math"), (0, u "min"), (0, u "(JJ)J"), (0, .methodref 8 14), (0, .nameAndType 15 12), (0, u "max"), (0, .class_ 17), (0, u "com/example/eunomia/eunomia/sticky/LongHeap"), (0, .methodref 16 19), (0, .nameAndType 5 20), (0, u "(I)V"), (0, .methodref 16 22), (0, .nameAndType 23 24), (0, u "add"), (0, u "(J)V"), (0, .methodref 16 26), (0, .nameAndType 27 6), (0, u "remove"), (0, .methodref 16 29), (0, .nameAndType 30 31), (0, u "peek"), (0, u "()J"), (0, .methodref 16 33), (0, .nameAndType 34 35), (0, u "isEmpty"), (0, u "()Z"), (0, .class_ 37), (0, u "com/example/eunomia/eunomia/sticky/LongHeapRemovePinLaw"), (2, u "law"), (0, u "(JJJJI)Z")] 3

def k1m0 : Method := { name := "<init>", desc := "()V", sig := { parameters := [], returnType := none }, accessFlags := 1, code := none }
def k1c1 : Code := { maxStack := 4, maxLocals := 29, code := code, exceptionTable := #[], attributes := #[] }
def k1m1 : Method := { name := "law", desc := "(JJJJI)Z", sig := { parameters := [.long, .long, .long, .long, .int], returnType := some .boolean }, accessFlags := 9, code := some k1c1 }
/-- com/example/eunomia/eunomia/sticky/LongHeapRemovePinLaw -/
def k1 : Class := { plain "com/example/eunomia/eunomia/sticky/LongHeapRemovePinLaw" (some 0) with
  accessFlags := 49
  interfaces := #[]
  cf := some (fileOf pool1 36 #[] #[{ accessFlags := 1, nameIndex := 5, descriptorIndex := 6, attributes := #[] }, { accessFlags := 9, nameIndex := 40, descriptorIndex := 41, attributes := #[] }] 49 2 #[] #[])
  fields := #[]
  methods := #[k1m0, k1m1]
  instanceTypes := #[]
  staticTypes := #[]
  resolved := Array.replicate 45 none
  statics := none }

def pool2 : Array CpInfo := pool [(1, .class_ 2), (0, u "java/lang/Math"), (1, .class_ 6), (1, u "java/lang/Object"), (0, u "<init>"), (0, u "()V"), (89, .class_ 100), (1, u "java/lang/Math$RandomNumberGeneratorHolder"), (20, u "(JJ)J"), (50, u "negativeZeroFloatBits"), (0, u "J"), (2, u "negativeZeroDoubleBits"), (21, u "max"), (2, u "min"), (43, u "$assertionsDisabled"), (0, u "Z"), (88, u "(II)I"), (2, u "twoToTheDoubleScaleDown"), (0, u "D"), (4, u "twoToTheDoubleScaleUp"), (9, u "E"), (3, u "PI"), (2, u "TAU"), (2, u "DEGREES_TO_RADIANS"), (0, u "RADIANS_TO_DEGREES")] 94

def k2m0 : Method := { name := "<init>", desc := "()V", sig := { parameters := [], returnType := none }, accessFlags := 2, code := none }
def k2c1 : Code := { maxStack := 2, maxLocals := 2, code := jdk_29_method_65_code, exceptionTable := #[], attributes := #[] }
def k2m1 : Method := { name := "max", desc := "(II)I", sig := { parameters := [.int, .int], returnType := some .int }, accessFlags := 9, code := some k2c1 }
def k2c2 : Code := { maxStack := 4, maxLocals := 4, code := jdk_29_method_66_code, exceptionTable := #[], attributes := #[] }
def k2m2 : Method := { name := "max", desc := "(JJ)J", sig := { parameters := [.long, .long], returnType := some .long }, accessFlags := 9, code := some k2c2 }
def k2c3 : Code := { maxStack := 2, maxLocals := 2, code := jdk_29_method_69_code, exceptionTable := #[], attributes := #[] }
def k2m3 : Method := { name := "min", desc := "(II)I", sig := { parameters := [.int, .int], returnType := some .int }, accessFlags := 9, code := some k2c3 }
def k2c4 : Code := { maxStack := 4, maxLocals := 4, code := jdk_29_method_70_code, exceptionTable := #[], attributes := #[] }
def k2m4 : Method := { name := "min", desc := "(JJ)J", sig := { parameters := [.long, .long], returnType := some .long }, accessFlags := 9, code := some k2c4 }
/-- java/lang/Math -/
def k2 : Class := { plain "java/lang/Math" (some 0) with
  accessFlags := 49
  interfaces := #[]
  cf := some (fileOf pool2 1 #[.nestMembers #[98]] #[{ accessFlags := 2, nameIndex := 7, descriptorIndex := 8, attributes := #[] }, { accessFlags := 9, nameIndex := 198, descriptorIndex := 335, attributes := #[] }, { accessFlags := 9, nameIndex := 198, descriptorIndex := 121, attributes := #[] }, { accessFlags := 9, nameIndex := 201, descriptorIndex := 335, attributes := #[] }, { accessFlags := 9, nameIndex := 201, descriptorIndex := 121, attributes := #[] }] 49 4 #[] #[{ accessFlags := 25, nameIndex := 354, descriptorIndex := 339, attributes := #[] }, { accessFlags := 25, nameIndex := 358, descriptorIndex := 339, attributes := #[] }, { accessFlags := 25, nameIndex := 361, descriptorIndex := 339, attributes := #[] }, { accessFlags := 26, nameIndex := 364, descriptorIndex := 339, attributes := #[] }, { accessFlags := 26, nameIndex := 365, descriptorIndex := 339, attributes := #[] }, { accessFlags := 26, nameIndex := 172, descriptorIndex := 173, attributes := #[] }, { accessFlags := 26, nameIndex := 176, descriptorIndex := 173, attributes := #[] }, { accessFlags := 8, nameIndex := 344, descriptorIndex := 339, attributes := #[] }, { accessFlags := 8, nameIndex := 338, descriptorIndex := 339, attributes := #[] }, { accessFlags := 4120, nameIndex := 245, descriptorIndex := 246, attributes := #[] }])
  fields := #[{ name := "E", type := .double, accessFlags := 25, slot := 0, constantValue := 0 }, { name := "PI", type := .double, accessFlags := 25, slot := 1, constantValue := 0 }, { name := "TAU", type := .double, accessFlags := 25, slot := 2, constantValue := 0 }, { name := "DEGREES_TO_RADIANS", type := .double, accessFlags := 26, slot := 3, constantValue := 0 }, { name := "RADIANS_TO_DEGREES", type := .double, accessFlags := 26, slot := 4, constantValue := 0 }, { name := "negativeZeroFloatBits", type := .long, accessFlags := 26, slot := 5, constantValue := 0 }, { name := "negativeZeroDoubleBits", type := .long, accessFlags := 26, slot := 6, constantValue := 0 }, { name := "twoToTheDoubleScaleUp", type := .double, accessFlags := 8, slot := 7, constantValue := 0 }, { name := "twoToTheDoubleScaleDown", type := .double, accessFlags := 8, slot := 8, constantValue := 0 }, { name := "$assertionsDisabled", type := .boolean, accessFlags := 4120, slot := 9, constantValue := 0 }]
  methods := #[k2m0, k2m1, k2m2, k2m3, k2m4]
  instanceTypes := #[]
  staticTypes := #[.double, .double, .double, .double, .double, .long, .long, .double, .double, .boolean]
  resolved := Array.replicate 460 none
  statics := none }

def pool3 : Array CpInfo := pool [(1, .methodref 2 3), (0, .class_ 4), (0, .nameAndType 5 6), (0, u "java/lang/Object"), (0, u "<init>"), (0, u "()V"), (0, .methodref 8 9), (0, .class_ 10), (0, .nameAndType 11 12), (0, u "java/lang/Math"), (0, u "max"), (0, u "(II)I"), (0, .fieldref 14 15), (0, .class_ 16), (0, .nameAndType 17 18), (0, u "com/example/eunomia/eunomia/sticky/LongHeap"), (0, u "values"), (0, u "[J"), (0, .fieldref 14 20), (0, .nameAndType 21 22), (0, u "size"), (0, u "I"), (0, .methodref 24 25), (0, .class_ 26), (0, .nameAndType 27 28), (0, u "java/util/Arrays"), (0, u "copyOf"), (0, u "([JI)[J"), (0, .methodref 14 30), (0, .nameAndType 31 32), (0, u "siftDown"), (0, u "(J)V"), (0, u "(I)V"), (2, u "isEmpty"), (0, u "()Z"), (1, u "peek"), (0, u "()J"), (0, u "add"), (0, u "remove")] 3

def k3c0 : Code := { maxStack := 3, maxLocals := 2, code := prog_40_method_1_code, exceptionTable := #[], attributes := #[] }
def k3m0 : Method := { name := "<init>", desc := "(I)V", sig := { parameters := [.int], returnType := none }, accessFlags := 0, code := some k3c0 }
def k3c1 : Code := { maxStack := 1, maxLocals := 1, code := prog_40_method_2_code, exceptionTable := #[], attributes := #[] }
def k3m1 : Method := { name := "isEmpty", desc := "()Z", sig := { parameters := [], returnType := some .boolean }, accessFlags := 0, code := some k3c1 }
def k3c2 : Code := { maxStack := 2, maxLocals := 1, code := prog_40_method_3_code, exceptionTable := #[], attributes := #[] }
def k3m2 : Method := { name := "peek", desc := "()J", sig := { parameters := [], returnType := some .long }, accessFlags := 0, code := some k3c2 }
def k3c3 : Code := { maxStack := 5, maxLocals := 4, code := prog_40_method_4_code, exceptionTable := #[], attributes := #[] }
def k3m3 : Method := { name := "add", desc := "(J)V", sig := { parameters := [.long], returnType := none }, accessFlags := 0, code := some k3c3 }
def k3c4 : Code := { maxStack := 4, maxLocals := 3, code := prog_40_method_5_code, exceptionTable := #[], attributes := #[] }
def k3m4 : Method := { name := "remove", desc := "()V", sig := { parameters := [], returnType := none }, accessFlags := 0, code := some k3c4 }
def k3c5 : Code := { maxStack := 4, maxLocals := 6, code := prog_40_method_7_code, exceptionTable := #[], attributes := #[] }
def k3m5 : Method := { name := "siftDown", desc := "(J)V", sig := { parameters := [.long], returnType := none }, accessFlags := 2, code := some k3c5 }
/-- com/example/eunomia/eunomia/sticky/LongHeap -/
def k3 : Class := { plain "com/example/eunomia/eunomia/sticky/LongHeap" (some 0) with
  accessFlags := 48
  interfaces := #[]
  cf := some (fileOf pool3 14 #[] #[{ accessFlags := 0, nameIndex := 5, descriptorIndex := 33, attributes := #[] }, { accessFlags := 0, nameIndex := 36, descriptorIndex := 37, attributes := #[] }, { accessFlags := 0, nameIndex := 39, descriptorIndex := 40, attributes := #[] }, { accessFlags := 0, nameIndex := 41, descriptorIndex := 32, attributes := #[] }, { accessFlags := 0, nameIndex := 42, descriptorIndex := 6, attributes := #[] }, { accessFlags := 2, nameIndex := 31, descriptorIndex := 32, attributes := #[] }] 48 2 #[] #[{ accessFlags := 2, nameIndex := 17, descriptorIndex := 18, attributes := #[] }, { accessFlags := 2, nameIndex := 21, descriptorIndex := 22, attributes := #[] }])
  fields := #[{ name := "values", type := (.array .long), accessFlags := 2, slot := 0, constantValue := 0 }, { name := "size", type := .int, accessFlags := 2, slot := 1, constantValue := 0 }]
  methods := #[k3m0, k3m1, k3m2, k3m3, k3m4, k3m5]
  instanceTypes := #[(.array .long), .int]
  staticTypes := #[]
  resolved := Array.replicate 46 none
  statics := none }

def pool4 : Array CpInfo := pool [(2, .class_ 4), (1, u "java/lang/Object"), (0, u "<init>"), (0, u "()V"), (7, .class_ 16), (1, u "java/util/Arrays"), (57, .class_ 76), (1, u "java/util/Arrays$NaturalOrder"), (36, .class_ 115), (1, u "java/util/Arrays$LegacyMergeSort"), (1, u "Z"), (32, .methodref 151 152), (0, .class_ 153), (0, .nameAndType 154 155), (0, u "java/lang/System"), (0, u "arraycopy"), (0, u "(Ljava/lang/Object;ILjava/lang/Object;II)V"), (146, u "copyOf"), (1, .methodref 305 306), (0, .class_ 307), (0, .nameAndType 308 309), (0, u "java/lang/Math"), (0, u "min"), (0, u "(II)I"), (65, .class_ 376), (0, u "java/util/Arrays$ArrayList"), (68, u "$assertionsDisabled"), (269, u "MIN_ARRAY_SORT_GRAN"), (0, u "I"), (2, u "INSERTIONSORT_THRESHOLD"), (152, u "([JI)[J"), (102, .class_ 976), (0, u "java/util/Arrays$ArrayItr")] 52

def k4m0 : Method := { name := "<init>", desc := "()V", sig := { parameters := [], returnType := none }, accessFlags := 2, code := none }
def k4c1 : Code := { maxStack := 6, maxLocals := 3, code := jdk_65_method_124_code, exceptionTable := #[], attributes := #[] }
def k4m1 : Method := { name := "copyOf", desc := "([JI)[J", sig := { parameters := [(.array .long), .int], returnType := some (.array .long) }, accessFlags := 9, code := some k4c1 }
/-- java/util/Arrays -/
def k4 : Class := { plain "java/util/Arrays" (some 0) with
  accessFlags := 49
  interfaces := #[]
  cf := some (fileOf pool4 14 #[.nestMembers #[975, 375, 113, 74]] #[{ accessFlags := 2, nameIndex := 5, descriptorIndex := 6, attributes := #[] }, { accessFlags := 9, nameIndex := 302, descriptorIndex := 872, attributes := #[] }] 49 2 #[] #[{ accessFlags := 26, nameIndex := 715, descriptorIndex := 716, attributes := #[] }, { accessFlags := 26, nameIndex := 719, descriptorIndex := 716, attributes := #[] }, { accessFlags := 4120, nameIndex := 445, descriptorIndex := 117, attributes := #[] }])
  fields := #[{ name := "MIN_ARRAY_SORT_GRAN", type := .int, accessFlags := 26, slot := 0, constantValue := 0 }, { name := "INSERTIONSORT_THRESHOLD", type := .int, accessFlags := 26, slot := 1, constantValue := 0 }, { name := "$assertionsDisabled", type := .boolean, accessFlags := 4120, slot := 2, constantValue := 0 }]
  methods := #[k4m0, k4m1]
  instanceTypes := #[]
  staticTypes := #[.int, .int, .boolean]
  resolved := Array.replicate 1029 none
  statics := none }

def pool5 : Array CpInfo := pool [(2, .class_ 4), (1, u "java/lang/Object"), (0, u "<init>"), (0, u "()V"), (1, .class_ 10), (1, u "java/lang/System"), (0, u "allowSecurityManager"), (0, u "I"), (16, u "cons"), (0, u "Ljava/io/Console;"), (77, .class_ 110), (1, u "java/lang/System$CallersHolder"), (43, u "initialErrStream"), (0, u "Ljava/io/PrintStream;"), (19, u "security"), (0, u "Ljava/lang/SecurityManager;"), (31, .class_ 209), (0, u "java/lang/System$1"), (7, u "props"), (0, u "Ljava/util/Properties;"), (2, u "lineSeparator"), (0, u "Ljava/lang/String;"), (96, .class_ 321), (1, u "java/lang/System$LoggerFinder"), (5, .class_ 328), (0, u "java/lang/System$Logger"), (67, u "err"), (2, u "out"), (91, u "notSupportedJnuEncoding"), (15, u "in"), (17, u "initialIn"), (0, u "Ljava/io/InputStream;"), (35, u "bootLayer"), (0, u "Ljava/lang/ModuleLayer;"), (99, .class_ 664), (0, u "java/lang/System$2"), (9, u "NEVER"), (2, u "MAYBE"), (49, u "arraycopy"), (0, u "(Ljava/lang/Object;ILjava/lang/Object;II)V"), (72, .class_ 802), (0, u "java/lang/System$Logger$Level")] 31

def k5m0 : Method := { name := "<init>", desc := "()V", sig := { parameters := [], returnType := none }, accessFlags := 2, code := none }
def k5m1 : Method := { name := "arraycopy", desc := "(Ljava/lang/Object;ILjava/lang/Object;II)V", sig := { parameters := [(.object "java/lang/Object"), .int, (.object "java/lang/Object"), .int, .int], returnType := none }, accessFlags := 265, code := none }
/-- java/lang/System -/
def k5 : Class := { plain "java/lang/System" (some 0) with
  accessFlags := 49
  interfaces := #[]
  cf := some (fileOf pool5 8 #[.nestMembers #[319, 327, 801, 108, 663, 208]] #[{ accessFlags := 2, nameIndex := 5, descriptorIndex := 6, attributes := #[] }, { accessFlags := 265, nameIndex := 727, descriptorIndex := 728, attributes := #[] }] 49 2 #[] #[{ accessFlags := 25, nameIndex := 507, descriptorIndex := 526, attributes := #[] }, { accessFlags := 25, nameIndex := 399, descriptorIndex := 155, attributes := #[] }, { accessFlags := 25, nameIndex := 396, descriptorIndex := 155, attributes := #[] }, { accessFlags := 10, nameIndex := 525, descriptorIndex := 526, attributes := #[] }, { accessFlags := 26, nameIndex := 674, descriptorIndex := 12, attributes := #[] }, { accessFlags := 26, nameIndex := 677, descriptorIndex := 12, attributes := #[] }, { accessFlags := 10, nameIndex := 11, descriptorIndex := 12, attributes := #[] }, { accessFlags := 74, nameIndex := 175, descriptorIndex := 176, attributes := #[] }, { accessFlags := 10, nameIndex := 491, descriptorIndex := 222, attributes := #[] }, { accessFlags := 74, nameIndex := 29, descriptorIndex := 30, attributes := #[] }, { accessFlags := 74, nameIndex := 154, descriptorIndex := 155, attributes := #[] }, { accessFlags := 10, nameIndex := 217, descriptorIndex := 218, attributes := #[] }, { accessFlags := 10, nameIndex := 221, descriptorIndex := 222, attributes := #[] }, { accessFlags := 8, nameIndex := 562, descriptorIndex := 563, attributes := #[] }])
  fields := #[{ name := "in", type := (.object "java/io/InputStream"), accessFlags := 25, slot := 0, constantValue := 0 }, { name := "out", type := (.object "java/io/PrintStream"), accessFlags := 25, slot := 1, constantValue := 0 }, { name := "err", type := (.object "java/io/PrintStream"), accessFlags := 25, slot := 2, constantValue := 0 }, { name := "initialIn", type := (.object "java/io/InputStream"), accessFlags := 10, slot := 3, constantValue := 0 }, { name := "NEVER", type := .int, accessFlags := 26, slot := 4, constantValue := 0 }, { name := "MAYBE", type := .int, accessFlags := 26, slot := 5, constantValue := 0 }, { name := "allowSecurityManager", type := .int, accessFlags := 10, slot := 6, constantValue := 0 }, { name := "security", type := (.object "java/lang/SecurityManager"), accessFlags := 74, slot := 7, constantValue := 0 }, { name := "notSupportedJnuEncoding", type := (.object "java/lang/String"), accessFlags := 10, slot := 8, constantValue := 0 }, { name := "cons", type := (.object "java/io/Console"), accessFlags := 74, slot := 9, constantValue := 0 }, { name := "initialErrStream", type := (.object "java/io/PrintStream"), accessFlags := 74, slot := 10, constantValue := 0 }, { name := "props", type := (.object "java/util/Properties"), accessFlags := 10, slot := 11, constantValue := 0 }, { name := "lineSeparator", type := (.object "java/lang/String"), accessFlags := 10, slot := 12, constantValue := 0 }, { name := "bootLayer", type := (.object "java/lang/ModuleLayer"), accessFlags := 8, slot := 13, constantValue := 0 }]
  methods := #[k5m0, k5m1]
  instanceTypes := #[]
  staticTypes := #[(.object "java/io/InputStream"), (.object "java/io/PrintStream"), (.object "java/io/PrintStream"), (.object "java/io/InputStream"), .int, .int, .int, (.object "java/lang/SecurityManager"), (.object "java/lang/String"), (.object "java/io/Console"), (.object "java/io/PrintStream"), (.object "java/util/Properties"), (.object "java/lang/String"), (.object "java/lang/ModuleLayer")]
  resolved := Array.replicate 834 none
  statics := none }

def pool6 : Array CpInfo := pool [(1, u "java/lang/Cloneable"), (0, .class_ 1), (0, u "java/lang/Object"), (0, .class_ 3)] 3

/-- java/lang/Cloneable -/
def k6 : Class := { plain "java/lang/Cloneable" (some 0) with
  accessFlags := 1537
  interfaces := #[]
  cf := some (fileOf pool6 2 #[] #[] 1537 4 #[] #[])
  fields := #[]
  methods := #[]
  instanceTypes := #[]
  staticTypes := #[]
  resolved := Array.replicate 8 none
  statics := none }

def pool7 : Array CpInfo := pool [(1, u "java/io/Serializable"), (0, .class_ 1), (0, u "java/lang/Object"), (0, .class_ 3)] 3

/-- java/io/Serializable -/
def k7 : Class := { plain "java/io/Serializable" (some 0) with
  accessFlags := 1537
  interfaces := #[]
  cf := some (fileOf pool7 2 #[] #[] 1537 4 #[] #[])
  fields := #[]
  methods := #[]
  instanceTypes := #[]
  staticTypes := #[]
  resolved := Array.replicate 8 none
  statics := none }

/-- the primitive byte -/
def k8 : Class := { plain "byte" none with kind := .primitive 'B', accessFlags := 0x411 }
/-- [B -/
def k9 : Class := { plain "[B" (some 0) with kind := .array 8 .byte, interfaces := #[6, 7], accessFlags := 1041 }

/-- the primitive int -/
def k10 : Class := { plain "int" none with kind := .primitive 'I', accessFlags := 0x411 }
/-- [I -/
def k11 : Class := { plain "[I" (some 0) with kind := .array 10 .int, interfaces := #[6, 7], accessFlags := 1041 }

/-- the primitive long -/
def k12 : Class := { plain "long" none with kind := .primitive 'J', accessFlags := 0x411 }
/-- [J -/
def k13 : Class := { plain "[J" (some 0) with kind := .array 12 .long, interfaces := #[6, 7], accessFlags := 1041 }

def heap : Heap := #[]
def classes : Array Class := #[k0, k1, k2, k3, k4, k5, k6, k7, k8, k9, k10, k11, k12, k13]
def interned : List (Array UInt16 × Addr) := []
def slotsUsed : Nat := 0
def theMethod : MethodId := ⟨1, 1⟩
def args0 : Array Value := #[.long 5, .long 6, .long 7, .long 8, .int 9]
def aboutOver (below : List Frame) : State where
  vm := { classes := classes, interned := interned.toArray }
  heap := heap
  slotsUsed := slotsUsed
  threads := #[{ frames := .invoking theMethod args0 :: below }]
def below0 : List Frame := [.native { method := ⟨0, 0⟩, args := #[] }]
def about1 : State := aboutOver below0
def p0 : Program := .bare "" "" ""
def e0 : Env := launch0.env 0 0 0
theorem w_frames : about1.frames = Frame.invoking theMethod args0 :: below0 := rfl
set_option maxRecDepth 65536 in
theorem w_args : argsFit about1.vm theMethod args0 = true := by decide +kernel
set_option maxRecDepth 65536 in
theorem w_heap : heapFits about1 = true := by decide +kernel
set_option maxRecDepth 65536 in
theorem w_runnable : about1.curStatus? = some .runnable := by decide +kernel
set_option maxRecDepth 65536 in
theorem w_alone : about1.alone = true := by decide +kernel
set_option maxRecDepth 65536 in
theorem w_named : about1.methodNamed? x = some theMethod := by decide +kernel
set_option maxRecDepth 65536 in
theorem w_hears : about1.hears theMethod below0 = true := by decide +kernel
set_option maxRecDepth 65536 in
theorem w_ripe : about1.ripe theMethod args0 below0 = true := by decide +kernel
theorem w_running : about1.status = .running := rfl
set_option maxRecDepth 65536 in
theorem w_room : about1.hasRoom e0.platform room_1 = true :=
  launch0.hasRoom_least _ room_1 (by decide +kernel) (by decide +kernel) (by decide +kernel) (by decide +kernel) (by decide +kernel) (by decide +kernel)
theorem allAtoms_all (ts : List Jvm.Cond) (a : Array Jvm.Value) (st : Jvm.State) : (allAtoms ts).before a st = ts.all (fun c => c.before a st) := by
  induction ts with
  | nil => rfl
  | cons c t ih =>
    show (Jvm.Cond.and c (allAtoms t)).before a st = _
    rw [Jvm.Cond.before_and, ih, List.all_cons]
def words1 : List Jvm.Cond := Jvm.Cond.code x code maxLocals ret :: tables_1
/-- a 'code' word, met by the world's own term for the bytes: nothing is compared byte by byte -/
theorem code_word {y : MethodName} {bytes : ByteArray} {mx : Nat} {rt : Option FieldType} {a : Array Value} {s : State} {m : MethodId} {meth : Method} {c : Code} (h1 : s.methodNamed? y = some m) (h2 : s.vm.method? m = some meth) (h3 : meth.code = some c) (h4 : c.code = bytes)
    (h5 : (c.maxLocals == mx && c.exceptionTable.isEmpty && decide (c.maxStack ≤ mostOperands) && decide (meth.sig.returnType = rt) && !meth.locks && decide (parseMethodDescriptor y.desc = some meth.sig)) = true) : (Jvm.Cond.code y bytes mx rt).before a s = true := by
  simp only [Bool.and_eq_true, beq_iff_eq, Bool.not_eq_true', decide_eq_true_eq] at h5
  obtain ⟨⟨⟨⟨⟨g1, g2⟩, g3⟩, g4⟩, g5⟩, g6⟩ := h5
  simp [Cond.before, Cond.holds, Cond.value, h1, h2, h3, h4, g1, g2, g3, g4, g5, g6]
def isCode : Jvm.Cond → Bool
  | .code _ _ _ _ => true
  | _ => false
theorem all_split {L : List Jvm.Cond} {P : Jvm.Cond → Bool} (h1 : L.all (fun c => isCode c || P c) = true) (h2 : ∀ c ∈ L.filter isCode, P c = true) : L.all P = true := by
  refine List.all_eq_true.mpr fun c hc => ?_
  have h := List.all_eq_true.mp h1 c hc
  rcases Bool.eq_false_or_eq_true (isCode c) with hi | hi
  · exact h2 c (List.mem_filter.mpr ⟨hc, hi⟩)
  · simpa [hi] using h
set_option maxRecDepth 65536 in
theorem w_c0 : (Jvm.Cond.code x code maxLocals ret).before args0 about1 = true := code_word (m := ⟨1, 1⟩) (meth := k1m1) (c := k1c1) (by decide +kernel) rfl rfl rfl (by decide +kernel)
set_option maxRecDepth 65536 in
theorem w_c1 : (Jvm.Cond.code ({ cls := "java/lang/Math", name := "min", desc := "(JJ)J" } : Jvm.MethodName) jdk_29_method_70_code (4 : Nat) (Option.some Jvm.ClassFile.FieldType.long)).before args0 about1 = true := code_word (m := ⟨2, 4⟩) (meth := k2m4) (c := k2c4) (by decide +kernel) rfl rfl rfl (by decide +kernel)
set_option maxRecDepth 65536 in
theorem w_c2 : (Jvm.Cond.code ({ cls := "java/lang/Math", name := "max", desc := "(JJ)J" } : Jvm.MethodName) jdk_29_method_66_code (4 : Nat) (Option.some Jvm.ClassFile.FieldType.long)).before args0 about1 = true := code_word (m := ⟨2, 2⟩) (meth := k2m2) (c := k2c2) (by decide +kernel) rfl rfl rfl (by decide +kernel)
set_option maxRecDepth 65536 in
theorem w_c3 : (Jvm.Cond.code ({ cls := "com/example/eunomia/eunomia/sticky/LongHeap", name := "<init>", desc := "(I)V" } : Jvm.MethodName) prog_40_method_1_code (2 : Nat) (Option.none : Option Jvm.ClassFile.FieldType)).before args0 about1 = true := code_word (m := ⟨3, 0⟩) (meth := k3m0) (c := k3c0) (by decide +kernel) rfl rfl rfl (by decide +kernel)
set_option maxRecDepth 65536 in
theorem w_c4 : (Jvm.Cond.code ({ cls := "java/lang/Object", name := "<init>", desc := "()V" } : Jvm.MethodName) object_method_1_code (1 : Nat) (Option.none : Option Jvm.ClassFile.FieldType)).before args0 about1 = true := code_word (m := ⟨0, 0⟩) (meth := k0m0) (c := k0c0) (by decide +kernel) rfl rfl rfl (by decide +kernel)
set_option maxRecDepth 65536 in
theorem w_c5 : (Jvm.Cond.code ({ cls := "java/lang/Math", name := "max", desc := "(II)I" } : Jvm.MethodName) jdk_29_method_65_code (2 : Nat) (Option.some Jvm.ClassFile.FieldType.int)).before args0 about1 = true := code_word (m := ⟨2, 1⟩) (meth := k2m1) (c := k2c1) (by decide +kernel) rfl rfl rfl (by decide +kernel)
set_option maxRecDepth 65536 in
theorem w_c6 : (Jvm.Cond.code ({ cls := "com/example/eunomia/eunomia/sticky/LongHeap", name := "add", desc := "(J)V" } : Jvm.MethodName) prog_40_method_4_code (4 : Nat) (Option.none : Option Jvm.ClassFile.FieldType)).before args0 about1 = true := code_word (m := ⟨3, 3⟩) (meth := k3m3) (c := k3c3) (by decide +kernel) rfl rfl rfl (by decide +kernel)
set_option maxRecDepth 65536 in
theorem w_c7 : (Jvm.Cond.code ({ cls := "java/util/Arrays", name := "copyOf", desc := "([JI)[J" } : Jvm.MethodName) jdk_65_method_124_code (3 : Nat) (Option.some (Jvm.ClassFile.FieldType.array Jvm.ClassFile.FieldType.long))).before args0 about1 = true := code_word (m := ⟨4, 1⟩) (meth := k4m1) (c := k4c1) (by decide +kernel) rfl rfl rfl (by decide +kernel)
set_option maxRecDepth 65536 in
theorem w_c8 : (Jvm.Cond.code ({ cls := "java/lang/Math", name := "min", desc := "(II)I" } : Jvm.MethodName) jdk_29_method_69_code (2 : Nat) (Option.some Jvm.ClassFile.FieldType.int)).before args0 about1 = true := code_word (m := ⟨2, 3⟩) (meth := k2m3) (c := k2c3) (by decide +kernel) rfl rfl rfl (by decide +kernel)
set_option maxRecDepth 65536 in
theorem w_c9 : (Jvm.Cond.code ({ cls := "com/example/eunomia/eunomia/sticky/LongHeap", name := "remove", desc := "()V" } : Jvm.MethodName) prog_40_method_5_code (3 : Nat) (Option.none : Option Jvm.ClassFile.FieldType)).before args0 about1 = true := code_word (m := ⟨3, 4⟩) (meth := k3m4) (c := k3c4) (by decide +kernel) rfl rfl rfl (by decide +kernel)
set_option maxRecDepth 65536 in
theorem w_c10 : (Jvm.Cond.code ({ cls := "com/example/eunomia/eunomia/sticky/LongHeap", name := "siftDown", desc := "(J)V" } : Jvm.MethodName) prog_40_method_7_code (6 : Nat) (Option.none : Option Jvm.ClassFile.FieldType)).before args0 about1 = true := code_word (m := ⟨3, 5⟩) (meth := k3m5) (c := k3c5) (by decide +kernel) rfl rfl rfl (by decide +kernel)
set_option maxRecDepth 65536 in
theorem w_c11 : (Jvm.Cond.code ({ cls := "com/example/eunomia/eunomia/sticky/LongHeap", name := "peek", desc := "()J" } : Jvm.MethodName) prog_40_method_3_code (1 : Nat) (Option.some Jvm.ClassFile.FieldType.long)).before args0 about1 = true := code_word (m := ⟨3, 2⟩) (meth := k3m2) (c := k3c2) (by decide +kernel) rfl rfl rfl (by decide +kernel)
set_option maxRecDepth 65536 in
theorem w_c12 : (Jvm.Cond.code ({ cls := "com/example/eunomia/eunomia/sticky/LongHeap", name := "isEmpty", desc := "()Z" } : Jvm.MethodName) prog_40_method_2_code (1 : Nat) (Option.some Jvm.ClassFile.FieldType.boolean)).before args0 about1 = true := code_word (m := ⟨3, 1⟩) (meth := k3m1) (c := k3c1) (by decide +kernel) rfl rfl rfl (by decide +kernel)
def codes1 : List Jvm.Cond := [Jvm.Cond.code x code maxLocals ret, Jvm.Cond.code ({ cls := "java/lang/Math", name := "min", desc := "(JJ)J" } : Jvm.MethodName) jdk_29_method_70_code (4 : Nat) (Option.some Jvm.ClassFile.FieldType.long), Jvm.Cond.code ({ cls := "java/lang/Math", name := "max", desc := "(JJ)J" } : Jvm.MethodName) jdk_29_method_66_code (4 : Nat) (Option.some Jvm.ClassFile.FieldType.long), Jvm.Cond.code ({ cls := "com/example/eunomia/eunomia/sticky/LongHeap", name := "<init>", desc := "(I)V" } : Jvm.MethodName) prog_40_method_1_code (2 : Nat) (Option.none : Option Jvm.ClassFile.FieldType), Jvm.Cond.code ({ cls := "java/lang/Object", name := "<init>", desc := "()V" } : Jvm.MethodName) object_method_1_code (1 : Nat) (Option.none : Option Jvm.ClassFile.FieldType), Jvm.Cond.code ({ cls := "java/lang/Math", name := "max", desc := "(II)I" } : Jvm.MethodName) jdk_29_method_65_code (2 : Nat) (Option.some Jvm.ClassFile.FieldType.int), Jvm.Cond.code ({ cls := "com/example/eunomia/eunomia/sticky/LongHeap", name := "add", desc := "(J)V" } : Jvm.MethodName) prog_40_method_4_code (4 : Nat) (Option.none : Option Jvm.ClassFile.FieldType), Jvm.Cond.code ({ cls := "java/util/Arrays", name := "copyOf", desc := "([JI)[J" } : Jvm.MethodName) jdk_65_method_124_code (3 : Nat) (Option.some (Jvm.ClassFile.FieldType.array Jvm.ClassFile.FieldType.long)), Jvm.Cond.code ({ cls := "java/lang/Math", name := "min", desc := "(II)I" } : Jvm.MethodName) jdk_29_method_69_code (2 : Nat) (Option.some Jvm.ClassFile.FieldType.int), Jvm.Cond.code ({ cls := "com/example/eunomia/eunomia/sticky/LongHeap", name := "remove", desc := "()V" } : Jvm.MethodName) prog_40_method_5_code (3 : Nat) (Option.none : Option Jvm.ClassFile.FieldType), Jvm.Cond.code ({ cls := "com/example/eunomia/eunomia/sticky/LongHeap", name := "siftDown", desc := "(J)V" } : Jvm.MethodName) prog_40_method_7_code (6 : Nat) (Option.none : Option Jvm.ClassFile.FieldType), Jvm.Cond.code ({ cls := "com/example/eunomia/eunomia/sticky/LongHeap", name := "peek", desc := "()J" } : Jvm.MethodName) prog_40_method_3_code (1 : Nat) (Option.some Jvm.ClassFile.FieldType.long), Jvm.Cond.code ({ cls := "com/example/eunomia/eunomia/sticky/LongHeap", name := "isEmpty", desc := "()Z" } : Jvm.MethodName) prog_40_method_2_code (1 : Nat) (Option.some Jvm.ClassFile.FieldType.boolean)]
set_option maxRecDepth 65536 in
theorem codes_eq : words1.filter isCode = codes1 := rfl
theorem w_codes : ∀ c ∈ words1.filter isCode, c.before args0 about1 = true := by
  rw [codes_eq]
  intro c hc
  simp only [codes1, List.mem_cons, List.not_mem_nil, or_false] at hc
  rcases hc with rfl | rfl | rfl | rfl | rfl | rfl | rfl | rfl | rfl | rfl | rfl | rfl | rfl
  · exact w_c0
  · exact w_c1
  · exact w_c2
  · exact w_c3
  · exact w_c4
  · exact w_c5
  · exact w_c6
  · exact w_c7
  · exact w_c8
  · exact w_c9
  · exact w_c10
  · exact w_c11
  · exact w_c12
set_option maxRecDepth 65536 in
theorem w_t1 : (words1.take 24).all (fun c => isCode c || c.before args0 about1) = true := by decide +kernel
set_option maxRecDepth 65536 in
theorem w_t2 : ((words1.drop 24).take 24).all (fun c => isCode c || c.before args0 about1) = true := by decide +kernel
set_option maxRecDepth 65536 in
theorem w_t3 : ((words1.drop 24).drop 24).all (fun c => isCode c || c.before args0 about1) = true := by decide +kernel
theorem w_tables : (allAtoms (Jvm.Cond.code x code maxLocals ret :: tables_1)).before args0 about1 = true := by
  rw [allAtoms_all]
  show words1.all (fun c => c.before args0 about1) = true
  refine all_split ?_ w_codes
  rw [← List.take_append_drop 24 words1, List.all_append, w_t1, ← List.take_append_drop 24 (words1.drop 24), List.all_append, w_t2, w_t3]
  rfl
set_option maxRecDepth 65536 in
theorem w_case : (Jvm.Cond.and given_1 narrow_1).before args0 about1 = true := by decide +kernel
theorem w_applies : (headSpec (Jvm.Cond.code x code maxLocals ret :: tables_1) room_1).applies x e0.platform about1 = true :=
  (Spec.applies_iff w_frames).mpr ⟨w_running, w_runnable, w_alone, w_named, w_hears, w_ripe, w_room, w_tables⟩
theorem atStart : AtStart classFile x code maxLocals ret World_1 tables_1 room_1 Calls_1 rest_1 Pre_1 launch0 p0 e0 about1 theMethod args0 below0 :=
  ⟨lists_1, trivial, launch0.admits_env _ _ _, launch0.least_env, fairChoices_fair.cas, fairChoices_fair.clock, w_frames, w_args, w_heap, w_applies, trivial, trivial, w_case⟩
end start1
theorem witness_1 : WitnessClaimed_1 := ⟨start1.p0, start1.e0, start1.about1, start1.theMethod, start1.args0, start1.below0, start1.atStart⟩
end Jvm.Pilot.@@N@@
