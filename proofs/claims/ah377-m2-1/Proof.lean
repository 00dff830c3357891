import JvmDerived
import JvmDerived.Pilot.@@N@@Statement
import JvmDerived.Pilot.@@N@@Code
set_option linter.unusedVariables false
set_option linter.unusedSimpArgs false
namespace Jvm.RoadKit
open Sem ClassFile Op Lib Jvm.Stand Jvm.Free Jvm.LawKit
section Own
variable {p : Program} {l : Launch} {e : Env} {R : Room} {s : State} {m : MethodId} {args : Array Value} {below : List Frame} {meth : Method} {c : Code} {T : State} {locs : List Loc} {cells slots : Nat}
theorem retI (X : Stand p l e R s m args below meth c T locs cells slots) (hx : p.tables.exec = Jvm.exec) {pc : Nat} {Ls : Array Slot} {z : Int32} {rest : List Value} (hret : meth.sig.returnType = some .int) (hd : decode c.code pc = .ok (.ireturn, 1)) {fs : List Frame}
    (hl : ∀ (f : JFrame) (acts : List Action), f.method = m → f.locked = none → f.entered = [] → (doReturn e (T.setTop f) acts (some (.int z))).1 = T.setFrames fs) : Steps p.tables e below (T.setTop (mkF m pc Ls (.int z :: rest))) (T.setFrames fs) := by
  have hm' : T.vm.method? m = some meth := X.method'
  have hn : narrow .int (.int z) = .int z := rfl
  show Steps p.tables e below (T.setTop { method := m, pc := pc, locals := Ls, stack := _ :: rest, locked := none }) _
  jvm_step X.here [X.here.top, hx, hd, hm', hret, hn]
  first | (intro acts; rw [hl _ acts rfl rfl rfl]) | rw [hl _ _ rfl rfl rfl]
  exact Steps.refl _
/-- the run comes from the state A to its end, and the end is as QQ says -/
def GoW (p : Program) (e : Env) (below : List Frame) (QQ : Outcome → State → Prop) (A : State) : Prop :=
  ∃ s₂ o, Steps p.tables e below A s₂ ∧ s₂.status = .running ∧ Ended s₂ below o ∧ QQ o s₂
theorem GoW.st {QQ : Outcome → State → Prop} {A B : State} (h : ∀ t, Steps p.tables e below B t → Steps p.tables e below A t) (g : GoW p e below QQ B) : GoW p e below QQ A := by
  obtain ⟨s₂, o, h1, h2⟩ := g
  exact ⟨s₂, o, h _ h1, h2⟩
/-- what an end with the value v, the heap and the written places must say -/
def EndsW (s : State) (Q : Option Value → Heap → List Loc → Prop) (cl sl : Nat) (QQ : Outcome → State → Prop) : Prop :=
  ∀ (v : Option Value) (L : List Loc) (T : State), Q v T.heap L → FrameEnd s (.returned v) T L cl sl → QQ (.returned v) T
theorem GoW.fin {Q : Option Value → Heap → List Loc → Prop} {cl sl : Nat} {QQ : Outcome → State → Prop} {A : State} (X : Stand p l e R s m args below meth c T locs cells slots) (v : Option Value) (hv : meth.sig.returnType = none → v = none) (hlk : meth.locks = false) (hQ : EndsW s Q cl sl QQ) {h : Heap} (eT : T.heap = h)
    (q : Q v h locs) (hc : cells ≤ cl) (hs : slots ≤ sl)
    (st : ∀ fs, (∀ (f : JFrame) (acts : List Action), f.method = m → f.locked = none → f.entered = [] → (doReturn e (T.setTop f) acts v).1 = T.setFrames fs) → Steps p.tables e below A (T.setFrames fs)) : GoW p e below QQ A := by
  obtain ⟨fs, hr, hrun, hended, hW, hsame⟩ := X.leave (v := v) hv hlk
  subst eT
  exact ⟨_, _, st fs hr, hrun, hended, hQ _ _ _ q ⟨⟨_, rfl⟩, hW, hsame.mono hc hs⟩⟩
theorem met_of {y : MethodName} {bytes : ByteArray} {maxL : Nat} {ret : Option FieldType} {ws : List Cond} {as' : Array Value} {Z : State} {h0 : Heap} {Q : Option Value → Heap → List Loc → Prop} {cl sl : Nat} (hp : plainFor y = true) {Ls : Array Slot} (ef : ∀ m, entryFrame m as' maxL = mkF m 0 Ls [])
    (core : ∀ (p : Program) (e : Env) (s : State) (m : MethodId) (below : List Frame) (meth : Method) (c : Code) (T : State) (QQ : Outcome → State → Prop), p.tables.exec = Jvm.exec → Z.Warmed39 s.vm → c.code = bytes → c.maxLocals = maxL → s.vm.findClass y.cls = some m.cls → meth.name = y.name → meth.sig.returnType = ret → meth.locks = false →
      Stand p l e R s m as' below meth c T [] 0 0 → T.heap = h0 → EndsW s Q cl sl QQ → GoW p e below QQ (T.setTop (mkF m 0 Ls []))) :
    MetFree l y (head1 (Cond.code y bytes maxL ret :: ws) R) (fun a U => a = as' ∧ Z.Warmed39 U.vm ∧ U.heap = h0) (fun _ _ _ _ _ => True) (fun _ U o U' => ∃ v L, o = .returned v ∧ Q v U'.heap L ∧ FrameEnd U o U' L cl sl) := by
  refine MetFree.of_bodySF hp hisR ?_
  intro p e s m args below meth c s₁ Bd hml0 hP hK
  obtain ⟨rfl, hZ, hh⟩ := hP
  obtain ⟨s₂, o, g1, g2, g3, g4⟩ := core p e s m below meth c s₁ (fun o U' => ∃ v L, o = .returned v ∧ Q v U'.heap L ∧ FrameEnd s o U' L cl sl) Bd.exec hZ Bd.bytes hml0 (findClass_of_methodNamed Bd.named) (name_of_methodNamed Bd.named Bd.method).1 Bd.returns Bd.notSynchronized (Stand.of_body Bd) (by rw [← hh, Bd.state]; rfl) (fun v L T q f => ⟨v, L, rfl, q, f⟩)
  exact ⟨s₂, o, castTop (ef m) g1, g2, g3, g4⟩
theorem standUp (X : Stand p l e R s m args below meth c T locs cells slots) {cells' slots' : Nat} (hc : cells ≤ cells') (hs : slots ≤ slots') : Stand p l e R s m args below meth c T locs cells' slots' :=
  { X with same := X.same.mono hc hs }
theorem lremM {g : JFrame} {target : State} (X : Stand p l e R s m args below meth c T locs cells slots) (hx : p.tables.exec = Jvm.exec) (hg : g.method = m) {x y : Int64} {rest : List Value} (hd : decode c.code g.pc = .ok (.lrem, 1)) (hs : g.stack = .long y :: .long x :: rest) (hy : y ≠ 0)
    (hr : Steps p.tables e below (T.setTop { g with pc := g.pc + 1, stack := .long (x % y) :: rest }) target) : Steps p.tables e below (T.setTop g) target := by
  have q : x - x / y * y = x % y := lrem_mod x y
  exact XS.lrem X.here hx hg hd hs hy (by rw [q]; exact hr)
theorem ldVI {Z : State} {h : Heap} {a : Addr} {kc : ClassId} {z j : Int32} {vs : List Value} {dv v : Value} (X : Stand p l e R s m args below meth c T locs cells slots) (hx : p.tables.exec = Jvm.exec) (hZ : Z.Warmed39 s.vm) (eT : T.heap = h) (F : Arv Z h a kc .int z vs dv) (hj : ¬ j < 0 ∧ j < z) (hv : vs.getD j.toNatClampNeg dv = v)
    {g : JFrame} (hg : g.method = m) {rest : List Value} (hs : g.stack = .int j :: .ref a :: rest) (hd : decode c.code g.pc = .ok (.iaload, 1)) (t : State) (k : Steps p.tables e below (T.setTop { g with pc := g.pc + 1, stack := v :: rest }) t) : Steps p.tables e below (T.setTop g) t := by
  obtain ⟨c', A, -, S, -, H, -⟩ := F
  have i := inb_of S hj
  exact X.iaload hx (by rw [eT]; exact A.1) (State.isArrayOf_alike hZ.alike A.2.1) A.2.2 i (H.at i hv) hg hs hd t k
theorem ldVJ {Z : State} {h : Heap} {a : Addr} {kc : ClassId} {z j : Int32} {vs : List Value} {dv v : Value} (X : Stand p l e R s m args below meth c T locs cells slots) (hx : p.tables.exec = Jvm.exec) (hZ : Z.Warmed39 s.vm) (eT : T.heap = h) (F : Arv Z h a kc .long z vs dv) (hj : ¬ j < 0 ∧ j < z) (hv : vs.getD j.toNatClampNeg dv = v)
    {g : JFrame} (hg : g.method = m) {rest : List Value} (hs : g.stack = .int j :: .ref a :: rest) (hd : decode c.code g.pc = .ok (.laload, 1)) (t : State) (k : Steps p.tables e below (T.setTop { g with pc := g.pc + 1, stack := v :: rest }) t) : Steps p.tables e below (T.setTop g) t := by
  obtain ⟨c', A, -, S, -, H, -⟩ := F
  have i := inb_of S hj
  exact X.laload hx (by rw [eT]; exact A.1) (State.isArrayOf_alike hZ.alike A.2.1) A.2.2 i (H.at i hv) hg hs hd t k
theorem ldVB {Z : State} {h : Heap} {a : Addr} {kc : ClassId} {z j : Int32} {vs : List Value} {dv v : Value} (X : Stand p l e R s m args below meth c T locs cells slots) (hx : p.tables.exec = Jvm.exec) (hZ : Z.Warmed39 s.vm) (eT : T.heap = h) (F : Arv Z h a kc .byte z vs dv) (hj : ¬ j < 0 ∧ j < z) (hv : vs.getD j.toNatClampNeg dv = v)
    {g : JFrame} (hg : g.method = m) {rest : List Value} (hs : g.stack = .int j :: .ref a :: rest) (hd : decode c.code g.pc = .ok (.baload, 1)) (t : State) (k : Steps p.tables e below (T.setTop { g with pc := g.pc + 1, stack := v :: rest }) t) : Steps p.tables e below (T.setTop g) t := by
  obtain ⟨c', A, -, S, -, H, -⟩ := F
  have i := inb_of S hj
  exact X.baloadBytes hx (by rw [eT]; exact A.1) (State.isArrayOf_alike hZ.alike A.2.1) A.2.2 i (H.at i hv) hg hs hd t k
theorem stVI {Z : State} {h : Heap} {a : Addr} {kc : ClassId} {z j : Int32} {vs : List Value} {dv : Value} {x : Int32} (X : Stand p l e R s m args below meth c T locs cells slots) (hx : p.tables.exec = Jvm.exec) (hZ : Z.Warmed39 s.vm) (eT : T.heap = h) (F : Arv Z h a kc .int z vs dv) (hj : ¬ j < 0 ∧ j < z) (i : Nat) (hi : j.toNatClampNeg = i) (hl : i < vs.length)
    {g : JFrame} (hg : g.method = m) {rest : List Value} (hs : g.stack = (.int x) :: .int j :: .ref a :: rest) (hd : decode c.code g.pc = .ok (.iastore, 1)) :
    ∃ T' h', Stand p l e R s m args below meth c T' (locs ++ [⟨a, j.toNatClampNeg⟩]) cells slots ∧ T'.heap = h' ∧ Wr h h' a j.toNatClampNeg (.int x) ∧ Arv Z h' a kc .int z (vs.set i (.int x)) dv ∧ ∀ target, Steps p.tables e below (T'.setTop { g with pc := g.pc + 1, stack := rest }) target → Steps p.tables e below (T.setTop g) target := by
  obtain ⟨c', A, q, S, M, H, G⟩ := F
  obtain ⟨T', h', X', e', W', st⟩ := stI X hx hZ eT A (inb_of S hj) hg hs hd
  exact ⟨T', h', X', e', W', Arv.set A q S M H G rfl W' i hi hl, st⟩
theorem stVJ {Z : State} {h : Heap} {a : Addr} {kc : ClassId} {z j : Int32} {vs : List Value} {dv : Value} {x : Int64} (X : Stand p l e R s m args below meth c T locs cells slots) (hx : p.tables.exec = Jvm.exec) (hZ : Z.Warmed39 s.vm) (eT : T.heap = h) (F : Arv Z h a kc .long z vs dv) (hj : ¬ j < 0 ∧ j < z) (i : Nat) (hi : j.toNatClampNeg = i) (hl : i < vs.length)
    {g : JFrame} (hg : g.method = m) {rest : List Value} (hs : g.stack = (.long x) :: .int j :: .ref a :: rest) (hd : decode c.code g.pc = .ok (.lastore, 1)) :
    ∃ T' h', Stand p l e R s m args below meth c T' (locs ++ [⟨a, j.toNatClampNeg⟩]) cells slots ∧ T'.heap = h' ∧ Wr h h' a j.toNatClampNeg (.long x) ∧ Arv Z h' a kc .long z (vs.set i (.long x)) dv ∧ ∀ target, Steps p.tables e below (T'.setTop { g with pc := g.pc + 1, stack := rest }) target → Steps p.tables e below (T.setTop g) target := by
  obtain ⟨c', A, q, S, M, H, G⟩ := F
  obtain ⟨T', h', X', e', W', st⟩ := stJ X hx hZ eT A (inb_of S hj) hg hs hd
  exact ⟨T', h', X', e', W', Arv.set A q S M H G rfl W' i hi hl, st⟩
theorem stVB {Z : State} {h : Heap} {a : Addr} {kc : ClassId} {z j : Int32} {vs : List Value} {dv : Value} {x : Int32} (X : Stand p l e R s m args below meth c T locs cells slots) (hx : p.tables.exec = Jvm.exec) (hZ : Z.Warmed39 s.vm) (eT : T.heap = h) (F : Arv Z h a kc .byte z vs dv) (hj : ¬ j < 0 ∧ j < z) (i : Nat) (hi : j.toNatClampNeg = i) (hl : i < vs.length)
    {g : JFrame} (hg : g.method = m) {rest : List Value} (hs : g.stack = (.int x) :: .int j :: .ref a :: rest) (hd : decode c.code g.pc = .ok (.bastore, 1)) :
    ∃ T' h', Stand p l e R s m args below meth c T' (locs ++ [⟨a, j.toNatClampNeg⟩]) cells slots ∧ T'.heap = h' ∧ Wr h h' a j.toNatClampNeg (.int (nar .byte x)) ∧ Arv Z h' a kc .byte z (vs.set i (.int (nar .byte x))) dv ∧ ∀ target, Steps p.tables e below (T'.setTop { g with pc := g.pc + 1, stack := rest }) target → Steps p.tables e below (T.setTop g) target := by
  obtain ⟨c', A, q, S, M, H, G⟩ := F
  obtain ⟨T', h', X', e', W', st⟩ := stB X hx hZ eT A (inb_of S hj) hg hs hd
  exact ⟨T', h', X', e', W', Arv.set A q S M H G (fits_nar_byte _) W' i hi hl, st⟩
theorem lnV {Z : State} {h : Heap} {a : Addr} {kc : ClassId} {ty : FieldType} {z : Int32} {vs : List Value} {dv : Value} (X : Stand p l e R s m args below meth c T locs cells slots) (hx : p.tables.exec = Jvm.exec) (hZ : Z.Warmed39 s.vm) (eT : T.heap = h) (F : Arv Z h a kc ty z vs dv)
    {g : JFrame} (hg : g.method = m) {rest : List Value} (hs : g.stack = .ref a :: rest) (hd : decode c.code g.pc = .ok (.arraylength, 1)) (t : State) (k : Steps p.tables e below (T.setTop { g with pc := g.pc + 1, stack := .int z :: rest }) t) : Steps p.tables e below (T.setTop g) t := by
  obtain ⟨c', A, -, S, M, -, -⟩ := F
  refine X.arraylength hx (by rw [eT]; exact A.1) (State.isArrayOf_alike hZ.alike A.2.1) hg hs hd t ?_
  rw [len_of S M]; exact k
theorem gdI (vs : List Int32) (d : Int32) (i : Nat) : (vs.map Value.int).getD i (.int d) = .int (vs.getD i d) := by
  induction vs generalizing i with
  | nil => rfl
  | cons a t ih => cases i with
    | zero => rfl
    | succ i => simpa using ih i
theorem gdJ (vs : List Int64) (d : Int64) (i : Nat) : (vs.map Value.long).getD i (.long d) = .long (vs.getD i d) := by
  induction vs generalizing i with
  | nil => rfl
  | cons a t ih => cases i with
    | zero => rfl
    | succ i => simpa using ih i
end Own
end Jvm.RoadKit
namespace Jvm.Pilot.@@N@@
open Jvm Jvm.ClassFile Sem Op Lib Jvm.Free Jvm.Stand Jvm.LawKit Jvm.RoadKit Bundle Jvm.Pilot.@@N@@.Jvm.D
def own_minL (x y : Int64) : Int64 := if y < x then y else x
theorem d4_0 : decode jdk_29_method_70_code 0 = .ok (.lload_n 0, 1) := by decide +kernel
theorem d4_1 : decode jdk_29_method_70_code 1 = .ok (.lload_n 2, 1) := by decide +kernel
theorem d4_2 : decode jdk_29_method_70_code 2 = .ok (.lcmp, 1) := by decide +kernel
theorem d4_3 : decode jdk_29_method_70_code 3 = .ok (.ifCond .gt 7, 3) := by decide +kernel
theorem d4_10 : decode jdk_29_method_70_code 10 = .ok (.lload_n 2, 1) := by decide +kernel
theorem d4_11 : decode jdk_29_method_70_code 11 = .ok (.lreturn, 1) := by decide +kernel
theorem d4_6 : decode jdk_29_method_70_code 6 = .ok (.lload_n 0, 1) := by decide +kernel
theorem d4_7 : decode jdk_29_method_70_code 7 = .ok (.goto 4, 3) := by decide +kernel
def RM4 : Room := { frames := 0, cells := 0, slots := 0, locals := 0 }
def Q4 (Z : State) (q1 : Int64) (q2 : Int64) (h0 : Heap) (n0 : Nat) (v : Option Value) (h : Heap) (L : List Loc) : Prop := v = some (.long (own_minL q1 q2)) ∧ Fr n0 L ∧ h = h0
set_option maxRecDepth 65536 in
set_option maxHeartbeats 40000000 in
theorem rm4 (l : Launch) (Z : State) (a0 : Array Value) (hw : ∀ d ∈ tables_1, d.before a0 Z = true) (ws : List Jvm.Cond) (q1 : Int64) (q2 : Int64) (h0 : Heap) (n0 : Nat) (Z0 : n0 ≤ h0.size)  :
    MetFree l (⟨"java/lang/Math", "min", "(JJ)J"⟩ : MethodName) (head1 (Jvm.Cond.code (⟨"java/lang/Math", "min", "(JJ)J"⟩ : MethodName) jdk_29_method_70_code 4 (some .long) :: ws) RM4) (fun a U => a = #[(.long q1), (.long q2)] ∧ Z.Warmed39 U.vm ∧ U.heap = h0) (fun _ _ _ _ _ => True) (fun _ U o U' => ∃ v L, o = .returned v ∧ Q4 Z q1 q2 h0 n0 v U'.heap L ∧ FrameEnd U o U' L RM4.cells RM4.slots) := by
  refine met_of (Q := fun v h L => Q4 Z q1 q2 h0 n0 v h L) (Jvm.Free.JP.mathPlain rfl (by decide +kernel)) (fun m => by first | (simp [entryFrame, mkF, argsToLocals, Value.category]; done) | rfl) (Ls := #[.val (.long q1), .second, .val (.long q2), .second]) ?_
  intro p e s m below meth c T0 QQ hx hZ hby hml hown hnm hret hlk X0 e0 hQ
  have hml : c.maxLocals = 4 := hml
  have hown : s.vm.findClass "java/lang/Math" = some m.cls := hown
  have hnm : meth.name = "min" := hnm
  have hret : meth.sig.returnType = some .long := hret
  have N0 := Fr.nil n0
  have K0 : Keep h0 h0 [] := Keep.refl h0 _
  show GoW p e below QQ (T0.setTop (mkF m 0 #[.val (.long q1), .second, .val (.long q2), .second] []))
  refine GoW.st (fun t k => XS.lloadN X0.here hx rfl (hb hby d4_0) rfl (XS.lloadN X0.here hx rfl (hb hby d4_1) rfl (XS.lcmp X0.here hx rfl (hb hby d4_2) rfl k))) ?_
  show GoW p e below QQ (T0.setTop (mkF m 3 #[.val (.long q1), .second, .val (.long q2), .second] [(.int (lcmpW q1 q2))]))
  by_cases hc3 : q2 < q1
  · skip
    refine GoW.st (fun t k => XS.ifYes X0.here hx rfl (pc0 := 3) (pc' := 10) rfl (hb hby d4_3) rfl ((if0 _ _).trans (tlt ((lw_gt q1 q2).mpr hc3)).2.2.1) (by decide) (by decide) (XS.lloadN X0.here hx rfl (hb hby d4_10) rfl k)) ?_
    show GoW p e below QQ (T0.setTop (mkF m 11 #[.val (.long q1), .second, .val (.long q2), .second] [(.long q2)]))
    have rv : ((some (.long q2)) : Option Value) = some (.long (own_minL q1 q2)) := by
      rw [own_minL, if_pos hc3]
      all_goals first | rfl | (simp; done)
    exact GoW.fin X0 (some (.long q2)) (fun q => by rw [hret] at q; cases q) hlk hQ e0 ⟨rv, N0, rfl⟩ (by decide) (by decide) (fun fs hr => retOut X0 hx hret rfl (Or.inr (Or.inl ⟨rfl, rfl, _, rfl⟩)) (hb hby d4_11) hr)
  · skip
    refine GoW.st (fun t k => XS.ifNo X0.here hx rfl (hb hby d4_3) rfl ((if0 _ _).trans (flt (fun q => hc3 ((lw_gt q1 q2).mp q))).2.2.1) (XS.lloadN X0.here hx rfl (hb hby d4_6) rfl (XS.goto X0.here hx rfl (pc0 := 7) (pc' := 11) rfl (hb hby d4_7) (by decide) (by decide) k))) ?_
    show GoW p e below QQ (T0.setTop (mkF m 11 #[.val (.long q1), .second, .val (.long q2), .second] [(.long q1)]))
    have rv : ((some (.long q1)) : Option Value) = some (.long (own_minL q1 q2)) := by
      rw [own_minL, if_neg hc3]
      all_goals first | rfl | (simp; done)
    exact GoW.fin X0 (some (.long q1)) (fun q => by rw [hret] at q; cases q) hlk hQ e0 ⟨rv, N0, rfl⟩ (by decide) (by decide) (fun fs hr => retOut X0 hx hret rfl (Or.inr (Or.inl ⟨rfl, rfl, _, rfl⟩)) (hb hby d4_11) hr)
def own_maxL (x y : Int64) : Int64 := if x < y then y else x
theorem d5_0 : decode jdk_29_method_66_code 0 = .ok (.lload_n 0, 1) := by decide +kernel
theorem d5_1 : decode jdk_29_method_66_code 1 = .ok (.lload_n 2, 1) := by decide +kernel
theorem d5_2 : decode jdk_29_method_66_code 2 = .ok (.lcmp, 1) := by decide +kernel
theorem d5_3 : decode jdk_29_method_66_code 3 = .ok (.ifCond .lt 7, 3) := by decide +kernel
theorem d5_10 : decode jdk_29_method_66_code 10 = .ok (.lload_n 2, 1) := by decide +kernel
theorem d5_11 : decode jdk_29_method_66_code 11 = .ok (.lreturn, 1) := by decide +kernel
theorem d5_6 : decode jdk_29_method_66_code 6 = .ok (.lload_n 0, 1) := by decide +kernel
theorem d5_7 : decode jdk_29_method_66_code 7 = .ok (.goto 4, 3) := by decide +kernel
def RM5 : Room := { frames := 0, cells := 0, slots := 0, locals := 0 }
def Q5 (Z : State) (q1 : Int64) (q2 : Int64) (h0 : Heap) (n0 : Nat) (v : Option Value) (h : Heap) (L : List Loc) : Prop := v = some (.long (own_maxL q1 q2)) ∧ Fr n0 L ∧ h = h0
set_option maxRecDepth 65536 in
set_option maxHeartbeats 40000000 in
theorem rm5 (l : Launch) (Z : State) (a0 : Array Value) (hw : ∀ d ∈ tables_1, d.before a0 Z = true) (ws : List Jvm.Cond) (q1 : Int64) (q2 : Int64) (h0 : Heap) (n0 : Nat) (Z0 : n0 ≤ h0.size)  :
    MetFree l (⟨"java/lang/Math", "max", "(JJ)J"⟩ : MethodName) (head1 (Jvm.Cond.code (⟨"java/lang/Math", "max", "(JJ)J"⟩ : MethodName) jdk_29_method_66_code 4 (some .long) :: ws) RM5) (fun a U => a = #[(.long q1), (.long q2)] ∧ Z.Warmed39 U.vm ∧ U.heap = h0) (fun _ _ _ _ _ => True) (fun _ U o U' => ∃ v L, o = .returned v ∧ Q5 Z q1 q2 h0 n0 v U'.heap L ∧ FrameEnd U o U' L RM5.cells RM5.slots) := by
  refine met_of (Q := fun v h L => Q5 Z q1 q2 h0 n0 v h L) (Jvm.Free.JP.mathPlain rfl (by decide +kernel)) (fun m => by first | (simp [entryFrame, mkF, argsToLocals, Value.category]; done) | rfl) (Ls := #[.val (.long q1), .second, .val (.long q2), .second]) ?_
  intro p e s m below meth c T0 QQ hx hZ hby hml hown hnm hret hlk X0 e0 hQ
  have hml : c.maxLocals = 4 := hml
  have hown : s.vm.findClass "java/lang/Math" = some m.cls := hown
  have hnm : meth.name = "max" := hnm
  have hret : meth.sig.returnType = some .long := hret
  have N0 := Fr.nil n0
  have K0 : Keep h0 h0 [] := Keep.refl h0 _
  show GoW p e below QQ (T0.setTop (mkF m 0 #[.val (.long q1), .second, .val (.long q2), .second] []))
  refine GoW.st (fun t k => XS.lloadN X0.here hx rfl (hb hby d5_0) rfl (XS.lloadN X0.here hx rfl (hb hby d5_1) rfl (XS.lcmp X0.here hx rfl (hb hby d5_2) rfl k))) ?_
  show GoW p e below QQ (T0.setTop (mkF m 3 #[.val (.long q1), .second, .val (.long q2), .second] [(.int (lcmpW q1 q2))]))
  by_cases hc3 : q1 < q2
  · skip
    refine GoW.st (fun t k => XS.ifYes X0.here hx rfl (pc0 := 3) (pc' := 10) rfl (hb hby d5_3) rfl ((if0 _ _).trans (tlt ((lw_lt q1 q2).mpr hc3)).1) (by decide) (by decide) (XS.lloadN X0.here hx rfl (hb hby d5_10) rfl k)) ?_
    show GoW p e below QQ (T0.setTop (mkF m 11 #[.val (.long q1), .second, .val (.long q2), .second] [(.long q2)]))
    have rv : ((some (.long q2)) : Option Value) = some (.long (own_maxL q1 q2)) := by
      rw [own_maxL, if_pos hc3]
      all_goals first | rfl | (simp; done)
    exact GoW.fin X0 (some (.long q2)) (fun q => by rw [hret] at q; cases q) hlk hQ e0 ⟨rv, N0, rfl⟩ (by decide) (by decide) (fun fs hr => retOut X0 hx hret rfl (Or.inr (Or.inl ⟨rfl, rfl, _, rfl⟩)) (hb hby d5_11) hr)
  · skip
    refine GoW.st (fun t k => XS.ifNo X0.here hx rfl (hb hby d5_3) rfl ((if0 _ _).trans (flt (fun q => hc3 ((lw_lt q1 q2).mp q))).1) (XS.lloadN X0.here hx rfl (hb hby d5_6) rfl (XS.goto X0.here hx rfl (pc0 := 7) (pc' := 11) rfl (hb hby d5_7) (by decide) (by decide) k))) ?_
    show GoW p e below QQ (T0.setTop (mkF m 11 #[.val (.long q1), .second, .val (.long q2), .second] [(.long q1)]))
    have rv : ((some (.long q1)) : Option Value) = some (.long (own_maxL q1 q2)) := by
      rw [own_maxL, if_neg hc3]
      all_goals first | rfl | (simp; done)
    exact GoW.fin X0 (some (.long q1)) (fun q => by rw [hret] at q; cases q) hlk hQ e0 ⟨rv, N0, rfl⟩ (by decide) (by decide) (fun fs hr => retOut X0 hx hret rfl (Or.inr (Or.inl ⟨rfl, rfl, _, rfl⟩)) (hb hby d5_11) hr)
theorem own_mm (a b : Int64) : (own_minL a b).toInt ≤ (own_maxL a b).toInt := by
  rw [own_minL, own_maxL]
  by_cases h1 : b < a
  · rw [if_pos h1]
    by_cases h2 : a < b
    · rw [if_pos h2]; omega
    · rw [if_neg h2]; rw [Int64.lt_iff_toInt_lt] at h1; omega
  · rw [if_neg h1]
    by_cases h2 : a < b
    · rw [if_pos h2]; rw [Int64.lt_iff_toInt_lt] at h2; omega
    · rw [if_neg h2]; omega
theorem own_m3 (x : Int32) (h0 : 0 ≤ x.toInt) : (x % (3 : Int32)) = 0 ∨ (x % (3 : Int32)) = 1 ∨ (x % (3 : Int32)) = 2 := by
  have h := (c_irem x 3 3 rfl).1 h0
  have g : (x % (3 : Int32)).toInt = 0 ∨ (x % (3 : Int32)).toInt = 1 ∨ (x % (3 : Int32)).toInt = 2 := by omega
  rcases g with g | g | g
  · exact Or.inl (Int32.toInt_inj.mp g)
  · exact Or.inr (Or.inl (Int32.toInt_inj.mp g))
  · exact Or.inr (Or.inr (Int32.toInt_inj.mp g))
theorem pn_0 : plainName "com/example/hike/hike/HoldersMergePinLaw" = true := by first | (simp [plainName, overriddenIn]; done) | decide +kernel
theorem d1_0 : decode method_3_code 0 = .ok (.iload_n 0, 1) := by decide +kernel
theorem d1_1 : decode method_3_code 1 = .ok (.ifCond .ne 7, 3) := by decide +kernel
theorem d1_4 : decode method_3_code 4 = .ok (.iconst 0, 1) := by decide +kernel
theorem d1_5 : decode method_3_code 5 = .ok (.newarray .long, 2) := by decide +kernel
theorem d1_7 : decode method_3_code 7 = .ok (.areturn, 1) := by decide +kernel
def RM1_0 : Room := { frames := 0, cells := 1, slots := 0, locals := 0 }
def Q1_0 (Z : State) (q2 : Int64) (q3 : Int64) (h0 : Heap) (n0 : Nat) (v : Option Value) (h : Heap) (L : List Loc) : Prop := ∃ (b : Addr) (kb : ClassId), v = some (.ref b) ∧ Fr n0 L ∧ Keep h0 h [] ∧ (h0.size ≤ b) ∧ (Arv Z h b kb .long (0 : Int32) [] (.long (0 : Int64)))
set_option maxRecDepth 65536 in
set_option maxHeartbeats 40000000 in
theorem rm1_0 (l : Launch) (Z : State) (a0 : Array Value) (hw : ∀ d ∈ tables_1, d.before a0 Z = true) (ws : List Jvm.Cond) (q2 : Int64) (q3 : Int64) (h0 : Heap) (n0 : Nat) (Z0 : n0 ≤ h0.size)  :
    MetFree l (⟨"com/example/hike/hike/HoldersMergePinLaw", "make", "(IJJ)[J"⟩ : MethodName) (head1 (Jvm.Cond.code (⟨"com/example/hike/hike/HoldersMergePinLaw", "make", "(IJJ)[J"⟩ : MethodName) method_3_code 5 (some (.array .long)) :: ws) RM1_0) (fun a U => a = #[(.int (0 : Int32)), (.long q2), (.long q3)] ∧ Z.Warmed39 U.vm ∧ U.heap = h0) (fun _ _ _ _ _ => True) (fun _ U o U' => ∃ v L, o = .returned v ∧ Q1_0 Z q2 q3 h0 n0 v U'.heap L ∧ FrameEnd U o U' L RM1_0.cells RM1_0.slots) := by
  refine met_of (Q := fun v h L => Q1_0 Z q2 q3 h0 n0 v h L) (plainFor_of_name pn_0) (fun m => by first | (simp [entryFrame, mkF, argsToLocals, Value.category]; done) | rfl) (Ls := #[.val (.int (0 : Int32)), .val (.long q2), .second, .val (.long q3), .second]) ?_
  intro p e s m below meth c T0 QQ hx hZ hby hml hown hnm hret hlk X0 e0 hQ
  have hml : c.maxLocals = 5 := hml
  have hown : s.vm.findClass "com/example/hike/hike/HoldersMergePinLaw" = some m.cls := hown
  have hnm : meth.name = "make" := hnm
  have hret : meth.sig.returnType = some (.array .long) := hret
  have N0 := Fr.nil n0
  have K0 : Keep h0 h0 [] := Keep.refl h0 _
  show GoW p e below QQ (T0.setTop (mkF m 0 #[.val (.int (0 : Int32)), .val (.long q2), .second, .val (.long q3), .second] []))
  refine GoW.st (fun t k => XS.iloadN X0.here hx rfl (hb hby d1_0) rfl k) ?_
  show GoW p e below QQ (T0.setTop (mkF m 1 #[.val (.int (0 : Int32)), .val (.long q2), .second, .val (.long q3), .second] [(.int (0 : Int32))]))
  have hc1 : (0 : Int32) = (0 : Int32) := by decide
  refine GoW.st (fun t k => XS.ifNo X0.here hx rfl (hb hby d1_1) rfl ((if0 _ _).trans (teq hc1).2) (XS.iconst X0.here hx rfl (hb hby d1_4) k)) ?_
  show GoW p e below QQ (T0.setTop (mkF m 5 #[.val (.int (0 : Int32)), .val (.long q2), .second, .val (.long q3), .second] [(.int (0 : Int32))]))
  obtain ⟨T1, h1, k1, X1, e1, E1, A1, st1⟩ := newP X0 hx hZ (hw _ (List.mem_of_getElem? (i := 4) rfl)) e0 (g := (mkF m 5 #[.val (.int (0 : Int32)), .val (.long q2), .second, .val (.long q3), .second] [(.int (0 : Int32))])) rfl (hb hby d1_5) rfl (by decide) (cap := 0) (by decide) (by decide) (by decide) (by decide)
  obtain ⟨b1, g1⟩ : ∃ z, z = h0.size := ⟨_, rfl⟩
  rw [← g1] at A1 st1
  refine GoW.st st1 ?_
  have gg1 : n0 ≤ b1 := Nat.le_trans (Nat.le_trans Z0 K0.1) (Nat.le_of_eq g1.symm)
  have sz1 : h0.size ≤ b1 := Nat.le_trans K0.1 (Nat.le_of_eq g1.symm)
  have K1 : Keep h0 h1 [] := K0.ext E1
  have V1 : Arv Z h1 b1 k1 .long (0 : Int32) [] (.long (0 : Int64)) := (Arv.new A1 (by decide))
  show GoW p e below QQ (T1.setTop (mkF m 7 #[.val (.int (0 : Int32)), .val (.long q2), .second, .val (.long q3), .second] [(.ref b1)]))
  exact GoW.fin X1 (some (.ref b1)) (fun q => by rw [hret] at q; cases q) hlk hQ e1 ⟨b1, k1, rfl, N0, K1, sz1, V1⟩ (by decide) (by decide) (fun fs hr => retOut X1 hx hret rfl (Or.inr (Or.inr (Or.inr (Or.inr ⟨rfl, rfl, rfl⟩)))) (hb hby d1_7) hr)
theorem d1_8 : decode method_3_code 8 = .ok (.iload_n 0, 1) := by decide +kernel
theorem d1_9 : decode method_3_code 9 = .ok (.iconst 1, 1) := by decide +kernel
theorem d1_10 : decode method_3_code 10 = .ok (.if_icmp .ne 11, 3) := by decide +kernel
theorem d1_13 : decode method_3_code 13 = .ok (.iconst 1, 1) := by decide +kernel
theorem d1_14 : decode method_3_code 14 = .ok (.newarray .long, 2) := by decide +kernel
theorem d1_16 : decode method_3_code 16 = .ok (.dup, 1) := by decide +kernel
theorem d1_17 : decode method_3_code 17 = .ok (.iconst 0, 1) := by decide +kernel
theorem d1_18 : decode method_3_code 18 = .ok (.lload_n 1, 1) := by decide +kernel
theorem d1_19 : decode method_3_code 19 = .ok (.lastore, 1) := by decide +kernel
theorem d1_20 : decode method_3_code 20 = .ok (.areturn, 1) := by decide +kernel
def RM1_1 : Room := { frames := 0, cells := 1, slots := 1, locals := 0 }
def Q1_1 (Z : State) (q2 : Int64) (q3 : Int64) (h0 : Heap) (n0 : Nat) (v : Option Value) (h : Heap) (L : List Loc) : Prop := ∃ (b : Addr) (kb : ClassId), v = some (.ref b) ∧ Fr n0 L ∧ Keep h0 h [] ∧ (h0.size ≤ b) ∧ (Arv Z h b kb .long (1 : Int32) [(.long q2)] (.long (0 : Int64)))
set_option maxRecDepth 65536 in
set_option maxHeartbeats 40000000 in
theorem rm1_1 (l : Launch) (Z : State) (a0 : Array Value) (hw : ∀ d ∈ tables_1, d.before a0 Z = true) (ws : List Jvm.Cond) (q2 : Int64) (q3 : Int64) (h0 : Heap) (n0 : Nat) (Z0 : n0 ≤ h0.size)  :
    MetFree l (⟨"com/example/hike/hike/HoldersMergePinLaw", "make", "(IJJ)[J"⟩ : MethodName) (head1 (Jvm.Cond.code (⟨"com/example/hike/hike/HoldersMergePinLaw", "make", "(IJJ)[J"⟩ : MethodName) method_3_code 5 (some (.array .long)) :: ws) RM1_1) (fun a U => a = #[(.int (1 : Int32)), (.long q2), (.long q3)] ∧ Z.Warmed39 U.vm ∧ U.heap = h0) (fun _ _ _ _ _ => True) (fun _ U o U' => ∃ v L, o = .returned v ∧ Q1_1 Z q2 q3 h0 n0 v U'.heap L ∧ FrameEnd U o U' L RM1_1.cells RM1_1.slots) := by
  refine met_of (Q := fun v h L => Q1_1 Z q2 q3 h0 n0 v h L) (plainFor_of_name pn_0) (fun m => by first | (simp [entryFrame, mkF, argsToLocals, Value.category]; done) | rfl) (Ls := #[.val (.int (1 : Int32)), .val (.long q2), .second, .val (.long q3), .second]) ?_
  intro p e s m below meth c T0 QQ hx hZ hby hml hown hnm hret hlk X0 e0 hQ
  have hml : c.maxLocals = 5 := hml
  have hown : s.vm.findClass "com/example/hike/hike/HoldersMergePinLaw" = some m.cls := hown
  have hnm : meth.name = "make" := hnm
  have hret : meth.sig.returnType = some (.array .long) := hret
  have N0 := Fr.nil n0
  have K0 : Keep h0 h0 [] := Keep.refl h0 _
  show GoW p e below QQ (T0.setTop (mkF m 0 #[.val (.int (1 : Int32)), .val (.long q2), .second, .val (.long q3), .second] []))
  refine GoW.st (fun t k => XS.iloadN X0.here hx rfl (hb hby d1_0) rfl k) ?_
  show GoW p e below QQ (T0.setTop (mkF m 1 #[.val (.int (1 : Int32)), .val (.long q2), .second, .val (.long q3), .second] [(.int (1 : Int32))]))
  have hc1 : ¬ ((1 : Int32) = (0 : Int32)) := by decide
  refine GoW.st (fun t k => XS.ifYes X0.here hx rfl (pc0 := 1) (pc' := 8) rfl (hb hby d1_1) rfl ((if0 _ _).trans (feq hc1).2) (by decide) (by decide) (XS.iloadN X0.here hx rfl (hb hby d1_8) rfl (XS.iconst X0.here hx rfl (hb hby d1_9) k))) ?_
  show GoW p e below QQ (T0.setTop (mkF m 10 #[.val (.int (1 : Int32)), .val (.long q2), .second, .val (.long q3), .second] [(.int (1 : Int32)), (.int (1 : Int32))]))
  have hc10 : (1 : Int32) = (1 : Int32) := by decide
  refine GoW.st (fun t k => XS.icmpNo X0.here hx rfl (hb hby d1_10) rfl (teq hc10).2 (XS.iconst X0.here hx rfl (hb hby d1_13) k)) ?_
  show GoW p e below QQ (T0.setTop (mkF m 14 #[.val (.int (1 : Int32)), .val (.long q2), .second, .val (.long q3), .second] [(.int (1 : Int32))]))
  obtain ⟨T1, h1, k1, X1, e1, E1, A1, st1⟩ := newP X0 hx hZ (hw _ (List.mem_of_getElem? (i := 4) rfl)) e0 (g := (mkF m 14 #[.val (.int (1 : Int32)), .val (.long q2), .second, .val (.long q3), .second] [(.int (1 : Int32))])) rfl (hb hby d1_14) rfl (by decide) (cap := 1) (by decide) (by decide) (by decide) (by decide)
  obtain ⟨b1, g1⟩ : ∃ z, z = h0.size := ⟨_, rfl⟩
  rw [← g1] at A1 st1
  refine GoW.st st1 ?_
  have gg1 : n0 ≤ b1 := Nat.le_trans (Nat.le_trans Z0 K0.1) (Nat.le_of_eq g1.symm)
  have sz1 : h0.size ≤ b1 := Nat.le_trans K0.1 (Nat.le_of_eq g1.symm)
  have K1 : Keep h0 h1 [] := K0.ext E1
  have V1 : Arv Z h1 b1 k1 .long (1 : Int32) [(.long (0 : Int64))] (.long (0 : Int64)) := (Arv.new A1 (by decide)).pad (pad_rep [] (.long (0 : Int64)) 1)
  show GoW p e below QQ (T1.setTop (mkF m 16 #[.val (.int (1 : Int32)), .val (.long q2), .second, .val (.long q3), .second] [(.ref b1)]))
  refine GoW.st (fun t k => XS.dup X1.here hx rfl (hb hby d1_16) rfl rfl (XS.iconst X1.here hx rfl (hb hby d1_17) (XS.lloadN X1.here hx rfl (hb hby d1_18) rfl k))) ?_
  show GoW p e below QQ (T1.setTop (mkF m 19 #[.val (.int (1 : Int32)), .val (.long q2), .second, .val (.long q3), .second] [(.long q2), (.int (0 : Int32)), (.ref b1), (.ref b1)]))
  obtain ⟨T3, h3, X3, e3, W3, V3, st3⟩ := stVJ X1 hx hZ e1 V1 ⟨by decide, by decide⟩ 0 rfl (Nat.le_of_ble_eq_true rfl) (g := (mkF m 19 #[.val (.int (1 : Int32)), .val (.long q2), .second, .val (.long q3), .second] [(.long q2), (.int (0 : Int32)), (.ref b1), (.ref b1)])) rfl rfl (hb hby d1_19)
  refine GoW.st st3 ?_
  have f4_V_b1 : Arv Z h3 b1 k1 .long (1 : Int32) [(.long q2)] (.long (0 : Int64)) := V3
  have K3 : Keep h0 h3 [] := K1.wr W3 (Or.inr sz1)
  have N3 := Fr.snoc X3 N0 gg1
  show GoW p e below QQ (T3.setTop (mkF m 20 #[.val (.int (1 : Int32)), .val (.long q2), .second, .val (.long q3), .second] [(.ref b1)]))
  exact GoW.fin X3 (some (.ref b1)) (fun q => by rw [hret] at q; cases q) hlk hQ e3 ⟨b1, k1, rfl, N3, K3, sz1, f4_V_b1⟩ (by decide) (by decide) (fun fs hr => retOut X3 hx hret rfl (Or.inr (Or.inr (Or.inr (Or.inr ⟨rfl, rfl, rfl⟩)))) (hb hby d1_20) hr)
theorem d1_21 : decode method_3_code 21 = .ok (.iconst 2, 1) := by decide +kernel
theorem d1_22 : decode method_3_code 22 = .ok (.newarray .long, 2) := by decide +kernel
theorem d1_24 : decode method_3_code 24 = .ok (.dup, 1) := by decide +kernel
theorem d1_25 : decode method_3_code 25 = .ok (.iconst 0, 1) := by decide +kernel
theorem d1_26 : decode method_3_code 26 = .ok (.lload_n 1, 1) := by decide +kernel
theorem d1_27 : decode method_3_code 27 = .ok (.lload_n 3, 1) := by decide +kernel
theorem d1_28 : decode method_3_code 28 = .ok (.invokestatic 23, 3) := by decide +kernel
theorem pd_0 : parseMethodDescriptor "(JJ)J" = some ⟨[.long, .long], some .long⟩ := by decide +kernel
theorem d1_31 : decode method_3_code 31 = .ok (.lastore, 1) := by decide +kernel
theorem d1_32 : decode method_3_code 32 = .ok (.dup, 1) := by decide +kernel
theorem d1_33 : decode method_3_code 33 = .ok (.iconst 1, 1) := by decide +kernel
theorem d1_34 : decode method_3_code 34 = .ok (.lload_n 1, 1) := by decide +kernel
theorem d1_35 : decode method_3_code 35 = .ok (.lload_n 3, 1) := by decide +kernel
theorem d1_36 : decode method_3_code 36 = .ok (.invokestatic 29, 3) := by decide +kernel
theorem d1_39 : decode method_3_code 39 = .ok (.lastore, 1) := by decide +kernel
theorem d1_40 : decode method_3_code 40 = .ok (.areturn, 1) := by decide +kernel
def RM1_2 : Room := { frames := 1, cells := 1, slots := 2, locals := 18 }
def Q1_2 (Z : State) (q2 : Int64) (q3 : Int64) (h0 : Heap) (n0 : Nat) (v : Option Value) (h : Heap) (L : List Loc) : Prop := ∃ (b : Addr) (kb : ClassId), v = some (.ref b) ∧ Fr n0 L ∧ Keep h0 h [] ∧ (h0.size ≤ b) ∧ (Arv Z h b kb .long (2 : Int32) [(.long (own_minL q2 q3)), (.long (own_maxL q2 q3))] (.long (0 : Int64)))
set_option maxRecDepth 65536 in
set_option maxHeartbeats 40000000 in
theorem rm1_2 (l : Launch) (Z : State) (a0 : Array Value) (hw : ∀ d ∈ tables_1, d.before a0 Z = true) (ws : List Jvm.Cond) (q2 : Int64) (q3 : Int64) (h0 : Heap) (n0 : Nat) (Z0 : n0 ≤ h0.size)  :
    MetFree l (⟨"com/example/hike/hike/HoldersMergePinLaw", "make", "(IJJ)[J"⟩ : MethodName) (head1 (Jvm.Cond.code (⟨"com/example/hike/hike/HoldersMergePinLaw", "make", "(IJJ)[J"⟩ : MethodName) method_3_code 5 (some (.array .long)) :: ws) RM1_2) (fun a U => a = #[(.int (2 : Int32)), (.long q2), (.long q3)] ∧ Z.Warmed39 U.vm ∧ U.heap = h0) (fun _ _ _ _ _ => True) (fun _ U o U' => ∃ v L, o = .returned v ∧ Q1_2 Z q2 q3 h0 n0 v U'.heap L ∧ FrameEnd U o U' L RM1_2.cells RM1_2.slots) := by
  refine met_of (Q := fun v h L => Q1_2 Z q2 q3 h0 n0 v h L) (plainFor_of_name pn_0) (fun m => by first | (simp [entryFrame, mkF, argsToLocals, Value.category]; done) | rfl) (Ls := #[.val (.int (2 : Int32)), .val (.long q2), .second, .val (.long q3), .second]) ?_
  intro p e s m below meth c T0 QQ hx hZ hby hml hown hnm hret hlk X0 e0 hQ
  have hml : c.maxLocals = 5 := hml
  have hown : s.vm.findClass "com/example/hike/hike/HoldersMergePinLaw" = some m.cls := hown
  have hnm : meth.name = "make" := hnm
  have hret : meth.sig.returnType = some (.array .long) := hret
  have N0 := Fr.nil n0
  have K0 : Keep h0 h0 [] := Keep.refl h0 _
  show GoW p e below QQ (T0.setTop (mkF m 0 #[.val (.int (2 : Int32)), .val (.long q2), .second, .val (.long q3), .second] []))
  refine GoW.st (fun t k => XS.iloadN X0.here hx rfl (hb hby d1_0) rfl k) ?_
  show GoW p e below QQ (T0.setTop (mkF m 1 #[.val (.int (2 : Int32)), .val (.long q2), .second, .val (.long q3), .second] [(.int (2 : Int32))]))
  have hc1 : ¬ ((2 : Int32) = (0 : Int32)) := by decide
  refine GoW.st (fun t k => XS.ifYes X0.here hx rfl (pc0 := 1) (pc' := 8) rfl (hb hby d1_1) rfl ((if0 _ _).trans (feq hc1).2) (by decide) (by decide) (XS.iloadN X0.here hx rfl (hb hby d1_8) rfl (XS.iconst X0.here hx rfl (hb hby d1_9) k))) ?_
  show GoW p e below QQ (T0.setTop (mkF m 10 #[.val (.int (2 : Int32)), .val (.long q2), .second, .val (.long q3), .second] [(.int (1 : Int32)), (.int (2 : Int32))]))
  have hc10 : ¬ ((2 : Int32) = (1 : Int32)) := by decide
  refine GoW.st (fun t k => XS.icmpYes X0.here hx rfl (pc0 := 10) (pc' := 21) rfl (hb hby d1_10) rfl (feq hc10).2 (by decide) (by decide) (XS.iconst X0.here hx rfl (hb hby d1_21) k)) ?_
  show GoW p e below QQ (T0.setTop (mkF m 22 #[.val (.int (2 : Int32)), .val (.long q2), .second, .val (.long q3), .second] [(.int (2 : Int32))]))
  obtain ⟨T1, h1, k1, X1, e1, E1, A1, st1⟩ := newP X0 hx hZ (hw _ (List.mem_of_getElem? (i := 4) rfl)) e0 (g := (mkF m 22 #[.val (.int (2 : Int32)), .val (.long q2), .second, .val (.long q3), .second] [(.int (2 : Int32))])) rfl (hb hby d1_22) rfl (by decide) (cap := 2) (by decide) (by decide) (by decide) (by decide)
  obtain ⟨b1, g1⟩ : ∃ z, z = h0.size := ⟨_, rfl⟩
  rw [← g1] at A1 st1
  refine GoW.st st1 ?_
  have gg1 : n0 ≤ b1 := Nat.le_trans (Nat.le_trans Z0 K0.1) (Nat.le_of_eq g1.symm)
  have sz1 : h0.size ≤ b1 := Nat.le_trans K0.1 (Nat.le_of_eq g1.symm)
  have K1 : Keep h0 h1 [] := K0.ext E1
  have V1 : Arv Z h1 b1 k1 .long (2 : Int32) [(.long (0 : Int64)), (.long (0 : Int64))] (.long (0 : Int64)) := (Arv.new A1 (by decide)).pad (pad_rep [] (.long (0 : Int64)) 2)
  show GoW p e below QQ (T1.setTop (mkF m 24 #[.val (.int (2 : Int32)), .val (.long q2), .second, .val (.long q3), .second] [(.ref b1)]))
  refine GoW.st (fun t k => XS.dup X1.here hx rfl (hb hby d1_24) rfl rfl (XS.iconst X1.here hx rfl (hb hby d1_25) (XS.lloadN X1.here hx rfl (hb hby d1_26) rfl (XS.lloadN X1.here hx rfl (hb hby d1_27) rfl k)))) ?_
  show GoW p e below QQ (T1.setTop (mkF m 28 #[.val (.int (2 : Int32)), .val (.long q2), .second, .val (.long q3), .second] [(.long q3), (.long q2), (.int (0 : Int32)), (.ref b1), (.ref b1)]))
  obtain ⟨_, _, ⟨T3, zL3, zk3, zn3⟩, -, X3, ⟨Lc3, hQ3, zl3, zy3, zz3⟩, st3⟩ := Jvm.LawKit.callS X1 hx (y := (⟨"java/lang/Math", "min", "(JJ)J"⟩ : MethodName)) hown (mvT hZ (hw _ (List.mem_of_getElem? (i := 12) rfl))) (mvT hZ (hw _ (List.mem_of_getElem? (i := 13) rfl))) (mvT hZ (hw _ (List.mem_of_getElem? (i := 14) rfl))) (mvT hZ (hw _ (List.mem_of_getElem? (i := 15) rfl))) (by decide) (backOf (W := 3) (rm4 l Z a0 hw [] q2 q3 h1 n0 (Nat.le_trans Z0 K1.1) ) hZ (hw _ (List.mem_of_getElem? (i := 15) rfl)) (hw _ (List.mem_of_getElem? (i := 14) rfl)) (by decide) (by decide)) (g := (mkF m 28 #[.val (.int (2 : Int32)), .val (.long q2), .second, .val (.long q3), .second] [(.long q3), (.long q2), (.int (0 : Int32)), (.ref b1), (.ref b1)])) rfl (by rw [hml]; rfl) (argsL := [(.long q2), (.long q3)]) (rest := [(.int (0 : Int32)), (.ref b1), (.ref b1)]) (lenOf pd_0 rfl) rfl (by show 2 * 0 + _ ≤ _; exact Nat.le_of_eq rfl) (hb hby d1_28) (fun _ _ => ⟨rfl, e1, (by decide : 1 + 0 ≤ _), (by decide : 2 + 0 ≤ _)⟩)
  dsimp only [Pt.U, Pt.locs, Pt.cells, Pt.slots] at X3 zl3 zy3 zz3 st3 hQ3
  subst zl3 zy3 zz3
  obtain ⟨rfl, Nq3, hh3⟩ := hQ3
  have N3 := Fr.app N0 Nq3
  refine GoW.st st3 ?_
  show GoW p e below QQ (T3.setTop (mkF m 31 #[.val (.int (2 : Int32)), .val (.long q2), .second, .val (.long q3), .second] [(.long (own_minL q2 q3)), (.int (0 : Int32)), (.ref b1), (.ref b1)]))
  obtain ⟨T4, h4, X4, e4, W4, V4, st4⟩ := stVJ X3 hx hZ hh3 V1 ⟨by decide, by decide⟩ 0 rfl (Nat.le_of_ble_eq_true rfl) (g := (mkF m 31 #[.val (.int (2 : Int32)), .val (.long q2), .second, .val (.long q3), .second] [(.long (own_minL q2 q3)), (.int (0 : Int32)), (.ref b1), (.ref b1)])) rfl rfl (hb hby d1_31)
  refine GoW.st st4 ?_
  have f5_V_b1 : Arv Z h4 b1 k1 .long (2 : Int32) [(.long (own_minL q2 q3)), (.long (0 : Int64))] (.long (0 : Int64)) := V4
  have K4 : Keep h0 h4 [] := K1.wr W4 (Or.inr sz1)
  have N4 := Fr.snoc X4 N3 gg1
  show GoW p e below QQ (T4.setTop (mkF m 32 #[.val (.int (2 : Int32)), .val (.long q2), .second, .val (.long q3), .second] [(.ref b1)]))
  refine GoW.st (fun t k => XS.dup X4.here hx rfl (hb hby d1_32) rfl rfl (XS.iconst X4.here hx rfl (hb hby d1_33) (XS.lloadN X4.here hx rfl (hb hby d1_34) rfl (XS.lloadN X4.here hx rfl (hb hby d1_35) rfl k)))) ?_
  show GoW p e below QQ (T4.setTop (mkF m 36 #[.val (.int (2 : Int32)), .val (.long q2), .second, .val (.long q3), .second] [(.long q3), (.long q2), (.int (1 : Int32)), (.ref b1), (.ref b1)]))
  obtain ⟨_, _, ⟨T6, zL6, zk6, zn6⟩, -, X6, ⟨Lc6, hQ6, zl6, zy6, zz6⟩, st6⟩ := Jvm.LawKit.callS X4 hx (y := (⟨"java/lang/Math", "max", "(JJ)J"⟩ : MethodName)) hown (mvT hZ (hw _ (List.mem_of_getElem? (i := 16) rfl))) (mvT hZ (hw _ (List.mem_of_getElem? (i := 17) rfl))) (mvT hZ (hw _ (List.mem_of_getElem? (i := 14) rfl))) (mvT hZ (hw _ (List.mem_of_getElem? (i := 18) rfl))) (by decide) (backOf (W := 3) (rm5 l Z a0 hw [] q2 q3 h4 n0 (Nat.le_trans Z0 K4.1) ) hZ (hw _ (List.mem_of_getElem? (i := 18) rfl)) (hw _ (List.mem_of_getElem? (i := 14) rfl)) (by decide) (by decide)) (g := (mkF m 36 #[.val (.int (2 : Int32)), .val (.long q2), .second, .val (.long q3), .second] [(.long q3), (.long q2), (.int (1 : Int32)), (.ref b1), (.ref b1)])) rfl (by rw [hml]; rfl) (argsL := [(.long q2), (.long q3)]) (rest := [(.int (1 : Int32)), (.ref b1), (.ref b1)]) (lenOf pd_0 rfl) rfl (by show 2 * 0 + _ ≤ _; exact Nat.le_of_eq rfl) (hb hby d1_36) (fun _ _ => ⟨rfl, e4, (by decide : 1 + 0 ≤ _), (by decide : 2 + 0 ≤ _)⟩)
  dsimp only [Pt.U, Pt.locs, Pt.cells, Pt.slots] at X6 zl6 zy6 zz6 st6 hQ6
  subst zl6 zy6 zz6
  obtain ⟨rfl, Nq6, hh6⟩ := hQ6
  have N6 := Fr.app N4 Nq6
  refine GoW.st st6 ?_
  show GoW p e below QQ (T6.setTop (mkF m 39 #[.val (.int (2 : Int32)), .val (.long q2), .second, .val (.long q3), .second] [(.long (own_maxL q2 q3)), (.int (1 : Int32)), (.ref b1), (.ref b1)]))
  obtain ⟨T7, h7, X7, e7, W7, V7, st7⟩ := stVJ X6 hx hZ hh6 f5_V_b1 ⟨by decide, by decide⟩ 1 rfl (Nat.le_of_ble_eq_true rfl) (g := (mkF m 39 #[.val (.int (2 : Int32)), .val (.long q2), .second, .val (.long q3), .second] [(.long (own_maxL q2 q3)), (.int (1 : Int32)), (.ref b1), (.ref b1)])) rfl rfl (hb hby d1_39)
  refine GoW.st st7 ?_
  have f8_V_b1 : Arv Z h7 b1 k1 .long (2 : Int32) [(.long (own_minL q2 q3)), (.long (own_maxL q2 q3))] (.long (0 : Int64)) := V7
  have K7 : Keep h0 h7 [] := K4.wr W7 (Or.inr sz1)
  have N7 := Fr.snoc X7 N6 gg1
  show GoW p e below QQ (T7.setTop (mkF m 40 #[.val (.int (2 : Int32)), .val (.long q2), .second, .val (.long q3), .second] [(.ref b1)]))
  exact GoW.fin X7 (some (.ref b1)) (fun q => by rw [hret] at q; cases q) hlk hQ e7 ⟨b1, k1, rfl, N7, K7, sz1, f8_V_b1⟩ (by decide) (by decide) (fun fs hr => retOut X7 hx hret rfl (Or.inr (Or.inr (Or.inr (Or.inr ⟨rfl, rfl, rfl⟩)))) (hb hby d1_40) hr)
theorem pn_1 : plainName "com/example/hike/hike/Holders" = true := by first | (simp [plainName, overriddenIn]; done) | decide +kernel
theorem d2_0 : decode prog_63_method_6_code 0 = .ok (.aload_n 0, 1) := by decide +kernel
theorem d2_1 : decode prog_63_method_6_code 1 = .ok (.arraylength, 1) := by decide +kernel
theorem d2_2 : decode prog_63_method_6_code 2 = .ok (.aload_n 1, 1) := by decide +kernel
theorem d2_3 : decode prog_63_method_6_code 3 = .ok (.arraylength, 1) := by decide +kernel
theorem d2_4 : decode prog_63_method_6_code 4 = .ok (.iadd, 1) := by decide +kernel
theorem d2_5 : decode prog_63_method_6_code 5 = .ok (.newarray .long, 2) := by decide +kernel
theorem d2_7 : decode prog_63_method_6_code 7 = .ok (.astore_n 2, 1) := by decide +kernel
theorem d2_8 : decode prog_63_method_6_code 8 = .ok (.iconst 0, 1) := by decide +kernel
theorem d2_9 : decode prog_63_method_6_code 9 = .ok (.istore_n 3, 1) := by decide +kernel
theorem d2_10 : decode prog_63_method_6_code 10 = .ok (.iconst 0, 1) := by decide +kernel
theorem d2_11 : decode prog_63_method_6_code 11 = .ok (.istore 4, 2) := by decide +kernel
theorem d2_13 : decode prog_63_method_6_code 13 = .ok (.iconst 0, 1) := by decide +kernel
theorem d2_14 : decode prog_63_method_6_code 14 = .ok (.istore 5, 2) := by decide +kernel
theorem d2_16 : decode prog_63_method_6_code 16 = .ok (.iload 5, 2) := by decide +kernel
theorem d2_18 : decode prog_63_method_6_code 18 = .ok (.aload_n 2, 1) := by decide +kernel
theorem d2_19 : decode prog_63_method_6_code 19 = .ok (.arraylength, 1) := by decide +kernel
theorem d2_20 : decode prog_63_method_6_code 20 = .ok (.if_icmp .ge 65, 3) := by decide +kernel
theorem d2_85 : decode prog_63_method_6_code 85 = .ok (.aload_n 2, 1) := by decide +kernel
theorem d2_86 : decode prog_63_method_6_code 86 = .ok (.areturn, 1) := by decide +kernel
def RM2_00 : Room := { frames := 0, cells := 1, slots := 0, locals := 0 }
def Q2_00 (Z : State) (a1 : Addr) (a2 : Addr) (ka : ClassId) (kc : ClassId) (h0 : Heap) (n0 : Nat) (v : Option Value) (h : Heap) (L : List Loc) : Prop := ∃ (b : Addr) (kb : ClassId), v = some (.ref b) ∧ Fr n0 L ∧ Keep h0 h [] ∧ (h0.size ≤ b) ∧ (Arv Z h b kb .long (0 : Int32) [] (.long (0 : Int64)))
set_option maxRecDepth 65536 in
set_option maxHeartbeats 40000000 in
theorem rm2_00 (l : Launch) (Z : State) (a0 : Array Value) (hw : ∀ d ∈ tables_1, d.before a0 Z = true) (ws : List Jvm.Cond) (a1 : Addr) (a2 : Addr) (ka : ClassId) (kc : ClassId) (h0 : Heap) (n0 : Nat) (Z0 : n0 ≤ h0.size) (pre_V_a1 : Arv Z h0 a1 ka .long (0 : Int32) [] (.long (0 : Int64))) (pre_V_a2 : Arv Z h0 a2 kc .long (0 : Int32) [] (.long (0 : Int64))) :
    MetFree l (⟨"com/example/hike/hike/Holders", "merge", "([J[J)[J"⟩ : MethodName) (head1 (Jvm.Cond.code (⟨"com/example/hike/hike/Holders", "merge", "([J[J)[J"⟩ : MethodName) prog_63_method_6_code 7 (some (.array .long)) :: ws) RM2_00) (fun a U => a = #[(.ref a1), (.ref a2)] ∧ Z.Warmed39 U.vm ∧ U.heap = h0) (fun _ _ _ _ _ => True) (fun _ U o U' => ∃ v L, o = .returned v ∧ Q2_00 Z a1 a2 ka kc h0 n0 v U'.heap L ∧ FrameEnd U o U' L RM2_00.cells RM2_00.slots) := by
  refine met_of (Q := fun v h L => Q2_00 Z a1 a2 ka kc h0 n0 v h L) (plainFor_of_name pn_1) (fun m => by first | (simp [entryFrame, mkF, argsToLocals, Value.category]; done) | rfl) (Ls := #[.val (.ref a1), .val (.ref a2), .unset, .unset, .unset, .unset, .unset]) ?_
  intro p e s m below meth c T0 QQ hx hZ hby hml hown hnm hret hlk X0 e0 hQ
  have hml : c.maxLocals = 7 := hml
  have hown : s.vm.findClass "com/example/hike/hike/Holders" = some m.cls := hown
  have hnm : meth.name = "merge" := hnm
  have hret : meth.sig.returnType = some (.array .long) := hret
  have N0 := Fr.nil n0
  have K0 : Keep h0 h0 [] := Keep.refl h0 _
  show GoW p e below QQ (T0.setTop (mkF m 0 #[.val (.ref a1), .val (.ref a2), .unset, .unset, .unset, .unset, .unset] []))
  refine GoW.st (fun t k => XS.aloadN X0.here hx rfl (hb hby d2_0) rfl rfl (lnV X0 hx hZ e0 pre_V_a1 (g := (mkF m 1 #[.val (.ref a1), .val (.ref a2), .unset, .unset, .unset, .unset, .unset] [(.ref a1)])) rfl rfl (hb hby d2_1) t (XS.aloadN X0.here hx rfl (hb hby d2_2) rfl rfl (lnV X0 hx hZ e0 pre_V_a2 (g := (mkF m 3 #[.val (.ref a1), .val (.ref a2), .unset, .unset, .unset, .unset, .unset] [(.ref a2), (.int (0 : Int32))])) rfl rfl (hb hby d2_3) t (XS.iadd X0.here hx rfl (hb hby d2_4) rfl k))))) ?_
  show GoW p e below QQ (T0.setTop (mkF m 5 #[.val (.ref a1), .val (.ref a2), .unset, .unset, .unset, .unset, .unset] [(.int (0 : Int32))]))
  obtain ⟨T1, h1, k1, X1, e1, E1, A1, st1⟩ := newP X0 hx hZ (hw _ (List.mem_of_getElem? (i := 4) rfl)) e0 (g := (mkF m 5 #[.val (.ref a1), .val (.ref a2), .unset, .unset, .unset, .unset, .unset] [(.int (0 : Int32))])) rfl (hb hby d2_5) rfl (by decide) (cap := 0) (by decide) (by decide) (by decide) (by decide)
  obtain ⟨b1, g1⟩ : ∃ z, z = h0.size := ⟨_, rfl⟩
  rw [← g1] at A1 st1
  refine GoW.st st1 ?_
  have gg1 : n0 ≤ b1 := Nat.le_trans (Nat.le_trans Z0 K0.1) (Nat.le_of_eq g1.symm)
  have sz1 : h0.size ≤ b1 := Nat.le_trans K0.1 (Nat.le_of_eq g1.symm)
  have ne1_a1 : a1 ≠ b1 := Nat.ne_of_lt (Nat.lt_of_lt_of_le pre_V_a1.lt (Nat.le_of_eq g1.symm))
  have ne1_a2 : a2 ≠ b1 := Nat.ne_of_lt (Nat.lt_of_lt_of_le pre_V_a2.lt (Nat.le_of_eq g1.symm))
  have f2_V_a1 : Arv Z h1 a1 ka .long (0 : Int32) [] (.long (0 : Int64)) := pre_V_a1.ext E1
  have f2_V_a2 : Arv Z h1 a2 kc .long (0 : Int32) [] (.long (0 : Int64)) := pre_V_a2.ext E1
  have K1 : Keep h0 h1 [] := K0.ext E1
  have V1 : Arv Z h1 b1 k1 .long (0 : Int32) [] (.long (0 : Int64)) := (Arv.new A1 (by decide))
  show GoW p e below QQ (T1.setTop (mkF m 7 #[.val (.ref a1), .val (.ref a2), .unset, .unset, .unset, .unset, .unset] [(.ref b1)]))
  refine GoW.st (fun t k => XS.astoreN X1.here hx rfl (hb hby d2_7) rfl rfl (l' := #[.val (.ref a1), .val (.ref a2), .val (.ref b1), .unset, .unset, .unset, .unset]) rfl (XS.iconst X1.here hx rfl (hb hby d2_8) (XS.istoreN X1.here hx rfl (hb hby d2_9) rfl (l' := #[.val (.ref a1), .val (.ref a2), .val (.ref b1), .val (.int (0 : Int32)), .unset, .unset, .unset]) rfl (XS.iconst X1.here hx rfl (hb hby d2_10) (XS.istore X1.here hx rfl (hb hby d2_11) rfl (l' := #[.val (.ref a1), .val (.ref a2), .val (.ref b1), .val (.int (0 : Int32)), .val (.int (0 : Int32)), .unset, .unset]) rfl (XS.iconst X1.here hx rfl (hb hby d2_13) k)))))) ?_
  show GoW p e below QQ (T1.setTop (mkF m 14 #[.val (.ref a1), .val (.ref a2), .val (.ref b1), .val (.int (0 : Int32)), .val (.int (0 : Int32)), .unset, .unset] [(.int (0 : Int32))]))
  refine GoW.st (fun t k => XS.istore X1.here hx rfl (hb hby d2_14) rfl (l' := #[.val (.ref a1), .val (.ref a2), .val (.ref b1), .val (.int (0 : Int32)), .val (.int (0 : Int32)), .val (.int (0 : Int32)), .unset]) rfl (XS.iload X1.here hx rfl (hb hby d2_16) rfl (XS.aloadN X1.here hx rfl (hb hby d2_18) rfl rfl (lnV X1 hx hZ e1 V1 (g := (mkF m 19 #[.val (.ref a1), .val (.ref a2), .val (.ref b1), .val (.int (0 : Int32)), .val (.int (0 : Int32)), .val (.int (0 : Int32)), .unset] [(.ref b1), (.int (0 : Int32))])) rfl rfl (hb hby d2_19) t k)))) ?_
  show GoW p e below QQ (T1.setTop (mkF m 20 #[.val (.ref a1), .val (.ref a2), .val (.ref b1), .val (.int (0 : Int32)), .val (.int (0 : Int32)), .val (.int (0 : Int32)), .unset] [(.int (0 : Int32)), (.int (0 : Int32))]))
  have hc20 : ¬ ((0 : Int32) < (0 : Int32)) := by decide
  refine GoW.st (fun t k => XS.icmpYes X1.here hx rfl (pc0 := 20) (pc' := 85) rfl (hb hby d2_20) rfl (flt hc20).2.1 (by decide) (by decide) (XS.aloadN X1.here hx rfl (hb hby d2_85) rfl rfl k)) ?_
  show GoW p e below QQ (T1.setTop (mkF m 86 #[.val (.ref a1), .val (.ref a2), .val (.ref b1), .val (.int (0 : Int32)), .val (.int (0 : Int32)), .val (.int (0 : Int32)), .unset] [(.ref b1)]))
  exact GoW.fin X1 (some (.ref b1)) (fun q => by rw [hret] at q; cases q) hlk hQ e1 ⟨b1, k1, rfl, N0, K1, sz1, V1⟩ (by decide) (by decide) (fun fs hr => retOut X1 hx hret rfl (Or.inr (Or.inr (Or.inr (Or.inr ⟨rfl, rfl, rfl⟩)))) (hb hby d2_86) hr)
theorem d2_23 : decode prog_63_method_6_code 23 = .ok (.iload 4, 2) := by decide +kernel
theorem d2_25 : decode prog_63_method_6_code 25 = .ok (.aload_n 1, 1) := by decide +kernel
theorem d2_26 : decode prog_63_method_6_code 26 = .ok (.arraylength, 1) := by decide +kernel
theorem d2_27 : decode prog_63_method_6_code 27 = .ok (.if_icmp .eq 20, 3) := by decide +kernel
theorem d2_30 : decode prog_63_method_6_code 30 = .ok (.iload_n 3, 1) := by decide +kernel
theorem d2_31 : decode prog_63_method_6_code 31 = .ok (.aload_n 0, 1) := by decide +kernel
theorem d2_32 : decode prog_63_method_6_code 32 = .ok (.arraylength, 1) := by decide +kernel
theorem d2_33 : decode prog_63_method_6_code 33 = .ok (.if_icmp .ge 18, 3) := by decide +kernel
theorem d2_51 : decode prog_63_method_6_code 51 = .ok (.iconst 0, 1) := by decide +kernel
theorem d2_52 : decode prog_63_method_6_code 52 = .ok (.istore 6, 2) := by decide +kernel
theorem d2_54 : decode prog_63_method_6_code 54 = .ok (.aload_n 2, 1) := by decide +kernel
theorem d2_55 : decode prog_63_method_6_code 55 = .ok (.iload 5, 2) := by decide +kernel
theorem d2_57 : decode prog_63_method_6_code 57 = .ok (.iload 6, 2) := by decide +kernel
theorem d2_59 : decode prog_63_method_6_code 59 = .ok (.ifCond .eq 12, 3) := by decide +kernel
theorem d2_71 : decode prog_63_method_6_code 71 = .ok (.aload_n 1, 1) := by decide +kernel
theorem d2_72 : decode prog_63_method_6_code 72 = .ok (.iload 4, 2) := by decide +kernel
theorem d2_74 : decode prog_63_method_6_code 74 = .ok (.iinc 4 1, 3) := by decide +kernel
theorem d2_77 : decode prog_63_method_6_code 77 = .ok (.laload, 1) := by decide +kernel
theorem d2_78 : decode prog_63_method_6_code 78 = .ok (.lastore, 1) := by decide +kernel
theorem d2_79 : decode prog_63_method_6_code 79 = .ok (.iinc 5 1, 3) := by decide +kernel
theorem d2_82 : decode prog_63_method_6_code 82 = .ok (.goto (-66), 3) := by decide +kernel
def RM2_01 : Room := { frames := 0, cells := 1, slots := 1, locals := 0 }
def Q2_01 (Z : State) (a1 : Addr) (a2 : Addr) (ka : ClassId) (kc : ClassId) (y0 : Int64) (h0 : Heap) (n0 : Nat) (v : Option Value) (h : Heap) (L : List Loc) : Prop := ∃ (b : Addr) (kb : ClassId) (w0 : Int64), v = some (.ref b) ∧ Fr n0 L ∧ Keep h0 h [] ∧ (h0.size ≤ b) ∧ (Arv Z h b kb .long (1 : Int32) [(.long w0)] (.long (0 : Int64))) ∧ (w0.toInt = y0.toInt)
set_option maxRecDepth 65536 in
set_option maxHeartbeats 40000000 in
theorem rm2_01 (l : Launch) (Z : State) (a0 : Array Value) (hw : ∀ d ∈ tables_1, d.before a0 Z = true) (ws : List Jvm.Cond) (a1 : Addr) (a2 : Addr) (ka : ClassId) (kc : ClassId) (y0 : Int64) (h0 : Heap) (n0 : Nat) (Z0 : n0 ≤ h0.size) (pre_V_a1 : Arv Z h0 a1 ka .long (0 : Int32) [] (.long (0 : Int64))) (pre_V_a2 : Arv Z h0 a2 kc .long (1 : Int32) [(.long y0)] (.long (0 : Int64))) :
    MetFree l (⟨"com/example/hike/hike/Holders", "merge", "([J[J)[J"⟩ : MethodName) (head1 (Jvm.Cond.code (⟨"com/example/hike/hike/Holders", "merge", "([J[J)[J"⟩ : MethodName) prog_63_method_6_code 7 (some (.array .long)) :: ws) RM2_01) (fun a U => a = #[(.ref a1), (.ref a2)] ∧ Z.Warmed39 U.vm ∧ U.heap = h0) (fun _ _ _ _ _ => True) (fun _ U o U' => ∃ v L, o = .returned v ∧ Q2_01 Z a1 a2 ka kc y0 h0 n0 v U'.heap L ∧ FrameEnd U o U' L RM2_01.cells RM2_01.slots) := by
  refine met_of (Q := fun v h L => Q2_01 Z a1 a2 ka kc y0 h0 n0 v h L) (plainFor_of_name pn_1) (fun m => by first | (simp [entryFrame, mkF, argsToLocals, Value.category]; done) | rfl) (Ls := #[.val (.ref a1), .val (.ref a2), .unset, .unset, .unset, .unset, .unset]) ?_
  intro p e s m below meth c T0 QQ hx hZ hby hml hown hnm hret hlk X0 e0 hQ
  have hml : c.maxLocals = 7 := hml
  have hown : s.vm.findClass "com/example/hike/hike/Holders" = some m.cls := hown
  have hnm : meth.name = "merge" := hnm
  have hret : meth.sig.returnType = some (.array .long) := hret
  have N0 := Fr.nil n0
  have K0 : Keep h0 h0 [] := Keep.refl h0 _
  show GoW p e below QQ (T0.setTop (mkF m 0 #[.val (.ref a1), .val (.ref a2), .unset, .unset, .unset, .unset, .unset] []))
  refine GoW.st (fun t k => XS.aloadN X0.here hx rfl (hb hby d2_0) rfl rfl (lnV X0 hx hZ e0 pre_V_a1 (g := (mkF m 1 #[.val (.ref a1), .val (.ref a2), .unset, .unset, .unset, .unset, .unset] [(.ref a1)])) rfl rfl (hb hby d2_1) t (XS.aloadN X0.here hx rfl (hb hby d2_2) rfl rfl (lnV X0 hx hZ e0 pre_V_a2 (g := (mkF m 3 #[.val (.ref a1), .val (.ref a2), .unset, .unset, .unset, .unset, .unset] [(.ref a2), (.int (0 : Int32))])) rfl rfl (hb hby d2_3) t (XS.iadd X0.here hx rfl (hb hby d2_4) rfl k))))) ?_
  show GoW p e below QQ (T0.setTop (mkF m 5 #[.val (.ref a1), .val (.ref a2), .unset, .unset, .unset, .unset, .unset] [(.int (1 : Int32))]))
  obtain ⟨T1, h1, k1, X1, e1, E1, A1, st1⟩ := newP X0 hx hZ (hw _ (List.mem_of_getElem? (i := 4) rfl)) e0 (g := (mkF m 5 #[.val (.ref a1), .val (.ref a2), .unset, .unset, .unset, .unset, .unset] [(.int (1 : Int32))])) rfl (hb hby d2_5) rfl (by decide) (cap := 1) (by decide) (by decide) (by decide) (by decide)
  obtain ⟨b1, g1⟩ : ∃ z, z = h0.size := ⟨_, rfl⟩
  rw [← g1] at A1 st1
  refine GoW.st st1 ?_
  have gg1 : n0 ≤ b1 := Nat.le_trans (Nat.le_trans Z0 K0.1) (Nat.le_of_eq g1.symm)
  have sz1 : h0.size ≤ b1 := Nat.le_trans K0.1 (Nat.le_of_eq g1.symm)
  have ne1_a1 : a1 ≠ b1 := Nat.ne_of_lt (Nat.lt_of_lt_of_le pre_V_a1.lt (Nat.le_of_eq g1.symm))
  have ne1_a2 : a2 ≠ b1 := Nat.ne_of_lt (Nat.lt_of_lt_of_le pre_V_a2.lt (Nat.le_of_eq g1.symm))
  have f2_V_a1 : Arv Z h1 a1 ka .long (0 : Int32) [] (.long (0 : Int64)) := pre_V_a1.ext E1
  have f2_V_a2 : Arv Z h1 a2 kc .long (1 : Int32) [(.long y0)] (.long (0 : Int64)) := pre_V_a2.ext E1
  have K1 : Keep h0 h1 [] := K0.ext E1
  have V1 : Arv Z h1 b1 k1 .long (1 : Int32) [(.long (0 : Int64))] (.long (0 : Int64)) := (Arv.new A1 (by decide)).pad (pad_rep [] (.long (0 : Int64)) 1)
  show GoW p e below QQ (T1.setTop (mkF m 7 #[.val (.ref a1), .val (.ref a2), .unset, .unset, .unset, .unset, .unset] [(.ref b1)]))
  refine GoW.st (fun t k => XS.astoreN X1.here hx rfl (hb hby d2_7) rfl rfl (l' := #[.val (.ref a1), .val (.ref a2), .val (.ref b1), .unset, .unset, .unset, .unset]) rfl (XS.iconst X1.here hx rfl (hb hby d2_8) (XS.istoreN X1.here hx rfl (hb hby d2_9) rfl (l' := #[.val (.ref a1), .val (.ref a2), .val (.ref b1), .val (.int (0 : Int32)), .unset, .unset, .unset]) rfl (XS.iconst X1.here hx rfl (hb hby d2_10) (XS.istore X1.here hx rfl (hb hby d2_11) rfl (l' := #[.val (.ref a1), .val (.ref a2), .val (.ref b1), .val (.int (0 : Int32)), .val (.int (0 : Int32)), .unset, .unset]) rfl (XS.iconst X1.here hx rfl (hb hby d2_13) k)))))) ?_
  show GoW p e below QQ (T1.setTop (mkF m 14 #[.val (.ref a1), .val (.ref a2), .val (.ref b1), .val (.int (0 : Int32)), .val (.int (0 : Int32)), .unset, .unset] [(.int (0 : Int32))]))
  refine GoW.st (fun t k => XS.istore X1.here hx rfl (hb hby d2_14) rfl (l' := #[.val (.ref a1), .val (.ref a2), .val (.ref b1), .val (.int (0 : Int32)), .val (.int (0 : Int32)), .val (.int (0 : Int32)), .unset]) rfl (XS.iload X1.here hx rfl (hb hby d2_16) rfl (XS.aloadN X1.here hx rfl (hb hby d2_18) rfl rfl (lnV X1 hx hZ e1 V1 (g := (mkF m 19 #[.val (.ref a1), .val (.ref a2), .val (.ref b1), .val (.int (0 : Int32)), .val (.int (0 : Int32)), .val (.int (0 : Int32)), .unset] [(.ref b1), (.int (0 : Int32))])) rfl rfl (hb hby d2_19) t k)))) ?_
  show GoW p e below QQ (T1.setTop (mkF m 20 #[.val (.ref a1), .val (.ref a2), .val (.ref b1), .val (.int (0 : Int32)), .val (.int (0 : Int32)), .val (.int (0 : Int32)), .unset] [(.int (1 : Int32)), (.int (0 : Int32))]))
  have hc20 : (0 : Int32) < (1 : Int32) := by decide
  refine GoW.st (fun t k => XS.icmpNo X1.here hx rfl (hb hby d2_20) rfl (tlt hc20).2.1 (XS.iload X1.here hx rfl (hb hby d2_23) rfl (XS.aloadN X1.here hx rfl (hb hby d2_25) rfl rfl (lnV X1 hx hZ e1 f2_V_a2 (g := (mkF m 26 #[.val (.ref a1), .val (.ref a2), .val (.ref b1), .val (.int (0 : Int32)), .val (.int (0 : Int32)), .val (.int (0 : Int32)), .unset] [(.ref a2), (.int (0 : Int32))])) rfl rfl (hb hby d2_26) t k)))) ?_
  show GoW p e below QQ (T1.setTop (mkF m 27 #[.val (.ref a1), .val (.ref a2), .val (.ref b1), .val (.int (0 : Int32)), .val (.int (0 : Int32)), .val (.int (0 : Int32)), .unset] [(.int (1 : Int32)), (.int (0 : Int32))]))
  have hc27 : ¬ ((0 : Int32) = (1 : Int32)) := by decide
  refine GoW.st (fun t k => XS.icmpNo X1.here hx rfl (hb hby d2_27) rfl (feq hc27).1 (XS.iloadN X1.here hx rfl (hb hby d2_30) rfl (XS.aloadN X1.here hx rfl (hb hby d2_31) rfl rfl (lnV X1 hx hZ e1 f2_V_a1 (g := (mkF m 32 #[.val (.ref a1), .val (.ref a2), .val (.ref b1), .val (.int (0 : Int32)), .val (.int (0 : Int32)), .val (.int (0 : Int32)), .unset] [(.ref a1), (.int (0 : Int32))])) rfl rfl (hb hby d2_32) t k)))) ?_
  show GoW p e below QQ (T1.setTop (mkF m 33 #[.val (.ref a1), .val (.ref a2), .val (.ref b1), .val (.int (0 : Int32)), .val (.int (0 : Int32)), .val (.int (0 : Int32)), .unset] [(.int (0 : Int32)), (.int (0 : Int32))]))
  have hc33 : ¬ ((0 : Int32) < (0 : Int32)) := by decide
  refine GoW.st (fun t k => XS.icmpYes X1.here hx rfl (pc0 := 33) (pc' := 51) rfl (hb hby d2_33) rfl (flt hc33).2.1 (by decide) (by decide) (XS.iconst X1.here hx rfl (hb hby d2_51) (XS.istore X1.here hx rfl (hb hby d2_52) rfl (l' := #[.val (.ref a1), .val (.ref a2), .val (.ref b1), .val (.int (0 : Int32)), .val (.int (0 : Int32)), .val (.int (0 : Int32)), .val (.int (0 : Int32))]) rfl (XS.aloadN X1.here hx rfl (hb hby d2_54) rfl rfl (XS.iload X1.here hx rfl (hb hby d2_55) rfl (XS.iload X1.here hx rfl (hb hby d2_57) rfl k)))))) ?_
  show GoW p e below QQ (T1.setTop (mkF m 59 #[.val (.ref a1), .val (.ref a2), .val (.ref b1), .val (.int (0 : Int32)), .val (.int (0 : Int32)), .val (.int (0 : Int32)), .val (.int (0 : Int32))] [(.int (0 : Int32)), (.int (0 : Int32)), (.ref b1)]))
  have hc59 : (0 : Int32) = (0 : Int32) := by decide
  refine GoW.st (fun t k => XS.ifYes X1.here hx rfl (pc0 := 59) (pc' := 71) rfl (hb hby d2_59) rfl ((if0 _ _).trans (teq hc59).1) (by decide) (by decide) (XS.aloadN X1.here hx rfl (hb hby d2_71) rfl rfl (XS.iload X1.here hx rfl (hb hby d2_72) rfl (XS.iinc X1.here hx rfl (hb hby d2_74) rfl (l' := #[.val (.ref a1), .val (.ref a2), .val (.ref b1), .val (.int (0 : Int32)), .val (.int (1 : Int32)), .val (.int (0 : Int32)), .val (.int (0 : Int32))]) rfl (ldVJ X1 hx hZ e1 f2_V_a2 (v := (.long y0)) ⟨by decide, by decide⟩ rfl (g := (mkF m 77 #[.val (.ref a1), .val (.ref a2), .val (.ref b1), .val (.int (0 : Int32)), .val (.int (1 : Int32)), .val (.int (0 : Int32)), .val (.int (0 : Int32))] [(.int (0 : Int32)), (.ref a2), (.int (0 : Int32)), (.ref b1)])) rfl rfl (hb hby d2_77) t k))))) ?_
  show GoW p e below QQ (T1.setTop (mkF m 78 #[.val (.ref a1), .val (.ref a2), .val (.ref b1), .val (.int (0 : Int32)), .val (.int (1 : Int32)), .val (.int (0 : Int32)), .val (.int (0 : Int32))] [(.long y0), (.int (0 : Int32)), (.ref b1)]))
  obtain ⟨T3, h3, X3, e3, W3, V3, st3⟩ := stVJ X1 hx hZ e1 V1 ⟨by decide, by decide⟩ 0 rfl (Nat.le_of_ble_eq_true rfl) (g := (mkF m 78 #[.val (.ref a1), .val (.ref a2), .val (.ref b1), .val (.int (0 : Int32)), .val (.int (1 : Int32)), .val (.int (0 : Int32)), .val (.int (0 : Int32))] [(.long y0), (.int (0 : Int32)), (.ref b1)])) rfl rfl (hb hby d2_78)
  refine GoW.st st3 ?_
  have f4_V_a1 : Arv Z h3 a1 ka .long (0 : Int32) [] (.long (0 : Int64)) := f2_V_a1.other W3 ne1_a1
  have f4_V_a2 : Arv Z h3 a2 kc .long (1 : Int32) [(.long y0)] (.long (0 : Int64)) := f2_V_a2.other W3 ne1_a2
  have f4_V_b1 : Arv Z h3 b1 k1 .long (1 : Int32) [(.long y0)] (.long (0 : Int64)) := V3
  have K3 : Keep h0 h3 [] := K1.wr W3 (Or.inr sz1)
  have N3 := Fr.snoc X3 N0 gg1
  show GoW p e below QQ (T3.setTop (mkF m 79 #[.val (.ref a1), .val (.ref a2), .val (.ref b1), .val (.int (0 : Int32)), .val (.int (1 : Int32)), .val (.int (0 : Int32)), .val (.int (0 : Int32))] []))
  refine GoW.st (fun t k => XS.iinc X3.here hx rfl (hb hby d2_79) rfl (l' := #[.val (.ref a1), .val (.ref a2), .val (.ref b1), .val (.int (0 : Int32)), .val (.int (1 : Int32)), .val (.int (1 : Int32)), .val (.int (0 : Int32))]) rfl (XS.goto X3.here hx rfl (pc0 := 82) (pc' := 16) rfl (hb hby d2_82) (by decide) (by decide) (XS.iload X3.here hx rfl (hb hby d2_16) rfl (XS.aloadN X3.here hx rfl (hb hby d2_18) rfl rfl (lnV X3 hx hZ e3 f4_V_b1 (g := (mkF m 19 #[.val (.ref a1), .val (.ref a2), .val (.ref b1), .val (.int (0 : Int32)), .val (.int (1 : Int32)), .val (.int (1 : Int32)), .val (.int (0 : Int32))] [(.ref b1), (.int (1 : Int32))])) rfl rfl (hb hby d2_19) t k))))) ?_
  show GoW p e below QQ (T3.setTop (mkF m 20 #[.val (.ref a1), .val (.ref a2), .val (.ref b1), .val (.int (0 : Int32)), .val (.int (1 : Int32)), .val (.int (1 : Int32)), .val (.int (0 : Int32))] [(.int (1 : Int32)), (.int (1 : Int32))]))
  have hc20_2 : ¬ ((1 : Int32) < (1 : Int32)) := by decide
  refine GoW.st (fun t k => XS.icmpYes X3.here hx rfl (pc0 := 20) (pc' := 85) rfl (hb hby d2_20) rfl (flt hc20_2).2.1 (by decide) (by decide) (XS.aloadN X3.here hx rfl (hb hby d2_85) rfl rfl k)) ?_
  show GoW p e below QQ (T3.setTop (mkF m 86 #[.val (.ref a1), .val (.ref a2), .val (.ref b1), .val (.int (0 : Int32)), .val (.int (1 : Int32)), .val (.int (1 : Int32)), .val (.int (0 : Int32))] [(.ref b1)]))
  exact GoW.fin X3 (some (.ref b1)) (fun q => by rw [hret] at q; cases q) hlk hQ e3 ⟨b1, k1, y0, rfl, N3, K3, sz1, f4_V_b1, (by omega)⟩ (by decide) (by decide) (fun fs hr => retOut X3 hx hret rfl (Or.inr (Or.inr (Or.inr (Or.inr ⟨rfl, rfl, rfl⟩)))) (hb hby d2_86) hr)
def RM2_02 : Room := { frames := 0, cells := 1, slots := 2, locals := 0 }
def Q2_02 (Z : State) (a1 : Addr) (a2 : Addr) (ka : ClassId) (kc : ClassId) (y0 : Int64) (y1 : Int64) (h0 : Heap) (n0 : Nat) (v : Option Value) (h : Heap) (L : List Loc) : Prop := ∃ (b : Addr) (kb : ClassId) (w0 : Int64) (w1 : Int64), v = some (.ref b) ∧ Fr n0 L ∧ Keep h0 h [] ∧ (h0.size ≤ b) ∧ (Arv Z h b kb .long (2 : Int32) [(.long w0), (.long w1)] (.long (0 : Int64))) ∧ (w0.toInt = y0.toInt ∧ w1.toInt = y1.toInt)
set_option maxRecDepth 65536 in
set_option maxHeartbeats 40000000 in
theorem rm2_02 (l : Launch) (Z : State) (a0 : Array Value) (hw : ∀ d ∈ tables_1, d.before a0 Z = true) (ws : List Jvm.Cond) (a1 : Addr) (a2 : Addr) (ka : ClassId) (kc : ClassId) (y0 : Int64) (y1 : Int64) (h0 : Heap) (n0 : Nat) (Z0 : n0 ≤ h0.size) (pre_V_a1 : Arv Z h0 a1 ka .long (0 : Int32) [] (.long (0 : Int64))) (pre_V_a2 : Arv Z h0 a2 kc .long (2 : Int32) [(.long y0), (.long y1)] (.long (0 : Int64))) (hy01 : y0.toInt ≤ y1.toInt) :
    MetFree l (⟨"com/example/hike/hike/Holders", "merge", "([J[J)[J"⟩ : MethodName) (head1 (Jvm.Cond.code (⟨"com/example/hike/hike/Holders", "merge", "([J[J)[J"⟩ : MethodName) prog_63_method_6_code 7 (some (.array .long)) :: ws) RM2_02) (fun a U => a = #[(.ref a1), (.ref a2)] ∧ Z.Warmed39 U.vm ∧ U.heap = h0) (fun _ _ _ _ _ => True) (fun _ U o U' => ∃ v L, o = .returned v ∧ Q2_02 Z a1 a2 ka kc y0 y1 h0 n0 v U'.heap L ∧ FrameEnd U o U' L RM2_02.cells RM2_02.slots) := by
  refine met_of (Q := fun v h L => Q2_02 Z a1 a2 ka kc y0 y1 h0 n0 v h L) (plainFor_of_name pn_1) (fun m => by first | (simp [entryFrame, mkF, argsToLocals, Value.category]; done) | rfl) (Ls := #[.val (.ref a1), .val (.ref a2), .unset, .unset, .unset, .unset, .unset]) ?_
  intro p e s m below meth c T0 QQ hx hZ hby hml hown hnm hret hlk X0 e0 hQ
  have hml : c.maxLocals = 7 := hml
  have hown : s.vm.findClass "com/example/hike/hike/Holders" = some m.cls := hown
  have hnm : meth.name = "merge" := hnm
  have hret : meth.sig.returnType = some (.array .long) := hret
  have N0 := Fr.nil n0
  have K0 : Keep h0 h0 [] := Keep.refl h0 _
  show GoW p e below QQ (T0.setTop (mkF m 0 #[.val (.ref a1), .val (.ref a2), .unset, .unset, .unset, .unset, .unset] []))
  refine GoW.st (fun t k => XS.aloadN X0.here hx rfl (hb hby d2_0) rfl rfl (lnV X0 hx hZ e0 pre_V_a1 (g := (mkF m 1 #[.val (.ref a1), .val (.ref a2), .unset, .unset, .unset, .unset, .unset] [(.ref a1)])) rfl rfl (hb hby d2_1) t (XS.aloadN X0.here hx rfl (hb hby d2_2) rfl rfl (lnV X0 hx hZ e0 pre_V_a2 (g := (mkF m 3 #[.val (.ref a1), .val (.ref a2), .unset, .unset, .unset, .unset, .unset] [(.ref a2), (.int (0 : Int32))])) rfl rfl (hb hby d2_3) t (XS.iadd X0.here hx rfl (hb hby d2_4) rfl k))))) ?_
  show GoW p e below QQ (T0.setTop (mkF m 5 #[.val (.ref a1), .val (.ref a2), .unset, .unset, .unset, .unset, .unset] [(.int (2 : Int32))]))
  obtain ⟨T1, h1, k1, X1, e1, E1, A1, st1⟩ := newP X0 hx hZ (hw _ (List.mem_of_getElem? (i := 4) rfl)) e0 (g := (mkF m 5 #[.val (.ref a1), .val (.ref a2), .unset, .unset, .unset, .unset, .unset] [(.int (2 : Int32))])) rfl (hb hby d2_5) rfl (by decide) (cap := 2) (by decide) (by decide) (by decide) (by decide)
  obtain ⟨b1, g1⟩ : ∃ z, z = h0.size := ⟨_, rfl⟩
  rw [← g1] at A1 st1
  refine GoW.st st1 ?_
  have gg1 : n0 ≤ b1 := Nat.le_trans (Nat.le_trans Z0 K0.1) (Nat.le_of_eq g1.symm)
  have sz1 : h0.size ≤ b1 := Nat.le_trans K0.1 (Nat.le_of_eq g1.symm)
  have ne1_a1 : a1 ≠ b1 := Nat.ne_of_lt (Nat.lt_of_lt_of_le pre_V_a1.lt (Nat.le_of_eq g1.symm))
  have ne1_a2 : a2 ≠ b1 := Nat.ne_of_lt (Nat.lt_of_lt_of_le pre_V_a2.lt (Nat.le_of_eq g1.symm))
  have f2_V_a1 : Arv Z h1 a1 ka .long (0 : Int32) [] (.long (0 : Int64)) := pre_V_a1.ext E1
  have f2_V_a2 : Arv Z h1 a2 kc .long (2 : Int32) [(.long y0), (.long y1)] (.long (0 : Int64)) := pre_V_a2.ext E1
  have K1 : Keep h0 h1 [] := K0.ext E1
  have V1 : Arv Z h1 b1 k1 .long (2 : Int32) [(.long (0 : Int64)), (.long (0 : Int64))] (.long (0 : Int64)) := (Arv.new A1 (by decide)).pad (pad_rep [] (.long (0 : Int64)) 2)
  show GoW p e below QQ (T1.setTop (mkF m 7 #[.val (.ref a1), .val (.ref a2), .unset, .unset, .unset, .unset, .unset] [(.ref b1)]))
  refine GoW.st (fun t k => XS.astoreN X1.here hx rfl (hb hby d2_7) rfl rfl (l' := #[.val (.ref a1), .val (.ref a2), .val (.ref b1), .unset, .unset, .unset, .unset]) rfl (XS.iconst X1.here hx rfl (hb hby d2_8) (XS.istoreN X1.here hx rfl (hb hby d2_9) rfl (l' := #[.val (.ref a1), .val (.ref a2), .val (.ref b1), .val (.int (0 : Int32)), .unset, .unset, .unset]) rfl (XS.iconst X1.here hx rfl (hb hby d2_10) (XS.istore X1.here hx rfl (hb hby d2_11) rfl (l' := #[.val (.ref a1), .val (.ref a2), .val (.ref b1), .val (.int (0 : Int32)), .val (.int (0 : Int32)), .unset, .unset]) rfl (XS.iconst X1.here hx rfl (hb hby d2_13) k)))))) ?_
  show GoW p e below QQ (T1.setTop (mkF m 14 #[.val (.ref a1), .val (.ref a2), .val (.ref b1), .val (.int (0 : Int32)), .val (.int (0 : Int32)), .unset, .unset] [(.int (0 : Int32))]))
  refine GoW.st (fun t k => XS.istore X1.here hx rfl (hb hby d2_14) rfl (l' := #[.val (.ref a1), .val (.ref a2), .val (.ref b1), .val (.int (0 : Int32)), .val (.int (0 : Int32)), .val (.int (0 : Int32)), .unset]) rfl (XS.iload X1.here hx rfl (hb hby d2_16) rfl (XS.aloadN X1.here hx rfl (hb hby d2_18) rfl rfl (lnV X1 hx hZ e1 V1 (g := (mkF m 19 #[.val (.ref a1), .val (.ref a2), .val (.ref b1), .val (.int (0 : Int32)), .val (.int (0 : Int32)), .val (.int (0 : Int32)), .unset] [(.ref b1), (.int (0 : Int32))])) rfl rfl (hb hby d2_19) t k)))) ?_
  show GoW p e below QQ (T1.setTop (mkF m 20 #[.val (.ref a1), .val (.ref a2), .val (.ref b1), .val (.int (0 : Int32)), .val (.int (0 : Int32)), .val (.int (0 : Int32)), .unset] [(.int (2 : Int32)), (.int (0 : Int32))]))
  have hc20 : (0 : Int32) < (2 : Int32) := by decide
  refine GoW.st (fun t k => XS.icmpNo X1.here hx rfl (hb hby d2_20) rfl (tlt hc20).2.1 (XS.iload X1.here hx rfl (hb hby d2_23) rfl (XS.aloadN X1.here hx rfl (hb hby d2_25) rfl rfl (lnV X1 hx hZ e1 f2_V_a2 (g := (mkF m 26 #[.val (.ref a1), .val (.ref a2), .val (.ref b1), .val (.int (0 : Int32)), .val (.int (0 : Int32)), .val (.int (0 : Int32)), .unset] [(.ref a2), (.int (0 : Int32))])) rfl rfl (hb hby d2_26) t k)))) ?_
  show GoW p e below QQ (T1.setTop (mkF m 27 #[.val (.ref a1), .val (.ref a2), .val (.ref b1), .val (.int (0 : Int32)), .val (.int (0 : Int32)), .val (.int (0 : Int32)), .unset] [(.int (2 : Int32)), (.int (0 : Int32))]))
  have hc27 : ¬ ((0 : Int32) = (2 : Int32)) := by decide
  refine GoW.st (fun t k => XS.icmpNo X1.here hx rfl (hb hby d2_27) rfl (feq hc27).1 (XS.iloadN X1.here hx rfl (hb hby d2_30) rfl (XS.aloadN X1.here hx rfl (hb hby d2_31) rfl rfl (lnV X1 hx hZ e1 f2_V_a1 (g := (mkF m 32 #[.val (.ref a1), .val (.ref a2), .val (.ref b1), .val (.int (0 : Int32)), .val (.int (0 : Int32)), .val (.int (0 : Int32)), .unset] [(.ref a1), (.int (0 : Int32))])) rfl rfl (hb hby d2_32) t k)))) ?_
  show GoW p e below QQ (T1.setTop (mkF m 33 #[.val (.ref a1), .val (.ref a2), .val (.ref b1), .val (.int (0 : Int32)), .val (.int (0 : Int32)), .val (.int (0 : Int32)), .unset] [(.int (0 : Int32)), (.int (0 : Int32))]))
  have hc33 : ¬ ((0 : Int32) < (0 : Int32)) := by decide
  refine GoW.st (fun t k => XS.icmpYes X1.here hx rfl (pc0 := 33) (pc' := 51) rfl (hb hby d2_33) rfl (flt hc33).2.1 (by decide) (by decide) (XS.iconst X1.here hx rfl (hb hby d2_51) (XS.istore X1.here hx rfl (hb hby d2_52) rfl (l' := #[.val (.ref a1), .val (.ref a2), .val (.ref b1), .val (.int (0 : Int32)), .val (.int (0 : Int32)), .val (.int (0 : Int32)), .val (.int (0 : Int32))]) rfl (XS.aloadN X1.here hx rfl (hb hby d2_54) rfl rfl (XS.iload X1.here hx rfl (hb hby d2_55) rfl (XS.iload X1.here hx rfl (hb hby d2_57) rfl k)))))) ?_
  show GoW p e below QQ (T1.setTop (mkF m 59 #[.val (.ref a1), .val (.ref a2), .val (.ref b1), .val (.int (0 : Int32)), .val (.int (0 : Int32)), .val (.int (0 : Int32)), .val (.int (0 : Int32))] [(.int (0 : Int32)), (.int (0 : Int32)), (.ref b1)]))
  have hc59 : (0 : Int32) = (0 : Int32) := by decide
  refine GoW.st (fun t k => XS.ifYes X1.here hx rfl (pc0 := 59) (pc' := 71) rfl (hb hby d2_59) rfl ((if0 _ _).trans (teq hc59).1) (by decide) (by decide) (XS.aloadN X1.here hx rfl (hb hby d2_71) rfl rfl (XS.iload X1.here hx rfl (hb hby d2_72) rfl (XS.iinc X1.here hx rfl (hb hby d2_74) rfl (l' := #[.val (.ref a1), .val (.ref a2), .val (.ref b1), .val (.int (0 : Int32)), .val (.int (1 : Int32)), .val (.int (0 : Int32)), .val (.int (0 : Int32))]) rfl (ldVJ X1 hx hZ e1 f2_V_a2 (v := (.long y0)) ⟨by decide, by decide⟩ rfl (g := (mkF m 77 #[.val (.ref a1), .val (.ref a2), .val (.ref b1), .val (.int (0 : Int32)), .val (.int (1 : Int32)), .val (.int (0 : Int32)), .val (.int (0 : Int32))] [(.int (0 : Int32)), (.ref a2), (.int (0 : Int32)), (.ref b1)])) rfl rfl (hb hby d2_77) t k))))) ?_
  show GoW p e below QQ (T1.setTop (mkF m 78 #[.val (.ref a1), .val (.ref a2), .val (.ref b1), .val (.int (0 : Int32)), .val (.int (1 : Int32)), .val (.int (0 : Int32)), .val (.int (0 : Int32))] [(.long y0), (.int (0 : Int32)), (.ref b1)]))
  obtain ⟨T3, h3, X3, e3, W3, V3, st3⟩ := stVJ X1 hx hZ e1 V1 ⟨by decide, by decide⟩ 0 rfl (Nat.le_of_ble_eq_true rfl) (g := (mkF m 78 #[.val (.ref a1), .val (.ref a2), .val (.ref b1), .val (.int (0 : Int32)), .val (.int (1 : Int32)), .val (.int (0 : Int32)), .val (.int (0 : Int32))] [(.long y0), (.int (0 : Int32)), (.ref b1)])) rfl rfl (hb hby d2_78)
  refine GoW.st st3 ?_
  have f4_V_a1 : Arv Z h3 a1 ka .long (0 : Int32) [] (.long (0 : Int64)) := f2_V_a1.other W3 ne1_a1
  have f4_V_a2 : Arv Z h3 a2 kc .long (2 : Int32) [(.long y0), (.long y1)] (.long (0 : Int64)) := f2_V_a2.other W3 ne1_a2
  have f4_V_b1 : Arv Z h3 b1 k1 .long (2 : Int32) [(.long y0), (.long (0 : Int64))] (.long (0 : Int64)) := V3
  have K3 : Keep h0 h3 [] := K1.wr W3 (Or.inr sz1)
  have N3 := Fr.snoc X3 N0 gg1
  show GoW p e below QQ (T3.setTop (mkF m 79 #[.val (.ref a1), .val (.ref a2), .val (.ref b1), .val (.int (0 : Int32)), .val (.int (1 : Int32)), .val (.int (0 : Int32)), .val (.int (0 : Int32))] []))
  refine GoW.st (fun t k => XS.iinc X3.here hx rfl (hb hby d2_79) rfl (l' := #[.val (.ref a1), .val (.ref a2), .val (.ref b1), .val (.int (0 : Int32)), .val (.int (1 : Int32)), .val (.int (1 : Int32)), .val (.int (0 : Int32))]) rfl (XS.goto X3.here hx rfl (pc0 := 82) (pc' := 16) rfl (hb hby d2_82) (by decide) (by decide) (XS.iload X3.here hx rfl (hb hby d2_16) rfl (XS.aloadN X3.here hx rfl (hb hby d2_18) rfl rfl (lnV X3 hx hZ e3 f4_V_b1 (g := (mkF m 19 #[.val (.ref a1), .val (.ref a2), .val (.ref b1), .val (.int (0 : Int32)), .val (.int (1 : Int32)), .val (.int (1 : Int32)), .val (.int (0 : Int32))] [(.ref b1), (.int (1 : Int32))])) rfl rfl (hb hby d2_19) t k))))) ?_
  show GoW p e below QQ (T3.setTop (mkF m 20 #[.val (.ref a1), .val (.ref a2), .val (.ref b1), .val (.int (0 : Int32)), .val (.int (1 : Int32)), .val (.int (1 : Int32)), .val (.int (0 : Int32))] [(.int (2 : Int32)), (.int (1 : Int32))]))
  have hc20_2 : (1 : Int32) < (2 : Int32) := by decide
  refine GoW.st (fun t k => XS.icmpNo X3.here hx rfl (hb hby d2_20) rfl (tlt hc20_2).2.1 (XS.iload X3.here hx rfl (hb hby d2_23) rfl (XS.aloadN X3.here hx rfl (hb hby d2_25) rfl rfl (lnV X3 hx hZ e3 f4_V_a2 (g := (mkF m 26 #[.val (.ref a1), .val (.ref a2), .val (.ref b1), .val (.int (0 : Int32)), .val (.int (1 : Int32)), .val (.int (1 : Int32)), .val (.int (0 : Int32))] [(.ref a2), (.int (1 : Int32))])) rfl rfl (hb hby d2_26) t k)))) ?_
  show GoW p e below QQ (T3.setTop (mkF m 27 #[.val (.ref a1), .val (.ref a2), .val (.ref b1), .val (.int (0 : Int32)), .val (.int (1 : Int32)), .val (.int (1 : Int32)), .val (.int (0 : Int32))] [(.int (2 : Int32)), (.int (1 : Int32))]))
  have hc27_2 : ¬ ((1 : Int32) = (2 : Int32)) := by decide
  refine GoW.st (fun t k => XS.icmpNo X3.here hx rfl (hb hby d2_27) rfl (feq hc27_2).1 (XS.iloadN X3.here hx rfl (hb hby d2_30) rfl (XS.aloadN X3.here hx rfl (hb hby d2_31) rfl rfl (lnV X3 hx hZ e3 f4_V_a1 (g := (mkF m 32 #[.val (.ref a1), .val (.ref a2), .val (.ref b1), .val (.int (0 : Int32)), .val (.int (1 : Int32)), .val (.int (1 : Int32)), .val (.int (0 : Int32))] [(.ref a1), (.int (0 : Int32))])) rfl rfl (hb hby d2_32) t k)))) ?_
  show GoW p e below QQ (T3.setTop (mkF m 33 #[.val (.ref a1), .val (.ref a2), .val (.ref b1), .val (.int (0 : Int32)), .val (.int (1 : Int32)), .val (.int (1 : Int32)), .val (.int (0 : Int32))] [(.int (0 : Int32)), (.int (0 : Int32))]))
  have hc33_2 : ¬ ((0 : Int32) < (0 : Int32)) := by decide
  refine GoW.st (fun t k => XS.icmpYes X3.here hx rfl (pc0 := 33) (pc' := 51) rfl (hb hby d2_33) rfl (flt hc33_2).2.1 (by decide) (by decide) (XS.iconst X3.here hx rfl (hb hby d2_51) (XS.istore X3.here hx rfl (hb hby d2_52) rfl (l' := #[.val (.ref a1), .val (.ref a2), .val (.ref b1), .val (.int (0 : Int32)), .val (.int (1 : Int32)), .val (.int (1 : Int32)), .val (.int (0 : Int32))]) rfl (XS.aloadN X3.here hx rfl (hb hby d2_54) rfl rfl (XS.iload X3.here hx rfl (hb hby d2_55) rfl (XS.iload X3.here hx rfl (hb hby d2_57) rfl k)))))) ?_
  show GoW p e below QQ (T3.setTop (mkF m 59 #[.val (.ref a1), .val (.ref a2), .val (.ref b1), .val (.int (0 : Int32)), .val (.int (1 : Int32)), .val (.int (1 : Int32)), .val (.int (0 : Int32))] [(.int (0 : Int32)), (.int (1 : Int32)), (.ref b1)]))
  have hc59_2 : (0 : Int32) = (0 : Int32) := by decide
  refine GoW.st (fun t k => XS.ifYes X3.here hx rfl (pc0 := 59) (pc' := 71) rfl (hb hby d2_59) rfl ((if0 _ _).trans (teq hc59_2).1) (by decide) (by decide) (XS.aloadN X3.here hx rfl (hb hby d2_71) rfl rfl (XS.iload X3.here hx rfl (hb hby d2_72) rfl (XS.iinc X3.here hx rfl (hb hby d2_74) rfl (l' := #[.val (.ref a1), .val (.ref a2), .val (.ref b1), .val (.int (0 : Int32)), .val (.int (2 : Int32)), .val (.int (1 : Int32)), .val (.int (0 : Int32))]) rfl (ldVJ X3 hx hZ e3 f4_V_a2 (v := (.long y1)) ⟨by decide, by decide⟩ rfl (g := (mkF m 77 #[.val (.ref a1), .val (.ref a2), .val (.ref b1), .val (.int (0 : Int32)), .val (.int (2 : Int32)), .val (.int (1 : Int32)), .val (.int (0 : Int32))] [(.int (1 : Int32)), (.ref a2), (.int (1 : Int32)), (.ref b1)])) rfl rfl (hb hby d2_77) t k))))) ?_
  show GoW p e below QQ (T3.setTop (mkF m 78 #[.val (.ref a1), .val (.ref a2), .val (.ref b1), .val (.int (0 : Int32)), .val (.int (2 : Int32)), .val (.int (1 : Int32)), .val (.int (0 : Int32))] [(.long y1), (.int (1 : Int32)), (.ref b1)]))
  obtain ⟨T5, h5, X5, e5, W5, V5, st5⟩ := stVJ X3 hx hZ e3 f4_V_b1 ⟨by decide, by decide⟩ 1 rfl (Nat.le_of_ble_eq_true rfl) (g := (mkF m 78 #[.val (.ref a1), .val (.ref a2), .val (.ref b1), .val (.int (0 : Int32)), .val (.int (2 : Int32)), .val (.int (1 : Int32)), .val (.int (0 : Int32))] [(.long y1), (.int (1 : Int32)), (.ref b1)])) rfl rfl (hb hby d2_78)
  refine GoW.st st5 ?_
  have f6_V_a1 : Arv Z h5 a1 ka .long (0 : Int32) [] (.long (0 : Int64)) := f4_V_a1.other W5 ne1_a1
  have f6_V_a2 : Arv Z h5 a2 kc .long (2 : Int32) [(.long y0), (.long y1)] (.long (0 : Int64)) := f4_V_a2.other W5 ne1_a2
  have f6_V_b1 : Arv Z h5 b1 k1 .long (2 : Int32) [(.long y0), (.long y1)] (.long (0 : Int64)) := V5
  have K5 : Keep h0 h5 [] := K3.wr W5 (Or.inr sz1)
  have N5 := Fr.snoc X5 N3 gg1
  show GoW p e below QQ (T5.setTop (mkF m 79 #[.val (.ref a1), .val (.ref a2), .val (.ref b1), .val (.int (0 : Int32)), .val (.int (2 : Int32)), .val (.int (1 : Int32)), .val (.int (0 : Int32))] []))
  refine GoW.st (fun t k => XS.iinc X5.here hx rfl (hb hby d2_79) rfl (l' := #[.val (.ref a1), .val (.ref a2), .val (.ref b1), .val (.int (0 : Int32)), .val (.int (2 : Int32)), .val (.int (2 : Int32)), .val (.int (0 : Int32))]) rfl (XS.goto X5.here hx rfl (pc0 := 82) (pc' := 16) rfl (hb hby d2_82) (by decide) (by decide) (XS.iload X5.here hx rfl (hb hby d2_16) rfl (XS.aloadN X5.here hx rfl (hb hby d2_18) rfl rfl (lnV X5 hx hZ e5 f6_V_b1 (g := (mkF m 19 #[.val (.ref a1), .val (.ref a2), .val (.ref b1), .val (.int (0 : Int32)), .val (.int (2 : Int32)), .val (.int (2 : Int32)), .val (.int (0 : Int32))] [(.ref b1), (.int (2 : Int32))])) rfl rfl (hb hby d2_19) t k))))) ?_
  show GoW p e below QQ (T5.setTop (mkF m 20 #[.val (.ref a1), .val (.ref a2), .val (.ref b1), .val (.int (0 : Int32)), .val (.int (2 : Int32)), .val (.int (2 : Int32)), .val (.int (0 : Int32))] [(.int (2 : Int32)), (.int (2 : Int32))]))
  have hc20_3 : ¬ ((2 : Int32) < (2 : Int32)) := by decide
  refine GoW.st (fun t k => XS.icmpYes X5.here hx rfl (pc0 := 20) (pc' := 85) rfl (hb hby d2_20) rfl (flt hc20_3).2.1 (by decide) (by decide) (XS.aloadN X5.here hx rfl (hb hby d2_85) rfl rfl k)) ?_
  show GoW p e below QQ (T5.setTop (mkF m 86 #[.val (.ref a1), .val (.ref a2), .val (.ref b1), .val (.int (0 : Int32)), .val (.int (2 : Int32)), .val (.int (2 : Int32)), .val (.int (0 : Int32))] [(.ref b1)]))
  exact GoW.fin X5 (some (.ref b1)) (fun q => by rw [hret] at q; cases q) hlk hQ e5 ⟨b1, k1, y0, y1, rfl, N5, K5, sz1, f6_V_b1, (by omega)⟩ (by decide) (by decide) (fun fs hr => retOut X5 hx hret rfl (Or.inr (Or.inr (Or.inr (Or.inr ⟨rfl, rfl, rfl⟩)))) (hb hby d2_86) hr)
theorem d2_47 : decode prog_63_method_6_code 47 = .ok (.iconst 1, 1) := by decide +kernel
theorem d2_48 : decode prog_63_method_6_code 48 = .ok (.goto 4, 3) := by decide +kernel
theorem d2_62 : decode prog_63_method_6_code 62 = .ok (.aload_n 0, 1) := by decide +kernel
theorem d2_63 : decode prog_63_method_6_code 63 = .ok (.iload_n 3, 1) := by decide +kernel
theorem d2_64 : decode prog_63_method_6_code 64 = .ok (.iinc 3 1, 3) := by decide +kernel
theorem d2_67 : decode prog_63_method_6_code 67 = .ok (.laload, 1) := by decide +kernel
theorem d2_68 : decode prog_63_method_6_code 68 = .ok (.goto 10, 3) := by decide +kernel
def RM2_10 : Room := { frames := 0, cells := 1, slots := 1, locals := 0 }
def Q2_10 (Z : State) (a1 : Addr) (a2 : Addr) (ka : ClassId) (kc : ClassId) (x0 : Int64) (h0 : Heap) (n0 : Nat) (v : Option Value) (h : Heap) (L : List Loc) : Prop := ∃ (b : Addr) (kb : ClassId) (w0 : Int64), v = some (.ref b) ∧ Fr n0 L ∧ Keep h0 h [] ∧ (h0.size ≤ b) ∧ (Arv Z h b kb .long (1 : Int32) [(.long w0)] (.long (0 : Int64))) ∧ (w0.toInt = x0.toInt)
set_option maxRecDepth 65536 in
set_option maxHeartbeats 40000000 in
theorem rm2_10 (l : Launch) (Z : State) (a0 : Array Value) (hw : ∀ d ∈ tables_1, d.before a0 Z = true) (ws : List Jvm.Cond) (a1 : Addr) (a2 : Addr) (ka : ClassId) (kc : ClassId) (x0 : Int64) (h0 : Heap) (n0 : Nat) (Z0 : n0 ≤ h0.size) (pre_V_a1 : Arv Z h0 a1 ka .long (1 : Int32) [(.long x0)] (.long (0 : Int64))) (pre_V_a2 : Arv Z h0 a2 kc .long (0 : Int32) [] (.long (0 : Int64))) :
    MetFree l (⟨"com/example/hike/hike/Holders", "merge", "([J[J)[J"⟩ : MethodName) (head1 (Jvm.Cond.code (⟨"com/example/hike/hike/Holders", "merge", "([J[J)[J"⟩ : MethodName) prog_63_method_6_code 7 (some (.array .long)) :: ws) RM2_10) (fun a U => a = #[(.ref a1), (.ref a2)] ∧ Z.Warmed39 U.vm ∧ U.heap = h0) (fun _ _ _ _ _ => True) (fun _ U o U' => ∃ v L, o = .returned v ∧ Q2_10 Z a1 a2 ka kc x0 h0 n0 v U'.heap L ∧ FrameEnd U o U' L RM2_10.cells RM2_10.slots) := by
  refine met_of (Q := fun v h L => Q2_10 Z a1 a2 ka kc x0 h0 n0 v h L) (plainFor_of_name pn_1) (fun m => by first | (simp [entryFrame, mkF, argsToLocals, Value.category]; done) | rfl) (Ls := #[.val (.ref a1), .val (.ref a2), .unset, .unset, .unset, .unset, .unset]) ?_
  intro p e s m below meth c T0 QQ hx hZ hby hml hown hnm hret hlk X0 e0 hQ
  have hml : c.maxLocals = 7 := hml
  have hown : s.vm.findClass "com/example/hike/hike/Holders" = some m.cls := hown
  have hnm : meth.name = "merge" := hnm
  have hret : meth.sig.returnType = some (.array .long) := hret
  have N0 := Fr.nil n0
  have K0 : Keep h0 h0 [] := Keep.refl h0 _
  show GoW p e below QQ (T0.setTop (mkF m 0 #[.val (.ref a1), .val (.ref a2), .unset, .unset, .unset, .unset, .unset] []))
  refine GoW.st (fun t k => XS.aloadN X0.here hx rfl (hb hby d2_0) rfl rfl (lnV X0 hx hZ e0 pre_V_a1 (g := (mkF m 1 #[.val (.ref a1), .val (.ref a2), .unset, .unset, .unset, .unset, .unset] [(.ref a1)])) rfl rfl (hb hby d2_1) t (XS.aloadN X0.here hx rfl (hb hby d2_2) rfl rfl (lnV X0 hx hZ e0 pre_V_a2 (g := (mkF m 3 #[.val (.ref a1), .val (.ref a2), .unset, .unset, .unset, .unset, .unset] [(.ref a2), (.int (1 : Int32))])) rfl rfl (hb hby d2_3) t (XS.iadd X0.here hx rfl (hb hby d2_4) rfl k))))) ?_
  show GoW p e below QQ (T0.setTop (mkF m 5 #[.val (.ref a1), .val (.ref a2), .unset, .unset, .unset, .unset, .unset] [(.int (1 : Int32))]))
  obtain ⟨T1, h1, k1, X1, e1, E1, A1, st1⟩ := newP X0 hx hZ (hw _ (List.mem_of_getElem? (i := 4) rfl)) e0 (g := (mkF m 5 #[.val (.ref a1), .val (.ref a2), .unset, .unset, .unset, .unset, .unset] [(.int (1 : Int32))])) rfl (hb hby d2_5) rfl (by decide) (cap := 1) (by decide) (by decide) (by decide) (by decide)
  obtain ⟨b1, g1⟩ : ∃ z, z = h0.size := ⟨_, rfl⟩
  rw [← g1] at A1 st1
  refine GoW.st st1 ?_
  have gg1 : n0 ≤ b1 := Nat.le_trans (Nat.le_trans Z0 K0.1) (Nat.le_of_eq g1.symm)
  have sz1 : h0.size ≤ b1 := Nat.le_trans K0.1 (Nat.le_of_eq g1.symm)
  have ne1_a1 : a1 ≠ b1 := Nat.ne_of_lt (Nat.lt_of_lt_of_le pre_V_a1.lt (Nat.le_of_eq g1.symm))
  have ne1_a2 : a2 ≠ b1 := Nat.ne_of_lt (Nat.lt_of_lt_of_le pre_V_a2.lt (Nat.le_of_eq g1.symm))
  have f2_V_a1 : Arv Z h1 a1 ka .long (1 : Int32) [(.long x0)] (.long (0 : Int64)) := pre_V_a1.ext E1
  have f2_V_a2 : Arv Z h1 a2 kc .long (0 : Int32) [] (.long (0 : Int64)) := pre_V_a2.ext E1
  have K1 : Keep h0 h1 [] := K0.ext E1
  have V1 : Arv Z h1 b1 k1 .long (1 : Int32) [(.long (0 : Int64))] (.long (0 : Int64)) := (Arv.new A1 (by decide)).pad (pad_rep [] (.long (0 : Int64)) 1)
  show GoW p e below QQ (T1.setTop (mkF m 7 #[.val (.ref a1), .val (.ref a2), .unset, .unset, .unset, .unset, .unset] [(.ref b1)]))
  refine GoW.st (fun t k => XS.astoreN X1.here hx rfl (hb hby d2_7) rfl rfl (l' := #[.val (.ref a1), .val (.ref a2), .val (.ref b1), .unset, .unset, .unset, .unset]) rfl (XS.iconst X1.here hx rfl (hb hby d2_8) (XS.istoreN X1.here hx rfl (hb hby d2_9) rfl (l' := #[.val (.ref a1), .val (.ref a2), .val (.ref b1), .val (.int (0 : Int32)), .unset, .unset, .unset]) rfl (XS.iconst X1.here hx rfl (hb hby d2_10) (XS.istore X1.here hx rfl (hb hby d2_11) rfl (l' := #[.val (.ref a1), .val (.ref a2), .val (.ref b1), .val (.int (0 : Int32)), .val (.int (0 : Int32)), .unset, .unset]) rfl (XS.iconst X1.here hx rfl (hb hby d2_13) k)))))) ?_
  show GoW p e below QQ (T1.setTop (mkF m 14 #[.val (.ref a1), .val (.ref a2), .val (.ref b1), .val (.int (0 : Int32)), .val (.int (0 : Int32)), .unset, .unset] [(.int (0 : Int32))]))
  refine GoW.st (fun t k => XS.istore X1.here hx rfl (hb hby d2_14) rfl (l' := #[.val (.ref a1), .val (.ref a2), .val (.ref b1), .val (.int (0 : Int32)), .val (.int (0 : Int32)), .val (.int (0 : Int32)), .unset]) rfl (XS.iload X1.here hx rfl (hb hby d2_16) rfl (XS.aloadN X1.here hx rfl (hb hby d2_18) rfl rfl (lnV X1 hx hZ e1 V1 (g := (mkF m 19 #[.val (.ref a1), .val (.ref a2), .val (.ref b1), .val (.int (0 : Int32)), .val (.int (0 : Int32)), .val (.int (0 : Int32)), .unset] [(.ref b1), (.int (0 : Int32))])) rfl rfl (hb hby d2_19) t k)))) ?_
  show GoW p e below QQ (T1.setTop (mkF m 20 #[.val (.ref a1), .val (.ref a2), .val (.ref b1), .val (.int (0 : Int32)), .val (.int (0 : Int32)), .val (.int (0 : Int32)), .unset] [(.int (1 : Int32)), (.int (0 : Int32))]))
  have hc20 : (0 : Int32) < (1 : Int32) := by decide
  refine GoW.st (fun t k => XS.icmpNo X1.here hx rfl (hb hby d2_20) rfl (tlt hc20).2.1 (XS.iload X1.here hx rfl (hb hby d2_23) rfl (XS.aloadN X1.here hx rfl (hb hby d2_25) rfl rfl (lnV X1 hx hZ e1 f2_V_a2 (g := (mkF m 26 #[.val (.ref a1), .val (.ref a2), .val (.ref b1), .val (.int (0 : Int32)), .val (.int (0 : Int32)), .val (.int (0 : Int32)), .unset] [(.ref a2), (.int (0 : Int32))])) rfl rfl (hb hby d2_26) t k)))) ?_
  show GoW p e below QQ (T1.setTop (mkF m 27 #[.val (.ref a1), .val (.ref a2), .val (.ref b1), .val (.int (0 : Int32)), .val (.int (0 : Int32)), .val (.int (0 : Int32)), .unset] [(.int (0 : Int32)), (.int (0 : Int32))]))
  have hc27 : (0 : Int32) = (0 : Int32) := by decide
  refine GoW.st (fun t k => XS.icmpYes X1.here hx rfl (pc0 := 27) (pc' := 47) rfl (hb hby d2_27) rfl (teq hc27).1 (by decide) (by decide) (XS.iconst X1.here hx rfl (hb hby d2_47) (XS.goto X1.here hx rfl (pc0 := 48) (pc' := 52) rfl (hb hby d2_48) (by decide) (by decide) (XS.istore X1.here hx rfl (hb hby d2_52) rfl (l' := #[.val (.ref a1), .val (.ref a2), .val (.ref b1), .val (.int (0 : Int32)), .val (.int (0 : Int32)), .val (.int (0 : Int32)), .val (.int (1 : Int32))]) rfl (XS.aloadN X1.here hx rfl (hb hby d2_54) rfl rfl (XS.iload X1.here hx rfl (hb hby d2_55) rfl k)))))) ?_
  show GoW p e below QQ (T1.setTop (mkF m 57 #[.val (.ref a1), .val (.ref a2), .val (.ref b1), .val (.int (0 : Int32)), .val (.int (0 : Int32)), .val (.int (0 : Int32)), .val (.int (1 : Int32))] [(.int (0 : Int32)), (.ref b1)]))
  refine GoW.st (fun t k => XS.iload X1.here hx rfl (hb hby d2_57) rfl k) ?_
  show GoW p e below QQ (T1.setTop (mkF m 59 #[.val (.ref a1), .val (.ref a2), .val (.ref b1), .val (.int (0 : Int32)), .val (.int (0 : Int32)), .val (.int (0 : Int32)), .val (.int (1 : Int32))] [(.int (1 : Int32)), (.int (0 : Int32)), (.ref b1)]))
  have hc59 : ¬ ((1 : Int32) = (0 : Int32)) := by decide
  refine GoW.st (fun t k => XS.ifNo X1.here hx rfl (hb hby d2_59) rfl ((if0 _ _).trans (feq hc59).1) (XS.aloadN X1.here hx rfl (hb hby d2_62) rfl rfl (XS.iloadN X1.here hx rfl (hb hby d2_63) rfl (XS.iinc X1.here hx rfl (hb hby d2_64) rfl (l' := #[.val (.ref a1), .val (.ref a2), .val (.ref b1), .val (.int (1 : Int32)), .val (.int (0 : Int32)), .val (.int (0 : Int32)), .val (.int (1 : Int32))]) rfl (ldVJ X1 hx hZ e1 f2_V_a1 (v := (.long x0)) ⟨by decide, by decide⟩ rfl (g := (mkF m 67 #[.val (.ref a1), .val (.ref a2), .val (.ref b1), .val (.int (1 : Int32)), .val (.int (0 : Int32)), .val (.int (0 : Int32)), .val (.int (1 : Int32))] [(.int (0 : Int32)), (.ref a1), (.int (0 : Int32)), (.ref b1)])) rfl rfl (hb hby d2_67) t (XS.goto X1.here hx rfl (pc0 := 68) (pc' := 78) rfl (hb hby d2_68) (by decide) (by decide) k)))))) ?_
  show GoW p e below QQ (T1.setTop (mkF m 78 #[.val (.ref a1), .val (.ref a2), .val (.ref b1), .val (.int (1 : Int32)), .val (.int (0 : Int32)), .val (.int (0 : Int32)), .val (.int (1 : Int32))] [(.long x0), (.int (0 : Int32)), (.ref b1)]))
  obtain ⟨T3, h3, X3, e3, W3, V3, st3⟩ := stVJ X1 hx hZ e1 V1 ⟨by decide, by decide⟩ 0 rfl (Nat.le_of_ble_eq_true rfl) (g := (mkF m 78 #[.val (.ref a1), .val (.ref a2), .val (.ref b1), .val (.int (1 : Int32)), .val (.int (0 : Int32)), .val (.int (0 : Int32)), .val (.int (1 : Int32))] [(.long x0), (.int (0 : Int32)), (.ref b1)])) rfl rfl (hb hby d2_78)
  refine GoW.st st3 ?_
  have f4_V_a1 : Arv Z h3 a1 ka .long (1 : Int32) [(.long x0)] (.long (0 : Int64)) := f2_V_a1.other W3 ne1_a1
  have f4_V_a2 : Arv Z h3 a2 kc .long (0 : Int32) [] (.long (0 : Int64)) := f2_V_a2.other W3 ne1_a2
  have f4_V_b1 : Arv Z h3 b1 k1 .long (1 : Int32) [(.long x0)] (.long (0 : Int64)) := V3
  have K3 : Keep h0 h3 [] := K1.wr W3 (Or.inr sz1)
  have N3 := Fr.snoc X3 N0 gg1
  show GoW p e below QQ (T3.setTop (mkF m 79 #[.val (.ref a1), .val (.ref a2), .val (.ref b1), .val (.int (1 : Int32)), .val (.int (0 : Int32)), .val (.int (0 : Int32)), .val (.int (1 : Int32))] []))
  refine GoW.st (fun t k => XS.iinc X3.here hx rfl (hb hby d2_79) rfl (l' := #[.val (.ref a1), .val (.ref a2), .val (.ref b1), .val (.int (1 : Int32)), .val (.int (0 : Int32)), .val (.int (1 : Int32)), .val (.int (1 : Int32))]) rfl (XS.goto X3.here hx rfl (pc0 := 82) (pc' := 16) rfl (hb hby d2_82) (by decide) (by decide) (XS.iload X3.here hx rfl (hb hby d2_16) rfl (XS.aloadN X3.here hx rfl (hb hby d2_18) rfl rfl (lnV X3 hx hZ e3 f4_V_b1 (g := (mkF m 19 #[.val (.ref a1), .val (.ref a2), .val (.ref b1), .val (.int (1 : Int32)), .val (.int (0 : Int32)), .val (.int (1 : Int32)), .val (.int (1 : Int32))] [(.ref b1), (.int (1 : Int32))])) rfl rfl (hb hby d2_19) t k))))) ?_
  show GoW p e below QQ (T3.setTop (mkF m 20 #[.val (.ref a1), .val (.ref a2), .val (.ref b1), .val (.int (1 : Int32)), .val (.int (0 : Int32)), .val (.int (1 : Int32)), .val (.int (1 : Int32))] [(.int (1 : Int32)), (.int (1 : Int32))]))
  have hc20_2 : ¬ ((1 : Int32) < (1 : Int32)) := by decide
  refine GoW.st (fun t k => XS.icmpYes X3.here hx rfl (pc0 := 20) (pc' := 85) rfl (hb hby d2_20) rfl (flt hc20_2).2.1 (by decide) (by decide) (XS.aloadN X3.here hx rfl (hb hby d2_85) rfl rfl k)) ?_
  show GoW p e below QQ (T3.setTop (mkF m 86 #[.val (.ref a1), .val (.ref a2), .val (.ref b1), .val (.int (1 : Int32)), .val (.int (0 : Int32)), .val (.int (1 : Int32)), .val (.int (1 : Int32))] [(.ref b1)]))
  exact GoW.fin X3 (some (.ref b1)) (fun q => by rw [hret] at q; cases q) hlk hQ e3 ⟨b1, k1, x0, rfl, N3, K3, sz1, f4_V_b1, (by omega)⟩ (by decide) (by decide) (fun fs hr => retOut X3 hx hret rfl (Or.inr (Or.inr (Or.inr (Or.inr ⟨rfl, rfl, rfl⟩)))) (hb hby d2_86) hr)
theorem d2_36 : decode prog_63_method_6_code 36 = .ok (.aload_n 0, 1) := by decide +kernel
theorem d2_37 : decode prog_63_method_6_code 37 = .ok (.iload_n 3, 1) := by decide +kernel
theorem d2_38 : decode prog_63_method_6_code 38 = .ok (.laload, 1) := by decide +kernel
theorem d2_39 : decode prog_63_method_6_code 39 = .ok (.aload_n 1, 1) := by decide +kernel
theorem d2_40 : decode prog_63_method_6_code 40 = .ok (.iload 4, 2) := by decide +kernel
theorem d2_42 : decode prog_63_method_6_code 42 = .ok (.laload, 1) := by decide +kernel
theorem d2_43 : decode prog_63_method_6_code 43 = .ok (.lcmp, 1) := by decide +kernel
theorem d2_44 : decode prog_63_method_6_code 44 = .ok (.ifCond .gt 7, 3) := by decide +kernel
def RM2_11 : Room := { frames := 0, cells := 1, slots := 2, locals := 0 }
def Q2_11 (Z : State) (a1 : Addr) (a2 : Addr) (ka : ClassId) (kc : ClassId) (x0 : Int64) (y0 : Int64) (h0 : Heap) (n0 : Nat) (v : Option Value) (h : Heap) (L : List Loc) : Prop := ∃ (b : Addr) (kb : ClassId) (w0 : Int64) (w1 : Int64), v = some (.ref b) ∧ Fr n0 L ∧ Keep h0 h [] ∧ (h0.size ≤ b) ∧ (Arv Z h b kb .long (2 : Int32) [(.long w0), (.long w1)] (.long (0 : Int64))) ∧ (w0.toInt = (min x0.toInt y0.toInt) ∧ w1.toInt = (max x0.toInt y0.toInt))
set_option maxRecDepth 65536 in
set_option maxHeartbeats 40000000 in
theorem rm2_11 (l : Launch) (Z : State) (a0 : Array Value) (hw : ∀ d ∈ tables_1, d.before a0 Z = true) (ws : List Jvm.Cond) (a1 : Addr) (a2 : Addr) (ka : ClassId) (kc : ClassId) (x0 : Int64) (y0 : Int64) (h0 : Heap) (n0 : Nat) (Z0 : n0 ≤ h0.size) (pre_V_a1 : Arv Z h0 a1 ka .long (1 : Int32) [(.long x0)] (.long (0 : Int64))) (pre_V_a2 : Arv Z h0 a2 kc .long (1 : Int32) [(.long y0)] (.long (0 : Int64))) :
    MetFree l (⟨"com/example/hike/hike/Holders", "merge", "([J[J)[J"⟩ : MethodName) (head1 (Jvm.Cond.code (⟨"com/example/hike/hike/Holders", "merge", "([J[J)[J"⟩ : MethodName) prog_63_method_6_code 7 (some (.array .long)) :: ws) RM2_11) (fun a U => a = #[(.ref a1), (.ref a2)] ∧ Z.Warmed39 U.vm ∧ U.heap = h0) (fun _ _ _ _ _ => True) (fun _ U o U' => ∃ v L, o = .returned v ∧ Q2_11 Z a1 a2 ka kc x0 y0 h0 n0 v U'.heap L ∧ FrameEnd U o U' L RM2_11.cells RM2_11.slots) := by
  refine met_of (Q := fun v h L => Q2_11 Z a1 a2 ka kc x0 y0 h0 n0 v h L) (plainFor_of_name pn_1) (fun m => by first | (simp [entryFrame, mkF, argsToLocals, Value.category]; done) | rfl) (Ls := #[.val (.ref a1), .val (.ref a2), .unset, .unset, .unset, .unset, .unset]) ?_
  intro p e s m below meth c T0 QQ hx hZ hby hml hown hnm hret hlk X0 e0 hQ
  have hml : c.maxLocals = 7 := hml
  have hown : s.vm.findClass "com/example/hike/hike/Holders" = some m.cls := hown
  have hnm : meth.name = "merge" := hnm
  have hret : meth.sig.returnType = some (.array .long) := hret
  have N0 := Fr.nil n0
  have K0 : Keep h0 h0 [] := Keep.refl h0 _
  show GoW p e below QQ (T0.setTop (mkF m 0 #[.val (.ref a1), .val (.ref a2), .unset, .unset, .unset, .unset, .unset] []))
  refine GoW.st (fun t k => XS.aloadN X0.here hx rfl (hb hby d2_0) rfl rfl (lnV X0 hx hZ e0 pre_V_a1 (g := (mkF m 1 #[.val (.ref a1), .val (.ref a2), .unset, .unset, .unset, .unset, .unset] [(.ref a1)])) rfl rfl (hb hby d2_1) t (XS.aloadN X0.here hx rfl (hb hby d2_2) rfl rfl (lnV X0 hx hZ e0 pre_V_a2 (g := (mkF m 3 #[.val (.ref a1), .val (.ref a2), .unset, .unset, .unset, .unset, .unset] [(.ref a2), (.int (1 : Int32))])) rfl rfl (hb hby d2_3) t (XS.iadd X0.here hx rfl (hb hby d2_4) rfl k))))) ?_
  show GoW p e below QQ (T0.setTop (mkF m 5 #[.val (.ref a1), .val (.ref a2), .unset, .unset, .unset, .unset, .unset] [(.int (2 : Int32))]))
  obtain ⟨T1, h1, k1, X1, e1, E1, A1, st1⟩ := newP X0 hx hZ (hw _ (List.mem_of_getElem? (i := 4) rfl)) e0 (g := (mkF m 5 #[.val (.ref a1), .val (.ref a2), .unset, .unset, .unset, .unset, .unset] [(.int (2 : Int32))])) rfl (hb hby d2_5) rfl (by decide) (cap := 2) (by decide) (by decide) (by decide) (by decide)
  obtain ⟨b1, g1⟩ : ∃ z, z = h0.size := ⟨_, rfl⟩
  rw [← g1] at A1 st1
  refine GoW.st st1 ?_
  have gg1 : n0 ≤ b1 := Nat.le_trans (Nat.le_trans Z0 K0.1) (Nat.le_of_eq g1.symm)
  have sz1 : h0.size ≤ b1 := Nat.le_trans K0.1 (Nat.le_of_eq g1.symm)
  have ne1_a1 : a1 ≠ b1 := Nat.ne_of_lt (Nat.lt_of_lt_of_le pre_V_a1.lt (Nat.le_of_eq g1.symm))
  have ne1_a2 : a2 ≠ b1 := Nat.ne_of_lt (Nat.lt_of_lt_of_le pre_V_a2.lt (Nat.le_of_eq g1.symm))
  have f2_V_a1 : Arv Z h1 a1 ka .long (1 : Int32) [(.long x0)] (.long (0 : Int64)) := pre_V_a1.ext E1
  have f2_V_a2 : Arv Z h1 a2 kc .long (1 : Int32) [(.long y0)] (.long (0 : Int64)) := pre_V_a2.ext E1
  have K1 : Keep h0 h1 [] := K0.ext E1
  have V1 : Arv Z h1 b1 k1 .long (2 : Int32) [(.long (0 : Int64)), (.long (0 : Int64))] (.long (0 : Int64)) := (Arv.new A1 (by decide)).pad (pad_rep [] (.long (0 : Int64)) 2)
  show GoW p e below QQ (T1.setTop (mkF m 7 #[.val (.ref a1), .val (.ref a2), .unset, .unset, .unset, .unset, .unset] [(.ref b1)]))
  refine GoW.st (fun t k => XS.astoreN X1.here hx rfl (hb hby d2_7) rfl rfl (l' := #[.val (.ref a1), .val (.ref a2), .val (.ref b1), .unset, .unset, .unset, .unset]) rfl (XS.iconst X1.here hx rfl (hb hby d2_8) (XS.istoreN X1.here hx rfl (hb hby d2_9) rfl (l' := #[.val (.ref a1), .val (.ref a2), .val (.ref b1), .val (.int (0 : Int32)), .unset, .unset, .unset]) rfl (XS.iconst X1.here hx rfl (hb hby d2_10) (XS.istore X1.here hx rfl (hb hby d2_11) rfl (l' := #[.val (.ref a1), .val (.ref a2), .val (.ref b1), .val (.int (0 : Int32)), .val (.int (0 : Int32)), .unset, .unset]) rfl (XS.iconst X1.here hx rfl (hb hby d2_13) k)))))) ?_
  show GoW p e below QQ (T1.setTop (mkF m 14 #[.val (.ref a1), .val (.ref a2), .val (.ref b1), .val (.int (0 : Int32)), .val (.int (0 : Int32)), .unset, .unset] [(.int (0 : Int32))]))
  refine GoW.st (fun t k => XS.istore X1.here hx rfl (hb hby d2_14) rfl (l' := #[.val (.ref a1), .val (.ref a2), .val (.ref b1), .val (.int (0 : Int32)), .val (.int (0 : Int32)), .val (.int (0 : Int32)), .unset]) rfl (XS.iload X1.here hx rfl (hb hby d2_16) rfl (XS.aloadN X1.here hx rfl (hb hby d2_18) rfl rfl (lnV X1 hx hZ e1 V1 (g := (mkF m 19 #[.val (.ref a1), .val (.ref a2), .val (.ref b1), .val (.int (0 : Int32)), .val (.int (0 : Int32)), .val (.int (0 : Int32)), .unset] [(.ref b1), (.int (0 : Int32))])) rfl rfl (hb hby d2_19) t k)))) ?_
  show GoW p e below QQ (T1.setTop (mkF m 20 #[.val (.ref a1), .val (.ref a2), .val (.ref b1), .val (.int (0 : Int32)), .val (.int (0 : Int32)), .val (.int (0 : Int32)), .unset] [(.int (2 : Int32)), (.int (0 : Int32))]))
  have hc20 : (0 : Int32) < (2 : Int32) := by decide
  refine GoW.st (fun t k => XS.icmpNo X1.here hx rfl (hb hby d2_20) rfl (tlt hc20).2.1 (XS.iload X1.here hx rfl (hb hby d2_23) rfl (XS.aloadN X1.here hx rfl (hb hby d2_25) rfl rfl (lnV X1 hx hZ e1 f2_V_a2 (g := (mkF m 26 #[.val (.ref a1), .val (.ref a2), .val (.ref b1), .val (.int (0 : Int32)), .val (.int (0 : Int32)), .val (.int (0 : Int32)), .unset] [(.ref a2), (.int (0 : Int32))])) rfl rfl (hb hby d2_26) t k)))) ?_
  show GoW p e below QQ (T1.setTop (mkF m 27 #[.val (.ref a1), .val (.ref a2), .val (.ref b1), .val (.int (0 : Int32)), .val (.int (0 : Int32)), .val (.int (0 : Int32)), .unset] [(.int (1 : Int32)), (.int (0 : Int32))]))
  have hc27 : ¬ ((0 : Int32) = (1 : Int32)) := by decide
  refine GoW.st (fun t k => XS.icmpNo X1.here hx rfl (hb hby d2_27) rfl (feq hc27).1 (XS.iloadN X1.here hx rfl (hb hby d2_30) rfl (XS.aloadN X1.here hx rfl (hb hby d2_31) rfl rfl (lnV X1 hx hZ e1 f2_V_a1 (g := (mkF m 32 #[.val (.ref a1), .val (.ref a2), .val (.ref b1), .val (.int (0 : Int32)), .val (.int (0 : Int32)), .val (.int (0 : Int32)), .unset] [(.ref a1), (.int (0 : Int32))])) rfl rfl (hb hby d2_32) t k)))) ?_
  show GoW p e below QQ (T1.setTop (mkF m 33 #[.val (.ref a1), .val (.ref a2), .val (.ref b1), .val (.int (0 : Int32)), .val (.int (0 : Int32)), .val (.int (0 : Int32)), .unset] [(.int (1 : Int32)), (.int (0 : Int32))]))
  have hc33 : (0 : Int32) < (1 : Int32) := by decide
  refine GoW.st (fun t k => XS.icmpNo X1.here hx rfl (hb hby d2_33) rfl (tlt hc33).2.1 (XS.aloadN X1.here hx rfl (hb hby d2_36) rfl rfl (XS.iloadN X1.here hx rfl (hb hby d2_37) rfl (ldVJ X1 hx hZ e1 f2_V_a1 (v := (.long x0)) ⟨by decide, by decide⟩ rfl (g := (mkF m 38 #[.val (.ref a1), .val (.ref a2), .val (.ref b1), .val (.int (0 : Int32)), .val (.int (0 : Int32)), .val (.int (0 : Int32)), .unset] [(.int (0 : Int32)), (.ref a1)])) rfl rfl (hb hby d2_38) t (XS.aloadN X1.here hx rfl (hb hby d2_39) rfl rfl (XS.iload X1.here hx rfl (hb hby d2_40) rfl k)))))) ?_
  show GoW p e below QQ (T1.setTop (mkF m 42 #[.val (.ref a1), .val (.ref a2), .val (.ref b1), .val (.int (0 : Int32)), .val (.int (0 : Int32)), .val (.int (0 : Int32)), .unset] [(.int (0 : Int32)), (.ref a2), (.long x0)]))
  refine GoW.st (fun t k => ldVJ X1 hx hZ e1 f2_V_a2 (v := (.long y0)) ⟨by decide, by decide⟩ rfl (g := (mkF m 42 #[.val (.ref a1), .val (.ref a2), .val (.ref b1), .val (.int (0 : Int32)), .val (.int (0 : Int32)), .val (.int (0 : Int32)), .unset] [(.int (0 : Int32)), (.ref a2), (.long x0)])) rfl rfl (hb hby d2_42) t (XS.lcmp X1.here hx rfl (hb hby d2_43) rfl k)) ?_
  show GoW p e below QQ (T1.setTop (mkF m 44 #[.val (.ref a1), .val (.ref a2), .val (.ref b1), .val (.int (0 : Int32)), .val (.int (0 : Int32)), .val (.int (0 : Int32)), .unset] [(.int (lcmpW x0 y0))]))
  by_cases hc44 : y0 < x0
  · skip
    refine GoW.st (fun t k => XS.ifYes X1.here hx rfl (pc0 := 44) (pc' := 51) rfl (hb hby d2_44) rfl ((if0 _ _).trans (tlt ((lw_gt x0 y0).mpr hc44)).2.2.1) (by decide) (by decide) k) ?_
    show GoW p e below QQ (T1.setTop (mkF m 51 #[.val (.ref a1), .val (.ref a2), .val (.ref b1), .val (.int (0 : Int32)), .val (.int (0 : Int32)), .val (.int (0 : Int32)), .unset] []))
    have hi44 : y0.toInt < x0.toInt := (Int64.lt_iff_toInt_lt.mp hc44)
    refine GoW.st (fun t k => XS.iconst X1.here hx rfl (hb hby d2_51) (XS.istore X1.here hx rfl (hb hby d2_52) rfl (l' := #[.val (.ref a1), .val (.ref a2), .val (.ref b1), .val (.int (0 : Int32)), .val (.int (0 : Int32)), .val (.int (0 : Int32)), .val (.int (0 : Int32))]) rfl (XS.aloadN X1.here hx rfl (hb hby d2_54) rfl rfl (XS.iload X1.here hx rfl (hb hby d2_55) rfl (XS.iload X1.here hx rfl (hb hby d2_57) rfl k))))) ?_
    show GoW p e below QQ (T1.setTop (mkF m 59 #[.val (.ref a1), .val (.ref a2), .val (.ref b1), .val (.int (0 : Int32)), .val (.int (0 : Int32)), .val (.int (0 : Int32)), .val (.int (0 : Int32))] [(.int (0 : Int32)), (.int (0 : Int32)), (.ref b1)]))
    have hc59 : (0 : Int32) = (0 : Int32) := by decide
    refine GoW.st (fun t k => XS.ifYes X1.here hx rfl (pc0 := 59) (pc' := 71) rfl (hb hby d2_59) rfl ((if0 _ _).trans (teq hc59).1) (by decide) (by decide) (XS.aloadN X1.here hx rfl (hb hby d2_71) rfl rfl (XS.iload X1.here hx rfl (hb hby d2_72) rfl (XS.iinc X1.here hx rfl (hb hby d2_74) rfl (l' := #[.val (.ref a1), .val (.ref a2), .val (.ref b1), .val (.int (0 : Int32)), .val (.int (1 : Int32)), .val (.int (0 : Int32)), .val (.int (0 : Int32))]) rfl (ldVJ X1 hx hZ e1 f2_V_a2 (v := (.long y0)) ⟨by decide, by decide⟩ rfl (g := (mkF m 77 #[.val (.ref a1), .val (.ref a2), .val (.ref b1), .val (.int (0 : Int32)), .val (.int (1 : Int32)), .val (.int (0 : Int32)), .val (.int (0 : Int32))] [(.int (0 : Int32)), (.ref a2), (.int (0 : Int32)), (.ref b1)])) rfl rfl (hb hby d2_77) t k))))) ?_
    show GoW p e below QQ (T1.setTop (mkF m 78 #[.val (.ref a1), .val (.ref a2), .val (.ref b1), .val (.int (0 : Int32)), .val (.int (1 : Int32)), .val (.int (0 : Int32)), .val (.int (0 : Int32))] [(.long y0), (.int (0 : Int32)), (.ref b1)]))
    obtain ⟨T3, h3, X3, e3, W3, V3, st3⟩ := stVJ X1 hx hZ e1 V1 ⟨by decide, by decide⟩ 0 rfl (Nat.le_of_ble_eq_true rfl) (g := (mkF m 78 #[.val (.ref a1), .val (.ref a2), .val (.ref b1), .val (.int (0 : Int32)), .val (.int (1 : Int32)), .val (.int (0 : Int32)), .val (.int (0 : Int32))] [(.long y0), (.int (0 : Int32)), (.ref b1)])) rfl rfl (hb hby d2_78)
    refine GoW.st st3 ?_
    have f4_V_a1 : Arv Z h3 a1 ka .long (1 : Int32) [(.long x0)] (.long (0 : Int64)) := f2_V_a1.other W3 ne1_a1
    have f4_V_a2 : Arv Z h3 a2 kc .long (1 : Int32) [(.long y0)] (.long (0 : Int64)) := f2_V_a2.other W3 ne1_a2
    have f4_V_b1 : Arv Z h3 b1 k1 .long (2 : Int32) [(.long y0), (.long (0 : Int64))] (.long (0 : Int64)) := V3
    have K3 : Keep h0 h3 [] := K1.wr W3 (Or.inr sz1)
    have N3 := Fr.snoc X3 N0 gg1
    show GoW p e below QQ (T3.setTop (mkF m 79 #[.val (.ref a1), .val (.ref a2), .val (.ref b1), .val (.int (0 : Int32)), .val (.int (1 : Int32)), .val (.int (0 : Int32)), .val (.int (0 : Int32))] []))
    refine GoW.st (fun t k => XS.iinc X3.here hx rfl (hb hby d2_79) rfl (l' := #[.val (.ref a1), .val (.ref a2), .val (.ref b1), .val (.int (0 : Int32)), .val (.int (1 : Int32)), .val (.int (1 : Int32)), .val (.int (0 : Int32))]) rfl (XS.goto X3.here hx rfl (pc0 := 82) (pc' := 16) rfl (hb hby d2_82) (by decide) (by decide) (XS.iload X3.here hx rfl (hb hby d2_16) rfl (XS.aloadN X3.here hx rfl (hb hby d2_18) rfl rfl (lnV X3 hx hZ e3 f4_V_b1 (g := (mkF m 19 #[.val (.ref a1), .val (.ref a2), .val (.ref b1), .val (.int (0 : Int32)), .val (.int (1 : Int32)), .val (.int (1 : Int32)), .val (.int (0 : Int32))] [(.ref b1), (.int (1 : Int32))])) rfl rfl (hb hby d2_19) t k))))) ?_
    show GoW p e below QQ (T3.setTop (mkF m 20 #[.val (.ref a1), .val (.ref a2), .val (.ref b1), .val (.int (0 : Int32)), .val (.int (1 : Int32)), .val (.int (1 : Int32)), .val (.int (0 : Int32))] [(.int (2 : Int32)), (.int (1 : Int32))]))
    have hc20_2 : (1 : Int32) < (2 : Int32) := by decide
    refine GoW.st (fun t k => XS.icmpNo X3.here hx rfl (hb hby d2_20) rfl (tlt hc20_2).2.1 (XS.iload X3.here hx rfl (hb hby d2_23) rfl (XS.aloadN X3.here hx rfl (hb hby d2_25) rfl rfl (lnV X3 hx hZ e3 f4_V_a2 (g := (mkF m 26 #[.val (.ref a1), .val (.ref a2), .val (.ref b1), .val (.int (0 : Int32)), .val (.int (1 : Int32)), .val (.int (1 : Int32)), .val (.int (0 : Int32))] [(.ref a2), (.int (1 : Int32))])) rfl rfl (hb hby d2_26) t k)))) ?_
    show GoW p e below QQ (T3.setTop (mkF m 27 #[.val (.ref a1), .val (.ref a2), .val (.ref b1), .val (.int (0 : Int32)), .val (.int (1 : Int32)), .val (.int (1 : Int32)), .val (.int (0 : Int32))] [(.int (1 : Int32)), (.int (1 : Int32))]))
    have hc27_2 : (1 : Int32) = (1 : Int32) := by decide
    refine GoW.st (fun t k => XS.icmpYes X3.here hx rfl (pc0 := 27) (pc' := 47) rfl (hb hby d2_27) rfl (teq hc27_2).1 (by decide) (by decide) (XS.iconst X3.here hx rfl (hb hby d2_47) (XS.goto X3.here hx rfl (pc0 := 48) (pc' := 52) rfl (hb hby d2_48) (by decide) (by decide) (XS.istore X3.here hx rfl (hb hby d2_52) rfl (l' := #[.val (.ref a1), .val (.ref a2), .val (.ref b1), .val (.int (0 : Int32)), .val (.int (1 : Int32)), .val (.int (1 : Int32)), .val (.int (1 : Int32))]) rfl (XS.aloadN X3.here hx rfl (hb hby d2_54) rfl rfl (XS.iload X3.here hx rfl (hb hby d2_55) rfl k)))))) ?_
    show GoW p e below QQ (T3.setTop (mkF m 57 #[.val (.ref a1), .val (.ref a2), .val (.ref b1), .val (.int (0 : Int32)), .val (.int (1 : Int32)), .val (.int (1 : Int32)), .val (.int (1 : Int32))] [(.int (1 : Int32)), (.ref b1)]))
    refine GoW.st (fun t k => XS.iload X3.here hx rfl (hb hby d2_57) rfl k) ?_
    show GoW p e below QQ (T3.setTop (mkF m 59 #[.val (.ref a1), .val (.ref a2), .val (.ref b1), .val (.int (0 : Int32)), .val (.int (1 : Int32)), .val (.int (1 : Int32)), .val (.int (1 : Int32))] [(.int (1 : Int32)), (.int (1 : Int32)), (.ref b1)]))
    have hc59_2 : ¬ ((1 : Int32) = (0 : Int32)) := by decide
    refine GoW.st (fun t k => XS.ifNo X3.here hx rfl (hb hby d2_59) rfl ((if0 _ _).trans (feq hc59_2).1) (XS.aloadN X3.here hx rfl (hb hby d2_62) rfl rfl (XS.iloadN X3.here hx rfl (hb hby d2_63) rfl (XS.iinc X3.here hx rfl (hb hby d2_64) rfl (l' := #[.val (.ref a1), .val (.ref a2), .val (.ref b1), .val (.int (1 : Int32)), .val (.int (1 : Int32)), .val (.int (1 : Int32)), .val (.int (1 : Int32))]) rfl (ldVJ X3 hx hZ e3 f4_V_a1 (v := (.long x0)) ⟨by decide, by decide⟩ rfl (g := (mkF m 67 #[.val (.ref a1), .val (.ref a2), .val (.ref b1), .val (.int (1 : Int32)), .val (.int (1 : Int32)), .val (.int (1 : Int32)), .val (.int (1 : Int32))] [(.int (0 : Int32)), (.ref a1), (.int (1 : Int32)), (.ref b1)])) rfl rfl (hb hby d2_67) t (XS.goto X3.here hx rfl (pc0 := 68) (pc' := 78) rfl (hb hby d2_68) (by decide) (by decide) k)))))) ?_
    show GoW p e below QQ (T3.setTop (mkF m 78 #[.val (.ref a1), .val (.ref a2), .val (.ref b1), .val (.int (1 : Int32)), .val (.int (1 : Int32)), .val (.int (1 : Int32)), .val (.int (1 : Int32))] [(.long x0), (.int (1 : Int32)), (.ref b1)]))
    obtain ⟨T5, h5, X5, e5, W5, V5, st5⟩ := stVJ X3 hx hZ e3 f4_V_b1 ⟨by decide, by decide⟩ 1 rfl (Nat.le_of_ble_eq_true rfl) (g := (mkF m 78 #[.val (.ref a1), .val (.ref a2), .val (.ref b1), .val (.int (1 : Int32)), .val (.int (1 : Int32)), .val (.int (1 : Int32)), .val (.int (1 : Int32))] [(.long x0), (.int (1 : Int32)), (.ref b1)])) rfl rfl (hb hby d2_78)
    refine GoW.st st5 ?_
    have f6_V_a1 : Arv Z h5 a1 ka .long (1 : Int32) [(.long x0)] (.long (0 : Int64)) := f4_V_a1.other W5 ne1_a1
    have f6_V_a2 : Arv Z h5 a2 kc .long (1 : Int32) [(.long y0)] (.long (0 : Int64)) := f4_V_a2.other W5 ne1_a2
    have f6_V_b1 : Arv Z h5 b1 k1 .long (2 : Int32) [(.long y0), (.long x0)] (.long (0 : Int64)) := V5
    have K5 : Keep h0 h5 [] := K3.wr W5 (Or.inr sz1)
    have N5 := Fr.snoc X5 N3 gg1
    show GoW p e below QQ (T5.setTop (mkF m 79 #[.val (.ref a1), .val (.ref a2), .val (.ref b1), .val (.int (1 : Int32)), .val (.int (1 : Int32)), .val (.int (1 : Int32)), .val (.int (1 : Int32))] []))
    refine GoW.st (fun t k => XS.iinc X5.here hx rfl (hb hby d2_79) rfl (l' := #[.val (.ref a1), .val (.ref a2), .val (.ref b1), .val (.int (1 : Int32)), .val (.int (1 : Int32)), .val (.int (2 : Int32)), .val (.int (1 : Int32))]) rfl (XS.goto X5.here hx rfl (pc0 := 82) (pc' := 16) rfl (hb hby d2_82) (by decide) (by decide) (XS.iload X5.here hx rfl (hb hby d2_16) rfl (XS.aloadN X5.here hx rfl (hb hby d2_18) rfl rfl (lnV X5 hx hZ e5 f6_V_b1 (g := (mkF m 19 #[.val (.ref a1), .val (.ref a2), .val (.ref b1), .val (.int (1 : Int32)), .val (.int (1 : Int32)), .val (.int (2 : Int32)), .val (.int (1 : Int32))] [(.ref b1), (.int (2 : Int32))])) rfl rfl (hb hby d2_19) t k))))) ?_
    show GoW p e below QQ (T5.setTop (mkF m 20 #[.val (.ref a1), .val (.ref a2), .val (.ref b1), .val (.int (1 : Int32)), .val (.int (1 : Int32)), .val (.int (2 : Int32)), .val (.int (1 : Int32))] [(.int (2 : Int32)), (.int (2 : Int32))]))
    have hc20_3 : ¬ ((2 : Int32) < (2 : Int32)) := by decide
    refine GoW.st (fun t k => XS.icmpYes X5.here hx rfl (pc0 := 20) (pc' := 85) rfl (hb hby d2_20) rfl (flt hc20_3).2.1 (by decide) (by decide) (XS.aloadN X5.here hx rfl (hb hby d2_85) rfl rfl k)) ?_
    show GoW p e below QQ (T5.setTop (mkF m 86 #[.val (.ref a1), .val (.ref a2), .val (.ref b1), .val (.int (1 : Int32)), .val (.int (1 : Int32)), .val (.int (2 : Int32)), .val (.int (1 : Int32))] [(.ref b1)]))
    exact GoW.fin X5 (some (.ref b1)) (fun q => by rw [hret] at q; cases q) hlk hQ e5 ⟨b1, k1, y0, x0, rfl, N5, K5, sz1, f6_V_b1, (by omega)⟩ (by decide) (by decide) (fun fs hr => retOut X5 hx hret rfl (Or.inr (Or.inr (Or.inr (Or.inr ⟨rfl, rfl, rfl⟩)))) (hb hby d2_86) hr)
  · skip
    refine GoW.st (fun t k => XS.ifNo X1.here hx rfl (hb hby d2_44) rfl ((if0 _ _).trans (flt (fun q => hc44 ((lw_gt x0 y0).mp q))).2.2.1) k) ?_
    show GoW p e below QQ (T1.setTop (mkF m 47 #[.val (.ref a1), .val (.ref a2), .val (.ref b1), .val (.int (0 : Int32)), .val (.int (0 : Int32)), .val (.int (0 : Int32)), .unset] []))
    have hi44 : ¬ (y0.toInt < x0.toInt) := (fun q => hc44 (Int64.lt_iff_toInt_lt.mpr q))
    refine GoW.st (fun t k => XS.iconst X1.here hx rfl (hb hby d2_47) (XS.goto X1.here hx rfl (pc0 := 48) (pc' := 52) rfl (hb hby d2_48) (by decide) (by decide) (XS.istore X1.here hx rfl (hb hby d2_52) rfl (l' := #[.val (.ref a1), .val (.ref a2), .val (.ref b1), .val (.int (0 : Int32)), .val (.int (0 : Int32)), .val (.int (0 : Int32)), .val (.int (1 : Int32))]) rfl (XS.aloadN X1.here hx rfl (hb hby d2_54) rfl rfl (XS.iload X1.here hx rfl (hb hby d2_55) rfl (XS.iload X1.here hx rfl (hb hby d2_57) rfl k)))))) ?_
    show GoW p e below QQ (T1.setTop (mkF m 59 #[.val (.ref a1), .val (.ref a2), .val (.ref b1), .val (.int (0 : Int32)), .val (.int (0 : Int32)), .val (.int (0 : Int32)), .val (.int (1 : Int32))] [(.int (1 : Int32)), (.int (0 : Int32)), (.ref b1)]))
    have hc59 : ¬ ((1 : Int32) = (0 : Int32)) := by decide
    refine GoW.st (fun t k => XS.ifNo X1.here hx rfl (hb hby d2_59) rfl ((if0 _ _).trans (feq hc59).1) (XS.aloadN X1.here hx rfl (hb hby d2_62) rfl rfl (XS.iloadN X1.here hx rfl (hb hby d2_63) rfl (XS.iinc X1.here hx rfl (hb hby d2_64) rfl (l' := #[.val (.ref a1), .val (.ref a2), .val (.ref b1), .val (.int (1 : Int32)), .val (.int (0 : Int32)), .val (.int (0 : Int32)), .val (.int (1 : Int32))]) rfl (ldVJ X1 hx hZ e1 f2_V_a1 (v := (.long x0)) ⟨by decide, by decide⟩ rfl (g := (mkF m 67 #[.val (.ref a1), .val (.ref a2), .val (.ref b1), .val (.int (1 : Int32)), .val (.int (0 : Int32)), .val (.int (0 : Int32)), .val (.int (1 : Int32))] [(.int (0 : Int32)), (.ref a1), (.int (0 : Int32)), (.ref b1)])) rfl rfl (hb hby d2_67) t (XS.goto X1.here hx rfl (pc0 := 68) (pc' := 78) rfl (hb hby d2_68) (by decide) (by decide) k)))))) ?_
    show GoW p e below QQ (T1.setTop (mkF m 78 #[.val (.ref a1), .val (.ref a2), .val (.ref b1), .val (.int (1 : Int32)), .val (.int (0 : Int32)), .val (.int (0 : Int32)), .val (.int (1 : Int32))] [(.long x0), (.int (0 : Int32)), (.ref b1)]))
    obtain ⟨T7, h7, X7, e7, W7, V7, st7⟩ := stVJ X1 hx hZ e1 V1 ⟨by decide, by decide⟩ 0 rfl (Nat.le_of_ble_eq_true rfl) (g := (mkF m 78 #[.val (.ref a1), .val (.ref a2), .val (.ref b1), .val (.int (1 : Int32)), .val (.int (0 : Int32)), .val (.int (0 : Int32)), .val (.int (1 : Int32))] [(.long x0), (.int (0 : Int32)), (.ref b1)])) rfl rfl (hb hby d2_78)
    refine GoW.st st7 ?_
    have f8_V_a1 : Arv Z h7 a1 ka .long (1 : Int32) [(.long x0)] (.long (0 : Int64)) := f2_V_a1.other W7 ne1_a1
    have f8_V_a2 : Arv Z h7 a2 kc .long (1 : Int32) [(.long y0)] (.long (0 : Int64)) := f2_V_a2.other W7 ne1_a2
    have f8_V_b1 : Arv Z h7 b1 k1 .long (2 : Int32) [(.long x0), (.long (0 : Int64))] (.long (0 : Int64)) := V7
    have K7 : Keep h0 h7 [] := K1.wr W7 (Or.inr sz1)
    have N7 := Fr.snoc X7 N0 gg1
    show GoW p e below QQ (T7.setTop (mkF m 79 #[.val (.ref a1), .val (.ref a2), .val (.ref b1), .val (.int (1 : Int32)), .val (.int (0 : Int32)), .val (.int (0 : Int32)), .val (.int (1 : Int32))] []))
    refine GoW.st (fun t k => XS.iinc X7.here hx rfl (hb hby d2_79) rfl (l' := #[.val (.ref a1), .val (.ref a2), .val (.ref b1), .val (.int (1 : Int32)), .val (.int (0 : Int32)), .val (.int (1 : Int32)), .val (.int (1 : Int32))]) rfl (XS.goto X7.here hx rfl (pc0 := 82) (pc' := 16) rfl (hb hby d2_82) (by decide) (by decide) (XS.iload X7.here hx rfl (hb hby d2_16) rfl (XS.aloadN X7.here hx rfl (hb hby d2_18) rfl rfl (lnV X7 hx hZ e7 f8_V_b1 (g := (mkF m 19 #[.val (.ref a1), .val (.ref a2), .val (.ref b1), .val (.int (1 : Int32)), .val (.int (0 : Int32)), .val (.int (1 : Int32)), .val (.int (1 : Int32))] [(.ref b1), (.int (1 : Int32))])) rfl rfl (hb hby d2_19) t k))))) ?_
    show GoW p e below QQ (T7.setTop (mkF m 20 #[.val (.ref a1), .val (.ref a2), .val (.ref b1), .val (.int (1 : Int32)), .val (.int (0 : Int32)), .val (.int (1 : Int32)), .val (.int (1 : Int32))] [(.int (2 : Int32)), (.int (1 : Int32))]))
    have hc20_2 : (1 : Int32) < (2 : Int32) := by decide
    refine GoW.st (fun t k => XS.icmpNo X7.here hx rfl (hb hby d2_20) rfl (tlt hc20_2).2.1 (XS.iload X7.here hx rfl (hb hby d2_23) rfl (XS.aloadN X7.here hx rfl (hb hby d2_25) rfl rfl (lnV X7 hx hZ e7 f8_V_a2 (g := (mkF m 26 #[.val (.ref a1), .val (.ref a2), .val (.ref b1), .val (.int (1 : Int32)), .val (.int (0 : Int32)), .val (.int (1 : Int32)), .val (.int (1 : Int32))] [(.ref a2), (.int (0 : Int32))])) rfl rfl (hb hby d2_26) t k)))) ?_
    show GoW p e below QQ (T7.setTop (mkF m 27 #[.val (.ref a1), .val (.ref a2), .val (.ref b1), .val (.int (1 : Int32)), .val (.int (0 : Int32)), .val (.int (1 : Int32)), .val (.int (1 : Int32))] [(.int (1 : Int32)), (.int (0 : Int32))]))
    have hc27_2 : ¬ ((0 : Int32) = (1 : Int32)) := by decide
    refine GoW.st (fun t k => XS.icmpNo X7.here hx rfl (hb hby d2_27) rfl (feq hc27_2).1 (XS.iloadN X7.here hx rfl (hb hby d2_30) rfl (XS.aloadN X7.here hx rfl (hb hby d2_31) rfl rfl (lnV X7 hx hZ e7 f8_V_a1 (g := (mkF m 32 #[.val (.ref a1), .val (.ref a2), .val (.ref b1), .val (.int (1 : Int32)), .val (.int (0 : Int32)), .val (.int (1 : Int32)), .val (.int (1 : Int32))] [(.ref a1), (.int (1 : Int32))])) rfl rfl (hb hby d2_32) t k)))) ?_
    show GoW p e below QQ (T7.setTop (mkF m 33 #[.val (.ref a1), .val (.ref a2), .val (.ref b1), .val (.int (1 : Int32)), .val (.int (0 : Int32)), .val (.int (1 : Int32)), .val (.int (1 : Int32))] [(.int (1 : Int32)), (.int (1 : Int32))]))
    have hc33_2 : ¬ ((1 : Int32) < (1 : Int32)) := by decide
    refine GoW.st (fun t k => XS.icmpYes X7.here hx rfl (pc0 := 33) (pc' := 51) rfl (hb hby d2_33) rfl (flt hc33_2).2.1 (by decide) (by decide) (XS.iconst X7.here hx rfl (hb hby d2_51) (XS.istore X7.here hx rfl (hb hby d2_52) rfl (l' := #[.val (.ref a1), .val (.ref a2), .val (.ref b1), .val (.int (1 : Int32)), .val (.int (0 : Int32)), .val (.int (1 : Int32)), .val (.int (0 : Int32))]) rfl (XS.aloadN X7.here hx rfl (hb hby d2_54) rfl rfl (XS.iload X7.here hx rfl (hb hby d2_55) rfl (XS.iload X7.here hx rfl (hb hby d2_57) rfl k)))))) ?_
    show GoW p e below QQ (T7.setTop (mkF m 59 #[.val (.ref a1), .val (.ref a2), .val (.ref b1), .val (.int (1 : Int32)), .val (.int (0 : Int32)), .val (.int (1 : Int32)), .val (.int (0 : Int32))] [(.int (0 : Int32)), (.int (1 : Int32)), (.ref b1)]))
    have hc59_2 : (0 : Int32) = (0 : Int32) := by decide
    refine GoW.st (fun t k => XS.ifYes X7.here hx rfl (pc0 := 59) (pc' := 71) rfl (hb hby d2_59) rfl ((if0 _ _).trans (teq hc59_2).1) (by decide) (by decide) (XS.aloadN X7.here hx rfl (hb hby d2_71) rfl rfl (XS.iload X7.here hx rfl (hb hby d2_72) rfl (XS.iinc X7.here hx rfl (hb hby d2_74) rfl (l' := #[.val (.ref a1), .val (.ref a2), .val (.ref b1), .val (.int (1 : Int32)), .val (.int (1 : Int32)), .val (.int (1 : Int32)), .val (.int (0 : Int32))]) rfl (ldVJ X7 hx hZ e7 f8_V_a2 (v := (.long y0)) ⟨by decide, by decide⟩ rfl (g := (mkF m 77 #[.val (.ref a1), .val (.ref a2), .val (.ref b1), .val (.int (1 : Int32)), .val (.int (1 : Int32)), .val (.int (1 : Int32)), .val (.int (0 : Int32))] [(.int (0 : Int32)), (.ref a2), (.int (1 : Int32)), (.ref b1)])) rfl rfl (hb hby d2_77) t k))))) ?_
    show GoW p e below QQ (T7.setTop (mkF m 78 #[.val (.ref a1), .val (.ref a2), .val (.ref b1), .val (.int (1 : Int32)), .val (.int (1 : Int32)), .val (.int (1 : Int32)), .val (.int (0 : Int32))] [(.long y0), (.int (1 : Int32)), (.ref b1)]))
    obtain ⟨T9, h9, X9, e9, W9, V9, st9⟩ := stVJ X7 hx hZ e7 f8_V_b1 ⟨by decide, by decide⟩ 1 rfl (Nat.le_of_ble_eq_true rfl) (g := (mkF m 78 #[.val (.ref a1), .val (.ref a2), .val (.ref b1), .val (.int (1 : Int32)), .val (.int (1 : Int32)), .val (.int (1 : Int32)), .val (.int (0 : Int32))] [(.long y0), (.int (1 : Int32)), (.ref b1)])) rfl rfl (hb hby d2_78)
    refine GoW.st st9 ?_
    have f10_V_a1 : Arv Z h9 a1 ka .long (1 : Int32) [(.long x0)] (.long (0 : Int64)) := f8_V_a1.other W9 ne1_a1
    have f10_V_a2 : Arv Z h9 a2 kc .long (1 : Int32) [(.long y0)] (.long (0 : Int64)) := f8_V_a2.other W9 ne1_a2
    have f10_V_b1 : Arv Z h9 b1 k1 .long (2 : Int32) [(.long x0), (.long y0)] (.long (0 : Int64)) := V9
    have K9 : Keep h0 h9 [] := K7.wr W9 (Or.inr sz1)
    have N9 := Fr.snoc X9 N7 gg1
    show GoW p e below QQ (T9.setTop (mkF m 79 #[.val (.ref a1), .val (.ref a2), .val (.ref b1), .val (.int (1 : Int32)), .val (.int (1 : Int32)), .val (.int (1 : Int32)), .val (.int (0 : Int32))] []))
    refine GoW.st (fun t k => XS.iinc X9.here hx rfl (hb hby d2_79) rfl (l' := #[.val (.ref a1), .val (.ref a2), .val (.ref b1), .val (.int (1 : Int32)), .val (.int (1 : Int32)), .val (.int (2 : Int32)), .val (.int (0 : Int32))]) rfl (XS.goto X9.here hx rfl (pc0 := 82) (pc' := 16) rfl (hb hby d2_82) (by decide) (by decide) (XS.iload X9.here hx rfl (hb hby d2_16) rfl (XS.aloadN X9.here hx rfl (hb hby d2_18) rfl rfl (lnV X9 hx hZ e9 f10_V_b1 (g := (mkF m 19 #[.val (.ref a1), .val (.ref a2), .val (.ref b1), .val (.int (1 : Int32)), .val (.int (1 : Int32)), .val (.int (2 : Int32)), .val (.int (0 : Int32))] [(.ref b1), (.int (2 : Int32))])) rfl rfl (hb hby d2_19) t k))))) ?_
    show GoW p e below QQ (T9.setTop (mkF m 20 #[.val (.ref a1), .val (.ref a2), .val (.ref b1), .val (.int (1 : Int32)), .val (.int (1 : Int32)), .val (.int (2 : Int32)), .val (.int (0 : Int32))] [(.int (2 : Int32)), (.int (2 : Int32))]))
    have hc20_3 : ¬ ((2 : Int32) < (2 : Int32)) := by decide
    refine GoW.st (fun t k => XS.icmpYes X9.here hx rfl (pc0 := 20) (pc' := 85) rfl (hb hby d2_20) rfl (flt hc20_3).2.1 (by decide) (by decide) (XS.aloadN X9.here hx rfl (hb hby d2_85) rfl rfl k)) ?_
    show GoW p e below QQ (T9.setTop (mkF m 86 #[.val (.ref a1), .val (.ref a2), .val (.ref b1), .val (.int (1 : Int32)), .val (.int (1 : Int32)), .val (.int (2 : Int32)), .val (.int (0 : Int32))] [(.ref b1)]))
    exact GoW.fin X9 (some (.ref b1)) (fun q => by rw [hret] at q; cases q) hlk hQ e9 ⟨b1, k1, x0, y0, rfl, N9, K9, sz1, f10_V_b1, (by omega)⟩ (by decide) (by decide) (fun fs hr => retOut X9 hx hret rfl (Or.inr (Or.inr (Or.inr (Or.inr ⟨rfl, rfl, rfl⟩)))) (hb hby d2_86) hr)
def RM2_12 : Room := { frames := 0, cells := 1, slots := 3, locals := 0 }
def Q2_12 (Z : State) (a1 : Addr) (a2 : Addr) (ka : ClassId) (kc : ClassId) (x0 : Int64) (y0 : Int64) (y1 : Int64) (h0 : Heap) (n0 : Nat) (v : Option Value) (h : Heap) (L : List Loc) : Prop := ∃ (b : Addr) (kb : ClassId) (w0 : Int64) (w1 : Int64) (w2 : Int64), v = some (.ref b) ∧ Fr n0 L ∧ Keep h0 h [] ∧ (h0.size ≤ b) ∧ (Arv Z h b kb .long (3 : Int32) [(.long w0), (.long w1), (.long w2)] (.long (0 : Int64))) ∧ (w0.toInt = (min x0.toInt y0.toInt) ∧ w1.toInt = (min (max x0.toInt y0.toInt) y1.toInt) ∧ w2.toInt = (max x0.toInt y1.toInt))
set_option maxRecDepth 65536 in
set_option maxHeartbeats 40000000 in
theorem rm2_12 (l : Launch) (Z : State) (a0 : Array Value) (hw : ∀ d ∈ tables_1, d.before a0 Z = true) (ws : List Jvm.Cond) (a1 : Addr) (a2 : Addr) (ka : ClassId) (kc : ClassId) (x0 : Int64) (y0 : Int64) (y1 : Int64) (h0 : Heap) (n0 : Nat) (Z0 : n0 ≤ h0.size) (pre_V_a1 : Arv Z h0 a1 ka .long (1 : Int32) [(.long x0)] (.long (0 : Int64))) (pre_V_a2 : Arv Z h0 a2 kc .long (2 : Int32) [(.long y0), (.long y1)] (.long (0 : Int64))) (hy01 : y0.toInt ≤ y1.toInt) :
    MetFree l (⟨"com/example/hike/hike/Holders", "merge", "([J[J)[J"⟩ : MethodName) (head1 (Jvm.Cond.code (⟨"com/example/hike/hike/Holders", "merge", "([J[J)[J"⟩ : MethodName) prog_63_method_6_code 7 (some (.array .long)) :: ws) RM2_12) (fun a U => a = #[(.ref a1), (.ref a2)] ∧ Z.Warmed39 U.vm ∧ U.heap = h0) (fun _ _ _ _ _ => True) (fun _ U o U' => ∃ v L, o = .returned v ∧ Q2_12 Z a1 a2 ka kc x0 y0 y1 h0 n0 v U'.heap L ∧ FrameEnd U o U' L RM2_12.cells RM2_12.slots) := by
  refine met_of (Q := fun v h L => Q2_12 Z a1 a2 ka kc x0 y0 y1 h0 n0 v h L) (plainFor_of_name pn_1) (fun m => by first | (simp [entryFrame, mkF, argsToLocals, Value.category]; done) | rfl) (Ls := #[.val (.ref a1), .val (.ref a2), .unset, .unset, .unset, .unset, .unset]) ?_
  intro p e s m below meth c T0 QQ hx hZ hby hml hown hnm hret hlk X0 e0 hQ
  have hml : c.maxLocals = 7 := hml
  have hown : s.vm.findClass "com/example/hike/hike/Holders" = some m.cls := hown
  have hnm : meth.name = "merge" := hnm
  have hret : meth.sig.returnType = some (.array .long) := hret
  have N0 := Fr.nil n0
  have K0 : Keep h0 h0 [] := Keep.refl h0 _
  show GoW p e below QQ (T0.setTop (mkF m 0 #[.val (.ref a1), .val (.ref a2), .unset, .unset, .unset, .unset, .unset] []))
  refine GoW.st (fun t k => XS.aloadN X0.here hx rfl (hb hby d2_0) rfl rfl (lnV X0 hx hZ e0 pre_V_a1 (g := (mkF m 1 #[.val (.ref a1), .val (.ref a2), .unset, .unset, .unset, .unset, .unset] [(.ref a1)])) rfl rfl (hb hby d2_1) t (XS.aloadN X0.here hx rfl (hb hby d2_2) rfl rfl (lnV X0 hx hZ e0 pre_V_a2 (g := (mkF m 3 #[.val (.ref a1), .val (.ref a2), .unset, .unset, .unset, .unset, .unset] [(.ref a2), (.int (1 : Int32))])) rfl rfl (hb hby d2_3) t (XS.iadd X0.here hx rfl (hb hby d2_4) rfl k))))) ?_
  show GoW p e below QQ (T0.setTop (mkF m 5 #[.val (.ref a1), .val (.ref a2), .unset, .unset, .unset, .unset, .unset] [(.int (3 : Int32))]))
  obtain ⟨T1, h1, k1, X1, e1, E1, A1, st1⟩ := newP X0 hx hZ (hw _ (List.mem_of_getElem? (i := 4) rfl)) e0 (g := (mkF m 5 #[.val (.ref a1), .val (.ref a2), .unset, .unset, .unset, .unset, .unset] [(.int (3 : Int32))])) rfl (hb hby d2_5) rfl (by decide) (cap := 3) (by decide) (by decide) (by decide) (by decide)
  obtain ⟨b1, g1⟩ : ∃ z, z = h0.size := ⟨_, rfl⟩
  rw [← g1] at A1 st1
  refine GoW.st st1 ?_
  have gg1 : n0 ≤ b1 := Nat.le_trans (Nat.le_trans Z0 K0.1) (Nat.le_of_eq g1.symm)
  have sz1 : h0.size ≤ b1 := Nat.le_trans K0.1 (Nat.le_of_eq g1.symm)
  have ne1_a1 : a1 ≠ b1 := Nat.ne_of_lt (Nat.lt_of_lt_of_le pre_V_a1.lt (Nat.le_of_eq g1.symm))
  have ne1_a2 : a2 ≠ b1 := Nat.ne_of_lt (Nat.lt_of_lt_of_le pre_V_a2.lt (Nat.le_of_eq g1.symm))
  have f2_V_a1 : Arv Z h1 a1 ka .long (1 : Int32) [(.long x0)] (.long (0 : Int64)) := pre_V_a1.ext E1
  have f2_V_a2 : Arv Z h1 a2 kc .long (2 : Int32) [(.long y0), (.long y1)] (.long (0 : Int64)) := pre_V_a2.ext E1
  have K1 : Keep h0 h1 [] := K0.ext E1
  have V1 : Arv Z h1 b1 k1 .long (3 : Int32) [(.long (0 : Int64)), (.long (0 : Int64)), (.long (0 : Int64))] (.long (0 : Int64)) := (Arv.new A1 (by decide)).pad (pad_rep [] (.long (0 : Int64)) 3)
  show GoW p e below QQ (T1.setTop (mkF m 7 #[.val (.ref a1), .val (.ref a2), .unset, .unset, .unset, .unset, .unset] [(.ref b1)]))
  refine GoW.st (fun t k => XS.astoreN X1.here hx rfl (hb hby d2_7) rfl rfl (l' := #[.val (.ref a1), .val (.ref a2), .val (.ref b1), .unset, .unset, .unset, .unset]) rfl (XS.iconst X1.here hx rfl (hb hby d2_8) (XS.istoreN X1.here hx rfl (hb hby d2_9) rfl (l' := #[.val (.ref a1), .val (.ref a2), .val (.ref b1), .val (.int (0 : Int32)), .unset, .unset, .unset]) rfl (XS.iconst X1.here hx rfl (hb hby d2_10) (XS.istore X1.here hx rfl (hb hby d2_11) rfl (l' := #[.val (.ref a1), .val (.ref a2), .val (.ref b1), .val (.int (0 : Int32)), .val (.int (0 : Int32)), .unset, .unset]) rfl (XS.iconst X1.here hx rfl (hb hby d2_13) k)))))) ?_
  show GoW p e below QQ (T1.setTop (mkF m 14 #[.val (.ref a1), .val (.ref a2), .val (.ref b1), .val (.int (0 : Int32)), .val (.int (0 : Int32)), .unset, .unset] [(.int (0 : Int32))]))
  refine GoW.st (fun t k => XS.istore X1.here hx rfl (hb hby d2_14) rfl (l' := #[.val (.ref a1), .val (.ref a2), .val (.ref b1), .val (.int (0 : Int32)), .val (.int (0 : Int32)), .val (.int (0 : Int32)), .unset]) rfl (XS.iload X1.here hx rfl (hb hby d2_16) rfl (XS.aloadN X1.here hx rfl (hb hby d2_18) rfl rfl (lnV X1 hx hZ e1 V1 (g := (mkF m 19 #[.val (.ref a1), .val (.ref a2), .val (.ref b1), .val (.int (0 : Int32)), .val (.int (0 : Int32)), .val (.int (0 : Int32)), .unset] [(.ref b1), (.int (0 : Int32))])) rfl rfl (hb hby d2_19) t k)))) ?_
  show GoW p e below QQ (T1.setTop (mkF m 20 #[.val (.ref a1), .val (.ref a2), .val (.ref b1), .val (.int (0 : Int32)), .val (.int (0 : Int32)), .val (.int (0 : Int32)), .unset] [(.int (3 : Int32)), (.int (0 : Int32))]))
  have hc20 : (0 : Int32) < (3 : Int32) := by decide
  refine GoW.st (fun t k => XS.icmpNo X1.here hx rfl (hb hby d2_20) rfl (tlt hc20).2.1 (XS.iload X1.here hx rfl (hb hby d2_23) rfl (XS.aloadN X1.here hx rfl (hb hby d2_25) rfl rfl (lnV X1 hx hZ e1 f2_V_a2 (g := (mkF m 26 #[.val (.ref a1), .val (.ref a2), .val (.ref b1), .val (.int (0 : Int32)), .val (.int (0 : Int32)), .val (.int (0 : Int32)), .unset] [(.ref a2), (.int (0 : Int32))])) rfl rfl (hb hby d2_26) t k)))) ?_
  show GoW p e below QQ (T1.setTop (mkF m 27 #[.val (.ref a1), .val (.ref a2), .val (.ref b1), .val (.int (0 : Int32)), .val (.int (0 : Int32)), .val (.int (0 : Int32)), .unset] [(.int (2 : Int32)), (.int (0 : Int32))]))
  have hc27 : ¬ ((0 : Int32) = (2 : Int32)) := by decide
  refine GoW.st (fun t k => XS.icmpNo X1.here hx rfl (hb hby d2_27) rfl (feq hc27).1 (XS.iloadN X1.here hx rfl (hb hby d2_30) rfl (XS.aloadN X1.here hx rfl (hb hby d2_31) rfl rfl (lnV X1 hx hZ e1 f2_V_a1 (g := (mkF m 32 #[.val (.ref a1), .val (.ref a2), .val (.ref b1), .val (.int (0 : Int32)), .val (.int (0 : Int32)), .val (.int (0 : Int32)), .unset] [(.ref a1), (.int (0 : Int32))])) rfl rfl (hb hby d2_32) t k)))) ?_
  show GoW p e below QQ (T1.setTop (mkF m 33 #[.val (.ref a1), .val (.ref a2), .val (.ref b1), .val (.int (0 : Int32)), .val (.int (0 : Int32)), .val (.int (0 : Int32)), .unset] [(.int (1 : Int32)), (.int (0 : Int32))]))
  have hc33 : (0 : Int32) < (1 : Int32) := by decide
  refine GoW.st (fun t k => XS.icmpNo X1.here hx rfl (hb hby d2_33) rfl (tlt hc33).2.1 (XS.aloadN X1.here hx rfl (hb hby d2_36) rfl rfl (XS.iloadN X1.here hx rfl (hb hby d2_37) rfl (ldVJ X1 hx hZ e1 f2_V_a1 (v := (.long x0)) ⟨by decide, by decide⟩ rfl (g := (mkF m 38 #[.val (.ref a1), .val (.ref a2), .val (.ref b1), .val (.int (0 : Int32)), .val (.int (0 : Int32)), .val (.int (0 : Int32)), .unset] [(.int (0 : Int32)), (.ref a1)])) rfl rfl (hb hby d2_38) t (XS.aloadN X1.here hx rfl (hb hby d2_39) rfl rfl (XS.iload X1.here hx rfl (hb hby d2_40) rfl k)))))) ?_
  show GoW p e below QQ (T1.setTop (mkF m 42 #[.val (.ref a1), .val (.ref a2), .val (.ref b1), .val (.int (0 : Int32)), .val (.int (0 : Int32)), .val (.int (0 : Int32)), .unset] [(.int (0 : Int32)), (.ref a2), (.long x0)]))
  refine GoW.st (fun t k => ldVJ X1 hx hZ e1 f2_V_a2 (v := (.long y0)) ⟨by decide, by decide⟩ rfl (g := (mkF m 42 #[.val (.ref a1), .val (.ref a2), .val (.ref b1), .val (.int (0 : Int32)), .val (.int (0 : Int32)), .val (.int (0 : Int32)), .unset] [(.int (0 : Int32)), (.ref a2), (.long x0)])) rfl rfl (hb hby d2_42) t (XS.lcmp X1.here hx rfl (hb hby d2_43) rfl k)) ?_
  show GoW p e below QQ (T1.setTop (mkF m 44 #[.val (.ref a1), .val (.ref a2), .val (.ref b1), .val (.int (0 : Int32)), .val (.int (0 : Int32)), .val (.int (0 : Int32)), .unset] [(.int (lcmpW x0 y0))]))
  by_cases hc44 : y0 < x0
  · skip
    refine GoW.st (fun t k => XS.ifYes X1.here hx rfl (pc0 := 44) (pc' := 51) rfl (hb hby d2_44) rfl ((if0 _ _).trans (tlt ((lw_gt x0 y0).mpr hc44)).2.2.1) (by decide) (by decide) k) ?_
    show GoW p e below QQ (T1.setTop (mkF m 51 #[.val (.ref a1), .val (.ref a2), .val (.ref b1), .val (.int (0 : Int32)), .val (.int (0 : Int32)), .val (.int (0 : Int32)), .unset] []))
    have hi44 : y0.toInt < x0.toInt := (Int64.lt_iff_toInt_lt.mp hc44)
    refine GoW.st (fun t k => XS.iconst X1.here hx rfl (hb hby d2_51) (XS.istore X1.here hx rfl (hb hby d2_52) rfl (l' := #[.val (.ref a1), .val (.ref a2), .val (.ref b1), .val (.int (0 : Int32)), .val (.int (0 : Int32)), .val (.int (0 : Int32)), .val (.int (0 : Int32))]) rfl (XS.aloadN X1.here hx rfl (hb hby d2_54) rfl rfl (XS.iload X1.here hx rfl (hb hby d2_55) rfl (XS.iload X1.here hx rfl (hb hby d2_57) rfl k))))) ?_
    show GoW p e below QQ (T1.setTop (mkF m 59 #[.val (.ref a1), .val (.ref a2), .val (.ref b1), .val (.int (0 : Int32)), .val (.int (0 : Int32)), .val (.int (0 : Int32)), .val (.int (0 : Int32))] [(.int (0 : Int32)), (.int (0 : Int32)), (.ref b1)]))
    have hc59 : (0 : Int32) = (0 : Int32) := by decide
    refine GoW.st (fun t k => XS.ifYes X1.here hx rfl (pc0 := 59) (pc' := 71) rfl (hb hby d2_59) rfl ((if0 _ _).trans (teq hc59).1) (by decide) (by decide) (XS.aloadN X1.here hx rfl (hb hby d2_71) rfl rfl (XS.iload X1.here hx rfl (hb hby d2_72) rfl (XS.iinc X1.here hx rfl (hb hby d2_74) rfl (l' := #[.val (.ref a1), .val (.ref a2), .val (.ref b1), .val (.int (0 : Int32)), .val (.int (1 : Int32)), .val (.int (0 : Int32)), .val (.int (0 : Int32))]) rfl (ldVJ X1 hx hZ e1 f2_V_a2 (v := (.long y0)) ⟨by decide, by decide⟩ rfl (g := (mkF m 77 #[.val (.ref a1), .val (.ref a2), .val (.ref b1), .val (.int (0 : Int32)), .val (.int (1 : Int32)), .val (.int (0 : Int32)), .val (.int (0 : Int32))] [(.int (0 : Int32)), (.ref a2), (.int (0 : Int32)), (.ref b1)])) rfl rfl (hb hby d2_77) t k))))) ?_
    show GoW p e below QQ (T1.setTop (mkF m 78 #[.val (.ref a1), .val (.ref a2), .val (.ref b1), .val (.int (0 : Int32)), .val (.int (1 : Int32)), .val (.int (0 : Int32)), .val (.int (0 : Int32))] [(.long y0), (.int (0 : Int32)), (.ref b1)]))
    obtain ⟨T3, h3, X3, e3, W3, V3, st3⟩ := stVJ X1 hx hZ e1 V1 ⟨by decide, by decide⟩ 0 rfl (Nat.le_of_ble_eq_true rfl) (g := (mkF m 78 #[.val (.ref a1), .val (.ref a2), .val (.ref b1), .val (.int (0 : Int32)), .val (.int (1 : Int32)), .val (.int (0 : Int32)), .val (.int (0 : Int32))] [(.long y0), (.int (0 : Int32)), (.ref b1)])) rfl rfl (hb hby d2_78)
    refine GoW.st st3 ?_
    have f4_V_a1 : Arv Z h3 a1 ka .long (1 : Int32) [(.long x0)] (.long (0 : Int64)) := f2_V_a1.other W3 ne1_a1
    have f4_V_a2 : Arv Z h3 a2 kc .long (2 : Int32) [(.long y0), (.long y1)] (.long (0 : Int64)) := f2_V_a2.other W3 ne1_a2
    have f4_V_b1 : Arv Z h3 b1 k1 .long (3 : Int32) [(.long y0), (.long (0 : Int64)), (.long (0 : Int64))] (.long (0 : Int64)) := V3
    have K3 : Keep h0 h3 [] := K1.wr W3 (Or.inr sz1)
    have N3 := Fr.snoc X3 N0 gg1
    show GoW p e below QQ (T3.setTop (mkF m 79 #[.val (.ref a1), .val (.ref a2), .val (.ref b1), .val (.int (0 : Int32)), .val (.int (1 : Int32)), .val (.int (0 : Int32)), .val (.int (0 : Int32))] []))
    refine GoW.st (fun t k => XS.iinc X3.here hx rfl (hb hby d2_79) rfl (l' := #[.val (.ref a1), .val (.ref a2), .val (.ref b1), .val (.int (0 : Int32)), .val (.int (1 : Int32)), .val (.int (1 : Int32)), .val (.int (0 : Int32))]) rfl (XS.goto X3.here hx rfl (pc0 := 82) (pc' := 16) rfl (hb hby d2_82) (by decide) (by decide) (XS.iload X3.here hx rfl (hb hby d2_16) rfl (XS.aloadN X3.here hx rfl (hb hby d2_18) rfl rfl (lnV X3 hx hZ e3 f4_V_b1 (g := (mkF m 19 #[.val (.ref a1), .val (.ref a2), .val (.ref b1), .val (.int (0 : Int32)), .val (.int (1 : Int32)), .val (.int (1 : Int32)), .val (.int (0 : Int32))] [(.ref b1), (.int (1 : Int32))])) rfl rfl (hb hby d2_19) t k))))) ?_
    show GoW p e below QQ (T3.setTop (mkF m 20 #[.val (.ref a1), .val (.ref a2), .val (.ref b1), .val (.int (0 : Int32)), .val (.int (1 : Int32)), .val (.int (1 : Int32)), .val (.int (0 : Int32))] [(.int (3 : Int32)), (.int (1 : Int32))]))
    have hc20_2 : (1 : Int32) < (3 : Int32) := by decide
    refine GoW.st (fun t k => XS.icmpNo X3.here hx rfl (hb hby d2_20) rfl (tlt hc20_2).2.1 (XS.iload X3.here hx rfl (hb hby d2_23) rfl (XS.aloadN X3.here hx rfl (hb hby d2_25) rfl rfl (lnV X3 hx hZ e3 f4_V_a2 (g := (mkF m 26 #[.val (.ref a1), .val (.ref a2), .val (.ref b1), .val (.int (0 : Int32)), .val (.int (1 : Int32)), .val (.int (1 : Int32)), .val (.int (0 : Int32))] [(.ref a2), (.int (1 : Int32))])) rfl rfl (hb hby d2_26) t k)))) ?_
    show GoW p e below QQ (T3.setTop (mkF m 27 #[.val (.ref a1), .val (.ref a2), .val (.ref b1), .val (.int (0 : Int32)), .val (.int (1 : Int32)), .val (.int (1 : Int32)), .val (.int (0 : Int32))] [(.int (2 : Int32)), (.int (1 : Int32))]))
    have hc27_2 : ¬ ((1 : Int32) = (2 : Int32)) := by decide
    refine GoW.st (fun t k => XS.icmpNo X3.here hx rfl (hb hby d2_27) rfl (feq hc27_2).1 (XS.iloadN X3.here hx rfl (hb hby d2_30) rfl (XS.aloadN X3.here hx rfl (hb hby d2_31) rfl rfl (lnV X3 hx hZ e3 f4_V_a1 (g := (mkF m 32 #[.val (.ref a1), .val (.ref a2), .val (.ref b1), .val (.int (0 : Int32)), .val (.int (1 : Int32)), .val (.int (1 : Int32)), .val (.int (0 : Int32))] [(.ref a1), (.int (0 : Int32))])) rfl rfl (hb hby d2_32) t k)))) ?_
    show GoW p e below QQ (T3.setTop (mkF m 33 #[.val (.ref a1), .val (.ref a2), .val (.ref b1), .val (.int (0 : Int32)), .val (.int (1 : Int32)), .val (.int (1 : Int32)), .val (.int (0 : Int32))] [(.int (1 : Int32)), (.int (0 : Int32))]))
    have hc33_2 : (0 : Int32) < (1 : Int32) := by decide
    refine GoW.st (fun t k => XS.icmpNo X3.here hx rfl (hb hby d2_33) rfl (tlt hc33_2).2.1 (XS.aloadN X3.here hx rfl (hb hby d2_36) rfl rfl (XS.iloadN X3.here hx rfl (hb hby d2_37) rfl (ldVJ X3 hx hZ e3 f4_V_a1 (v := (.long x0)) ⟨by decide, by decide⟩ rfl (g := (mkF m 38 #[.val (.ref a1), .val (.ref a2), .val (.ref b1), .val (.int (0 : Int32)), .val (.int (1 : Int32)), .val (.int (1 : Int32)), .val (.int (0 : Int32))] [(.int (0 : Int32)), (.ref a1)])) rfl rfl (hb hby d2_38) t (XS.aloadN X3.here hx rfl (hb hby d2_39) rfl rfl (XS.iload X3.here hx rfl (hb hby d2_40) rfl k)))))) ?_
    show GoW p e below QQ (T3.setTop (mkF m 42 #[.val (.ref a1), .val (.ref a2), .val (.ref b1), .val (.int (0 : Int32)), .val (.int (1 : Int32)), .val (.int (1 : Int32)), .val (.int (0 : Int32))] [(.int (1 : Int32)), (.ref a2), (.long x0)]))
    refine GoW.st (fun t k => ldVJ X3 hx hZ e3 f4_V_a2 (v := (.long y1)) ⟨by decide, by decide⟩ rfl (g := (mkF m 42 #[.val (.ref a1), .val (.ref a2), .val (.ref b1), .val (.int (0 : Int32)), .val (.int (1 : Int32)), .val (.int (1 : Int32)), .val (.int (0 : Int32))] [(.int (1 : Int32)), (.ref a2), (.long x0)])) rfl rfl (hb hby d2_42) t (XS.lcmp X3.here hx rfl (hb hby d2_43) rfl k)) ?_
    show GoW p e below QQ (T3.setTop (mkF m 44 #[.val (.ref a1), .val (.ref a2), .val (.ref b1), .val (.int (0 : Int32)), .val (.int (1 : Int32)), .val (.int (1 : Int32)), .val (.int (0 : Int32))] [(.int (lcmpW x0 y1))]))
    by_cases hc44_2 : y1 < x0
    · skip
      refine GoW.st (fun t k => XS.ifYes X3.here hx rfl (pc0 := 44) (pc' := 51) rfl (hb hby d2_44) rfl ((if0 _ _).trans (tlt ((lw_gt x0 y1).mpr hc44_2)).2.2.1) (by decide) (by decide) k) ?_
      show GoW p e below QQ (T3.setTop (mkF m 51 #[.val (.ref a1), .val (.ref a2), .val (.ref b1), .val (.int (0 : Int32)), .val (.int (1 : Int32)), .val (.int (1 : Int32)), .val (.int (0 : Int32))] []))
      have hi44_2 : y1.toInt < x0.toInt := (Int64.lt_iff_toInt_lt.mp hc44_2)
      refine GoW.st (fun t k => XS.iconst X3.here hx rfl (hb hby d2_51) (XS.istore X3.here hx rfl (hb hby d2_52) rfl (l' := #[.val (.ref a1), .val (.ref a2), .val (.ref b1), .val (.int (0 : Int32)), .val (.int (1 : Int32)), .val (.int (1 : Int32)), .val (.int (0 : Int32))]) rfl (XS.aloadN X3.here hx rfl (hb hby d2_54) rfl rfl (XS.iload X3.here hx rfl (hb hby d2_55) rfl (XS.iload X3.here hx rfl (hb hby d2_57) rfl k))))) ?_
      show GoW p e below QQ (T3.setTop (mkF m 59 #[.val (.ref a1), .val (.ref a2), .val (.ref b1), .val (.int (0 : Int32)), .val (.int (1 : Int32)), .val (.int (1 : Int32)), .val (.int (0 : Int32))] [(.int (0 : Int32)), (.int (1 : Int32)), (.ref b1)]))
      have hc59_2 : (0 : Int32) = (0 : Int32) := by decide
      refine GoW.st (fun t k => XS.ifYes X3.here hx rfl (pc0 := 59) (pc' := 71) rfl (hb hby d2_59) rfl ((if0 _ _).trans (teq hc59_2).1) (by decide) (by decide) (XS.aloadN X3.here hx rfl (hb hby d2_71) rfl rfl (XS.iload X3.here hx rfl (hb hby d2_72) rfl (XS.iinc X3.here hx rfl (hb hby d2_74) rfl (l' := #[.val (.ref a1), .val (.ref a2), .val (.ref b1), .val (.int (0 : Int32)), .val (.int (2 : Int32)), .val (.int (1 : Int32)), .val (.int (0 : Int32))]) rfl (ldVJ X3 hx hZ e3 f4_V_a2 (v := (.long y1)) ⟨by decide, by decide⟩ rfl (g := (mkF m 77 #[.val (.ref a1), .val (.ref a2), .val (.ref b1), .val (.int (0 : Int32)), .val (.int (2 : Int32)), .val (.int (1 : Int32)), .val (.int (0 : Int32))] [(.int (1 : Int32)), (.ref a2), (.int (1 : Int32)), (.ref b1)])) rfl rfl (hb hby d2_77) t k))))) ?_
      show GoW p e below QQ (T3.setTop (mkF m 78 #[.val (.ref a1), .val (.ref a2), .val (.ref b1), .val (.int (0 : Int32)), .val (.int (2 : Int32)), .val (.int (1 : Int32)), .val (.int (0 : Int32))] [(.long y1), (.int (1 : Int32)), (.ref b1)]))
      obtain ⟨T5, h5, X5, e5, W5, V5, st5⟩ := stVJ X3 hx hZ e3 f4_V_b1 ⟨by decide, by decide⟩ 1 rfl (Nat.le_of_ble_eq_true rfl) (g := (mkF m 78 #[.val (.ref a1), .val (.ref a2), .val (.ref b1), .val (.int (0 : Int32)), .val (.int (2 : Int32)), .val (.int (1 : Int32)), .val (.int (0 : Int32))] [(.long y1), (.int (1 : Int32)), (.ref b1)])) rfl rfl (hb hby d2_78)
      refine GoW.st st5 ?_
      have f6_V_a1 : Arv Z h5 a1 ka .long (1 : Int32) [(.long x0)] (.long (0 : Int64)) := f4_V_a1.other W5 ne1_a1
      have f6_V_a2 : Arv Z h5 a2 kc .long (2 : Int32) [(.long y0), (.long y1)] (.long (0 : Int64)) := f4_V_a2.other W5 ne1_a2
      have f6_V_b1 : Arv Z h5 b1 k1 .long (3 : Int32) [(.long y0), (.long y1), (.long (0 : Int64))] (.long (0 : Int64)) := V5
      have K5 : Keep h0 h5 [] := K3.wr W5 (Or.inr sz1)
      have N5 := Fr.snoc X5 N3 gg1
      show GoW p e below QQ (T5.setTop (mkF m 79 #[.val (.ref a1), .val (.ref a2), .val (.ref b1), .val (.int (0 : Int32)), .val (.int (2 : Int32)), .val (.int (1 : Int32)), .val (.int (0 : Int32))] []))
      refine GoW.st (fun t k => XS.iinc X5.here hx rfl (hb hby d2_79) rfl (l' := #[.val (.ref a1), .val (.ref a2), .val (.ref b1), .val (.int (0 : Int32)), .val (.int (2 : Int32)), .val (.int (2 : Int32)), .val (.int (0 : Int32))]) rfl (XS.goto X5.here hx rfl (pc0 := 82) (pc' := 16) rfl (hb hby d2_82) (by decide) (by decide) (XS.iload X5.here hx rfl (hb hby d2_16) rfl (XS.aloadN X5.here hx rfl (hb hby d2_18) rfl rfl (lnV X5 hx hZ e5 f6_V_b1 (g := (mkF m 19 #[.val (.ref a1), .val (.ref a2), .val (.ref b1), .val (.int (0 : Int32)), .val (.int (2 : Int32)), .val (.int (2 : Int32)), .val (.int (0 : Int32))] [(.ref b1), (.int (2 : Int32))])) rfl rfl (hb hby d2_19) t k))))) ?_
      show GoW p e below QQ (T5.setTop (mkF m 20 #[.val (.ref a1), .val (.ref a2), .val (.ref b1), .val (.int (0 : Int32)), .val (.int (2 : Int32)), .val (.int (2 : Int32)), .val (.int (0 : Int32))] [(.int (3 : Int32)), (.int (2 : Int32))]))
      have hc20_3 : (2 : Int32) < (3 : Int32) := by decide
      refine GoW.st (fun t k => XS.icmpNo X5.here hx rfl (hb hby d2_20) rfl (tlt hc20_3).2.1 (XS.iload X5.here hx rfl (hb hby d2_23) rfl (XS.aloadN X5.here hx rfl (hb hby d2_25) rfl rfl (lnV X5 hx hZ e5 f6_V_a2 (g := (mkF m 26 #[.val (.ref a1), .val (.ref a2), .val (.ref b1), .val (.int (0 : Int32)), .val (.int (2 : Int32)), .val (.int (2 : Int32)), .val (.int (0 : Int32))] [(.ref a2), (.int (2 : Int32))])) rfl rfl (hb hby d2_26) t k)))) ?_
      show GoW p e below QQ (T5.setTop (mkF m 27 #[.val (.ref a1), .val (.ref a2), .val (.ref b1), .val (.int (0 : Int32)), .val (.int (2 : Int32)), .val (.int (2 : Int32)), .val (.int (0 : Int32))] [(.int (2 : Int32)), (.int (2 : Int32))]))
      have hc27_3 : (2 : Int32) = (2 : Int32) := by decide
      refine GoW.st (fun t k => XS.icmpYes X5.here hx rfl (pc0 := 27) (pc' := 47) rfl (hb hby d2_27) rfl (teq hc27_3).1 (by decide) (by decide) (XS.iconst X5.here hx rfl (hb hby d2_47) (XS.goto X5.here hx rfl (pc0 := 48) (pc' := 52) rfl (hb hby d2_48) (by decide) (by decide) (XS.istore X5.here hx rfl (hb hby d2_52) rfl (l' := #[.val (.ref a1), .val (.ref a2), .val (.ref b1), .val (.int (0 : Int32)), .val (.int (2 : Int32)), .val (.int (2 : Int32)), .val (.int (1 : Int32))]) rfl (XS.aloadN X5.here hx rfl (hb hby d2_54) rfl rfl (XS.iload X5.here hx rfl (hb hby d2_55) rfl k)))))) ?_
      show GoW p e below QQ (T5.setTop (mkF m 57 #[.val (.ref a1), .val (.ref a2), .val (.ref b1), .val (.int (0 : Int32)), .val (.int (2 : Int32)), .val (.int (2 : Int32)), .val (.int (1 : Int32))] [(.int (2 : Int32)), (.ref b1)]))
      refine GoW.st (fun t k => XS.iload X5.here hx rfl (hb hby d2_57) rfl k) ?_
      show GoW p e below QQ (T5.setTop (mkF m 59 #[.val (.ref a1), .val (.ref a2), .val (.ref b1), .val (.int (0 : Int32)), .val (.int (2 : Int32)), .val (.int (2 : Int32)), .val (.int (1 : Int32))] [(.int (1 : Int32)), (.int (2 : Int32)), (.ref b1)]))
      have hc59_3 : ¬ ((1 : Int32) = (0 : Int32)) := by decide
      refine GoW.st (fun t k => XS.ifNo X5.here hx rfl (hb hby d2_59) rfl ((if0 _ _).trans (feq hc59_3).1) (XS.aloadN X5.here hx rfl (hb hby d2_62) rfl rfl (XS.iloadN X5.here hx rfl (hb hby d2_63) rfl (XS.iinc X5.here hx rfl (hb hby d2_64) rfl (l' := #[.val (.ref a1), .val (.ref a2), .val (.ref b1), .val (.int (1 : Int32)), .val (.int (2 : Int32)), .val (.int (2 : Int32)), .val (.int (1 : Int32))]) rfl (ldVJ X5 hx hZ e5 f6_V_a1 (v := (.long x0)) ⟨by decide, by decide⟩ rfl (g := (mkF m 67 #[.val (.ref a1), .val (.ref a2), .val (.ref b1), .val (.int (1 : Int32)), .val (.int (2 : Int32)), .val (.int (2 : Int32)), .val (.int (1 : Int32))] [(.int (0 : Int32)), (.ref a1), (.int (2 : Int32)), (.ref b1)])) rfl rfl (hb hby d2_67) t (XS.goto X5.here hx rfl (pc0 := 68) (pc' := 78) rfl (hb hby d2_68) (by decide) (by decide) k)))))) ?_
      show GoW p e below QQ (T5.setTop (mkF m 78 #[.val (.ref a1), .val (.ref a2), .val (.ref b1), .val (.int (1 : Int32)), .val (.int (2 : Int32)), .val (.int (2 : Int32)), .val (.int (1 : Int32))] [(.long x0), (.int (2 : Int32)), (.ref b1)]))
      obtain ⟨T7, h7, X7, e7, W7, V7, st7⟩ := stVJ X5 hx hZ e5 f6_V_b1 ⟨by decide, by decide⟩ 2 rfl (Nat.le_of_ble_eq_true rfl) (g := (mkF m 78 #[.val (.ref a1), .val (.ref a2), .val (.ref b1), .val (.int (1 : Int32)), .val (.int (2 : Int32)), .val (.int (2 : Int32)), .val (.int (1 : Int32))] [(.long x0), (.int (2 : Int32)), (.ref b1)])) rfl rfl (hb hby d2_78)
      refine GoW.st st7 ?_
      have f8_V_a1 : Arv Z h7 a1 ka .long (1 : Int32) [(.long x0)] (.long (0 : Int64)) := f6_V_a1.other W7 ne1_a1
      have f8_V_a2 : Arv Z h7 a2 kc .long (2 : Int32) [(.long y0), (.long y1)] (.long (0 : Int64)) := f6_V_a2.other W7 ne1_a2
      have f8_V_b1 : Arv Z h7 b1 k1 .long (3 : Int32) [(.long y0), (.long y1), (.long x0)] (.long (0 : Int64)) := V7
      have K7 : Keep h0 h7 [] := K5.wr W7 (Or.inr sz1)
      have N7 := Fr.snoc X7 N5 gg1
      show GoW p e below QQ (T7.setTop (mkF m 79 #[.val (.ref a1), .val (.ref a2), .val (.ref b1), .val (.int (1 : Int32)), .val (.int (2 : Int32)), .val (.int (2 : Int32)), .val (.int (1 : Int32))] []))
      refine GoW.st (fun t k => XS.iinc X7.here hx rfl (hb hby d2_79) rfl (l' := #[.val (.ref a1), .val (.ref a2), .val (.ref b1), .val (.int (1 : Int32)), .val (.int (2 : Int32)), .val (.int (3 : Int32)), .val (.int (1 : Int32))]) rfl (XS.goto X7.here hx rfl (pc0 := 82) (pc' := 16) rfl (hb hby d2_82) (by decide) (by decide) (XS.iload X7.here hx rfl (hb hby d2_16) rfl (XS.aloadN X7.here hx rfl (hb hby d2_18) rfl rfl (lnV X7 hx hZ e7 f8_V_b1 (g := (mkF m 19 #[.val (.ref a1), .val (.ref a2), .val (.ref b1), .val (.int (1 : Int32)), .val (.int (2 : Int32)), .val (.int (3 : Int32)), .val (.int (1 : Int32))] [(.ref b1), (.int (3 : Int32))])) rfl rfl (hb hby d2_19) t k))))) ?_
      show GoW p e below QQ (T7.setTop (mkF m 20 #[.val (.ref a1), .val (.ref a2), .val (.ref b1), .val (.int (1 : Int32)), .val (.int (2 : Int32)), .val (.int (3 : Int32)), .val (.int (1 : Int32))] [(.int (3 : Int32)), (.int (3 : Int32))]))
      have hc20_4 : ¬ ((3 : Int32) < (3 : Int32)) := by decide
      refine GoW.st (fun t k => XS.icmpYes X7.here hx rfl (pc0 := 20) (pc' := 85) rfl (hb hby d2_20) rfl (flt hc20_4).2.1 (by decide) (by decide) (XS.aloadN X7.here hx rfl (hb hby d2_85) rfl rfl k)) ?_
      show GoW p e below QQ (T7.setTop (mkF m 86 #[.val (.ref a1), .val (.ref a2), .val (.ref b1), .val (.int (1 : Int32)), .val (.int (2 : Int32)), .val (.int (3 : Int32)), .val (.int (1 : Int32))] [(.ref b1)]))
      exact GoW.fin X7 (some (.ref b1)) (fun q => by rw [hret] at q; cases q) hlk hQ e7 ⟨b1, k1, y0, y1, x0, rfl, N7, K7, sz1, f8_V_b1, (by omega)⟩ (by decide) (by decide) (fun fs hr => retOut X7 hx hret rfl (Or.inr (Or.inr (Or.inr (Or.inr ⟨rfl, rfl, rfl⟩)))) (hb hby d2_86) hr)
    · skip
      refine GoW.st (fun t k => XS.ifNo X3.here hx rfl (hb hby d2_44) rfl ((if0 _ _).trans (flt (fun q => hc44_2 ((lw_gt x0 y1).mp q))).2.2.1) k) ?_
      show GoW p e below QQ (T3.setTop (mkF m 47 #[.val (.ref a1), .val (.ref a2), .val (.ref b1), .val (.int (0 : Int32)), .val (.int (1 : Int32)), .val (.int (1 : Int32)), .val (.int (0 : Int32))] []))
      have hi44_2 : ¬ (y1.toInt < x0.toInt) := (fun q => hc44_2 (Int64.lt_iff_toInt_lt.mpr q))
      refine GoW.st (fun t k => XS.iconst X3.here hx rfl (hb hby d2_47) (XS.goto X3.here hx rfl (pc0 := 48) (pc' := 52) rfl (hb hby d2_48) (by decide) (by decide) (XS.istore X3.here hx rfl (hb hby d2_52) rfl (l' := #[.val (.ref a1), .val (.ref a2), .val (.ref b1), .val (.int (0 : Int32)), .val (.int (1 : Int32)), .val (.int (1 : Int32)), .val (.int (1 : Int32))]) rfl (XS.aloadN X3.here hx rfl (hb hby d2_54) rfl rfl (XS.iload X3.here hx rfl (hb hby d2_55) rfl (XS.iload X3.here hx rfl (hb hby d2_57) rfl k)))))) ?_
      show GoW p e below QQ (T3.setTop (mkF m 59 #[.val (.ref a1), .val (.ref a2), .val (.ref b1), .val (.int (0 : Int32)), .val (.int (1 : Int32)), .val (.int (1 : Int32)), .val (.int (1 : Int32))] [(.int (1 : Int32)), (.int (1 : Int32)), (.ref b1)]))
      have hc59_2 : ¬ ((1 : Int32) = (0 : Int32)) := by decide
      refine GoW.st (fun t k => XS.ifNo X3.here hx rfl (hb hby d2_59) rfl ((if0 _ _).trans (feq hc59_2).1) (XS.aloadN X3.here hx rfl (hb hby d2_62) rfl rfl (XS.iloadN X3.here hx rfl (hb hby d2_63) rfl (XS.iinc X3.here hx rfl (hb hby d2_64) rfl (l' := #[.val (.ref a1), .val (.ref a2), .val (.ref b1), .val (.int (1 : Int32)), .val (.int (1 : Int32)), .val (.int (1 : Int32)), .val (.int (1 : Int32))]) rfl (ldVJ X3 hx hZ e3 f4_V_a1 (v := (.long x0)) ⟨by decide, by decide⟩ rfl (g := (mkF m 67 #[.val (.ref a1), .val (.ref a2), .val (.ref b1), .val (.int (1 : Int32)), .val (.int (1 : Int32)), .val (.int (1 : Int32)), .val (.int (1 : Int32))] [(.int (0 : Int32)), (.ref a1), (.int (1 : Int32)), (.ref b1)])) rfl rfl (hb hby d2_67) t (XS.goto X3.here hx rfl (pc0 := 68) (pc' := 78) rfl (hb hby d2_68) (by decide) (by decide) k)))))) ?_
      show GoW p e below QQ (T3.setTop (mkF m 78 #[.val (.ref a1), .val (.ref a2), .val (.ref b1), .val (.int (1 : Int32)), .val (.int (1 : Int32)), .val (.int (1 : Int32)), .val (.int (1 : Int32))] [(.long x0), (.int (1 : Int32)), (.ref b1)]))
      obtain ⟨T9, h9, X9, e9, W9, V9, st9⟩ := stVJ X3 hx hZ e3 f4_V_b1 ⟨by decide, by decide⟩ 1 rfl (Nat.le_of_ble_eq_true rfl) (g := (mkF m 78 #[.val (.ref a1), .val (.ref a2), .val (.ref b1), .val (.int (1 : Int32)), .val (.int (1 : Int32)), .val (.int (1 : Int32)), .val (.int (1 : Int32))] [(.long x0), (.int (1 : Int32)), (.ref b1)])) rfl rfl (hb hby d2_78)
      refine GoW.st st9 ?_
      have f10_V_a1 : Arv Z h9 a1 ka .long (1 : Int32) [(.long x0)] (.long (0 : Int64)) := f4_V_a1.other W9 ne1_a1
      have f10_V_a2 : Arv Z h9 a2 kc .long (2 : Int32) [(.long y0), (.long y1)] (.long (0 : Int64)) := f4_V_a2.other W9 ne1_a2
      have f10_V_b1 : Arv Z h9 b1 k1 .long (3 : Int32) [(.long y0), (.long x0), (.long (0 : Int64))] (.long (0 : Int64)) := V9
      have K9 : Keep h0 h9 [] := K3.wr W9 (Or.inr sz1)
      have N9 := Fr.snoc X9 N3 gg1
      show GoW p e below QQ (T9.setTop (mkF m 79 #[.val (.ref a1), .val (.ref a2), .val (.ref b1), .val (.int (1 : Int32)), .val (.int (1 : Int32)), .val (.int (1 : Int32)), .val (.int (1 : Int32))] []))
      refine GoW.st (fun t k => XS.iinc X9.here hx rfl (hb hby d2_79) rfl (l' := #[.val (.ref a1), .val (.ref a2), .val (.ref b1), .val (.int (1 : Int32)), .val (.int (1 : Int32)), .val (.int (2 : Int32)), .val (.int (1 : Int32))]) rfl (XS.goto X9.here hx rfl (pc0 := 82) (pc' := 16) rfl (hb hby d2_82) (by decide) (by decide) (XS.iload X9.here hx rfl (hb hby d2_16) rfl (XS.aloadN X9.here hx rfl (hb hby d2_18) rfl rfl (lnV X9 hx hZ e9 f10_V_b1 (g := (mkF m 19 #[.val (.ref a1), .val (.ref a2), .val (.ref b1), .val (.int (1 : Int32)), .val (.int (1 : Int32)), .val (.int (2 : Int32)), .val (.int (1 : Int32))] [(.ref b1), (.int (2 : Int32))])) rfl rfl (hb hby d2_19) t k))))) ?_
      show GoW p e below QQ (T9.setTop (mkF m 20 #[.val (.ref a1), .val (.ref a2), .val (.ref b1), .val (.int (1 : Int32)), .val (.int (1 : Int32)), .val (.int (2 : Int32)), .val (.int (1 : Int32))] [(.int (3 : Int32)), (.int (2 : Int32))]))
      have hc20_3 : (2 : Int32) < (3 : Int32) := by decide
      refine GoW.st (fun t k => XS.icmpNo X9.here hx rfl (hb hby d2_20) rfl (tlt hc20_3).2.1 (XS.iload X9.here hx rfl (hb hby d2_23) rfl (XS.aloadN X9.here hx rfl (hb hby d2_25) rfl rfl (lnV X9 hx hZ e9 f10_V_a2 (g := (mkF m 26 #[.val (.ref a1), .val (.ref a2), .val (.ref b1), .val (.int (1 : Int32)), .val (.int (1 : Int32)), .val (.int (2 : Int32)), .val (.int (1 : Int32))] [(.ref a2), (.int (1 : Int32))])) rfl rfl (hb hby d2_26) t k)))) ?_
      show GoW p e below QQ (T9.setTop (mkF m 27 #[.val (.ref a1), .val (.ref a2), .val (.ref b1), .val (.int (1 : Int32)), .val (.int (1 : Int32)), .val (.int (2 : Int32)), .val (.int (1 : Int32))] [(.int (2 : Int32)), (.int (1 : Int32))]))
      have hc27_3 : ¬ ((1 : Int32) = (2 : Int32)) := by decide
      refine GoW.st (fun t k => XS.icmpNo X9.here hx rfl (hb hby d2_27) rfl (feq hc27_3).1 (XS.iloadN X9.here hx rfl (hb hby d2_30) rfl (XS.aloadN X9.here hx rfl (hb hby d2_31) rfl rfl (lnV X9 hx hZ e9 f10_V_a1 (g := (mkF m 32 #[.val (.ref a1), .val (.ref a2), .val (.ref b1), .val (.int (1 : Int32)), .val (.int (1 : Int32)), .val (.int (2 : Int32)), .val (.int (1 : Int32))] [(.ref a1), (.int (1 : Int32))])) rfl rfl (hb hby d2_32) t k)))) ?_
      show GoW p e below QQ (T9.setTop (mkF m 33 #[.val (.ref a1), .val (.ref a2), .val (.ref b1), .val (.int (1 : Int32)), .val (.int (1 : Int32)), .val (.int (2 : Int32)), .val (.int (1 : Int32))] [(.int (1 : Int32)), (.int (1 : Int32))]))
      have hc33_3 : ¬ ((1 : Int32) < (1 : Int32)) := by decide
      refine GoW.st (fun t k => XS.icmpYes X9.here hx rfl (pc0 := 33) (pc' := 51) rfl (hb hby d2_33) rfl (flt hc33_3).2.1 (by decide) (by decide) (XS.iconst X9.here hx rfl (hb hby d2_51) (XS.istore X9.here hx rfl (hb hby d2_52) rfl (l' := #[.val (.ref a1), .val (.ref a2), .val (.ref b1), .val (.int (1 : Int32)), .val (.int (1 : Int32)), .val (.int (2 : Int32)), .val (.int (0 : Int32))]) rfl (XS.aloadN X9.here hx rfl (hb hby d2_54) rfl rfl (XS.iload X9.here hx rfl (hb hby d2_55) rfl (XS.iload X9.here hx rfl (hb hby d2_57) rfl k)))))) ?_
      show GoW p e below QQ (T9.setTop (mkF m 59 #[.val (.ref a1), .val (.ref a2), .val (.ref b1), .val (.int (1 : Int32)), .val (.int (1 : Int32)), .val (.int (2 : Int32)), .val (.int (0 : Int32))] [(.int (0 : Int32)), (.int (2 : Int32)), (.ref b1)]))
      have hc59_3 : (0 : Int32) = (0 : Int32) := by decide
      refine GoW.st (fun t k => XS.ifYes X9.here hx rfl (pc0 := 59) (pc' := 71) rfl (hb hby d2_59) rfl ((if0 _ _).trans (teq hc59_3).1) (by decide) (by decide) (XS.aloadN X9.here hx rfl (hb hby d2_71) rfl rfl (XS.iload X9.here hx rfl (hb hby d2_72) rfl (XS.iinc X9.here hx rfl (hb hby d2_74) rfl (l' := #[.val (.ref a1), .val (.ref a2), .val (.ref b1), .val (.int (1 : Int32)), .val (.int (2 : Int32)), .val (.int (2 : Int32)), .val (.int (0 : Int32))]) rfl (ldVJ X9 hx hZ e9 f10_V_a2 (v := (.long y1)) ⟨by decide, by decide⟩ rfl (g := (mkF m 77 #[.val (.ref a1), .val (.ref a2), .val (.ref b1), .val (.int (1 : Int32)), .val (.int (2 : Int32)), .val (.int (2 : Int32)), .val (.int (0 : Int32))] [(.int (1 : Int32)), (.ref a2), (.int (2 : Int32)), (.ref b1)])) rfl rfl (hb hby d2_77) t k))))) ?_
      show GoW p e below QQ (T9.setTop (mkF m 78 #[.val (.ref a1), .val (.ref a2), .val (.ref b1), .val (.int (1 : Int32)), .val (.int (2 : Int32)), .val (.int (2 : Int32)), .val (.int (0 : Int32))] [(.long y1), (.int (2 : Int32)), (.ref b1)]))
      obtain ⟨T11, h11, X11, e11, W11, V11, st11⟩ := stVJ X9 hx hZ e9 f10_V_b1 ⟨by decide, by decide⟩ 2 rfl (Nat.le_of_ble_eq_true rfl) (g := (mkF m 78 #[.val (.ref a1), .val (.ref a2), .val (.ref b1), .val (.int (1 : Int32)), .val (.int (2 : Int32)), .val (.int (2 : Int32)), .val (.int (0 : Int32))] [(.long y1), (.int (2 : Int32)), (.ref b1)])) rfl rfl (hb hby d2_78)
      refine GoW.st st11 ?_
      have f12_V_a1 : Arv Z h11 a1 ka .long (1 : Int32) [(.long x0)] (.long (0 : Int64)) := f10_V_a1.other W11 ne1_a1
      have f12_V_a2 : Arv Z h11 a2 kc .long (2 : Int32) [(.long y0), (.long y1)] (.long (0 : Int64)) := f10_V_a2.other W11 ne1_a2
      have f12_V_b1 : Arv Z h11 b1 k1 .long (3 : Int32) [(.long y0), (.long x0), (.long y1)] (.long (0 : Int64)) := V11
      have K11 : Keep h0 h11 [] := K9.wr W11 (Or.inr sz1)
      have N11 := Fr.snoc X11 N9 gg1
      show GoW p e below QQ (T11.setTop (mkF m 79 #[.val (.ref a1), .val (.ref a2), .val (.ref b1), .val (.int (1 : Int32)), .val (.int (2 : Int32)), .val (.int (2 : Int32)), .val (.int (0 : Int32))] []))
      refine GoW.st (fun t k => XS.iinc X11.here hx rfl (hb hby d2_79) rfl (l' := #[.val (.ref a1), .val (.ref a2), .val (.ref b1), .val (.int (1 : Int32)), .val (.int (2 : Int32)), .val (.int (3 : Int32)), .val (.int (0 : Int32))]) rfl (XS.goto X11.here hx rfl (pc0 := 82) (pc' := 16) rfl (hb hby d2_82) (by decide) (by decide) (XS.iload X11.here hx rfl (hb hby d2_16) rfl (XS.aloadN X11.here hx rfl (hb hby d2_18) rfl rfl (lnV X11 hx hZ e11 f12_V_b1 (g := (mkF m 19 #[.val (.ref a1), .val (.ref a2), .val (.ref b1), .val (.int (1 : Int32)), .val (.int (2 : Int32)), .val (.int (3 : Int32)), .val (.int (0 : Int32))] [(.ref b1), (.int (3 : Int32))])) rfl rfl (hb hby d2_19) t k))))) ?_
      show GoW p e below QQ (T11.setTop (mkF m 20 #[.val (.ref a1), .val (.ref a2), .val (.ref b1), .val (.int (1 : Int32)), .val (.int (2 : Int32)), .val (.int (3 : Int32)), .val (.int (0 : Int32))] [(.int (3 : Int32)), (.int (3 : Int32))]))
      have hc20_4 : ¬ ((3 : Int32) < (3 : Int32)) := by decide
      refine GoW.st (fun t k => XS.icmpYes X11.here hx rfl (pc0 := 20) (pc' := 85) rfl (hb hby d2_20) rfl (flt hc20_4).2.1 (by decide) (by decide) (XS.aloadN X11.here hx rfl (hb hby d2_85) rfl rfl k)) ?_
      show GoW p e below QQ (T11.setTop (mkF m 86 #[.val (.ref a1), .val (.ref a2), .val (.ref b1), .val (.int (1 : Int32)), .val (.int (2 : Int32)), .val (.int (3 : Int32)), .val (.int (0 : Int32))] [(.ref b1)]))
      exact GoW.fin X11 (some (.ref b1)) (fun q => by rw [hret] at q; cases q) hlk hQ e11 ⟨b1, k1, y0, x0, y1, rfl, N11, K11, sz1, f12_V_b1, (by omega)⟩ (by decide) (by decide) (fun fs hr => retOut X11 hx hret rfl (Or.inr (Or.inr (Or.inr (Or.inr ⟨rfl, rfl, rfl⟩)))) (hb hby d2_86) hr)
  · skip
    refine GoW.st (fun t k => XS.ifNo X1.here hx rfl (hb hby d2_44) rfl ((if0 _ _).trans (flt (fun q => hc44 ((lw_gt x0 y0).mp q))).2.2.1) k) ?_
    show GoW p e below QQ (T1.setTop (mkF m 47 #[.val (.ref a1), .val (.ref a2), .val (.ref b1), .val (.int (0 : Int32)), .val (.int (0 : Int32)), .val (.int (0 : Int32)), .unset] []))
    have hi44 : ¬ (y0.toInt < x0.toInt) := (fun q => hc44 (Int64.lt_iff_toInt_lt.mpr q))
    refine GoW.st (fun t k => XS.iconst X1.here hx rfl (hb hby d2_47) (XS.goto X1.here hx rfl (pc0 := 48) (pc' := 52) rfl (hb hby d2_48) (by decide) (by decide) (XS.istore X1.here hx rfl (hb hby d2_52) rfl (l' := #[.val (.ref a1), .val (.ref a2), .val (.ref b1), .val (.int (0 : Int32)), .val (.int (0 : Int32)), .val (.int (0 : Int32)), .val (.int (1 : Int32))]) rfl (XS.aloadN X1.here hx rfl (hb hby d2_54) rfl rfl (XS.iload X1.here hx rfl (hb hby d2_55) rfl (XS.iload X1.here hx rfl (hb hby d2_57) rfl k)))))) ?_
    show GoW p e below QQ (T1.setTop (mkF m 59 #[.val (.ref a1), .val (.ref a2), .val (.ref b1), .val (.int (0 : Int32)), .val (.int (0 : Int32)), .val (.int (0 : Int32)), .val (.int (1 : Int32))] [(.int (1 : Int32)), (.int (0 : Int32)), (.ref b1)]))
    have hc59 : ¬ ((1 : Int32) = (0 : Int32)) := by decide
    refine GoW.st (fun t k => XS.ifNo X1.here hx rfl (hb hby d2_59) rfl ((if0 _ _).trans (feq hc59).1) (XS.aloadN X1.here hx rfl (hb hby d2_62) rfl rfl (XS.iloadN X1.here hx rfl (hb hby d2_63) rfl (XS.iinc X1.here hx rfl (hb hby d2_64) rfl (l' := #[.val (.ref a1), .val (.ref a2), .val (.ref b1), .val (.int (1 : Int32)), .val (.int (0 : Int32)), .val (.int (0 : Int32)), .val (.int (1 : Int32))]) rfl (ldVJ X1 hx hZ e1 f2_V_a1 (v := (.long x0)) ⟨by decide, by decide⟩ rfl (g := (mkF m 67 #[.val (.ref a1), .val (.ref a2), .val (.ref b1), .val (.int (1 : Int32)), .val (.int (0 : Int32)), .val (.int (0 : Int32)), .val (.int (1 : Int32))] [(.int (0 : Int32)), (.ref a1), (.int (0 : Int32)), (.ref b1)])) rfl rfl (hb hby d2_67) t (XS.goto X1.here hx rfl (pc0 := 68) (pc' := 78) rfl (hb hby d2_68) (by decide) (by decide) k)))))) ?_
    show GoW p e below QQ (T1.setTop (mkF m 78 #[.val (.ref a1), .val (.ref a2), .val (.ref b1), .val (.int (1 : Int32)), .val (.int (0 : Int32)), .val (.int (0 : Int32)), .val (.int (1 : Int32))] [(.long x0), (.int (0 : Int32)), (.ref b1)]))
    obtain ⟨T13, h13, X13, e13, W13, V13, st13⟩ := stVJ X1 hx hZ e1 V1 ⟨by decide, by decide⟩ 0 rfl (Nat.le_of_ble_eq_true rfl) (g := (mkF m 78 #[.val (.ref a1), .val (.ref a2), .val (.ref b1), .val (.int (1 : Int32)), .val (.int (0 : Int32)), .val (.int (0 : Int32)), .val (.int (1 : Int32))] [(.long x0), (.int (0 : Int32)), (.ref b1)])) rfl rfl (hb hby d2_78)
    refine GoW.st st13 ?_
    have f14_V_a1 : Arv Z h13 a1 ka .long (1 : Int32) [(.long x0)] (.long (0 : Int64)) := f2_V_a1.other W13 ne1_a1
    have f14_V_a2 : Arv Z h13 a2 kc .long (2 : Int32) [(.long y0), (.long y1)] (.long (0 : Int64)) := f2_V_a2.other W13 ne1_a2
    have f14_V_b1 : Arv Z h13 b1 k1 .long (3 : Int32) [(.long x0), (.long (0 : Int64)), (.long (0 : Int64))] (.long (0 : Int64)) := V13
    have K13 : Keep h0 h13 [] := K1.wr W13 (Or.inr sz1)
    have N13 := Fr.snoc X13 N0 gg1
    show GoW p e below QQ (T13.setTop (mkF m 79 #[.val (.ref a1), .val (.ref a2), .val (.ref b1), .val (.int (1 : Int32)), .val (.int (0 : Int32)), .val (.int (0 : Int32)), .val (.int (1 : Int32))] []))
    refine GoW.st (fun t k => XS.iinc X13.here hx rfl (hb hby d2_79) rfl (l' := #[.val (.ref a1), .val (.ref a2), .val (.ref b1), .val (.int (1 : Int32)), .val (.int (0 : Int32)), .val (.int (1 : Int32)), .val (.int (1 : Int32))]) rfl (XS.goto X13.here hx rfl (pc0 := 82) (pc' := 16) rfl (hb hby d2_82) (by decide) (by decide) (XS.iload X13.here hx rfl (hb hby d2_16) rfl (XS.aloadN X13.here hx rfl (hb hby d2_18) rfl rfl (lnV X13 hx hZ e13 f14_V_b1 (g := (mkF m 19 #[.val (.ref a1), .val (.ref a2), .val (.ref b1), .val (.int (1 : Int32)), .val (.int (0 : Int32)), .val (.int (1 : Int32)), .val (.int (1 : Int32))] [(.ref b1), (.int (1 : Int32))])) rfl rfl (hb hby d2_19) t k))))) ?_
    show GoW p e below QQ (T13.setTop (mkF m 20 #[.val (.ref a1), .val (.ref a2), .val (.ref b1), .val (.int (1 : Int32)), .val (.int (0 : Int32)), .val (.int (1 : Int32)), .val (.int (1 : Int32))] [(.int (3 : Int32)), (.int (1 : Int32))]))
    have hc20_2 : (1 : Int32) < (3 : Int32) := by decide
    refine GoW.st (fun t k => XS.icmpNo X13.here hx rfl (hb hby d2_20) rfl (tlt hc20_2).2.1 (XS.iload X13.here hx rfl (hb hby d2_23) rfl (XS.aloadN X13.here hx rfl (hb hby d2_25) rfl rfl (lnV X13 hx hZ e13 f14_V_a2 (g := (mkF m 26 #[.val (.ref a1), .val (.ref a2), .val (.ref b1), .val (.int (1 : Int32)), .val (.int (0 : Int32)), .val (.int (1 : Int32)), .val (.int (1 : Int32))] [(.ref a2), (.int (0 : Int32))])) rfl rfl (hb hby d2_26) t k)))) ?_
    show GoW p e below QQ (T13.setTop (mkF m 27 #[.val (.ref a1), .val (.ref a2), .val (.ref b1), .val (.int (1 : Int32)), .val (.int (0 : Int32)), .val (.int (1 : Int32)), .val (.int (1 : Int32))] [(.int (2 : Int32)), (.int (0 : Int32))]))
    have hc27_2 : ¬ ((0 : Int32) = (2 : Int32)) := by decide
    refine GoW.st (fun t k => XS.icmpNo X13.here hx rfl (hb hby d2_27) rfl (feq hc27_2).1 (XS.iloadN X13.here hx rfl (hb hby d2_30) rfl (XS.aloadN X13.here hx rfl (hb hby d2_31) rfl rfl (lnV X13 hx hZ e13 f14_V_a1 (g := (mkF m 32 #[.val (.ref a1), .val (.ref a2), .val (.ref b1), .val (.int (1 : Int32)), .val (.int (0 : Int32)), .val (.int (1 : Int32)), .val (.int (1 : Int32))] [(.ref a1), (.int (1 : Int32))])) rfl rfl (hb hby d2_32) t k)))) ?_
    show GoW p e below QQ (T13.setTop (mkF m 33 #[.val (.ref a1), .val (.ref a2), .val (.ref b1), .val (.int (1 : Int32)), .val (.int (0 : Int32)), .val (.int (1 : Int32)), .val (.int (1 : Int32))] [(.int (1 : Int32)), (.int (1 : Int32))]))
    have hc33_2 : ¬ ((1 : Int32) < (1 : Int32)) := by decide
    refine GoW.st (fun t k => XS.icmpYes X13.here hx rfl (pc0 := 33) (pc' := 51) rfl (hb hby d2_33) rfl (flt hc33_2).2.1 (by decide) (by decide) (XS.iconst X13.here hx rfl (hb hby d2_51) (XS.istore X13.here hx rfl (hb hby d2_52) rfl (l' := #[.val (.ref a1), .val (.ref a2), .val (.ref b1), .val (.int (1 : Int32)), .val (.int (0 : Int32)), .val (.int (1 : Int32)), .val (.int (0 : Int32))]) rfl (XS.aloadN X13.here hx rfl (hb hby d2_54) rfl rfl (XS.iload X13.here hx rfl (hb hby d2_55) rfl (XS.iload X13.here hx rfl (hb hby d2_57) rfl k)))))) ?_
    show GoW p e below QQ (T13.setTop (mkF m 59 #[.val (.ref a1), .val (.ref a2), .val (.ref b1), .val (.int (1 : Int32)), .val (.int (0 : Int32)), .val (.int (1 : Int32)), .val (.int (0 : Int32))] [(.int (0 : Int32)), (.int (1 : Int32)), (.ref b1)]))
    have hc59_2 : (0 : Int32) = (0 : Int32) := by decide
    refine GoW.st (fun t k => XS.ifYes X13.here hx rfl (pc0 := 59) (pc' := 71) rfl (hb hby d2_59) rfl ((if0 _ _).trans (teq hc59_2).1) (by decide) (by decide) (XS.aloadN X13.here hx rfl (hb hby d2_71) rfl rfl (XS.iload X13.here hx rfl (hb hby d2_72) rfl (XS.iinc X13.here hx rfl (hb hby d2_74) rfl (l' := #[.val (.ref a1), .val (.ref a2), .val (.ref b1), .val (.int (1 : Int32)), .val (.int (1 : Int32)), .val (.int (1 : Int32)), .val (.int (0 : Int32))]) rfl (ldVJ X13 hx hZ e13 f14_V_a2 (v := (.long y0)) ⟨by decide, by decide⟩ rfl (g := (mkF m 77 #[.val (.ref a1), .val (.ref a2), .val (.ref b1), .val (.int (1 : Int32)), .val (.int (1 : Int32)), .val (.int (1 : Int32)), .val (.int (0 : Int32))] [(.int (0 : Int32)), (.ref a2), (.int (1 : Int32)), (.ref b1)])) rfl rfl (hb hby d2_77) t k))))) ?_
    show GoW p e below QQ (T13.setTop (mkF m 78 #[.val (.ref a1), .val (.ref a2), .val (.ref b1), .val (.int (1 : Int32)), .val (.int (1 : Int32)), .val (.int (1 : Int32)), .val (.int (0 : Int32))] [(.long y0), (.int (1 : Int32)), (.ref b1)]))
    obtain ⟨T15, h15, X15, e15, W15, V15, st15⟩ := stVJ X13 hx hZ e13 f14_V_b1 ⟨by decide, by decide⟩ 1 rfl (Nat.le_of_ble_eq_true rfl) (g := (mkF m 78 #[.val (.ref a1), .val (.ref a2), .val (.ref b1), .val (.int (1 : Int32)), .val (.int (1 : Int32)), .val (.int (1 : Int32)), .val (.int (0 : Int32))] [(.long y0), (.int (1 : Int32)), (.ref b1)])) rfl rfl (hb hby d2_78)
    refine GoW.st st15 ?_
    have f16_V_a1 : Arv Z h15 a1 ka .long (1 : Int32) [(.long x0)] (.long (0 : Int64)) := f14_V_a1.other W15 ne1_a1
    have f16_V_a2 : Arv Z h15 a2 kc .long (2 : Int32) [(.long y0), (.long y1)] (.long (0 : Int64)) := f14_V_a2.other W15 ne1_a2
    have f16_V_b1 : Arv Z h15 b1 k1 .long (3 : Int32) [(.long x0), (.long y0), (.long (0 : Int64))] (.long (0 : Int64)) := V15
    have K15 : Keep h0 h15 [] := K13.wr W15 (Or.inr sz1)
    have N15 := Fr.snoc X15 N13 gg1
    show GoW p e below QQ (T15.setTop (mkF m 79 #[.val (.ref a1), .val (.ref a2), .val (.ref b1), .val (.int (1 : Int32)), .val (.int (1 : Int32)), .val (.int (1 : Int32)), .val (.int (0 : Int32))] []))
    refine GoW.st (fun t k => XS.iinc X15.here hx rfl (hb hby d2_79) rfl (l' := #[.val (.ref a1), .val (.ref a2), .val (.ref b1), .val (.int (1 : Int32)), .val (.int (1 : Int32)), .val (.int (2 : Int32)), .val (.int (0 : Int32))]) rfl (XS.goto X15.here hx rfl (pc0 := 82) (pc' := 16) rfl (hb hby d2_82) (by decide) (by decide) (XS.iload X15.here hx rfl (hb hby d2_16) rfl (XS.aloadN X15.here hx rfl (hb hby d2_18) rfl rfl (lnV X15 hx hZ e15 f16_V_b1 (g := (mkF m 19 #[.val (.ref a1), .val (.ref a2), .val (.ref b1), .val (.int (1 : Int32)), .val (.int (1 : Int32)), .val (.int (2 : Int32)), .val (.int (0 : Int32))] [(.ref b1), (.int (2 : Int32))])) rfl rfl (hb hby d2_19) t k))))) ?_
    show GoW p e below QQ (T15.setTop (mkF m 20 #[.val (.ref a1), .val (.ref a2), .val (.ref b1), .val (.int (1 : Int32)), .val (.int (1 : Int32)), .val (.int (2 : Int32)), .val (.int (0 : Int32))] [(.int (3 : Int32)), (.int (2 : Int32))]))
    have hc20_3 : (2 : Int32) < (3 : Int32) := by decide
    refine GoW.st (fun t k => XS.icmpNo X15.here hx rfl (hb hby d2_20) rfl (tlt hc20_3).2.1 (XS.iload X15.here hx rfl (hb hby d2_23) rfl (XS.aloadN X15.here hx rfl (hb hby d2_25) rfl rfl (lnV X15 hx hZ e15 f16_V_a2 (g := (mkF m 26 #[.val (.ref a1), .val (.ref a2), .val (.ref b1), .val (.int (1 : Int32)), .val (.int (1 : Int32)), .val (.int (2 : Int32)), .val (.int (0 : Int32))] [(.ref a2), (.int (1 : Int32))])) rfl rfl (hb hby d2_26) t k)))) ?_
    show GoW p e below QQ (T15.setTop (mkF m 27 #[.val (.ref a1), .val (.ref a2), .val (.ref b1), .val (.int (1 : Int32)), .val (.int (1 : Int32)), .val (.int (2 : Int32)), .val (.int (0 : Int32))] [(.int (2 : Int32)), (.int (1 : Int32))]))
    have hc27_3 : ¬ ((1 : Int32) = (2 : Int32)) := by decide
    refine GoW.st (fun t k => XS.icmpNo X15.here hx rfl (hb hby d2_27) rfl (feq hc27_3).1 (XS.iloadN X15.here hx rfl (hb hby d2_30) rfl (XS.aloadN X15.here hx rfl (hb hby d2_31) rfl rfl (lnV X15 hx hZ e15 f16_V_a1 (g := (mkF m 32 #[.val (.ref a1), .val (.ref a2), .val (.ref b1), .val (.int (1 : Int32)), .val (.int (1 : Int32)), .val (.int (2 : Int32)), .val (.int (0 : Int32))] [(.ref a1), (.int (1 : Int32))])) rfl rfl (hb hby d2_32) t k)))) ?_
    show GoW p e below QQ (T15.setTop (mkF m 33 #[.val (.ref a1), .val (.ref a2), .val (.ref b1), .val (.int (1 : Int32)), .val (.int (1 : Int32)), .val (.int (2 : Int32)), .val (.int (0 : Int32))] [(.int (1 : Int32)), (.int (1 : Int32))]))
    have hc33_3 : ¬ ((1 : Int32) < (1 : Int32)) := by decide
    refine GoW.st (fun t k => XS.icmpYes X15.here hx rfl (pc0 := 33) (pc' := 51) rfl (hb hby d2_33) rfl (flt hc33_3).2.1 (by decide) (by decide) (XS.iconst X15.here hx rfl (hb hby d2_51) (XS.istore X15.here hx rfl (hb hby d2_52) rfl (l' := #[.val (.ref a1), .val (.ref a2), .val (.ref b1), .val (.int (1 : Int32)), .val (.int (1 : Int32)), .val (.int (2 : Int32)), .val (.int (0 : Int32))]) rfl (XS.aloadN X15.here hx rfl (hb hby d2_54) rfl rfl (XS.iload X15.here hx rfl (hb hby d2_55) rfl (XS.iload X15.here hx rfl (hb hby d2_57) rfl k)))))) ?_
    show GoW p e below QQ (T15.setTop (mkF m 59 #[.val (.ref a1), .val (.ref a2), .val (.ref b1), .val (.int (1 : Int32)), .val (.int (1 : Int32)), .val (.int (2 : Int32)), .val (.int (0 : Int32))] [(.int (0 : Int32)), (.int (2 : Int32)), (.ref b1)]))
    have hc59_3 : (0 : Int32) = (0 : Int32) := by decide
    refine GoW.st (fun t k => XS.ifYes X15.here hx rfl (pc0 := 59) (pc' := 71) rfl (hb hby d2_59) rfl ((if0 _ _).trans (teq hc59_3).1) (by decide) (by decide) (XS.aloadN X15.here hx rfl (hb hby d2_71) rfl rfl (XS.iload X15.here hx rfl (hb hby d2_72) rfl (XS.iinc X15.here hx rfl (hb hby d2_74) rfl (l' := #[.val (.ref a1), .val (.ref a2), .val (.ref b1), .val (.int (1 : Int32)), .val (.int (2 : Int32)), .val (.int (2 : Int32)), .val (.int (0 : Int32))]) rfl (ldVJ X15 hx hZ e15 f16_V_a2 (v := (.long y1)) ⟨by decide, by decide⟩ rfl (g := (mkF m 77 #[.val (.ref a1), .val (.ref a2), .val (.ref b1), .val (.int (1 : Int32)), .val (.int (2 : Int32)), .val (.int (2 : Int32)), .val (.int (0 : Int32))] [(.int (1 : Int32)), (.ref a2), (.int (2 : Int32)), (.ref b1)])) rfl rfl (hb hby d2_77) t k))))) ?_
    show GoW p e below QQ (T15.setTop (mkF m 78 #[.val (.ref a1), .val (.ref a2), .val (.ref b1), .val (.int (1 : Int32)), .val (.int (2 : Int32)), .val (.int (2 : Int32)), .val (.int (0 : Int32))] [(.long y1), (.int (2 : Int32)), (.ref b1)]))
    obtain ⟨T17, h17, X17, e17, W17, V17, st17⟩ := stVJ X15 hx hZ e15 f16_V_b1 ⟨by decide, by decide⟩ 2 rfl (Nat.le_of_ble_eq_true rfl) (g := (mkF m 78 #[.val (.ref a1), .val (.ref a2), .val (.ref b1), .val (.int (1 : Int32)), .val (.int (2 : Int32)), .val (.int (2 : Int32)), .val (.int (0 : Int32))] [(.long y1), (.int (2 : Int32)), (.ref b1)])) rfl rfl (hb hby d2_78)
    refine GoW.st st17 ?_
    have f18_V_a1 : Arv Z h17 a1 ka .long (1 : Int32) [(.long x0)] (.long (0 : Int64)) := f16_V_a1.other W17 ne1_a1
    have f18_V_a2 : Arv Z h17 a2 kc .long (2 : Int32) [(.long y0), (.long y1)] (.long (0 : Int64)) := f16_V_a2.other W17 ne1_a2
    have f18_V_b1 : Arv Z h17 b1 k1 .long (3 : Int32) [(.long x0), (.long y0), (.long y1)] (.long (0 : Int64)) := V17
    have K17 : Keep h0 h17 [] := K15.wr W17 (Or.inr sz1)
    have N17 := Fr.snoc X17 N15 gg1
    show GoW p e below QQ (T17.setTop (mkF m 79 #[.val (.ref a1), .val (.ref a2), .val (.ref b1), .val (.int (1 : Int32)), .val (.int (2 : Int32)), .val (.int (2 : Int32)), .val (.int (0 : Int32))] []))
    refine GoW.st (fun t k => XS.iinc X17.here hx rfl (hb hby d2_79) rfl (l' := #[.val (.ref a1), .val (.ref a2), .val (.ref b1), .val (.int (1 : Int32)), .val (.int (2 : Int32)), .val (.int (3 : Int32)), .val (.int (0 : Int32))]) rfl (XS.goto X17.here hx rfl (pc0 := 82) (pc' := 16) rfl (hb hby d2_82) (by decide) (by decide) (XS.iload X17.here hx rfl (hb hby d2_16) rfl (XS.aloadN X17.here hx rfl (hb hby d2_18) rfl rfl (lnV X17 hx hZ e17 f18_V_b1 (g := (mkF m 19 #[.val (.ref a1), .val (.ref a2), .val (.ref b1), .val (.int (1 : Int32)), .val (.int (2 : Int32)), .val (.int (3 : Int32)), .val (.int (0 : Int32))] [(.ref b1), (.int (3 : Int32))])) rfl rfl (hb hby d2_19) t k))))) ?_
    show GoW p e below QQ (T17.setTop (mkF m 20 #[.val (.ref a1), .val (.ref a2), .val (.ref b1), .val (.int (1 : Int32)), .val (.int (2 : Int32)), .val (.int (3 : Int32)), .val (.int (0 : Int32))] [(.int (3 : Int32)), (.int (3 : Int32))]))
    have hc20_4 : ¬ ((3 : Int32) < (3 : Int32)) := by decide
    refine GoW.st (fun t k => XS.icmpYes X17.here hx rfl (pc0 := 20) (pc' := 85) rfl (hb hby d2_20) rfl (flt hc20_4).2.1 (by decide) (by decide) (XS.aloadN X17.here hx rfl (hb hby d2_85) rfl rfl k)) ?_
    show GoW p e below QQ (T17.setTop (mkF m 86 #[.val (.ref a1), .val (.ref a2), .val (.ref b1), .val (.int (1 : Int32)), .val (.int (2 : Int32)), .val (.int (3 : Int32)), .val (.int (0 : Int32))] [(.ref b1)]))
    exact GoW.fin X17 (some (.ref b1)) (fun q => by rw [hret] at q; cases q) hlk hQ e17 ⟨b1, k1, x0, y0, y1, rfl, N17, K17, sz1, f18_V_b1, (by omega)⟩ (by decide) (by decide) (fun fs hr => retOut X17 hx hret rfl (Or.inr (Or.inr (Or.inr (Or.inr ⟨rfl, rfl, rfl⟩)))) (hb hby d2_86) hr)
def RM2_20 : Room := { frames := 0, cells := 1, slots := 2, locals := 0 }
def Q2_20 (Z : State) (a1 : Addr) (a2 : Addr) (ka : ClassId) (kc : ClassId) (x0 : Int64) (x1 : Int64) (h0 : Heap) (n0 : Nat) (v : Option Value) (h : Heap) (L : List Loc) : Prop := ∃ (b : Addr) (kb : ClassId) (w0 : Int64) (w1 : Int64), v = some (.ref b) ∧ Fr n0 L ∧ Keep h0 h [] ∧ (h0.size ≤ b) ∧ (Arv Z h b kb .long (2 : Int32) [(.long w0), (.long w1)] (.long (0 : Int64))) ∧ (w0.toInt = x0.toInt ∧ w1.toInt = x1.toInt)
set_option maxRecDepth 65536 in
set_option maxHeartbeats 40000000 in
theorem rm2_20 (l : Launch) (Z : State) (a0 : Array Value) (hw : ∀ d ∈ tables_1, d.before a0 Z = true) (ws : List Jvm.Cond) (a1 : Addr) (a2 : Addr) (ka : ClassId) (kc : ClassId) (x0 : Int64) (x1 : Int64) (h0 : Heap) (n0 : Nat) (Z0 : n0 ≤ h0.size) (pre_V_a1 : Arv Z h0 a1 ka .long (2 : Int32) [(.long x0), (.long x1)] (.long (0 : Int64))) (pre_V_a2 : Arv Z h0 a2 kc .long (0 : Int32) [] (.long (0 : Int64))) (hx01 : x0.toInt ≤ x1.toInt) :
    MetFree l (⟨"com/example/hike/hike/Holders", "merge", "([J[J)[J"⟩ : MethodName) (head1 (Jvm.Cond.code (⟨"com/example/hike/hike/Holders", "merge", "([J[J)[J"⟩ : MethodName) prog_63_method_6_code 7 (some (.array .long)) :: ws) RM2_20) (fun a U => a = #[(.ref a1), (.ref a2)] ∧ Z.Warmed39 U.vm ∧ U.heap = h0) (fun _ _ _ _ _ => True) (fun _ U o U' => ∃ v L, o = .returned v ∧ Q2_20 Z a1 a2 ka kc x0 x1 h0 n0 v U'.heap L ∧ FrameEnd U o U' L RM2_20.cells RM2_20.slots) := by
  refine met_of (Q := fun v h L => Q2_20 Z a1 a2 ka kc x0 x1 h0 n0 v h L) (plainFor_of_name pn_1) (fun m => by first | (simp [entryFrame, mkF, argsToLocals, Value.category]; done) | rfl) (Ls := #[.val (.ref a1), .val (.ref a2), .unset, .unset, .unset, .unset, .unset]) ?_
  intro p e s m below meth c T0 QQ hx hZ hby hml hown hnm hret hlk X0 e0 hQ
  have hml : c.maxLocals = 7 := hml
  have hown : s.vm.findClass "com/example/hike/hike/Holders" = some m.cls := hown
  have hnm : meth.name = "merge" := hnm
  have hret : meth.sig.returnType = some (.array .long) := hret
  have N0 := Fr.nil n0
  have K0 : Keep h0 h0 [] := Keep.refl h0 _
  show GoW p e below QQ (T0.setTop (mkF m 0 #[.val (.ref a1), .val (.ref a2), .unset, .unset, .unset, .unset, .unset] []))
  refine GoW.st (fun t k => XS.aloadN X0.here hx rfl (hb hby d2_0) rfl rfl (lnV X0 hx hZ e0 pre_V_a1 (g := (mkF m 1 #[.val (.ref a1), .val (.ref a2), .unset, .unset, .unset, .unset, .unset] [(.ref a1)])) rfl rfl (hb hby d2_1) t (XS.aloadN X0.here hx rfl (hb hby d2_2) rfl rfl (lnV X0 hx hZ e0 pre_V_a2 (g := (mkF m 3 #[.val (.ref a1), .val (.ref a2), .unset, .unset, .unset, .unset, .unset] [(.ref a2), (.int (2 : Int32))])) rfl rfl (hb hby d2_3) t (XS.iadd X0.here hx rfl (hb hby d2_4) rfl k))))) ?_
  show GoW p e below QQ (T0.setTop (mkF m 5 #[.val (.ref a1), .val (.ref a2), .unset, .unset, .unset, .unset, .unset] [(.int (2 : Int32))]))
  obtain ⟨T1, h1, k1, X1, e1, E1, A1, st1⟩ := newP X0 hx hZ (hw _ (List.mem_of_getElem? (i := 4) rfl)) e0 (g := (mkF m 5 #[.val (.ref a1), .val (.ref a2), .unset, .unset, .unset, .unset, .unset] [(.int (2 : Int32))])) rfl (hb hby d2_5) rfl (by decide) (cap := 2) (by decide) (by decide) (by decide) (by decide)
  obtain ⟨b1, g1⟩ : ∃ z, z = h0.size := ⟨_, rfl⟩
  rw [← g1] at A1 st1
  refine GoW.st st1 ?_
  have gg1 : n0 ≤ b1 := Nat.le_trans (Nat.le_trans Z0 K0.1) (Nat.le_of_eq g1.symm)
  have sz1 : h0.size ≤ b1 := Nat.le_trans K0.1 (Nat.le_of_eq g1.symm)
  have ne1_a1 : a1 ≠ b1 := Nat.ne_of_lt (Nat.lt_of_lt_of_le pre_V_a1.lt (Nat.le_of_eq g1.symm))
  have ne1_a2 : a2 ≠ b1 := Nat.ne_of_lt (Nat.lt_of_lt_of_le pre_V_a2.lt (Nat.le_of_eq g1.symm))
  have f2_V_a1 : Arv Z h1 a1 ka .long (2 : Int32) [(.long x0), (.long x1)] (.long (0 : Int64)) := pre_V_a1.ext E1
  have f2_V_a2 : Arv Z h1 a2 kc .long (0 : Int32) [] (.long (0 : Int64)) := pre_V_a2.ext E1
  have K1 : Keep h0 h1 [] := K0.ext E1
  have V1 : Arv Z h1 b1 k1 .long (2 : Int32) [(.long (0 : Int64)), (.long (0 : Int64))] (.long (0 : Int64)) := (Arv.new A1 (by decide)).pad (pad_rep [] (.long (0 : Int64)) 2)
  show GoW p e below QQ (T1.setTop (mkF m 7 #[.val (.ref a1), .val (.ref a2), .unset, .unset, .unset, .unset, .unset] [(.ref b1)]))
  refine GoW.st (fun t k => XS.astoreN X1.here hx rfl (hb hby d2_7) rfl rfl (l' := #[.val (.ref a1), .val (.ref a2), .val (.ref b1), .unset, .unset, .unset, .unset]) rfl (XS.iconst X1.here hx rfl (hb hby d2_8) (XS.istoreN X1.here hx rfl (hb hby d2_9) rfl (l' := #[.val (.ref a1), .val (.ref a2), .val (.ref b1), .val (.int (0 : Int32)), .unset, .unset, .unset]) rfl (XS.iconst X1.here hx rfl (hb hby d2_10) (XS.istore X1.here hx rfl (hb hby d2_11) rfl (l' := #[.val (.ref a1), .val (.ref a2), .val (.ref b1), .val (.int (0 : Int32)), .val (.int (0 : Int32)), .unset, .unset]) rfl (XS.iconst X1.here hx rfl (hb hby d2_13) k)))))) ?_
  show GoW p e below QQ (T1.setTop (mkF m 14 #[.val (.ref a1), .val (.ref a2), .val (.ref b1), .val (.int (0 : Int32)), .val (.int (0 : Int32)), .unset, .unset] [(.int (0 : Int32))]))
  refine GoW.st (fun t k => XS.istore X1.here hx rfl (hb hby d2_14) rfl (l' := #[.val (.ref a1), .val (.ref a2), .val (.ref b1), .val (.int (0 : Int32)), .val (.int (0 : Int32)), .val (.int (0 : Int32)), .unset]) rfl (XS.iload X1.here hx rfl (hb hby d2_16) rfl (XS.aloadN X1.here hx rfl (hb hby d2_18) rfl rfl (lnV X1 hx hZ e1 V1 (g := (mkF m 19 #[.val (.ref a1), .val (.ref a2), .val (.ref b1), .val (.int (0 : Int32)), .val (.int (0 : Int32)), .val (.int (0 : Int32)), .unset] [(.ref b1), (.int (0 : Int32))])) rfl rfl (hb hby d2_19) t k)))) ?_
  show GoW p e below QQ (T1.setTop (mkF m 20 #[.val (.ref a1), .val (.ref a2), .val (.ref b1), .val (.int (0 : Int32)), .val (.int (0 : Int32)), .val (.int (0 : Int32)), .unset] [(.int (2 : Int32)), (.int (0 : Int32))]))
  have hc20 : (0 : Int32) < (2 : Int32) := by decide
  refine GoW.st (fun t k => XS.icmpNo X1.here hx rfl (hb hby d2_20) rfl (tlt hc20).2.1 (XS.iload X1.here hx rfl (hb hby d2_23) rfl (XS.aloadN X1.here hx rfl (hb hby d2_25) rfl rfl (lnV X1 hx hZ e1 f2_V_a2 (g := (mkF m 26 #[.val (.ref a1), .val (.ref a2), .val (.ref b1), .val (.int (0 : Int32)), .val (.int (0 : Int32)), .val (.int (0 : Int32)), .unset] [(.ref a2), (.int (0 : Int32))])) rfl rfl (hb hby d2_26) t k)))) ?_
  show GoW p e below QQ (T1.setTop (mkF m 27 #[.val (.ref a1), .val (.ref a2), .val (.ref b1), .val (.int (0 : Int32)), .val (.int (0 : Int32)), .val (.int (0 : Int32)), .unset] [(.int (0 : Int32)), (.int (0 : Int32))]))
  have hc27 : (0 : Int32) = (0 : Int32) := by decide
  refine GoW.st (fun t k => XS.icmpYes X1.here hx rfl (pc0 := 27) (pc' := 47) rfl (hb hby d2_27) rfl (teq hc27).1 (by decide) (by decide) (XS.iconst X1.here hx rfl (hb hby d2_47) (XS.goto X1.here hx rfl (pc0 := 48) (pc' := 52) rfl (hb hby d2_48) (by decide) (by decide) (XS.istore X1.here hx rfl (hb hby d2_52) rfl (l' := #[.val (.ref a1), .val (.ref a2), .val (.ref b1), .val (.int (0 : Int32)), .val (.int (0 : Int32)), .val (.int (0 : Int32)), .val (.int (1 : Int32))]) rfl (XS.aloadN X1.here hx rfl (hb hby d2_54) rfl rfl (XS.iload X1.here hx rfl (hb hby d2_55) rfl k)))))) ?_
  show GoW p e below QQ (T1.setTop (mkF m 57 #[.val (.ref a1), .val (.ref a2), .val (.ref b1), .val (.int (0 : Int32)), .val (.int (0 : Int32)), .val (.int (0 : Int32)), .val (.int (1 : Int32))] [(.int (0 : Int32)), (.ref b1)]))
  refine GoW.st (fun t k => XS.iload X1.here hx rfl (hb hby d2_57) rfl k) ?_
  show GoW p e below QQ (T1.setTop (mkF m 59 #[.val (.ref a1), .val (.ref a2), .val (.ref b1), .val (.int (0 : Int32)), .val (.int (0 : Int32)), .val (.int (0 : Int32)), .val (.int (1 : Int32))] [(.int (1 : Int32)), (.int (0 : Int32)), (.ref b1)]))
  have hc59 : ¬ ((1 : Int32) = (0 : Int32)) := by decide
  refine GoW.st (fun t k => XS.ifNo X1.here hx rfl (hb hby d2_59) rfl ((if0 _ _).trans (feq hc59).1) (XS.aloadN X1.here hx rfl (hb hby d2_62) rfl rfl (XS.iloadN X1.here hx rfl (hb hby d2_63) rfl (XS.iinc X1.here hx rfl (hb hby d2_64) rfl (l' := #[.val (.ref a1), .val (.ref a2), .val (.ref b1), .val (.int (1 : Int32)), .val (.int (0 : Int32)), .val (.int (0 : Int32)), .val (.int (1 : Int32))]) rfl (ldVJ X1 hx hZ e1 f2_V_a1 (v := (.long x0)) ⟨by decide, by decide⟩ rfl (g := (mkF m 67 #[.val (.ref a1), .val (.ref a2), .val (.ref b1), .val (.int (1 : Int32)), .val (.int (0 : Int32)), .val (.int (0 : Int32)), .val (.int (1 : Int32))] [(.int (0 : Int32)), (.ref a1), (.int (0 : Int32)), (.ref b1)])) rfl rfl (hb hby d2_67) t (XS.goto X1.here hx rfl (pc0 := 68) (pc' := 78) rfl (hb hby d2_68) (by decide) (by decide) k)))))) ?_
  show GoW p e below QQ (T1.setTop (mkF m 78 #[.val (.ref a1), .val (.ref a2), .val (.ref b1), .val (.int (1 : Int32)), .val (.int (0 : Int32)), .val (.int (0 : Int32)), .val (.int (1 : Int32))] [(.long x0), (.int (0 : Int32)), (.ref b1)]))
  obtain ⟨T3, h3, X3, e3, W3, V3, st3⟩ := stVJ X1 hx hZ e1 V1 ⟨by decide, by decide⟩ 0 rfl (Nat.le_of_ble_eq_true rfl) (g := (mkF m 78 #[.val (.ref a1), .val (.ref a2), .val (.ref b1), .val (.int (1 : Int32)), .val (.int (0 : Int32)), .val (.int (0 : Int32)), .val (.int (1 : Int32))] [(.long x0), (.int (0 : Int32)), (.ref b1)])) rfl rfl (hb hby d2_78)
  refine GoW.st st3 ?_
  have f4_V_a1 : Arv Z h3 a1 ka .long (2 : Int32) [(.long x0), (.long x1)] (.long (0 : Int64)) := f2_V_a1.other W3 ne1_a1
  have f4_V_a2 : Arv Z h3 a2 kc .long (0 : Int32) [] (.long (0 : Int64)) := f2_V_a2.other W3 ne1_a2
  have f4_V_b1 : Arv Z h3 b1 k1 .long (2 : Int32) [(.long x0), (.long (0 : Int64))] (.long (0 : Int64)) := V3
  have K3 : Keep h0 h3 [] := K1.wr W3 (Or.inr sz1)
  have N3 := Fr.snoc X3 N0 gg1
  show GoW p e below QQ (T3.setTop (mkF m 79 #[.val (.ref a1), .val (.ref a2), .val (.ref b1), .val (.int (1 : Int32)), .val (.int (0 : Int32)), .val (.int (0 : Int32)), .val (.int (1 : Int32))] []))
  refine GoW.st (fun t k => XS.iinc X3.here hx rfl (hb hby d2_79) rfl (l' := #[.val (.ref a1), .val (.ref a2), .val (.ref b1), .val (.int (1 : Int32)), .val (.int (0 : Int32)), .val (.int (1 : Int32)), .val (.int (1 : Int32))]) rfl (XS.goto X3.here hx rfl (pc0 := 82) (pc' := 16) rfl (hb hby d2_82) (by decide) (by decide) (XS.iload X3.here hx rfl (hb hby d2_16) rfl (XS.aloadN X3.here hx rfl (hb hby d2_18) rfl rfl (lnV X3 hx hZ e3 f4_V_b1 (g := (mkF m 19 #[.val (.ref a1), .val (.ref a2), .val (.ref b1), .val (.int (1 : Int32)), .val (.int (0 : Int32)), .val (.int (1 : Int32)), .val (.int (1 : Int32))] [(.ref b1), (.int (1 : Int32))])) rfl rfl (hb hby d2_19) t k))))) ?_
  show GoW p e below QQ (T3.setTop (mkF m 20 #[.val (.ref a1), .val (.ref a2), .val (.ref b1), .val (.int (1 : Int32)), .val (.int (0 : Int32)), .val (.int (1 : Int32)), .val (.int (1 : Int32))] [(.int (2 : Int32)), (.int (1 : Int32))]))
  have hc20_2 : (1 : Int32) < (2 : Int32) := by decide
  refine GoW.st (fun t k => XS.icmpNo X3.here hx rfl (hb hby d2_20) rfl (tlt hc20_2).2.1 (XS.iload X3.here hx rfl (hb hby d2_23) rfl (XS.aloadN X3.here hx rfl (hb hby d2_25) rfl rfl (lnV X3 hx hZ e3 f4_V_a2 (g := (mkF m 26 #[.val (.ref a1), .val (.ref a2), .val (.ref b1), .val (.int (1 : Int32)), .val (.int (0 : Int32)), .val (.int (1 : Int32)), .val (.int (1 : Int32))] [(.ref a2), (.int (0 : Int32))])) rfl rfl (hb hby d2_26) t k)))) ?_
  show GoW p e below QQ (T3.setTop (mkF m 27 #[.val (.ref a1), .val (.ref a2), .val (.ref b1), .val (.int (1 : Int32)), .val (.int (0 : Int32)), .val (.int (1 : Int32)), .val (.int (1 : Int32))] [(.int (0 : Int32)), (.int (0 : Int32))]))
  have hc27_2 : (0 : Int32) = (0 : Int32) := by decide
  refine GoW.st (fun t k => XS.icmpYes X3.here hx rfl (pc0 := 27) (pc' := 47) rfl (hb hby d2_27) rfl (teq hc27_2).1 (by decide) (by decide) (XS.iconst X3.here hx rfl (hb hby d2_47) (XS.goto X3.here hx rfl (pc0 := 48) (pc' := 52) rfl (hb hby d2_48) (by decide) (by decide) (XS.istore X3.here hx rfl (hb hby d2_52) rfl (l' := #[.val (.ref a1), .val (.ref a2), .val (.ref b1), .val (.int (1 : Int32)), .val (.int (0 : Int32)), .val (.int (1 : Int32)), .val (.int (1 : Int32))]) rfl (XS.aloadN X3.here hx rfl (hb hby d2_54) rfl rfl (XS.iload X3.here hx rfl (hb hby d2_55) rfl k)))))) ?_
  show GoW p e below QQ (T3.setTop (mkF m 57 #[.val (.ref a1), .val (.ref a2), .val (.ref b1), .val (.int (1 : Int32)), .val (.int (0 : Int32)), .val (.int (1 : Int32)), .val (.int (1 : Int32))] [(.int (1 : Int32)), (.ref b1)]))
  refine GoW.st (fun t k => XS.iload X3.here hx rfl (hb hby d2_57) rfl k) ?_
  show GoW p e below QQ (T3.setTop (mkF m 59 #[.val (.ref a1), .val (.ref a2), .val (.ref b1), .val (.int (1 : Int32)), .val (.int (0 : Int32)), .val (.int (1 : Int32)), .val (.int (1 : Int32))] [(.int (1 : Int32)), (.int (1 : Int32)), (.ref b1)]))
  have hc59_2 : ¬ ((1 : Int32) = (0 : Int32)) := by decide
  refine GoW.st (fun t k => XS.ifNo X3.here hx rfl (hb hby d2_59) rfl ((if0 _ _).trans (feq hc59_2).1) (XS.aloadN X3.here hx rfl (hb hby d2_62) rfl rfl (XS.iloadN X3.here hx rfl (hb hby d2_63) rfl (XS.iinc X3.here hx rfl (hb hby d2_64) rfl (l' := #[.val (.ref a1), .val (.ref a2), .val (.ref b1), .val (.int (2 : Int32)), .val (.int (0 : Int32)), .val (.int (1 : Int32)), .val (.int (1 : Int32))]) rfl (ldVJ X3 hx hZ e3 f4_V_a1 (v := (.long x1)) ⟨by decide, by decide⟩ rfl (g := (mkF m 67 #[.val (.ref a1), .val (.ref a2), .val (.ref b1), .val (.int (2 : Int32)), .val (.int (0 : Int32)), .val (.int (1 : Int32)), .val (.int (1 : Int32))] [(.int (1 : Int32)), (.ref a1), (.int (1 : Int32)), (.ref b1)])) rfl rfl (hb hby d2_67) t (XS.goto X3.here hx rfl (pc0 := 68) (pc' := 78) rfl (hb hby d2_68) (by decide) (by decide) k)))))) ?_
  show GoW p e below QQ (T3.setTop (mkF m 78 #[.val (.ref a1), .val (.ref a2), .val (.ref b1), .val (.int (2 : Int32)), .val (.int (0 : Int32)), .val (.int (1 : Int32)), .val (.int (1 : Int32))] [(.long x1), (.int (1 : Int32)), (.ref b1)]))
  obtain ⟨T5, h5, X5, e5, W5, V5, st5⟩ := stVJ X3 hx hZ e3 f4_V_b1 ⟨by decide, by decide⟩ 1 rfl (Nat.le_of_ble_eq_true rfl) (g := (mkF m 78 #[.val (.ref a1), .val (.ref a2), .val (.ref b1), .val (.int (2 : Int32)), .val (.int (0 : Int32)), .val (.int (1 : Int32)), .val (.int (1 : Int32))] [(.long x1), (.int (1 : Int32)), (.ref b1)])) rfl rfl (hb hby d2_78)
  refine GoW.st st5 ?_
  have f6_V_a1 : Arv Z h5 a1 ka .long (2 : Int32) [(.long x0), (.long x1)] (.long (0 : Int64)) := f4_V_a1.other W5 ne1_a1
  have f6_V_a2 : Arv Z h5 a2 kc .long (0 : Int32) [] (.long (0 : Int64)) := f4_V_a2.other W5 ne1_a2
  have f6_V_b1 : Arv Z h5 b1 k1 .long (2 : Int32) [(.long x0), (.long x1)] (.long (0 : Int64)) := V5
  have K5 : Keep h0 h5 [] := K3.wr W5 (Or.inr sz1)
  have N5 := Fr.snoc X5 N3 gg1
  show GoW p e below QQ (T5.setTop (mkF m 79 #[.val (.ref a1), .val (.ref a2), .val (.ref b1), .val (.int (2 : Int32)), .val (.int (0 : Int32)), .val (.int (1 : Int32)), .val (.int (1 : Int32))] []))
  refine GoW.st (fun t k => XS.iinc X5.here hx rfl (hb hby d2_79) rfl (l' := #[.val (.ref a1), .val (.ref a2), .val (.ref b1), .val (.int (2 : Int32)), .val (.int (0 : Int32)), .val (.int (2 : Int32)), .val (.int (1 : Int32))]) rfl (XS.goto X5.here hx rfl (pc0 := 82) (pc' := 16) rfl (hb hby d2_82) (by decide) (by decide) (XS.iload X5.here hx rfl (hb hby d2_16) rfl (XS.aloadN X5.here hx rfl (hb hby d2_18) rfl rfl (lnV X5 hx hZ e5 f6_V_b1 (g := (mkF m 19 #[.val (.ref a1), .val (.ref a2), .val (.ref b1), .val (.int (2 : Int32)), .val (.int (0 : Int32)), .val (.int (2 : Int32)), .val (.int (1 : Int32))] [(.ref b1), (.int (2 : Int32))])) rfl rfl (hb hby d2_19) t k))))) ?_
  show GoW p e below QQ (T5.setTop (mkF m 20 #[.val (.ref a1), .val (.ref a2), .val (.ref b1), .val (.int (2 : Int32)), .val (.int (0 : Int32)), .val (.int (2 : Int32)), .val (.int (1 : Int32))] [(.int (2 : Int32)), (.int (2 : Int32))]))
  have hc20_3 : ¬ ((2 : Int32) < (2 : Int32)) := by decide
  refine GoW.st (fun t k => XS.icmpYes X5.here hx rfl (pc0 := 20) (pc' := 85) rfl (hb hby d2_20) rfl (flt hc20_3).2.1 (by decide) (by decide) (XS.aloadN X5.here hx rfl (hb hby d2_85) rfl rfl k)) ?_
  show GoW p e below QQ (T5.setTop (mkF m 86 #[.val (.ref a1), .val (.ref a2), .val (.ref b1), .val (.int (2 : Int32)), .val (.int (0 : Int32)), .val (.int (2 : Int32)), .val (.int (1 : Int32))] [(.ref b1)]))
  exact GoW.fin X5 (some (.ref b1)) (fun q => by rw [hret] at q; cases q) hlk hQ e5 ⟨b1, k1, x0, x1, rfl, N5, K5, sz1, f6_V_b1, (by omega)⟩ (by decide) (by decide) (fun fs hr => retOut X5 hx hret rfl (Or.inr (Or.inr (Or.inr (Or.inr ⟨rfl, rfl, rfl⟩)))) (hb hby d2_86) hr)
def RM2_21 : Room := { frames := 0, cells := 1, slots := 3, locals := 0 }
def Q2_21 (Z : State) (a1 : Addr) (a2 : Addr) (ka : ClassId) (kc : ClassId) (x0 : Int64) (x1 : Int64) (y0 : Int64) (h0 : Heap) (n0 : Nat) (v : Option Value) (h : Heap) (L : List Loc) : Prop := ∃ (b : Addr) (kb : ClassId) (w0 : Int64) (w1 : Int64) (w2 : Int64), v = some (.ref b) ∧ Fr n0 L ∧ Keep h0 h [] ∧ (h0.size ≤ b) ∧ (Arv Z h b kb .long (3 : Int32) [(.long w0), (.long w1), (.long w2)] (.long (0 : Int64))) ∧ (w0.toInt = (min x0.toInt y0.toInt) ∧ w1.toInt = (min (max x0.toInt y0.toInt) x1.toInt) ∧ w2.toInt = (max x1.toInt y0.toInt))
set_option maxRecDepth 65536 in
set_option maxHeartbeats 40000000 in
theorem rm2_21 (l : Launch) (Z : State) (a0 : Array Value) (hw : ∀ d ∈ tables_1, d.before a0 Z = true) (ws : List Jvm.Cond) (a1 : Addr) (a2 : Addr) (ka : ClassId) (kc : ClassId) (x0 : Int64) (x1 : Int64) (y0 : Int64) (h0 : Heap) (n0 : Nat) (Z0 : n0 ≤ h0.size) (pre_V_a1 : Arv Z h0 a1 ka .long (2 : Int32) [(.long x0), (.long x1)] (.long (0 : Int64))) (pre_V_a2 : Arv Z h0 a2 kc .long (1 : Int32) [(.long y0)] (.long (0 : Int64))) (hx01 : x0.toInt ≤ x1.toInt) :
    MetFree l (⟨"com/example/hike/hike/Holders", "merge", "([J[J)[J"⟩ : MethodName) (head1 (Jvm.Cond.code (⟨"com/example/hike/hike/Holders", "merge", "([J[J)[J"⟩ : MethodName) prog_63_method_6_code 7 (some (.array .long)) :: ws) RM2_21) (fun a U => a = #[(.ref a1), (.ref a2)] ∧ Z.Warmed39 U.vm ∧ U.heap = h0) (fun _ _ _ _ _ => True) (fun _ U o U' => ∃ v L, o = .returned v ∧ Q2_21 Z a1 a2 ka kc x0 x1 y0 h0 n0 v U'.heap L ∧ FrameEnd U o U' L RM2_21.cells RM2_21.slots) := by
  refine met_of (Q := fun v h L => Q2_21 Z a1 a2 ka kc x0 x1 y0 h0 n0 v h L) (plainFor_of_name pn_1) (fun m => by first | (simp [entryFrame, mkF, argsToLocals, Value.category]; done) | rfl) (Ls := #[.val (.ref a1), .val (.ref a2), .unset, .unset, .unset, .unset, .unset]) ?_
  intro p e s m below meth c T0 QQ hx hZ hby hml hown hnm hret hlk X0 e0 hQ
  have hml : c.maxLocals = 7 := hml
  have hown : s.vm.findClass "com/example/hike/hike/Holders" = some m.cls := hown
  have hnm : meth.name = "merge" := hnm
  have hret : meth.sig.returnType = some (.array .long) := hret
  have N0 := Fr.nil n0
  have K0 : Keep h0 h0 [] := Keep.refl h0 _
  show GoW p e below QQ (T0.setTop (mkF m 0 #[.val (.ref a1), .val (.ref a2), .unset, .unset, .unset, .unset, .unset] []))
  refine GoW.st (fun t k => XS.aloadN X0.here hx rfl (hb hby d2_0) rfl rfl (lnV X0 hx hZ e0 pre_V_a1 (g := (mkF m 1 #[.val (.ref a1), .val (.ref a2), .unset, .unset, .unset, .unset, .unset] [(.ref a1)])) rfl rfl (hb hby d2_1) t (XS.aloadN X0.here hx rfl (hb hby d2_2) rfl rfl (lnV X0 hx hZ e0 pre_V_a2 (g := (mkF m 3 #[.val (.ref a1), .val (.ref a2), .unset, .unset, .unset, .unset, .unset] [(.ref a2), (.int (2 : Int32))])) rfl rfl (hb hby d2_3) t (XS.iadd X0.here hx rfl (hb hby d2_4) rfl k))))) ?_
  show GoW p e below QQ (T0.setTop (mkF m 5 #[.val (.ref a1), .val (.ref a2), .unset, .unset, .unset, .unset, .unset] [(.int (3 : Int32))]))
  obtain ⟨T1, h1, k1, X1, e1, E1, A1, st1⟩ := newP X0 hx hZ (hw _ (List.mem_of_getElem? (i := 4) rfl)) e0 (g := (mkF m 5 #[.val (.ref a1), .val (.ref a2), .unset, .unset, .unset, .unset, .unset] [(.int (3 : Int32))])) rfl (hb hby d2_5) rfl (by decide) (cap := 3) (by decide) (by decide) (by decide) (by decide)
  obtain ⟨b1, g1⟩ : ∃ z, z = h0.size := ⟨_, rfl⟩
  rw [← g1] at A1 st1
  refine GoW.st st1 ?_
  have gg1 : n0 ≤ b1 := Nat.le_trans (Nat.le_trans Z0 K0.1) (Nat.le_of_eq g1.symm)
  have sz1 : h0.size ≤ b1 := Nat.le_trans K0.1 (Nat.le_of_eq g1.symm)
  have ne1_a1 : a1 ≠ b1 := Nat.ne_of_lt (Nat.lt_of_lt_of_le pre_V_a1.lt (Nat.le_of_eq g1.symm))
  have ne1_a2 : a2 ≠ b1 := Nat.ne_of_lt (Nat.lt_of_lt_of_le pre_V_a2.lt (Nat.le_of_eq g1.symm))
  have f2_V_a1 : Arv Z h1 a1 ka .long (2 : Int32) [(.long x0), (.long x1)] (.long (0 : Int64)) := pre_V_a1.ext E1
  have f2_V_a2 : Arv Z h1 a2 kc .long (1 : Int32) [(.long y0)] (.long (0 : Int64)) := pre_V_a2.ext E1
  have K1 : Keep h0 h1 [] := K0.ext E1
  have V1 : Arv Z h1 b1 k1 .long (3 : Int32) [(.long (0 : Int64)), (.long (0 : Int64)), (.long (0 : Int64))] (.long (0 : Int64)) := (Arv.new A1 (by decide)).pad (pad_rep [] (.long (0 : Int64)) 3)
  show GoW p e below QQ (T1.setTop (mkF m 7 #[.val (.ref a1), .val (.ref a2), .unset, .unset, .unset, .unset, .unset] [(.ref b1)]))
  refine GoW.st (fun t k => XS.astoreN X1.here hx rfl (hb hby d2_7) rfl rfl (l' := #[.val (.ref a1), .val (.ref a2), .val (.ref b1), .unset, .unset, .unset, .unset]) rfl (XS.iconst X1.here hx rfl (hb hby d2_8) (XS.istoreN X1.here hx rfl (hb hby d2_9) rfl (l' := #[.val (.ref a1), .val (.ref a2), .val (.ref b1), .val (.int (0 : Int32)), .unset, .unset, .unset]) rfl (XS.iconst X1.here hx rfl (hb hby d2_10) (XS.istore X1.here hx rfl (hb hby d2_11) rfl (l' := #[.val (.ref a1), .val (.ref a2), .val (.ref b1), .val (.int (0 : Int32)), .val (.int (0 : Int32)), .unset, .unset]) rfl (XS.iconst X1.here hx rfl (hb hby d2_13) k)))))) ?_
  show GoW p e below QQ (T1.setTop (mkF m 14 #[.val (.ref a1), .val (.ref a2), .val (.ref b1), .val (.int (0 : Int32)), .val (.int (0 : Int32)), .unset, .unset] [(.int (0 : Int32))]))
  refine GoW.st (fun t k => XS.istore X1.here hx rfl (hb hby d2_14) rfl (l' := #[.val (.ref a1), .val (.ref a2), .val (.ref b1), .val (.int (0 : Int32)), .val (.int (0 : Int32)), .val (.int (0 : Int32)), .unset]) rfl (XS.iload X1.here hx rfl (hb hby d2_16) rfl (XS.aloadN X1.here hx rfl (hb hby d2_18) rfl rfl (lnV X1 hx hZ e1 V1 (g := (mkF m 19 #[.val (.ref a1), .val (.ref a2), .val (.ref b1), .val (.int (0 : Int32)), .val (.int (0 : Int32)), .val (.int (0 : Int32)), .unset] [(.ref b1), (.int (0 : Int32))])) rfl rfl (hb hby d2_19) t k)))) ?_
  show GoW p e below QQ (T1.setTop (mkF m 20 #[.val (.ref a1), .val (.ref a2), .val (.ref b1), .val (.int (0 : Int32)), .val (.int (0 : Int32)), .val (.int (0 : Int32)), .unset] [(.int (3 : Int32)), (.int (0 : Int32))]))
  have hc20 : (0 : Int32) < (3 : Int32) := by decide
  refine GoW.st (fun t k => XS.icmpNo X1.here hx rfl (hb hby d2_20) rfl (tlt hc20).2.1 (XS.iload X1.here hx rfl (hb hby d2_23) rfl (XS.aloadN X1.here hx rfl (hb hby d2_25) rfl rfl (lnV X1 hx hZ e1 f2_V_a2 (g := (mkF m 26 #[.val (.ref a1), .val (.ref a2), .val (.ref b1), .val (.int (0 : Int32)), .val (.int (0 : Int32)), .val (.int (0 : Int32)), .unset] [(.ref a2), (.int (0 : Int32))])) rfl rfl (hb hby d2_26) t k)))) ?_
  show GoW p e below QQ (T1.setTop (mkF m 27 #[.val (.ref a1), .val (.ref a2), .val (.ref b1), .val (.int (0 : Int32)), .val (.int (0 : Int32)), .val (.int (0 : Int32)), .unset] [(.int (1 : Int32)), (.int (0 : Int32))]))
  have hc27 : ¬ ((0 : Int32) = (1 : Int32)) := by decide
  refine GoW.st (fun t k => XS.icmpNo X1.here hx rfl (hb hby d2_27) rfl (feq hc27).1 (XS.iloadN X1.here hx rfl (hb hby d2_30) rfl (XS.aloadN X1.here hx rfl (hb hby d2_31) rfl rfl (lnV X1 hx hZ e1 f2_V_a1 (g := (mkF m 32 #[.val (.ref a1), .val (.ref a2), .val (.ref b1), .val (.int (0 : Int32)), .val (.int (0 : Int32)), .val (.int (0 : Int32)), .unset] [(.ref a1), (.int (0 : Int32))])) rfl rfl (hb hby d2_32) t k)))) ?_
  show GoW p e below QQ (T1.setTop (mkF m 33 #[.val (.ref a1), .val (.ref a2), .val (.ref b1), .val (.int (0 : Int32)), .val (.int (0 : Int32)), .val (.int (0 : Int32)), .unset] [(.int (2 : Int32)), (.int (0 : Int32))]))
  have hc33 : (0 : Int32) < (2 : Int32) := by decide
  refine GoW.st (fun t k => XS.icmpNo X1.here hx rfl (hb hby d2_33) rfl (tlt hc33).2.1 (XS.aloadN X1.here hx rfl (hb hby d2_36) rfl rfl (XS.iloadN X1.here hx rfl (hb hby d2_37) rfl (ldVJ X1 hx hZ e1 f2_V_a1 (v := (.long x0)) ⟨by decide, by decide⟩ rfl (g := (mkF m 38 #[.val (.ref a1), .val (.ref a2), .val (.ref b1), .val (.int (0 : Int32)), .val (.int (0 : Int32)), .val (.int (0 : Int32)), .unset] [(.int (0 : Int32)), (.ref a1)])) rfl rfl (hb hby d2_38) t (XS.aloadN X1.here hx rfl (hb hby d2_39) rfl rfl (XS.iload X1.here hx rfl (hb hby d2_40) rfl k)))))) ?_
  show GoW p e below QQ (T1.setTop (mkF m 42 #[.val (.ref a1), .val (.ref a2), .val (.ref b1), .val (.int (0 : Int32)), .val (.int (0 : Int32)), .val (.int (0 : Int32)), .unset] [(.int (0 : Int32)), (.ref a2), (.long x0)]))
  refine GoW.st (fun t k => ldVJ X1 hx hZ e1 f2_V_a2 (v := (.long y0)) ⟨by decide, by decide⟩ rfl (g := (mkF m 42 #[.val (.ref a1), .val (.ref a2), .val (.ref b1), .val (.int (0 : Int32)), .val (.int (0 : Int32)), .val (.int (0 : Int32)), .unset] [(.int (0 : Int32)), (.ref a2), (.long x0)])) rfl rfl (hb hby d2_42) t (XS.lcmp X1.here hx rfl (hb hby d2_43) rfl k)) ?_
  show GoW p e below QQ (T1.setTop (mkF m 44 #[.val (.ref a1), .val (.ref a2), .val (.ref b1), .val (.int (0 : Int32)), .val (.int (0 : Int32)), .val (.int (0 : Int32)), .unset] [(.int (lcmpW x0 y0))]))
  by_cases hc44 : y0 < x0
  · skip
    refine GoW.st (fun t k => XS.ifYes X1.here hx rfl (pc0 := 44) (pc' := 51) rfl (hb hby d2_44) rfl ((if0 _ _).trans (tlt ((lw_gt x0 y0).mpr hc44)).2.2.1) (by decide) (by decide) k) ?_
    show GoW p e below QQ (T1.setTop (mkF m 51 #[.val (.ref a1), .val (.ref a2), .val (.ref b1), .val (.int (0 : Int32)), .val (.int (0 : Int32)), .val (.int (0 : Int32)), .unset] []))
    have hi44 : y0.toInt < x0.toInt := (Int64.lt_iff_toInt_lt.mp hc44)
    refine GoW.st (fun t k => XS.iconst X1.here hx rfl (hb hby d2_51) (XS.istore X1.here hx rfl (hb hby d2_52) rfl (l' := #[.val (.ref a1), .val (.ref a2), .val (.ref b1), .val (.int (0 : Int32)), .val (.int (0 : Int32)), .val (.int (0 : Int32)), .val (.int (0 : Int32))]) rfl (XS.aloadN X1.here hx rfl (hb hby d2_54) rfl rfl (XS.iload X1.here hx rfl (hb hby d2_55) rfl (XS.iload X1.here hx rfl (hb hby d2_57) rfl k))))) ?_
    show GoW p e below QQ (T1.setTop (mkF m 59 #[.val (.ref a1), .val (.ref a2), .val (.ref b1), .val (.int (0 : Int32)), .val (.int (0 : Int32)), .val (.int (0 : Int32)), .val (.int (0 : Int32))] [(.int (0 : Int32)), (.int (0 : Int32)), (.ref b1)]))
    have hc59 : (0 : Int32) = (0 : Int32) := by decide
    refine GoW.st (fun t k => XS.ifYes X1.here hx rfl (pc0 := 59) (pc' := 71) rfl (hb hby d2_59) rfl ((if0 _ _).trans (teq hc59).1) (by decide) (by decide) (XS.aloadN X1.here hx rfl (hb hby d2_71) rfl rfl (XS.iload X1.here hx rfl (hb hby d2_72) rfl (XS.iinc X1.here hx rfl (hb hby d2_74) rfl (l' := #[.val (.ref a1), .val (.ref a2), .val (.ref b1), .val (.int (0 : Int32)), .val (.int (1 : Int32)), .val (.int (0 : Int32)), .val (.int (0 : Int32))]) rfl (ldVJ X1 hx hZ e1 f2_V_a2 (v := (.long y0)) ⟨by decide, by decide⟩ rfl (g := (mkF m 77 #[.val (.ref a1), .val (.ref a2), .val (.ref b1), .val (.int (0 : Int32)), .val (.int (1 : Int32)), .val (.int (0 : Int32)), .val (.int (0 : Int32))] [(.int (0 : Int32)), (.ref a2), (.int (0 : Int32)), (.ref b1)])) rfl rfl (hb hby d2_77) t k))))) ?_
    show GoW p e below QQ (T1.setTop (mkF m 78 #[.val (.ref a1), .val (.ref a2), .val (.ref b1), .val (.int (0 : Int32)), .val (.int (1 : Int32)), .val (.int (0 : Int32)), .val (.int (0 : Int32))] [(.long y0), (.int (0 : Int32)), (.ref b1)]))
    obtain ⟨T3, h3, X3, e3, W3, V3, st3⟩ := stVJ X1 hx hZ e1 V1 ⟨by decide, by decide⟩ 0 rfl (Nat.le_of_ble_eq_true rfl) (g := (mkF m 78 #[.val (.ref a1), .val (.ref a2), .val (.ref b1), .val (.int (0 : Int32)), .val (.int (1 : Int32)), .val (.int (0 : Int32)), .val (.int (0 : Int32))] [(.long y0), (.int (0 : Int32)), (.ref b1)])) rfl rfl (hb hby d2_78)
    refine GoW.st st3 ?_
    have f4_V_a1 : Arv Z h3 a1 ka .long (2 : Int32) [(.long x0), (.long x1)] (.long (0 : Int64)) := f2_V_a1.other W3 ne1_a1
    have f4_V_a2 : Arv Z h3 a2 kc .long (1 : Int32) [(.long y0)] (.long (0 : Int64)) := f2_V_a2.other W3 ne1_a2
    have f4_V_b1 : Arv Z h3 b1 k1 .long (3 : Int32) [(.long y0), (.long (0 : Int64)), (.long (0 : Int64))] (.long (0 : Int64)) := V3
    have K3 : Keep h0 h3 [] := K1.wr W3 (Or.inr sz1)
    have N3 := Fr.snoc X3 N0 gg1
    show GoW p e below QQ (T3.setTop (mkF m 79 #[.val (.ref a1), .val (.ref a2), .val (.ref b1), .val (.int (0 : Int32)), .val (.int (1 : Int32)), .val (.int (0 : Int32)), .val (.int (0 : Int32))] []))
    refine GoW.st (fun t k => XS.iinc X3.here hx rfl (hb hby d2_79) rfl (l' := #[.val (.ref a1), .val (.ref a2), .val (.ref b1), .val (.int (0 : Int32)), .val (.int (1 : Int32)), .val (.int (1 : Int32)), .val (.int (0 : Int32))]) rfl (XS.goto X3.here hx rfl (pc0 := 82) (pc' := 16) rfl (hb hby d2_82) (by decide) (by decide) (XS.iload X3.here hx rfl (hb hby d2_16) rfl (XS.aloadN X3.here hx rfl (hb hby d2_18) rfl rfl (lnV X3 hx hZ e3 f4_V_b1 (g := (mkF m 19 #[.val (.ref a1), .val (.ref a2), .val (.ref b1), .val (.int (0 : Int32)), .val (.int (1 : Int32)), .val (.int (1 : Int32)), .val (.int (0 : Int32))] [(.ref b1), (.int (1 : Int32))])) rfl rfl (hb hby d2_19) t k))))) ?_
    show GoW p e below QQ (T3.setTop (mkF m 20 #[.val (.ref a1), .val (.ref a2), .val (.ref b1), .val (.int (0 : Int32)), .val (.int (1 : Int32)), .val (.int (1 : Int32)), .val (.int (0 : Int32))] [(.int (3 : Int32)), (.int (1 : Int32))]))
    have hc20_2 : (1 : Int32) < (3 : Int32) := by decide
    refine GoW.st (fun t k => XS.icmpNo X3.here hx rfl (hb hby d2_20) rfl (tlt hc20_2).2.1 (XS.iload X3.here hx rfl (hb hby d2_23) rfl (XS.aloadN X3.here hx rfl (hb hby d2_25) rfl rfl (lnV X3 hx hZ e3 f4_V_a2 (g := (mkF m 26 #[.val (.ref a1), .val (.ref a2), .val (.ref b1), .val (.int (0 : Int32)), .val (.int (1 : Int32)), .val (.int (1 : Int32)), .val (.int (0 : Int32))] [(.ref a2), (.int (1 : Int32))])) rfl rfl (hb hby d2_26) t k)))) ?_
    show GoW p e below QQ (T3.setTop (mkF m 27 #[.val (.ref a1), .val (.ref a2), .val (.ref b1), .val (.int (0 : Int32)), .val (.int (1 : Int32)), .val (.int (1 : Int32)), .val (.int (0 : Int32))] [(.int (1 : Int32)), (.int (1 : Int32))]))
    have hc27_2 : (1 : Int32) = (1 : Int32) := by decide
    refine GoW.st (fun t k => XS.icmpYes X3.here hx rfl (pc0 := 27) (pc' := 47) rfl (hb hby d2_27) rfl (teq hc27_2).1 (by decide) (by decide) (XS.iconst X3.here hx rfl (hb hby d2_47) (XS.goto X3.here hx rfl (pc0 := 48) (pc' := 52) rfl (hb hby d2_48) (by decide) (by decide) (XS.istore X3.here hx rfl (hb hby d2_52) rfl (l' := #[.val (.ref a1), .val (.ref a2), .val (.ref b1), .val (.int (0 : Int32)), .val (.int (1 : Int32)), .val (.int (1 : Int32)), .val (.int (1 : Int32))]) rfl (XS.aloadN X3.here hx rfl (hb hby d2_54) rfl rfl (XS.iload X3.here hx rfl (hb hby d2_55) rfl k)))))) ?_
    show GoW p e below QQ (T3.setTop (mkF m 57 #[.val (.ref a1), .val (.ref a2), .val (.ref b1), .val (.int (0 : Int32)), .val (.int (1 : Int32)), .val (.int (1 : Int32)), .val (.int (1 : Int32))] [(.int (1 : Int32)), (.ref b1)]))
    refine GoW.st (fun t k => XS.iload X3.here hx rfl (hb hby d2_57) rfl k) ?_
    show GoW p e below QQ (T3.setTop (mkF m 59 #[.val (.ref a1), .val (.ref a2), .val (.ref b1), .val (.int (0 : Int32)), .val (.int (1 : Int32)), .val (.int (1 : Int32)), .val (.int (1 : Int32))] [(.int (1 : Int32)), (.int (1 : Int32)), (.ref b1)]))
    have hc59_2 : ¬ ((1 : Int32) = (0 : Int32)) := by decide
    refine GoW.st (fun t k => XS.ifNo X3.here hx rfl (hb hby d2_59) rfl ((if0 _ _).trans (feq hc59_2).1) (XS.aloadN X3.here hx rfl (hb hby d2_62) rfl rfl (XS.iloadN X3.here hx rfl (hb hby d2_63) rfl (XS.iinc X3.here hx rfl (hb hby d2_64) rfl (l' := #[.val (.ref a1), .val (.ref a2), .val (.ref b1), .val (.int (1 : Int32)), .val (.int (1 : Int32)), .val (.int (1 : Int32)), .val (.int (1 : Int32))]) rfl (ldVJ X3 hx hZ e3 f4_V_a1 (v := (.long x0)) ⟨by decide, by decide⟩ rfl (g := (mkF m 67 #[.val (.ref a1), .val (.ref a2), .val (.ref b1), .val (.int (1 : Int32)), .val (.int (1 : Int32)), .val (.int (1 : Int32)), .val (.int (1 : Int32))] [(.int (0 : Int32)), (.ref a1), (.int (1 : Int32)), (.ref b1)])) rfl rfl (hb hby d2_67) t (XS.goto X3.here hx rfl (pc0 := 68) (pc' := 78) rfl (hb hby d2_68) (by decide) (by decide) k)))))) ?_
    show GoW p e below QQ (T3.setTop (mkF m 78 #[.val (.ref a1), .val (.ref a2), .val (.ref b1), .val (.int (1 : Int32)), .val (.int (1 : Int32)), .val (.int (1 : Int32)), .val (.int (1 : Int32))] [(.long x0), (.int (1 : Int32)), (.ref b1)]))
    obtain ⟨T5, h5, X5, e5, W5, V5, st5⟩ := stVJ X3 hx hZ e3 f4_V_b1 ⟨by decide, by decide⟩ 1 rfl (Nat.le_of_ble_eq_true rfl) (g := (mkF m 78 #[.val (.ref a1), .val (.ref a2), .val (.ref b1), .val (.int (1 : Int32)), .val (.int (1 : Int32)), .val (.int (1 : Int32)), .val (.int (1 : Int32))] [(.long x0), (.int (1 : Int32)), (.ref b1)])) rfl rfl (hb hby d2_78)
    refine GoW.st st5 ?_
    have f6_V_a1 : Arv Z h5 a1 ka .long (2 : Int32) [(.long x0), (.long x1)] (.long (0 : Int64)) := f4_V_a1.other W5 ne1_a1
    have f6_V_a2 : Arv Z h5 a2 kc .long (1 : Int32) [(.long y0)] (.long (0 : Int64)) := f4_V_a2.other W5 ne1_a2
    have f6_V_b1 : Arv Z h5 b1 k1 .long (3 : Int32) [(.long y0), (.long x0), (.long (0 : Int64))] (.long (0 : Int64)) := V5
    have K5 : Keep h0 h5 [] := K3.wr W5 (Or.inr sz1)
    have N5 := Fr.snoc X5 N3 gg1
    show GoW p e below QQ (T5.setTop (mkF m 79 #[.val (.ref a1), .val (.ref a2), .val (.ref b1), .val (.int (1 : Int32)), .val (.int (1 : Int32)), .val (.int (1 : Int32)), .val (.int (1 : Int32))] []))
    refine GoW.st (fun t k => XS.iinc X5.here hx rfl (hb hby d2_79) rfl (l' := #[.val (.ref a1), .val (.ref a2), .val (.ref b1), .val (.int (1 : Int32)), .val (.int (1 : Int32)), .val (.int (2 : Int32)), .val (.int (1 : Int32))]) rfl (XS.goto X5.here hx rfl (pc0 := 82) (pc' := 16) rfl (hb hby d2_82) (by decide) (by decide) (XS.iload X5.here hx rfl (hb hby d2_16) rfl (XS.aloadN X5.here hx rfl (hb hby d2_18) rfl rfl (lnV X5 hx hZ e5 f6_V_b1 (g := (mkF m 19 #[.val (.ref a1), .val (.ref a2), .val (.ref b1), .val (.int (1 : Int32)), .val (.int (1 : Int32)), .val (.int (2 : Int32)), .val (.int (1 : Int32))] [(.ref b1), (.int (2 : Int32))])) rfl rfl (hb hby d2_19) t k))))) ?_
    show GoW p e below QQ (T5.setTop (mkF m 20 #[.val (.ref a1), .val (.ref a2), .val (.ref b1), .val (.int (1 : Int32)), .val (.int (1 : Int32)), .val (.int (2 : Int32)), .val (.int (1 : Int32))] [(.int (3 : Int32)), (.int (2 : Int32))]))
    have hc20_3 : (2 : Int32) < (3 : Int32) := by decide
    refine GoW.st (fun t k => XS.icmpNo X5.here hx rfl (hb hby d2_20) rfl (tlt hc20_3).2.1 (XS.iload X5.here hx rfl (hb hby d2_23) rfl (XS.aloadN X5.here hx rfl (hb hby d2_25) rfl rfl (lnV X5 hx hZ e5 f6_V_a2 (g := (mkF m 26 #[.val (.ref a1), .val (.ref a2), .val (.ref b1), .val (.int (1 : Int32)), .val (.int (1 : Int32)), .val (.int (2 : Int32)), .val (.int (1 : Int32))] [(.ref a2), (.int (1 : Int32))])) rfl rfl (hb hby d2_26) t k)))) ?_
    show GoW p e below QQ (T5.setTop (mkF m 27 #[.val (.ref a1), .val (.ref a2), .val (.ref b1), .val (.int (1 : Int32)), .val (.int (1 : Int32)), .val (.int (2 : Int32)), .val (.int (1 : Int32))] [(.int (1 : Int32)), (.int (1 : Int32))]))
    have hc27_3 : (1 : Int32) = (1 : Int32) := by decide
    refine GoW.st (fun t k => XS.icmpYes X5.here hx rfl (pc0 := 27) (pc' := 47) rfl (hb hby d2_27) rfl (teq hc27_3).1 (by decide) (by decide) (XS.iconst X5.here hx rfl (hb hby d2_47) (XS.goto X5.here hx rfl (pc0 := 48) (pc' := 52) rfl (hb hby d2_48) (by decide) (by decide) (XS.istore X5.here hx rfl (hb hby d2_52) rfl (l' := #[.val (.ref a1), .val (.ref a2), .val (.ref b1), .val (.int (1 : Int32)), .val (.int (1 : Int32)), .val (.int (2 : Int32)), .val (.int (1 : Int32))]) rfl (XS.aloadN X5.here hx rfl (hb hby d2_54) rfl rfl (XS.iload X5.here hx rfl (hb hby d2_55) rfl k)))))) ?_
    show GoW p e below QQ (T5.setTop (mkF m 57 #[.val (.ref a1), .val (.ref a2), .val (.ref b1), .val (.int (1 : Int32)), .val (.int (1 : Int32)), .val (.int (2 : Int32)), .val (.int (1 : Int32))] [(.int (2 : Int32)), (.ref b1)]))
    refine GoW.st (fun t k => XS.iload X5.here hx rfl (hb hby d2_57) rfl k) ?_
    show GoW p e below QQ (T5.setTop (mkF m 59 #[.val (.ref a1), .val (.ref a2), .val (.ref b1), .val (.int (1 : Int32)), .val (.int (1 : Int32)), .val (.int (2 : Int32)), .val (.int (1 : Int32))] [(.int (1 : Int32)), (.int (2 : Int32)), (.ref b1)]))
    have hc59_3 : ¬ ((1 : Int32) = (0 : Int32)) := by decide
    refine GoW.st (fun t k => XS.ifNo X5.here hx rfl (hb hby d2_59) rfl ((if0 _ _).trans (feq hc59_3).1) (XS.aloadN X5.here hx rfl (hb hby d2_62) rfl rfl (XS.iloadN X5.here hx rfl (hb hby d2_63) rfl (XS.iinc X5.here hx rfl (hb hby d2_64) rfl (l' := #[.val (.ref a1), .val (.ref a2), .val (.ref b1), .val (.int (2 : Int32)), .val (.int (1 : Int32)), .val (.int (2 : Int32)), .val (.int (1 : Int32))]) rfl (ldVJ X5 hx hZ e5 f6_V_a1 (v := (.long x1)) ⟨by decide, by decide⟩ rfl (g := (mkF m 67 #[.val (.ref a1), .val (.ref a2), .val (.ref b1), .val (.int (2 : Int32)), .val (.int (1 : Int32)), .val (.int (2 : Int32)), .val (.int (1 : Int32))] [(.int (1 : Int32)), (.ref a1), (.int (2 : Int32)), (.ref b1)])) rfl rfl (hb hby d2_67) t (XS.goto X5.here hx rfl (pc0 := 68) (pc' := 78) rfl (hb hby d2_68) (by decide) (by decide) k)))))) ?_
    show GoW p e below QQ (T5.setTop (mkF m 78 #[.val (.ref a1), .val (.ref a2), .val (.ref b1), .val (.int (2 : Int32)), .val (.int (1 : Int32)), .val (.int (2 : Int32)), .val (.int (1 : Int32))] [(.long x1), (.int (2 : Int32)), (.ref b1)]))
    obtain ⟨T7, h7, X7, e7, W7, V7, st7⟩ := stVJ X5 hx hZ e5 f6_V_b1 ⟨by decide, by decide⟩ 2 rfl (Nat.le_of_ble_eq_true rfl) (g := (mkF m 78 #[.val (.ref a1), .val (.ref a2), .val (.ref b1), .val (.int (2 : Int32)), .val (.int (1 : Int32)), .val (.int (2 : Int32)), .val (.int (1 : Int32))] [(.long x1), (.int (2 : Int32)), (.ref b1)])) rfl rfl (hb hby d2_78)
    refine GoW.st st7 ?_
    have f8_V_a1 : Arv Z h7 a1 ka .long (2 : Int32) [(.long x0), (.long x1)] (.long (0 : Int64)) := f6_V_a1.other W7 ne1_a1
    have f8_V_a2 : Arv Z h7 a2 kc .long (1 : Int32) [(.long y0)] (.long (0 : Int64)) := f6_V_a2.other W7 ne1_a2
    have f8_V_b1 : Arv Z h7 b1 k1 .long (3 : Int32) [(.long y0), (.long x0), (.long x1)] (.long (0 : Int64)) := V7
    have K7 : Keep h0 h7 [] := K5.wr W7 (Or.inr sz1)
    have N7 := Fr.snoc X7 N5 gg1
    show GoW p e below QQ (T7.setTop (mkF m 79 #[.val (.ref a1), .val (.ref a2), .val (.ref b1), .val (.int (2 : Int32)), .val (.int (1 : Int32)), .val (.int (2 : Int32)), .val (.int (1 : Int32))] []))
    refine GoW.st (fun t k => XS.iinc X7.here hx rfl (hb hby d2_79) rfl (l' := #[.val (.ref a1), .val (.ref a2), .val (.ref b1), .val (.int (2 : Int32)), .val (.int (1 : Int32)), .val (.int (3 : Int32)), .val (.int (1 : Int32))]) rfl (XS.goto X7.here hx rfl (pc0 := 82) (pc' := 16) rfl (hb hby d2_82) (by decide) (by decide) (XS.iload X7.here hx rfl (hb hby d2_16) rfl (XS.aloadN X7.here hx rfl (hb hby d2_18) rfl rfl (lnV X7 hx hZ e7 f8_V_b1 (g := (mkF m 19 #[.val (.ref a1), .val (.ref a2), .val (.ref b1), .val (.int (2 : Int32)), .val (.int (1 : Int32)), .val (.int (3 : Int32)), .val (.int (1 : Int32))] [(.ref b1), (.int (3 : Int32))])) rfl rfl (hb hby d2_19) t k))))) ?_
    show GoW p e below QQ (T7.setTop (mkF m 20 #[.val (.ref a1), .val (.ref a2), .val (.ref b1), .val (.int (2 : Int32)), .val (.int (1 : Int32)), .val (.int (3 : Int32)), .val (.int (1 : Int32))] [(.int (3 : Int32)), (.int (3 : Int32))]))
    have hc20_4 : ¬ ((3 : Int32) < (3 : Int32)) := by decide
    refine GoW.st (fun t k => XS.icmpYes X7.here hx rfl (pc0 := 20) (pc' := 85) rfl (hb hby d2_20) rfl (flt hc20_4).2.1 (by decide) (by decide) (XS.aloadN X7.here hx rfl (hb hby d2_85) rfl rfl k)) ?_
    show GoW p e below QQ (T7.setTop (mkF m 86 #[.val (.ref a1), .val (.ref a2), .val (.ref b1), .val (.int (2 : Int32)), .val (.int (1 : Int32)), .val (.int (3 : Int32)), .val (.int (1 : Int32))] [(.ref b1)]))
    exact GoW.fin X7 (some (.ref b1)) (fun q => by rw [hret] at q; cases q) hlk hQ e7 ⟨b1, k1, y0, x0, x1, rfl, N7, K7, sz1, f8_V_b1, (by omega)⟩ (by decide) (by decide) (fun fs hr => retOut X7 hx hret rfl (Or.inr (Or.inr (Or.inr (Or.inr ⟨rfl, rfl, rfl⟩)))) (hb hby d2_86) hr)
  · skip
    refine GoW.st (fun t k => XS.ifNo X1.here hx rfl (hb hby d2_44) rfl ((if0 _ _).trans (flt (fun q => hc44 ((lw_gt x0 y0).mp q))).2.2.1) k) ?_
    show GoW p e below QQ (T1.setTop (mkF m 47 #[.val (.ref a1), .val (.ref a2), .val (.ref b1), .val (.int (0 : Int32)), .val (.int (0 : Int32)), .val (.int (0 : Int32)), .unset] []))
    have hi44 : ¬ (y0.toInt < x0.toInt) := (fun q => hc44 (Int64.lt_iff_toInt_lt.mpr q))
    refine GoW.st (fun t k => XS.iconst X1.here hx rfl (hb hby d2_47) (XS.goto X1.here hx rfl (pc0 := 48) (pc' := 52) rfl (hb hby d2_48) (by decide) (by decide) (XS.istore X1.here hx rfl (hb hby d2_52) rfl (l' := #[.val (.ref a1), .val (.ref a2), .val (.ref b1), .val (.int (0 : Int32)), .val (.int (0 : Int32)), .val (.int (0 : Int32)), .val (.int (1 : Int32))]) rfl (XS.aloadN X1.here hx rfl (hb hby d2_54) rfl rfl (XS.iload X1.here hx rfl (hb hby d2_55) rfl (XS.iload X1.here hx rfl (hb hby d2_57) rfl k)))))) ?_
    show GoW p e below QQ (T1.setTop (mkF m 59 #[.val (.ref a1), .val (.ref a2), .val (.ref b1), .val (.int (0 : Int32)), .val (.int (0 : Int32)), .val (.int (0 : Int32)), .val (.int (1 : Int32))] [(.int (1 : Int32)), (.int (0 : Int32)), (.ref b1)]))
    have hc59 : ¬ ((1 : Int32) = (0 : Int32)) := by decide
    refine GoW.st (fun t k => XS.ifNo X1.here hx rfl (hb hby d2_59) rfl ((if0 _ _).trans (feq hc59).1) (XS.aloadN X1.here hx rfl (hb hby d2_62) rfl rfl (XS.iloadN X1.here hx rfl (hb hby d2_63) rfl (XS.iinc X1.here hx rfl (hb hby d2_64) rfl (l' := #[.val (.ref a1), .val (.ref a2), .val (.ref b1), .val (.int (1 : Int32)), .val (.int (0 : Int32)), .val (.int (0 : Int32)), .val (.int (1 : Int32))]) rfl (ldVJ X1 hx hZ e1 f2_V_a1 (v := (.long x0)) ⟨by decide, by decide⟩ rfl (g := (mkF m 67 #[.val (.ref a1), .val (.ref a2), .val (.ref b1), .val (.int (1 : Int32)), .val (.int (0 : Int32)), .val (.int (0 : Int32)), .val (.int (1 : Int32))] [(.int (0 : Int32)), (.ref a1), (.int (0 : Int32)), (.ref b1)])) rfl rfl (hb hby d2_67) t (XS.goto X1.here hx rfl (pc0 := 68) (pc' := 78) rfl (hb hby d2_68) (by decide) (by decide) k)))))) ?_
    show GoW p e below QQ (T1.setTop (mkF m 78 #[.val (.ref a1), .val (.ref a2), .val (.ref b1), .val (.int (1 : Int32)), .val (.int (0 : Int32)), .val (.int (0 : Int32)), .val (.int (1 : Int32))] [(.long x0), (.int (0 : Int32)), (.ref b1)]))
    obtain ⟨T9, h9, X9, e9, W9, V9, st9⟩ := stVJ X1 hx hZ e1 V1 ⟨by decide, by decide⟩ 0 rfl (Nat.le_of_ble_eq_true rfl) (g := (mkF m 78 #[.val (.ref a1), .val (.ref a2), .val (.ref b1), .val (.int (1 : Int32)), .val (.int (0 : Int32)), .val (.int (0 : Int32)), .val (.int (1 : Int32))] [(.long x0), (.int (0 : Int32)), (.ref b1)])) rfl rfl (hb hby d2_78)
    refine GoW.st st9 ?_
    have f10_V_a1 : Arv Z h9 a1 ka .long (2 : Int32) [(.long x0), (.long x1)] (.long (0 : Int64)) := f2_V_a1.other W9 ne1_a1
    have f10_V_a2 : Arv Z h9 a2 kc .long (1 : Int32) [(.long y0)] (.long (0 : Int64)) := f2_V_a2.other W9 ne1_a2
    have f10_V_b1 : Arv Z h9 b1 k1 .long (3 : Int32) [(.long x0), (.long (0 : Int64)), (.long (0 : Int64))] (.long (0 : Int64)) := V9
    have K9 : Keep h0 h9 [] := K1.wr W9 (Or.inr sz1)
    have N9 := Fr.snoc X9 N0 gg1
    show GoW p e below QQ (T9.setTop (mkF m 79 #[.val (.ref a1), .val (.ref a2), .val (.ref b1), .val (.int (1 : Int32)), .val (.int (0 : Int32)), .val (.int (0 : Int32)), .val (.int (1 : Int32))] []))
    refine GoW.st (fun t k => XS.iinc X9.here hx rfl (hb hby d2_79) rfl (l' := #[.val (.ref a1), .val (.ref a2), .val (.ref b1), .val (.int (1 : Int32)), .val (.int (0 : Int32)), .val (.int (1 : Int32)), .val (.int (1 : Int32))]) rfl (XS.goto X9.here hx rfl (pc0 := 82) (pc' := 16) rfl (hb hby d2_82) (by decide) (by decide) (XS.iload X9.here hx rfl (hb hby d2_16) rfl (XS.aloadN X9.here hx rfl (hb hby d2_18) rfl rfl (lnV X9 hx hZ e9 f10_V_b1 (g := (mkF m 19 #[.val (.ref a1), .val (.ref a2), .val (.ref b1), .val (.int (1 : Int32)), .val (.int (0 : Int32)), .val (.int (1 : Int32)), .val (.int (1 : Int32))] [(.ref b1), (.int (1 : Int32))])) rfl rfl (hb hby d2_19) t k))))) ?_
    show GoW p e below QQ (T9.setTop (mkF m 20 #[.val (.ref a1), .val (.ref a2), .val (.ref b1), .val (.int (1 : Int32)), .val (.int (0 : Int32)), .val (.int (1 : Int32)), .val (.int (1 : Int32))] [(.int (3 : Int32)), (.int (1 : Int32))]))
    have hc20_2 : (1 : Int32) < (3 : Int32) := by decide
    refine GoW.st (fun t k => XS.icmpNo X9.here hx rfl (hb hby d2_20) rfl (tlt hc20_2).2.1 (XS.iload X9.here hx rfl (hb hby d2_23) rfl (XS.aloadN X9.here hx rfl (hb hby d2_25) rfl rfl (lnV X9 hx hZ e9 f10_V_a2 (g := (mkF m 26 #[.val (.ref a1), .val (.ref a2), .val (.ref b1), .val (.int (1 : Int32)), .val (.int (0 : Int32)), .val (.int (1 : Int32)), .val (.int (1 : Int32))] [(.ref a2), (.int (0 : Int32))])) rfl rfl (hb hby d2_26) t k)))) ?_
    show GoW p e below QQ (T9.setTop (mkF m 27 #[.val (.ref a1), .val (.ref a2), .val (.ref b1), .val (.int (1 : Int32)), .val (.int (0 : Int32)), .val (.int (1 : Int32)), .val (.int (1 : Int32))] [(.int (1 : Int32)), (.int (0 : Int32))]))
    have hc27_2 : ¬ ((0 : Int32) = (1 : Int32)) := by decide
    refine GoW.st (fun t k => XS.icmpNo X9.here hx rfl (hb hby d2_27) rfl (feq hc27_2).1 (XS.iloadN X9.here hx rfl (hb hby d2_30) rfl (XS.aloadN X9.here hx rfl (hb hby d2_31) rfl rfl (lnV X9 hx hZ e9 f10_V_a1 (g := (mkF m 32 #[.val (.ref a1), .val (.ref a2), .val (.ref b1), .val (.int (1 : Int32)), .val (.int (0 : Int32)), .val (.int (1 : Int32)), .val (.int (1 : Int32))] [(.ref a1), (.int (1 : Int32))])) rfl rfl (hb hby d2_32) t k)))) ?_
    show GoW p e below QQ (T9.setTop (mkF m 33 #[.val (.ref a1), .val (.ref a2), .val (.ref b1), .val (.int (1 : Int32)), .val (.int (0 : Int32)), .val (.int (1 : Int32)), .val (.int (1 : Int32))] [(.int (2 : Int32)), (.int (1 : Int32))]))
    have hc33_2 : (1 : Int32) < (2 : Int32) := by decide
    refine GoW.st (fun t k => XS.icmpNo X9.here hx rfl (hb hby d2_33) rfl (tlt hc33_2).2.1 (XS.aloadN X9.here hx rfl (hb hby d2_36) rfl rfl (XS.iloadN X9.here hx rfl (hb hby d2_37) rfl (ldVJ X9 hx hZ e9 f10_V_a1 (v := (.long x1)) ⟨by decide, by decide⟩ rfl (g := (mkF m 38 #[.val (.ref a1), .val (.ref a2), .val (.ref b1), .val (.int (1 : Int32)), .val (.int (0 : Int32)), .val (.int (1 : Int32)), .val (.int (1 : Int32))] [(.int (1 : Int32)), (.ref a1)])) rfl rfl (hb hby d2_38) t (XS.aloadN X9.here hx rfl (hb hby d2_39) rfl rfl (XS.iload X9.here hx rfl (hb hby d2_40) rfl k)))))) ?_
    show GoW p e below QQ (T9.setTop (mkF m 42 #[.val (.ref a1), .val (.ref a2), .val (.ref b1), .val (.int (1 : Int32)), .val (.int (0 : Int32)), .val (.int (1 : Int32)), .val (.int (1 : Int32))] [(.int (0 : Int32)), (.ref a2), (.long x1)]))
    refine GoW.st (fun t k => ldVJ X9 hx hZ e9 f10_V_a2 (v := (.long y0)) ⟨by decide, by decide⟩ rfl (g := (mkF m 42 #[.val (.ref a1), .val (.ref a2), .val (.ref b1), .val (.int (1 : Int32)), .val (.int (0 : Int32)), .val (.int (1 : Int32)), .val (.int (1 : Int32))] [(.int (0 : Int32)), (.ref a2), (.long x1)])) rfl rfl (hb hby d2_42) t (XS.lcmp X9.here hx rfl (hb hby d2_43) rfl k)) ?_
    show GoW p e below QQ (T9.setTop (mkF m 44 #[.val (.ref a1), .val (.ref a2), .val (.ref b1), .val (.int (1 : Int32)), .val (.int (0 : Int32)), .val (.int (1 : Int32)), .val (.int (1 : Int32))] [(.int (lcmpW x1 y0))]))
    by_cases hc44_2 : y0 < x1
    · skip
      refine GoW.st (fun t k => XS.ifYes X9.here hx rfl (pc0 := 44) (pc' := 51) rfl (hb hby d2_44) rfl ((if0 _ _).trans (tlt ((lw_gt x1 y0).mpr hc44_2)).2.2.1) (by decide) (by decide) k) ?_
      show GoW p e below QQ (T9.setTop (mkF m 51 #[.val (.ref a1), .val (.ref a2), .val (.ref b1), .val (.int (1 : Int32)), .val (.int (0 : Int32)), .val (.int (1 : Int32)), .val (.int (1 : Int32))] []))
      have hi44_2 : y0.toInt < x1.toInt := (Int64.lt_iff_toInt_lt.mp hc44_2)
      refine GoW.st (fun t k => XS.iconst X9.here hx rfl (hb hby d2_51) (XS.istore X9.here hx rfl (hb hby d2_52) rfl (l' := #[.val (.ref a1), .val (.ref a2), .val (.ref b1), .val (.int (1 : Int32)), .val (.int (0 : Int32)), .val (.int (1 : Int32)), .val (.int (0 : Int32))]) rfl (XS.aloadN X9.here hx rfl (hb hby d2_54) rfl rfl (XS.iload X9.here hx rfl (hb hby d2_55) rfl (XS.iload X9.here hx rfl (hb hby d2_57) rfl k))))) ?_
      show GoW p e below QQ (T9.setTop (mkF m 59 #[.val (.ref a1), .val (.ref a2), .val (.ref b1), .val (.int (1 : Int32)), .val (.int (0 : Int32)), .val (.int (1 : Int32)), .val (.int (0 : Int32))] [(.int (0 : Int32)), (.int (1 : Int32)), (.ref b1)]))
      have hc59_2 : (0 : Int32) = (0 : Int32) := by decide
      refine GoW.st (fun t k => XS.ifYes X9.here hx rfl (pc0 := 59) (pc' := 71) rfl (hb hby d2_59) rfl ((if0 _ _).trans (teq hc59_2).1) (by decide) (by decide) (XS.aloadN X9.here hx rfl (hb hby d2_71) rfl rfl (XS.iload X9.here hx rfl (hb hby d2_72) rfl (XS.iinc X9.here hx rfl (hb hby d2_74) rfl (l' := #[.val (.ref a1), .val (.ref a2), .val (.ref b1), .val (.int (1 : Int32)), .val (.int (1 : Int32)), .val (.int (1 : Int32)), .val (.int (0 : Int32))]) rfl (ldVJ X9 hx hZ e9 f10_V_a2 (v := (.long y0)) ⟨by decide, by decide⟩ rfl (g := (mkF m 77 #[.val (.ref a1), .val (.ref a2), .val (.ref b1), .val (.int (1 : Int32)), .val (.int (1 : Int32)), .val (.int (1 : Int32)), .val (.int (0 : Int32))] [(.int (0 : Int32)), (.ref a2), (.int (1 : Int32)), (.ref b1)])) rfl rfl (hb hby d2_77) t k))))) ?_
      show GoW p e below QQ (T9.setTop (mkF m 78 #[.val (.ref a1), .val (.ref a2), .val (.ref b1), .val (.int (1 : Int32)), .val (.int (1 : Int32)), .val (.int (1 : Int32)), .val (.int (0 : Int32))] [(.long y0), (.int (1 : Int32)), (.ref b1)]))
      obtain ⟨T11, h11, X11, e11, W11, V11, st11⟩ := stVJ X9 hx hZ e9 f10_V_b1 ⟨by decide, by decide⟩ 1 rfl (Nat.le_of_ble_eq_true rfl) (g := (mkF m 78 #[.val (.ref a1), .val (.ref a2), .val (.ref b1), .val (.int (1 : Int32)), .val (.int (1 : Int32)), .val (.int (1 : Int32)), .val (.int (0 : Int32))] [(.long y0), (.int (1 : Int32)), (.ref b1)])) rfl rfl (hb hby d2_78)
      refine GoW.st st11 ?_
      have f12_V_a1 : Arv Z h11 a1 ka .long (2 : Int32) [(.long x0), (.long x1)] (.long (0 : Int64)) := f10_V_a1.other W11 ne1_a1
      have f12_V_a2 : Arv Z h11 a2 kc .long (1 : Int32) [(.long y0)] (.long (0 : Int64)) := f10_V_a2.other W11 ne1_a2
      have f12_V_b1 : Arv Z h11 b1 k1 .long (3 : Int32) [(.long x0), (.long y0), (.long (0 : Int64))] (.long (0 : Int64)) := V11
      have K11 : Keep h0 h11 [] := K9.wr W11 (Or.inr sz1)
      have N11 := Fr.snoc X11 N9 gg1
      show GoW p e below QQ (T11.setTop (mkF m 79 #[.val (.ref a1), .val (.ref a2), .val (.ref b1), .val (.int (1 : Int32)), .val (.int (1 : Int32)), .val (.int (1 : Int32)), .val (.int (0 : Int32))] []))
      refine GoW.st (fun t k => XS.iinc X11.here hx rfl (hb hby d2_79) rfl (l' := #[.val (.ref a1), .val (.ref a2), .val (.ref b1), .val (.int (1 : Int32)), .val (.int (1 : Int32)), .val (.int (2 : Int32)), .val (.int (0 : Int32))]) rfl (XS.goto X11.here hx rfl (pc0 := 82) (pc' := 16) rfl (hb hby d2_82) (by decide) (by decide) (XS.iload X11.here hx rfl (hb hby d2_16) rfl (XS.aloadN X11.here hx rfl (hb hby d2_18) rfl rfl (lnV X11 hx hZ e11 f12_V_b1 (g := (mkF m 19 #[.val (.ref a1), .val (.ref a2), .val (.ref b1), .val (.int (1 : Int32)), .val (.int (1 : Int32)), .val (.int (2 : Int32)), .val (.int (0 : Int32))] [(.ref b1), (.int (2 : Int32))])) rfl rfl (hb hby d2_19) t k))))) ?_
      show GoW p e below QQ (T11.setTop (mkF m 20 #[.val (.ref a1), .val (.ref a2), .val (.ref b1), .val (.int (1 : Int32)), .val (.int (1 : Int32)), .val (.int (2 : Int32)), .val (.int (0 : Int32))] [(.int (3 : Int32)), (.int (2 : Int32))]))
      have hc20_3 : (2 : Int32) < (3 : Int32) := by decide
      refine GoW.st (fun t k => XS.icmpNo X11.here hx rfl (hb hby d2_20) rfl (tlt hc20_3).2.1 (XS.iload X11.here hx rfl (hb hby d2_23) rfl (XS.aloadN X11.here hx rfl (hb hby d2_25) rfl rfl (lnV X11 hx hZ e11 f12_V_a2 (g := (mkF m 26 #[.val (.ref a1), .val (.ref a2), .val (.ref b1), .val (.int (1 : Int32)), .val (.int (1 : Int32)), .val (.int (2 : Int32)), .val (.int (0 : Int32))] [(.ref a2), (.int (1 : Int32))])) rfl rfl (hb hby d2_26) t k)))) ?_
      show GoW p e below QQ (T11.setTop (mkF m 27 #[.val (.ref a1), .val (.ref a2), .val (.ref b1), .val (.int (1 : Int32)), .val (.int (1 : Int32)), .val (.int (2 : Int32)), .val (.int (0 : Int32))] [(.int (1 : Int32)), (.int (1 : Int32))]))
      have hc27_3 : (1 : Int32) = (1 : Int32) := by decide
      refine GoW.st (fun t k => XS.icmpYes X11.here hx rfl (pc0 := 27) (pc' := 47) rfl (hb hby d2_27) rfl (teq hc27_3).1 (by decide) (by decide) (XS.iconst X11.here hx rfl (hb hby d2_47) (XS.goto X11.here hx rfl (pc0 := 48) (pc' := 52) rfl (hb hby d2_48) (by decide) (by decide) (XS.istore X11.here hx rfl (hb hby d2_52) rfl (l' := #[.val (.ref a1), .val (.ref a2), .val (.ref b1), .val (.int (1 : Int32)), .val (.int (1 : Int32)), .val (.int (2 : Int32)), .val (.int (1 : Int32))]) rfl (XS.aloadN X11.here hx rfl (hb hby d2_54) rfl rfl (XS.iload X11.here hx rfl (hb hby d2_55) rfl k)))))) ?_
      show GoW p e below QQ (T11.setTop (mkF m 57 #[.val (.ref a1), .val (.ref a2), .val (.ref b1), .val (.int (1 : Int32)), .val (.int (1 : Int32)), .val (.int (2 : Int32)), .val (.int (1 : Int32))] [(.int (2 : Int32)), (.ref b1)]))
      refine GoW.st (fun t k => XS.iload X11.here hx rfl (hb hby d2_57) rfl k) ?_
      show GoW p e below QQ (T11.setTop (mkF m 59 #[.val (.ref a1), .val (.ref a2), .val (.ref b1), .val (.int (1 : Int32)), .val (.int (1 : Int32)), .val (.int (2 : Int32)), .val (.int (1 : Int32))] [(.int (1 : Int32)), (.int (2 : Int32)), (.ref b1)]))
      have hc59_3 : ¬ ((1 : Int32) = (0 : Int32)) := by decide
      refine GoW.st (fun t k => XS.ifNo X11.here hx rfl (hb hby d2_59) rfl ((if0 _ _).trans (feq hc59_3).1) (XS.aloadN X11.here hx rfl (hb hby d2_62) rfl rfl (XS.iloadN X11.here hx rfl (hb hby d2_63) rfl (XS.iinc X11.here hx rfl (hb hby d2_64) rfl (l' := #[.val (.ref a1), .val (.ref a2), .val (.ref b1), .val (.int (2 : Int32)), .val (.int (1 : Int32)), .val (.int (2 : Int32)), .val (.int (1 : Int32))]) rfl (ldVJ X11 hx hZ e11 f12_V_a1 (v := (.long x1)) ⟨by decide, by decide⟩ rfl (g := (mkF m 67 #[.val (.ref a1), .val (.ref a2), .val (.ref b1), .val (.int (2 : Int32)), .val (.int (1 : Int32)), .val (.int (2 : Int32)), .val (.int (1 : Int32))] [(.int (1 : Int32)), (.ref a1), (.int (2 : Int32)), (.ref b1)])) rfl rfl (hb hby d2_67) t (XS.goto X11.here hx rfl (pc0 := 68) (pc' := 78) rfl (hb hby d2_68) (by decide) (by decide) k)))))) ?_
      show GoW p e below QQ (T11.setTop (mkF m 78 #[.val (.ref a1), .val (.ref a2), .val (.ref b1), .val (.int (2 : Int32)), .val (.int (1 : Int32)), .val (.int (2 : Int32)), .val (.int (1 : Int32))] [(.long x1), (.int (2 : Int32)), (.ref b1)]))
      obtain ⟨T13, h13, X13, e13, W13, V13, st13⟩ := stVJ X11 hx hZ e11 f12_V_b1 ⟨by decide, by decide⟩ 2 rfl (Nat.le_of_ble_eq_true rfl) (g := (mkF m 78 #[.val (.ref a1), .val (.ref a2), .val (.ref b1), .val (.int (2 : Int32)), .val (.int (1 : Int32)), .val (.int (2 : Int32)), .val (.int (1 : Int32))] [(.long x1), (.int (2 : Int32)), (.ref b1)])) rfl rfl (hb hby d2_78)
      refine GoW.st st13 ?_
      have f14_V_a1 : Arv Z h13 a1 ka .long (2 : Int32) [(.long x0), (.long x1)] (.long (0 : Int64)) := f12_V_a1.other W13 ne1_a1
      have f14_V_a2 : Arv Z h13 a2 kc .long (1 : Int32) [(.long y0)] (.long (0 : Int64)) := f12_V_a2.other W13 ne1_a2
      have f14_V_b1 : Arv Z h13 b1 k1 .long (3 : Int32) [(.long x0), (.long y0), (.long x1)] (.long (0 : Int64)) := V13
      have K13 : Keep h0 h13 [] := K11.wr W13 (Or.inr sz1)
      have N13 := Fr.snoc X13 N11 gg1
      show GoW p e below QQ (T13.setTop (mkF m 79 #[.val (.ref a1), .val (.ref a2), .val (.ref b1), .val (.int (2 : Int32)), .val (.int (1 : Int32)), .val (.int (2 : Int32)), .val (.int (1 : Int32))] []))
      refine GoW.st (fun t k => XS.iinc X13.here hx rfl (hb hby d2_79) rfl (l' := #[.val (.ref a1), .val (.ref a2), .val (.ref b1), .val (.int (2 : Int32)), .val (.int (1 : Int32)), .val (.int (3 : Int32)), .val (.int (1 : Int32))]) rfl (XS.goto X13.here hx rfl (pc0 := 82) (pc' := 16) rfl (hb hby d2_82) (by decide) (by decide) (XS.iload X13.here hx rfl (hb hby d2_16) rfl (XS.aloadN X13.here hx rfl (hb hby d2_18) rfl rfl (lnV X13 hx hZ e13 f14_V_b1 (g := (mkF m 19 #[.val (.ref a1), .val (.ref a2), .val (.ref b1), .val (.int (2 : Int32)), .val (.int (1 : Int32)), .val (.int (3 : Int32)), .val (.int (1 : Int32))] [(.ref b1), (.int (3 : Int32))])) rfl rfl (hb hby d2_19) t k))))) ?_
      show GoW p e below QQ (T13.setTop (mkF m 20 #[.val (.ref a1), .val (.ref a2), .val (.ref b1), .val (.int (2 : Int32)), .val (.int (1 : Int32)), .val (.int (3 : Int32)), .val (.int (1 : Int32))] [(.int (3 : Int32)), (.int (3 : Int32))]))
      have hc20_4 : ¬ ((3 : Int32) < (3 : Int32)) := by decide
      refine GoW.st (fun t k => XS.icmpYes X13.here hx rfl (pc0 := 20) (pc' := 85) rfl (hb hby d2_20) rfl (flt hc20_4).2.1 (by decide) (by decide) (XS.aloadN X13.here hx rfl (hb hby d2_85) rfl rfl k)) ?_
      show GoW p e below QQ (T13.setTop (mkF m 86 #[.val (.ref a1), .val (.ref a2), .val (.ref b1), .val (.int (2 : Int32)), .val (.int (1 : Int32)), .val (.int (3 : Int32)), .val (.int (1 : Int32))] [(.ref b1)]))
      exact GoW.fin X13 (some (.ref b1)) (fun q => by rw [hret] at q; cases q) hlk hQ e13 ⟨b1, k1, x0, y0, x1, rfl, N13, K13, sz1, f14_V_b1, (by omega)⟩ (by decide) (by decide) (fun fs hr => retOut X13 hx hret rfl (Or.inr (Or.inr (Or.inr (Or.inr ⟨rfl, rfl, rfl⟩)))) (hb hby d2_86) hr)
    · skip
      refine GoW.st (fun t k => XS.ifNo X9.here hx rfl (hb hby d2_44) rfl ((if0 _ _).trans (flt (fun q => hc44_2 ((lw_gt x1 y0).mp q))).2.2.1) k) ?_
      show GoW p e below QQ (T9.setTop (mkF m 47 #[.val (.ref a1), .val (.ref a2), .val (.ref b1), .val (.int (1 : Int32)), .val (.int (0 : Int32)), .val (.int (1 : Int32)), .val (.int (1 : Int32))] []))
      have hi44_2 : ¬ (y0.toInt < x1.toInt) := (fun q => hc44_2 (Int64.lt_iff_toInt_lt.mpr q))
      refine GoW.st (fun t k => XS.iconst X9.here hx rfl (hb hby d2_47) (XS.goto X9.here hx rfl (pc0 := 48) (pc' := 52) rfl (hb hby d2_48) (by decide) (by decide) (XS.istore X9.here hx rfl (hb hby d2_52) rfl (l' := #[.val (.ref a1), .val (.ref a2), .val (.ref b1), .val (.int (1 : Int32)), .val (.int (0 : Int32)), .val (.int (1 : Int32)), .val (.int (1 : Int32))]) rfl (XS.aloadN X9.here hx rfl (hb hby d2_54) rfl rfl (XS.iload X9.here hx rfl (hb hby d2_55) rfl (XS.iload X9.here hx rfl (hb hby d2_57) rfl k)))))) ?_
      show GoW p e below QQ (T9.setTop (mkF m 59 #[.val (.ref a1), .val (.ref a2), .val (.ref b1), .val (.int (1 : Int32)), .val (.int (0 : Int32)), .val (.int (1 : Int32)), .val (.int (1 : Int32))] [(.int (1 : Int32)), (.int (1 : Int32)), (.ref b1)]))
      have hc59_2 : ¬ ((1 : Int32) = (0 : Int32)) := by decide
      refine GoW.st (fun t k => XS.ifNo X9.here hx rfl (hb hby d2_59) rfl ((if0 _ _).trans (feq hc59_2).1) (XS.aloadN X9.here hx rfl (hb hby d2_62) rfl rfl (XS.iloadN X9.here hx rfl (hb hby d2_63) rfl (XS.iinc X9.here hx rfl (hb hby d2_64) rfl (l' := #[.val (.ref a1), .val (.ref a2), .val (.ref b1), .val (.int (2 : Int32)), .val (.int (0 : Int32)), .val (.int (1 : Int32)), .val (.int (1 : Int32))]) rfl (ldVJ X9 hx hZ e9 f10_V_a1 (v := (.long x1)) ⟨by decide, by decide⟩ rfl (g := (mkF m 67 #[.val (.ref a1), .val (.ref a2), .val (.ref b1), .val (.int (2 : Int32)), .val (.int (0 : Int32)), .val (.int (1 : Int32)), .val (.int (1 : Int32))] [(.int (1 : Int32)), (.ref a1), (.int (1 : Int32)), (.ref b1)])) rfl rfl (hb hby d2_67) t (XS.goto X9.here hx rfl (pc0 := 68) (pc' := 78) rfl (hb hby d2_68) (by decide) (by decide) k)))))) ?_
      show GoW p e below QQ (T9.setTop (mkF m 78 #[.val (.ref a1), .val (.ref a2), .val (.ref b1), .val (.int (2 : Int32)), .val (.int (0 : Int32)), .val (.int (1 : Int32)), .val (.int (1 : Int32))] [(.long x1), (.int (1 : Int32)), (.ref b1)]))
      obtain ⟨T15, h15, X15, e15, W15, V15, st15⟩ := stVJ X9 hx hZ e9 f10_V_b1 ⟨by decide, by decide⟩ 1 rfl (Nat.le_of_ble_eq_true rfl) (g := (mkF m 78 #[.val (.ref a1), .val (.ref a2), .val (.ref b1), .val (.int (2 : Int32)), .val (.int (0 : Int32)), .val (.int (1 : Int32)), .val (.int (1 : Int32))] [(.long x1), (.int (1 : Int32)), (.ref b1)])) rfl rfl (hb hby d2_78)
      refine GoW.st st15 ?_
      have f16_V_a1 : Arv Z h15 a1 ka .long (2 : Int32) [(.long x0), (.long x1)] (.long (0 : Int64)) := f10_V_a1.other W15 ne1_a1
      have f16_V_a2 : Arv Z h15 a2 kc .long (1 : Int32) [(.long y0)] (.long (0 : Int64)) := f10_V_a2.other W15 ne1_a2
      have f16_V_b1 : Arv Z h15 b1 k1 .long (3 : Int32) [(.long x0), (.long x1), (.long (0 : Int64))] (.long (0 : Int64)) := V15
      have K15 : Keep h0 h15 [] := K9.wr W15 (Or.inr sz1)
      have N15 := Fr.snoc X15 N9 gg1
      show GoW p e below QQ (T15.setTop (mkF m 79 #[.val (.ref a1), .val (.ref a2), .val (.ref b1), .val (.int (2 : Int32)), .val (.int (0 : Int32)), .val (.int (1 : Int32)), .val (.int (1 : Int32))] []))
      refine GoW.st (fun t k => XS.iinc X15.here hx rfl (hb hby d2_79) rfl (l' := #[.val (.ref a1), .val (.ref a2), .val (.ref b1), .val (.int (2 : Int32)), .val (.int (0 : Int32)), .val (.int (2 : Int32)), .val (.int (1 : Int32))]) rfl (XS.goto X15.here hx rfl (pc0 := 82) (pc' := 16) rfl (hb hby d2_82) (by decide) (by decide) (XS.iload X15.here hx rfl (hb hby d2_16) rfl (XS.aloadN X15.here hx rfl (hb hby d2_18) rfl rfl (lnV X15 hx hZ e15 f16_V_b1 (g := (mkF m 19 #[.val (.ref a1), .val (.ref a2), .val (.ref b1), .val (.int (2 : Int32)), .val (.int (0 : Int32)), .val (.int (2 : Int32)), .val (.int (1 : Int32))] [(.ref b1), (.int (2 : Int32))])) rfl rfl (hb hby d2_19) t k))))) ?_
      show GoW p e below QQ (T15.setTop (mkF m 20 #[.val (.ref a1), .val (.ref a2), .val (.ref b1), .val (.int (2 : Int32)), .val (.int (0 : Int32)), .val (.int (2 : Int32)), .val (.int (1 : Int32))] [(.int (3 : Int32)), (.int (2 : Int32))]))
      have hc20_3 : (2 : Int32) < (3 : Int32) := by decide
      refine GoW.st (fun t k => XS.icmpNo X15.here hx rfl (hb hby d2_20) rfl (tlt hc20_3).2.1 (XS.iload X15.here hx rfl (hb hby d2_23) rfl (XS.aloadN X15.here hx rfl (hb hby d2_25) rfl rfl (lnV X15 hx hZ e15 f16_V_a2 (g := (mkF m 26 #[.val (.ref a1), .val (.ref a2), .val (.ref b1), .val (.int (2 : Int32)), .val (.int (0 : Int32)), .val (.int (2 : Int32)), .val (.int (1 : Int32))] [(.ref a2), (.int (0 : Int32))])) rfl rfl (hb hby d2_26) t k)))) ?_
      show GoW p e below QQ (T15.setTop (mkF m 27 #[.val (.ref a1), .val (.ref a2), .val (.ref b1), .val (.int (2 : Int32)), .val (.int (0 : Int32)), .val (.int (2 : Int32)), .val (.int (1 : Int32))] [(.int (1 : Int32)), (.int (0 : Int32))]))
      have hc27_3 : ¬ ((0 : Int32) = (1 : Int32)) := by decide
      refine GoW.st (fun t k => XS.icmpNo X15.here hx rfl (hb hby d2_27) rfl (feq hc27_3).1 (XS.iloadN X15.here hx rfl (hb hby d2_30) rfl (XS.aloadN X15.here hx rfl (hb hby d2_31) rfl rfl (lnV X15 hx hZ e15 f16_V_a1 (g := (mkF m 32 #[.val (.ref a1), .val (.ref a2), .val (.ref b1), .val (.int (2 : Int32)), .val (.int (0 : Int32)), .val (.int (2 : Int32)), .val (.int (1 : Int32))] [(.ref a1), (.int (2 : Int32))])) rfl rfl (hb hby d2_32) t k)))) ?_
      show GoW p e below QQ (T15.setTop (mkF m 33 #[.val (.ref a1), .val (.ref a2), .val (.ref b1), .val (.int (2 : Int32)), .val (.int (0 : Int32)), .val (.int (2 : Int32)), .val (.int (1 : Int32))] [(.int (2 : Int32)), (.int (2 : Int32))]))
      have hc33_3 : ¬ ((2 : Int32) < (2 : Int32)) := by decide
      refine GoW.st (fun t k => XS.icmpYes X15.here hx rfl (pc0 := 33) (pc' := 51) rfl (hb hby d2_33) rfl (flt hc33_3).2.1 (by decide) (by decide) (XS.iconst X15.here hx rfl (hb hby d2_51) (XS.istore X15.here hx rfl (hb hby d2_52) rfl (l' := #[.val (.ref a1), .val (.ref a2), .val (.ref b1), .val (.int (2 : Int32)), .val (.int (0 : Int32)), .val (.int (2 : Int32)), .val (.int (0 : Int32))]) rfl (XS.aloadN X15.here hx rfl (hb hby d2_54) rfl rfl (XS.iload X15.here hx rfl (hb hby d2_55) rfl (XS.iload X15.here hx rfl (hb hby d2_57) rfl k)))))) ?_
      show GoW p e below QQ (T15.setTop (mkF m 59 #[.val (.ref a1), .val (.ref a2), .val (.ref b1), .val (.int (2 : Int32)), .val (.int (0 : Int32)), .val (.int (2 : Int32)), .val (.int (0 : Int32))] [(.int (0 : Int32)), (.int (2 : Int32)), (.ref b1)]))
      have hc59_3 : (0 : Int32) = (0 : Int32) := by decide
      refine GoW.st (fun t k => XS.ifYes X15.here hx rfl (pc0 := 59) (pc' := 71) rfl (hb hby d2_59) rfl ((if0 _ _).trans (teq hc59_3).1) (by decide) (by decide) (XS.aloadN X15.here hx rfl (hb hby d2_71) rfl rfl (XS.iload X15.here hx rfl (hb hby d2_72) rfl (XS.iinc X15.here hx rfl (hb hby d2_74) rfl (l' := #[.val (.ref a1), .val (.ref a2), .val (.ref b1), .val (.int (2 : Int32)), .val (.int (1 : Int32)), .val (.int (2 : Int32)), .val (.int (0 : Int32))]) rfl (ldVJ X15 hx hZ e15 f16_V_a2 (v := (.long y0)) ⟨by decide, by decide⟩ rfl (g := (mkF m 77 #[.val (.ref a1), .val (.ref a2), .val (.ref b1), .val (.int (2 : Int32)), .val (.int (1 : Int32)), .val (.int (2 : Int32)), .val (.int (0 : Int32))] [(.int (0 : Int32)), (.ref a2), (.int (2 : Int32)), (.ref b1)])) rfl rfl (hb hby d2_77) t k))))) ?_
      show GoW p e below QQ (T15.setTop (mkF m 78 #[.val (.ref a1), .val (.ref a2), .val (.ref b1), .val (.int (2 : Int32)), .val (.int (1 : Int32)), .val (.int (2 : Int32)), .val (.int (0 : Int32))] [(.long y0), (.int (2 : Int32)), (.ref b1)]))
      obtain ⟨T17, h17, X17, e17, W17, V17, st17⟩ := stVJ X15 hx hZ e15 f16_V_b1 ⟨by decide, by decide⟩ 2 rfl (Nat.le_of_ble_eq_true rfl) (g := (mkF m 78 #[.val (.ref a1), .val (.ref a2), .val (.ref b1), .val (.int (2 : Int32)), .val (.int (1 : Int32)), .val (.int (2 : Int32)), .val (.int (0 : Int32))] [(.long y0), (.int (2 : Int32)), (.ref b1)])) rfl rfl (hb hby d2_78)
      refine GoW.st st17 ?_
      have f18_V_a1 : Arv Z h17 a1 ka .long (2 : Int32) [(.long x0), (.long x1)] (.long (0 : Int64)) := f16_V_a1.other W17 ne1_a1
      have f18_V_a2 : Arv Z h17 a2 kc .long (1 : Int32) [(.long y0)] (.long (0 : Int64)) := f16_V_a2.other W17 ne1_a2
      have f18_V_b1 : Arv Z h17 b1 k1 .long (3 : Int32) [(.long x0), (.long x1), (.long y0)] (.long (0 : Int64)) := V17
      have K17 : Keep h0 h17 [] := K15.wr W17 (Or.inr sz1)
      have N17 := Fr.snoc X17 N15 gg1
      show GoW p e below QQ (T17.setTop (mkF m 79 #[.val (.ref a1), .val (.ref a2), .val (.ref b1), .val (.int (2 : Int32)), .val (.int (1 : Int32)), .val (.int (2 : Int32)), .val (.int (0 : Int32))] []))
      refine GoW.st (fun t k => XS.iinc X17.here hx rfl (hb hby d2_79) rfl (l' := #[.val (.ref a1), .val (.ref a2), .val (.ref b1), .val (.int (2 : Int32)), .val (.int (1 : Int32)), .val (.int (3 : Int32)), .val (.int (0 : Int32))]) rfl (XS.goto X17.here hx rfl (pc0 := 82) (pc' := 16) rfl (hb hby d2_82) (by decide) (by decide) (XS.iload X17.here hx rfl (hb hby d2_16) rfl (XS.aloadN X17.here hx rfl (hb hby d2_18) rfl rfl (lnV X17 hx hZ e17 f18_V_b1 (g := (mkF m 19 #[.val (.ref a1), .val (.ref a2), .val (.ref b1), .val (.int (2 : Int32)), .val (.int (1 : Int32)), .val (.int (3 : Int32)), .val (.int (0 : Int32))] [(.ref b1), (.int (3 : Int32))])) rfl rfl (hb hby d2_19) t k))))) ?_
      show GoW p e below QQ (T17.setTop (mkF m 20 #[.val (.ref a1), .val (.ref a2), .val (.ref b1), .val (.int (2 : Int32)), .val (.int (1 : Int32)), .val (.int (3 : Int32)), .val (.int (0 : Int32))] [(.int (3 : Int32)), (.int (3 : Int32))]))
      have hc20_4 : ¬ ((3 : Int32) < (3 : Int32)) := by decide
      refine GoW.st (fun t k => XS.icmpYes X17.here hx rfl (pc0 := 20) (pc' := 85) rfl (hb hby d2_20) rfl (flt hc20_4).2.1 (by decide) (by decide) (XS.aloadN X17.here hx rfl (hb hby d2_85) rfl rfl k)) ?_
      show GoW p e below QQ (T17.setTop (mkF m 86 #[.val (.ref a1), .val (.ref a2), .val (.ref b1), .val (.int (2 : Int32)), .val (.int (1 : Int32)), .val (.int (3 : Int32)), .val (.int (0 : Int32))] [(.ref b1)]))
      exact GoW.fin X17 (some (.ref b1)) (fun q => by rw [hret] at q; cases q) hlk hQ e17 ⟨b1, k1, x0, x1, y0, rfl, N17, K17, sz1, f18_V_b1, (by omega)⟩ (by decide) (by decide) (fun fs hr => retOut X17 hx hret rfl (Or.inr (Or.inr (Or.inr (Or.inr ⟨rfl, rfl, rfl⟩)))) (hb hby d2_86) hr)
def RM2_22 : Room := { frames := 0, cells := 1, slots := 4, locals := 0 }
def Q2_22 (Z : State) (a1 : Addr) (a2 : Addr) (ka : ClassId) (kc : ClassId) (x0 : Int64) (x1 : Int64) (y0 : Int64) (y1 : Int64) (h0 : Heap) (n0 : Nat) (v : Option Value) (h : Heap) (L : List Loc) : Prop := ∃ (b : Addr) (kb : ClassId) (w0 : Int64) (w1 : Int64) (w2 : Int64) (w3 : Int64), v = some (.ref b) ∧ Fr n0 L ∧ Keep h0 h [] ∧ (h0.size ≤ b) ∧ (Arv Z h b kb .long (4 : Int32) [(.long w0), (.long w1), (.long w2), (.long w3)] (.long (0 : Int64))) ∧ (w0.toInt = (min x0.toInt y0.toInt) ∧ w1.toInt = (min (max x0.toInt y0.toInt) (min x1.toInt y1.toInt)) ∧ w2.toInt = (max (max x0.toInt y0.toInt) (min x1.toInt y1.toInt)) ∧ w3.toInt = (max x1.toInt y1.toInt))
set_option maxRecDepth 65536 in
set_option maxHeartbeats 40000000 in
theorem rm2_22 (l : Launch) (Z : State) (a0 : Array Value) (hw : ∀ d ∈ tables_1, d.before a0 Z = true) (ws : List Jvm.Cond) (a1 : Addr) (a2 : Addr) (ka : ClassId) (kc : ClassId) (x0 : Int64) (x1 : Int64) (y0 : Int64) (y1 : Int64) (h0 : Heap) (n0 : Nat) (Z0 : n0 ≤ h0.size) (pre_V_a1 : Arv Z h0 a1 ka .long (2 : Int32) [(.long x0), (.long x1)] (.long (0 : Int64))) (pre_V_a2 : Arv Z h0 a2 kc .long (2 : Int32) [(.long y0), (.long y1)] (.long (0 : Int64))) (hx01 : x0.toInt ≤ x1.toInt) (hy01 : y0.toInt ≤ y1.toInt) :
    MetFree l (⟨"com/example/hike/hike/Holders", "merge", "([J[J)[J"⟩ : MethodName) (head1 (Jvm.Cond.code (⟨"com/example/hike/hike/Holders", "merge", "([J[J)[J"⟩ : MethodName) prog_63_method_6_code 7 (some (.array .long)) :: ws) RM2_22) (fun a U => a = #[(.ref a1), (.ref a2)] ∧ Z.Warmed39 U.vm ∧ U.heap = h0) (fun _ _ _ _ _ => True) (fun _ U o U' => ∃ v L, o = .returned v ∧ Q2_22 Z a1 a2 ka kc x0 x1 y0 y1 h0 n0 v U'.heap L ∧ FrameEnd U o U' L RM2_22.cells RM2_22.slots) := by
  refine met_of (Q := fun v h L => Q2_22 Z a1 a2 ka kc x0 x1 y0 y1 h0 n0 v h L) (plainFor_of_name pn_1) (fun m => by first | (simp [entryFrame, mkF, argsToLocals, Value.category]; done) | rfl) (Ls := #[.val (.ref a1), .val (.ref a2), .unset, .unset, .unset, .unset, .unset]) ?_
  intro p e s m below meth c T0 QQ hx hZ hby hml hown hnm hret hlk X0 e0 hQ
  have hml : c.maxLocals = 7 := hml
  have hown : s.vm.findClass "com/example/hike/hike/Holders" = some m.cls := hown
  have hnm : meth.name = "merge" := hnm
  have hret : meth.sig.returnType = some (.array .long) := hret
  have N0 := Fr.nil n0
  have K0 : Keep h0 h0 [] := Keep.refl h0 _
  show GoW p e below QQ (T0.setTop (mkF m 0 #[.val (.ref a1), .val (.ref a2), .unset, .unset, .unset, .unset, .unset] []))
  refine GoW.st (fun t k => XS.aloadN X0.here hx rfl (hb hby d2_0) rfl rfl (lnV X0 hx hZ e0 pre_V_a1 (g := (mkF m 1 #[.val (.ref a1), .val (.ref a2), .unset, .unset, .unset, .unset, .unset] [(.ref a1)])) rfl rfl (hb hby d2_1) t (XS.aloadN X0.here hx rfl (hb hby d2_2) rfl rfl (lnV X0 hx hZ e0 pre_V_a2 (g := (mkF m 3 #[.val (.ref a1), .val (.ref a2), .unset, .unset, .unset, .unset, .unset] [(.ref a2), (.int (2 : Int32))])) rfl rfl (hb hby d2_3) t (XS.iadd X0.here hx rfl (hb hby d2_4) rfl k))))) ?_
  show GoW p e below QQ (T0.setTop (mkF m 5 #[.val (.ref a1), .val (.ref a2), .unset, .unset, .unset, .unset, .unset] [(.int (4 : Int32))]))
  obtain ⟨T1, h1, k1, X1, e1, E1, A1, st1⟩ := newP X0 hx hZ (hw _ (List.mem_of_getElem? (i := 4) rfl)) e0 (g := (mkF m 5 #[.val (.ref a1), .val (.ref a2), .unset, .unset, .unset, .unset, .unset] [(.int (4 : Int32))])) rfl (hb hby d2_5) rfl (by decide) (cap := 4) (by decide) (by decide) (by decide) (by decide)
  obtain ⟨b1, g1⟩ : ∃ z, z = h0.size := ⟨_, rfl⟩
  rw [← g1] at A1 st1
  refine GoW.st st1 ?_
  have gg1 : n0 ≤ b1 := Nat.le_trans (Nat.le_trans Z0 K0.1) (Nat.le_of_eq g1.symm)
  have sz1 : h0.size ≤ b1 := Nat.le_trans K0.1 (Nat.le_of_eq g1.symm)
  have ne1_a1 : a1 ≠ b1 := Nat.ne_of_lt (Nat.lt_of_lt_of_le pre_V_a1.lt (Nat.le_of_eq g1.symm))
  have ne1_a2 : a2 ≠ b1 := Nat.ne_of_lt (Nat.lt_of_lt_of_le pre_V_a2.lt (Nat.le_of_eq g1.symm))
  have f2_V_a1 : Arv Z h1 a1 ka .long (2 : Int32) [(.long x0), (.long x1)] (.long (0 : Int64)) := pre_V_a1.ext E1
  have f2_V_a2 : Arv Z h1 a2 kc .long (2 : Int32) [(.long y0), (.long y1)] (.long (0 : Int64)) := pre_V_a2.ext E1
  have K1 : Keep h0 h1 [] := K0.ext E1
  have V1 : Arv Z h1 b1 k1 .long (4 : Int32) [(.long (0 : Int64)), (.long (0 : Int64)), (.long (0 : Int64)), (.long (0 : Int64))] (.long (0 : Int64)) := (Arv.new A1 (by decide)).pad (pad_rep [] (.long (0 : Int64)) 4)
  show GoW p e below QQ (T1.setTop (mkF m 7 #[.val (.ref a1), .val (.ref a2), .unset, .unset, .unset, .unset, .unset] [(.ref b1)]))
  refine GoW.st (fun t k => XS.astoreN X1.here hx rfl (hb hby d2_7) rfl rfl (l' := #[.val (.ref a1), .val (.ref a2), .val (.ref b1), .unset, .unset, .unset, .unset]) rfl (XS.iconst X1.here hx rfl (hb hby d2_8) (XS.istoreN X1.here hx rfl (hb hby d2_9) rfl (l' := #[.val (.ref a1), .val (.ref a2), .val (.ref b1), .val (.int (0 : Int32)), .unset, .unset, .unset]) rfl (XS.iconst X1.here hx rfl (hb hby d2_10) (XS.istore X1.here hx rfl (hb hby d2_11) rfl (l' := #[.val (.ref a1), .val (.ref a2), .val (.ref b1), .val (.int (0 : Int32)), .val (.int (0 : Int32)), .unset, .unset]) rfl (XS.iconst X1.here hx rfl (hb hby d2_13) k)))))) ?_
  show GoW p e below QQ (T1.setTop (mkF m 14 #[.val (.ref a1), .val (.ref a2), .val (.ref b1), .val (.int (0 : Int32)), .val (.int (0 : Int32)), .unset, .unset] [(.int (0 : Int32))]))
  refine GoW.st (fun t k => XS.istore X1.here hx rfl (hb hby d2_14) rfl (l' := #[.val (.ref a1), .val (.ref a2), .val (.ref b1), .val (.int (0 : Int32)), .val (.int (0 : Int32)), .val (.int (0 : Int32)), .unset]) rfl (XS.iload X1.here hx rfl (hb hby d2_16) rfl (XS.aloadN X1.here hx rfl (hb hby d2_18) rfl rfl (lnV X1 hx hZ e1 V1 (g := (mkF m 19 #[.val (.ref a1), .val (.ref a2), .val (.ref b1), .val (.int (0 : Int32)), .val (.int (0 : Int32)), .val (.int (0 : Int32)), .unset] [(.ref b1), (.int (0 : Int32))])) rfl rfl (hb hby d2_19) t k)))) ?_
  show GoW p e below QQ (T1.setTop (mkF m 20 #[.val (.ref a1), .val (.ref a2), .val (.ref b1), .val (.int (0 : Int32)), .val (.int (0 : Int32)), .val (.int (0 : Int32)), .unset] [(.int (4 : Int32)), (.int (0 : Int32))]))
  have hc20 : (0 : Int32) < (4 : Int32) := by decide
  refine GoW.st (fun t k => XS.icmpNo X1.here hx rfl (hb hby d2_20) rfl (tlt hc20).2.1 (XS.iload X1.here hx rfl (hb hby d2_23) rfl (XS.aloadN X1.here hx rfl (hb hby d2_25) rfl rfl (lnV X1 hx hZ e1 f2_V_a2 (g := (mkF m 26 #[.val (.ref a1), .val (.ref a2), .val (.ref b1), .val (.int (0 : Int32)), .val (.int (0 : Int32)), .val (.int (0 : Int32)), .unset] [(.ref a2), (.int (0 : Int32))])) rfl rfl (hb hby d2_26) t k)))) ?_
  show GoW p e below QQ (T1.setTop (mkF m 27 #[.val (.ref a1), .val (.ref a2), .val (.ref b1), .val (.int (0 : Int32)), .val (.int (0 : Int32)), .val (.int (0 : Int32)), .unset] [(.int (2 : Int32)), (.int (0 : Int32))]))
  have hc27 : ¬ ((0 : Int32) = (2 : Int32)) := by decide
  refine GoW.st (fun t k => XS.icmpNo X1.here hx rfl (hb hby d2_27) rfl (feq hc27).1 (XS.iloadN X1.here hx rfl (hb hby d2_30) rfl (XS.aloadN X1.here hx rfl (hb hby d2_31) rfl rfl (lnV X1 hx hZ e1 f2_V_a1 (g := (mkF m 32 #[.val (.ref a1), .val (.ref a2), .val (.ref b1), .val (.int (0 : Int32)), .val (.int (0 : Int32)), .val (.int (0 : Int32)), .unset] [(.ref a1), (.int (0 : Int32))])) rfl rfl (hb hby d2_32) t k)))) ?_
  show GoW p e below QQ (T1.setTop (mkF m 33 #[.val (.ref a1), .val (.ref a2), .val (.ref b1), .val (.int (0 : Int32)), .val (.int (0 : Int32)), .val (.int (0 : Int32)), .unset] [(.int (2 : Int32)), (.int (0 : Int32))]))
  have hc33 : (0 : Int32) < (2 : Int32) := by decide
  refine GoW.st (fun t k => XS.icmpNo X1.here hx rfl (hb hby d2_33) rfl (tlt hc33).2.1 (XS.aloadN X1.here hx rfl (hb hby d2_36) rfl rfl (XS.iloadN X1.here hx rfl (hb hby d2_37) rfl (ldVJ X1 hx hZ e1 f2_V_a1 (v := (.long x0)) ⟨by decide, by decide⟩ rfl (g := (mkF m 38 #[.val (.ref a1), .val (.ref a2), .val (.ref b1), .val (.int (0 : Int32)), .val (.int (0 : Int32)), .val (.int (0 : Int32)), .unset] [(.int (0 : Int32)), (.ref a1)])) rfl rfl (hb hby d2_38) t (XS.aloadN X1.here hx rfl (hb hby d2_39) rfl rfl (XS.iload X1.here hx rfl (hb hby d2_40) rfl k)))))) ?_
  show GoW p e below QQ (T1.setTop (mkF m 42 #[.val (.ref a1), .val (.ref a2), .val (.ref b1), .val (.int (0 : Int32)), .val (.int (0 : Int32)), .val (.int (0 : Int32)), .unset] [(.int (0 : Int32)), (.ref a2), (.long x0)]))
  refine GoW.st (fun t k => ldVJ X1 hx hZ e1 f2_V_a2 (v := (.long y0)) ⟨by decide, by decide⟩ rfl (g := (mkF m 42 #[.val (.ref a1), .val (.ref a2), .val (.ref b1), .val (.int (0 : Int32)), .val (.int (0 : Int32)), .val (.int (0 : Int32)), .unset] [(.int (0 : Int32)), (.ref a2), (.long x0)])) rfl rfl (hb hby d2_42) t (XS.lcmp X1.here hx rfl (hb hby d2_43) rfl k)) ?_
  show GoW p e below QQ (T1.setTop (mkF m 44 #[.val (.ref a1), .val (.ref a2), .val (.ref b1), .val (.int (0 : Int32)), .val (.int (0 : Int32)), .val (.int (0 : Int32)), .unset] [(.int (lcmpW x0 y0))]))
  by_cases hc44 : y0 < x0
  · skip
    refine GoW.st (fun t k => XS.ifYes X1.here hx rfl (pc0 := 44) (pc' := 51) rfl (hb hby d2_44) rfl ((if0 _ _).trans (tlt ((lw_gt x0 y0).mpr hc44)).2.2.1) (by decide) (by decide) k) ?_
    show GoW p e below QQ (T1.setTop (mkF m 51 #[.val (.ref a1), .val (.ref a2), .val (.ref b1), .val (.int (0 : Int32)), .val (.int (0 : Int32)), .val (.int (0 : Int32)), .unset] []))
    have hi44 : y0.toInt < x0.toInt := (Int64.lt_iff_toInt_lt.mp hc44)
    refine GoW.st (fun t k => XS.iconst X1.here hx rfl (hb hby d2_51) (XS.istore X1.here hx rfl (hb hby d2_52) rfl (l' := #[.val (.ref a1), .val (.ref a2), .val (.ref b1), .val (.int (0 : Int32)), .val (.int (0 : Int32)), .val (.int (0 : Int32)), .val (.int (0 : Int32))]) rfl (XS.aloadN X1.here hx rfl (hb hby d2_54) rfl rfl (XS.iload X1.here hx rfl (hb hby d2_55) rfl (XS.iload X1.here hx rfl (hb hby d2_57) rfl k))))) ?_
    show GoW p e below QQ (T1.setTop (mkF m 59 #[.val (.ref a1), .val (.ref a2), .val (.ref b1), .val (.int (0 : Int32)), .val (.int (0 : Int32)), .val (.int (0 : Int32)), .val (.int (0 : Int32))] [(.int (0 : Int32)), (.int (0 : Int32)), (.ref b1)]))
    have hc59 : (0 : Int32) = (0 : Int32) := by decide
    refine GoW.st (fun t k => XS.ifYes X1.here hx rfl (pc0 := 59) (pc' := 71) rfl (hb hby d2_59) rfl ((if0 _ _).trans (teq hc59).1) (by decide) (by decide) (XS.aloadN X1.here hx rfl (hb hby d2_71) rfl rfl (XS.iload X1.here hx rfl (hb hby d2_72) rfl (XS.iinc X1.here hx rfl (hb hby d2_74) rfl (l' := #[.val (.ref a1), .val (.ref a2), .val (.ref b1), .val (.int (0 : Int32)), .val (.int (1 : Int32)), .val (.int (0 : Int32)), .val (.int (0 : Int32))]) rfl (ldVJ X1 hx hZ e1 f2_V_a2 (v := (.long y0)) ⟨by decide, by decide⟩ rfl (g := (mkF m 77 #[.val (.ref a1), .val (.ref a2), .val (.ref b1), .val (.int (0 : Int32)), .val (.int (1 : Int32)), .val (.int (0 : Int32)), .val (.int (0 : Int32))] [(.int (0 : Int32)), (.ref a2), (.int (0 : Int32)), (.ref b1)])) rfl rfl (hb hby d2_77) t k))))) ?_
    show GoW p e below QQ (T1.setTop (mkF m 78 #[.val (.ref a1), .val (.ref a2), .val (.ref b1), .val (.int (0 : Int32)), .val (.int (1 : Int32)), .val (.int (0 : Int32)), .val (.int (0 : Int32))] [(.long y0), (.int (0 : Int32)), (.ref b1)]))
    obtain ⟨T3, h3, X3, e3, W3, V3, st3⟩ := stVJ X1 hx hZ e1 V1 ⟨by decide, by decide⟩ 0 rfl (Nat.le_of_ble_eq_true rfl) (g := (mkF m 78 #[.val (.ref a1), .val (.ref a2), .val (.ref b1), .val (.int (0 : Int32)), .val (.int (1 : Int32)), .val (.int (0 : Int32)), .val (.int (0 : Int32))] [(.long y0), (.int (0 : Int32)), (.ref b1)])) rfl rfl (hb hby d2_78)
    refine GoW.st st3 ?_
    have f4_V_a1 : Arv Z h3 a1 ka .long (2 : Int32) [(.long x0), (.long x1)] (.long (0 : Int64)) := f2_V_a1.other W3 ne1_a1
    have f4_V_a2 : Arv Z h3 a2 kc .long (2 : Int32) [(.long y0), (.long y1)] (.long (0 : Int64)) := f2_V_a2.other W3 ne1_a2
    have f4_V_b1 : Arv Z h3 b1 k1 .long (4 : Int32) [(.long y0), (.long (0 : Int64)), (.long (0 : Int64)), (.long (0 : Int64))] (.long (0 : Int64)) := V3
    have K3 : Keep h0 h3 [] := K1.wr W3 (Or.inr sz1)
    have N3 := Fr.snoc X3 N0 gg1
    show GoW p e below QQ (T3.setTop (mkF m 79 #[.val (.ref a1), .val (.ref a2), .val (.ref b1), .val (.int (0 : Int32)), .val (.int (1 : Int32)), .val (.int (0 : Int32)), .val (.int (0 : Int32))] []))
    refine GoW.st (fun t k => XS.iinc X3.here hx rfl (hb hby d2_79) rfl (l' := #[.val (.ref a1), .val (.ref a2), .val (.ref b1), .val (.int (0 : Int32)), .val (.int (1 : Int32)), .val (.int (1 : Int32)), .val (.int (0 : Int32))]) rfl (XS.goto X3.here hx rfl (pc0 := 82) (pc' := 16) rfl (hb hby d2_82) (by decide) (by decide) (XS.iload X3.here hx rfl (hb hby d2_16) rfl (XS.aloadN X3.here hx rfl (hb hby d2_18) rfl rfl (lnV X3 hx hZ e3 f4_V_b1 (g := (mkF m 19 #[.val (.ref a1), .val (.ref a2), .val (.ref b1), .val (.int (0 : Int32)), .val (.int (1 : Int32)), .val (.int (1 : Int32)), .val (.int (0 : Int32))] [(.ref b1), (.int (1 : Int32))])) rfl rfl (hb hby d2_19) t k))))) ?_
    show GoW p e below QQ (T3.setTop (mkF m 20 #[.val (.ref a1), .val (.ref a2), .val (.ref b1), .val (.int (0 : Int32)), .val (.int (1 : Int32)), .val (.int (1 : Int32)), .val (.int (0 : Int32))] [(.int (4 : Int32)), (.int (1 : Int32))]))
    have hc20_2 : (1 : Int32) < (4 : Int32) := by decide
    refine GoW.st (fun t k => XS.icmpNo X3.here hx rfl (hb hby d2_20) rfl (tlt hc20_2).2.1 (XS.iload X3.here hx rfl (hb hby d2_23) rfl (XS.aloadN X3.here hx rfl (hb hby d2_25) rfl rfl (lnV X3 hx hZ e3 f4_V_a2 (g := (mkF m 26 #[.val (.ref a1), .val (.ref a2), .val (.ref b1), .val (.int (0 : Int32)), .val (.int (1 : Int32)), .val (.int (1 : Int32)), .val (.int (0 : Int32))] [(.ref a2), (.int (1 : Int32))])) rfl rfl (hb hby d2_26) t k)))) ?_
    show GoW p e below QQ (T3.setTop (mkF m 27 #[.val (.ref a1), .val (.ref a2), .val (.ref b1), .val (.int (0 : Int32)), .val (.int (1 : Int32)), .val (.int (1 : Int32)), .val (.int (0 : Int32))] [(.int (2 : Int32)), (.int (1 : Int32))]))
    have hc27_2 : ¬ ((1 : Int32) = (2 : Int32)) := by decide
    refine GoW.st (fun t k => XS.icmpNo X3.here hx rfl (hb hby d2_27) rfl (feq hc27_2).1 (XS.iloadN X3.here hx rfl (hb hby d2_30) rfl (XS.aloadN X3.here hx rfl (hb hby d2_31) rfl rfl (lnV X3 hx hZ e3 f4_V_a1 (g := (mkF m 32 #[.val (.ref a1), .val (.ref a2), .val (.ref b1), .val (.int (0 : Int32)), .val (.int (1 : Int32)), .val (.int (1 : Int32)), .val (.int (0 : Int32))] [(.ref a1), (.int (0 : Int32))])) rfl rfl (hb hby d2_32) t k)))) ?_
    show GoW p e below QQ (T3.setTop (mkF m 33 #[.val (.ref a1), .val (.ref a2), .val (.ref b1), .val (.int (0 : Int32)), .val (.int (1 : Int32)), .val (.int (1 : Int32)), .val (.int (0 : Int32))] [(.int (2 : Int32)), (.int (0 : Int32))]))
    have hc33_2 : (0 : Int32) < (2 : Int32) := by decide
    refine GoW.st (fun t k => XS.icmpNo X3.here hx rfl (hb hby d2_33) rfl (tlt hc33_2).2.1 (XS.aloadN X3.here hx rfl (hb hby d2_36) rfl rfl (XS.iloadN X3.here hx rfl (hb hby d2_37) rfl (ldVJ X3 hx hZ e3 f4_V_a1 (v := (.long x0)) ⟨by decide, by decide⟩ rfl (g := (mkF m 38 #[.val (.ref a1), .val (.ref a2), .val (.ref b1), .val (.int (0 : Int32)), .val (.int (1 : Int32)), .val (.int (1 : Int32)), .val (.int (0 : Int32))] [(.int (0 : Int32)), (.ref a1)])) rfl rfl (hb hby d2_38) t (XS.aloadN X3.here hx rfl (hb hby d2_39) rfl rfl (XS.iload X3.here hx rfl (hb hby d2_40) rfl k)))))) ?_
    show GoW p e below QQ (T3.setTop (mkF m 42 #[.val (.ref a1), .val (.ref a2), .val (.ref b1), .val (.int (0 : Int32)), .val (.int (1 : Int32)), .val (.int (1 : Int32)), .val (.int (0 : Int32))] [(.int (1 : Int32)), (.ref a2), (.long x0)]))
    refine GoW.st (fun t k => ldVJ X3 hx hZ e3 f4_V_a2 (v := (.long y1)) ⟨by decide, by decide⟩ rfl (g := (mkF m 42 #[.val (.ref a1), .val (.ref a2), .val (.ref b1), .val (.int (0 : Int32)), .val (.int (1 : Int32)), .val (.int (1 : Int32)), .val (.int (0 : Int32))] [(.int (1 : Int32)), (.ref a2), (.long x0)])) rfl rfl (hb hby d2_42) t (XS.lcmp X3.here hx rfl (hb hby d2_43) rfl k)) ?_
    show GoW p e below QQ (T3.setTop (mkF m 44 #[.val (.ref a1), .val (.ref a2), .val (.ref b1), .val (.int (0 : Int32)), .val (.int (1 : Int32)), .val (.int (1 : Int32)), .val (.int (0 : Int32))] [(.int (lcmpW x0 y1))]))
    by_cases hc44_2 : y1 < x0
    · skip
      refine GoW.st (fun t k => XS.ifYes X3.here hx rfl (pc0 := 44) (pc' := 51) rfl (hb hby d2_44) rfl ((if0 _ _).trans (tlt ((lw_gt x0 y1).mpr hc44_2)).2.2.1) (by decide) (by decide) k) ?_
      show GoW p e below QQ (T3.setTop (mkF m 51 #[.val (.ref a1), .val (.ref a2), .val (.ref b1), .val (.int (0 : Int32)), .val (.int (1 : Int32)), .val (.int (1 : Int32)), .val (.int (0 : Int32))] []))
      have hi44_2 : y1.toInt < x0.toInt := (Int64.lt_iff_toInt_lt.mp hc44_2)
      refine GoW.st (fun t k => XS.iconst X3.here hx rfl (hb hby d2_51) (XS.istore X3.here hx rfl (hb hby d2_52) rfl (l' := #[.val (.ref a1), .val (.ref a2), .val (.ref b1), .val (.int (0 : Int32)), .val (.int (1 : Int32)), .val (.int (1 : Int32)), .val (.int (0 : Int32))]) rfl (XS.aloadN X3.here hx rfl (hb hby d2_54) rfl rfl (XS.iload X3.here hx rfl (hb hby d2_55) rfl (XS.iload X3.here hx rfl (hb hby d2_57) rfl k))))) ?_
      show GoW p e below QQ (T3.setTop (mkF m 59 #[.val (.ref a1), .val (.ref a2), .val (.ref b1), .val (.int (0 : Int32)), .val (.int (1 : Int32)), .val (.int (1 : Int32)), .val (.int (0 : Int32))] [(.int (0 : Int32)), (.int (1 : Int32)), (.ref b1)]))
      have hc59_2 : (0 : Int32) = (0 : Int32) := by decide
      refine GoW.st (fun t k => XS.ifYes X3.here hx rfl (pc0 := 59) (pc' := 71) rfl (hb hby d2_59) rfl ((if0 _ _).trans (teq hc59_2).1) (by decide) (by decide) (XS.aloadN X3.here hx rfl (hb hby d2_71) rfl rfl (XS.iload X3.here hx rfl (hb hby d2_72) rfl (XS.iinc X3.here hx rfl (hb hby d2_74) rfl (l' := #[.val (.ref a1), .val (.ref a2), .val (.ref b1), .val (.int (0 : Int32)), .val (.int (2 : Int32)), .val (.int (1 : Int32)), .val (.int (0 : Int32))]) rfl (ldVJ X3 hx hZ e3 f4_V_a2 (v := (.long y1)) ⟨by decide, by decide⟩ rfl (g := (mkF m 77 #[.val (.ref a1), .val (.ref a2), .val (.ref b1), .val (.int (0 : Int32)), .val (.int (2 : Int32)), .val (.int (1 : Int32)), .val (.int (0 : Int32))] [(.int (1 : Int32)), (.ref a2), (.int (1 : Int32)), (.ref b1)])) rfl rfl (hb hby d2_77) t k))))) ?_
      show GoW p e below QQ (T3.setTop (mkF m 78 #[.val (.ref a1), .val (.ref a2), .val (.ref b1), .val (.int (0 : Int32)), .val (.int (2 : Int32)), .val (.int (1 : Int32)), .val (.int (0 : Int32))] [(.long y1), (.int (1 : Int32)), (.ref b1)]))
      obtain ⟨T5, h5, X5, e5, W5, V5, st5⟩ := stVJ X3 hx hZ e3 f4_V_b1 ⟨by decide, by decide⟩ 1 rfl (Nat.le_of_ble_eq_true rfl) (g := (mkF m 78 #[.val (.ref a1), .val (.ref a2), .val (.ref b1), .val (.int (0 : Int32)), .val (.int (2 : Int32)), .val (.int (1 : Int32)), .val (.int (0 : Int32))] [(.long y1), (.int (1 : Int32)), (.ref b1)])) rfl rfl (hb hby d2_78)
      refine GoW.st st5 ?_
      have f6_V_a1 : Arv Z h5 a1 ka .long (2 : Int32) [(.long x0), (.long x1)] (.long (0 : Int64)) := f4_V_a1.other W5 ne1_a1
      have f6_V_a2 : Arv Z h5 a2 kc .long (2 : Int32) [(.long y0), (.long y1)] (.long (0 : Int64)) := f4_V_a2.other W5 ne1_a2
      have f6_V_b1 : Arv Z h5 b1 k1 .long (4 : Int32) [(.long y0), (.long y1), (.long (0 : Int64)), (.long (0 : Int64))] (.long (0 : Int64)) := V5
      have K5 : Keep h0 h5 [] := K3.wr W5 (Or.inr sz1)
      have N5 := Fr.snoc X5 N3 gg1
      show GoW p e below QQ (T5.setTop (mkF m 79 #[.val (.ref a1), .val (.ref a2), .val (.ref b1), .val (.int (0 : Int32)), .val (.int (2 : Int32)), .val (.int (1 : Int32)), .val (.int (0 : Int32))] []))
      refine GoW.st (fun t k => XS.iinc X5.here hx rfl (hb hby d2_79) rfl (l' := #[.val (.ref a1), .val (.ref a2), .val (.ref b1), .val (.int (0 : Int32)), .val (.int (2 : Int32)), .val (.int (2 : Int32)), .val (.int (0 : Int32))]) rfl (XS.goto X5.here hx rfl (pc0 := 82) (pc' := 16) rfl (hb hby d2_82) (by decide) (by decide) (XS.iload X5.here hx rfl (hb hby d2_16) rfl (XS.aloadN X5.here hx rfl (hb hby d2_18) rfl rfl (lnV X5 hx hZ e5 f6_V_b1 (g := (mkF m 19 #[.val (.ref a1), .val (.ref a2), .val (.ref b1), .val (.int (0 : Int32)), .val (.int (2 : Int32)), .val (.int (2 : Int32)), .val (.int (0 : Int32))] [(.ref b1), (.int (2 : Int32))])) rfl rfl (hb hby d2_19) t k))))) ?_
      show GoW p e below QQ (T5.setTop (mkF m 20 #[.val (.ref a1), .val (.ref a2), .val (.ref b1), .val (.int (0 : Int32)), .val (.int (2 : Int32)), .val (.int (2 : Int32)), .val (.int (0 : Int32))] [(.int (4 : Int32)), (.int (2 : Int32))]))
      have hc20_3 : (2 : Int32) < (4 : Int32) := by decide
      refine GoW.st (fun t k => XS.icmpNo X5.here hx rfl (hb hby d2_20) rfl (tlt hc20_3).2.1 (XS.iload X5.here hx rfl (hb hby d2_23) rfl (XS.aloadN X5.here hx rfl (hb hby d2_25) rfl rfl (lnV X5 hx hZ e5 f6_V_a2 (g := (mkF m 26 #[.val (.ref a1), .val (.ref a2), .val (.ref b1), .val (.int (0 : Int32)), .val (.int (2 : Int32)), .val (.int (2 : Int32)), .val (.int (0 : Int32))] [(.ref a2), (.int (2 : Int32))])) rfl rfl (hb hby d2_26) t k)))) ?_
      show GoW p e below QQ (T5.setTop (mkF m 27 #[.val (.ref a1), .val (.ref a2), .val (.ref b1), .val (.int (0 : Int32)), .val (.int (2 : Int32)), .val (.int (2 : Int32)), .val (.int (0 : Int32))] [(.int (2 : Int32)), (.int (2 : Int32))]))
      have hc27_3 : (2 : Int32) = (2 : Int32) := by decide
      refine GoW.st (fun t k => XS.icmpYes X5.here hx rfl (pc0 := 27) (pc' := 47) rfl (hb hby d2_27) rfl (teq hc27_3).1 (by decide) (by decide) (XS.iconst X5.here hx rfl (hb hby d2_47) (XS.goto X5.here hx rfl (pc0 := 48) (pc' := 52) rfl (hb hby d2_48) (by decide) (by decide) (XS.istore X5.here hx rfl (hb hby d2_52) rfl (l' := #[.val (.ref a1), .val (.ref a2), .val (.ref b1), .val (.int (0 : Int32)), .val (.int (2 : Int32)), .val (.int (2 : Int32)), .val (.int (1 : Int32))]) rfl (XS.aloadN X5.here hx rfl (hb hby d2_54) rfl rfl (XS.iload X5.here hx rfl (hb hby d2_55) rfl k)))))) ?_
      show GoW p e below QQ (T5.setTop (mkF m 57 #[.val (.ref a1), .val (.ref a2), .val (.ref b1), .val (.int (0 : Int32)), .val (.int (2 : Int32)), .val (.int (2 : Int32)), .val (.int (1 : Int32))] [(.int (2 : Int32)), (.ref b1)]))
      refine GoW.st (fun t k => XS.iload X5.here hx rfl (hb hby d2_57) rfl k) ?_
      show GoW p e below QQ (T5.setTop (mkF m 59 #[.val (.ref a1), .val (.ref a2), .val (.ref b1), .val (.int (0 : Int32)), .val (.int (2 : Int32)), .val (.int (2 : Int32)), .val (.int (1 : Int32))] [(.int (1 : Int32)), (.int (2 : Int32)), (.ref b1)]))
      have hc59_3 : ¬ ((1 : Int32) = (0 : Int32)) := by decide
      refine GoW.st (fun t k => XS.ifNo X5.here hx rfl (hb hby d2_59) rfl ((if0 _ _).trans (feq hc59_3).1) (XS.aloadN X5.here hx rfl (hb hby d2_62) rfl rfl (XS.iloadN X5.here hx rfl (hb hby d2_63) rfl (XS.iinc X5.here hx rfl (hb hby d2_64) rfl (l' := #[.val (.ref a1), .val (.ref a2), .val (.ref b1), .val (.int (1 : Int32)), .val (.int (2 : Int32)), .val (.int (2 : Int32)), .val (.int (1 : Int32))]) rfl (ldVJ X5 hx hZ e5 f6_V_a1 (v := (.long x0)) ⟨by decide, by decide⟩ rfl (g := (mkF m 67 #[.val (.ref a1), .val (.ref a2), .val (.ref b1), .val (.int (1 : Int32)), .val (.int (2 : Int32)), .val (.int (2 : Int32)), .val (.int (1 : Int32))] [(.int (0 : Int32)), (.ref a1), (.int (2 : Int32)), (.ref b1)])) rfl rfl (hb hby d2_67) t (XS.goto X5.here hx rfl (pc0 := 68) (pc' := 78) rfl (hb hby d2_68) (by decide) (by decide) k)))))) ?_
      show GoW p e below QQ (T5.setTop (mkF m 78 #[.val (.ref a1), .val (.ref a2), .val (.ref b1), .val (.int (1 : Int32)), .val (.int (2 : Int32)), .val (.int (2 : Int32)), .val (.int (1 : Int32))] [(.long x0), (.int (2 : Int32)), (.ref b1)]))
      obtain ⟨T7, h7, X7, e7, W7, V7, st7⟩ := stVJ X5 hx hZ e5 f6_V_b1 ⟨by decide, by decide⟩ 2 rfl (Nat.le_of_ble_eq_true rfl) (g := (mkF m 78 #[.val (.ref a1), .val (.ref a2), .val (.ref b1), .val (.int (1 : Int32)), .val (.int (2 : Int32)), .val (.int (2 : Int32)), .val (.int (1 : Int32))] [(.long x0), (.int (2 : Int32)), (.ref b1)])) rfl rfl (hb hby d2_78)
      refine GoW.st st7 ?_
      have f8_V_a1 : Arv Z h7 a1 ka .long (2 : Int32) [(.long x0), (.long x1)] (.long (0 : Int64)) := f6_V_a1.other W7 ne1_a1
      have f8_V_a2 : Arv Z h7 a2 kc .long (2 : Int32) [(.long y0), (.long y1)] (.long (0 : Int64)) := f6_V_a2.other W7 ne1_a2
      have f8_V_b1 : Arv Z h7 b1 k1 .long (4 : Int32) [(.long y0), (.long y1), (.long x0), (.long (0 : Int64))] (.long (0 : Int64)) := V7
      have K7 : Keep h0 h7 [] := K5.wr W7 (Or.inr sz1)
      have N7 := Fr.snoc X7 N5 gg1
      show GoW p e below QQ (T7.setTop (mkF m 79 #[.val (.ref a1), .val (.ref a2), .val (.ref b1), .val (.int (1 : Int32)), .val (.int (2 : Int32)), .val (.int (2 : Int32)), .val (.int (1 : Int32))] []))
      refine GoW.st (fun t k => XS.iinc X7.here hx rfl (hb hby d2_79) rfl (l' := #[.val (.ref a1), .val (.ref a2), .val (.ref b1), .val (.int (1 : Int32)), .val (.int (2 : Int32)), .val (.int (3 : Int32)), .val (.int (1 : Int32))]) rfl (XS.goto X7.here hx rfl (pc0 := 82) (pc' := 16) rfl (hb hby d2_82) (by decide) (by decide) (XS.iload X7.here hx rfl (hb hby d2_16) rfl (XS.aloadN X7.here hx rfl (hb hby d2_18) rfl rfl (lnV X7 hx hZ e7 f8_V_b1 (g := (mkF m 19 #[.val (.ref a1), .val (.ref a2), .val (.ref b1), .val (.int (1 : Int32)), .val (.int (2 : Int32)), .val (.int (3 : Int32)), .val (.int (1 : Int32))] [(.ref b1), (.int (3 : Int32))])) rfl rfl (hb hby d2_19) t k))))) ?_
      show GoW p e below QQ (T7.setTop (mkF m 20 #[.val (.ref a1), .val (.ref a2), .val (.ref b1), .val (.int (1 : Int32)), .val (.int (2 : Int32)), .val (.int (3 : Int32)), .val (.int (1 : Int32))] [(.int (4 : Int32)), (.int (3 : Int32))]))
      have hc20_4 : (3 : Int32) < (4 : Int32) := by decide
      refine GoW.st (fun t k => XS.icmpNo X7.here hx rfl (hb hby d2_20) rfl (tlt hc20_4).2.1 (XS.iload X7.here hx rfl (hb hby d2_23) rfl (XS.aloadN X7.here hx rfl (hb hby d2_25) rfl rfl (lnV X7 hx hZ e7 f8_V_a2 (g := (mkF m 26 #[.val (.ref a1), .val (.ref a2), .val (.ref b1), .val (.int (1 : Int32)), .val (.int (2 : Int32)), .val (.int (3 : Int32)), .val (.int (1 : Int32))] [(.ref a2), (.int (2 : Int32))])) rfl rfl (hb hby d2_26) t k)))) ?_
      show GoW p e below QQ (T7.setTop (mkF m 27 #[.val (.ref a1), .val (.ref a2), .val (.ref b1), .val (.int (1 : Int32)), .val (.int (2 : Int32)), .val (.int (3 : Int32)), .val (.int (1 : Int32))] [(.int (2 : Int32)), (.int (2 : Int32))]))
      have hc27_4 : (2 : Int32) = (2 : Int32) := by decide
      refine GoW.st (fun t k => XS.icmpYes X7.here hx rfl (pc0 := 27) (pc' := 47) rfl (hb hby d2_27) rfl (teq hc27_4).1 (by decide) (by decide) (XS.iconst X7.here hx rfl (hb hby d2_47) (XS.goto X7.here hx rfl (pc0 := 48) (pc' := 52) rfl (hb hby d2_48) (by decide) (by decide) (XS.istore X7.here hx rfl (hb hby d2_52) rfl (l' := #[.val (.ref a1), .val (.ref a2), .val (.ref b1), .val (.int (1 : Int32)), .val (.int (2 : Int32)), .val (.int (3 : Int32)), .val (.int (1 : Int32))]) rfl (XS.aloadN X7.here hx rfl (hb hby d2_54) rfl rfl (XS.iload X7.here hx rfl (hb hby d2_55) rfl k)))))) ?_
      show GoW p e below QQ (T7.setTop (mkF m 57 #[.val (.ref a1), .val (.ref a2), .val (.ref b1), .val (.int (1 : Int32)), .val (.int (2 : Int32)), .val (.int (3 : Int32)), .val (.int (1 : Int32))] [(.int (3 : Int32)), (.ref b1)]))
      refine GoW.st (fun t k => XS.iload X7.here hx rfl (hb hby d2_57) rfl k) ?_
      show GoW p e below QQ (T7.setTop (mkF m 59 #[.val (.ref a1), .val (.ref a2), .val (.ref b1), .val (.int (1 : Int32)), .val (.int (2 : Int32)), .val (.int (3 : Int32)), .val (.int (1 : Int32))] [(.int (1 : Int32)), (.int (3 : Int32)), (.ref b1)]))
      have hc59_4 : ¬ ((1 : Int32) = (0 : Int32)) := by decide
      refine GoW.st (fun t k => XS.ifNo X7.here hx rfl (hb hby d2_59) rfl ((if0 _ _).trans (feq hc59_4).1) (XS.aloadN X7.here hx rfl (hb hby d2_62) rfl rfl (XS.iloadN X7.here hx rfl (hb hby d2_63) rfl (XS.iinc X7.here hx rfl (hb hby d2_64) rfl (l' := #[.val (.ref a1), .val (.ref a2), .val (.ref b1), .val (.int (2 : Int32)), .val (.int (2 : Int32)), .val (.int (3 : Int32)), .val (.int (1 : Int32))]) rfl (ldVJ X7 hx hZ e7 f8_V_a1 (v := (.long x1)) ⟨by decide, by decide⟩ rfl (g := (mkF m 67 #[.val (.ref a1), .val (.ref a2), .val (.ref b1), .val (.int (2 : Int32)), .val (.int (2 : Int32)), .val (.int (3 : Int32)), .val (.int (1 : Int32))] [(.int (1 : Int32)), (.ref a1), (.int (3 : Int32)), (.ref b1)])) rfl rfl (hb hby d2_67) t (XS.goto X7.here hx rfl (pc0 := 68) (pc' := 78) rfl (hb hby d2_68) (by decide) (by decide) k)))))) ?_
      show GoW p e below QQ (T7.setTop (mkF m 78 #[.val (.ref a1), .val (.ref a2), .val (.ref b1), .val (.int (2 : Int32)), .val (.int (2 : Int32)), .val (.int (3 : Int32)), .val (.int (1 : Int32))] [(.long x1), (.int (3 : Int32)), (.ref b1)]))
      obtain ⟨T9, h9, X9, e9, W9, V9, st9⟩ := stVJ X7 hx hZ e7 f8_V_b1 ⟨by decide, by decide⟩ 3 rfl (Nat.le_of_ble_eq_true rfl) (g := (mkF m 78 #[.val (.ref a1), .val (.ref a2), .val (.ref b1), .val (.int (2 : Int32)), .val (.int (2 : Int32)), .val (.int (3 : Int32)), .val (.int (1 : Int32))] [(.long x1), (.int (3 : Int32)), (.ref b1)])) rfl rfl (hb hby d2_78)
      refine GoW.st st9 ?_
      have f10_V_a1 : Arv Z h9 a1 ka .long (2 : Int32) [(.long x0), (.long x1)] (.long (0 : Int64)) := f8_V_a1.other W9 ne1_a1
      have f10_V_a2 : Arv Z h9 a2 kc .long (2 : Int32) [(.long y0), (.long y1)] (.long (0 : Int64)) := f8_V_a2.other W9 ne1_a2
      have f10_V_b1 : Arv Z h9 b1 k1 .long (4 : Int32) [(.long y0), (.long y1), (.long x0), (.long x1)] (.long (0 : Int64)) := V9
      have K9 : Keep h0 h9 [] := K7.wr W9 (Or.inr sz1)
      have N9 := Fr.snoc X9 N7 gg1
      show GoW p e below QQ (T9.setTop (mkF m 79 #[.val (.ref a1), .val (.ref a2), .val (.ref b1), .val (.int (2 : Int32)), .val (.int (2 : Int32)), .val (.int (3 : Int32)), .val (.int (1 : Int32))] []))
      refine GoW.st (fun t k => XS.iinc X9.here hx rfl (hb hby d2_79) rfl (l' := #[.val (.ref a1), .val (.ref a2), .val (.ref b1), .val (.int (2 : Int32)), .val (.int (2 : Int32)), .val (.int (4 : Int32)), .val (.int (1 : Int32))]) rfl (XS.goto X9.here hx rfl (pc0 := 82) (pc' := 16) rfl (hb hby d2_82) (by decide) (by decide) (XS.iload X9.here hx rfl (hb hby d2_16) rfl (XS.aloadN X9.here hx rfl (hb hby d2_18) rfl rfl (lnV X9 hx hZ e9 f10_V_b1 (g := (mkF m 19 #[.val (.ref a1), .val (.ref a2), .val (.ref b1), .val (.int (2 : Int32)), .val (.int (2 : Int32)), .val (.int (4 : Int32)), .val (.int (1 : Int32))] [(.ref b1), (.int (4 : Int32))])) rfl rfl (hb hby d2_19) t k))))) ?_
      show GoW p e below QQ (T9.setTop (mkF m 20 #[.val (.ref a1), .val (.ref a2), .val (.ref b1), .val (.int (2 : Int32)), .val (.int (2 : Int32)), .val (.int (4 : Int32)), .val (.int (1 : Int32))] [(.int (4 : Int32)), (.int (4 : Int32))]))
      have hc20_5 : ¬ ((4 : Int32) < (4 : Int32)) := by decide
      refine GoW.st (fun t k => XS.icmpYes X9.here hx rfl (pc0 := 20) (pc' := 85) rfl (hb hby d2_20) rfl (flt hc20_5).2.1 (by decide) (by decide) (XS.aloadN X9.here hx rfl (hb hby d2_85) rfl rfl k)) ?_
      show GoW p e below QQ (T9.setTop (mkF m 86 #[.val (.ref a1), .val (.ref a2), .val (.ref b1), .val (.int (2 : Int32)), .val (.int (2 : Int32)), .val (.int (4 : Int32)), .val (.int (1 : Int32))] [(.ref b1)]))
      exact GoW.fin X9 (some (.ref b1)) (fun q => by rw [hret] at q; cases q) hlk hQ e9 ⟨b1, k1, y0, y1, x0, x1, rfl, N9, K9, sz1, f10_V_b1, (by omega)⟩ (by decide) (by decide) (fun fs hr => retOut X9 hx hret rfl (Or.inr (Or.inr (Or.inr (Or.inr ⟨rfl, rfl, rfl⟩)))) (hb hby d2_86) hr)
    · skip
      refine GoW.st (fun t k => XS.ifNo X3.here hx rfl (hb hby d2_44) rfl ((if0 _ _).trans (flt (fun q => hc44_2 ((lw_gt x0 y1).mp q))).2.2.1) k) ?_
      show GoW p e below QQ (T3.setTop (mkF m 47 #[.val (.ref a1), .val (.ref a2), .val (.ref b1), .val (.int (0 : Int32)), .val (.int (1 : Int32)), .val (.int (1 : Int32)), .val (.int (0 : Int32))] []))
      have hi44_2 : ¬ (y1.toInt < x0.toInt) := (fun q => hc44_2 (Int64.lt_iff_toInt_lt.mpr q))
      refine GoW.st (fun t k => XS.iconst X3.here hx rfl (hb hby d2_47) (XS.goto X3.here hx rfl (pc0 := 48) (pc' := 52) rfl (hb hby d2_48) (by decide) (by decide) (XS.istore X3.here hx rfl (hb hby d2_52) rfl (l' := #[.val (.ref a1), .val (.ref a2), .val (.ref b1), .val (.int (0 : Int32)), .val (.int (1 : Int32)), .val (.int (1 : Int32)), .val (.int (1 : Int32))]) rfl (XS.aloadN X3.here hx rfl (hb hby d2_54) rfl rfl (XS.iload X3.here hx rfl (hb hby d2_55) rfl (XS.iload X3.here hx rfl (hb hby d2_57) rfl k)))))) ?_
      show GoW p e below QQ (T3.setTop (mkF m 59 #[.val (.ref a1), .val (.ref a2), .val (.ref b1), .val (.int (0 : Int32)), .val (.int (1 : Int32)), .val (.int (1 : Int32)), .val (.int (1 : Int32))] [(.int (1 : Int32)), (.int (1 : Int32)), (.ref b1)]))
      have hc59_2 : ¬ ((1 : Int32) = (0 : Int32)) := by decide
      refine GoW.st (fun t k => XS.ifNo X3.here hx rfl (hb hby d2_59) rfl ((if0 _ _).trans (feq hc59_2).1) (XS.aloadN X3.here hx rfl (hb hby d2_62) rfl rfl (XS.iloadN X3.here hx rfl (hb hby d2_63) rfl (XS.iinc X3.here hx rfl (hb hby d2_64) rfl (l' := #[.val (.ref a1), .val (.ref a2), .val (.ref b1), .val (.int (1 : Int32)), .val (.int (1 : Int32)), .val (.int (1 : Int32)), .val (.int (1 : Int32))]) rfl (ldVJ X3 hx hZ e3 f4_V_a1 (v := (.long x0)) ⟨by decide, by decide⟩ rfl (g := (mkF m 67 #[.val (.ref a1), .val (.ref a2), .val (.ref b1), .val (.int (1 : Int32)), .val (.int (1 : Int32)), .val (.int (1 : Int32)), .val (.int (1 : Int32))] [(.int (0 : Int32)), (.ref a1), (.int (1 : Int32)), (.ref b1)])) rfl rfl (hb hby d2_67) t (XS.goto X3.here hx rfl (pc0 := 68) (pc' := 78) rfl (hb hby d2_68) (by decide) (by decide) k)))))) ?_
      show GoW p e below QQ (T3.setTop (mkF m 78 #[.val (.ref a1), .val (.ref a2), .val (.ref b1), .val (.int (1 : Int32)), .val (.int (1 : Int32)), .val (.int (1 : Int32)), .val (.int (1 : Int32))] [(.long x0), (.int (1 : Int32)), (.ref b1)]))
      obtain ⟨T11, h11, X11, e11, W11, V11, st11⟩ := stVJ X3 hx hZ e3 f4_V_b1 ⟨by decide, by decide⟩ 1 rfl (Nat.le_of_ble_eq_true rfl) (g := (mkF m 78 #[.val (.ref a1), .val (.ref a2), .val (.ref b1), .val (.int (1 : Int32)), .val (.int (1 : Int32)), .val (.int (1 : Int32)), .val (.int (1 : Int32))] [(.long x0), (.int (1 : Int32)), (.ref b1)])) rfl rfl (hb hby d2_78)
      refine GoW.st st11 ?_
      have f12_V_a1 : Arv Z h11 a1 ka .long (2 : Int32) [(.long x0), (.long x1)] (.long (0 : Int64)) := f4_V_a1.other W11 ne1_a1
      have f12_V_a2 : Arv Z h11 a2 kc .long (2 : Int32) [(.long y0), (.long y1)] (.long (0 : Int64)) := f4_V_a2.other W11 ne1_a2
      have f12_V_b1 : Arv Z h11 b1 k1 .long (4 : Int32) [(.long y0), (.long x0), (.long (0 : Int64)), (.long (0 : Int64))] (.long (0 : Int64)) := V11
      have K11 : Keep h0 h11 [] := K3.wr W11 (Or.inr sz1)
      have N11 := Fr.snoc X11 N3 gg1
      show GoW p e below QQ (T11.setTop (mkF m 79 #[.val (.ref a1), .val (.ref a2), .val (.ref b1), .val (.int (1 : Int32)), .val (.int (1 : Int32)), .val (.int (1 : Int32)), .val (.int (1 : Int32))] []))
      refine GoW.st (fun t k => XS.iinc X11.here hx rfl (hb hby d2_79) rfl (l' := #[.val (.ref a1), .val (.ref a2), .val (.ref b1), .val (.int (1 : Int32)), .val (.int (1 : Int32)), .val (.int (2 : Int32)), .val (.int (1 : Int32))]) rfl (XS.goto X11.here hx rfl (pc0 := 82) (pc' := 16) rfl (hb hby d2_82) (by decide) (by decide) (XS.iload X11.here hx rfl (hb hby d2_16) rfl (XS.aloadN X11.here hx rfl (hb hby d2_18) rfl rfl (lnV X11 hx hZ e11 f12_V_b1 (g := (mkF m 19 #[.val (.ref a1), .val (.ref a2), .val (.ref b1), .val (.int (1 : Int32)), .val (.int (1 : Int32)), .val (.int (2 : Int32)), .val (.int (1 : Int32))] [(.ref b1), (.int (2 : Int32))])) rfl rfl (hb hby d2_19) t k))))) ?_
      show GoW p e below QQ (T11.setTop (mkF m 20 #[.val (.ref a1), .val (.ref a2), .val (.ref b1), .val (.int (1 : Int32)), .val (.int (1 : Int32)), .val (.int (2 : Int32)), .val (.int (1 : Int32))] [(.int (4 : Int32)), (.int (2 : Int32))]))
      have hc20_3 : (2 : Int32) < (4 : Int32) := by decide
      refine GoW.st (fun t k => XS.icmpNo X11.here hx rfl (hb hby d2_20) rfl (tlt hc20_3).2.1 (XS.iload X11.here hx rfl (hb hby d2_23) rfl (XS.aloadN X11.here hx rfl (hb hby d2_25) rfl rfl (lnV X11 hx hZ e11 f12_V_a2 (g := (mkF m 26 #[.val (.ref a1), .val (.ref a2), .val (.ref b1), .val (.int (1 : Int32)), .val (.int (1 : Int32)), .val (.int (2 : Int32)), .val (.int (1 : Int32))] [(.ref a2), (.int (1 : Int32))])) rfl rfl (hb hby d2_26) t k)))) ?_
      show GoW p e below QQ (T11.setTop (mkF m 27 #[.val (.ref a1), .val (.ref a2), .val (.ref b1), .val (.int (1 : Int32)), .val (.int (1 : Int32)), .val (.int (2 : Int32)), .val (.int (1 : Int32))] [(.int (2 : Int32)), (.int (1 : Int32))]))
      have hc27_3 : ¬ ((1 : Int32) = (2 : Int32)) := by decide
      refine GoW.st (fun t k => XS.icmpNo X11.here hx rfl (hb hby d2_27) rfl (feq hc27_3).1 (XS.iloadN X11.here hx rfl (hb hby d2_30) rfl (XS.aloadN X11.here hx rfl (hb hby d2_31) rfl rfl (lnV X11 hx hZ e11 f12_V_a1 (g := (mkF m 32 #[.val (.ref a1), .val (.ref a2), .val (.ref b1), .val (.int (1 : Int32)), .val (.int (1 : Int32)), .val (.int (2 : Int32)), .val (.int (1 : Int32))] [(.ref a1), (.int (1 : Int32))])) rfl rfl (hb hby d2_32) t k)))) ?_
      show GoW p e below QQ (T11.setTop (mkF m 33 #[.val (.ref a1), .val (.ref a2), .val (.ref b1), .val (.int (1 : Int32)), .val (.int (1 : Int32)), .val (.int (2 : Int32)), .val (.int (1 : Int32))] [(.int (2 : Int32)), (.int (1 : Int32))]))
      have hc33_3 : (1 : Int32) < (2 : Int32) := by decide
      refine GoW.st (fun t k => XS.icmpNo X11.here hx rfl (hb hby d2_33) rfl (tlt hc33_3).2.1 (XS.aloadN X11.here hx rfl (hb hby d2_36) rfl rfl (XS.iloadN X11.here hx rfl (hb hby d2_37) rfl (ldVJ X11 hx hZ e11 f12_V_a1 (v := (.long x1)) ⟨by decide, by decide⟩ rfl (g := (mkF m 38 #[.val (.ref a1), .val (.ref a2), .val (.ref b1), .val (.int (1 : Int32)), .val (.int (1 : Int32)), .val (.int (2 : Int32)), .val (.int (1 : Int32))] [(.int (1 : Int32)), (.ref a1)])) rfl rfl (hb hby d2_38) t (XS.aloadN X11.here hx rfl (hb hby d2_39) rfl rfl (XS.iload X11.here hx rfl (hb hby d2_40) rfl k)))))) ?_
      show GoW p e below QQ (T11.setTop (mkF m 42 #[.val (.ref a1), .val (.ref a2), .val (.ref b1), .val (.int (1 : Int32)), .val (.int (1 : Int32)), .val (.int (2 : Int32)), .val (.int (1 : Int32))] [(.int (1 : Int32)), (.ref a2), (.long x1)]))
      refine GoW.st (fun t k => ldVJ X11 hx hZ e11 f12_V_a2 (v := (.long y1)) ⟨by decide, by decide⟩ rfl (g := (mkF m 42 #[.val (.ref a1), .val (.ref a2), .val (.ref b1), .val (.int (1 : Int32)), .val (.int (1 : Int32)), .val (.int (2 : Int32)), .val (.int (1 : Int32))] [(.int (1 : Int32)), (.ref a2), (.long x1)])) rfl rfl (hb hby d2_42) t (XS.lcmp X11.here hx rfl (hb hby d2_43) rfl k)) ?_
      show GoW p e below QQ (T11.setTop (mkF m 44 #[.val (.ref a1), .val (.ref a2), .val (.ref b1), .val (.int (1 : Int32)), .val (.int (1 : Int32)), .val (.int (2 : Int32)), .val (.int (1 : Int32))] [(.int (lcmpW x1 y1))]))
      by_cases hc44_3 : y1 < x1
      · skip
        refine GoW.st (fun t k => XS.ifYes X11.here hx rfl (pc0 := 44) (pc' := 51) rfl (hb hby d2_44) rfl ((if0 _ _).trans (tlt ((lw_gt x1 y1).mpr hc44_3)).2.2.1) (by decide) (by decide) k) ?_
        show GoW p e below QQ (T11.setTop (mkF m 51 #[.val (.ref a1), .val (.ref a2), .val (.ref b1), .val (.int (1 : Int32)), .val (.int (1 : Int32)), .val (.int (2 : Int32)), .val (.int (1 : Int32))] []))
        have hi44_3 : y1.toInt < x1.toInt := (Int64.lt_iff_toInt_lt.mp hc44_3)
        refine GoW.st (fun t k => XS.iconst X11.here hx rfl (hb hby d2_51) (XS.istore X11.here hx rfl (hb hby d2_52) rfl (l' := #[.val (.ref a1), .val (.ref a2), .val (.ref b1), .val (.int (1 : Int32)), .val (.int (1 : Int32)), .val (.int (2 : Int32)), .val (.int (0 : Int32))]) rfl (XS.aloadN X11.here hx rfl (hb hby d2_54) rfl rfl (XS.iload X11.here hx rfl (hb hby d2_55) rfl (XS.iload X11.here hx rfl (hb hby d2_57) rfl k))))) ?_
        show GoW p e below QQ (T11.setTop (mkF m 59 #[.val (.ref a1), .val (.ref a2), .val (.ref b1), .val (.int (1 : Int32)), .val (.int (1 : Int32)), .val (.int (2 : Int32)), .val (.int (0 : Int32))] [(.int (0 : Int32)), (.int (2 : Int32)), (.ref b1)]))
        have hc59_3 : (0 : Int32) = (0 : Int32) := by decide
        refine GoW.st (fun t k => XS.ifYes X11.here hx rfl (pc0 := 59) (pc' := 71) rfl (hb hby d2_59) rfl ((if0 _ _).trans (teq hc59_3).1) (by decide) (by decide) (XS.aloadN X11.here hx rfl (hb hby d2_71) rfl rfl (XS.iload X11.here hx rfl (hb hby d2_72) rfl (XS.iinc X11.here hx rfl (hb hby d2_74) rfl (l' := #[.val (.ref a1), .val (.ref a2), .val (.ref b1), .val (.int (1 : Int32)), .val (.int (2 : Int32)), .val (.int (2 : Int32)), .val (.int (0 : Int32))]) rfl (ldVJ X11 hx hZ e11 f12_V_a2 (v := (.long y1)) ⟨by decide, by decide⟩ rfl (g := (mkF m 77 #[.val (.ref a1), .val (.ref a2), .val (.ref b1), .val (.int (1 : Int32)), .val (.int (2 : Int32)), .val (.int (2 : Int32)), .val (.int (0 : Int32))] [(.int (1 : Int32)), (.ref a2), (.int (2 : Int32)), (.ref b1)])) rfl rfl (hb hby d2_77) t k))))) ?_
        show GoW p e below QQ (T11.setTop (mkF m 78 #[.val (.ref a1), .val (.ref a2), .val (.ref b1), .val (.int (1 : Int32)), .val (.int (2 : Int32)), .val (.int (2 : Int32)), .val (.int (0 : Int32))] [(.long y1), (.int (2 : Int32)), (.ref b1)]))
        obtain ⟨T13, h13, X13, e13, W13, V13, st13⟩ := stVJ X11 hx hZ e11 f12_V_b1 ⟨by decide, by decide⟩ 2 rfl (Nat.le_of_ble_eq_true rfl) (g := (mkF m 78 #[.val (.ref a1), .val (.ref a2), .val (.ref b1), .val (.int (1 : Int32)), .val (.int (2 : Int32)), .val (.int (2 : Int32)), .val (.int (0 : Int32))] [(.long y1), (.int (2 : Int32)), (.ref b1)])) rfl rfl (hb hby d2_78)
        refine GoW.st st13 ?_
        have f14_V_a1 : Arv Z h13 a1 ka .long (2 : Int32) [(.long x0), (.long x1)] (.long (0 : Int64)) := f12_V_a1.other W13 ne1_a1
        have f14_V_a2 : Arv Z h13 a2 kc .long (2 : Int32) [(.long y0), (.long y1)] (.long (0 : Int64)) := f12_V_a2.other W13 ne1_a2
        have f14_V_b1 : Arv Z h13 b1 k1 .long (4 : Int32) [(.long y0), (.long x0), (.long y1), (.long (0 : Int64))] (.long (0 : Int64)) := V13
        have K13 : Keep h0 h13 [] := K11.wr W13 (Or.inr sz1)
        have N13 := Fr.snoc X13 N11 gg1
        show GoW p e below QQ (T13.setTop (mkF m 79 #[.val (.ref a1), .val (.ref a2), .val (.ref b1), .val (.int (1 : Int32)), .val (.int (2 : Int32)), .val (.int (2 : Int32)), .val (.int (0 : Int32))] []))
        refine GoW.st (fun t k => XS.iinc X13.here hx rfl (hb hby d2_79) rfl (l' := #[.val (.ref a1), .val (.ref a2), .val (.ref b1), .val (.int (1 : Int32)), .val (.int (2 : Int32)), .val (.int (3 : Int32)), .val (.int (0 : Int32))]) rfl (XS.goto X13.here hx rfl (pc0 := 82) (pc' := 16) rfl (hb hby d2_82) (by decide) (by decide) (XS.iload X13.here hx rfl (hb hby d2_16) rfl (XS.aloadN X13.here hx rfl (hb hby d2_18) rfl rfl (lnV X13 hx hZ e13 f14_V_b1 (g := (mkF m 19 #[.val (.ref a1), .val (.ref a2), .val (.ref b1), .val (.int (1 : Int32)), .val (.int (2 : Int32)), .val (.int (3 : Int32)), .val (.int (0 : Int32))] [(.ref b1), (.int (3 : Int32))])) rfl rfl (hb hby d2_19) t k))))) ?_
        show GoW p e below QQ (T13.setTop (mkF m 20 #[.val (.ref a1), .val (.ref a2), .val (.ref b1), .val (.int (1 : Int32)), .val (.int (2 : Int32)), .val (.int (3 : Int32)), .val (.int (0 : Int32))] [(.int (4 : Int32)), (.int (3 : Int32))]))
        have hc20_4 : (3 : Int32) < (4 : Int32) := by decide
        refine GoW.st (fun t k => XS.icmpNo X13.here hx rfl (hb hby d2_20) rfl (tlt hc20_4).2.1 (XS.iload X13.here hx rfl (hb hby d2_23) rfl (XS.aloadN X13.here hx rfl (hb hby d2_25) rfl rfl (lnV X13 hx hZ e13 f14_V_a2 (g := (mkF m 26 #[.val (.ref a1), .val (.ref a2), .val (.ref b1), .val (.int (1 : Int32)), .val (.int (2 : Int32)), .val (.int (3 : Int32)), .val (.int (0 : Int32))] [(.ref a2), (.int (2 : Int32))])) rfl rfl (hb hby d2_26) t k)))) ?_
        show GoW p e below QQ (T13.setTop (mkF m 27 #[.val (.ref a1), .val (.ref a2), .val (.ref b1), .val (.int (1 : Int32)), .val (.int (2 : Int32)), .val (.int (3 : Int32)), .val (.int (0 : Int32))] [(.int (2 : Int32)), (.int (2 : Int32))]))
        have hc27_4 : (2 : Int32) = (2 : Int32) := by decide
        refine GoW.st (fun t k => XS.icmpYes X13.here hx rfl (pc0 := 27) (pc' := 47) rfl (hb hby d2_27) rfl (teq hc27_4).1 (by decide) (by decide) (XS.iconst X13.here hx rfl (hb hby d2_47) (XS.goto X13.here hx rfl (pc0 := 48) (pc' := 52) rfl (hb hby d2_48) (by decide) (by decide) (XS.istore X13.here hx rfl (hb hby d2_52) rfl (l' := #[.val (.ref a1), .val (.ref a2), .val (.ref b1), .val (.int (1 : Int32)), .val (.int (2 : Int32)), .val (.int (3 : Int32)), .val (.int (1 : Int32))]) rfl (XS.aloadN X13.here hx rfl (hb hby d2_54) rfl rfl (XS.iload X13.here hx rfl (hb hby d2_55) rfl k)))))) ?_
        show GoW p e below QQ (T13.setTop (mkF m 57 #[.val (.ref a1), .val (.ref a2), .val (.ref b1), .val (.int (1 : Int32)), .val (.int (2 : Int32)), .val (.int (3 : Int32)), .val (.int (1 : Int32))] [(.int (3 : Int32)), (.ref b1)]))
        refine GoW.st (fun t k => XS.iload X13.here hx rfl (hb hby d2_57) rfl k) ?_
        show GoW p e below QQ (T13.setTop (mkF m 59 #[.val (.ref a1), .val (.ref a2), .val (.ref b1), .val (.int (1 : Int32)), .val (.int (2 : Int32)), .val (.int (3 : Int32)), .val (.int (1 : Int32))] [(.int (1 : Int32)), (.int (3 : Int32)), (.ref b1)]))
        have hc59_4 : ¬ ((1 : Int32) = (0 : Int32)) := by decide
        refine GoW.st (fun t k => XS.ifNo X13.here hx rfl (hb hby d2_59) rfl ((if0 _ _).trans (feq hc59_4).1) (XS.aloadN X13.here hx rfl (hb hby d2_62) rfl rfl (XS.iloadN X13.here hx rfl (hb hby d2_63) rfl (XS.iinc X13.here hx rfl (hb hby d2_64) rfl (l' := #[.val (.ref a1), .val (.ref a2), .val (.ref b1), .val (.int (2 : Int32)), .val (.int (2 : Int32)), .val (.int (3 : Int32)), .val (.int (1 : Int32))]) rfl (ldVJ X13 hx hZ e13 f14_V_a1 (v := (.long x1)) ⟨by decide, by decide⟩ rfl (g := (mkF m 67 #[.val (.ref a1), .val (.ref a2), .val (.ref b1), .val (.int (2 : Int32)), .val (.int (2 : Int32)), .val (.int (3 : Int32)), .val (.int (1 : Int32))] [(.int (1 : Int32)), (.ref a1), (.int (3 : Int32)), (.ref b1)])) rfl rfl (hb hby d2_67) t (XS.goto X13.here hx rfl (pc0 := 68) (pc' := 78) rfl (hb hby d2_68) (by decide) (by decide) k)))))) ?_
        show GoW p e below QQ (T13.setTop (mkF m 78 #[.val (.ref a1), .val (.ref a2), .val (.ref b1), .val (.int (2 : Int32)), .val (.int (2 : Int32)), .val (.int (3 : Int32)), .val (.int (1 : Int32))] [(.long x1), (.int (3 : Int32)), (.ref b1)]))
        obtain ⟨T15, h15, X15, e15, W15, V15, st15⟩ := stVJ X13 hx hZ e13 f14_V_b1 ⟨by decide, by decide⟩ 3 rfl (Nat.le_of_ble_eq_true rfl) (g := (mkF m 78 #[.val (.ref a1), .val (.ref a2), .val (.ref b1), .val (.int (2 : Int32)), .val (.int (2 : Int32)), .val (.int (3 : Int32)), .val (.int (1 : Int32))] [(.long x1), (.int (3 : Int32)), (.ref b1)])) rfl rfl (hb hby d2_78)
        refine GoW.st st15 ?_
        have f16_V_a1 : Arv Z h15 a1 ka .long (2 : Int32) [(.long x0), (.long x1)] (.long (0 : Int64)) := f14_V_a1.other W15 ne1_a1
        have f16_V_a2 : Arv Z h15 a2 kc .long (2 : Int32) [(.long y0), (.long y1)] (.long (0 : Int64)) := f14_V_a2.other W15 ne1_a2
        have f16_V_b1 : Arv Z h15 b1 k1 .long (4 : Int32) [(.long y0), (.long x0), (.long y1), (.long x1)] (.long (0 : Int64)) := V15
        have K15 : Keep h0 h15 [] := K13.wr W15 (Or.inr sz1)
        have N15 := Fr.snoc X15 N13 gg1
        show GoW p e below QQ (T15.setTop (mkF m 79 #[.val (.ref a1), .val (.ref a2), .val (.ref b1), .val (.int (2 : Int32)), .val (.int (2 : Int32)), .val (.int (3 : Int32)), .val (.int (1 : Int32))] []))
        refine GoW.st (fun t k => XS.iinc X15.here hx rfl (hb hby d2_79) rfl (l' := #[.val (.ref a1), .val (.ref a2), .val (.ref b1), .val (.int (2 : Int32)), .val (.int (2 : Int32)), .val (.int (4 : Int32)), .val (.int (1 : Int32))]) rfl (XS.goto X15.here hx rfl (pc0 := 82) (pc' := 16) rfl (hb hby d2_82) (by decide) (by decide) (XS.iload X15.here hx rfl (hb hby d2_16) rfl (XS.aloadN X15.here hx rfl (hb hby d2_18) rfl rfl (lnV X15 hx hZ e15 f16_V_b1 (g := (mkF m 19 #[.val (.ref a1), .val (.ref a2), .val (.ref b1), .val (.int (2 : Int32)), .val (.int (2 : Int32)), .val (.int (4 : Int32)), .val (.int (1 : Int32))] [(.ref b1), (.int (4 : Int32))])) rfl rfl (hb hby d2_19) t k))))) ?_
        show GoW p e below QQ (T15.setTop (mkF m 20 #[.val (.ref a1), .val (.ref a2), .val (.ref b1), .val (.int (2 : Int32)), .val (.int (2 : Int32)), .val (.int (4 : Int32)), .val (.int (1 : Int32))] [(.int (4 : Int32)), (.int (4 : Int32))]))
        have hc20_5 : ¬ ((4 : Int32) < (4 : Int32)) := by decide
        refine GoW.st (fun t k => XS.icmpYes X15.here hx rfl (pc0 := 20) (pc' := 85) rfl (hb hby d2_20) rfl (flt hc20_5).2.1 (by decide) (by decide) (XS.aloadN X15.here hx rfl (hb hby d2_85) rfl rfl k)) ?_
        show GoW p e below QQ (T15.setTop (mkF m 86 #[.val (.ref a1), .val (.ref a2), .val (.ref b1), .val (.int (2 : Int32)), .val (.int (2 : Int32)), .val (.int (4 : Int32)), .val (.int (1 : Int32))] [(.ref b1)]))
        exact GoW.fin X15 (some (.ref b1)) (fun q => by rw [hret] at q; cases q) hlk hQ e15 ⟨b1, k1, y0, x0, y1, x1, rfl, N15, K15, sz1, f16_V_b1, (by omega)⟩ (by decide) (by decide) (fun fs hr => retOut X15 hx hret rfl (Or.inr (Or.inr (Or.inr (Or.inr ⟨rfl, rfl, rfl⟩)))) (hb hby d2_86) hr)
      · skip
        refine GoW.st (fun t k => XS.ifNo X11.here hx rfl (hb hby d2_44) rfl ((if0 _ _).trans (flt (fun q => hc44_3 ((lw_gt x1 y1).mp q))).2.2.1) k) ?_
        show GoW p e below QQ (T11.setTop (mkF m 47 #[.val (.ref a1), .val (.ref a2), .val (.ref b1), .val (.int (1 : Int32)), .val (.int (1 : Int32)), .val (.int (2 : Int32)), .val (.int (1 : Int32))] []))
        have hi44_3 : ¬ (y1.toInt < x1.toInt) := (fun q => hc44_3 (Int64.lt_iff_toInt_lt.mpr q))
        refine GoW.st (fun t k => XS.iconst X11.here hx rfl (hb hby d2_47) (XS.goto X11.here hx rfl (pc0 := 48) (pc' := 52) rfl (hb hby d2_48) (by decide) (by decide) (XS.istore X11.here hx rfl (hb hby d2_52) rfl (l' := #[.val (.ref a1), .val (.ref a2), .val (.ref b1), .val (.int (1 : Int32)), .val (.int (1 : Int32)), .val (.int (2 : Int32)), .val (.int (1 : Int32))]) rfl (XS.aloadN X11.here hx rfl (hb hby d2_54) rfl rfl (XS.iload X11.here hx rfl (hb hby d2_55) rfl (XS.iload X11.here hx rfl (hb hby d2_57) rfl k)))))) ?_
        show GoW p e below QQ (T11.setTop (mkF m 59 #[.val (.ref a1), .val (.ref a2), .val (.ref b1), .val (.int (1 : Int32)), .val (.int (1 : Int32)), .val (.int (2 : Int32)), .val (.int (1 : Int32))] [(.int (1 : Int32)), (.int (2 : Int32)), (.ref b1)]))
        have hc59_3 : ¬ ((1 : Int32) = (0 : Int32)) := by decide
        refine GoW.st (fun t k => XS.ifNo X11.here hx rfl (hb hby d2_59) rfl ((if0 _ _).trans (feq hc59_3).1) (XS.aloadN X11.here hx rfl (hb hby d2_62) rfl rfl (XS.iloadN X11.here hx rfl (hb hby d2_63) rfl (XS.iinc X11.here hx rfl (hb hby d2_64) rfl (l' := #[.val (.ref a1), .val (.ref a2), .val (.ref b1), .val (.int (2 : Int32)), .val (.int (1 : Int32)), .val (.int (2 : Int32)), .val (.int (1 : Int32))]) rfl (ldVJ X11 hx hZ e11 f12_V_a1 (v := (.long x1)) ⟨by decide, by decide⟩ rfl (g := (mkF m 67 #[.val (.ref a1), .val (.ref a2), .val (.ref b1), .val (.int (2 : Int32)), .val (.int (1 : Int32)), .val (.int (2 : Int32)), .val (.int (1 : Int32))] [(.int (1 : Int32)), (.ref a1), (.int (2 : Int32)), (.ref b1)])) rfl rfl (hb hby d2_67) t (XS.goto X11.here hx rfl (pc0 := 68) (pc' := 78) rfl (hb hby d2_68) (by decide) (by decide) k)))))) ?_
        show GoW p e below QQ (T11.setTop (mkF m 78 #[.val (.ref a1), .val (.ref a2), .val (.ref b1), .val (.int (2 : Int32)), .val (.int (1 : Int32)), .val (.int (2 : Int32)), .val (.int (1 : Int32))] [(.long x1), (.int (2 : Int32)), (.ref b1)]))
        obtain ⟨T17, h17, X17, e17, W17, V17, st17⟩ := stVJ X11 hx hZ e11 f12_V_b1 ⟨by decide, by decide⟩ 2 rfl (Nat.le_of_ble_eq_true rfl) (g := (mkF m 78 #[.val (.ref a1), .val (.ref a2), .val (.ref b1), .val (.int (2 : Int32)), .val (.int (1 : Int32)), .val (.int (2 : Int32)), .val (.int (1 : Int32))] [(.long x1), (.int (2 : Int32)), (.ref b1)])) rfl rfl (hb hby d2_78)
        refine GoW.st st17 ?_
        have f18_V_a1 : Arv Z h17 a1 ka .long (2 : Int32) [(.long x0), (.long x1)] (.long (0 : Int64)) := f12_V_a1.other W17 ne1_a1
        have f18_V_a2 : Arv Z h17 a2 kc .long (2 : Int32) [(.long y0), (.long y1)] (.long (0 : Int64)) := f12_V_a2.other W17 ne1_a2
        have f18_V_b1 : Arv Z h17 b1 k1 .long (4 : Int32) [(.long y0), (.long x0), (.long x1), (.long (0 : Int64))] (.long (0 : Int64)) := V17
        have K17 : Keep h0 h17 [] := K11.wr W17 (Or.inr sz1)
        have N17 := Fr.snoc X17 N11 gg1
        show GoW p e below QQ (T17.setTop (mkF m 79 #[.val (.ref a1), .val (.ref a2), .val (.ref b1), .val (.int (2 : Int32)), .val (.int (1 : Int32)), .val (.int (2 : Int32)), .val (.int (1 : Int32))] []))
        refine GoW.st (fun t k => XS.iinc X17.here hx rfl (hb hby d2_79) rfl (l' := #[.val (.ref a1), .val (.ref a2), .val (.ref b1), .val (.int (2 : Int32)), .val (.int (1 : Int32)), .val (.int (3 : Int32)), .val (.int (1 : Int32))]) rfl (XS.goto X17.here hx rfl (pc0 := 82) (pc' := 16) rfl (hb hby d2_82) (by decide) (by decide) (XS.iload X17.here hx rfl (hb hby d2_16) rfl (XS.aloadN X17.here hx rfl (hb hby d2_18) rfl rfl (lnV X17 hx hZ e17 f18_V_b1 (g := (mkF m 19 #[.val (.ref a1), .val (.ref a2), .val (.ref b1), .val (.int (2 : Int32)), .val (.int (1 : Int32)), .val (.int (3 : Int32)), .val (.int (1 : Int32))] [(.ref b1), (.int (3 : Int32))])) rfl rfl (hb hby d2_19) t k))))) ?_
        show GoW p e below QQ (T17.setTop (mkF m 20 #[.val (.ref a1), .val (.ref a2), .val (.ref b1), .val (.int (2 : Int32)), .val (.int (1 : Int32)), .val (.int (3 : Int32)), .val (.int (1 : Int32))] [(.int (4 : Int32)), (.int (3 : Int32))]))
        have hc20_4 : (3 : Int32) < (4 : Int32) := by decide
        refine GoW.st (fun t k => XS.icmpNo X17.here hx rfl (hb hby d2_20) rfl (tlt hc20_4).2.1 (XS.iload X17.here hx rfl (hb hby d2_23) rfl (XS.aloadN X17.here hx rfl (hb hby d2_25) rfl rfl (lnV X17 hx hZ e17 f18_V_a2 (g := (mkF m 26 #[.val (.ref a1), .val (.ref a2), .val (.ref b1), .val (.int (2 : Int32)), .val (.int (1 : Int32)), .val (.int (3 : Int32)), .val (.int (1 : Int32))] [(.ref a2), (.int (1 : Int32))])) rfl rfl (hb hby d2_26) t k)))) ?_
        show GoW p e below QQ (T17.setTop (mkF m 27 #[.val (.ref a1), .val (.ref a2), .val (.ref b1), .val (.int (2 : Int32)), .val (.int (1 : Int32)), .val (.int (3 : Int32)), .val (.int (1 : Int32))] [(.int (2 : Int32)), (.int (1 : Int32))]))
        have hc27_4 : ¬ ((1 : Int32) = (2 : Int32)) := by decide
        refine GoW.st (fun t k => XS.icmpNo X17.here hx rfl (hb hby d2_27) rfl (feq hc27_4).1 (XS.iloadN X17.here hx rfl (hb hby d2_30) rfl (XS.aloadN X17.here hx rfl (hb hby d2_31) rfl rfl (lnV X17 hx hZ e17 f18_V_a1 (g := (mkF m 32 #[.val (.ref a1), .val (.ref a2), .val (.ref b1), .val (.int (2 : Int32)), .val (.int (1 : Int32)), .val (.int (3 : Int32)), .val (.int (1 : Int32))] [(.ref a1), (.int (2 : Int32))])) rfl rfl (hb hby d2_32) t k)))) ?_
        show GoW p e below QQ (T17.setTop (mkF m 33 #[.val (.ref a1), .val (.ref a2), .val (.ref b1), .val (.int (2 : Int32)), .val (.int (1 : Int32)), .val (.int (3 : Int32)), .val (.int (1 : Int32))] [(.int (2 : Int32)), (.int (2 : Int32))]))
        have hc33_4 : ¬ ((2 : Int32) < (2 : Int32)) := by decide
        refine GoW.st (fun t k => XS.icmpYes X17.here hx rfl (pc0 := 33) (pc' := 51) rfl (hb hby d2_33) rfl (flt hc33_4).2.1 (by decide) (by decide) (XS.iconst X17.here hx rfl (hb hby d2_51) (XS.istore X17.here hx rfl (hb hby d2_52) rfl (l' := #[.val (.ref a1), .val (.ref a2), .val (.ref b1), .val (.int (2 : Int32)), .val (.int (1 : Int32)), .val (.int (3 : Int32)), .val (.int (0 : Int32))]) rfl (XS.aloadN X17.here hx rfl (hb hby d2_54) rfl rfl (XS.iload X17.here hx rfl (hb hby d2_55) rfl (XS.iload X17.here hx rfl (hb hby d2_57) rfl k)))))) ?_
        show GoW p e below QQ (T17.setTop (mkF m 59 #[.val (.ref a1), .val (.ref a2), .val (.ref b1), .val (.int (2 : Int32)), .val (.int (1 : Int32)), .val (.int (3 : Int32)), .val (.int (0 : Int32))] [(.int (0 : Int32)), (.int (3 : Int32)), (.ref b1)]))
        have hc59_4 : (0 : Int32) = (0 : Int32) := by decide
        refine GoW.st (fun t k => XS.ifYes X17.here hx rfl (pc0 := 59) (pc' := 71) rfl (hb hby d2_59) rfl ((if0 _ _).trans (teq hc59_4).1) (by decide) (by decide) (XS.aloadN X17.here hx rfl (hb hby d2_71) rfl rfl (XS.iload X17.here hx rfl (hb hby d2_72) rfl (XS.iinc X17.here hx rfl (hb hby d2_74) rfl (l' := #[.val (.ref a1), .val (.ref a2), .val (.ref b1), .val (.int (2 : Int32)), .val (.int (2 : Int32)), .val (.int (3 : Int32)), .val (.int (0 : Int32))]) rfl (ldVJ X17 hx hZ e17 f18_V_a2 (v := (.long y1)) ⟨by decide, by decide⟩ rfl (g := (mkF m 77 #[.val (.ref a1), .val (.ref a2), .val (.ref b1), .val (.int (2 : Int32)), .val (.int (2 : Int32)), .val (.int (3 : Int32)), .val (.int (0 : Int32))] [(.int (1 : Int32)), (.ref a2), (.int (3 : Int32)), (.ref b1)])) rfl rfl (hb hby d2_77) t k))))) ?_
        show GoW p e below QQ (T17.setTop (mkF m 78 #[.val (.ref a1), .val (.ref a2), .val (.ref b1), .val (.int (2 : Int32)), .val (.int (2 : Int32)), .val (.int (3 : Int32)), .val (.int (0 : Int32))] [(.long y1), (.int (3 : Int32)), (.ref b1)]))
        obtain ⟨T19, h19, X19, e19, W19, V19, st19⟩ := stVJ X17 hx hZ e17 f18_V_b1 ⟨by decide, by decide⟩ 3 rfl (Nat.le_of_ble_eq_true rfl) (g := (mkF m 78 #[.val (.ref a1), .val (.ref a2), .val (.ref b1), .val (.int (2 : Int32)), .val (.int (2 : Int32)), .val (.int (3 : Int32)), .val (.int (0 : Int32))] [(.long y1), (.int (3 : Int32)), (.ref b1)])) rfl rfl (hb hby d2_78)
        refine GoW.st st19 ?_
        have f20_V_a1 : Arv Z h19 a1 ka .long (2 : Int32) [(.long x0), (.long x1)] (.long (0 : Int64)) := f18_V_a1.other W19 ne1_a1
        have f20_V_a2 : Arv Z h19 a2 kc .long (2 : Int32) [(.long y0), (.long y1)] (.long (0 : Int64)) := f18_V_a2.other W19 ne1_a2
        have f20_V_b1 : Arv Z h19 b1 k1 .long (4 : Int32) [(.long y0), (.long x0), (.long x1), (.long y1)] (.long (0 : Int64)) := V19
        have K19 : Keep h0 h19 [] := K17.wr W19 (Or.inr sz1)
        have N19 := Fr.snoc X19 N17 gg1
        show GoW p e below QQ (T19.setTop (mkF m 79 #[.val (.ref a1), .val (.ref a2), .val (.ref b1), .val (.int (2 : Int32)), .val (.int (2 : Int32)), .val (.int (3 : Int32)), .val (.int (0 : Int32))] []))
        refine GoW.st (fun t k => XS.iinc X19.here hx rfl (hb hby d2_79) rfl (l' := #[.val (.ref a1), .val (.ref a2), .val (.ref b1), .val (.int (2 : Int32)), .val (.int (2 : Int32)), .val (.int (4 : Int32)), .val (.int (0 : Int32))]) rfl (XS.goto X19.here hx rfl (pc0 := 82) (pc' := 16) rfl (hb hby d2_82) (by decide) (by decide) (XS.iload X19.here hx rfl (hb hby d2_16) rfl (XS.aloadN X19.here hx rfl (hb hby d2_18) rfl rfl (lnV X19 hx hZ e19 f20_V_b1 (g := (mkF m 19 #[.val (.ref a1), .val (.ref a2), .val (.ref b1), .val (.int (2 : Int32)), .val (.int (2 : Int32)), .val (.int (4 : Int32)), .val (.int (0 : Int32))] [(.ref b1), (.int (4 : Int32))])) rfl rfl (hb hby d2_19) t k))))) ?_
        show GoW p e below QQ (T19.setTop (mkF m 20 #[.val (.ref a1), .val (.ref a2), .val (.ref b1), .val (.int (2 : Int32)), .val (.int (2 : Int32)), .val (.int (4 : Int32)), .val (.int (0 : Int32))] [(.int (4 : Int32)), (.int (4 : Int32))]))
        have hc20_5 : ¬ ((4 : Int32) < (4 : Int32)) := by decide
        refine GoW.st (fun t k => XS.icmpYes X19.here hx rfl (pc0 := 20) (pc' := 85) rfl (hb hby d2_20) rfl (flt hc20_5).2.1 (by decide) (by decide) (XS.aloadN X19.here hx rfl (hb hby d2_85) rfl rfl k)) ?_
        show GoW p e below QQ (T19.setTop (mkF m 86 #[.val (.ref a1), .val (.ref a2), .val (.ref b1), .val (.int (2 : Int32)), .val (.int (2 : Int32)), .val (.int (4 : Int32)), .val (.int (0 : Int32))] [(.ref b1)]))
        exact GoW.fin X19 (some (.ref b1)) (fun q => by rw [hret] at q; cases q) hlk hQ e19 ⟨b1, k1, y0, x0, x1, y1, rfl, N19, K19, sz1, f20_V_b1, (by omega)⟩ (by decide) (by decide) (fun fs hr => retOut X19 hx hret rfl (Or.inr (Or.inr (Or.inr (Or.inr ⟨rfl, rfl, rfl⟩)))) (hb hby d2_86) hr)
  · skip
    refine GoW.st (fun t k => XS.ifNo X1.here hx rfl (hb hby d2_44) rfl ((if0 _ _).trans (flt (fun q => hc44 ((lw_gt x0 y0).mp q))).2.2.1) k) ?_
    show GoW p e below QQ (T1.setTop (mkF m 47 #[.val (.ref a1), .val (.ref a2), .val (.ref b1), .val (.int (0 : Int32)), .val (.int (0 : Int32)), .val (.int (0 : Int32)), .unset] []))
    have hi44 : ¬ (y0.toInt < x0.toInt) := (fun q => hc44 (Int64.lt_iff_toInt_lt.mpr q))
    refine GoW.st (fun t k => XS.iconst X1.here hx rfl (hb hby d2_47) (XS.goto X1.here hx rfl (pc0 := 48) (pc' := 52) rfl (hb hby d2_48) (by decide) (by decide) (XS.istore X1.here hx rfl (hb hby d2_52) rfl (l' := #[.val (.ref a1), .val (.ref a2), .val (.ref b1), .val (.int (0 : Int32)), .val (.int (0 : Int32)), .val (.int (0 : Int32)), .val (.int (1 : Int32))]) rfl (XS.aloadN X1.here hx rfl (hb hby d2_54) rfl rfl (XS.iload X1.here hx rfl (hb hby d2_55) rfl (XS.iload X1.here hx rfl (hb hby d2_57) rfl k)))))) ?_
    show GoW p e below QQ (T1.setTop (mkF m 59 #[.val (.ref a1), .val (.ref a2), .val (.ref b1), .val (.int (0 : Int32)), .val (.int (0 : Int32)), .val (.int (0 : Int32)), .val (.int (1 : Int32))] [(.int (1 : Int32)), (.int (0 : Int32)), (.ref b1)]))
    have hc59 : ¬ ((1 : Int32) = (0 : Int32)) := by decide
    refine GoW.st (fun t k => XS.ifNo X1.here hx rfl (hb hby d2_59) rfl ((if0 _ _).trans (feq hc59).1) (XS.aloadN X1.here hx rfl (hb hby d2_62) rfl rfl (XS.iloadN X1.here hx rfl (hb hby d2_63) rfl (XS.iinc X1.here hx rfl (hb hby d2_64) rfl (l' := #[.val (.ref a1), .val (.ref a2), .val (.ref b1), .val (.int (1 : Int32)), .val (.int (0 : Int32)), .val (.int (0 : Int32)), .val (.int (1 : Int32))]) rfl (ldVJ X1 hx hZ e1 f2_V_a1 (v := (.long x0)) ⟨by decide, by decide⟩ rfl (g := (mkF m 67 #[.val (.ref a1), .val (.ref a2), .val (.ref b1), .val (.int (1 : Int32)), .val (.int (0 : Int32)), .val (.int (0 : Int32)), .val (.int (1 : Int32))] [(.int (0 : Int32)), (.ref a1), (.int (0 : Int32)), (.ref b1)])) rfl rfl (hb hby d2_67) t (XS.goto X1.here hx rfl (pc0 := 68) (pc' := 78) rfl (hb hby d2_68) (by decide) (by decide) k)))))) ?_
    show GoW p e below QQ (T1.setTop (mkF m 78 #[.val (.ref a1), .val (.ref a2), .val (.ref b1), .val (.int (1 : Int32)), .val (.int (0 : Int32)), .val (.int (0 : Int32)), .val (.int (1 : Int32))] [(.long x0), (.int (0 : Int32)), (.ref b1)]))
    obtain ⟨T21, h21, X21, e21, W21, V21, st21⟩ := stVJ X1 hx hZ e1 V1 ⟨by decide, by decide⟩ 0 rfl (Nat.le_of_ble_eq_true rfl) (g := (mkF m 78 #[.val (.ref a1), .val (.ref a2), .val (.ref b1), .val (.int (1 : Int32)), .val (.int (0 : Int32)), .val (.int (0 : Int32)), .val (.int (1 : Int32))] [(.long x0), (.int (0 : Int32)), (.ref b1)])) rfl rfl (hb hby d2_78)
    refine GoW.st st21 ?_
    have f22_V_a1 : Arv Z h21 a1 ka .long (2 : Int32) [(.long x0), (.long x1)] (.long (0 : Int64)) := f2_V_a1.other W21 ne1_a1
    have f22_V_a2 : Arv Z h21 a2 kc .long (2 : Int32) [(.long y0), (.long y1)] (.long (0 : Int64)) := f2_V_a2.other W21 ne1_a2
    have f22_V_b1 : Arv Z h21 b1 k1 .long (4 : Int32) [(.long x0), (.long (0 : Int64)), (.long (0 : Int64)), (.long (0 : Int64))] (.long (0 : Int64)) := V21
    have K21 : Keep h0 h21 [] := K1.wr W21 (Or.inr sz1)
    have N21 := Fr.snoc X21 N0 gg1
    show GoW p e below QQ (T21.setTop (mkF m 79 #[.val (.ref a1), .val (.ref a2), .val (.ref b1), .val (.int (1 : Int32)), .val (.int (0 : Int32)), .val (.int (0 : Int32)), .val (.int (1 : Int32))] []))
    refine GoW.st (fun t k => XS.iinc X21.here hx rfl (hb hby d2_79) rfl (l' := #[.val (.ref a1), .val (.ref a2), .val (.ref b1), .val (.int (1 : Int32)), .val (.int (0 : Int32)), .val (.int (1 : Int32)), .val (.int (1 : Int32))]) rfl (XS.goto X21.here hx rfl (pc0 := 82) (pc' := 16) rfl (hb hby d2_82) (by decide) (by decide) (XS.iload X21.here hx rfl (hb hby d2_16) rfl (XS.aloadN X21.here hx rfl (hb hby d2_18) rfl rfl (lnV X21 hx hZ e21 f22_V_b1 (g := (mkF m 19 #[.val (.ref a1), .val (.ref a2), .val (.ref b1), .val (.int (1 : Int32)), .val (.int (0 : Int32)), .val (.int (1 : Int32)), .val (.int (1 : Int32))] [(.ref b1), (.int (1 : Int32))])) rfl rfl (hb hby d2_19) t k))))) ?_
    show GoW p e below QQ (T21.setTop (mkF m 20 #[.val (.ref a1), .val (.ref a2), .val (.ref b1), .val (.int (1 : Int32)), .val (.int (0 : Int32)), .val (.int (1 : Int32)), .val (.int (1 : Int32))] [(.int (4 : Int32)), (.int (1 : Int32))]))
    have hc20_2 : (1 : Int32) < (4 : Int32) := by decide
    refine GoW.st (fun t k => XS.icmpNo X21.here hx rfl (hb hby d2_20) rfl (tlt hc20_2).2.1 (XS.iload X21.here hx rfl (hb hby d2_23) rfl (XS.aloadN X21.here hx rfl (hb hby d2_25) rfl rfl (lnV X21 hx hZ e21 f22_V_a2 (g := (mkF m 26 #[.val (.ref a1), .val (.ref a2), .val (.ref b1), .val (.int (1 : Int32)), .val (.int (0 : Int32)), .val (.int (1 : Int32)), .val (.int (1 : Int32))] [(.ref a2), (.int (0 : Int32))])) rfl rfl (hb hby d2_26) t k)))) ?_
    show GoW p e below QQ (T21.setTop (mkF m 27 #[.val (.ref a1), .val (.ref a2), .val (.ref b1), .val (.int (1 : Int32)), .val (.int (0 : Int32)), .val (.int (1 : Int32)), .val (.int (1 : Int32))] [(.int (2 : Int32)), (.int (0 : Int32))]))
    have hc27_2 : ¬ ((0 : Int32) = (2 : Int32)) := by decide
    refine GoW.st (fun t k => XS.icmpNo X21.here hx rfl (hb hby d2_27) rfl (feq hc27_2).1 (XS.iloadN X21.here hx rfl (hb hby d2_30) rfl (XS.aloadN X21.here hx rfl (hb hby d2_31) rfl rfl (lnV X21 hx hZ e21 f22_V_a1 (g := (mkF m 32 #[.val (.ref a1), .val (.ref a2), .val (.ref b1), .val (.int (1 : Int32)), .val (.int (0 : Int32)), .val (.int (1 : Int32)), .val (.int (1 : Int32))] [(.ref a1), (.int (1 : Int32))])) rfl rfl (hb hby d2_32) t k)))) ?_
    show GoW p e below QQ (T21.setTop (mkF m 33 #[.val (.ref a1), .val (.ref a2), .val (.ref b1), .val (.int (1 : Int32)), .val (.int (0 : Int32)), .val (.int (1 : Int32)), .val (.int (1 : Int32))] [(.int (2 : Int32)), (.int (1 : Int32))]))
    have hc33_2 : (1 : Int32) < (2 : Int32) := by decide
    refine GoW.st (fun t k => XS.icmpNo X21.here hx rfl (hb hby d2_33) rfl (tlt hc33_2).2.1 (XS.aloadN X21.here hx rfl (hb hby d2_36) rfl rfl (XS.iloadN X21.here hx rfl (hb hby d2_37) rfl (ldVJ X21 hx hZ e21 f22_V_a1 (v := (.long x1)) ⟨by decide, by decide⟩ rfl (g := (mkF m 38 #[.val (.ref a1), .val (.ref a2), .val (.ref b1), .val (.int (1 : Int32)), .val (.int (0 : Int32)), .val (.int (1 : Int32)), .val (.int (1 : Int32))] [(.int (1 : Int32)), (.ref a1)])) rfl rfl (hb hby d2_38) t (XS.aloadN X21.here hx rfl (hb hby d2_39) rfl rfl (XS.iload X21.here hx rfl (hb hby d2_40) rfl k)))))) ?_
    show GoW p e below QQ (T21.setTop (mkF m 42 #[.val (.ref a1), .val (.ref a2), .val (.ref b1), .val (.int (1 : Int32)), .val (.int (0 : Int32)), .val (.int (1 : Int32)), .val (.int (1 : Int32))] [(.int (0 : Int32)), (.ref a2), (.long x1)]))
    refine GoW.st (fun t k => ldVJ X21 hx hZ e21 f22_V_a2 (v := (.long y0)) ⟨by decide, by decide⟩ rfl (g := (mkF m 42 #[.val (.ref a1), .val (.ref a2), .val (.ref b1), .val (.int (1 : Int32)), .val (.int (0 : Int32)), .val (.int (1 : Int32)), .val (.int (1 : Int32))] [(.int (0 : Int32)), (.ref a2), (.long x1)])) rfl rfl (hb hby d2_42) t (XS.lcmp X21.here hx rfl (hb hby d2_43) rfl k)) ?_
    show GoW p e below QQ (T21.setTop (mkF m 44 #[.val (.ref a1), .val (.ref a2), .val (.ref b1), .val (.int (1 : Int32)), .val (.int (0 : Int32)), .val (.int (1 : Int32)), .val (.int (1 : Int32))] [(.int (lcmpW x1 y0))]))
    by_cases hc44_2 : y0 < x1
    · skip
      refine GoW.st (fun t k => XS.ifYes X21.here hx rfl (pc0 := 44) (pc' := 51) rfl (hb hby d2_44) rfl ((if0 _ _).trans (tlt ((lw_gt x1 y0).mpr hc44_2)).2.2.1) (by decide) (by decide) k) ?_
      show GoW p e below QQ (T21.setTop (mkF m 51 #[.val (.ref a1), .val (.ref a2), .val (.ref b1), .val (.int (1 : Int32)), .val (.int (0 : Int32)), .val (.int (1 : Int32)), .val (.int (1 : Int32))] []))
      have hi44_2 : y0.toInt < x1.toInt := (Int64.lt_iff_toInt_lt.mp hc44_2)
      refine GoW.st (fun t k => XS.iconst X21.here hx rfl (hb hby d2_51) (XS.istore X21.here hx rfl (hb hby d2_52) rfl (l' := #[.val (.ref a1), .val (.ref a2), .val (.ref b1), .val (.int (1 : Int32)), .val (.int (0 : Int32)), .val (.int (1 : Int32)), .val (.int (0 : Int32))]) rfl (XS.aloadN X21.here hx rfl (hb hby d2_54) rfl rfl (XS.iload X21.here hx rfl (hb hby d2_55) rfl (XS.iload X21.here hx rfl (hb hby d2_57) rfl k))))) ?_
      show GoW p e below QQ (T21.setTop (mkF m 59 #[.val (.ref a1), .val (.ref a2), .val (.ref b1), .val (.int (1 : Int32)), .val (.int (0 : Int32)), .val (.int (1 : Int32)), .val (.int (0 : Int32))] [(.int (0 : Int32)), (.int (1 : Int32)), (.ref b1)]))
      have hc59_2 : (0 : Int32) = (0 : Int32) := by decide
      refine GoW.st (fun t k => XS.ifYes X21.here hx rfl (pc0 := 59) (pc' := 71) rfl (hb hby d2_59) rfl ((if0 _ _).trans (teq hc59_2).1) (by decide) (by decide) (XS.aloadN X21.here hx rfl (hb hby d2_71) rfl rfl (XS.iload X21.here hx rfl (hb hby d2_72) rfl (XS.iinc X21.here hx rfl (hb hby d2_74) rfl (l' := #[.val (.ref a1), .val (.ref a2), .val (.ref b1), .val (.int (1 : Int32)), .val (.int (1 : Int32)), .val (.int (1 : Int32)), .val (.int (0 : Int32))]) rfl (ldVJ X21 hx hZ e21 f22_V_a2 (v := (.long y0)) ⟨by decide, by decide⟩ rfl (g := (mkF m 77 #[.val (.ref a1), .val (.ref a2), .val (.ref b1), .val (.int (1 : Int32)), .val (.int (1 : Int32)), .val (.int (1 : Int32)), .val (.int (0 : Int32))] [(.int (0 : Int32)), (.ref a2), (.int (1 : Int32)), (.ref b1)])) rfl rfl (hb hby d2_77) t k))))) ?_
      show GoW p e below QQ (T21.setTop (mkF m 78 #[.val (.ref a1), .val (.ref a2), .val (.ref b1), .val (.int (1 : Int32)), .val (.int (1 : Int32)), .val (.int (1 : Int32)), .val (.int (0 : Int32))] [(.long y0), (.int (1 : Int32)), (.ref b1)]))
      obtain ⟨T23, h23, X23, e23, W23, V23, st23⟩ := stVJ X21 hx hZ e21 f22_V_b1 ⟨by decide, by decide⟩ 1 rfl (Nat.le_of_ble_eq_true rfl) (g := (mkF m 78 #[.val (.ref a1), .val (.ref a2), .val (.ref b1), .val (.int (1 : Int32)), .val (.int (1 : Int32)), .val (.int (1 : Int32)), .val (.int (0 : Int32))] [(.long y0), (.int (1 : Int32)), (.ref b1)])) rfl rfl (hb hby d2_78)
      refine GoW.st st23 ?_
      have f24_V_a1 : Arv Z h23 a1 ka .long (2 : Int32) [(.long x0), (.long x1)] (.long (0 : Int64)) := f22_V_a1.other W23 ne1_a1
      have f24_V_a2 : Arv Z h23 a2 kc .long (2 : Int32) [(.long y0), (.long y1)] (.long (0 : Int64)) := f22_V_a2.other W23 ne1_a2
      have f24_V_b1 : Arv Z h23 b1 k1 .long (4 : Int32) [(.long x0), (.long y0), (.long (0 : Int64)), (.long (0 : Int64))] (.long (0 : Int64)) := V23
      have K23 : Keep h0 h23 [] := K21.wr W23 (Or.inr sz1)
      have N23 := Fr.snoc X23 N21 gg1
      show GoW p e below QQ (T23.setTop (mkF m 79 #[.val (.ref a1), .val (.ref a2), .val (.ref b1), .val (.int (1 : Int32)), .val (.int (1 : Int32)), .val (.int (1 : Int32)), .val (.int (0 : Int32))] []))
      refine GoW.st (fun t k => XS.iinc X23.here hx rfl (hb hby d2_79) rfl (l' := #[.val (.ref a1), .val (.ref a2), .val (.ref b1), .val (.int (1 : Int32)), .val (.int (1 : Int32)), .val (.int (2 : Int32)), .val (.int (0 : Int32))]) rfl (XS.goto X23.here hx rfl (pc0 := 82) (pc' := 16) rfl (hb hby d2_82) (by decide) (by decide) (XS.iload X23.here hx rfl (hb hby d2_16) rfl (XS.aloadN X23.here hx rfl (hb hby d2_18) rfl rfl (lnV X23 hx hZ e23 f24_V_b1 (g := (mkF m 19 #[.val (.ref a1), .val (.ref a2), .val (.ref b1), .val (.int (1 : Int32)), .val (.int (1 : Int32)), .val (.int (2 : Int32)), .val (.int (0 : Int32))] [(.ref b1), (.int (2 : Int32))])) rfl rfl (hb hby d2_19) t k))))) ?_
      show GoW p e below QQ (T23.setTop (mkF m 20 #[.val (.ref a1), .val (.ref a2), .val (.ref b1), .val (.int (1 : Int32)), .val (.int (1 : Int32)), .val (.int (2 : Int32)), .val (.int (0 : Int32))] [(.int (4 : Int32)), (.int (2 : Int32))]))
      have hc20_3 : (2 : Int32) < (4 : Int32) := by decide
      refine GoW.st (fun t k => XS.icmpNo X23.here hx rfl (hb hby d2_20) rfl (tlt hc20_3).2.1 (XS.iload X23.here hx rfl (hb hby d2_23) rfl (XS.aloadN X23.here hx rfl (hb hby d2_25) rfl rfl (lnV X23 hx hZ e23 f24_V_a2 (g := (mkF m 26 #[.val (.ref a1), .val (.ref a2), .val (.ref b1), .val (.int (1 : Int32)), .val (.int (1 : Int32)), .val (.int (2 : Int32)), .val (.int (0 : Int32))] [(.ref a2), (.int (1 : Int32))])) rfl rfl (hb hby d2_26) t k)))) ?_
      show GoW p e below QQ (T23.setTop (mkF m 27 #[.val (.ref a1), .val (.ref a2), .val (.ref b1), .val (.int (1 : Int32)), .val (.int (1 : Int32)), .val (.int (2 : Int32)), .val (.int (0 : Int32))] [(.int (2 : Int32)), (.int (1 : Int32))]))
      have hc27_3 : ¬ ((1 : Int32) = (2 : Int32)) := by decide
      refine GoW.st (fun t k => XS.icmpNo X23.here hx rfl (hb hby d2_27) rfl (feq hc27_3).1 (XS.iloadN X23.here hx rfl (hb hby d2_30) rfl (XS.aloadN X23.here hx rfl (hb hby d2_31) rfl rfl (lnV X23 hx hZ e23 f24_V_a1 (g := (mkF m 32 #[.val (.ref a1), .val (.ref a2), .val (.ref b1), .val (.int (1 : Int32)), .val (.int (1 : Int32)), .val (.int (2 : Int32)), .val (.int (0 : Int32))] [(.ref a1), (.int (1 : Int32))])) rfl rfl (hb hby d2_32) t k)))) ?_
      show GoW p e below QQ (T23.setTop (mkF m 33 #[.val (.ref a1), .val (.ref a2), .val (.ref b1), .val (.int (1 : Int32)), .val (.int (1 : Int32)), .val (.int (2 : Int32)), .val (.int (0 : Int32))] [(.int (2 : Int32)), (.int (1 : Int32))]))
      have hc33_3 : (1 : Int32) < (2 : Int32) := by decide
      refine GoW.st (fun t k => XS.icmpNo X23.here hx rfl (hb hby d2_33) rfl (tlt hc33_3).2.1 (XS.aloadN X23.here hx rfl (hb hby d2_36) rfl rfl (XS.iloadN X23.here hx rfl (hb hby d2_37) rfl (ldVJ X23 hx hZ e23 f24_V_a1 (v := (.long x1)) ⟨by decide, by decide⟩ rfl (g := (mkF m 38 #[.val (.ref a1), .val (.ref a2), .val (.ref b1), .val (.int (1 : Int32)), .val (.int (1 : Int32)), .val (.int (2 : Int32)), .val (.int (0 : Int32))] [(.int (1 : Int32)), (.ref a1)])) rfl rfl (hb hby d2_38) t (XS.aloadN X23.here hx rfl (hb hby d2_39) rfl rfl (XS.iload X23.here hx rfl (hb hby d2_40) rfl k)))))) ?_
      show GoW p e below QQ (T23.setTop (mkF m 42 #[.val (.ref a1), .val (.ref a2), .val (.ref b1), .val (.int (1 : Int32)), .val (.int (1 : Int32)), .val (.int (2 : Int32)), .val (.int (0 : Int32))] [(.int (1 : Int32)), (.ref a2), (.long x1)]))
      refine GoW.st (fun t k => ldVJ X23 hx hZ e23 f24_V_a2 (v := (.long y1)) ⟨by decide, by decide⟩ rfl (g := (mkF m 42 #[.val (.ref a1), .val (.ref a2), .val (.ref b1), .val (.int (1 : Int32)), .val (.int (1 : Int32)), .val (.int (2 : Int32)), .val (.int (0 : Int32))] [(.int (1 : Int32)), (.ref a2), (.long x1)])) rfl rfl (hb hby d2_42) t (XS.lcmp X23.here hx rfl (hb hby d2_43) rfl k)) ?_
      show GoW p e below QQ (T23.setTop (mkF m 44 #[.val (.ref a1), .val (.ref a2), .val (.ref b1), .val (.int (1 : Int32)), .val (.int (1 : Int32)), .val (.int (2 : Int32)), .val (.int (0 : Int32))] [(.int (lcmpW x1 y1))]))
      by_cases hc44_3 : y1 < x1
      · skip
        refine GoW.st (fun t k => XS.ifYes X23.here hx rfl (pc0 := 44) (pc' := 51) rfl (hb hby d2_44) rfl ((if0 _ _).trans (tlt ((lw_gt x1 y1).mpr hc44_3)).2.2.1) (by decide) (by decide) k) ?_
        show GoW p e below QQ (T23.setTop (mkF m 51 #[.val (.ref a1), .val (.ref a2), .val (.ref b1), .val (.int (1 : Int32)), .val (.int (1 : Int32)), .val (.int (2 : Int32)), .val (.int (0 : Int32))] []))
        have hi44_3 : y1.toInt < x1.toInt := (Int64.lt_iff_toInt_lt.mp hc44_3)
        refine GoW.st (fun t k => XS.iconst X23.here hx rfl (hb hby d2_51) (XS.istore X23.here hx rfl (hb hby d2_52) rfl (l' := #[.val (.ref a1), .val (.ref a2), .val (.ref b1), .val (.int (1 : Int32)), .val (.int (1 : Int32)), .val (.int (2 : Int32)), .val (.int (0 : Int32))]) rfl (XS.aloadN X23.here hx rfl (hb hby d2_54) rfl rfl (XS.iload X23.here hx rfl (hb hby d2_55) rfl (XS.iload X23.here hx rfl (hb hby d2_57) rfl k))))) ?_
        show GoW p e below QQ (T23.setTop (mkF m 59 #[.val (.ref a1), .val (.ref a2), .val (.ref b1), .val (.int (1 : Int32)), .val (.int (1 : Int32)), .val (.int (2 : Int32)), .val (.int (0 : Int32))] [(.int (0 : Int32)), (.int (2 : Int32)), (.ref b1)]))
        have hc59_3 : (0 : Int32) = (0 : Int32) := by decide
        refine GoW.st (fun t k => XS.ifYes X23.here hx rfl (pc0 := 59) (pc' := 71) rfl (hb hby d2_59) rfl ((if0 _ _).trans (teq hc59_3).1) (by decide) (by decide) (XS.aloadN X23.here hx rfl (hb hby d2_71) rfl rfl (XS.iload X23.here hx rfl (hb hby d2_72) rfl (XS.iinc X23.here hx rfl (hb hby d2_74) rfl (l' := #[.val (.ref a1), .val (.ref a2), .val (.ref b1), .val (.int (1 : Int32)), .val (.int (2 : Int32)), .val (.int (2 : Int32)), .val (.int (0 : Int32))]) rfl (ldVJ X23 hx hZ e23 f24_V_a2 (v := (.long y1)) ⟨by decide, by decide⟩ rfl (g := (mkF m 77 #[.val (.ref a1), .val (.ref a2), .val (.ref b1), .val (.int (1 : Int32)), .val (.int (2 : Int32)), .val (.int (2 : Int32)), .val (.int (0 : Int32))] [(.int (1 : Int32)), (.ref a2), (.int (2 : Int32)), (.ref b1)])) rfl rfl (hb hby d2_77) t k))))) ?_
        show GoW p e below QQ (T23.setTop (mkF m 78 #[.val (.ref a1), .val (.ref a2), .val (.ref b1), .val (.int (1 : Int32)), .val (.int (2 : Int32)), .val (.int (2 : Int32)), .val (.int (0 : Int32))] [(.long y1), (.int (2 : Int32)), (.ref b1)]))
        obtain ⟨T25, h25, X25, e25, W25, V25, st25⟩ := stVJ X23 hx hZ e23 f24_V_b1 ⟨by decide, by decide⟩ 2 rfl (Nat.le_of_ble_eq_true rfl) (g := (mkF m 78 #[.val (.ref a1), .val (.ref a2), .val (.ref b1), .val (.int (1 : Int32)), .val (.int (2 : Int32)), .val (.int (2 : Int32)), .val (.int (0 : Int32))] [(.long y1), (.int (2 : Int32)), (.ref b1)])) rfl rfl (hb hby d2_78)
        refine GoW.st st25 ?_
        have f26_V_a1 : Arv Z h25 a1 ka .long (2 : Int32) [(.long x0), (.long x1)] (.long (0 : Int64)) := f24_V_a1.other W25 ne1_a1
        have f26_V_a2 : Arv Z h25 a2 kc .long (2 : Int32) [(.long y0), (.long y1)] (.long (0 : Int64)) := f24_V_a2.other W25 ne1_a2
        have f26_V_b1 : Arv Z h25 b1 k1 .long (4 : Int32) [(.long x0), (.long y0), (.long y1), (.long (0 : Int64))] (.long (0 : Int64)) := V25
        have K25 : Keep h0 h25 [] := K23.wr W25 (Or.inr sz1)
        have N25 := Fr.snoc X25 N23 gg1
        show GoW p e below QQ (T25.setTop (mkF m 79 #[.val (.ref a1), .val (.ref a2), .val (.ref b1), .val (.int (1 : Int32)), .val (.int (2 : Int32)), .val (.int (2 : Int32)), .val (.int (0 : Int32))] []))
        refine GoW.st (fun t k => XS.iinc X25.here hx rfl (hb hby d2_79) rfl (l' := #[.val (.ref a1), .val (.ref a2), .val (.ref b1), .val (.int (1 : Int32)), .val (.int (2 : Int32)), .val (.int (3 : Int32)), .val (.int (0 : Int32))]) rfl (XS.goto X25.here hx rfl (pc0 := 82) (pc' := 16) rfl (hb hby d2_82) (by decide) (by decide) (XS.iload X25.here hx rfl (hb hby d2_16) rfl (XS.aloadN X25.here hx rfl (hb hby d2_18) rfl rfl (lnV X25 hx hZ e25 f26_V_b1 (g := (mkF m 19 #[.val (.ref a1), .val (.ref a2), .val (.ref b1), .val (.int (1 : Int32)), .val (.int (2 : Int32)), .val (.int (3 : Int32)), .val (.int (0 : Int32))] [(.ref b1), (.int (3 : Int32))])) rfl rfl (hb hby d2_19) t k))))) ?_
        show GoW p e below QQ (T25.setTop (mkF m 20 #[.val (.ref a1), .val (.ref a2), .val (.ref b1), .val (.int (1 : Int32)), .val (.int (2 : Int32)), .val (.int (3 : Int32)), .val (.int (0 : Int32))] [(.int (4 : Int32)), (.int (3 : Int32))]))
        have hc20_4 : (3 : Int32) < (4 : Int32) := by decide
        refine GoW.st (fun t k => XS.icmpNo X25.here hx rfl (hb hby d2_20) rfl (tlt hc20_4).2.1 (XS.iload X25.here hx rfl (hb hby d2_23) rfl (XS.aloadN X25.here hx rfl (hb hby d2_25) rfl rfl (lnV X25 hx hZ e25 f26_V_a2 (g := (mkF m 26 #[.val (.ref a1), .val (.ref a2), .val (.ref b1), .val (.int (1 : Int32)), .val (.int (2 : Int32)), .val (.int (3 : Int32)), .val (.int (0 : Int32))] [(.ref a2), (.int (2 : Int32))])) rfl rfl (hb hby d2_26) t k)))) ?_
        show GoW p e below QQ (T25.setTop (mkF m 27 #[.val (.ref a1), .val (.ref a2), .val (.ref b1), .val (.int (1 : Int32)), .val (.int (2 : Int32)), .val (.int (3 : Int32)), .val (.int (0 : Int32))] [(.int (2 : Int32)), (.int (2 : Int32))]))
        have hc27_4 : (2 : Int32) = (2 : Int32) := by decide
        refine GoW.st (fun t k => XS.icmpYes X25.here hx rfl (pc0 := 27) (pc' := 47) rfl (hb hby d2_27) rfl (teq hc27_4).1 (by decide) (by decide) (XS.iconst X25.here hx rfl (hb hby d2_47) (XS.goto X25.here hx rfl (pc0 := 48) (pc' := 52) rfl (hb hby d2_48) (by decide) (by decide) (XS.istore X25.here hx rfl (hb hby d2_52) rfl (l' := #[.val (.ref a1), .val (.ref a2), .val (.ref b1), .val (.int (1 : Int32)), .val (.int (2 : Int32)), .val (.int (3 : Int32)), .val (.int (1 : Int32))]) rfl (XS.aloadN X25.here hx rfl (hb hby d2_54) rfl rfl (XS.iload X25.here hx rfl (hb hby d2_55) rfl k)))))) ?_
        show GoW p e below QQ (T25.setTop (mkF m 57 #[.val (.ref a1), .val (.ref a2), .val (.ref b1), .val (.int (1 : Int32)), .val (.int (2 : Int32)), .val (.int (3 : Int32)), .val (.int (1 : Int32))] [(.int (3 : Int32)), (.ref b1)]))
        refine GoW.st (fun t k => XS.iload X25.here hx rfl (hb hby d2_57) rfl k) ?_
        show GoW p e below QQ (T25.setTop (mkF m 59 #[.val (.ref a1), .val (.ref a2), .val (.ref b1), .val (.int (1 : Int32)), .val (.int (2 : Int32)), .val (.int (3 : Int32)), .val (.int (1 : Int32))] [(.int (1 : Int32)), (.int (3 : Int32)), (.ref b1)]))
        have hc59_4 : ¬ ((1 : Int32) = (0 : Int32)) := by decide
        refine GoW.st (fun t k => XS.ifNo X25.here hx rfl (hb hby d2_59) rfl ((if0 _ _).trans (feq hc59_4).1) (XS.aloadN X25.here hx rfl (hb hby d2_62) rfl rfl (XS.iloadN X25.here hx rfl (hb hby d2_63) rfl (XS.iinc X25.here hx rfl (hb hby d2_64) rfl (l' := #[.val (.ref a1), .val (.ref a2), .val (.ref b1), .val (.int (2 : Int32)), .val (.int (2 : Int32)), .val (.int (3 : Int32)), .val (.int (1 : Int32))]) rfl (ldVJ X25 hx hZ e25 f26_V_a1 (v := (.long x1)) ⟨by decide, by decide⟩ rfl (g := (mkF m 67 #[.val (.ref a1), .val (.ref a2), .val (.ref b1), .val (.int (2 : Int32)), .val (.int (2 : Int32)), .val (.int (3 : Int32)), .val (.int (1 : Int32))] [(.int (1 : Int32)), (.ref a1), (.int (3 : Int32)), (.ref b1)])) rfl rfl (hb hby d2_67) t (XS.goto X25.here hx rfl (pc0 := 68) (pc' := 78) rfl (hb hby d2_68) (by decide) (by decide) k)))))) ?_
        show GoW p e below QQ (T25.setTop (mkF m 78 #[.val (.ref a1), .val (.ref a2), .val (.ref b1), .val (.int (2 : Int32)), .val (.int (2 : Int32)), .val (.int (3 : Int32)), .val (.int (1 : Int32))] [(.long x1), (.int (3 : Int32)), (.ref b1)]))
        obtain ⟨T27, h27, X27, e27, W27, V27, st27⟩ := stVJ X25 hx hZ e25 f26_V_b1 ⟨by decide, by decide⟩ 3 rfl (Nat.le_of_ble_eq_true rfl) (g := (mkF m 78 #[.val (.ref a1), .val (.ref a2), .val (.ref b1), .val (.int (2 : Int32)), .val (.int (2 : Int32)), .val (.int (3 : Int32)), .val (.int (1 : Int32))] [(.long x1), (.int (3 : Int32)), (.ref b1)])) rfl rfl (hb hby d2_78)
        refine GoW.st st27 ?_
        have f28_V_a1 : Arv Z h27 a1 ka .long (2 : Int32) [(.long x0), (.long x1)] (.long (0 : Int64)) := f26_V_a1.other W27 ne1_a1
        have f28_V_a2 : Arv Z h27 a2 kc .long (2 : Int32) [(.long y0), (.long y1)] (.long (0 : Int64)) := f26_V_a2.other W27 ne1_a2
        have f28_V_b1 : Arv Z h27 b1 k1 .long (4 : Int32) [(.long x0), (.long y0), (.long y1), (.long x1)] (.long (0 : Int64)) := V27
        have K27 : Keep h0 h27 [] := K25.wr W27 (Or.inr sz1)
        have N27 := Fr.snoc X27 N25 gg1
        show GoW p e below QQ (T27.setTop (mkF m 79 #[.val (.ref a1), .val (.ref a2), .val (.ref b1), .val (.int (2 : Int32)), .val (.int (2 : Int32)), .val (.int (3 : Int32)), .val (.int (1 : Int32))] []))
        refine GoW.st (fun t k => XS.iinc X27.here hx rfl (hb hby d2_79) rfl (l' := #[.val (.ref a1), .val (.ref a2), .val (.ref b1), .val (.int (2 : Int32)), .val (.int (2 : Int32)), .val (.int (4 : Int32)), .val (.int (1 : Int32))]) rfl (XS.goto X27.here hx rfl (pc0 := 82) (pc' := 16) rfl (hb hby d2_82) (by decide) (by decide) (XS.iload X27.here hx rfl (hb hby d2_16) rfl (XS.aloadN X27.here hx rfl (hb hby d2_18) rfl rfl (lnV X27 hx hZ e27 f28_V_b1 (g := (mkF m 19 #[.val (.ref a1), .val (.ref a2), .val (.ref b1), .val (.int (2 : Int32)), .val (.int (2 : Int32)), .val (.int (4 : Int32)), .val (.int (1 : Int32))] [(.ref b1), (.int (4 : Int32))])) rfl rfl (hb hby d2_19) t k))))) ?_
        show GoW p e below QQ (T27.setTop (mkF m 20 #[.val (.ref a1), .val (.ref a2), .val (.ref b1), .val (.int (2 : Int32)), .val (.int (2 : Int32)), .val (.int (4 : Int32)), .val (.int (1 : Int32))] [(.int (4 : Int32)), (.int (4 : Int32))]))
        have hc20_5 : ¬ ((4 : Int32) < (4 : Int32)) := by decide
        refine GoW.st (fun t k => XS.icmpYes X27.here hx rfl (pc0 := 20) (pc' := 85) rfl (hb hby d2_20) rfl (flt hc20_5).2.1 (by decide) (by decide) (XS.aloadN X27.here hx rfl (hb hby d2_85) rfl rfl k)) ?_
        show GoW p e below QQ (T27.setTop (mkF m 86 #[.val (.ref a1), .val (.ref a2), .val (.ref b1), .val (.int (2 : Int32)), .val (.int (2 : Int32)), .val (.int (4 : Int32)), .val (.int (1 : Int32))] [(.ref b1)]))
        exact GoW.fin X27 (some (.ref b1)) (fun q => by rw [hret] at q; cases q) hlk hQ e27 ⟨b1, k1, x0, y0, y1, x1, rfl, N27, K27, sz1, f28_V_b1, (by omega)⟩ (by decide) (by decide) (fun fs hr => retOut X27 hx hret rfl (Or.inr (Or.inr (Or.inr (Or.inr ⟨rfl, rfl, rfl⟩)))) (hb hby d2_86) hr)
      · skip
        refine GoW.st (fun t k => XS.ifNo X23.here hx rfl (hb hby d2_44) rfl ((if0 _ _).trans (flt (fun q => hc44_3 ((lw_gt x1 y1).mp q))).2.2.1) k) ?_
        show GoW p e below QQ (T23.setTop (mkF m 47 #[.val (.ref a1), .val (.ref a2), .val (.ref b1), .val (.int (1 : Int32)), .val (.int (1 : Int32)), .val (.int (2 : Int32)), .val (.int (0 : Int32))] []))
        have hi44_3 : ¬ (y1.toInt < x1.toInt) := (fun q => hc44_3 (Int64.lt_iff_toInt_lt.mpr q))
        refine GoW.st (fun t k => XS.iconst X23.here hx rfl (hb hby d2_47) (XS.goto X23.here hx rfl (pc0 := 48) (pc' := 52) rfl (hb hby d2_48) (by decide) (by decide) (XS.istore X23.here hx rfl (hb hby d2_52) rfl (l' := #[.val (.ref a1), .val (.ref a2), .val (.ref b1), .val (.int (1 : Int32)), .val (.int (1 : Int32)), .val (.int (2 : Int32)), .val (.int (1 : Int32))]) rfl (XS.aloadN X23.here hx rfl (hb hby d2_54) rfl rfl (XS.iload X23.here hx rfl (hb hby d2_55) rfl (XS.iload X23.here hx rfl (hb hby d2_57) rfl k)))))) ?_
        show GoW p e below QQ (T23.setTop (mkF m 59 #[.val (.ref a1), .val (.ref a2), .val (.ref b1), .val (.int (1 : Int32)), .val (.int (1 : Int32)), .val (.int (2 : Int32)), .val (.int (1 : Int32))] [(.int (1 : Int32)), (.int (2 : Int32)), (.ref b1)]))
        have hc59_3 : ¬ ((1 : Int32) = (0 : Int32)) := by decide
        refine GoW.st (fun t k => XS.ifNo X23.here hx rfl (hb hby d2_59) rfl ((if0 _ _).trans (feq hc59_3).1) (XS.aloadN X23.here hx rfl (hb hby d2_62) rfl rfl (XS.iloadN X23.here hx rfl (hb hby d2_63) rfl (XS.iinc X23.here hx rfl (hb hby d2_64) rfl (l' := #[.val (.ref a1), .val (.ref a2), .val (.ref b1), .val (.int (2 : Int32)), .val (.int (1 : Int32)), .val (.int (2 : Int32)), .val (.int (1 : Int32))]) rfl (ldVJ X23 hx hZ e23 f24_V_a1 (v := (.long x1)) ⟨by decide, by decide⟩ rfl (g := (mkF m 67 #[.val (.ref a1), .val (.ref a2), .val (.ref b1), .val (.int (2 : Int32)), .val (.int (1 : Int32)), .val (.int (2 : Int32)), .val (.int (1 : Int32))] [(.int (1 : Int32)), (.ref a1), (.int (2 : Int32)), (.ref b1)])) rfl rfl (hb hby d2_67) t (XS.goto X23.here hx rfl (pc0 := 68) (pc' := 78) rfl (hb hby d2_68) (by decide) (by decide) k)))))) ?_
        show GoW p e below QQ (T23.setTop (mkF m 78 #[.val (.ref a1), .val (.ref a2), .val (.ref b1), .val (.int (2 : Int32)), .val (.int (1 : Int32)), .val (.int (2 : Int32)), .val (.int (1 : Int32))] [(.long x1), (.int (2 : Int32)), (.ref b1)]))
        obtain ⟨T29, h29, X29, e29, W29, V29, st29⟩ := stVJ X23 hx hZ e23 f24_V_b1 ⟨by decide, by decide⟩ 2 rfl (Nat.le_of_ble_eq_true rfl) (g := (mkF m 78 #[.val (.ref a1), .val (.ref a2), .val (.ref b1), .val (.int (2 : Int32)), .val (.int (1 : Int32)), .val (.int (2 : Int32)), .val (.int (1 : Int32))] [(.long x1), (.int (2 : Int32)), (.ref b1)])) rfl rfl (hb hby d2_78)
        refine GoW.st st29 ?_
        have f30_V_a1 : Arv Z h29 a1 ka .long (2 : Int32) [(.long x0), (.long x1)] (.long (0 : Int64)) := f24_V_a1.other W29 ne1_a1
        have f30_V_a2 : Arv Z h29 a2 kc .long (2 : Int32) [(.long y0), (.long y1)] (.long (0 : Int64)) := f24_V_a2.other W29 ne1_a2
        have f30_V_b1 : Arv Z h29 b1 k1 .long (4 : Int32) [(.long x0), (.long y0), (.long x1), (.long (0 : Int64))] (.long (0 : Int64)) := V29
        have K29 : Keep h0 h29 [] := K23.wr W29 (Or.inr sz1)
        have N29 := Fr.snoc X29 N23 gg1
        show GoW p e below QQ (T29.setTop (mkF m 79 #[.val (.ref a1), .val (.ref a2), .val (.ref b1), .val (.int (2 : Int32)), .val (.int (1 : Int32)), .val (.int (2 : Int32)), .val (.int (1 : Int32))] []))
        refine GoW.st (fun t k => XS.iinc X29.here hx rfl (hb hby d2_79) rfl (l' := #[.val (.ref a1), .val (.ref a2), .val (.ref b1), .val (.int (2 : Int32)), .val (.int (1 : Int32)), .val (.int (3 : Int32)), .val (.int (1 : Int32))]) rfl (XS.goto X29.here hx rfl (pc0 := 82) (pc' := 16) rfl (hb hby d2_82) (by decide) (by decide) (XS.iload X29.here hx rfl (hb hby d2_16) rfl (XS.aloadN X29.here hx rfl (hb hby d2_18) rfl rfl (lnV X29 hx hZ e29 f30_V_b1 (g := (mkF m 19 #[.val (.ref a1), .val (.ref a2), .val (.ref b1), .val (.int (2 : Int32)), .val (.int (1 : Int32)), .val (.int (3 : Int32)), .val (.int (1 : Int32))] [(.ref b1), (.int (3 : Int32))])) rfl rfl (hb hby d2_19) t k))))) ?_
        show GoW p e below QQ (T29.setTop (mkF m 20 #[.val (.ref a1), .val (.ref a2), .val (.ref b1), .val (.int (2 : Int32)), .val (.int (1 : Int32)), .val (.int (3 : Int32)), .val (.int (1 : Int32))] [(.int (4 : Int32)), (.int (3 : Int32))]))
        have hc20_4 : (3 : Int32) < (4 : Int32) := by decide
        refine GoW.st (fun t k => XS.icmpNo X29.here hx rfl (hb hby d2_20) rfl (tlt hc20_4).2.1 (XS.iload X29.here hx rfl (hb hby d2_23) rfl (XS.aloadN X29.here hx rfl (hb hby d2_25) rfl rfl (lnV X29 hx hZ e29 f30_V_a2 (g := (mkF m 26 #[.val (.ref a1), .val (.ref a2), .val (.ref b1), .val (.int (2 : Int32)), .val (.int (1 : Int32)), .val (.int (3 : Int32)), .val (.int (1 : Int32))] [(.ref a2), (.int (1 : Int32))])) rfl rfl (hb hby d2_26) t k)))) ?_
        show GoW p e below QQ (T29.setTop (mkF m 27 #[.val (.ref a1), .val (.ref a2), .val (.ref b1), .val (.int (2 : Int32)), .val (.int (1 : Int32)), .val (.int (3 : Int32)), .val (.int (1 : Int32))] [(.int (2 : Int32)), (.int (1 : Int32))]))
        have hc27_4 : ¬ ((1 : Int32) = (2 : Int32)) := by decide
        refine GoW.st (fun t k => XS.icmpNo X29.here hx rfl (hb hby d2_27) rfl (feq hc27_4).1 (XS.iloadN X29.here hx rfl (hb hby d2_30) rfl (XS.aloadN X29.here hx rfl (hb hby d2_31) rfl rfl (lnV X29 hx hZ e29 f30_V_a1 (g := (mkF m 32 #[.val (.ref a1), .val (.ref a2), .val (.ref b1), .val (.int (2 : Int32)), .val (.int (1 : Int32)), .val (.int (3 : Int32)), .val (.int (1 : Int32))] [(.ref a1), (.int (2 : Int32))])) rfl rfl (hb hby d2_32) t k)))) ?_
        show GoW p e below QQ (T29.setTop (mkF m 33 #[.val (.ref a1), .val (.ref a2), .val (.ref b1), .val (.int (2 : Int32)), .val (.int (1 : Int32)), .val (.int (3 : Int32)), .val (.int (1 : Int32))] [(.int (2 : Int32)), (.int (2 : Int32))]))
        have hc33_4 : ¬ ((2 : Int32) < (2 : Int32)) := by decide
        refine GoW.st (fun t k => XS.icmpYes X29.here hx rfl (pc0 := 33) (pc' := 51) rfl (hb hby d2_33) rfl (flt hc33_4).2.1 (by decide) (by decide) (XS.iconst X29.here hx rfl (hb hby d2_51) (XS.istore X29.here hx rfl (hb hby d2_52) rfl (l' := #[.val (.ref a1), .val (.ref a2), .val (.ref b1), .val (.int (2 : Int32)), .val (.int (1 : Int32)), .val (.int (3 : Int32)), .val (.int (0 : Int32))]) rfl (XS.aloadN X29.here hx rfl (hb hby d2_54) rfl rfl (XS.iload X29.here hx rfl (hb hby d2_55) rfl (XS.iload X29.here hx rfl (hb hby d2_57) rfl k)))))) ?_
        show GoW p e below QQ (T29.setTop (mkF m 59 #[.val (.ref a1), .val (.ref a2), .val (.ref b1), .val (.int (2 : Int32)), .val (.int (1 : Int32)), .val (.int (3 : Int32)), .val (.int (0 : Int32))] [(.int (0 : Int32)), (.int (3 : Int32)), (.ref b1)]))
        have hc59_4 : (0 : Int32) = (0 : Int32) := by decide
        refine GoW.st (fun t k => XS.ifYes X29.here hx rfl (pc0 := 59) (pc' := 71) rfl (hb hby d2_59) rfl ((if0 _ _).trans (teq hc59_4).1) (by decide) (by decide) (XS.aloadN X29.here hx rfl (hb hby d2_71) rfl rfl (XS.iload X29.here hx rfl (hb hby d2_72) rfl (XS.iinc X29.here hx rfl (hb hby d2_74) rfl (l' := #[.val (.ref a1), .val (.ref a2), .val (.ref b1), .val (.int (2 : Int32)), .val (.int (2 : Int32)), .val (.int (3 : Int32)), .val (.int (0 : Int32))]) rfl (ldVJ X29 hx hZ e29 f30_V_a2 (v := (.long y1)) ⟨by decide, by decide⟩ rfl (g := (mkF m 77 #[.val (.ref a1), .val (.ref a2), .val (.ref b1), .val (.int (2 : Int32)), .val (.int (2 : Int32)), .val (.int (3 : Int32)), .val (.int (0 : Int32))] [(.int (1 : Int32)), (.ref a2), (.int (3 : Int32)), (.ref b1)])) rfl rfl (hb hby d2_77) t k))))) ?_
        show GoW p e below QQ (T29.setTop (mkF m 78 #[.val (.ref a1), .val (.ref a2), .val (.ref b1), .val (.int (2 : Int32)), .val (.int (2 : Int32)), .val (.int (3 : Int32)), .val (.int (0 : Int32))] [(.long y1), (.int (3 : Int32)), (.ref b1)]))
        obtain ⟨T31, h31, X31, e31, W31, V31, st31⟩ := stVJ X29 hx hZ e29 f30_V_b1 ⟨by decide, by decide⟩ 3 rfl (Nat.le_of_ble_eq_true rfl) (g := (mkF m 78 #[.val (.ref a1), .val (.ref a2), .val (.ref b1), .val (.int (2 : Int32)), .val (.int (2 : Int32)), .val (.int (3 : Int32)), .val (.int (0 : Int32))] [(.long y1), (.int (3 : Int32)), (.ref b1)])) rfl rfl (hb hby d2_78)
        refine GoW.st st31 ?_
        have f32_V_a1 : Arv Z h31 a1 ka .long (2 : Int32) [(.long x0), (.long x1)] (.long (0 : Int64)) := f30_V_a1.other W31 ne1_a1
        have f32_V_a2 : Arv Z h31 a2 kc .long (2 : Int32) [(.long y0), (.long y1)] (.long (0 : Int64)) := f30_V_a2.other W31 ne1_a2
        have f32_V_b1 : Arv Z h31 b1 k1 .long (4 : Int32) [(.long x0), (.long y0), (.long x1), (.long y1)] (.long (0 : Int64)) := V31
        have K31 : Keep h0 h31 [] := K29.wr W31 (Or.inr sz1)
        have N31 := Fr.snoc X31 N29 gg1
        show GoW p e below QQ (T31.setTop (mkF m 79 #[.val (.ref a1), .val (.ref a2), .val (.ref b1), .val (.int (2 : Int32)), .val (.int (2 : Int32)), .val (.int (3 : Int32)), .val (.int (0 : Int32))] []))
        refine GoW.st (fun t k => XS.iinc X31.here hx rfl (hb hby d2_79) rfl (l' := #[.val (.ref a1), .val (.ref a2), .val (.ref b1), .val (.int (2 : Int32)), .val (.int (2 : Int32)), .val (.int (4 : Int32)), .val (.int (0 : Int32))]) rfl (XS.goto X31.here hx rfl (pc0 := 82) (pc' := 16) rfl (hb hby d2_82) (by decide) (by decide) (XS.iload X31.here hx rfl (hb hby d2_16) rfl (XS.aloadN X31.here hx rfl (hb hby d2_18) rfl rfl (lnV X31 hx hZ e31 f32_V_b1 (g := (mkF m 19 #[.val (.ref a1), .val (.ref a2), .val (.ref b1), .val (.int (2 : Int32)), .val (.int (2 : Int32)), .val (.int (4 : Int32)), .val (.int (0 : Int32))] [(.ref b1), (.int (4 : Int32))])) rfl rfl (hb hby d2_19) t k))))) ?_
        show GoW p e below QQ (T31.setTop (mkF m 20 #[.val (.ref a1), .val (.ref a2), .val (.ref b1), .val (.int (2 : Int32)), .val (.int (2 : Int32)), .val (.int (4 : Int32)), .val (.int (0 : Int32))] [(.int (4 : Int32)), (.int (4 : Int32))]))
        have hc20_5 : ¬ ((4 : Int32) < (4 : Int32)) := by decide
        refine GoW.st (fun t k => XS.icmpYes X31.here hx rfl (pc0 := 20) (pc' := 85) rfl (hb hby d2_20) rfl (flt hc20_5).2.1 (by decide) (by decide) (XS.aloadN X31.here hx rfl (hb hby d2_85) rfl rfl k)) ?_
        show GoW p e below QQ (T31.setTop (mkF m 86 #[.val (.ref a1), .val (.ref a2), .val (.ref b1), .val (.int (2 : Int32)), .val (.int (2 : Int32)), .val (.int (4 : Int32)), .val (.int (0 : Int32))] [(.ref b1)]))
        exact GoW.fin X31 (some (.ref b1)) (fun q => by rw [hret] at q; cases q) hlk hQ e31 ⟨b1, k1, x0, y0, x1, y1, rfl, N31, K31, sz1, f32_V_b1, (by omega)⟩ (by decide) (by decide) (fun fs hr => retOut X31 hx hret rfl (Or.inr (Or.inr (Or.inr (Or.inr ⟨rfl, rfl, rfl⟩)))) (hb hby d2_86) hr)
    · skip
      refine GoW.st (fun t k => XS.ifNo X21.here hx rfl (hb hby d2_44) rfl ((if0 _ _).trans (flt (fun q => hc44_2 ((lw_gt x1 y0).mp q))).2.2.1) k) ?_
      show GoW p e below QQ (T21.setTop (mkF m 47 #[.val (.ref a1), .val (.ref a2), .val (.ref b1), .val (.int (1 : Int32)), .val (.int (0 : Int32)), .val (.int (1 : Int32)), .val (.int (1 : Int32))] []))
      have hi44_2 : ¬ (y0.toInt < x1.toInt) := (fun q => hc44_2 (Int64.lt_iff_toInt_lt.mpr q))
      refine GoW.st (fun t k => XS.iconst X21.here hx rfl (hb hby d2_47) (XS.goto X21.here hx rfl (pc0 := 48) (pc' := 52) rfl (hb hby d2_48) (by decide) (by decide) (XS.istore X21.here hx rfl (hb hby d2_52) rfl (l' := #[.val (.ref a1), .val (.ref a2), .val (.ref b1), .val (.int (1 : Int32)), .val (.int (0 : Int32)), .val (.int (1 : Int32)), .val (.int (1 : Int32))]) rfl (XS.aloadN X21.here hx rfl (hb hby d2_54) rfl rfl (XS.iload X21.here hx rfl (hb hby d2_55) rfl (XS.iload X21.here hx rfl (hb hby d2_57) rfl k)))))) ?_
      show GoW p e below QQ (T21.setTop (mkF m 59 #[.val (.ref a1), .val (.ref a2), .val (.ref b1), .val (.int (1 : Int32)), .val (.int (0 : Int32)), .val (.int (1 : Int32)), .val (.int (1 : Int32))] [(.int (1 : Int32)), (.int (1 : Int32)), (.ref b1)]))
      have hc59_2 : ¬ ((1 : Int32) = (0 : Int32)) := by decide
      refine GoW.st (fun t k => XS.ifNo X21.here hx rfl (hb hby d2_59) rfl ((if0 _ _).trans (feq hc59_2).1) (XS.aloadN X21.here hx rfl (hb hby d2_62) rfl rfl (XS.iloadN X21.here hx rfl (hb hby d2_63) rfl (XS.iinc X21.here hx rfl (hb hby d2_64) rfl (l' := #[.val (.ref a1), .val (.ref a2), .val (.ref b1), .val (.int (2 : Int32)), .val (.int (0 : Int32)), .val (.int (1 : Int32)), .val (.int (1 : Int32))]) rfl (ldVJ X21 hx hZ e21 f22_V_a1 (v := (.long x1)) ⟨by decide, by decide⟩ rfl (g := (mkF m 67 #[.val (.ref a1), .val (.ref a2), .val (.ref b1), .val (.int (2 : Int32)), .val (.int (0 : Int32)), .val (.int (1 : Int32)), .val (.int (1 : Int32))] [(.int (1 : Int32)), (.ref a1), (.int (1 : Int32)), (.ref b1)])) rfl rfl (hb hby d2_67) t (XS.goto X21.here hx rfl (pc0 := 68) (pc' := 78) rfl (hb hby d2_68) (by decide) (by decide) k)))))) ?_
      show GoW p e below QQ (T21.setTop (mkF m 78 #[.val (.ref a1), .val (.ref a2), .val (.ref b1), .val (.int (2 : Int32)), .val (.int (0 : Int32)), .val (.int (1 : Int32)), .val (.int (1 : Int32))] [(.long x1), (.int (1 : Int32)), (.ref b1)]))
      obtain ⟨T33, h33, X33, e33, W33, V33, st33⟩ := stVJ X21 hx hZ e21 f22_V_b1 ⟨by decide, by decide⟩ 1 rfl (Nat.le_of_ble_eq_true rfl) (g := (mkF m 78 #[.val (.ref a1), .val (.ref a2), .val (.ref b1), .val (.int (2 : Int32)), .val (.int (0 : Int32)), .val (.int (1 : Int32)), .val (.int (1 : Int32))] [(.long x1), (.int (1 : Int32)), (.ref b1)])) rfl rfl (hb hby d2_78)
      refine GoW.st st33 ?_
      have f34_V_a1 : Arv Z h33 a1 ka .long (2 : Int32) [(.long x0), (.long x1)] (.long (0 : Int64)) := f22_V_a1.other W33 ne1_a1
      have f34_V_a2 : Arv Z h33 a2 kc .long (2 : Int32) [(.long y0), (.long y1)] (.long (0 : Int64)) := f22_V_a2.other W33 ne1_a2
      have f34_V_b1 : Arv Z h33 b1 k1 .long (4 : Int32) [(.long x0), (.long x1), (.long (0 : Int64)), (.long (0 : Int64))] (.long (0 : Int64)) := V33
      have K33 : Keep h0 h33 [] := K21.wr W33 (Or.inr sz1)
      have N33 := Fr.snoc X33 N21 gg1
      show GoW p e below QQ (T33.setTop (mkF m 79 #[.val (.ref a1), .val (.ref a2), .val (.ref b1), .val (.int (2 : Int32)), .val (.int (0 : Int32)), .val (.int (1 : Int32)), .val (.int (1 : Int32))] []))
      refine GoW.st (fun t k => XS.iinc X33.here hx rfl (hb hby d2_79) rfl (l' := #[.val (.ref a1), .val (.ref a2), .val (.ref b1), .val (.int (2 : Int32)), .val (.int (0 : Int32)), .val (.int (2 : Int32)), .val (.int (1 : Int32))]) rfl (XS.goto X33.here hx rfl (pc0 := 82) (pc' := 16) rfl (hb hby d2_82) (by decide) (by decide) (XS.iload X33.here hx rfl (hb hby d2_16) rfl (XS.aloadN X33.here hx rfl (hb hby d2_18) rfl rfl (lnV X33 hx hZ e33 f34_V_b1 (g := (mkF m 19 #[.val (.ref a1), .val (.ref a2), .val (.ref b1), .val (.int (2 : Int32)), .val (.int (0 : Int32)), .val (.int (2 : Int32)), .val (.int (1 : Int32))] [(.ref b1), (.int (2 : Int32))])) rfl rfl (hb hby d2_19) t k))))) ?_
      show GoW p e below QQ (T33.setTop (mkF m 20 #[.val (.ref a1), .val (.ref a2), .val (.ref b1), .val (.int (2 : Int32)), .val (.int (0 : Int32)), .val (.int (2 : Int32)), .val (.int (1 : Int32))] [(.int (4 : Int32)), (.int (2 : Int32))]))
      have hc20_3 : (2 : Int32) < (4 : Int32) := by decide
      refine GoW.st (fun t k => XS.icmpNo X33.here hx rfl (hb hby d2_20) rfl (tlt hc20_3).2.1 (XS.iload X33.here hx rfl (hb hby d2_23) rfl (XS.aloadN X33.here hx rfl (hb hby d2_25) rfl rfl (lnV X33 hx hZ e33 f34_V_a2 (g := (mkF m 26 #[.val (.ref a1), .val (.ref a2), .val (.ref b1), .val (.int (2 : Int32)), .val (.int (0 : Int32)), .val (.int (2 : Int32)), .val (.int (1 : Int32))] [(.ref a2), (.int (0 : Int32))])) rfl rfl (hb hby d2_26) t k)))) ?_
      show GoW p e below QQ (T33.setTop (mkF m 27 #[.val (.ref a1), .val (.ref a2), .val (.ref b1), .val (.int (2 : Int32)), .val (.int (0 : Int32)), .val (.int (2 : Int32)), .val (.int (1 : Int32))] [(.int (2 : Int32)), (.int (0 : Int32))]))
      have hc27_3 : ¬ ((0 : Int32) = (2 : Int32)) := by decide
      refine GoW.st (fun t k => XS.icmpNo X33.here hx rfl (hb hby d2_27) rfl (feq hc27_3).1 (XS.iloadN X33.here hx rfl (hb hby d2_30) rfl (XS.aloadN X33.here hx rfl (hb hby d2_31) rfl rfl (lnV X33 hx hZ e33 f34_V_a1 (g := (mkF m 32 #[.val (.ref a1), .val (.ref a2), .val (.ref b1), .val (.int (2 : Int32)), .val (.int (0 : Int32)), .val (.int (2 : Int32)), .val (.int (1 : Int32))] [(.ref a1), (.int (2 : Int32))])) rfl rfl (hb hby d2_32) t k)))) ?_
      show GoW p e below QQ (T33.setTop (mkF m 33 #[.val (.ref a1), .val (.ref a2), .val (.ref b1), .val (.int (2 : Int32)), .val (.int (0 : Int32)), .val (.int (2 : Int32)), .val (.int (1 : Int32))] [(.int (2 : Int32)), (.int (2 : Int32))]))
      have hc33_3 : ¬ ((2 : Int32) < (2 : Int32)) := by decide
      refine GoW.st (fun t k => XS.icmpYes X33.here hx rfl (pc0 := 33) (pc' := 51) rfl (hb hby d2_33) rfl (flt hc33_3).2.1 (by decide) (by decide) (XS.iconst X33.here hx rfl (hb hby d2_51) (XS.istore X33.here hx rfl (hb hby d2_52) rfl (l' := #[.val (.ref a1), .val (.ref a2), .val (.ref b1), .val (.int (2 : Int32)), .val (.int (0 : Int32)), .val (.int (2 : Int32)), .val (.int (0 : Int32))]) rfl (XS.aloadN X33.here hx rfl (hb hby d2_54) rfl rfl (XS.iload X33.here hx rfl (hb hby d2_55) rfl (XS.iload X33.here hx rfl (hb hby d2_57) rfl k)))))) ?_
      show GoW p e below QQ (T33.setTop (mkF m 59 #[.val (.ref a1), .val (.ref a2), .val (.ref b1), .val (.int (2 : Int32)), .val (.int (0 : Int32)), .val (.int (2 : Int32)), .val (.int (0 : Int32))] [(.int (0 : Int32)), (.int (2 : Int32)), (.ref b1)]))
      have hc59_3 : (0 : Int32) = (0 : Int32) := by decide
      refine GoW.st (fun t k => XS.ifYes X33.here hx rfl (pc0 := 59) (pc' := 71) rfl (hb hby d2_59) rfl ((if0 _ _).trans (teq hc59_3).1) (by decide) (by decide) (XS.aloadN X33.here hx rfl (hb hby d2_71) rfl rfl (XS.iload X33.here hx rfl (hb hby d2_72) rfl (XS.iinc X33.here hx rfl (hb hby d2_74) rfl (l' := #[.val (.ref a1), .val (.ref a2), .val (.ref b1), .val (.int (2 : Int32)), .val (.int (1 : Int32)), .val (.int (2 : Int32)), .val (.int (0 : Int32))]) rfl (ldVJ X33 hx hZ e33 f34_V_a2 (v := (.long y0)) ⟨by decide, by decide⟩ rfl (g := (mkF m 77 #[.val (.ref a1), .val (.ref a2), .val (.ref b1), .val (.int (2 : Int32)), .val (.int (1 : Int32)), .val (.int (2 : Int32)), .val (.int (0 : Int32))] [(.int (0 : Int32)), (.ref a2), (.int (2 : Int32)), (.ref b1)])) rfl rfl (hb hby d2_77) t k))))) ?_
      show GoW p e below QQ (T33.setTop (mkF m 78 #[.val (.ref a1), .val (.ref a2), .val (.ref b1), .val (.int (2 : Int32)), .val (.int (1 : Int32)), .val (.int (2 : Int32)), .val (.int (0 : Int32))] [(.long y0), (.int (2 : Int32)), (.ref b1)]))
      obtain ⟨T35, h35, X35, e35, W35, V35, st35⟩ := stVJ X33 hx hZ e33 f34_V_b1 ⟨by decide, by decide⟩ 2 rfl (Nat.le_of_ble_eq_true rfl) (g := (mkF m 78 #[.val (.ref a1), .val (.ref a2), .val (.ref b1), .val (.int (2 : Int32)), .val (.int (1 : Int32)), .val (.int (2 : Int32)), .val (.int (0 : Int32))] [(.long y0), (.int (2 : Int32)), (.ref b1)])) rfl rfl (hb hby d2_78)
      refine GoW.st st35 ?_
      have f36_V_a1 : Arv Z h35 a1 ka .long (2 : Int32) [(.long x0), (.long x1)] (.long (0 : Int64)) := f34_V_a1.other W35 ne1_a1
      have f36_V_a2 : Arv Z h35 a2 kc .long (2 : Int32) [(.long y0), (.long y1)] (.long (0 : Int64)) := f34_V_a2.other W35 ne1_a2
      have f36_V_b1 : Arv Z h35 b1 k1 .long (4 : Int32) [(.long x0), (.long x1), (.long y0), (.long (0 : Int64))] (.long (0 : Int64)) := V35
      have K35 : Keep h0 h35 [] := K33.wr W35 (Or.inr sz1)
      have N35 := Fr.snoc X35 N33 gg1
      show GoW p e below QQ (T35.setTop (mkF m 79 #[.val (.ref a1), .val (.ref a2), .val (.ref b1), .val (.int (2 : Int32)), .val (.int (1 : Int32)), .val (.int (2 : Int32)), .val (.int (0 : Int32))] []))
      refine GoW.st (fun t k => XS.iinc X35.here hx rfl (hb hby d2_79) rfl (l' := #[.val (.ref a1), .val (.ref a2), .val (.ref b1), .val (.int (2 : Int32)), .val (.int (1 : Int32)), .val (.int (3 : Int32)), .val (.int (0 : Int32))]) rfl (XS.goto X35.here hx rfl (pc0 := 82) (pc' := 16) rfl (hb hby d2_82) (by decide) (by decide) (XS.iload X35.here hx rfl (hb hby d2_16) rfl (XS.aloadN X35.here hx rfl (hb hby d2_18) rfl rfl (lnV X35 hx hZ e35 f36_V_b1 (g := (mkF m 19 #[.val (.ref a1), .val (.ref a2), .val (.ref b1), .val (.int (2 : Int32)), .val (.int (1 : Int32)), .val (.int (3 : Int32)), .val (.int (0 : Int32))] [(.ref b1), (.int (3 : Int32))])) rfl rfl (hb hby d2_19) t k))))) ?_
      show GoW p e below QQ (T35.setTop (mkF m 20 #[.val (.ref a1), .val (.ref a2), .val (.ref b1), .val (.int (2 : Int32)), .val (.int (1 : Int32)), .val (.int (3 : Int32)), .val (.int (0 : Int32))] [(.int (4 : Int32)), (.int (3 : Int32))]))
      have hc20_4 : (3 : Int32) < (4 : Int32) := by decide
      refine GoW.st (fun t k => XS.icmpNo X35.here hx rfl (hb hby d2_20) rfl (tlt hc20_4).2.1 (XS.iload X35.here hx rfl (hb hby d2_23) rfl (XS.aloadN X35.here hx rfl (hb hby d2_25) rfl rfl (lnV X35 hx hZ e35 f36_V_a2 (g := (mkF m 26 #[.val (.ref a1), .val (.ref a2), .val (.ref b1), .val (.int (2 : Int32)), .val (.int (1 : Int32)), .val (.int (3 : Int32)), .val (.int (0 : Int32))] [(.ref a2), (.int (1 : Int32))])) rfl rfl (hb hby d2_26) t k)))) ?_
      show GoW p e below QQ (T35.setTop (mkF m 27 #[.val (.ref a1), .val (.ref a2), .val (.ref b1), .val (.int (2 : Int32)), .val (.int (1 : Int32)), .val (.int (3 : Int32)), .val (.int (0 : Int32))] [(.int (2 : Int32)), (.int (1 : Int32))]))
      have hc27_4 : ¬ ((1 : Int32) = (2 : Int32)) := by decide
      refine GoW.st (fun t k => XS.icmpNo X35.here hx rfl (hb hby d2_27) rfl (feq hc27_4).1 (XS.iloadN X35.here hx rfl (hb hby d2_30) rfl (XS.aloadN X35.here hx rfl (hb hby d2_31) rfl rfl (lnV X35 hx hZ e35 f36_V_a1 (g := (mkF m 32 #[.val (.ref a1), .val (.ref a2), .val (.ref b1), .val (.int (2 : Int32)), .val (.int (1 : Int32)), .val (.int (3 : Int32)), .val (.int (0 : Int32))] [(.ref a1), (.int (2 : Int32))])) rfl rfl (hb hby d2_32) t k)))) ?_
      show GoW p e below QQ (T35.setTop (mkF m 33 #[.val (.ref a1), .val (.ref a2), .val (.ref b1), .val (.int (2 : Int32)), .val (.int (1 : Int32)), .val (.int (3 : Int32)), .val (.int (0 : Int32))] [(.int (2 : Int32)), (.int (2 : Int32))]))
      have hc33_4 : ¬ ((2 : Int32) < (2 : Int32)) := by decide
      refine GoW.st (fun t k => XS.icmpYes X35.here hx rfl (pc0 := 33) (pc' := 51) rfl (hb hby d2_33) rfl (flt hc33_4).2.1 (by decide) (by decide) (XS.iconst X35.here hx rfl (hb hby d2_51) (XS.istore X35.here hx rfl (hb hby d2_52) rfl (l' := #[.val (.ref a1), .val (.ref a2), .val (.ref b1), .val (.int (2 : Int32)), .val (.int (1 : Int32)), .val (.int (3 : Int32)), .val (.int (0 : Int32))]) rfl (XS.aloadN X35.here hx rfl (hb hby d2_54) rfl rfl (XS.iload X35.here hx rfl (hb hby d2_55) rfl (XS.iload X35.here hx rfl (hb hby d2_57) rfl k)))))) ?_
      show GoW p e below QQ (T35.setTop (mkF m 59 #[.val (.ref a1), .val (.ref a2), .val (.ref b1), .val (.int (2 : Int32)), .val (.int (1 : Int32)), .val (.int (3 : Int32)), .val (.int (0 : Int32))] [(.int (0 : Int32)), (.int (3 : Int32)), (.ref b1)]))
      have hc59_4 : (0 : Int32) = (0 : Int32) := by decide
      refine GoW.st (fun t k => XS.ifYes X35.here hx rfl (pc0 := 59) (pc' := 71) rfl (hb hby d2_59) rfl ((if0 _ _).trans (teq hc59_4).1) (by decide) (by decide) (XS.aloadN X35.here hx rfl (hb hby d2_71) rfl rfl (XS.iload X35.here hx rfl (hb hby d2_72) rfl (XS.iinc X35.here hx rfl (hb hby d2_74) rfl (l' := #[.val (.ref a1), .val (.ref a2), .val (.ref b1), .val (.int (2 : Int32)), .val (.int (2 : Int32)), .val (.int (3 : Int32)), .val (.int (0 : Int32))]) rfl (ldVJ X35 hx hZ e35 f36_V_a2 (v := (.long y1)) ⟨by decide, by decide⟩ rfl (g := (mkF m 77 #[.val (.ref a1), .val (.ref a2), .val (.ref b1), .val (.int (2 : Int32)), .val (.int (2 : Int32)), .val (.int (3 : Int32)), .val (.int (0 : Int32))] [(.int (1 : Int32)), (.ref a2), (.int (3 : Int32)), (.ref b1)])) rfl rfl (hb hby d2_77) t k))))) ?_
      show GoW p e below QQ (T35.setTop (mkF m 78 #[.val (.ref a1), .val (.ref a2), .val (.ref b1), .val (.int (2 : Int32)), .val (.int (2 : Int32)), .val (.int (3 : Int32)), .val (.int (0 : Int32))] [(.long y1), (.int (3 : Int32)), (.ref b1)]))
      obtain ⟨T37, h37, X37, e37, W37, V37, st37⟩ := stVJ X35 hx hZ e35 f36_V_b1 ⟨by decide, by decide⟩ 3 rfl (Nat.le_of_ble_eq_true rfl) (g := (mkF m 78 #[.val (.ref a1), .val (.ref a2), .val (.ref b1), .val (.int (2 : Int32)), .val (.int (2 : Int32)), .val (.int (3 : Int32)), .val (.int (0 : Int32))] [(.long y1), (.int (3 : Int32)), (.ref b1)])) rfl rfl (hb hby d2_78)
      refine GoW.st st37 ?_
      have f38_V_a1 : Arv Z h37 a1 ka .long (2 : Int32) [(.long x0), (.long x1)] (.long (0 : Int64)) := f36_V_a1.other W37 ne1_a1
      have f38_V_a2 : Arv Z h37 a2 kc .long (2 : Int32) [(.long y0), (.long y1)] (.long (0 : Int64)) := f36_V_a2.other W37 ne1_a2
      have f38_V_b1 : Arv Z h37 b1 k1 .long (4 : Int32) [(.long x0), (.long x1), (.long y0), (.long y1)] (.long (0 : Int64)) := V37
      have K37 : Keep h0 h37 [] := K35.wr W37 (Or.inr sz1)
      have N37 := Fr.snoc X37 N35 gg1
      show GoW p e below QQ (T37.setTop (mkF m 79 #[.val (.ref a1), .val (.ref a2), .val (.ref b1), .val (.int (2 : Int32)), .val (.int (2 : Int32)), .val (.int (3 : Int32)), .val (.int (0 : Int32))] []))
      refine GoW.st (fun t k => XS.iinc X37.here hx rfl (hb hby d2_79) rfl (l' := #[.val (.ref a1), .val (.ref a2), .val (.ref b1), .val (.int (2 : Int32)), .val (.int (2 : Int32)), .val (.int (4 : Int32)), .val (.int (0 : Int32))]) rfl (XS.goto X37.here hx rfl (pc0 := 82) (pc' := 16) rfl (hb hby d2_82) (by decide) (by decide) (XS.iload X37.here hx rfl (hb hby d2_16) rfl (XS.aloadN X37.here hx rfl (hb hby d2_18) rfl rfl (lnV X37 hx hZ e37 f38_V_b1 (g := (mkF m 19 #[.val (.ref a1), .val (.ref a2), .val (.ref b1), .val (.int (2 : Int32)), .val (.int (2 : Int32)), .val (.int (4 : Int32)), .val (.int (0 : Int32))] [(.ref b1), (.int (4 : Int32))])) rfl rfl (hb hby d2_19) t k))))) ?_
      show GoW p e below QQ (T37.setTop (mkF m 20 #[.val (.ref a1), .val (.ref a2), .val (.ref b1), .val (.int (2 : Int32)), .val (.int (2 : Int32)), .val (.int (4 : Int32)), .val (.int (0 : Int32))] [(.int (4 : Int32)), (.int (4 : Int32))]))
      have hc20_5 : ¬ ((4 : Int32) < (4 : Int32)) := by decide
      refine GoW.st (fun t k => XS.icmpYes X37.here hx rfl (pc0 := 20) (pc' := 85) rfl (hb hby d2_20) rfl (flt hc20_5).2.1 (by decide) (by decide) (XS.aloadN X37.here hx rfl (hb hby d2_85) rfl rfl k)) ?_
      show GoW p e below QQ (T37.setTop (mkF m 86 #[.val (.ref a1), .val (.ref a2), .val (.ref b1), .val (.int (2 : Int32)), .val (.int (2 : Int32)), .val (.int (4 : Int32)), .val (.int (0 : Int32))] [(.ref b1)]))
      exact GoW.fin X37 (some (.ref b1)) (fun q => by rw [hret] at q; cases q) hlk hQ e37 ⟨b1, k1, x0, x1, y0, y1, rfl, N37, K37, sz1, f38_V_b1, (by omega)⟩ (by decide) (by decide) (fun fs hr => retOut X37 hx hret rfl (Or.inr (Or.inr (Or.inr (Or.inr ⟨rfl, rfl, rfl⟩)))) (hb hby d2_86) hr)
theorem d3_0 : decode method_4_code 0 = .ok (.iload_n 3, 1) := by decide +kernel
theorem d3_1 : decode method_4_code 1 = .ok (.iload_n 1, 1) := by decide +kernel
theorem d3_2 : decode method_4_code 2 = .ok (.if_icmp .ge 29, 3) := by decide +kernel
theorem d3_31 : decode method_4_code 31 = .ok (.return_, 1) := by decide +kernel
def RM3_001 : Room := { frames := 0, cells := 0, slots := 0, locals := 0 }
def Q3_001 (Z : State) (a1 : Addr) (h0 : Heap) (n0 : Nat) (v : Option Value) (h : Heap) (L : List Loc) : Prop := v = none ∧ Fr n0 L ∧ h = h0
set_option maxRecDepth 65536 in
set_option maxHeartbeats 40000000 in
theorem rm3_001 (l : Launch) (Z : State) (a0 : Array Value) (hw : ∀ d ∈ tables_1, d.before a0 Z = true) (ws : List Jvm.Cond) (a1 : Addr) (h0 : Heap) (n0 : Nat) (Z0 : n0 ≤ h0.size)  :
    MetFree l (⟨"com/example/hike/hike/HoldersMergePinLaw", "cx", "([JIII)V"⟩ : MethodName) (head1 (Jvm.Cond.code (⟨"com/example/hike/hike/HoldersMergePinLaw", "cx", "([JIII)V"⟩ : MethodName) method_4_code 6 none :: ws) RM3_001) (fun a U => a = #[(.ref a1), (.int (0 : Int32)), (.int (0 : Int32)), (.int (1 : Int32))] ∧ Z.Warmed39 U.vm ∧ U.heap = h0) (fun _ _ _ _ _ => True) (fun _ U o U' => ∃ v L, o = .returned v ∧ Q3_001 Z a1 h0 n0 v U'.heap L ∧ FrameEnd U o U' L RM3_001.cells RM3_001.slots) := by
  refine met_of (Q := fun v h L => Q3_001 Z a1 h0 n0 v h L) (plainFor_of_name pn_0) (fun m => by first | (simp [entryFrame, mkF, argsToLocals, Value.category]; done) | rfl) (Ls := #[.val (.ref a1), .val (.int (0 : Int32)), .val (.int (0 : Int32)), .val (.int (1 : Int32)), .unset, .unset]) ?_
  intro p e s m below meth c T0 QQ hx hZ hby hml hown hnm hret hlk X0 e0 hQ
  have hml : c.maxLocals = 6 := hml
  have hown : s.vm.findClass "com/example/hike/hike/HoldersMergePinLaw" = some m.cls := hown
  have hnm : meth.name = "cx" := hnm
  have hret : meth.sig.returnType = none := hret
  have N0 := Fr.nil n0
  have K0 : Keep h0 h0 [] := Keep.refl h0 _
  show GoW p e below QQ (T0.setTop (mkF m 0 #[.val (.ref a1), .val (.int (0 : Int32)), .val (.int (0 : Int32)), .val (.int (1 : Int32)), .unset, .unset] []))
  refine GoW.st (fun t k => XS.iloadN X0.here hx rfl (hb hby d3_0) rfl (XS.iloadN X0.here hx rfl (hb hby d3_1) rfl k)) ?_
  show GoW p e below QQ (T0.setTop (mkF m 2 #[.val (.ref a1), .val (.int (0 : Int32)), .val (.int (0 : Int32)), .val (.int (1 : Int32)), .unset, .unset] [(.int (0 : Int32)), (.int (1 : Int32))]))
  have hc2 : ¬ ((1 : Int32) < (0 : Int32)) := by decide
  refine GoW.st (fun t k => XS.icmpYes X0.here hx rfl (pc0 := 2) (pc' := 31) rfl (hb hby d3_2) rfl (flt hc2).2.1 (by decide) (by decide) k) ?_
  show GoW p e below QQ (T0.setTop (mkF m 31 #[.val (.ref a1), .val (.int (0 : Int32)), .val (.int (0 : Int32)), .val (.int (1 : Int32)), .unset, .unset] []))
  exact GoW.fin X0 none (fun _ => rfl) hlk hQ e0 ⟨rfl, N0, rfl⟩ (by decide) (by decide) (fun fs hr => X0.returnOut hx hret (hb hby d3_31) hr)
def RM3_023 : Room := { frames := 0, cells := 0, slots := 0, locals := 0 }
def Q3_023 (Z : State) (a1 : Addr) (h0 : Heap) (n0 : Nat) (v : Option Value) (h : Heap) (L : List Loc) : Prop := v = none ∧ Fr n0 L ∧ h = h0
set_option maxRecDepth 65536 in
set_option maxHeartbeats 40000000 in
theorem rm3_023 (l : Launch) (Z : State) (a0 : Array Value) (hw : ∀ d ∈ tables_1, d.before a0 Z = true) (ws : List Jvm.Cond) (a1 : Addr) (h0 : Heap) (n0 : Nat) (Z0 : n0 ≤ h0.size)  :
    MetFree l (⟨"com/example/hike/hike/HoldersMergePinLaw", "cx", "([JIII)V"⟩ : MethodName) (head1 (Jvm.Cond.code (⟨"com/example/hike/hike/HoldersMergePinLaw", "cx", "([JIII)V"⟩ : MethodName) method_4_code 6 none :: ws) RM3_023) (fun a U => a = #[(.ref a1), (.int (0 : Int32)), (.int (2 : Int32)), (.int (3 : Int32))] ∧ Z.Warmed39 U.vm ∧ U.heap = h0) (fun _ _ _ _ _ => True) (fun _ U o U' => ∃ v L, o = .returned v ∧ Q3_023 Z a1 h0 n0 v U'.heap L ∧ FrameEnd U o U' L RM3_023.cells RM3_023.slots) := by
  refine met_of (Q := fun v h L => Q3_023 Z a1 h0 n0 v h L) (plainFor_of_name pn_0) (fun m => by first | (simp [entryFrame, mkF, argsToLocals, Value.category]; done) | rfl) (Ls := #[.val (.ref a1), .val (.int (0 : Int32)), .val (.int (2 : Int32)), .val (.int (3 : Int32)), .unset, .unset]) ?_
  intro p e s m below meth c T0 QQ hx hZ hby hml hown hnm hret hlk X0 e0 hQ
  have hml : c.maxLocals = 6 := hml
  have hown : s.vm.findClass "com/example/hike/hike/HoldersMergePinLaw" = some m.cls := hown
  have hnm : meth.name = "cx" := hnm
  have hret : meth.sig.returnType = none := hret
  have N0 := Fr.nil n0
  have K0 : Keep h0 h0 [] := Keep.refl h0 _
  show GoW p e below QQ (T0.setTop (mkF m 0 #[.val (.ref a1), .val (.int (0 : Int32)), .val (.int (2 : Int32)), .val (.int (3 : Int32)), .unset, .unset] []))
  refine GoW.st (fun t k => XS.iloadN X0.here hx rfl (hb hby d3_0) rfl (XS.iloadN X0.here hx rfl (hb hby d3_1) rfl k)) ?_
  show GoW p e below QQ (T0.setTop (mkF m 2 #[.val (.ref a1), .val (.int (0 : Int32)), .val (.int (2 : Int32)), .val (.int (3 : Int32)), .unset, .unset] [(.int (0 : Int32)), (.int (3 : Int32))]))
  have hc2 : ¬ ((3 : Int32) < (0 : Int32)) := by decide
  refine GoW.st (fun t k => XS.icmpYes X0.here hx rfl (pc0 := 2) (pc' := 31) rfl (hb hby d3_2) rfl (flt hc2).2.1 (by decide) (by decide) k) ?_
  show GoW p e below QQ (T0.setTop (mkF m 31 #[.val (.ref a1), .val (.int (0 : Int32)), .val (.int (2 : Int32)), .val (.int (3 : Int32)), .unset, .unset] []))
  exact GoW.fin X0 none (fun _ => rfl) hlk hQ e0 ⟨rfl, N0, rfl⟩ (by decide) (by decide) (fun fs hr => X0.returnOut hx hret (hb hby d3_31) hr)
def RM3_002 : Room := { frames := 0, cells := 0, slots := 0, locals := 0 }
def Q3_002 (Z : State) (a1 : Addr) (h0 : Heap) (n0 : Nat) (v : Option Value) (h : Heap) (L : List Loc) : Prop := v = none ∧ Fr n0 L ∧ h = h0
set_option maxRecDepth 65536 in
set_option maxHeartbeats 40000000 in
theorem rm3_002 (l : Launch) (Z : State) (a0 : Array Value) (hw : ∀ d ∈ tables_1, d.before a0 Z = true) (ws : List Jvm.Cond) (a1 : Addr) (h0 : Heap) (n0 : Nat) (Z0 : n0 ≤ h0.size)  :
    MetFree l (⟨"com/example/hike/hike/HoldersMergePinLaw", "cx", "([JIII)V"⟩ : MethodName) (head1 (Jvm.Cond.code (⟨"com/example/hike/hike/HoldersMergePinLaw", "cx", "([JIII)V"⟩ : MethodName) method_4_code 6 none :: ws) RM3_002) (fun a U => a = #[(.ref a1), (.int (0 : Int32)), (.int (0 : Int32)), (.int (2 : Int32))] ∧ Z.Warmed39 U.vm ∧ U.heap = h0) (fun _ _ _ _ _ => True) (fun _ U o U' => ∃ v L, o = .returned v ∧ Q3_002 Z a1 h0 n0 v U'.heap L ∧ FrameEnd U o U' L RM3_002.cells RM3_002.slots) := by
  refine met_of (Q := fun v h L => Q3_002 Z a1 h0 n0 v h L) (plainFor_of_name pn_0) (fun m => by first | (simp [entryFrame, mkF, argsToLocals, Value.category]; done) | rfl) (Ls := #[.val (.ref a1), .val (.int (0 : Int32)), .val (.int (0 : Int32)), .val (.int (2 : Int32)), .unset, .unset]) ?_
  intro p e s m below meth c T0 QQ hx hZ hby hml hown hnm hret hlk X0 e0 hQ
  have hml : c.maxLocals = 6 := hml
  have hown : s.vm.findClass "com/example/hike/hike/HoldersMergePinLaw" = some m.cls := hown
  have hnm : meth.name = "cx" := hnm
  have hret : meth.sig.returnType = none := hret
  have N0 := Fr.nil n0
  have K0 : Keep h0 h0 [] := Keep.refl h0 _
  show GoW p e below QQ (T0.setTop (mkF m 0 #[.val (.ref a1), .val (.int (0 : Int32)), .val (.int (0 : Int32)), .val (.int (2 : Int32)), .unset, .unset] []))
  refine GoW.st (fun t k => XS.iloadN X0.here hx rfl (hb hby d3_0) rfl (XS.iloadN X0.here hx rfl (hb hby d3_1) rfl k)) ?_
  show GoW p e below QQ (T0.setTop (mkF m 2 #[.val (.ref a1), .val (.int (0 : Int32)), .val (.int (0 : Int32)), .val (.int (2 : Int32)), .unset, .unset] [(.int (0 : Int32)), (.int (2 : Int32))]))
  have hc2 : ¬ ((2 : Int32) < (0 : Int32)) := by decide
  refine GoW.st (fun t k => XS.icmpYes X0.here hx rfl (pc0 := 2) (pc' := 31) rfl (hb hby d3_2) rfl (flt hc2).2.1 (by decide) (by decide) k) ?_
  show GoW p e below QQ (T0.setTop (mkF m 31 #[.val (.ref a1), .val (.int (0 : Int32)), .val (.int (0 : Int32)), .val (.int (2 : Int32)), .unset, .unset] []))
  exact GoW.fin X0 none (fun _ => rfl) hlk hQ e0 ⟨rfl, N0, rfl⟩ (by decide) (by decide) (fun fs hr => X0.returnOut hx hret (hb hby d3_31) hr)
def RM3_013 : Room := { frames := 0, cells := 0, slots := 0, locals := 0 }
def Q3_013 (Z : State) (a1 : Addr) (h0 : Heap) (n0 : Nat) (v : Option Value) (h : Heap) (L : List Loc) : Prop := v = none ∧ Fr n0 L ∧ h = h0
set_option maxRecDepth 65536 in
set_option maxHeartbeats 40000000 in
theorem rm3_013 (l : Launch) (Z : State) (a0 : Array Value) (hw : ∀ d ∈ tables_1, d.before a0 Z = true) (ws : List Jvm.Cond) (a1 : Addr) (h0 : Heap) (n0 : Nat) (Z0 : n0 ≤ h0.size)  :
    MetFree l (⟨"com/example/hike/hike/HoldersMergePinLaw", "cx", "([JIII)V"⟩ : MethodName) (head1 (Jvm.Cond.code (⟨"com/example/hike/hike/HoldersMergePinLaw", "cx", "([JIII)V"⟩ : MethodName) method_4_code 6 none :: ws) RM3_013) (fun a U => a = #[(.ref a1), (.int (0 : Int32)), (.int (1 : Int32)), (.int (3 : Int32))] ∧ Z.Warmed39 U.vm ∧ U.heap = h0) (fun _ _ _ _ _ => True) (fun _ U o U' => ∃ v L, o = .returned v ∧ Q3_013 Z a1 h0 n0 v U'.heap L ∧ FrameEnd U o U' L RM3_013.cells RM3_013.slots) := by
  refine met_of (Q := fun v h L => Q3_013 Z a1 h0 n0 v h L) (plainFor_of_name pn_0) (fun m => by first | (simp [entryFrame, mkF, argsToLocals, Value.category]; done) | rfl) (Ls := #[.val (.ref a1), .val (.int (0 : Int32)), .val (.int (1 : Int32)), .val (.int (3 : Int32)), .unset, .unset]) ?_
  intro p e s m below meth c T0 QQ hx hZ hby hml hown hnm hret hlk X0 e0 hQ
  have hml : c.maxLocals = 6 := hml
  have hown : s.vm.findClass "com/example/hike/hike/HoldersMergePinLaw" = some m.cls := hown
  have hnm : meth.name = "cx" := hnm
  have hret : meth.sig.returnType = none := hret
  have N0 := Fr.nil n0
  have K0 : Keep h0 h0 [] := Keep.refl h0 _
  show GoW p e below QQ (T0.setTop (mkF m 0 #[.val (.ref a1), .val (.int (0 : Int32)), .val (.int (1 : Int32)), .val (.int (3 : Int32)), .unset, .unset] []))
  refine GoW.st (fun t k => XS.iloadN X0.here hx rfl (hb hby d3_0) rfl (XS.iloadN X0.here hx rfl (hb hby d3_1) rfl k)) ?_
  show GoW p e below QQ (T0.setTop (mkF m 2 #[.val (.ref a1), .val (.int (0 : Int32)), .val (.int (1 : Int32)), .val (.int (3 : Int32)), .unset, .unset] [(.int (0 : Int32)), (.int (3 : Int32))]))
  have hc2 : ¬ ((3 : Int32) < (0 : Int32)) := by decide
  refine GoW.st (fun t k => XS.icmpYes X0.here hx rfl (pc0 := 2) (pc' := 31) rfl (hb hby d3_2) rfl (flt hc2).2.1 (by decide) (by decide) k) ?_
  show GoW p e below QQ (T0.setTop (mkF m 31 #[.val (.ref a1), .val (.int (0 : Int32)), .val (.int (1 : Int32)), .val (.int (3 : Int32)), .unset, .unset] []))
  exact GoW.fin X0 none (fun _ => rfl) hlk hQ e0 ⟨rfl, N0, rfl⟩ (by decide) (by decide) (fun fs hr => X0.returnOut hx hret (hb hby d3_31) hr)
def RM3_012 : Room := { frames := 0, cells := 0, slots := 0, locals := 0 }
def Q3_012 (Z : State) (a1 : Addr) (h0 : Heap) (n0 : Nat) (v : Option Value) (h : Heap) (L : List Loc) : Prop := v = none ∧ Fr n0 L ∧ h = h0
set_option maxRecDepth 65536 in
set_option maxHeartbeats 40000000 in
theorem rm3_012 (l : Launch) (Z : State) (a0 : Array Value) (hw : ∀ d ∈ tables_1, d.before a0 Z = true) (ws : List Jvm.Cond) (a1 : Addr) (h0 : Heap) (n0 : Nat) (Z0 : n0 ≤ h0.size)  :
    MetFree l (⟨"com/example/hike/hike/HoldersMergePinLaw", "cx", "([JIII)V"⟩ : MethodName) (head1 (Jvm.Cond.code (⟨"com/example/hike/hike/HoldersMergePinLaw", "cx", "([JIII)V"⟩ : MethodName) method_4_code 6 none :: ws) RM3_012) (fun a U => a = #[(.ref a1), (.int (0 : Int32)), (.int (1 : Int32)), (.int (2 : Int32))] ∧ Z.Warmed39 U.vm ∧ U.heap = h0) (fun _ _ _ _ _ => True) (fun _ U o U' => ∃ v L, o = .returned v ∧ Q3_012 Z a1 h0 n0 v U'.heap L ∧ FrameEnd U o U' L RM3_012.cells RM3_012.slots) := by
  refine met_of (Q := fun v h L => Q3_012 Z a1 h0 n0 v h L) (plainFor_of_name pn_0) (fun m => by first | (simp [entryFrame, mkF, argsToLocals, Value.category]; done) | rfl) (Ls := #[.val (.ref a1), .val (.int (0 : Int32)), .val (.int (1 : Int32)), .val (.int (2 : Int32)), .unset, .unset]) ?_
  intro p e s m below meth c T0 QQ hx hZ hby hml hown hnm hret hlk X0 e0 hQ
  have hml : c.maxLocals = 6 := hml
  have hown : s.vm.findClass "com/example/hike/hike/HoldersMergePinLaw" = some m.cls := hown
  have hnm : meth.name = "cx" := hnm
  have hret : meth.sig.returnType = none := hret
  have N0 := Fr.nil n0
  have K0 : Keep h0 h0 [] := Keep.refl h0 _
  show GoW p e below QQ (T0.setTop (mkF m 0 #[.val (.ref a1), .val (.int (0 : Int32)), .val (.int (1 : Int32)), .val (.int (2 : Int32)), .unset, .unset] []))
  refine GoW.st (fun t k => XS.iloadN X0.here hx rfl (hb hby d3_0) rfl (XS.iloadN X0.here hx rfl (hb hby d3_1) rfl k)) ?_
  show GoW p e below QQ (T0.setTop (mkF m 2 #[.val (.ref a1), .val (.int (0 : Int32)), .val (.int (1 : Int32)), .val (.int (2 : Int32)), .unset, .unset] [(.int (0 : Int32)), (.int (2 : Int32))]))
  have hc2 : ¬ ((2 : Int32) < (0 : Int32)) := by decide
  refine GoW.st (fun t k => XS.icmpYes X0.here hx rfl (pc0 := 2) (pc' := 31) rfl (hb hby d3_2) rfl (flt hc2).2.1 (by decide) (by decide) k) ?_
  show GoW p e below QQ (T0.setTop (mkF m 31 #[.val (.ref a1), .val (.int (0 : Int32)), .val (.int (1 : Int32)), .val (.int (2 : Int32)), .unset, .unset] []))
  exact GoW.fin X0 none (fun _ => rfl) hlk hQ e0 ⟨rfl, N0, rfl⟩ (by decide) (by decide) (fun fs hr => X0.returnOut hx hret (hb hby d3_31) hr)
def RM3_101 : Room := { frames := 0, cells := 0, slots := 0, locals := 0 }
def Q3_101 (Z : State) (a1 : Addr) (h0 : Heap) (n0 : Nat) (v : Option Value) (h : Heap) (L : List Loc) : Prop := v = none ∧ Fr n0 L ∧ h = h0
set_option maxRecDepth 65536 in
set_option maxHeartbeats 40000000 in
theorem rm3_101 (l : Launch) (Z : State) (a0 : Array Value) (hw : ∀ d ∈ tables_1, d.before a0 Z = true) (ws : List Jvm.Cond) (a1 : Addr) (h0 : Heap) (n0 : Nat) (Z0 : n0 ≤ h0.size)  :
    MetFree l (⟨"com/example/hike/hike/HoldersMergePinLaw", "cx", "([JIII)V"⟩ : MethodName) (head1 (Jvm.Cond.code (⟨"com/example/hike/hike/HoldersMergePinLaw", "cx", "([JIII)V"⟩ : MethodName) method_4_code 6 none :: ws) RM3_101) (fun a U => a = #[(.ref a1), (.int (1 : Int32)), (.int (0 : Int32)), (.int (1 : Int32))] ∧ Z.Warmed39 U.vm ∧ U.heap = h0) (fun _ _ _ _ _ => True) (fun _ U o U' => ∃ v L, o = .returned v ∧ Q3_101 Z a1 h0 n0 v U'.heap L ∧ FrameEnd U o U' L RM3_101.cells RM3_101.slots) := by
  refine met_of (Q := fun v h L => Q3_101 Z a1 h0 n0 v h L) (plainFor_of_name pn_0) (fun m => by first | (simp [entryFrame, mkF, argsToLocals, Value.category]; done) | rfl) (Ls := #[.val (.ref a1), .val (.int (1 : Int32)), .val (.int (0 : Int32)), .val (.int (1 : Int32)), .unset, .unset]) ?_
  intro p e s m below meth c T0 QQ hx hZ hby hml hown hnm hret hlk X0 e0 hQ
  have hml : c.maxLocals = 6 := hml
  have hown : s.vm.findClass "com/example/hike/hike/HoldersMergePinLaw" = some m.cls := hown
  have hnm : meth.name = "cx" := hnm
  have hret : meth.sig.returnType = none := hret
  have N0 := Fr.nil n0
  have K0 : Keep h0 h0 [] := Keep.refl h0 _
  show GoW p e below QQ (T0.setTop (mkF m 0 #[.val (.ref a1), .val (.int (1 : Int32)), .val (.int (0 : Int32)), .val (.int (1 : Int32)), .unset, .unset] []))
  refine GoW.st (fun t k => XS.iloadN X0.here hx rfl (hb hby d3_0) rfl (XS.iloadN X0.here hx rfl (hb hby d3_1) rfl k)) ?_
  show GoW p e below QQ (T0.setTop (mkF m 2 #[.val (.ref a1), .val (.int (1 : Int32)), .val (.int (0 : Int32)), .val (.int (1 : Int32)), .unset, .unset] [(.int (1 : Int32)), (.int (1 : Int32))]))
  have hc2 : ¬ ((1 : Int32) < (1 : Int32)) := by decide
  refine GoW.st (fun t k => XS.icmpYes X0.here hx rfl (pc0 := 2) (pc' := 31) rfl (hb hby d3_2) rfl (flt hc2).2.1 (by decide) (by decide) k) ?_
  show GoW p e below QQ (T0.setTop (mkF m 31 #[.val (.ref a1), .val (.int (1 : Int32)), .val (.int (0 : Int32)), .val (.int (1 : Int32)), .unset, .unset] []))
  exact GoW.fin X0 none (fun _ => rfl) hlk hQ e0 ⟨rfl, N0, rfl⟩ (by decide) (by decide) (fun fs hr => X0.returnOut hx hret (hb hby d3_31) hr)
def RM3_123 : Room := { frames := 0, cells := 0, slots := 0, locals := 0 }
def Q3_123 (Z : State) (a1 : Addr) (h0 : Heap) (n0 : Nat) (v : Option Value) (h : Heap) (L : List Loc) : Prop := v = none ∧ Fr n0 L ∧ h = h0
set_option maxRecDepth 65536 in
set_option maxHeartbeats 40000000 in
theorem rm3_123 (l : Launch) (Z : State) (a0 : Array Value) (hw : ∀ d ∈ tables_1, d.before a0 Z = true) (ws : List Jvm.Cond) (a1 : Addr) (h0 : Heap) (n0 : Nat) (Z0 : n0 ≤ h0.size)  :
    MetFree l (⟨"com/example/hike/hike/HoldersMergePinLaw", "cx", "([JIII)V"⟩ : MethodName) (head1 (Jvm.Cond.code (⟨"com/example/hike/hike/HoldersMergePinLaw", "cx", "([JIII)V"⟩ : MethodName) method_4_code 6 none :: ws) RM3_123) (fun a U => a = #[(.ref a1), (.int (1 : Int32)), (.int (2 : Int32)), (.int (3 : Int32))] ∧ Z.Warmed39 U.vm ∧ U.heap = h0) (fun _ _ _ _ _ => True) (fun _ U o U' => ∃ v L, o = .returned v ∧ Q3_123 Z a1 h0 n0 v U'.heap L ∧ FrameEnd U o U' L RM3_123.cells RM3_123.slots) := by
  refine met_of (Q := fun v h L => Q3_123 Z a1 h0 n0 v h L) (plainFor_of_name pn_0) (fun m => by first | (simp [entryFrame, mkF, argsToLocals, Value.category]; done) | rfl) (Ls := #[.val (.ref a1), .val (.int (1 : Int32)), .val (.int (2 : Int32)), .val (.int (3 : Int32)), .unset, .unset]) ?_
  intro p e s m below meth c T0 QQ hx hZ hby hml hown hnm hret hlk X0 e0 hQ
  have hml : c.maxLocals = 6 := hml
  have hown : s.vm.findClass "com/example/hike/hike/HoldersMergePinLaw" = some m.cls := hown
  have hnm : meth.name = "cx" := hnm
  have hret : meth.sig.returnType = none := hret
  have N0 := Fr.nil n0
  have K0 : Keep h0 h0 [] := Keep.refl h0 _
  show GoW p e below QQ (T0.setTop (mkF m 0 #[.val (.ref a1), .val (.int (1 : Int32)), .val (.int (2 : Int32)), .val (.int (3 : Int32)), .unset, .unset] []))
  refine GoW.st (fun t k => XS.iloadN X0.here hx rfl (hb hby d3_0) rfl (XS.iloadN X0.here hx rfl (hb hby d3_1) rfl k)) ?_
  show GoW p e below QQ (T0.setTop (mkF m 2 #[.val (.ref a1), .val (.int (1 : Int32)), .val (.int (2 : Int32)), .val (.int (3 : Int32)), .unset, .unset] [(.int (1 : Int32)), (.int (3 : Int32))]))
  have hc2 : ¬ ((3 : Int32) < (1 : Int32)) := by decide
  refine GoW.st (fun t k => XS.icmpYes X0.here hx rfl (pc0 := 2) (pc' := 31) rfl (hb hby d3_2) rfl (flt hc2).2.1 (by decide) (by decide) k) ?_
  show GoW p e below QQ (T0.setTop (mkF m 31 #[.val (.ref a1), .val (.int (1 : Int32)), .val (.int (2 : Int32)), .val (.int (3 : Int32)), .unset, .unset] []))
  exact GoW.fin X0 none (fun _ => rfl) hlk hQ e0 ⟨rfl, N0, rfl⟩ (by decide) (by decide) (fun fs hr => X0.returnOut hx hret (hb hby d3_31) hr)
def RM3_102 : Room := { frames := 0, cells := 0, slots := 0, locals := 0 }
def Q3_102 (Z : State) (a1 : Addr) (h0 : Heap) (n0 : Nat) (v : Option Value) (h : Heap) (L : List Loc) : Prop := v = none ∧ Fr n0 L ∧ h = h0
set_option maxRecDepth 65536 in
set_option maxHeartbeats 40000000 in
theorem rm3_102 (l : Launch) (Z : State) (a0 : Array Value) (hw : ∀ d ∈ tables_1, d.before a0 Z = true) (ws : List Jvm.Cond) (a1 : Addr) (h0 : Heap) (n0 : Nat) (Z0 : n0 ≤ h0.size)  :
    MetFree l (⟨"com/example/hike/hike/HoldersMergePinLaw", "cx", "([JIII)V"⟩ : MethodName) (head1 (Jvm.Cond.code (⟨"com/example/hike/hike/HoldersMergePinLaw", "cx", "([JIII)V"⟩ : MethodName) method_4_code 6 none :: ws) RM3_102) (fun a U => a = #[(.ref a1), (.int (1 : Int32)), (.int (0 : Int32)), (.int (2 : Int32))] ∧ Z.Warmed39 U.vm ∧ U.heap = h0) (fun _ _ _ _ _ => True) (fun _ U o U' => ∃ v L, o = .returned v ∧ Q3_102 Z a1 h0 n0 v U'.heap L ∧ FrameEnd U o U' L RM3_102.cells RM3_102.slots) := by
  refine met_of (Q := fun v h L => Q3_102 Z a1 h0 n0 v h L) (plainFor_of_name pn_0) (fun m => by first | (simp [entryFrame, mkF, argsToLocals, Value.category]; done) | rfl) (Ls := #[.val (.ref a1), .val (.int (1 : Int32)), .val (.int (0 : Int32)), .val (.int (2 : Int32)), .unset, .unset]) ?_
  intro p e s m below meth c T0 QQ hx hZ hby hml hown hnm hret hlk X0 e0 hQ
  have hml : c.maxLocals = 6 := hml
  have hown : s.vm.findClass "com/example/hike/hike/HoldersMergePinLaw" = some m.cls := hown
  have hnm : meth.name = "cx" := hnm
  have hret : meth.sig.returnType = none := hret
  have N0 := Fr.nil n0
  have K0 : Keep h0 h0 [] := Keep.refl h0 _
  show GoW p e below QQ (T0.setTop (mkF m 0 #[.val (.ref a1), .val (.int (1 : Int32)), .val (.int (0 : Int32)), .val (.int (2 : Int32)), .unset, .unset] []))
  refine GoW.st (fun t k => XS.iloadN X0.here hx rfl (hb hby d3_0) rfl (XS.iloadN X0.here hx rfl (hb hby d3_1) rfl k)) ?_
  show GoW p e below QQ (T0.setTop (mkF m 2 #[.val (.ref a1), .val (.int (1 : Int32)), .val (.int (0 : Int32)), .val (.int (2 : Int32)), .unset, .unset] [(.int (1 : Int32)), (.int (2 : Int32))]))
  have hc2 : ¬ ((2 : Int32) < (1 : Int32)) := by decide
  refine GoW.st (fun t k => XS.icmpYes X0.here hx rfl (pc0 := 2) (pc' := 31) rfl (hb hby d3_2) rfl (flt hc2).2.1 (by decide) (by decide) k) ?_
  show GoW p e below QQ (T0.setTop (mkF m 31 #[.val (.ref a1), .val (.int (1 : Int32)), .val (.int (0 : Int32)), .val (.int (2 : Int32)), .unset, .unset] []))
  exact GoW.fin X0 none (fun _ => rfl) hlk hQ e0 ⟨rfl, N0, rfl⟩ (by decide) (by decide) (fun fs hr => X0.returnOut hx hret (hb hby d3_31) hr)
def RM3_113 : Room := { frames := 0, cells := 0, slots := 0, locals := 0 }
def Q3_113 (Z : State) (a1 : Addr) (h0 : Heap) (n0 : Nat) (v : Option Value) (h : Heap) (L : List Loc) : Prop := v = none ∧ Fr n0 L ∧ h = h0
set_option maxRecDepth 65536 in
set_option maxHeartbeats 40000000 in
theorem rm3_113 (l : Launch) (Z : State) (a0 : Array Value) (hw : ∀ d ∈ tables_1, d.before a0 Z = true) (ws : List Jvm.Cond) (a1 : Addr) (h0 : Heap) (n0 : Nat) (Z0 : n0 ≤ h0.size)  :
    MetFree l (⟨"com/example/hike/hike/HoldersMergePinLaw", "cx", "([JIII)V"⟩ : MethodName) (head1 (Jvm.Cond.code (⟨"com/example/hike/hike/HoldersMergePinLaw", "cx", "([JIII)V"⟩ : MethodName) method_4_code 6 none :: ws) RM3_113) (fun a U => a = #[(.ref a1), (.int (1 : Int32)), (.int (1 : Int32)), (.int (3 : Int32))] ∧ Z.Warmed39 U.vm ∧ U.heap = h0) (fun _ _ _ _ _ => True) (fun _ U o U' => ∃ v L, o = .returned v ∧ Q3_113 Z a1 h0 n0 v U'.heap L ∧ FrameEnd U o U' L RM3_113.cells RM3_113.slots) := by
  refine met_of (Q := fun v h L => Q3_113 Z a1 h0 n0 v h L) (plainFor_of_name pn_0) (fun m => by first | (simp [entryFrame, mkF, argsToLocals, Value.category]; done) | rfl) (Ls := #[.val (.ref a1), .val (.int (1 : Int32)), .val (.int (1 : Int32)), .val (.int (3 : Int32)), .unset, .unset]) ?_
  intro p e s m below meth c T0 QQ hx hZ hby hml hown hnm hret hlk X0 e0 hQ
  have hml : c.maxLocals = 6 := hml
  have hown : s.vm.findClass "com/example/hike/hike/HoldersMergePinLaw" = some m.cls := hown
  have hnm : meth.name = "cx" := hnm
  have hret : meth.sig.returnType = none := hret
  have N0 := Fr.nil n0
  have K0 : Keep h0 h0 [] := Keep.refl h0 _
  show GoW p e below QQ (T0.setTop (mkF m 0 #[.val (.ref a1), .val (.int (1 : Int32)), .val (.int (1 : Int32)), .val (.int (3 : Int32)), .unset, .unset] []))
  refine GoW.st (fun t k => XS.iloadN X0.here hx rfl (hb hby d3_0) rfl (XS.iloadN X0.here hx rfl (hb hby d3_1) rfl k)) ?_
  show GoW p e below QQ (T0.setTop (mkF m 2 #[.val (.ref a1), .val (.int (1 : Int32)), .val (.int (1 : Int32)), .val (.int (3 : Int32)), .unset, .unset] [(.int (1 : Int32)), (.int (3 : Int32))]))
  have hc2 : ¬ ((3 : Int32) < (1 : Int32)) := by decide
  refine GoW.st (fun t k => XS.icmpYes X0.here hx rfl (pc0 := 2) (pc' := 31) rfl (hb hby d3_2) rfl (flt hc2).2.1 (by decide) (by decide) k) ?_
  show GoW p e below QQ (T0.setTop (mkF m 31 #[.val (.ref a1), .val (.int (1 : Int32)), .val (.int (1 : Int32)), .val (.int (3 : Int32)), .unset, .unset] []))
  exact GoW.fin X0 none (fun _ => rfl) hlk hQ e0 ⟨rfl, N0, rfl⟩ (by decide) (by decide) (fun fs hr => X0.returnOut hx hret (hb hby d3_31) hr)
def RM3_112 : Room := { frames := 0, cells := 0, slots := 0, locals := 0 }
def Q3_112 (Z : State) (a1 : Addr) (h0 : Heap) (n0 : Nat) (v : Option Value) (h : Heap) (L : List Loc) : Prop := v = none ∧ Fr n0 L ∧ h = h0
set_option maxRecDepth 65536 in
set_option maxHeartbeats 40000000 in
theorem rm3_112 (l : Launch) (Z : State) (a0 : Array Value) (hw : ∀ d ∈ tables_1, d.before a0 Z = true) (ws : List Jvm.Cond) (a1 : Addr) (h0 : Heap) (n0 : Nat) (Z0 : n0 ≤ h0.size)  :
    MetFree l (⟨"com/example/hike/hike/HoldersMergePinLaw", "cx", "([JIII)V"⟩ : MethodName) (head1 (Jvm.Cond.code (⟨"com/example/hike/hike/HoldersMergePinLaw", "cx", "([JIII)V"⟩ : MethodName) method_4_code 6 none :: ws) RM3_112) (fun a U => a = #[(.ref a1), (.int (1 : Int32)), (.int (1 : Int32)), (.int (2 : Int32))] ∧ Z.Warmed39 U.vm ∧ U.heap = h0) (fun _ _ _ _ _ => True) (fun _ U o U' => ∃ v L, o = .returned v ∧ Q3_112 Z a1 h0 n0 v U'.heap L ∧ FrameEnd U o U' L RM3_112.cells RM3_112.slots) := by
  refine met_of (Q := fun v h L => Q3_112 Z a1 h0 n0 v h L) (plainFor_of_name pn_0) (fun m => by first | (simp [entryFrame, mkF, argsToLocals, Value.category]; done) | rfl) (Ls := #[.val (.ref a1), .val (.int (1 : Int32)), .val (.int (1 : Int32)), .val (.int (2 : Int32)), .unset, .unset]) ?_
  intro p e s m below meth c T0 QQ hx hZ hby hml hown hnm hret hlk X0 e0 hQ
  have hml : c.maxLocals = 6 := hml
  have hown : s.vm.findClass "com/example/hike/hike/HoldersMergePinLaw" = some m.cls := hown
  have hnm : meth.name = "cx" := hnm
  have hret : meth.sig.returnType = none := hret
  have N0 := Fr.nil n0
  have K0 : Keep h0 h0 [] := Keep.refl h0 _
  show GoW p e below QQ (T0.setTop (mkF m 0 #[.val (.ref a1), .val (.int (1 : Int32)), .val (.int (1 : Int32)), .val (.int (2 : Int32)), .unset, .unset] []))
  refine GoW.st (fun t k => XS.iloadN X0.here hx rfl (hb hby d3_0) rfl (XS.iloadN X0.here hx rfl (hb hby d3_1) rfl k)) ?_
  show GoW p e below QQ (T0.setTop (mkF m 2 #[.val (.ref a1), .val (.int (1 : Int32)), .val (.int (1 : Int32)), .val (.int (2 : Int32)), .unset, .unset] [(.int (1 : Int32)), (.int (2 : Int32))]))
  have hc2 : ¬ ((2 : Int32) < (1 : Int32)) := by decide
  refine GoW.st (fun t k => XS.icmpYes X0.here hx rfl (pc0 := 2) (pc' := 31) rfl (hb hby d3_2) rfl (flt hc2).2.1 (by decide) (by decide) k) ?_
  show GoW p e below QQ (T0.setTop (mkF m 31 #[.val (.ref a1), .val (.int (1 : Int32)), .val (.int (1 : Int32)), .val (.int (2 : Int32)), .unset, .unset] []))
  exact GoW.fin X0 none (fun _ => rfl) hlk hQ e0 ⟨rfl, N0, rfl⟩ (by decide) (by decide) (fun fs hr => X0.returnOut hx hret (hb hby d3_31) hr)
theorem d3_5 : decode method_4_code 5 = .ok (.aload_n 0, 1) := by decide +kernel
theorem d3_6 : decode method_4_code 6 = .ok (.iload_n 2, 1) := by decide +kernel
theorem d3_7 : decode method_4_code 7 = .ok (.laload, 1) := by decide +kernel
theorem d3_8 : decode method_4_code 8 = .ok (.aload_n 0, 1) := by decide +kernel
theorem d3_9 : decode method_4_code 9 = .ok (.iload_n 3, 1) := by decide +kernel
theorem d3_10 : decode method_4_code 10 = .ok (.laload, 1) := by decide +kernel
theorem d3_11 : decode method_4_code 11 = .ok (.lcmp, 1) := by decide +kernel
theorem d3_12 : decode method_4_code 12 = .ok (.ifCond .le 19, 3) := by decide +kernel
theorem d3_15 : decode method_4_code 15 = .ok (.aload_n 0, 1) := by decide +kernel
theorem d3_16 : decode method_4_code 16 = .ok (.iload_n 2, 1) := by decide +kernel
theorem d3_17 : decode method_4_code 17 = .ok (.laload, 1) := by decide +kernel
theorem d3_18 : decode method_4_code 18 = .ok (.lstore 4, 2) := by decide +kernel
theorem d3_20 : decode method_4_code 20 = .ok (.aload_n 0, 1) := by decide +kernel
theorem d3_21 : decode method_4_code 21 = .ok (.iload_n 2, 1) := by decide +kernel
theorem d3_22 : decode method_4_code 22 = .ok (.aload_n 0, 1) := by decide +kernel
theorem d3_23 : decode method_4_code 23 = .ok (.iload_n 3, 1) := by decide +kernel
theorem d3_24 : decode method_4_code 24 = .ok (.laload, 1) := by decide +kernel
theorem d3_25 : decode method_4_code 25 = .ok (.lastore, 1) := by decide +kernel
theorem d3_26 : decode method_4_code 26 = .ok (.aload_n 0, 1) := by decide +kernel
theorem d3_27 : decode method_4_code 27 = .ok (.iload_n 3, 1) := by decide +kernel
theorem d3_28 : decode method_4_code 28 = .ok (.lload 4, 2) := by decide +kernel
theorem d3_30 : decode method_4_code 30 = .ok (.lastore, 1) := by decide +kernel
def RM3_201 : Room := { frames := 0, cells := 0, slots := 0, locals := 0 }
def Q3_201 (Z : State) (a1 : Addr) (ka : ClassId) (ev0 : Int64) (ev1 : Int64) (ev2 : Int64) (ev3 : Int64) (h0 : Heap) (n0 : Nat) (v : Option Value) (h : Heap) (L : List Loc) : Prop := ∃ (wa : Int64) (wb : Int64), v = none ∧ Fr n0 L ∧ Keep h0 h [a1] ∧ (Arv Z h a1 ka .long (4 : Int32) [(.long wa), (.long wb), (.long ev2), (.long ev3)] (.long (0 : Int64))) ∧ (wa.toInt = min ev0.toInt ev1.toInt ∧ wb.toInt = max ev0.toInt ev1.toInt)
set_option maxRecDepth 65536 in
set_option maxHeartbeats 40000000 in
theorem rm3_201 (l : Launch) (Z : State) (a0 : Array Value) (hw : ∀ d ∈ tables_1, d.before a0 Z = true) (ws : List Jvm.Cond) (a1 : Addr) (ka : ClassId) (ev0 : Int64) (ev1 : Int64) (ev2 : Int64) (ev3 : Int64) (h0 : Heap) (n0 : Nat) (Z0 : n0 ≤ h0.size) (pre_V_a1 : Arv Z h0 a1 ka .long (4 : Int32) [(.long ev0), (.long ev1), (.long ev2), (.long ev3)] (.long (0 : Int64))) (pre_g_a1 : n0 ≤ a1) :
    MetFree l (⟨"com/example/hike/hike/HoldersMergePinLaw", "cx", "([JIII)V"⟩ : MethodName) (head1 (Jvm.Cond.code (⟨"com/example/hike/hike/HoldersMergePinLaw", "cx", "([JIII)V"⟩ : MethodName) method_4_code 6 none :: ws) RM3_201) (fun a U => a = #[(.ref a1), (.int (2 : Int32)), (.int (0 : Int32)), (.int (1 : Int32))] ∧ Z.Warmed39 U.vm ∧ U.heap = h0) (fun _ _ _ _ _ => True) (fun _ U o U' => ∃ v L, o = .returned v ∧ Q3_201 Z a1 ka ev0 ev1 ev2 ev3 h0 n0 v U'.heap L ∧ FrameEnd U o U' L RM3_201.cells RM3_201.slots) := by
  refine met_of (Q := fun v h L => Q3_201 Z a1 ka ev0 ev1 ev2 ev3 h0 n0 v h L) (plainFor_of_name pn_0) (fun m => by first | (simp [entryFrame, mkF, argsToLocals, Value.category]; done) | rfl) (Ls := #[.val (.ref a1), .val (.int (2 : Int32)), .val (.int (0 : Int32)), .val (.int (1 : Int32)), .unset, .unset]) ?_
  intro p e s m below meth c T0 QQ hx hZ hby hml hown hnm hret hlk X0 e0 hQ
  have hml : c.maxLocals = 6 := hml
  have hown : s.vm.findClass "com/example/hike/hike/HoldersMergePinLaw" = some m.cls := hown
  have hnm : meth.name = "cx" := hnm
  have hret : meth.sig.returnType = none := hret
  have N0 := Fr.nil n0
  have K0 : Keep h0 h0 [a1] := Keep.refl h0 _
  show GoW p e below QQ (T0.setTop (mkF m 0 #[.val (.ref a1), .val (.int (2 : Int32)), .val (.int (0 : Int32)), .val (.int (1 : Int32)), .unset, .unset] []))
  refine GoW.st (fun t k => XS.iloadN X0.here hx rfl (hb hby d3_0) rfl (XS.iloadN X0.here hx rfl (hb hby d3_1) rfl k)) ?_
  show GoW p e below QQ (T0.setTop (mkF m 2 #[.val (.ref a1), .val (.int (2 : Int32)), .val (.int (0 : Int32)), .val (.int (1 : Int32)), .unset, .unset] [(.int (2 : Int32)), (.int (1 : Int32))]))
  have hc2 : (1 : Int32) < (2 : Int32) := by decide
  refine GoW.st (fun t k => XS.icmpNo X0.here hx rfl (hb hby d3_2) rfl (tlt hc2).2.1 (XS.aloadN X0.here hx rfl (hb hby d3_5) rfl rfl (XS.iloadN X0.here hx rfl (hb hby d3_6) rfl (ldVJ X0 hx hZ e0 pre_V_a1 (v := (.long ev0)) ⟨by decide, by decide⟩ rfl (g := (mkF m 7 #[.val (.ref a1), .val (.int (2 : Int32)), .val (.int (0 : Int32)), .val (.int (1 : Int32)), .unset, .unset] [(.int (0 : Int32)), (.ref a1)])) rfl rfl (hb hby d3_7) t (XS.aloadN X0.here hx rfl (hb hby d3_8) rfl rfl (XS.iloadN X0.here hx rfl (hb hby d3_9) rfl k)))))) ?_
  show GoW p e below QQ (T0.setTop (mkF m 10 #[.val (.ref a1), .val (.int (2 : Int32)), .val (.int (0 : Int32)), .val (.int (1 : Int32)), .unset, .unset] [(.int (1 : Int32)), (.ref a1), (.long ev0)]))
  refine GoW.st (fun t k => ldVJ X0 hx hZ e0 pre_V_a1 (v := (.long ev1)) ⟨by decide, by decide⟩ rfl (g := (mkF m 10 #[.val (.ref a1), .val (.int (2 : Int32)), .val (.int (0 : Int32)), .val (.int (1 : Int32)), .unset, .unset] [(.int (1 : Int32)), (.ref a1), (.long ev0)])) rfl rfl (hb hby d3_10) t (XS.lcmp X0.here hx rfl (hb hby d3_11) rfl k)) ?_
  show GoW p e below QQ (T0.setTop (mkF m 12 #[.val (.ref a1), .val (.int (2 : Int32)), .val (.int (0 : Int32)), .val (.int (1 : Int32)), .unset, .unset] [(.int (lcmpW ev0 ev1))]))
  by_cases hc12 : ev1 < ev0
  · skip
    refine GoW.st (fun t k => XS.ifNo X0.here hx rfl (hb hby d3_12) rfl ((if0 _ _).trans (tlt ((lw_gt ev0 ev1).mpr hc12)).2.2.2) k) ?_
    show GoW p e below QQ (T0.setTop (mkF m 15 #[.val (.ref a1), .val (.int (2 : Int32)), .val (.int (0 : Int32)), .val (.int (1 : Int32)), .unset, .unset] []))
    have hi12 : ev1.toInt < ev0.toInt := (Int64.lt_iff_toInt_lt.mp hc12)
    refine GoW.st (fun t k => XS.aloadN X0.here hx rfl (hb hby d3_15) rfl rfl (XS.iloadN X0.here hx rfl (hb hby d3_16) rfl (ldVJ X0 hx hZ e0 pre_V_a1 (v := (.long ev0)) ⟨by decide, by decide⟩ rfl (g := (mkF m 17 #[.val (.ref a1), .val (.int (2 : Int32)), .val (.int (0 : Int32)), .val (.int (1 : Int32)), .unset, .unset] [(.int (0 : Int32)), (.ref a1)])) rfl rfl (hb hby d3_17) t (XS.lstore X0.here hx rfl (hb hby d3_18) rfl (l' := #[.val (.ref a1), .val (.int (2 : Int32)), .val (.int (0 : Int32)), .val (.int (1 : Int32)), .val (.long ev0), .second]) rfl (XS.aloadN X0.here hx rfl (hb hby d3_20) rfl rfl (XS.iloadN X0.here hx rfl (hb hby d3_21) rfl k)))))) ?_
    show GoW p e below QQ (T0.setTop (mkF m 22 #[.val (.ref a1), .val (.int (2 : Int32)), .val (.int (0 : Int32)), .val (.int (1 : Int32)), .val (.long ev0), .second] [(.int (0 : Int32)), (.ref a1)]))
    refine GoW.st (fun t k => XS.aloadN X0.here hx rfl (hb hby d3_22) rfl rfl (XS.iloadN X0.here hx rfl (hb hby d3_23) rfl (ldVJ X0 hx hZ e0 pre_V_a1 (v := (.long ev1)) ⟨by decide, by decide⟩ rfl (g := (mkF m 24 #[.val (.ref a1), .val (.int (2 : Int32)), .val (.int (0 : Int32)), .val (.int (1 : Int32)), .val (.long ev0), .second] [(.int (1 : Int32)), (.ref a1), (.int (0 : Int32)), (.ref a1)])) rfl rfl (hb hby d3_24) t k))) ?_
    show GoW p e below QQ (T0.setTop (mkF m 25 #[.val (.ref a1), .val (.int (2 : Int32)), .val (.int (0 : Int32)), .val (.int (1 : Int32)), .val (.long ev0), .second] [(.long ev1), (.int (0 : Int32)), (.ref a1)]))
    obtain ⟨T1, h1, X1, e1, W1, V1, st1⟩ := stVJ X0 hx hZ e0 pre_V_a1 ⟨by decide, by decide⟩ 0 rfl (Nat.le_of_ble_eq_true rfl) (g := (mkF m 25 #[.val (.ref a1), .val (.int (2 : Int32)), .val (.int (0 : Int32)), .val (.int (1 : Int32)), .val (.long ev0), .second] [(.long ev1), (.int (0 : Int32)), (.ref a1)])) rfl rfl (hb hby d3_25)
    refine GoW.st st1 ?_
    have f2_V_a1 : Arv Z h1 a1 ka .long (4 : Int32) [(.long ev1), (.long ev1), (.long ev2), (.long ev3)] (.long (0 : Int64)) := V1
    have K1 : Keep h0 h1 [a1] := K0.wr W1 (Or.inl (List.mem_of_getElem? (i := 0) rfl))
    have N1 := Fr.snoc X1 N0 pre_g_a1
    show GoW p e below QQ (T1.setTop (mkF m 26 #[.val (.ref a1), .val (.int (2 : Int32)), .val (.int (0 : Int32)), .val (.int (1 : Int32)), .val (.long ev0), .second] []))
    refine GoW.st (fun t k => XS.aloadN X1.here hx rfl (hb hby d3_26) rfl rfl (XS.iloadN X1.here hx rfl (hb hby d3_27) rfl (XS.lload X1.here hx rfl (hb hby d3_28) rfl k))) ?_
    show GoW p e below QQ (T1.setTop (mkF m 30 #[.val (.ref a1), .val (.int (2 : Int32)), .val (.int (0 : Int32)), .val (.int (1 : Int32)), .val (.long ev0), .second] [(.long ev0), (.int (1 : Int32)), (.ref a1)]))
    obtain ⟨T3, h3, X3, e3, W3, V3, st3⟩ := stVJ X1 hx hZ e1 f2_V_a1 ⟨by decide, by decide⟩ 1 rfl (Nat.le_of_ble_eq_true rfl) (g := (mkF m 30 #[.val (.ref a1), .val (.int (2 : Int32)), .val (.int (0 : Int32)), .val (.int (1 : Int32)), .val (.long ev0), .second] [(.long ev0), (.int (1 : Int32)), (.ref a1)])) rfl rfl (hb hby d3_30)
    refine GoW.st st3 ?_
    have f4_V_a1 : Arv Z h3 a1 ka .long (4 : Int32) [(.long ev1), (.long ev0), (.long ev2), (.long ev3)] (.long (0 : Int64)) := V3
    have K3 : Keep h0 h3 [a1] := K1.wr W3 (Or.inl (List.mem_of_getElem? (i := 0) rfl))
    have N3 := Fr.snoc X3 N1 pre_g_a1
    show GoW p e below QQ (T3.setTop (mkF m 31 #[.val (.ref a1), .val (.int (2 : Int32)), .val (.int (0 : Int32)), .val (.int (1 : Int32)), .val (.long ev0), .second] []))
    exact GoW.fin X3 none (fun _ => rfl) hlk hQ e3 ⟨ev1, ev0, rfl, N3, K3, f4_V_a1, (by omega)⟩ (by decide) (by decide) (fun fs hr => X3.returnOut hx hret (hb hby d3_31) hr)
  · skip
    refine GoW.st (fun t k => XS.ifYes X0.here hx rfl (pc0 := 12) (pc' := 31) rfl (hb hby d3_12) rfl ((if0 _ _).trans (flt (fun q => hc12 ((lw_gt ev0 ev1).mp q))).2.2.2) (by decide) (by decide) k) ?_
    show GoW p e below QQ (T0.setTop (mkF m 31 #[.val (.ref a1), .val (.int (2 : Int32)), .val (.int (0 : Int32)), .val (.int (1 : Int32)), .unset, .unset] []))
    have hi12 : ¬ (ev1.toInt < ev0.toInt) := (fun q => hc12 (Int64.lt_iff_toInt_lt.mpr q))
    exact GoW.fin X0 none (fun _ => rfl) hlk hQ e0 ⟨ev0, ev1, rfl, N0, K0, pre_V_a1, (by omega)⟩ (by decide) (by decide) (fun fs hr => X0.returnOut hx hret (hb hby d3_31) hr)
def RM3_223 : Room := { frames := 0, cells := 0, slots := 0, locals := 0 }
def Q3_223 (Z : State) (a1 : Addr) (h0 : Heap) (n0 : Nat) (v : Option Value) (h : Heap) (L : List Loc) : Prop := v = none ∧ Fr n0 L ∧ h = h0
set_option maxRecDepth 65536 in
set_option maxHeartbeats 40000000 in
theorem rm3_223 (l : Launch) (Z : State) (a0 : Array Value) (hw : ∀ d ∈ tables_1, d.before a0 Z = true) (ws : List Jvm.Cond) (a1 : Addr) (h0 : Heap) (n0 : Nat) (Z0 : n0 ≤ h0.size)  :
    MetFree l (⟨"com/example/hike/hike/HoldersMergePinLaw", "cx", "([JIII)V"⟩ : MethodName) (head1 (Jvm.Cond.code (⟨"com/example/hike/hike/HoldersMergePinLaw", "cx", "([JIII)V"⟩ : MethodName) method_4_code 6 none :: ws) RM3_223) (fun a U => a = #[(.ref a1), (.int (2 : Int32)), (.int (2 : Int32)), (.int (3 : Int32))] ∧ Z.Warmed39 U.vm ∧ U.heap = h0) (fun _ _ _ _ _ => True) (fun _ U o U' => ∃ v L, o = .returned v ∧ Q3_223 Z a1 h0 n0 v U'.heap L ∧ FrameEnd U o U' L RM3_223.cells RM3_223.slots) := by
  refine met_of (Q := fun v h L => Q3_223 Z a1 h0 n0 v h L) (plainFor_of_name pn_0) (fun m => by first | (simp [entryFrame, mkF, argsToLocals, Value.category]; done) | rfl) (Ls := #[.val (.ref a1), .val (.int (2 : Int32)), .val (.int (2 : Int32)), .val (.int (3 : Int32)), .unset, .unset]) ?_
  intro p e s m below meth c T0 QQ hx hZ hby hml hown hnm hret hlk X0 e0 hQ
  have hml : c.maxLocals = 6 := hml
  have hown : s.vm.findClass "com/example/hike/hike/HoldersMergePinLaw" = some m.cls := hown
  have hnm : meth.name = "cx" := hnm
  have hret : meth.sig.returnType = none := hret
  have N0 := Fr.nil n0
  have K0 : Keep h0 h0 [] := Keep.refl h0 _
  show GoW p e below QQ (T0.setTop (mkF m 0 #[.val (.ref a1), .val (.int (2 : Int32)), .val (.int (2 : Int32)), .val (.int (3 : Int32)), .unset, .unset] []))
  refine GoW.st (fun t k => XS.iloadN X0.here hx rfl (hb hby d3_0) rfl (XS.iloadN X0.here hx rfl (hb hby d3_1) rfl k)) ?_
  show GoW p e below QQ (T0.setTop (mkF m 2 #[.val (.ref a1), .val (.int (2 : Int32)), .val (.int (2 : Int32)), .val (.int (3 : Int32)), .unset, .unset] [(.int (2 : Int32)), (.int (3 : Int32))]))
  have hc2 : ¬ ((3 : Int32) < (2 : Int32)) := by decide
  refine GoW.st (fun t k => XS.icmpYes X0.here hx rfl (pc0 := 2) (pc' := 31) rfl (hb hby d3_2) rfl (flt hc2).2.1 (by decide) (by decide) k) ?_
  show GoW p e below QQ (T0.setTop (mkF m 31 #[.val (.ref a1), .val (.int (2 : Int32)), .val (.int (2 : Int32)), .val (.int (3 : Int32)), .unset, .unset] []))
  exact GoW.fin X0 none (fun _ => rfl) hlk hQ e0 ⟨rfl, N0, rfl⟩ (by decide) (by decide) (fun fs hr => X0.returnOut hx hret (hb hby d3_31) hr)
def RM3_202 : Room := { frames := 0, cells := 0, slots := 0, locals := 0 }
def Q3_202 (Z : State) (a1 : Addr) (h0 : Heap) (n0 : Nat) (v : Option Value) (h : Heap) (L : List Loc) : Prop := v = none ∧ Fr n0 L ∧ h = h0
set_option maxRecDepth 65536 in
set_option maxHeartbeats 40000000 in
theorem rm3_202 (l : Launch) (Z : State) (a0 : Array Value) (hw : ∀ d ∈ tables_1, d.before a0 Z = true) (ws : List Jvm.Cond) (a1 : Addr) (h0 : Heap) (n0 : Nat) (Z0 : n0 ≤ h0.size)  :
    MetFree l (⟨"com/example/hike/hike/HoldersMergePinLaw", "cx", "([JIII)V"⟩ : MethodName) (head1 (Jvm.Cond.code (⟨"com/example/hike/hike/HoldersMergePinLaw", "cx", "([JIII)V"⟩ : MethodName) method_4_code 6 none :: ws) RM3_202) (fun a U => a = #[(.ref a1), (.int (2 : Int32)), (.int (0 : Int32)), (.int (2 : Int32))] ∧ Z.Warmed39 U.vm ∧ U.heap = h0) (fun _ _ _ _ _ => True) (fun _ U o U' => ∃ v L, o = .returned v ∧ Q3_202 Z a1 h0 n0 v U'.heap L ∧ FrameEnd U o U' L RM3_202.cells RM3_202.slots) := by
  refine met_of (Q := fun v h L => Q3_202 Z a1 h0 n0 v h L) (plainFor_of_name pn_0) (fun m => by first | (simp [entryFrame, mkF, argsToLocals, Value.category]; done) | rfl) (Ls := #[.val (.ref a1), .val (.int (2 : Int32)), .val (.int (0 : Int32)), .val (.int (2 : Int32)), .unset, .unset]) ?_
  intro p e s m below meth c T0 QQ hx hZ hby hml hown hnm hret hlk X0 e0 hQ
  have hml : c.maxLocals = 6 := hml
  have hown : s.vm.findClass "com/example/hike/hike/HoldersMergePinLaw" = some m.cls := hown
  have hnm : meth.name = "cx" := hnm
  have hret : meth.sig.returnType = none := hret
  have N0 := Fr.nil n0
  have K0 : Keep h0 h0 [] := Keep.refl h0 _
  show GoW p e below QQ (T0.setTop (mkF m 0 #[.val (.ref a1), .val (.int (2 : Int32)), .val (.int (0 : Int32)), .val (.int (2 : Int32)), .unset, .unset] []))
  refine GoW.st (fun t k => XS.iloadN X0.here hx rfl (hb hby d3_0) rfl (XS.iloadN X0.here hx rfl (hb hby d3_1) rfl k)) ?_
  show GoW p e below QQ (T0.setTop (mkF m 2 #[.val (.ref a1), .val (.int (2 : Int32)), .val (.int (0 : Int32)), .val (.int (2 : Int32)), .unset, .unset] [(.int (2 : Int32)), (.int (2 : Int32))]))
  have hc2 : ¬ ((2 : Int32) < (2 : Int32)) := by decide
  refine GoW.st (fun t k => XS.icmpYes X0.here hx rfl (pc0 := 2) (pc' := 31) rfl (hb hby d3_2) rfl (flt hc2).2.1 (by decide) (by decide) k) ?_
  show GoW p e below QQ (T0.setTop (mkF m 31 #[.val (.ref a1), .val (.int (2 : Int32)), .val (.int (0 : Int32)), .val (.int (2 : Int32)), .unset, .unset] []))
  exact GoW.fin X0 none (fun _ => rfl) hlk hQ e0 ⟨rfl, N0, rfl⟩ (by decide) (by decide) (fun fs hr => X0.returnOut hx hret (hb hby d3_31) hr)
def RM3_213 : Room := { frames := 0, cells := 0, slots := 0, locals := 0 }
def Q3_213 (Z : State) (a1 : Addr) (h0 : Heap) (n0 : Nat) (v : Option Value) (h : Heap) (L : List Loc) : Prop := v = none ∧ Fr n0 L ∧ h = h0
set_option maxRecDepth 65536 in
set_option maxHeartbeats 40000000 in
theorem rm3_213 (l : Launch) (Z : State) (a0 : Array Value) (hw : ∀ d ∈ tables_1, d.before a0 Z = true) (ws : List Jvm.Cond) (a1 : Addr) (h0 : Heap) (n0 : Nat) (Z0 : n0 ≤ h0.size)  :
    MetFree l (⟨"com/example/hike/hike/HoldersMergePinLaw", "cx", "([JIII)V"⟩ : MethodName) (head1 (Jvm.Cond.code (⟨"com/example/hike/hike/HoldersMergePinLaw", "cx", "([JIII)V"⟩ : MethodName) method_4_code 6 none :: ws) RM3_213) (fun a U => a = #[(.ref a1), (.int (2 : Int32)), (.int (1 : Int32)), (.int (3 : Int32))] ∧ Z.Warmed39 U.vm ∧ U.heap = h0) (fun _ _ _ _ _ => True) (fun _ U o U' => ∃ v L, o = .returned v ∧ Q3_213 Z a1 h0 n0 v U'.heap L ∧ FrameEnd U o U' L RM3_213.cells RM3_213.slots) := by
  refine met_of (Q := fun v h L => Q3_213 Z a1 h0 n0 v h L) (plainFor_of_name pn_0) (fun m => by first | (simp [entryFrame, mkF, argsToLocals, Value.category]; done) | rfl) (Ls := #[.val (.ref a1), .val (.int (2 : Int32)), .val (.int (1 : Int32)), .val (.int (3 : Int32)), .unset, .unset]) ?_
  intro p e s m below meth c T0 QQ hx hZ hby hml hown hnm hret hlk X0 e0 hQ
  have hml : c.maxLocals = 6 := hml
  have hown : s.vm.findClass "com/example/hike/hike/HoldersMergePinLaw" = some m.cls := hown
  have hnm : meth.name = "cx" := hnm
  have hret : meth.sig.returnType = none := hret
  have N0 := Fr.nil n0
  have K0 : Keep h0 h0 [] := Keep.refl h0 _
  show GoW p e below QQ (T0.setTop (mkF m 0 #[.val (.ref a1), .val (.int (2 : Int32)), .val (.int (1 : Int32)), .val (.int (3 : Int32)), .unset, .unset] []))
  refine GoW.st (fun t k => XS.iloadN X0.here hx rfl (hb hby d3_0) rfl (XS.iloadN X0.here hx rfl (hb hby d3_1) rfl k)) ?_
  show GoW p e below QQ (T0.setTop (mkF m 2 #[.val (.ref a1), .val (.int (2 : Int32)), .val (.int (1 : Int32)), .val (.int (3 : Int32)), .unset, .unset] [(.int (2 : Int32)), (.int (3 : Int32))]))
  have hc2 : ¬ ((3 : Int32) < (2 : Int32)) := by decide
  refine GoW.st (fun t k => XS.icmpYes X0.here hx rfl (pc0 := 2) (pc' := 31) rfl (hb hby d3_2) rfl (flt hc2).2.1 (by decide) (by decide) k) ?_
  show GoW p e below QQ (T0.setTop (mkF m 31 #[.val (.ref a1), .val (.int (2 : Int32)), .val (.int (1 : Int32)), .val (.int (3 : Int32)), .unset, .unset] []))
  exact GoW.fin X0 none (fun _ => rfl) hlk hQ e0 ⟨rfl, N0, rfl⟩ (by decide) (by decide) (fun fs hr => X0.returnOut hx hret (hb hby d3_31) hr)
def RM3_212 : Room := { frames := 0, cells := 0, slots := 0, locals := 0 }
def Q3_212 (Z : State) (a1 : Addr) (h0 : Heap) (n0 : Nat) (v : Option Value) (h : Heap) (L : List Loc) : Prop := v = none ∧ Fr n0 L ∧ h = h0
set_option maxRecDepth 65536 in
set_option maxHeartbeats 40000000 in
theorem rm3_212 (l : Launch) (Z : State) (a0 : Array Value) (hw : ∀ d ∈ tables_1, d.before a0 Z = true) (ws : List Jvm.Cond) (a1 : Addr) (h0 : Heap) (n0 : Nat) (Z0 : n0 ≤ h0.size)  :
    MetFree l (⟨"com/example/hike/hike/HoldersMergePinLaw", "cx", "([JIII)V"⟩ : MethodName) (head1 (Jvm.Cond.code (⟨"com/example/hike/hike/HoldersMergePinLaw", "cx", "([JIII)V"⟩ : MethodName) method_4_code 6 none :: ws) RM3_212) (fun a U => a = #[(.ref a1), (.int (2 : Int32)), (.int (1 : Int32)), (.int (2 : Int32))] ∧ Z.Warmed39 U.vm ∧ U.heap = h0) (fun _ _ _ _ _ => True) (fun _ U o U' => ∃ v L, o = .returned v ∧ Q3_212 Z a1 h0 n0 v U'.heap L ∧ FrameEnd U o U' L RM3_212.cells RM3_212.slots) := by
  refine met_of (Q := fun v h L => Q3_212 Z a1 h0 n0 v h L) (plainFor_of_name pn_0) (fun m => by first | (simp [entryFrame, mkF, argsToLocals, Value.category]; done) | rfl) (Ls := #[.val (.ref a1), .val (.int (2 : Int32)), .val (.int (1 : Int32)), .val (.int (2 : Int32)), .unset, .unset]) ?_
  intro p e s m below meth c T0 QQ hx hZ hby hml hown hnm hret hlk X0 e0 hQ
  have hml : c.maxLocals = 6 := hml
  have hown : s.vm.findClass "com/example/hike/hike/HoldersMergePinLaw" = some m.cls := hown
  have hnm : meth.name = "cx" := hnm
  have hret : meth.sig.returnType = none := hret
  have N0 := Fr.nil n0
  have K0 : Keep h0 h0 [] := Keep.refl h0 _
  show GoW p e below QQ (T0.setTop (mkF m 0 #[.val (.ref a1), .val (.int (2 : Int32)), .val (.int (1 : Int32)), .val (.int (2 : Int32)), .unset, .unset] []))
  refine GoW.st (fun t k => XS.iloadN X0.here hx rfl (hb hby d3_0) rfl (XS.iloadN X0.here hx rfl (hb hby d3_1) rfl k)) ?_
  show GoW p e below QQ (T0.setTop (mkF m 2 #[.val (.ref a1), .val (.int (2 : Int32)), .val (.int (1 : Int32)), .val (.int (2 : Int32)), .unset, .unset] [(.int (2 : Int32)), (.int (2 : Int32))]))
  have hc2 : ¬ ((2 : Int32) < (2 : Int32)) := by decide
  refine GoW.st (fun t k => XS.icmpYes X0.here hx rfl (pc0 := 2) (pc' := 31) rfl (hb hby d3_2) rfl (flt hc2).2.1 (by decide) (by decide) k) ?_
  show GoW p e below QQ (T0.setTop (mkF m 31 #[.val (.ref a1), .val (.int (2 : Int32)), .val (.int (1 : Int32)), .val (.int (2 : Int32)), .unset, .unset] []))
  exact GoW.fin X0 none (fun _ => rfl) hlk hQ e0 ⟨rfl, N0, rfl⟩ (by decide) (by decide) (fun fs hr => X0.returnOut hx hret (hb hby d3_31) hr)
def RM3_301 : Room := { frames := 0, cells := 0, slots := 0, locals := 0 }
def Q3_301 (Z : State) (a1 : Addr) (ka : ClassId) (ev0 : Int64) (ev1 : Int64) (ev2 : Int64) (ev3 : Int64) (h0 : Heap) (n0 : Nat) (v : Option Value) (h : Heap) (L : List Loc) : Prop := ∃ (wa : Int64) (wb : Int64), v = none ∧ Fr n0 L ∧ Keep h0 h [a1] ∧ (Arv Z h a1 ka .long (4 : Int32) [(.long wa), (.long wb), (.long ev2), (.long ev3)] (.long (0 : Int64))) ∧ (wa.toInt = min ev0.toInt ev1.toInt ∧ wb.toInt = max ev0.toInt ev1.toInt)
set_option maxRecDepth 65536 in
set_option maxHeartbeats 40000000 in
theorem rm3_301 (l : Launch) (Z : State) (a0 : Array Value) (hw : ∀ d ∈ tables_1, d.before a0 Z = true) (ws : List Jvm.Cond) (a1 : Addr) (ka : ClassId) (ev0 : Int64) (ev1 : Int64) (ev2 : Int64) (ev3 : Int64) (h0 : Heap) (n0 : Nat) (Z0 : n0 ≤ h0.size) (pre_V_a1 : Arv Z h0 a1 ka .long (4 : Int32) [(.long ev0), (.long ev1), (.long ev2), (.long ev3)] (.long (0 : Int64))) (pre_g_a1 : n0 ≤ a1) :
    MetFree l (⟨"com/example/hike/hike/HoldersMergePinLaw", "cx", "([JIII)V"⟩ : MethodName) (head1 (Jvm.Cond.code (⟨"com/example/hike/hike/HoldersMergePinLaw", "cx", "([JIII)V"⟩ : MethodName) method_4_code 6 none :: ws) RM3_301) (fun a U => a = #[(.ref a1), (.int (3 : Int32)), (.int (0 : Int32)), (.int (1 : Int32))] ∧ Z.Warmed39 U.vm ∧ U.heap = h0) (fun _ _ _ _ _ => True) (fun _ U o U' => ∃ v L, o = .returned v ∧ Q3_301 Z a1 ka ev0 ev1 ev2 ev3 h0 n0 v U'.heap L ∧ FrameEnd U o U' L RM3_301.cells RM3_301.slots) := by
  refine met_of (Q := fun v h L => Q3_301 Z a1 ka ev0 ev1 ev2 ev3 h0 n0 v h L) (plainFor_of_name pn_0) (fun m => by first | (simp [entryFrame, mkF, argsToLocals, Value.category]; done) | rfl) (Ls := #[.val (.ref a1), .val (.int (3 : Int32)), .val (.int (0 : Int32)), .val (.int (1 : Int32)), .unset, .unset]) ?_
  intro p e s m below meth c T0 QQ hx hZ hby hml hown hnm hret hlk X0 e0 hQ
  have hml : c.maxLocals = 6 := hml
  have hown : s.vm.findClass "com/example/hike/hike/HoldersMergePinLaw" = some m.cls := hown
  have hnm : meth.name = "cx" := hnm
  have hret : meth.sig.returnType = none := hret
  have N0 := Fr.nil n0
  have K0 : Keep h0 h0 [a1] := Keep.refl h0 _
  show GoW p e below QQ (T0.setTop (mkF m 0 #[.val (.ref a1), .val (.int (3 : Int32)), .val (.int (0 : Int32)), .val (.int (1 : Int32)), .unset, .unset] []))
  refine GoW.st (fun t k => XS.iloadN X0.here hx rfl (hb hby d3_0) rfl (XS.iloadN X0.here hx rfl (hb hby d3_1) rfl k)) ?_
  show GoW p e below QQ (T0.setTop (mkF m 2 #[.val (.ref a1), .val (.int (3 : Int32)), .val (.int (0 : Int32)), .val (.int (1 : Int32)), .unset, .unset] [(.int (3 : Int32)), (.int (1 : Int32))]))
  have hc2 : (1 : Int32) < (3 : Int32) := by decide
  refine GoW.st (fun t k => XS.icmpNo X0.here hx rfl (hb hby d3_2) rfl (tlt hc2).2.1 (XS.aloadN X0.here hx rfl (hb hby d3_5) rfl rfl (XS.iloadN X0.here hx rfl (hb hby d3_6) rfl (ldVJ X0 hx hZ e0 pre_V_a1 (v := (.long ev0)) ⟨by decide, by decide⟩ rfl (g := (mkF m 7 #[.val (.ref a1), .val (.int (3 : Int32)), .val (.int (0 : Int32)), .val (.int (1 : Int32)), .unset, .unset] [(.int (0 : Int32)), (.ref a1)])) rfl rfl (hb hby d3_7) t (XS.aloadN X0.here hx rfl (hb hby d3_8) rfl rfl (XS.iloadN X0.here hx rfl (hb hby d3_9) rfl k)))))) ?_
  show GoW p e below QQ (T0.setTop (mkF m 10 #[.val (.ref a1), .val (.int (3 : Int32)), .val (.int (0 : Int32)), .val (.int (1 : Int32)), .unset, .unset] [(.int (1 : Int32)), (.ref a1), (.long ev0)]))
  refine GoW.st (fun t k => ldVJ X0 hx hZ e0 pre_V_a1 (v := (.long ev1)) ⟨by decide, by decide⟩ rfl (g := (mkF m 10 #[.val (.ref a1), .val (.int (3 : Int32)), .val (.int (0 : Int32)), .val (.int (1 : Int32)), .unset, .unset] [(.int (1 : Int32)), (.ref a1), (.long ev0)])) rfl rfl (hb hby d3_10) t (XS.lcmp X0.here hx rfl (hb hby d3_11) rfl k)) ?_
  show GoW p e below QQ (T0.setTop (mkF m 12 #[.val (.ref a1), .val (.int (3 : Int32)), .val (.int (0 : Int32)), .val (.int (1 : Int32)), .unset, .unset] [(.int (lcmpW ev0 ev1))]))
  by_cases hc12 : ev1 < ev0
  · skip
    refine GoW.st (fun t k => XS.ifNo X0.here hx rfl (hb hby d3_12) rfl ((if0 _ _).trans (tlt ((lw_gt ev0 ev1).mpr hc12)).2.2.2) k) ?_
    show GoW p e below QQ (T0.setTop (mkF m 15 #[.val (.ref a1), .val (.int (3 : Int32)), .val (.int (0 : Int32)), .val (.int (1 : Int32)), .unset, .unset] []))
    have hi12 : ev1.toInt < ev0.toInt := (Int64.lt_iff_toInt_lt.mp hc12)
    refine GoW.st (fun t k => XS.aloadN X0.here hx rfl (hb hby d3_15) rfl rfl (XS.iloadN X0.here hx rfl (hb hby d3_16) rfl (ldVJ X0 hx hZ e0 pre_V_a1 (v := (.long ev0)) ⟨by decide, by decide⟩ rfl (g := (mkF m 17 #[.val (.ref a1), .val (.int (3 : Int32)), .val (.int (0 : Int32)), .val (.int (1 : Int32)), .unset, .unset] [(.int (0 : Int32)), (.ref a1)])) rfl rfl (hb hby d3_17) t (XS.lstore X0.here hx rfl (hb hby d3_18) rfl (l' := #[.val (.ref a1), .val (.int (3 : Int32)), .val (.int (0 : Int32)), .val (.int (1 : Int32)), .val (.long ev0), .second]) rfl (XS.aloadN X0.here hx rfl (hb hby d3_20) rfl rfl (XS.iloadN X0.here hx rfl (hb hby d3_21) rfl k)))))) ?_
    show GoW p e below QQ (T0.setTop (mkF m 22 #[.val (.ref a1), .val (.int (3 : Int32)), .val (.int (0 : Int32)), .val (.int (1 : Int32)), .val (.long ev0), .second] [(.int (0 : Int32)), (.ref a1)]))
    refine GoW.st (fun t k => XS.aloadN X0.here hx rfl (hb hby d3_22) rfl rfl (XS.iloadN X0.here hx rfl (hb hby d3_23) rfl (ldVJ X0 hx hZ e0 pre_V_a1 (v := (.long ev1)) ⟨by decide, by decide⟩ rfl (g := (mkF m 24 #[.val (.ref a1), .val (.int (3 : Int32)), .val (.int (0 : Int32)), .val (.int (1 : Int32)), .val (.long ev0), .second] [(.int (1 : Int32)), (.ref a1), (.int (0 : Int32)), (.ref a1)])) rfl rfl (hb hby d3_24) t k))) ?_
    show GoW p e below QQ (T0.setTop (mkF m 25 #[.val (.ref a1), .val (.int (3 : Int32)), .val (.int (0 : Int32)), .val (.int (1 : Int32)), .val (.long ev0), .second] [(.long ev1), (.int (0 : Int32)), (.ref a1)]))
    obtain ⟨T1, h1, X1, e1, W1, V1, st1⟩ := stVJ X0 hx hZ e0 pre_V_a1 ⟨by decide, by decide⟩ 0 rfl (Nat.le_of_ble_eq_true rfl) (g := (mkF m 25 #[.val (.ref a1), .val (.int (3 : Int32)), .val (.int (0 : Int32)), .val (.int (1 : Int32)), .val (.long ev0), .second] [(.long ev1), (.int (0 : Int32)), (.ref a1)])) rfl rfl (hb hby d3_25)
    refine GoW.st st1 ?_
    have f2_V_a1 : Arv Z h1 a1 ka .long (4 : Int32) [(.long ev1), (.long ev1), (.long ev2), (.long ev3)] (.long (0 : Int64)) := V1
    have K1 : Keep h0 h1 [a1] := K0.wr W1 (Or.inl (List.mem_of_getElem? (i := 0) rfl))
    have N1 := Fr.snoc X1 N0 pre_g_a1
    show GoW p e below QQ (T1.setTop (mkF m 26 #[.val (.ref a1), .val (.int (3 : Int32)), .val (.int (0 : Int32)), .val (.int (1 : Int32)), .val (.long ev0), .second] []))
    refine GoW.st (fun t k => XS.aloadN X1.here hx rfl (hb hby d3_26) rfl rfl (XS.iloadN X1.here hx rfl (hb hby d3_27) rfl (XS.lload X1.here hx rfl (hb hby d3_28) rfl k))) ?_
    show GoW p e below QQ (T1.setTop (mkF m 30 #[.val (.ref a1), .val (.int (3 : Int32)), .val (.int (0 : Int32)), .val (.int (1 : Int32)), .val (.long ev0), .second] [(.long ev0), (.int (1 : Int32)), (.ref a1)]))
    obtain ⟨T3, h3, X3, e3, W3, V3, st3⟩ := stVJ X1 hx hZ e1 f2_V_a1 ⟨by decide, by decide⟩ 1 rfl (Nat.le_of_ble_eq_true rfl) (g := (mkF m 30 #[.val (.ref a1), .val (.int (3 : Int32)), .val (.int (0 : Int32)), .val (.int (1 : Int32)), .val (.long ev0), .second] [(.long ev0), (.int (1 : Int32)), (.ref a1)])) rfl rfl (hb hby d3_30)
    refine GoW.st st3 ?_
    have f4_V_a1 : Arv Z h3 a1 ka .long (4 : Int32) [(.long ev1), (.long ev0), (.long ev2), (.long ev3)] (.long (0 : Int64)) := V3
    have K3 : Keep h0 h3 [a1] := K1.wr W3 (Or.inl (List.mem_of_getElem? (i := 0) rfl))
    have N3 := Fr.snoc X3 N1 pre_g_a1
    show GoW p e below QQ (T3.setTop (mkF m 31 #[.val (.ref a1), .val (.int (3 : Int32)), .val (.int (0 : Int32)), .val (.int (1 : Int32)), .val (.long ev0), .second] []))
    exact GoW.fin X3 none (fun _ => rfl) hlk hQ e3 ⟨ev1, ev0, rfl, N3, K3, f4_V_a1, (by omega)⟩ (by decide) (by decide) (fun fs hr => X3.returnOut hx hret (hb hby d3_31) hr)
  · skip
    refine GoW.st (fun t k => XS.ifYes X0.here hx rfl (pc0 := 12) (pc' := 31) rfl (hb hby d3_12) rfl ((if0 _ _).trans (flt (fun q => hc12 ((lw_gt ev0 ev1).mp q))).2.2.2) (by decide) (by decide) k) ?_
    show GoW p e below QQ (T0.setTop (mkF m 31 #[.val (.ref a1), .val (.int (3 : Int32)), .val (.int (0 : Int32)), .val (.int (1 : Int32)), .unset, .unset] []))
    have hi12 : ¬ (ev1.toInt < ev0.toInt) := (fun q => hc12 (Int64.lt_iff_toInt_lt.mpr q))
    exact GoW.fin X0 none (fun _ => rfl) hlk hQ e0 ⟨ev0, ev1, rfl, N0, K0, pre_V_a1, (by omega)⟩ (by decide) (by decide) (fun fs hr => X0.returnOut hx hret (hb hby d3_31) hr)
def RM3_323 : Room := { frames := 0, cells := 0, slots := 0, locals := 0 }
def Q3_323 (Z : State) (a1 : Addr) (h0 : Heap) (n0 : Nat) (v : Option Value) (h : Heap) (L : List Loc) : Prop := v = none ∧ Fr n0 L ∧ h = h0
set_option maxRecDepth 65536 in
set_option maxHeartbeats 40000000 in
theorem rm3_323 (l : Launch) (Z : State) (a0 : Array Value) (hw : ∀ d ∈ tables_1, d.before a0 Z = true) (ws : List Jvm.Cond) (a1 : Addr) (h0 : Heap) (n0 : Nat) (Z0 : n0 ≤ h0.size)  :
    MetFree l (⟨"com/example/hike/hike/HoldersMergePinLaw", "cx", "([JIII)V"⟩ : MethodName) (head1 (Jvm.Cond.code (⟨"com/example/hike/hike/HoldersMergePinLaw", "cx", "([JIII)V"⟩ : MethodName) method_4_code 6 none :: ws) RM3_323) (fun a U => a = #[(.ref a1), (.int (3 : Int32)), (.int (2 : Int32)), (.int (3 : Int32))] ∧ Z.Warmed39 U.vm ∧ U.heap = h0) (fun _ _ _ _ _ => True) (fun _ U o U' => ∃ v L, o = .returned v ∧ Q3_323 Z a1 h0 n0 v U'.heap L ∧ FrameEnd U o U' L RM3_323.cells RM3_323.slots) := by
  refine met_of (Q := fun v h L => Q3_323 Z a1 h0 n0 v h L) (plainFor_of_name pn_0) (fun m => by first | (simp [entryFrame, mkF, argsToLocals, Value.category]; done) | rfl) (Ls := #[.val (.ref a1), .val (.int (3 : Int32)), .val (.int (2 : Int32)), .val (.int (3 : Int32)), .unset, .unset]) ?_
  intro p e s m below meth c T0 QQ hx hZ hby hml hown hnm hret hlk X0 e0 hQ
  have hml : c.maxLocals = 6 := hml
  have hown : s.vm.findClass "com/example/hike/hike/HoldersMergePinLaw" = some m.cls := hown
  have hnm : meth.name = "cx" := hnm
  have hret : meth.sig.returnType = none := hret
  have N0 := Fr.nil n0
  have K0 : Keep h0 h0 [] := Keep.refl h0 _
  show GoW p e below QQ (T0.setTop (mkF m 0 #[.val (.ref a1), .val (.int (3 : Int32)), .val (.int (2 : Int32)), .val (.int (3 : Int32)), .unset, .unset] []))
  refine GoW.st (fun t k => XS.iloadN X0.here hx rfl (hb hby d3_0) rfl (XS.iloadN X0.here hx rfl (hb hby d3_1) rfl k)) ?_
  show GoW p e below QQ (T0.setTop (mkF m 2 #[.val (.ref a1), .val (.int (3 : Int32)), .val (.int (2 : Int32)), .val (.int (3 : Int32)), .unset, .unset] [(.int (3 : Int32)), (.int (3 : Int32))]))
  have hc2 : ¬ ((3 : Int32) < (3 : Int32)) := by decide
  refine GoW.st (fun t k => XS.icmpYes X0.here hx rfl (pc0 := 2) (pc' := 31) rfl (hb hby d3_2) rfl (flt hc2).2.1 (by decide) (by decide) k) ?_
  show GoW p e below QQ (T0.setTop (mkF m 31 #[.val (.ref a1), .val (.int (3 : Int32)), .val (.int (2 : Int32)), .val (.int (3 : Int32)), .unset, .unset] []))
  exact GoW.fin X0 none (fun _ => rfl) hlk hQ e0 ⟨rfl, N0, rfl⟩ (by decide) (by decide) (fun fs hr => X0.returnOut hx hret (hb hby d3_31) hr)
def RM3_302 : Room := { frames := 0, cells := 0, slots := 0, locals := 0 }
def Q3_302 (Z : State) (a1 : Addr) (ka : ClassId) (ev0 : Int64) (ev1 : Int64) (ev2 : Int64) (ev3 : Int64) (h0 : Heap) (n0 : Nat) (v : Option Value) (h : Heap) (L : List Loc) : Prop := ∃ (wa : Int64) (wb : Int64), v = none ∧ Fr n0 L ∧ Keep h0 h [a1] ∧ (Arv Z h a1 ka .long (4 : Int32) [(.long wa), (.long ev1), (.long wb), (.long ev3)] (.long (0 : Int64))) ∧ (wa.toInt = min ev0.toInt ev2.toInt ∧ wb.toInt = max ev0.toInt ev2.toInt)
set_option maxRecDepth 65536 in
set_option maxHeartbeats 40000000 in
theorem rm3_302 (l : Launch) (Z : State) (a0 : Array Value) (hw : ∀ d ∈ tables_1, d.before a0 Z = true) (ws : List Jvm.Cond) (a1 : Addr) (ka : ClassId) (ev0 : Int64) (ev1 : Int64) (ev2 : Int64) (ev3 : Int64) (h0 : Heap) (n0 : Nat) (Z0 : n0 ≤ h0.size) (pre_V_a1 : Arv Z h0 a1 ka .long (4 : Int32) [(.long ev0), (.long ev1), (.long ev2), (.long ev3)] (.long (0 : Int64))) (pre_g_a1 : n0 ≤ a1) :
    MetFree l (⟨"com/example/hike/hike/HoldersMergePinLaw", "cx", "([JIII)V"⟩ : MethodName) (head1 (Jvm.Cond.code (⟨"com/example/hike/hike/HoldersMergePinLaw", "cx", "([JIII)V"⟩ : MethodName) method_4_code 6 none :: ws) RM3_302) (fun a U => a = #[(.ref a1), (.int (3 : Int32)), (.int (0 : Int32)), (.int (2 : Int32))] ∧ Z.Warmed39 U.vm ∧ U.heap = h0) (fun _ _ _ _ _ => True) (fun _ U o U' => ∃ v L, o = .returned v ∧ Q3_302 Z a1 ka ev0 ev1 ev2 ev3 h0 n0 v U'.heap L ∧ FrameEnd U o U' L RM3_302.cells RM3_302.slots) := by
  refine met_of (Q := fun v h L => Q3_302 Z a1 ka ev0 ev1 ev2 ev3 h0 n0 v h L) (plainFor_of_name pn_0) (fun m => by first | (simp [entryFrame, mkF, argsToLocals, Value.category]; done) | rfl) (Ls := #[.val (.ref a1), .val (.int (3 : Int32)), .val (.int (0 : Int32)), .val (.int (2 : Int32)), .unset, .unset]) ?_
  intro p e s m below meth c T0 QQ hx hZ hby hml hown hnm hret hlk X0 e0 hQ
  have hml : c.maxLocals = 6 := hml
  have hown : s.vm.findClass "com/example/hike/hike/HoldersMergePinLaw" = some m.cls := hown
  have hnm : meth.name = "cx" := hnm
  have hret : meth.sig.returnType = none := hret
  have N0 := Fr.nil n0
  have K0 : Keep h0 h0 [a1] := Keep.refl h0 _
  show GoW p e below QQ (T0.setTop (mkF m 0 #[.val (.ref a1), .val (.int (3 : Int32)), .val (.int (0 : Int32)), .val (.int (2 : Int32)), .unset, .unset] []))
  refine GoW.st (fun t k => XS.iloadN X0.here hx rfl (hb hby d3_0) rfl (XS.iloadN X0.here hx rfl (hb hby d3_1) rfl k)) ?_
  show GoW p e below QQ (T0.setTop (mkF m 2 #[.val (.ref a1), .val (.int (3 : Int32)), .val (.int (0 : Int32)), .val (.int (2 : Int32)), .unset, .unset] [(.int (3 : Int32)), (.int (2 : Int32))]))
  have hc2 : (2 : Int32) < (3 : Int32) := by decide
  refine GoW.st (fun t k => XS.icmpNo X0.here hx rfl (hb hby d3_2) rfl (tlt hc2).2.1 (XS.aloadN X0.here hx rfl (hb hby d3_5) rfl rfl (XS.iloadN X0.here hx rfl (hb hby d3_6) rfl (ldVJ X0 hx hZ e0 pre_V_a1 (v := (.long ev0)) ⟨by decide, by decide⟩ rfl (g := (mkF m 7 #[.val (.ref a1), .val (.int (3 : Int32)), .val (.int (0 : Int32)), .val (.int (2 : Int32)), .unset, .unset] [(.int (0 : Int32)), (.ref a1)])) rfl rfl (hb hby d3_7) t (XS.aloadN X0.here hx rfl (hb hby d3_8) rfl rfl (XS.iloadN X0.here hx rfl (hb hby d3_9) rfl k)))))) ?_
  show GoW p e below QQ (T0.setTop (mkF m 10 #[.val (.ref a1), .val (.int (3 : Int32)), .val (.int (0 : Int32)), .val (.int (2 : Int32)), .unset, .unset] [(.int (2 : Int32)), (.ref a1), (.long ev0)]))
  refine GoW.st (fun t k => ldVJ X0 hx hZ e0 pre_V_a1 (v := (.long ev2)) ⟨by decide, by decide⟩ rfl (g := (mkF m 10 #[.val (.ref a1), .val (.int (3 : Int32)), .val (.int (0 : Int32)), .val (.int (2 : Int32)), .unset, .unset] [(.int (2 : Int32)), (.ref a1), (.long ev0)])) rfl rfl (hb hby d3_10) t (XS.lcmp X0.here hx rfl (hb hby d3_11) rfl k)) ?_
  show GoW p e below QQ (T0.setTop (mkF m 12 #[.val (.ref a1), .val (.int (3 : Int32)), .val (.int (0 : Int32)), .val (.int (2 : Int32)), .unset, .unset] [(.int (lcmpW ev0 ev2))]))
  by_cases hc12 : ev2 < ev0
  · skip
    refine GoW.st (fun t k => XS.ifNo X0.here hx rfl (hb hby d3_12) rfl ((if0 _ _).trans (tlt ((lw_gt ev0 ev2).mpr hc12)).2.2.2) k) ?_
    show GoW p e below QQ (T0.setTop (mkF m 15 #[.val (.ref a1), .val (.int (3 : Int32)), .val (.int (0 : Int32)), .val (.int (2 : Int32)), .unset, .unset] []))
    have hi12 : ev2.toInt < ev0.toInt := (Int64.lt_iff_toInt_lt.mp hc12)
    refine GoW.st (fun t k => XS.aloadN X0.here hx rfl (hb hby d3_15) rfl rfl (XS.iloadN X0.here hx rfl (hb hby d3_16) rfl (ldVJ X0 hx hZ e0 pre_V_a1 (v := (.long ev0)) ⟨by decide, by decide⟩ rfl (g := (mkF m 17 #[.val (.ref a1), .val (.int (3 : Int32)), .val (.int (0 : Int32)), .val (.int (2 : Int32)), .unset, .unset] [(.int (0 : Int32)), (.ref a1)])) rfl rfl (hb hby d3_17) t (XS.lstore X0.here hx rfl (hb hby d3_18) rfl (l' := #[.val (.ref a1), .val (.int (3 : Int32)), .val (.int (0 : Int32)), .val (.int (2 : Int32)), .val (.long ev0), .second]) rfl (XS.aloadN X0.here hx rfl (hb hby d3_20) rfl rfl (XS.iloadN X0.here hx rfl (hb hby d3_21) rfl k)))))) ?_
    show GoW p e below QQ (T0.setTop (mkF m 22 #[.val (.ref a1), .val (.int (3 : Int32)), .val (.int (0 : Int32)), .val (.int (2 : Int32)), .val (.long ev0), .second] [(.int (0 : Int32)), (.ref a1)]))
    refine GoW.st (fun t k => XS.aloadN X0.here hx rfl (hb hby d3_22) rfl rfl (XS.iloadN X0.here hx rfl (hb hby d3_23) rfl (ldVJ X0 hx hZ e0 pre_V_a1 (v := (.long ev2)) ⟨by decide, by decide⟩ rfl (g := (mkF m 24 #[.val (.ref a1), .val (.int (3 : Int32)), .val (.int (0 : Int32)), .val (.int (2 : Int32)), .val (.long ev0), .second] [(.int (2 : Int32)), (.ref a1), (.int (0 : Int32)), (.ref a1)])) rfl rfl (hb hby d3_24) t k))) ?_
    show GoW p e below QQ (T0.setTop (mkF m 25 #[.val (.ref a1), .val (.int (3 : Int32)), .val (.int (0 : Int32)), .val (.int (2 : Int32)), .val (.long ev0), .second] [(.long ev2), (.int (0 : Int32)), (.ref a1)]))
    obtain ⟨T1, h1, X1, e1, W1, V1, st1⟩ := stVJ X0 hx hZ e0 pre_V_a1 ⟨by decide, by decide⟩ 0 rfl (Nat.le_of_ble_eq_true rfl) (g := (mkF m 25 #[.val (.ref a1), .val (.int (3 : Int32)), .val (.int (0 : Int32)), .val (.int (2 : Int32)), .val (.long ev0), .second] [(.long ev2), (.int (0 : Int32)), (.ref a1)])) rfl rfl (hb hby d3_25)
    refine GoW.st st1 ?_
    have f2_V_a1 : Arv Z h1 a1 ka .long (4 : Int32) [(.long ev2), (.long ev1), (.long ev2), (.long ev3)] (.long (0 : Int64)) := V1
    have K1 : Keep h0 h1 [a1] := K0.wr W1 (Or.inl (List.mem_of_getElem? (i := 0) rfl))
    have N1 := Fr.snoc X1 N0 pre_g_a1
    show GoW p e below QQ (T1.setTop (mkF m 26 #[.val (.ref a1), .val (.int (3 : Int32)), .val (.int (0 : Int32)), .val (.int (2 : Int32)), .val (.long ev0), .second] []))
    refine GoW.st (fun t k => XS.aloadN X1.here hx rfl (hb hby d3_26) rfl rfl (XS.iloadN X1.here hx rfl (hb hby d3_27) rfl (XS.lload X1.here hx rfl (hb hby d3_28) rfl k))) ?_
    show GoW p e below QQ (T1.setTop (mkF m 30 #[.val (.ref a1), .val (.int (3 : Int32)), .val (.int (0 : Int32)), .val (.int (2 : Int32)), .val (.long ev0), .second] [(.long ev0), (.int (2 : Int32)), (.ref a1)]))
    obtain ⟨T3, h3, X3, e3, W3, V3, st3⟩ := stVJ X1 hx hZ e1 f2_V_a1 ⟨by decide, by decide⟩ 2 rfl (Nat.le_of_ble_eq_true rfl) (g := (mkF m 30 #[.val (.ref a1), .val (.int (3 : Int32)), .val (.int (0 : Int32)), .val (.int (2 : Int32)), .val (.long ev0), .second] [(.long ev0), (.int (2 : Int32)), (.ref a1)])) rfl rfl (hb hby d3_30)
    refine GoW.st st3 ?_
    have f4_V_a1 : Arv Z h3 a1 ka .long (4 : Int32) [(.long ev2), (.long ev1), (.long ev0), (.long ev3)] (.long (0 : Int64)) := V3
    have K3 : Keep h0 h3 [a1] := K1.wr W3 (Or.inl (List.mem_of_getElem? (i := 0) rfl))
    have N3 := Fr.snoc X3 N1 pre_g_a1
    show GoW p e below QQ (T3.setTop (mkF m 31 #[.val (.ref a1), .val (.int (3 : Int32)), .val (.int (0 : Int32)), .val (.int (2 : Int32)), .val (.long ev0), .second] []))
    exact GoW.fin X3 none (fun _ => rfl) hlk hQ e3 ⟨ev2, ev0, rfl, N3, K3, f4_V_a1, (by omega)⟩ (by decide) (by decide) (fun fs hr => X3.returnOut hx hret (hb hby d3_31) hr)
  · skip
    refine GoW.st (fun t k => XS.ifYes X0.here hx rfl (pc0 := 12) (pc' := 31) rfl (hb hby d3_12) rfl ((if0 _ _).trans (flt (fun q => hc12 ((lw_gt ev0 ev2).mp q))).2.2.2) (by decide) (by decide) k) ?_
    show GoW p e below QQ (T0.setTop (mkF m 31 #[.val (.ref a1), .val (.int (3 : Int32)), .val (.int (0 : Int32)), .val (.int (2 : Int32)), .unset, .unset] []))
    have hi12 : ¬ (ev2.toInt < ev0.toInt) := (fun q => hc12 (Int64.lt_iff_toInt_lt.mpr q))
    exact GoW.fin X0 none (fun _ => rfl) hlk hQ e0 ⟨ev0, ev2, rfl, N0, K0, pre_V_a1, (by omega)⟩ (by decide) (by decide) (fun fs hr => X0.returnOut hx hret (hb hby d3_31) hr)
def RM3_313 : Room := { frames := 0, cells := 0, slots := 0, locals := 0 }
def Q3_313 (Z : State) (a1 : Addr) (h0 : Heap) (n0 : Nat) (v : Option Value) (h : Heap) (L : List Loc) : Prop := v = none ∧ Fr n0 L ∧ h = h0
set_option maxRecDepth 65536 in
set_option maxHeartbeats 40000000 in
theorem rm3_313 (l : Launch) (Z : State) (a0 : Array Value) (hw : ∀ d ∈ tables_1, d.before a0 Z = true) (ws : List Jvm.Cond) (a1 : Addr) (h0 : Heap) (n0 : Nat) (Z0 : n0 ≤ h0.size)  :
    MetFree l (⟨"com/example/hike/hike/HoldersMergePinLaw", "cx", "([JIII)V"⟩ : MethodName) (head1 (Jvm.Cond.code (⟨"com/example/hike/hike/HoldersMergePinLaw", "cx", "([JIII)V"⟩ : MethodName) method_4_code 6 none :: ws) RM3_313) (fun a U => a = #[(.ref a1), (.int (3 : Int32)), (.int (1 : Int32)), (.int (3 : Int32))] ∧ Z.Warmed39 U.vm ∧ U.heap = h0) (fun _ _ _ _ _ => True) (fun _ U o U' => ∃ v L, o = .returned v ∧ Q3_313 Z a1 h0 n0 v U'.heap L ∧ FrameEnd U o U' L RM3_313.cells RM3_313.slots) := by
  refine met_of (Q := fun v h L => Q3_313 Z a1 h0 n0 v h L) (plainFor_of_name pn_0) (fun m => by first | (simp [entryFrame, mkF, argsToLocals, Value.category]; done) | rfl) (Ls := #[.val (.ref a1), .val (.int (3 : Int32)), .val (.int (1 : Int32)), .val (.int (3 : Int32)), .unset, .unset]) ?_
  intro p e s m below meth c T0 QQ hx hZ hby hml hown hnm hret hlk X0 e0 hQ
  have hml : c.maxLocals = 6 := hml
  have hown : s.vm.findClass "com/example/hike/hike/HoldersMergePinLaw" = some m.cls := hown
  have hnm : meth.name = "cx" := hnm
  have hret : meth.sig.returnType = none := hret
  have N0 := Fr.nil n0
  have K0 : Keep h0 h0 [] := Keep.refl h0 _
  show GoW p e below QQ (T0.setTop (mkF m 0 #[.val (.ref a1), .val (.int (3 : Int32)), .val (.int (1 : Int32)), .val (.int (3 : Int32)), .unset, .unset] []))
  refine GoW.st (fun t k => XS.iloadN X0.here hx rfl (hb hby d3_0) rfl (XS.iloadN X0.here hx rfl (hb hby d3_1) rfl k)) ?_
  show GoW p e below QQ (T0.setTop (mkF m 2 #[.val (.ref a1), .val (.int (3 : Int32)), .val (.int (1 : Int32)), .val (.int (3 : Int32)), .unset, .unset] [(.int (3 : Int32)), (.int (3 : Int32))]))
  have hc2 : ¬ ((3 : Int32) < (3 : Int32)) := by decide
  refine GoW.st (fun t k => XS.icmpYes X0.here hx rfl (pc0 := 2) (pc' := 31) rfl (hb hby d3_2) rfl (flt hc2).2.1 (by decide) (by decide) k) ?_
  show GoW p e below QQ (T0.setTop (mkF m 31 #[.val (.ref a1), .val (.int (3 : Int32)), .val (.int (1 : Int32)), .val (.int (3 : Int32)), .unset, .unset] []))
  exact GoW.fin X0 none (fun _ => rfl) hlk hQ e0 ⟨rfl, N0, rfl⟩ (by decide) (by decide) (fun fs hr => X0.returnOut hx hret (hb hby d3_31) hr)
def RM3_312 : Room := { frames := 0, cells := 0, slots := 0, locals := 0 }
def Q3_312 (Z : State) (a1 : Addr) (ka : ClassId) (ev0 : Int64) (ev1 : Int64) (ev2 : Int64) (ev3 : Int64) (h0 : Heap) (n0 : Nat) (v : Option Value) (h : Heap) (L : List Loc) : Prop := ∃ (wa : Int64) (wb : Int64), v = none ∧ Fr n0 L ∧ Keep h0 h [a1] ∧ (Arv Z h a1 ka .long (4 : Int32) [(.long ev0), (.long wa), (.long wb), (.long ev3)] (.long (0 : Int64))) ∧ (wa.toInt = min ev1.toInt ev2.toInt ∧ wb.toInt = max ev1.toInt ev2.toInt)
set_option maxRecDepth 65536 in
set_option maxHeartbeats 40000000 in
theorem rm3_312 (l : Launch) (Z : State) (a0 : Array Value) (hw : ∀ d ∈ tables_1, d.before a0 Z = true) (ws : List Jvm.Cond) (a1 : Addr) (ka : ClassId) (ev0 : Int64) (ev1 : Int64) (ev2 : Int64) (ev3 : Int64) (h0 : Heap) (n0 : Nat) (Z0 : n0 ≤ h0.size) (pre_V_a1 : Arv Z h0 a1 ka .long (4 : Int32) [(.long ev0), (.long ev1), (.long ev2), (.long ev3)] (.long (0 : Int64))) (pre_g_a1 : n0 ≤ a1) :
    MetFree l (⟨"com/example/hike/hike/HoldersMergePinLaw", "cx", "([JIII)V"⟩ : MethodName) (head1 (Jvm.Cond.code (⟨"com/example/hike/hike/HoldersMergePinLaw", "cx", "([JIII)V"⟩ : MethodName) method_4_code 6 none :: ws) RM3_312) (fun a U => a = #[(.ref a1), (.int (3 : Int32)), (.int (1 : Int32)), (.int (2 : Int32))] ∧ Z.Warmed39 U.vm ∧ U.heap = h0) (fun _ _ _ _ _ => True) (fun _ U o U' => ∃ v L, o = .returned v ∧ Q3_312 Z a1 ka ev0 ev1 ev2 ev3 h0 n0 v U'.heap L ∧ FrameEnd U o U' L RM3_312.cells RM3_312.slots) := by
  refine met_of (Q := fun v h L => Q3_312 Z a1 ka ev0 ev1 ev2 ev3 h0 n0 v h L) (plainFor_of_name pn_0) (fun m => by first | (simp [entryFrame, mkF, argsToLocals, Value.category]; done) | rfl) (Ls := #[.val (.ref a1), .val (.int (3 : Int32)), .val (.int (1 : Int32)), .val (.int (2 : Int32)), .unset, .unset]) ?_
  intro p e s m below meth c T0 QQ hx hZ hby hml hown hnm hret hlk X0 e0 hQ
  have hml : c.maxLocals = 6 := hml
  have hown : s.vm.findClass "com/example/hike/hike/HoldersMergePinLaw" = some m.cls := hown
  have hnm : meth.name = "cx" := hnm
  have hret : meth.sig.returnType = none := hret
  have N0 := Fr.nil n0
  have K0 : Keep h0 h0 [a1] := Keep.refl h0 _
  show GoW p e below QQ (T0.setTop (mkF m 0 #[.val (.ref a1), .val (.int (3 : Int32)), .val (.int (1 : Int32)), .val (.int (2 : Int32)), .unset, .unset] []))
  refine GoW.st (fun t k => XS.iloadN X0.here hx rfl (hb hby d3_0) rfl (XS.iloadN X0.here hx rfl (hb hby d3_1) rfl k)) ?_
  show GoW p e below QQ (T0.setTop (mkF m 2 #[.val (.ref a1), .val (.int (3 : Int32)), .val (.int (1 : Int32)), .val (.int (2 : Int32)), .unset, .unset] [(.int (3 : Int32)), (.int (2 : Int32))]))
  have hc2 : (2 : Int32) < (3 : Int32) := by decide
  refine GoW.st (fun t k => XS.icmpNo X0.here hx rfl (hb hby d3_2) rfl (tlt hc2).2.1 (XS.aloadN X0.here hx rfl (hb hby d3_5) rfl rfl (XS.iloadN X0.here hx rfl (hb hby d3_6) rfl (ldVJ X0 hx hZ e0 pre_V_a1 (v := (.long ev1)) ⟨by decide, by decide⟩ rfl (g := (mkF m 7 #[.val (.ref a1), .val (.int (3 : Int32)), .val (.int (1 : Int32)), .val (.int (2 : Int32)), .unset, .unset] [(.int (1 : Int32)), (.ref a1)])) rfl rfl (hb hby d3_7) t (XS.aloadN X0.here hx rfl (hb hby d3_8) rfl rfl (XS.iloadN X0.here hx rfl (hb hby d3_9) rfl k)))))) ?_
  show GoW p e below QQ (T0.setTop (mkF m 10 #[.val (.ref a1), .val (.int (3 : Int32)), .val (.int (1 : Int32)), .val (.int (2 : Int32)), .unset, .unset] [(.int (2 : Int32)), (.ref a1), (.long ev1)]))
  refine GoW.st (fun t k => ldVJ X0 hx hZ e0 pre_V_a1 (v := (.long ev2)) ⟨by decide, by decide⟩ rfl (g := (mkF m 10 #[.val (.ref a1), .val (.int (3 : Int32)), .val (.int (1 : Int32)), .val (.int (2 : Int32)), .unset, .unset] [(.int (2 : Int32)), (.ref a1), (.long ev1)])) rfl rfl (hb hby d3_10) t (XS.lcmp X0.here hx rfl (hb hby d3_11) rfl k)) ?_
  show GoW p e below QQ (T0.setTop (mkF m 12 #[.val (.ref a1), .val (.int (3 : Int32)), .val (.int (1 : Int32)), .val (.int (2 : Int32)), .unset, .unset] [(.int (lcmpW ev1 ev2))]))
  by_cases hc12 : ev2 < ev1
  · skip
    refine GoW.st (fun t k => XS.ifNo X0.here hx rfl (hb hby d3_12) rfl ((if0 _ _).trans (tlt ((lw_gt ev1 ev2).mpr hc12)).2.2.2) k) ?_
    show GoW p e below QQ (T0.setTop (mkF m 15 #[.val (.ref a1), .val (.int (3 : Int32)), .val (.int (1 : Int32)), .val (.int (2 : Int32)), .unset, .unset] []))
    have hi12 : ev2.toInt < ev1.toInt := (Int64.lt_iff_toInt_lt.mp hc12)
    refine GoW.st (fun t k => XS.aloadN X0.here hx rfl (hb hby d3_15) rfl rfl (XS.iloadN X0.here hx rfl (hb hby d3_16) rfl (ldVJ X0 hx hZ e0 pre_V_a1 (v := (.long ev1)) ⟨by decide, by decide⟩ rfl (g := (mkF m 17 #[.val (.ref a1), .val (.int (3 : Int32)), .val (.int (1 : Int32)), .val (.int (2 : Int32)), .unset, .unset] [(.int (1 : Int32)), (.ref a1)])) rfl rfl (hb hby d3_17) t (XS.lstore X0.here hx rfl (hb hby d3_18) rfl (l' := #[.val (.ref a1), .val (.int (3 : Int32)), .val (.int (1 : Int32)), .val (.int (2 : Int32)), .val (.long ev1), .second]) rfl (XS.aloadN X0.here hx rfl (hb hby d3_20) rfl rfl (XS.iloadN X0.here hx rfl (hb hby d3_21) rfl k)))))) ?_
    show GoW p e below QQ (T0.setTop (mkF m 22 #[.val (.ref a1), .val (.int (3 : Int32)), .val (.int (1 : Int32)), .val (.int (2 : Int32)), .val (.long ev1), .second] [(.int (1 : Int32)), (.ref a1)]))
    refine GoW.st (fun t k => XS.aloadN X0.here hx rfl (hb hby d3_22) rfl rfl (XS.iloadN X0.here hx rfl (hb hby d3_23) rfl (ldVJ X0 hx hZ e0 pre_V_a1 (v := (.long ev2)) ⟨by decide, by decide⟩ rfl (g := (mkF m 24 #[.val (.ref a1), .val (.int (3 : Int32)), .val (.int (1 : Int32)), .val (.int (2 : Int32)), .val (.long ev1), .second] [(.int (2 : Int32)), (.ref a1), (.int (1 : Int32)), (.ref a1)])) rfl rfl (hb hby d3_24) t k))) ?_
    show GoW p e below QQ (T0.setTop (mkF m 25 #[.val (.ref a1), .val (.int (3 : Int32)), .val (.int (1 : Int32)), .val (.int (2 : Int32)), .val (.long ev1), .second] [(.long ev2), (.int (1 : Int32)), (.ref a1)]))
    obtain ⟨T1, h1, X1, e1, W1, V1, st1⟩ := stVJ X0 hx hZ e0 pre_V_a1 ⟨by decide, by decide⟩ 1 rfl (Nat.le_of_ble_eq_true rfl) (g := (mkF m 25 #[.val (.ref a1), .val (.int (3 : Int32)), .val (.int (1 : Int32)), .val (.int (2 : Int32)), .val (.long ev1), .second] [(.long ev2), (.int (1 : Int32)), (.ref a1)])) rfl rfl (hb hby d3_25)
    refine GoW.st st1 ?_
    have f2_V_a1 : Arv Z h1 a1 ka .long (4 : Int32) [(.long ev0), (.long ev2), (.long ev2), (.long ev3)] (.long (0 : Int64)) := V1
    have K1 : Keep h0 h1 [a1] := K0.wr W1 (Or.inl (List.mem_of_getElem? (i := 0) rfl))
    have N1 := Fr.snoc X1 N0 pre_g_a1
    show GoW p e below QQ (T1.setTop (mkF m 26 #[.val (.ref a1), .val (.int (3 : Int32)), .val (.int (1 : Int32)), .val (.int (2 : Int32)), .val (.long ev1), .second] []))
    refine GoW.st (fun t k => XS.aloadN X1.here hx rfl (hb hby d3_26) rfl rfl (XS.iloadN X1.here hx rfl (hb hby d3_27) rfl (XS.lload X1.here hx rfl (hb hby d3_28) rfl k))) ?_
    show GoW p e below QQ (T1.setTop (mkF m 30 #[.val (.ref a1), .val (.int (3 : Int32)), .val (.int (1 : Int32)), .val (.int (2 : Int32)), .val (.long ev1), .second] [(.long ev1), (.int (2 : Int32)), (.ref a1)]))
    obtain ⟨T3, h3, X3, e3, W3, V3, st3⟩ := stVJ X1 hx hZ e1 f2_V_a1 ⟨by decide, by decide⟩ 2 rfl (Nat.le_of_ble_eq_true rfl) (g := (mkF m 30 #[.val (.ref a1), .val (.int (3 : Int32)), .val (.int (1 : Int32)), .val (.int (2 : Int32)), .val (.long ev1), .second] [(.long ev1), (.int (2 : Int32)), (.ref a1)])) rfl rfl (hb hby d3_30)
    refine GoW.st st3 ?_
    have f4_V_a1 : Arv Z h3 a1 ka .long (4 : Int32) [(.long ev0), (.long ev2), (.long ev1), (.long ev3)] (.long (0 : Int64)) := V3
    have K3 : Keep h0 h3 [a1] := K1.wr W3 (Or.inl (List.mem_of_getElem? (i := 0) rfl))
    have N3 := Fr.snoc X3 N1 pre_g_a1
    show GoW p e below QQ (T3.setTop (mkF m 31 #[.val (.ref a1), .val (.int (3 : Int32)), .val (.int (1 : Int32)), .val (.int (2 : Int32)), .val (.long ev1), .second] []))
    exact GoW.fin X3 none (fun _ => rfl) hlk hQ e3 ⟨ev2, ev1, rfl, N3, K3, f4_V_a1, (by omega)⟩ (by decide) (by decide) (fun fs hr => X3.returnOut hx hret (hb hby d3_31) hr)
  · skip
    refine GoW.st (fun t k => XS.ifYes X0.here hx rfl (pc0 := 12) (pc' := 31) rfl (hb hby d3_12) rfl ((if0 _ _).trans (flt (fun q => hc12 ((lw_gt ev1 ev2).mp q))).2.2.2) (by decide) (by decide) k) ?_
    show GoW p e below QQ (T0.setTop (mkF m 31 #[.val (.ref a1), .val (.int (3 : Int32)), .val (.int (1 : Int32)), .val (.int (2 : Int32)), .unset, .unset] []))
    have hi12 : ¬ (ev2.toInt < ev1.toInt) := (fun q => hc12 (Int64.lt_iff_toInt_lt.mpr q))
    exact GoW.fin X0 none (fun _ => rfl) hlk hQ e0 ⟨ev1, ev2, rfl, N0, K0, pre_V_a1, (by omega)⟩ (by decide) (by decide) (fun fs hr => X0.returnOut hx hret (hb hby d3_31) hr)
def RM3_401 : Room := { frames := 0, cells := 0, slots := 0, locals := 0 }
def Q3_401 (Z : State) (a1 : Addr) (ka : ClassId) (ev0 : Int64) (ev1 : Int64) (ev2 : Int64) (ev3 : Int64) (h0 : Heap) (n0 : Nat) (v : Option Value) (h : Heap) (L : List Loc) : Prop := ∃ (wa : Int64) (wb : Int64), v = none ∧ Fr n0 L ∧ Keep h0 h [a1] ∧ (Arv Z h a1 ka .long (4 : Int32) [(.long wa), (.long wb), (.long ev2), (.long ev3)] (.long (0 : Int64))) ∧ (wa.toInt = min ev0.toInt ev1.toInt ∧ wb.toInt = max ev0.toInt ev1.toInt)
set_option maxRecDepth 65536 in
set_option maxHeartbeats 40000000 in
theorem rm3_401 (l : Launch) (Z : State) (a0 : Array Value) (hw : ∀ d ∈ tables_1, d.before a0 Z = true) (ws : List Jvm.Cond) (a1 : Addr) (ka : ClassId) (ev0 : Int64) (ev1 : Int64) (ev2 : Int64) (ev3 : Int64) (h0 : Heap) (n0 : Nat) (Z0 : n0 ≤ h0.size) (pre_V_a1 : Arv Z h0 a1 ka .long (4 : Int32) [(.long ev0), (.long ev1), (.long ev2), (.long ev3)] (.long (0 : Int64))) (pre_g_a1 : n0 ≤ a1) :
    MetFree l (⟨"com/example/hike/hike/HoldersMergePinLaw", "cx", "([JIII)V"⟩ : MethodName) (head1 (Jvm.Cond.code (⟨"com/example/hike/hike/HoldersMergePinLaw", "cx", "([JIII)V"⟩ : MethodName) method_4_code 6 none :: ws) RM3_401) (fun a U => a = #[(.ref a1), (.int (4 : Int32)), (.int (0 : Int32)), (.int (1 : Int32))] ∧ Z.Warmed39 U.vm ∧ U.heap = h0) (fun _ _ _ _ _ => True) (fun _ U o U' => ∃ v L, o = .returned v ∧ Q3_401 Z a1 ka ev0 ev1 ev2 ev3 h0 n0 v U'.heap L ∧ FrameEnd U o U' L RM3_401.cells RM3_401.slots) := by
  refine met_of (Q := fun v h L => Q3_401 Z a1 ka ev0 ev1 ev2 ev3 h0 n0 v h L) (plainFor_of_name pn_0) (fun m => by first | (simp [entryFrame, mkF, argsToLocals, Value.category]; done) | rfl) (Ls := #[.val (.ref a1), .val (.int (4 : Int32)), .val (.int (0 : Int32)), .val (.int (1 : Int32)), .unset, .unset]) ?_
  intro p e s m below meth c T0 QQ hx hZ hby hml hown hnm hret hlk X0 e0 hQ
  have hml : c.maxLocals = 6 := hml
  have hown : s.vm.findClass "com/example/hike/hike/HoldersMergePinLaw" = some m.cls := hown
  have hnm : meth.name = "cx" := hnm
  have hret : meth.sig.returnType = none := hret
  have N0 := Fr.nil n0
  have K0 : Keep h0 h0 [a1] := Keep.refl h0 _
  show GoW p e below QQ (T0.setTop (mkF m 0 #[.val (.ref a1), .val (.int (4 : Int32)), .val (.int (0 : Int32)), .val (.int (1 : Int32)), .unset, .unset] []))
  refine GoW.st (fun t k => XS.iloadN X0.here hx rfl (hb hby d3_0) rfl (XS.iloadN X0.here hx rfl (hb hby d3_1) rfl k)) ?_
  show GoW p e below QQ (T0.setTop (mkF m 2 #[.val (.ref a1), .val (.int (4 : Int32)), .val (.int (0 : Int32)), .val (.int (1 : Int32)), .unset, .unset] [(.int (4 : Int32)), (.int (1 : Int32))]))
  have hc2 : (1 : Int32) < (4 : Int32) := by decide
  refine GoW.st (fun t k => XS.icmpNo X0.here hx rfl (hb hby d3_2) rfl (tlt hc2).2.1 (XS.aloadN X0.here hx rfl (hb hby d3_5) rfl rfl (XS.iloadN X0.here hx rfl (hb hby d3_6) rfl (ldVJ X0 hx hZ e0 pre_V_a1 (v := (.long ev0)) ⟨by decide, by decide⟩ rfl (g := (mkF m 7 #[.val (.ref a1), .val (.int (4 : Int32)), .val (.int (0 : Int32)), .val (.int (1 : Int32)), .unset, .unset] [(.int (0 : Int32)), (.ref a1)])) rfl rfl (hb hby d3_7) t (XS.aloadN X0.here hx rfl (hb hby d3_8) rfl rfl (XS.iloadN X0.here hx rfl (hb hby d3_9) rfl k)))))) ?_
  show GoW p e below QQ (T0.setTop (mkF m 10 #[.val (.ref a1), .val (.int (4 : Int32)), .val (.int (0 : Int32)), .val (.int (1 : Int32)), .unset, .unset] [(.int (1 : Int32)), (.ref a1), (.long ev0)]))
  refine GoW.st (fun t k => ldVJ X0 hx hZ e0 pre_V_a1 (v := (.long ev1)) ⟨by decide, by decide⟩ rfl (g := (mkF m 10 #[.val (.ref a1), .val (.int (4 : Int32)), .val (.int (0 : Int32)), .val (.int (1 : Int32)), .unset, .unset] [(.int (1 : Int32)), (.ref a1), (.long ev0)])) rfl rfl (hb hby d3_10) t (XS.lcmp X0.here hx rfl (hb hby d3_11) rfl k)) ?_
  show GoW p e below QQ (T0.setTop (mkF m 12 #[.val (.ref a1), .val (.int (4 : Int32)), .val (.int (0 : Int32)), .val (.int (1 : Int32)), .unset, .unset] [(.int (lcmpW ev0 ev1))]))
  by_cases hc12 : ev1 < ev0
  · skip
    refine GoW.st (fun t k => XS.ifNo X0.here hx rfl (hb hby d3_12) rfl ((if0 _ _).trans (tlt ((lw_gt ev0 ev1).mpr hc12)).2.2.2) k) ?_
    show GoW p e below QQ (T0.setTop (mkF m 15 #[.val (.ref a1), .val (.int (4 : Int32)), .val (.int (0 : Int32)), .val (.int (1 : Int32)), .unset, .unset] []))
    have hi12 : ev1.toInt < ev0.toInt := (Int64.lt_iff_toInt_lt.mp hc12)
    refine GoW.st (fun t k => XS.aloadN X0.here hx rfl (hb hby d3_15) rfl rfl (XS.iloadN X0.here hx rfl (hb hby d3_16) rfl (ldVJ X0 hx hZ e0 pre_V_a1 (v := (.long ev0)) ⟨by decide, by decide⟩ rfl (g := (mkF m 17 #[.val (.ref a1), .val (.int (4 : Int32)), .val (.int (0 : Int32)), .val (.int (1 : Int32)), .unset, .unset] [(.int (0 : Int32)), (.ref a1)])) rfl rfl (hb hby d3_17) t (XS.lstore X0.here hx rfl (hb hby d3_18) rfl (l' := #[.val (.ref a1), .val (.int (4 : Int32)), .val (.int (0 : Int32)), .val (.int (1 : Int32)), .val (.long ev0), .second]) rfl (XS.aloadN X0.here hx rfl (hb hby d3_20) rfl rfl (XS.iloadN X0.here hx rfl (hb hby d3_21) rfl k)))))) ?_
    show GoW p e below QQ (T0.setTop (mkF m 22 #[.val (.ref a1), .val (.int (4 : Int32)), .val (.int (0 : Int32)), .val (.int (1 : Int32)), .val (.long ev0), .second] [(.int (0 : Int32)), (.ref a1)]))
    refine GoW.st (fun t k => XS.aloadN X0.here hx rfl (hb hby d3_22) rfl rfl (XS.iloadN X0.here hx rfl (hb hby d3_23) rfl (ldVJ X0 hx hZ e0 pre_V_a1 (v := (.long ev1)) ⟨by decide, by decide⟩ rfl (g := (mkF m 24 #[.val (.ref a1), .val (.int (4 : Int32)), .val (.int (0 : Int32)), .val (.int (1 : Int32)), .val (.long ev0), .second] [(.int (1 : Int32)), (.ref a1), (.int (0 : Int32)), (.ref a1)])) rfl rfl (hb hby d3_24) t k))) ?_
    show GoW p e below QQ (T0.setTop (mkF m 25 #[.val (.ref a1), .val (.int (4 : Int32)), .val (.int (0 : Int32)), .val (.int (1 : Int32)), .val (.long ev0), .second] [(.long ev1), (.int (0 : Int32)), (.ref a1)]))
    obtain ⟨T1, h1, X1, e1, W1, V1, st1⟩ := stVJ X0 hx hZ e0 pre_V_a1 ⟨by decide, by decide⟩ 0 rfl (Nat.le_of_ble_eq_true rfl) (g := (mkF m 25 #[.val (.ref a1), .val (.int (4 : Int32)), .val (.int (0 : Int32)), .val (.int (1 : Int32)), .val (.long ev0), .second] [(.long ev1), (.int (0 : Int32)), (.ref a1)])) rfl rfl (hb hby d3_25)
    refine GoW.st st1 ?_
    have f2_V_a1 : Arv Z h1 a1 ka .long (4 : Int32) [(.long ev1), (.long ev1), (.long ev2), (.long ev3)] (.long (0 : Int64)) := V1
    have K1 : Keep h0 h1 [a1] := K0.wr W1 (Or.inl (List.mem_of_getElem? (i := 0) rfl))
    have N1 := Fr.snoc X1 N0 pre_g_a1
    show GoW p e below QQ (T1.setTop (mkF m 26 #[.val (.ref a1), .val (.int (4 : Int32)), .val (.int (0 : Int32)), .val (.int (1 : Int32)), .val (.long ev0), .second] []))
    refine GoW.st (fun t k => XS.aloadN X1.here hx rfl (hb hby d3_26) rfl rfl (XS.iloadN X1.here hx rfl (hb hby d3_27) rfl (XS.lload X1.here hx rfl (hb hby d3_28) rfl k))) ?_
    show GoW p e below QQ (T1.setTop (mkF m 30 #[.val (.ref a1), .val (.int (4 : Int32)), .val (.int (0 : Int32)), .val (.int (1 : Int32)), .val (.long ev0), .second] [(.long ev0), (.int (1 : Int32)), (.ref a1)]))
    obtain ⟨T3, h3, X3, e3, W3, V3, st3⟩ := stVJ X1 hx hZ e1 f2_V_a1 ⟨by decide, by decide⟩ 1 rfl (Nat.le_of_ble_eq_true rfl) (g := (mkF m 30 #[.val (.ref a1), .val (.int (4 : Int32)), .val (.int (0 : Int32)), .val (.int (1 : Int32)), .val (.long ev0), .second] [(.long ev0), (.int (1 : Int32)), (.ref a1)])) rfl rfl (hb hby d3_30)
    refine GoW.st st3 ?_
    have f4_V_a1 : Arv Z h3 a1 ka .long (4 : Int32) [(.long ev1), (.long ev0), (.long ev2), (.long ev3)] (.long (0 : Int64)) := V3
    have K3 : Keep h0 h3 [a1] := K1.wr W3 (Or.inl (List.mem_of_getElem? (i := 0) rfl))
    have N3 := Fr.snoc X3 N1 pre_g_a1
    show GoW p e below QQ (T3.setTop (mkF m 31 #[.val (.ref a1), .val (.int (4 : Int32)), .val (.int (0 : Int32)), .val (.int (1 : Int32)), .val (.long ev0), .second] []))
    exact GoW.fin X3 none (fun _ => rfl) hlk hQ e3 ⟨ev1, ev0, rfl, N3, K3, f4_V_a1, (by omega)⟩ (by decide) (by decide) (fun fs hr => X3.returnOut hx hret (hb hby d3_31) hr)
  · skip
    refine GoW.st (fun t k => XS.ifYes X0.here hx rfl (pc0 := 12) (pc' := 31) rfl (hb hby d3_12) rfl ((if0 _ _).trans (flt (fun q => hc12 ((lw_gt ev0 ev1).mp q))).2.2.2) (by decide) (by decide) k) ?_
    show GoW p e below QQ (T0.setTop (mkF m 31 #[.val (.ref a1), .val (.int (4 : Int32)), .val (.int (0 : Int32)), .val (.int (1 : Int32)), .unset, .unset] []))
    have hi12 : ¬ (ev1.toInt < ev0.toInt) := (fun q => hc12 (Int64.lt_iff_toInt_lt.mpr q))
    exact GoW.fin X0 none (fun _ => rfl) hlk hQ e0 ⟨ev0, ev1, rfl, N0, K0, pre_V_a1, (by omega)⟩ (by decide) (by decide) (fun fs hr => X0.returnOut hx hret (hb hby d3_31) hr)
def RM3_423 : Room := { frames := 0, cells := 0, slots := 0, locals := 0 }
def Q3_423 (Z : State) (a1 : Addr) (ka : ClassId) (ev0 : Int64) (ev1 : Int64) (ev2 : Int64) (ev3 : Int64) (h0 : Heap) (n0 : Nat) (v : Option Value) (h : Heap) (L : List Loc) : Prop := ∃ (wa : Int64) (wb : Int64), v = none ∧ Fr n0 L ∧ Keep h0 h [a1] ∧ (Arv Z h a1 ka .long (4 : Int32) [(.long ev0), (.long ev1), (.long wa), (.long wb)] (.long (0 : Int64))) ∧ (wa.toInt = min ev2.toInt ev3.toInt ∧ wb.toInt = max ev2.toInt ev3.toInt)
set_option maxRecDepth 65536 in
set_option maxHeartbeats 40000000 in
theorem rm3_423 (l : Launch) (Z : State) (a0 : Array Value) (hw : ∀ d ∈ tables_1, d.before a0 Z = true) (ws : List Jvm.Cond) (a1 : Addr) (ka : ClassId) (ev0 : Int64) (ev1 : Int64) (ev2 : Int64) (ev3 : Int64) (h0 : Heap) (n0 : Nat) (Z0 : n0 ≤ h0.size) (pre_V_a1 : Arv Z h0 a1 ka .long (4 : Int32) [(.long ev0), (.long ev1), (.long ev2), (.long ev3)] (.long (0 : Int64))) (pre_g_a1 : n0 ≤ a1) :
    MetFree l (⟨"com/example/hike/hike/HoldersMergePinLaw", "cx", "([JIII)V"⟩ : MethodName) (head1 (Jvm.Cond.code (⟨"com/example/hike/hike/HoldersMergePinLaw", "cx", "([JIII)V"⟩ : MethodName) method_4_code 6 none :: ws) RM3_423) (fun a U => a = #[(.ref a1), (.int (4 : Int32)), (.int (2 : Int32)), (.int (3 : Int32))] ∧ Z.Warmed39 U.vm ∧ U.heap = h0) (fun _ _ _ _ _ => True) (fun _ U o U' => ∃ v L, o = .returned v ∧ Q3_423 Z a1 ka ev0 ev1 ev2 ev3 h0 n0 v U'.heap L ∧ FrameEnd U o U' L RM3_423.cells RM3_423.slots) := by
  refine met_of (Q := fun v h L => Q3_423 Z a1 ka ev0 ev1 ev2 ev3 h0 n0 v h L) (plainFor_of_name pn_0) (fun m => by first | (simp [entryFrame, mkF, argsToLocals, Value.category]; done) | rfl) (Ls := #[.val (.ref a1), .val (.int (4 : Int32)), .val (.int (2 : Int32)), .val (.int (3 : Int32)), .unset, .unset]) ?_
  intro p e s m below meth c T0 QQ hx hZ hby hml hown hnm hret hlk X0 e0 hQ
  have hml : c.maxLocals = 6 := hml
  have hown : s.vm.findClass "com/example/hike/hike/HoldersMergePinLaw" = some m.cls := hown
  have hnm : meth.name = "cx" := hnm
  have hret : meth.sig.returnType = none := hret
  have N0 := Fr.nil n0
  have K0 : Keep h0 h0 [a1] := Keep.refl h0 _
  show GoW p e below QQ (T0.setTop (mkF m 0 #[.val (.ref a1), .val (.int (4 : Int32)), .val (.int (2 : Int32)), .val (.int (3 : Int32)), .unset, .unset] []))
  refine GoW.st (fun t k => XS.iloadN X0.here hx rfl (hb hby d3_0) rfl (XS.iloadN X0.here hx rfl (hb hby d3_1) rfl k)) ?_
  show GoW p e below QQ (T0.setTop (mkF m 2 #[.val (.ref a1), .val (.int (4 : Int32)), .val (.int (2 : Int32)), .val (.int (3 : Int32)), .unset, .unset] [(.int (4 : Int32)), (.int (3 : Int32))]))
  have hc2 : (3 : Int32) < (4 : Int32) := by decide
  refine GoW.st (fun t k => XS.icmpNo X0.here hx rfl (hb hby d3_2) rfl (tlt hc2).2.1 (XS.aloadN X0.here hx rfl (hb hby d3_5) rfl rfl (XS.iloadN X0.here hx rfl (hb hby d3_6) rfl (ldVJ X0 hx hZ e0 pre_V_a1 (v := (.long ev2)) ⟨by decide, by decide⟩ rfl (g := (mkF m 7 #[.val (.ref a1), .val (.int (4 : Int32)), .val (.int (2 : Int32)), .val (.int (3 : Int32)), .unset, .unset] [(.int (2 : Int32)), (.ref a1)])) rfl rfl (hb hby d3_7) t (XS.aloadN X0.here hx rfl (hb hby d3_8) rfl rfl (XS.iloadN X0.here hx rfl (hb hby d3_9) rfl k)))))) ?_
  show GoW p e below QQ (T0.setTop (mkF m 10 #[.val (.ref a1), .val (.int (4 : Int32)), .val (.int (2 : Int32)), .val (.int (3 : Int32)), .unset, .unset] [(.int (3 : Int32)), (.ref a1), (.long ev2)]))
  refine GoW.st (fun t k => ldVJ X0 hx hZ e0 pre_V_a1 (v := (.long ev3)) ⟨by decide, by decide⟩ rfl (g := (mkF m 10 #[.val (.ref a1), .val (.int (4 : Int32)), .val (.int (2 : Int32)), .val (.int (3 : Int32)), .unset, .unset] [(.int (3 : Int32)), (.ref a1), (.long ev2)])) rfl rfl (hb hby d3_10) t (XS.lcmp X0.here hx rfl (hb hby d3_11) rfl k)) ?_
  show GoW p e below QQ (T0.setTop (mkF m 12 #[.val (.ref a1), .val (.int (4 : Int32)), .val (.int (2 : Int32)), .val (.int (3 : Int32)), .unset, .unset] [(.int (lcmpW ev2 ev3))]))
  by_cases hc12 : ev3 < ev2
  · skip
    refine GoW.st (fun t k => XS.ifNo X0.here hx rfl (hb hby d3_12) rfl ((if0 _ _).trans (tlt ((lw_gt ev2 ev3).mpr hc12)).2.2.2) k) ?_
    show GoW p e below QQ (T0.setTop (mkF m 15 #[.val (.ref a1), .val (.int (4 : Int32)), .val (.int (2 : Int32)), .val (.int (3 : Int32)), .unset, .unset] []))
    have hi12 : ev3.toInt < ev2.toInt := (Int64.lt_iff_toInt_lt.mp hc12)
    refine GoW.st (fun t k => XS.aloadN X0.here hx rfl (hb hby d3_15) rfl rfl (XS.iloadN X0.here hx rfl (hb hby d3_16) rfl (ldVJ X0 hx hZ e0 pre_V_a1 (v := (.long ev2)) ⟨by decide, by decide⟩ rfl (g := (mkF m 17 #[.val (.ref a1), .val (.int (4 : Int32)), .val (.int (2 : Int32)), .val (.int (3 : Int32)), .unset, .unset] [(.int (2 : Int32)), (.ref a1)])) rfl rfl (hb hby d3_17) t (XS.lstore X0.here hx rfl (hb hby d3_18) rfl (l' := #[.val (.ref a1), .val (.int (4 : Int32)), .val (.int (2 : Int32)), .val (.int (3 : Int32)), .val (.long ev2), .second]) rfl (XS.aloadN X0.here hx rfl (hb hby d3_20) rfl rfl (XS.iloadN X0.here hx rfl (hb hby d3_21) rfl k)))))) ?_
    show GoW p e below QQ (T0.setTop (mkF m 22 #[.val (.ref a1), .val (.int (4 : Int32)), .val (.int (2 : Int32)), .val (.int (3 : Int32)), .val (.long ev2), .second] [(.int (2 : Int32)), (.ref a1)]))
    refine GoW.st (fun t k => XS.aloadN X0.here hx rfl (hb hby d3_22) rfl rfl (XS.iloadN X0.here hx rfl (hb hby d3_23) rfl (ldVJ X0 hx hZ e0 pre_V_a1 (v := (.long ev3)) ⟨by decide, by decide⟩ rfl (g := (mkF m 24 #[.val (.ref a1), .val (.int (4 : Int32)), .val (.int (2 : Int32)), .val (.int (3 : Int32)), .val (.long ev2), .second] [(.int (3 : Int32)), (.ref a1), (.int (2 : Int32)), (.ref a1)])) rfl rfl (hb hby d3_24) t k))) ?_
    show GoW p e below QQ (T0.setTop (mkF m 25 #[.val (.ref a1), .val (.int (4 : Int32)), .val (.int (2 : Int32)), .val (.int (3 : Int32)), .val (.long ev2), .second] [(.long ev3), (.int (2 : Int32)), (.ref a1)]))
    obtain ⟨T1, h1, X1, e1, W1, V1, st1⟩ := stVJ X0 hx hZ e0 pre_V_a1 ⟨by decide, by decide⟩ 2 rfl (Nat.le_of_ble_eq_true rfl) (g := (mkF m 25 #[.val (.ref a1), .val (.int (4 : Int32)), .val (.int (2 : Int32)), .val (.int (3 : Int32)), .val (.long ev2), .second] [(.long ev3), (.int (2 : Int32)), (.ref a1)])) rfl rfl (hb hby d3_25)
    refine GoW.st st1 ?_
    have f2_V_a1 : Arv Z h1 a1 ka .long (4 : Int32) [(.long ev0), (.long ev1), (.long ev3), (.long ev3)] (.long (0 : Int64)) := V1
    have K1 : Keep h0 h1 [a1] := K0.wr W1 (Or.inl (List.mem_of_getElem? (i := 0) rfl))
    have N1 := Fr.snoc X1 N0 pre_g_a1
    show GoW p e below QQ (T1.setTop (mkF m 26 #[.val (.ref a1), .val (.int (4 : Int32)), .val (.int (2 : Int32)), .val (.int (3 : Int32)), .val (.long ev2), .second] []))
    refine GoW.st (fun t k => XS.aloadN X1.here hx rfl (hb hby d3_26) rfl rfl (XS.iloadN X1.here hx rfl (hb hby d3_27) rfl (XS.lload X1.here hx rfl (hb hby d3_28) rfl k))) ?_
    show GoW p e below QQ (T1.setTop (mkF m 30 #[.val (.ref a1), .val (.int (4 : Int32)), .val (.int (2 : Int32)), .val (.int (3 : Int32)), .val (.long ev2), .second] [(.long ev2), (.int (3 : Int32)), (.ref a1)]))
    obtain ⟨T3, h3, X3, e3, W3, V3, st3⟩ := stVJ X1 hx hZ e1 f2_V_a1 ⟨by decide, by decide⟩ 3 rfl (Nat.le_of_ble_eq_true rfl) (g := (mkF m 30 #[.val (.ref a1), .val (.int (4 : Int32)), .val (.int (2 : Int32)), .val (.int (3 : Int32)), .val (.long ev2), .second] [(.long ev2), (.int (3 : Int32)), (.ref a1)])) rfl rfl (hb hby d3_30)
    refine GoW.st st3 ?_
    have f4_V_a1 : Arv Z h3 a1 ka .long (4 : Int32) [(.long ev0), (.long ev1), (.long ev3), (.long ev2)] (.long (0 : Int64)) := V3
    have K3 : Keep h0 h3 [a1] := K1.wr W3 (Or.inl (List.mem_of_getElem? (i := 0) rfl))
    have N3 := Fr.snoc X3 N1 pre_g_a1
    show GoW p e below QQ (T3.setTop (mkF m 31 #[.val (.ref a1), .val (.int (4 : Int32)), .val (.int (2 : Int32)), .val (.int (3 : Int32)), .val (.long ev2), .second] []))
    exact GoW.fin X3 none (fun _ => rfl) hlk hQ e3 ⟨ev3, ev2, rfl, N3, K3, f4_V_a1, (by omega)⟩ (by decide) (by decide) (fun fs hr => X3.returnOut hx hret (hb hby d3_31) hr)
  · skip
    refine GoW.st (fun t k => XS.ifYes X0.here hx rfl (pc0 := 12) (pc' := 31) rfl (hb hby d3_12) rfl ((if0 _ _).trans (flt (fun q => hc12 ((lw_gt ev2 ev3).mp q))).2.2.2) (by decide) (by decide) k) ?_
    show GoW p e below QQ (T0.setTop (mkF m 31 #[.val (.ref a1), .val (.int (4 : Int32)), .val (.int (2 : Int32)), .val (.int (3 : Int32)), .unset, .unset] []))
    have hi12 : ¬ (ev3.toInt < ev2.toInt) := (fun q => hc12 (Int64.lt_iff_toInt_lt.mpr q))
    exact GoW.fin X0 none (fun _ => rfl) hlk hQ e0 ⟨ev2, ev3, rfl, N0, K0, pre_V_a1, (by omega)⟩ (by decide) (by decide) (fun fs hr => X0.returnOut hx hret (hb hby d3_31) hr)
def RM3_402 : Room := { frames := 0, cells := 0, slots := 0, locals := 0 }
def Q3_402 (Z : State) (a1 : Addr) (ka : ClassId) (ev0 : Int64) (ev1 : Int64) (ev2 : Int64) (ev3 : Int64) (h0 : Heap) (n0 : Nat) (v : Option Value) (h : Heap) (L : List Loc) : Prop := ∃ (wa : Int64) (wb : Int64), v = none ∧ Fr n0 L ∧ Keep h0 h [a1] ∧ (Arv Z h a1 ka .long (4 : Int32) [(.long wa), (.long ev1), (.long wb), (.long ev3)] (.long (0 : Int64))) ∧ (wa.toInt = min ev0.toInt ev2.toInt ∧ wb.toInt = max ev0.toInt ev2.toInt)
set_option maxRecDepth 65536 in
set_option maxHeartbeats 40000000 in
theorem rm3_402 (l : Launch) (Z : State) (a0 : Array Value) (hw : ∀ d ∈ tables_1, d.before a0 Z = true) (ws : List Jvm.Cond) (a1 : Addr) (ka : ClassId) (ev0 : Int64) (ev1 : Int64) (ev2 : Int64) (ev3 : Int64) (h0 : Heap) (n0 : Nat) (Z0 : n0 ≤ h0.size) (pre_V_a1 : Arv Z h0 a1 ka .long (4 : Int32) [(.long ev0), (.long ev1), (.long ev2), (.long ev3)] (.long (0 : Int64))) (pre_g_a1 : n0 ≤ a1) :
    MetFree l (⟨"com/example/hike/hike/HoldersMergePinLaw", "cx", "([JIII)V"⟩ : MethodName) (head1 (Jvm.Cond.code (⟨"com/example/hike/hike/HoldersMergePinLaw", "cx", "([JIII)V"⟩ : MethodName) method_4_code 6 none :: ws) RM3_402) (fun a U => a = #[(.ref a1), (.int (4 : Int32)), (.int (0 : Int32)), (.int (2 : Int32))] ∧ Z.Warmed39 U.vm ∧ U.heap = h0) (fun _ _ _ _ _ => True) (fun _ U o U' => ∃ v L, o = .returned v ∧ Q3_402 Z a1 ka ev0 ev1 ev2 ev3 h0 n0 v U'.heap L ∧ FrameEnd U o U' L RM3_402.cells RM3_402.slots) := by
  refine met_of (Q := fun v h L => Q3_402 Z a1 ka ev0 ev1 ev2 ev3 h0 n0 v h L) (plainFor_of_name pn_0) (fun m => by first | (simp [entryFrame, mkF, argsToLocals, Value.category]; done) | rfl) (Ls := #[.val (.ref a1), .val (.int (4 : Int32)), .val (.int (0 : Int32)), .val (.int (2 : Int32)), .unset, .unset]) ?_
  intro p e s m below meth c T0 QQ hx hZ hby hml hown hnm hret hlk X0 e0 hQ
  have hml : c.maxLocals = 6 := hml
  have hown : s.vm.findClass "com/example/hike/hike/HoldersMergePinLaw" = some m.cls := hown
  have hnm : meth.name = "cx" := hnm
  have hret : meth.sig.returnType = none := hret
  have N0 := Fr.nil n0
  have K0 : Keep h0 h0 [a1] := Keep.refl h0 _
  show GoW p e below QQ (T0.setTop (mkF m 0 #[.val (.ref a1), .val (.int (4 : Int32)), .val (.int (0 : Int32)), .val (.int (2 : Int32)), .unset, .unset] []))
  refine GoW.st (fun t k => XS.iloadN X0.here hx rfl (hb hby d3_0) rfl (XS.iloadN X0.here hx rfl (hb hby d3_1) rfl k)) ?_
  show GoW p e below QQ (T0.setTop (mkF m 2 #[.val (.ref a1), .val (.int (4 : Int32)), .val (.int (0 : Int32)), .val (.int (2 : Int32)), .unset, .unset] [(.int (4 : Int32)), (.int (2 : Int32))]))
  have hc2 : (2 : Int32) < (4 : Int32) := by decide
  refine GoW.st (fun t k => XS.icmpNo X0.here hx rfl (hb hby d3_2) rfl (tlt hc2).2.1 (XS.aloadN X0.here hx rfl (hb hby d3_5) rfl rfl (XS.iloadN X0.here hx rfl (hb hby d3_6) rfl (ldVJ X0 hx hZ e0 pre_V_a1 (v := (.long ev0)) ⟨by decide, by decide⟩ rfl (g := (mkF m 7 #[.val (.ref a1), .val (.int (4 : Int32)), .val (.int (0 : Int32)), .val (.int (2 : Int32)), .unset, .unset] [(.int (0 : Int32)), (.ref a1)])) rfl rfl (hb hby d3_7) t (XS.aloadN X0.here hx rfl (hb hby d3_8) rfl rfl (XS.iloadN X0.here hx rfl (hb hby d3_9) rfl k)))))) ?_
  show GoW p e below QQ (T0.setTop (mkF m 10 #[.val (.ref a1), .val (.int (4 : Int32)), .val (.int (0 : Int32)), .val (.int (2 : Int32)), .unset, .unset] [(.int (2 : Int32)), (.ref a1), (.long ev0)]))
  refine GoW.st (fun t k => ldVJ X0 hx hZ e0 pre_V_a1 (v := (.long ev2)) ⟨by decide, by decide⟩ rfl (g := (mkF m 10 #[.val (.ref a1), .val (.int (4 : Int32)), .val (.int (0 : Int32)), .val (.int (2 : Int32)), .unset, .unset] [(.int (2 : Int32)), (.ref a1), (.long ev0)])) rfl rfl (hb hby d3_10) t (XS.lcmp X0.here hx rfl (hb hby d3_11) rfl k)) ?_
  show GoW p e below QQ (T0.setTop (mkF m 12 #[.val (.ref a1), .val (.int (4 : Int32)), .val (.int (0 : Int32)), .val (.int (2 : Int32)), .unset, .unset] [(.int (lcmpW ev0 ev2))]))
  by_cases hc12 : ev2 < ev0
  · skip
    refine GoW.st (fun t k => XS.ifNo X0.here hx rfl (hb hby d3_12) rfl ((if0 _ _).trans (tlt ((lw_gt ev0 ev2).mpr hc12)).2.2.2) k) ?_
    show GoW p e below QQ (T0.setTop (mkF m 15 #[.val (.ref a1), .val (.int (4 : Int32)), .val (.int (0 : Int32)), .val (.int (2 : Int32)), .unset, .unset] []))
    have hi12 : ev2.toInt < ev0.toInt := (Int64.lt_iff_toInt_lt.mp hc12)
    refine GoW.st (fun t k => XS.aloadN X0.here hx rfl (hb hby d3_15) rfl rfl (XS.iloadN X0.here hx rfl (hb hby d3_16) rfl (ldVJ X0 hx hZ e0 pre_V_a1 (v := (.long ev0)) ⟨by decide, by decide⟩ rfl (g := (mkF m 17 #[.val (.ref a1), .val (.int (4 : Int32)), .val (.int (0 : Int32)), .val (.int (2 : Int32)), .unset, .unset] [(.int (0 : Int32)), (.ref a1)])) rfl rfl (hb hby d3_17) t (XS.lstore X0.here hx rfl (hb hby d3_18) rfl (l' := #[.val (.ref a1), .val (.int (4 : Int32)), .val (.int (0 : Int32)), .val (.int (2 : Int32)), .val (.long ev0), .second]) rfl (XS.aloadN X0.here hx rfl (hb hby d3_20) rfl rfl (XS.iloadN X0.here hx rfl (hb hby d3_21) rfl k)))))) ?_
    show GoW p e below QQ (T0.setTop (mkF m 22 #[.val (.ref a1), .val (.int (4 : Int32)), .val (.int (0 : Int32)), .val (.int (2 : Int32)), .val (.long ev0), .second] [(.int (0 : Int32)), (.ref a1)]))
    refine GoW.st (fun t k => XS.aloadN X0.here hx rfl (hb hby d3_22) rfl rfl (XS.iloadN X0.here hx rfl (hb hby d3_23) rfl (ldVJ X0 hx hZ e0 pre_V_a1 (v := (.long ev2)) ⟨by decide, by decide⟩ rfl (g := (mkF m 24 #[.val (.ref a1), .val (.int (4 : Int32)), .val (.int (0 : Int32)), .val (.int (2 : Int32)), .val (.long ev0), .second] [(.int (2 : Int32)), (.ref a1), (.int (0 : Int32)), (.ref a1)])) rfl rfl (hb hby d3_24) t k))) ?_
    show GoW p e below QQ (T0.setTop (mkF m 25 #[.val (.ref a1), .val (.int (4 : Int32)), .val (.int (0 : Int32)), .val (.int (2 : Int32)), .val (.long ev0), .second] [(.long ev2), (.int (0 : Int32)), (.ref a1)]))
    obtain ⟨T1, h1, X1, e1, W1, V1, st1⟩ := stVJ X0 hx hZ e0 pre_V_a1 ⟨by decide, by decide⟩ 0 rfl (Nat.le_of_ble_eq_true rfl) (g := (mkF m 25 #[.val (.ref a1), .val (.int (4 : Int32)), .val (.int (0 : Int32)), .val (.int (2 : Int32)), .val (.long ev0), .second] [(.long ev2), (.int (0 : Int32)), (.ref a1)])) rfl rfl (hb hby d3_25)
    refine GoW.st st1 ?_
    have f2_V_a1 : Arv Z h1 a1 ka .long (4 : Int32) [(.long ev2), (.long ev1), (.long ev2), (.long ev3)] (.long (0 : Int64)) := V1
    have K1 : Keep h0 h1 [a1] := K0.wr W1 (Or.inl (List.mem_of_getElem? (i := 0) rfl))
    have N1 := Fr.snoc X1 N0 pre_g_a1
    show GoW p e below QQ (T1.setTop (mkF m 26 #[.val (.ref a1), .val (.int (4 : Int32)), .val (.int (0 : Int32)), .val (.int (2 : Int32)), .val (.long ev0), .second] []))
    refine GoW.st (fun t k => XS.aloadN X1.here hx rfl (hb hby d3_26) rfl rfl (XS.iloadN X1.here hx rfl (hb hby d3_27) rfl (XS.lload X1.here hx rfl (hb hby d3_28) rfl k))) ?_
    show GoW p e below QQ (T1.setTop (mkF m 30 #[.val (.ref a1), .val (.int (4 : Int32)), .val (.int (0 : Int32)), .val (.int (2 : Int32)), .val (.long ev0), .second] [(.long ev0), (.int (2 : Int32)), (.ref a1)]))
    obtain ⟨T3, h3, X3, e3, W3, V3, st3⟩ := stVJ X1 hx hZ e1 f2_V_a1 ⟨by decide, by decide⟩ 2 rfl (Nat.le_of_ble_eq_true rfl) (g := (mkF m 30 #[.val (.ref a1), .val (.int (4 : Int32)), .val (.int (0 : Int32)), .val (.int (2 : Int32)), .val (.long ev0), .second] [(.long ev0), (.int (2 : Int32)), (.ref a1)])) rfl rfl (hb hby d3_30)
    refine GoW.st st3 ?_
    have f4_V_a1 : Arv Z h3 a1 ka .long (4 : Int32) [(.long ev2), (.long ev1), (.long ev0), (.long ev3)] (.long (0 : Int64)) := V3
    have K3 : Keep h0 h3 [a1] := K1.wr W3 (Or.inl (List.mem_of_getElem? (i := 0) rfl))
    have N3 := Fr.snoc X3 N1 pre_g_a1
    show GoW p e below QQ (T3.setTop (mkF m 31 #[.val (.ref a1), .val (.int (4 : Int32)), .val (.int (0 : Int32)), .val (.int (2 : Int32)), .val (.long ev0), .second] []))
    exact GoW.fin X3 none (fun _ => rfl) hlk hQ e3 ⟨ev2, ev0, rfl, N3, K3, f4_V_a1, (by omega)⟩ (by decide) (by decide) (fun fs hr => X3.returnOut hx hret (hb hby d3_31) hr)
  · skip
    refine GoW.st (fun t k => XS.ifYes X0.here hx rfl (pc0 := 12) (pc' := 31) rfl (hb hby d3_12) rfl ((if0 _ _).trans (flt (fun q => hc12 ((lw_gt ev0 ev2).mp q))).2.2.2) (by decide) (by decide) k) ?_
    show GoW p e below QQ (T0.setTop (mkF m 31 #[.val (.ref a1), .val (.int (4 : Int32)), .val (.int (0 : Int32)), .val (.int (2 : Int32)), .unset, .unset] []))
    have hi12 : ¬ (ev2.toInt < ev0.toInt) := (fun q => hc12 (Int64.lt_iff_toInt_lt.mpr q))
    exact GoW.fin X0 none (fun _ => rfl) hlk hQ e0 ⟨ev0, ev2, rfl, N0, K0, pre_V_a1, (by omega)⟩ (by decide) (by decide) (fun fs hr => X0.returnOut hx hret (hb hby d3_31) hr)
def RM3_413 : Room := { frames := 0, cells := 0, slots := 0, locals := 0 }
def Q3_413 (Z : State) (a1 : Addr) (ka : ClassId) (ev0 : Int64) (ev1 : Int64) (ev2 : Int64) (ev3 : Int64) (h0 : Heap) (n0 : Nat) (v : Option Value) (h : Heap) (L : List Loc) : Prop := ∃ (wa : Int64) (wb : Int64), v = none ∧ Fr n0 L ∧ Keep h0 h [a1] ∧ (Arv Z h a1 ka .long (4 : Int32) [(.long ev0), (.long wa), (.long ev2), (.long wb)] (.long (0 : Int64))) ∧ (wa.toInt = min ev1.toInt ev3.toInt ∧ wb.toInt = max ev1.toInt ev3.toInt)
set_option maxRecDepth 65536 in
set_option maxHeartbeats 40000000 in
theorem rm3_413 (l : Launch) (Z : State) (a0 : Array Value) (hw : ∀ d ∈ tables_1, d.before a0 Z = true) (ws : List Jvm.Cond) (a1 : Addr) (ka : ClassId) (ev0 : Int64) (ev1 : Int64) (ev2 : Int64) (ev3 : Int64) (h0 : Heap) (n0 : Nat) (Z0 : n0 ≤ h0.size) (pre_V_a1 : Arv Z h0 a1 ka .long (4 : Int32) [(.long ev0), (.long ev1), (.long ev2), (.long ev3)] (.long (0 : Int64))) (pre_g_a1 : n0 ≤ a1) :
    MetFree l (⟨"com/example/hike/hike/HoldersMergePinLaw", "cx", "([JIII)V"⟩ : MethodName) (head1 (Jvm.Cond.code (⟨"com/example/hike/hike/HoldersMergePinLaw", "cx", "([JIII)V"⟩ : MethodName) method_4_code 6 none :: ws) RM3_413) (fun a U => a = #[(.ref a1), (.int (4 : Int32)), (.int (1 : Int32)), (.int (3 : Int32))] ∧ Z.Warmed39 U.vm ∧ U.heap = h0) (fun _ _ _ _ _ => True) (fun _ U o U' => ∃ v L, o = .returned v ∧ Q3_413 Z a1 ka ev0 ev1 ev2 ev3 h0 n0 v U'.heap L ∧ FrameEnd U o U' L RM3_413.cells RM3_413.slots) := by
  refine met_of (Q := fun v h L => Q3_413 Z a1 ka ev0 ev1 ev2 ev3 h0 n0 v h L) (plainFor_of_name pn_0) (fun m => by first | (simp [entryFrame, mkF, argsToLocals, Value.category]; done) | rfl) (Ls := #[.val (.ref a1), .val (.int (4 : Int32)), .val (.int (1 : Int32)), .val (.int (3 : Int32)), .unset, .unset]) ?_
  intro p e s m below meth c T0 QQ hx hZ hby hml hown hnm hret hlk X0 e0 hQ
  have hml : c.maxLocals = 6 := hml
  have hown : s.vm.findClass "com/example/hike/hike/HoldersMergePinLaw" = some m.cls := hown
  have hnm : meth.name = "cx" := hnm
  have hret : meth.sig.returnType = none := hret
  have N0 := Fr.nil n0
  have K0 : Keep h0 h0 [a1] := Keep.refl h0 _
  show GoW p e below QQ (T0.setTop (mkF m 0 #[.val (.ref a1), .val (.int (4 : Int32)), .val (.int (1 : Int32)), .val (.int (3 : Int32)), .unset, .unset] []))
  refine GoW.st (fun t k => XS.iloadN X0.here hx rfl (hb hby d3_0) rfl (XS.iloadN X0.here hx rfl (hb hby d3_1) rfl k)) ?_
  show GoW p e below QQ (T0.setTop (mkF m 2 #[.val (.ref a1), .val (.int (4 : Int32)), .val (.int (1 : Int32)), .val (.int (3 : Int32)), .unset, .unset] [(.int (4 : Int32)), (.int (3 : Int32))]))
  have hc2 : (3 : Int32) < (4 : Int32) := by decide
  refine GoW.st (fun t k => XS.icmpNo X0.here hx rfl (hb hby d3_2) rfl (tlt hc2).2.1 (XS.aloadN X0.here hx rfl (hb hby d3_5) rfl rfl (XS.iloadN X0.here hx rfl (hb hby d3_6) rfl (ldVJ X0 hx hZ e0 pre_V_a1 (v := (.long ev1)) ⟨by decide, by decide⟩ rfl (g := (mkF m 7 #[.val (.ref a1), .val (.int (4 : Int32)), .val (.int (1 : Int32)), .val (.int (3 : Int32)), .unset, .unset] [(.int (1 : Int32)), (.ref a1)])) rfl rfl (hb hby d3_7) t (XS.aloadN X0.here hx rfl (hb hby d3_8) rfl rfl (XS.iloadN X0.here hx rfl (hb hby d3_9) rfl k)))))) ?_
  show GoW p e below QQ (T0.setTop (mkF m 10 #[.val (.ref a1), .val (.int (4 : Int32)), .val (.int (1 : Int32)), .val (.int (3 : Int32)), .unset, .unset] [(.int (3 : Int32)), (.ref a1), (.long ev1)]))
  refine GoW.st (fun t k => ldVJ X0 hx hZ e0 pre_V_a1 (v := (.long ev3)) ⟨by decide, by decide⟩ rfl (g := (mkF m 10 #[.val (.ref a1), .val (.int (4 : Int32)), .val (.int (1 : Int32)), .val (.int (3 : Int32)), .unset, .unset] [(.int (3 : Int32)), (.ref a1), (.long ev1)])) rfl rfl (hb hby d3_10) t (XS.lcmp X0.here hx rfl (hb hby d3_11) rfl k)) ?_
  show GoW p e below QQ (T0.setTop (mkF m 12 #[.val (.ref a1), .val (.int (4 : Int32)), .val (.int (1 : Int32)), .val (.int (3 : Int32)), .unset, .unset] [(.int (lcmpW ev1 ev3))]))
  by_cases hc12 : ev3 < ev1
  · skip
    refine GoW.st (fun t k => XS.ifNo X0.here hx rfl (hb hby d3_12) rfl ((if0 _ _).trans (tlt ((lw_gt ev1 ev3).mpr hc12)).2.2.2) k) ?_
    show GoW p e below QQ (T0.setTop (mkF m 15 #[.val (.ref a1), .val (.int (4 : Int32)), .val (.int (1 : Int32)), .val (.int (3 : Int32)), .unset, .unset] []))
    have hi12 : ev3.toInt < ev1.toInt := (Int64.lt_iff_toInt_lt.mp hc12)
    refine GoW.st (fun t k => XS.aloadN X0.here hx rfl (hb hby d3_15) rfl rfl (XS.iloadN X0.here hx rfl (hb hby d3_16) rfl (ldVJ X0 hx hZ e0 pre_V_a1 (v := (.long ev1)) ⟨by decide, by decide⟩ rfl (g := (mkF m 17 #[.val (.ref a1), .val (.int (4 : Int32)), .val (.int (1 : Int32)), .val (.int (3 : Int32)), .unset, .unset] [(.int (1 : Int32)), (.ref a1)])) rfl rfl (hb hby d3_17) t (XS.lstore X0.here hx rfl (hb hby d3_18) rfl (l' := #[.val (.ref a1), .val (.int (4 : Int32)), .val (.int (1 : Int32)), .val (.int (3 : Int32)), .val (.long ev1), .second]) rfl (XS.aloadN X0.here hx rfl (hb hby d3_20) rfl rfl (XS.iloadN X0.here hx rfl (hb hby d3_21) rfl k)))))) ?_
    show GoW p e below QQ (T0.setTop (mkF m 22 #[.val (.ref a1), .val (.int (4 : Int32)), .val (.int (1 : Int32)), .val (.int (3 : Int32)), .val (.long ev1), .second] [(.int (1 : Int32)), (.ref a1)]))
    refine GoW.st (fun t k => XS.aloadN X0.here hx rfl (hb hby d3_22) rfl rfl (XS.iloadN X0.here hx rfl (hb hby d3_23) rfl (ldVJ X0 hx hZ e0 pre_V_a1 (v := (.long ev3)) ⟨by decide, by decide⟩ rfl (g := (mkF m 24 #[.val (.ref a1), .val (.int (4 : Int32)), .val (.int (1 : Int32)), .val (.int (3 : Int32)), .val (.long ev1), .second] [(.int (3 : Int32)), (.ref a1), (.int (1 : Int32)), (.ref a1)])) rfl rfl (hb hby d3_24) t k))) ?_
    show GoW p e below QQ (T0.setTop (mkF m 25 #[.val (.ref a1), .val (.int (4 : Int32)), .val (.int (1 : Int32)), .val (.int (3 : Int32)), .val (.long ev1), .second] [(.long ev3), (.int (1 : Int32)), (.ref a1)]))
    obtain ⟨T1, h1, X1, e1, W1, V1, st1⟩ := stVJ X0 hx hZ e0 pre_V_a1 ⟨by decide, by decide⟩ 1 rfl (Nat.le_of_ble_eq_true rfl) (g := (mkF m 25 #[.val (.ref a1), .val (.int (4 : Int32)), .val (.int (1 : Int32)), .val (.int (3 : Int32)), .val (.long ev1), .second] [(.long ev3), (.int (1 : Int32)), (.ref a1)])) rfl rfl (hb hby d3_25)
    refine GoW.st st1 ?_
    have f2_V_a1 : Arv Z h1 a1 ka .long (4 : Int32) [(.long ev0), (.long ev3), (.long ev2), (.long ev3)] (.long (0 : Int64)) := V1
    have K1 : Keep h0 h1 [a1] := K0.wr W1 (Or.inl (List.mem_of_getElem? (i := 0) rfl))
    have N1 := Fr.snoc X1 N0 pre_g_a1
    show GoW p e below QQ (T1.setTop (mkF m 26 #[.val (.ref a1), .val (.int (4 : Int32)), .val (.int (1 : Int32)), .val (.int (3 : Int32)), .val (.long ev1), .second] []))
    refine GoW.st (fun t k => XS.aloadN X1.here hx rfl (hb hby d3_26) rfl rfl (XS.iloadN X1.here hx rfl (hb hby d3_27) rfl (XS.lload X1.here hx rfl (hb hby d3_28) rfl k))) ?_
    show GoW p e below QQ (T1.setTop (mkF m 30 #[.val (.ref a1), .val (.int (4 : Int32)), .val (.int (1 : Int32)), .val (.int (3 : Int32)), .val (.long ev1), .second] [(.long ev1), (.int (3 : Int32)), (.ref a1)]))
    obtain ⟨T3, h3, X3, e3, W3, V3, st3⟩ := stVJ X1 hx hZ e1 f2_V_a1 ⟨by decide, by decide⟩ 3 rfl (Nat.le_of_ble_eq_true rfl) (g := (mkF m 30 #[.val (.ref a1), .val (.int (4 : Int32)), .val (.int (1 : Int32)), .val (.int (3 : Int32)), .val (.long ev1), .second] [(.long ev1), (.int (3 : Int32)), (.ref a1)])) rfl rfl (hb hby d3_30)
    refine GoW.st st3 ?_
    have f4_V_a1 : Arv Z h3 a1 ka .long (4 : Int32) [(.long ev0), (.long ev3), (.long ev2), (.long ev1)] (.long (0 : Int64)) := V3
    have K3 : Keep h0 h3 [a1] := K1.wr W3 (Or.inl (List.mem_of_getElem? (i := 0) rfl))
    have N3 := Fr.snoc X3 N1 pre_g_a1
    show GoW p e below QQ (T3.setTop (mkF m 31 #[.val (.ref a1), .val (.int (4 : Int32)), .val (.int (1 : Int32)), .val (.int (3 : Int32)), .val (.long ev1), .second] []))
    exact GoW.fin X3 none (fun _ => rfl) hlk hQ e3 ⟨ev3, ev1, rfl, N3, K3, f4_V_a1, (by omega)⟩ (by decide) (by decide) (fun fs hr => X3.returnOut hx hret (hb hby d3_31) hr)
  · skip
    refine GoW.st (fun t k => XS.ifYes X0.here hx rfl (pc0 := 12) (pc' := 31) rfl (hb hby d3_12) rfl ((if0 _ _).trans (flt (fun q => hc12 ((lw_gt ev1 ev3).mp q))).2.2.2) (by decide) (by decide) k) ?_
    show GoW p e below QQ (T0.setTop (mkF m 31 #[.val (.ref a1), .val (.int (4 : Int32)), .val (.int (1 : Int32)), .val (.int (3 : Int32)), .unset, .unset] []))
    have hi12 : ¬ (ev3.toInt < ev1.toInt) := (fun q => hc12 (Int64.lt_iff_toInt_lt.mpr q))
    exact GoW.fin X0 none (fun _ => rfl) hlk hQ e0 ⟨ev1, ev3, rfl, N0, K0, pre_V_a1, (by omega)⟩ (by decide) (by decide) (fun fs hr => X0.returnOut hx hret (hb hby d3_31) hr)
def RM3_412 : Room := { frames := 0, cells := 0, slots := 0, locals := 0 }
def Q3_412 (Z : State) (a1 : Addr) (ka : ClassId) (ev0 : Int64) (ev1 : Int64) (ev2 : Int64) (ev3 : Int64) (h0 : Heap) (n0 : Nat) (v : Option Value) (h : Heap) (L : List Loc) : Prop := ∃ (wa : Int64) (wb : Int64), v = none ∧ Fr n0 L ∧ Keep h0 h [a1] ∧ (Arv Z h a1 ka .long (4 : Int32) [(.long ev0), (.long wa), (.long wb), (.long ev3)] (.long (0 : Int64))) ∧ (wa.toInt = min ev1.toInt ev2.toInt ∧ wb.toInt = max ev1.toInt ev2.toInt)
set_option maxRecDepth 65536 in
set_option maxHeartbeats 40000000 in
theorem rm3_412 (l : Launch) (Z : State) (a0 : Array Value) (hw : ∀ d ∈ tables_1, d.before a0 Z = true) (ws : List Jvm.Cond) (a1 : Addr) (ka : ClassId) (ev0 : Int64) (ev1 : Int64) (ev2 : Int64) (ev3 : Int64) (h0 : Heap) (n0 : Nat) (Z0 : n0 ≤ h0.size) (pre_V_a1 : Arv Z h0 a1 ka .long (4 : Int32) [(.long ev0), (.long ev1), (.long ev2), (.long ev3)] (.long (0 : Int64))) (pre_g_a1 : n0 ≤ a1) :
    MetFree l (⟨"com/example/hike/hike/HoldersMergePinLaw", "cx", "([JIII)V"⟩ : MethodName) (head1 (Jvm.Cond.code (⟨"com/example/hike/hike/HoldersMergePinLaw", "cx", "([JIII)V"⟩ : MethodName) method_4_code 6 none :: ws) RM3_412) (fun a U => a = #[(.ref a1), (.int (4 : Int32)), (.int (1 : Int32)), (.int (2 : Int32))] ∧ Z.Warmed39 U.vm ∧ U.heap = h0) (fun _ _ _ _ _ => True) (fun _ U o U' => ∃ v L, o = .returned v ∧ Q3_412 Z a1 ka ev0 ev1 ev2 ev3 h0 n0 v U'.heap L ∧ FrameEnd U o U' L RM3_412.cells RM3_412.slots) := by
  refine met_of (Q := fun v h L => Q3_412 Z a1 ka ev0 ev1 ev2 ev3 h0 n0 v h L) (plainFor_of_name pn_0) (fun m => by first | (simp [entryFrame, mkF, argsToLocals, Value.category]; done) | rfl) (Ls := #[.val (.ref a1), .val (.int (4 : Int32)), .val (.int (1 : Int32)), .val (.int (2 : Int32)), .unset, .unset]) ?_
  intro p e s m below meth c T0 QQ hx hZ hby hml hown hnm hret hlk X0 e0 hQ
  have hml : c.maxLocals = 6 := hml
  have hown : s.vm.findClass "com/example/hike/hike/HoldersMergePinLaw" = some m.cls := hown
  have hnm : meth.name = "cx" := hnm
  have hret : meth.sig.returnType = none := hret
  have N0 := Fr.nil n0
  have K0 : Keep h0 h0 [a1] := Keep.refl h0 _
  show GoW p e below QQ (T0.setTop (mkF m 0 #[.val (.ref a1), .val (.int (4 : Int32)), .val (.int (1 : Int32)), .val (.int (2 : Int32)), .unset, .unset] []))
  refine GoW.st (fun t k => XS.iloadN X0.here hx rfl (hb hby d3_0) rfl (XS.iloadN X0.here hx rfl (hb hby d3_1) rfl k)) ?_
  show GoW p e below QQ (T0.setTop (mkF m 2 #[.val (.ref a1), .val (.int (4 : Int32)), .val (.int (1 : Int32)), .val (.int (2 : Int32)), .unset, .unset] [(.int (4 : Int32)), (.int (2 : Int32))]))
  have hc2 : (2 : Int32) < (4 : Int32) := by decide
  refine GoW.st (fun t k => XS.icmpNo X0.here hx rfl (hb hby d3_2) rfl (tlt hc2).2.1 (XS.aloadN X0.here hx rfl (hb hby d3_5) rfl rfl (XS.iloadN X0.here hx rfl (hb hby d3_6) rfl (ldVJ X0 hx hZ e0 pre_V_a1 (v := (.long ev1)) ⟨by decide, by decide⟩ rfl (g := (mkF m 7 #[.val (.ref a1), .val (.int (4 : Int32)), .val (.int (1 : Int32)), .val (.int (2 : Int32)), .unset, .unset] [(.int (1 : Int32)), (.ref a1)])) rfl rfl (hb hby d3_7) t (XS.aloadN X0.here hx rfl (hb hby d3_8) rfl rfl (XS.iloadN X0.here hx rfl (hb hby d3_9) rfl k)))))) ?_
  show GoW p e below QQ (T0.setTop (mkF m 10 #[.val (.ref a1), .val (.int (4 : Int32)), .val (.int (1 : Int32)), .val (.int (2 : Int32)), .unset, .unset] [(.int (2 : Int32)), (.ref a1), (.long ev1)]))
  refine GoW.st (fun t k => ldVJ X0 hx hZ e0 pre_V_a1 (v := (.long ev2)) ⟨by decide, by decide⟩ rfl (g := (mkF m 10 #[.val (.ref a1), .val (.int (4 : Int32)), .val (.int (1 : Int32)), .val (.int (2 : Int32)), .unset, .unset] [(.int (2 : Int32)), (.ref a1), (.long ev1)])) rfl rfl (hb hby d3_10) t (XS.lcmp X0.here hx rfl (hb hby d3_11) rfl k)) ?_
  show GoW p e below QQ (T0.setTop (mkF m 12 #[.val (.ref a1), .val (.int (4 : Int32)), .val (.int (1 : Int32)), .val (.int (2 : Int32)), .unset, .unset] [(.int (lcmpW ev1 ev2))]))
  by_cases hc12 : ev2 < ev1
  · skip
    refine GoW.st (fun t k => XS.ifNo X0.here hx rfl (hb hby d3_12) rfl ((if0 _ _).trans (tlt ((lw_gt ev1 ev2).mpr hc12)).2.2.2) k) ?_
    show GoW p e below QQ (T0.setTop (mkF m 15 #[.val (.ref a1), .val (.int (4 : Int32)), .val (.int (1 : Int32)), .val (.int (2 : Int32)), .unset, .unset] []))
    have hi12 : ev2.toInt < ev1.toInt := (Int64.lt_iff_toInt_lt.mp hc12)
    refine GoW.st (fun t k => XS.aloadN X0.here hx rfl (hb hby d3_15) rfl rfl (XS.iloadN X0.here hx rfl (hb hby d3_16) rfl (ldVJ X0 hx hZ e0 pre_V_a1 (v := (.long ev1)) ⟨by decide, by decide⟩ rfl (g := (mkF m 17 #[.val (.ref a1), .val (.int (4 : Int32)), .val (.int (1 : Int32)), .val (.int (2 : Int32)), .unset, .unset] [(.int (1 : Int32)), (.ref a1)])) rfl rfl (hb hby d3_17) t (XS.lstore X0.here hx rfl (hb hby d3_18) rfl (l' := #[.val (.ref a1), .val (.int (4 : Int32)), .val (.int (1 : Int32)), .val (.int (2 : Int32)), .val (.long ev1), .second]) rfl (XS.aloadN X0.here hx rfl (hb hby d3_20) rfl rfl (XS.iloadN X0.here hx rfl (hb hby d3_21) rfl k)))))) ?_
    show GoW p e below QQ (T0.setTop (mkF m 22 #[.val (.ref a1), .val (.int (4 : Int32)), .val (.int (1 : Int32)), .val (.int (2 : Int32)), .val (.long ev1), .second] [(.int (1 : Int32)), (.ref a1)]))
    refine GoW.st (fun t k => XS.aloadN X0.here hx rfl (hb hby d3_22) rfl rfl (XS.iloadN X0.here hx rfl (hb hby d3_23) rfl (ldVJ X0 hx hZ e0 pre_V_a1 (v := (.long ev2)) ⟨by decide, by decide⟩ rfl (g := (mkF m 24 #[.val (.ref a1), .val (.int (4 : Int32)), .val (.int (1 : Int32)), .val (.int (2 : Int32)), .val (.long ev1), .second] [(.int (2 : Int32)), (.ref a1), (.int (1 : Int32)), (.ref a1)])) rfl rfl (hb hby d3_24) t k))) ?_
    show GoW p e below QQ (T0.setTop (mkF m 25 #[.val (.ref a1), .val (.int (4 : Int32)), .val (.int (1 : Int32)), .val (.int (2 : Int32)), .val (.long ev1), .second] [(.long ev2), (.int (1 : Int32)), (.ref a1)]))
    obtain ⟨T1, h1, X1, e1, W1, V1, st1⟩ := stVJ X0 hx hZ e0 pre_V_a1 ⟨by decide, by decide⟩ 1 rfl (Nat.le_of_ble_eq_true rfl) (g := (mkF m 25 #[.val (.ref a1), .val (.int (4 : Int32)), .val (.int (1 : Int32)), .val (.int (2 : Int32)), .val (.long ev1), .second] [(.long ev2), (.int (1 : Int32)), (.ref a1)])) rfl rfl (hb hby d3_25)
    refine GoW.st st1 ?_
    have f2_V_a1 : Arv Z h1 a1 ka .long (4 : Int32) [(.long ev0), (.long ev2), (.long ev2), (.long ev3)] (.long (0 : Int64)) := V1
    have K1 : Keep h0 h1 [a1] := K0.wr W1 (Or.inl (List.mem_of_getElem? (i := 0) rfl))
    have N1 := Fr.snoc X1 N0 pre_g_a1
    show GoW p e below QQ (T1.setTop (mkF m 26 #[.val (.ref a1), .val (.int (4 : Int32)), .val (.int (1 : Int32)), .val (.int (2 : Int32)), .val (.long ev1), .second] []))
    refine GoW.st (fun t k => XS.aloadN X1.here hx rfl (hb hby d3_26) rfl rfl (XS.iloadN X1.here hx rfl (hb hby d3_27) rfl (XS.lload X1.here hx rfl (hb hby d3_28) rfl k))) ?_
    show GoW p e below QQ (T1.setTop (mkF m 30 #[.val (.ref a1), .val (.int (4 : Int32)), .val (.int (1 : Int32)), .val (.int (2 : Int32)), .val (.long ev1), .second] [(.long ev1), (.int (2 : Int32)), (.ref a1)]))
    obtain ⟨T3, h3, X3, e3, W3, V3, st3⟩ := stVJ X1 hx hZ e1 f2_V_a1 ⟨by decide, by decide⟩ 2 rfl (Nat.le_of_ble_eq_true rfl) (g := (mkF m 30 #[.val (.ref a1), .val (.int (4 : Int32)), .val (.int (1 : Int32)), .val (.int (2 : Int32)), .val (.long ev1), .second] [(.long ev1), (.int (2 : Int32)), (.ref a1)])) rfl rfl (hb hby d3_30)
    refine GoW.st st3 ?_
    have f4_V_a1 : Arv Z h3 a1 ka .long (4 : Int32) [(.long ev0), (.long ev2), (.long ev1), (.long ev3)] (.long (0 : Int64)) := V3
    have K3 : Keep h0 h3 [a1] := K1.wr W3 (Or.inl (List.mem_of_getElem? (i := 0) rfl))
    have N3 := Fr.snoc X3 N1 pre_g_a1
    show GoW p e below QQ (T3.setTop (mkF m 31 #[.val (.ref a1), .val (.int (4 : Int32)), .val (.int (1 : Int32)), .val (.int (2 : Int32)), .val (.long ev1), .second] []))
    exact GoW.fin X3 none (fun _ => rfl) hlk hQ e3 ⟨ev2, ev1, rfl, N3, K3, f4_V_a1, (by omega)⟩ (by decide) (by decide) (fun fs hr => X3.returnOut hx hret (hb hby d3_31) hr)
  · skip
    refine GoW.st (fun t k => XS.ifYes X0.here hx rfl (pc0 := 12) (pc' := 31) rfl (hb hby d3_12) rfl ((if0 _ _).trans (flt (fun q => hc12 ((lw_gt ev1 ev2).mp q))).2.2.2) (by decide) (by decide) k) ?_
    show GoW p e below QQ (T0.setTop (mkF m 31 #[.val (.ref a1), .val (.int (4 : Int32)), .val (.int (1 : Int32)), .val (.int (2 : Int32)), .unset, .unset] []))
    have hi12 : ¬ (ev2.toInt < ev1.toInt) := (fun q => hc12 (Int64.lt_iff_toInt_lt.mpr q))
    exact GoW.fin X0 none (fun _ => rfl) hlk hQ e0 ⟨ev1, ev2, rfl, N0, K0, pre_V_a1, (by omega)⟩ (by decide) (by decide) (fun fs hr => X0.returnOut hx hret (hb hby d3_31) hr)
theorem pd_1 : parseMethodDescriptor "(IJJ)[J" = some ⟨[.int, .long, .long], some (.array .long)⟩ := by decide +kernel
theorem pd_2 : parseMethodDescriptor "([J[J)[J" = some ⟨[(.array .long), (.array .long)], some (.array .long)⟩ := by decide +kernel
theorem pd_3 : parseMethodDescriptor "([JIII)V" = some ⟨[(.array .long), .int, .int, .int], none⟩ := by decide +kernel
def Q0 (Z : State) (q1 : Int64) (q2 : Int64) (q3 : Int64) (q4 : Int64) (p5 : Int32) (h0 : Heap) (n0 : Nat) (v : Option Value) (h : Heap) (L : List Loc) : Prop := v = some (.int (1 : Int32)) ∧ Fr n0 L
set_option maxRecDepth 65536 in
set_option maxHeartbeats 40000000 in
theorem rm0 (l : Launch) (Z : State) (a0 : Array Value) (hw : ∀ d ∈ tables_1, d.before a0 Z = true) (ws : List Jvm.Cond) (q1 : Int64) (q2 : Int64) (q3 : Int64) (q4 : Int64) (p5 : Int32) (h0 : Heap) (n0 : Nat) (Z0 : n0 ≤ h0.size) (Z1 : h0.size ≤ n0)  :
    MetFree l x (head1 (Jvm.Cond.code x code maxLocals ret :: ws) room_1) (fun a U => a = #[(.long q1), (.long q2), (.long q3), (.long q4), (.int p5)] ∧ Z.Warmed39 U.vm ∧ U.heap = h0) (fun _ _ _ _ _ => True) (fun _ U o U' => ∃ v L, o = .returned v ∧ Q0 Z q1 q2 q3 q4 p5 h0 n0 v U'.heap L ∧ FrameEnd U o U' L 16 128) := by
  refine met_of (Q := fun v h L => Q0 Z q1 q2 q3 q4 p5 h0 n0 v h L) (plainFor_of_name pn_0) (fun m => by first | (simp [entryFrame, mkF, argsToLocals, Value.category, maxLocals]; done) | rfl) (Ls := #[.val (.long q1), .second, .val (.long q2), .second, .val (.long q3), .second, .val (.long q4), .second, .val (.int p5), .unset, .unset, .unset, .unset, .unset, .unset, .unset]) ?_
  intro p e s m below meth c T0 QQ hx hZ hby hml hown hnm hret hlk X0 e0 hQ
  have hml : c.maxLocals = 16 := hml
  have hown : s.vm.findClass "com/example/hike/hike/HoldersMergePinLaw" = some m.cls := hown
  have hnm : meth.name = "law" := hnm
  have hret : meth.sig.returnType = some .boolean := hret
  have N0 := Fr.nil n0
  have K0 : Keep h0 h0 [] := Keep.refl h0 _
  show GoW p e below QQ (T0.setTop (mkF m 0 #[.val (.long q1), .second, .val (.long q2), .second, .val (.long q3), .second, .val (.long q4), .second, .val (.int p5), .unset, .unset, .unset, .unset, .unset, .unset, .unset] []))
  refine GoW.st (fun t k => XS.iload X0.here hx rfl (hb hby at_0) rfl (XS.iconst X0.here hx rfl (hb hby at_2) (XS.iand X0.here hx rfl (hb hby at_3) rfl (XS.iconst X0.here hx rfl (hb hby at_4) (iremM X0 hx rfl (hb hby at_5) rfl (by decide) (XS.istore X0.here hx rfl (hb hby at_6) rfl (l' := #[.val (.long q1), .second, .val (.long q2), .second, .val (.long q3), .second, .val (.long q4), .second, .val (.int p5), .val (.int ((p5 &&& (3 : Int32)) % (3 : Int32))), .unset, .unset, .unset, .unset, .unset, .unset]) rfl k)))))) ?_
  show GoW p e below QQ (T0.setTop (mkF m 8 #[.val (.long q1), .second, .val (.long q2), .second, .val (.long q3), .second, .val (.long q4), .second, .val (.int p5), .val (.int ((p5 &&& (3 : Int32)) % (3 : Int32))), .unset, .unset, .unset, .unset, .unset, .unset] []))
  generalize hv6 : ((p5 &&& (3 : Int32)) % (3 : Int32)) = v6
  refine GoW.st (fun t k => XS.iload X0.here hx rfl (hb hby at_8) rfl (XS.iconst X0.here hx rfl (hb hby at_10) (XS.iushr X0.here hx rfl (hb hby at_11) rfl (XS.iconst X0.here hx rfl (hb hby at_12) (XS.iand X0.here hx rfl (hb hby at_13) rfl (XS.iconst X0.here hx rfl (hb hby at_14) k)))))) ?_
  show GoW p e below QQ (T0.setTop (mkF m 15 #[.val (.long q1), .second, .val (.long q2), .second, .val (.long q3), .second, .val (.long q4), .second, .val (.int p5), .val (.int v6), .unset, .unset, .unset, .unset, .unset, .unset] [(.int (3 : Int32)), (.int (((p5.toUInt32 >>> ((2 : Int32) &&& 31).toUInt32).toInt32) &&& (3 : Int32)))]))
  refine GoW.st (fun t k => iremM X0 hx rfl (hb hby at_15) rfl (by decide) (XS.istore X0.here hx rfl (hb hby at_16) rfl (l' := #[.val (.long q1), .second, .val (.long q2), .second, .val (.long q3), .second, .val (.long q4), .second, .val (.int p5), .val (.int v6), .val (.int ((((p5.toUInt32 >>> ((2 : Int32) &&& 31).toUInt32).toInt32) &&& (3 : Int32)) % (3 : Int32))), .unset, .unset, .unset, .unset, .unset]) rfl k)) ?_
  show GoW p e below QQ (T0.setTop (mkF m 18 #[.val (.long q1), .second, .val (.long q2), .second, .val (.long q3), .second, .val (.long q4), .second, .val (.int p5), .val (.int v6), .val (.int ((((p5.toUInt32 >>> ((2 : Int32) &&& 31).toUInt32).toInt32) &&& (3 : Int32)) % (3 : Int32))), .unset, .unset, .unset, .unset, .unset] []))
  generalize hv16 : ((((p5.toUInt32 >>> ((2 : Int32) &&& 31).toUInt32).toInt32) &&& (3 : Int32)) % (3 : Int32)) = v16
  have nb1 := c_and p5 3 (by decide)
  have nb2 := c_and ((p5.toUInt32 >>> ((2 : Int32) &&& 31).toUInt32).toInt32) 3 (by decide)
  have t1 := own_m3 _ nb1.1
  have t2 := own_m3 _ nb2.1
  rw [hv6] at t1
  rw [hv16] at t2
  rcases t1 with rfl | rfl | rfl <;> rcases t2 with rfl | rfl | rfl
  · skip
    show GoW p e below QQ (T0.setTop (mkF m 18 #[.val (.long q1), .second, .val (.long q2), .second, .val (.long q3), .second, .val (.long q4), .second, .val (.int p5), .val (.int (0 : Int32)), .val (.int (0 : Int32)), .unset, .unset, .unset, .unset, .unset] []))
    refine GoW.st (fun t k => XS.iload X0.here hx rfl (hb hby at_18) rfl (XS.lloadN X0.here hx rfl (hb hby at_20) rfl (XS.lloadN X0.here hx rfl (hb hby at_21) rfl k))) ?_
    show GoW p e below QQ (T0.setTop (mkF m 22 #[.val (.long q1), .second, .val (.long q2), .second, .val (.long q3), .second, .val (.long q4), .second, .val (.int p5), .val (.int (0 : Int32)), .val (.int (0 : Int32)), .unset, .unset, .unset, .unset, .unset] [(.long q2), (.long q1), (.int (0 : Int32))]))
    obtain ⟨_, _, ⟨T1, zL1, zk1, zn1⟩, -, X1, ⟨Lc1, hQ1, zl1, zy1, zz1⟩, st1⟩ := Jvm.LawKit.callS X0 hx (y := (⟨"com/example/hike/hike/HoldersMergePinLaw", "make", "(IJJ)[J"⟩ : MethodName)) hown (mvT hZ (hw _ (List.mem_of_getElem? (i := 0) rfl))) (mvT hZ (hw _ (List.mem_of_getElem? (i := 1) rfl))) (mvT hZ (hw _ (List.mem_of_getElem? (i := 2) rfl))) (mvT hZ (hw _ (List.mem_of_getElem? (i := 3) rfl))) (by decide) (backOf (W := 0) (rm1_0 l Z a0 hw [] q1 q2 h0 n0 (Nat.le_trans Z0 K0.1) ) hZ (hw _ (List.mem_of_getElem? (i := 3) rfl)) (hw _ (List.mem_of_getElem? (i := 2) rfl)) (by decide) (by decide)) (g := (mkF m 22 #[.val (.long q1), .second, .val (.long q2), .second, .val (.long q3), .second, .val (.long q4), .second, .val (.int p5), .val (.int (0 : Int32)), .val (.int (0 : Int32)), .unset, .unset, .unset, .unset, .unset] [(.long q2), (.long q1), (.int (0 : Int32))])) rfl (by rw [hml]; rfl) (argsL := [(.int (0 : Int32)), (.long q1), (.long q2)]) (rest := []) (lenOf pd_1 rfl) rfl (by show 2 * 0 + _ ≤ _; exact Nat.le_of_eq rfl) (hb hby at_22) (fun _ _ => ⟨rfl, e0, (by decide : 0 + 1 ≤ _), (by decide : 0 + 0 ≤ _)⟩)
    dsimp only [Pt.U, Pt.locs, Pt.cells, Pt.slots] at X1 zl1 zy1 zz1 st1 hQ1
    subst zl1 zy1 zz1
    obtain ⟨b_22, kb_22, rfl, Nq1, Kq1, p1_0, p1_1⟩ := hQ1
    have N1 := Fr.app N0 Nq1
    refine GoW.st st1 ?_
    have sz1_b_22 : h0.size ≤ b_22 := Nat.le_trans K0.1 p1_0
    have gg1_b_22 : n0 ≤ b_22 := Nat.le_trans Z0 sz1_b_22
    have K1 : Keep h0 T1.heap [] := K0.trans Kq1 all0
    show GoW p e below QQ (T1.setTop (mkF m 25 #[.val (.long q1), .second, .val (.long q2), .second, .val (.long q3), .second, .val (.long q4), .second, .val (.int p5), .val (.int (0 : Int32)), .val (.int (0 : Int32)), .unset, .unset, .unset, .unset, .unset] [(.ref b_22)]))
    refine GoW.st (fun t k => XS.astore X1.here hx rfl (hb hby at_25) rfl rfl (l' := #[.val (.long q1), .second, .val (.long q2), .second, .val (.long q3), .second, .val (.long q4), .second, .val (.int p5), .val (.int (0 : Int32)), .val (.int (0 : Int32)), .val (.ref b_22), .unset, .unset, .unset, .unset]) rfl (XS.iload X1.here hx rfl (hb hby at_27) rfl (XS.lload X1.here hx rfl (hb hby at_29) rfl (XS.lload X1.here hx rfl (hb hby at_31) rfl k)))) ?_
    show GoW p e below QQ (T1.setTop (mkF m 33 #[.val (.long q1), .second, .val (.long q2), .second, .val (.long q3), .second, .val (.long q4), .second, .val (.int p5), .val (.int (0 : Int32)), .val (.int (0 : Int32)), .val (.ref b_22), .unset, .unset, .unset, .unset] [(.long q4), (.long q3), (.int (0 : Int32))]))
    obtain ⟨_, _, ⟨T3, zL3, zk3, zn3⟩, -, X3, ⟨Lc3, hQ3, zl3, zy3, zz3⟩, st3⟩ := Jvm.LawKit.callS X1 hx (y := (⟨"com/example/hike/hike/HoldersMergePinLaw", "make", "(IJJ)[J"⟩ : MethodName)) hown (mvT hZ (hw _ (List.mem_of_getElem? (i := 0) rfl))) (mvT hZ (hw _ (List.mem_of_getElem? (i := 1) rfl))) (mvT hZ (hw _ (List.mem_of_getElem? (i := 2) rfl))) (mvT hZ (hw _ (List.mem_of_getElem? (i := 3) rfl))) (by decide) (backOf (W := 0) (rm1_0 l Z a0 hw [] q3 q4 T1.heap n0 (Nat.le_trans Z0 K1.1) ) hZ (hw _ (List.mem_of_getElem? (i := 3) rfl)) (hw _ (List.mem_of_getElem? (i := 2) rfl)) (by decide) (by decide)) (g := (mkF m 33 #[.val (.long q1), .second, .val (.long q2), .second, .val (.long q3), .second, .val (.long q4), .second, .val (.int p5), .val (.int (0 : Int32)), .val (.int (0 : Int32)), .val (.ref b_22), .unset, .unset, .unset, .unset] [(.long q4), (.long q3), (.int (0 : Int32))])) rfl (by rw [hml]; rfl) (argsL := [(.int (0 : Int32)), (.long q3), (.long q4)]) (rest := []) (lenOf pd_1 rfl) rfl (by show 2 * 0 + _ ≤ _; exact Nat.le_of_eq rfl) (hb hby at_33) (fun _ _ => ⟨rfl, rfl, (by decide : 1 + 1 ≤ _), (by decide : 0 + 0 ≤ _)⟩)
    dsimp only [Pt.U, Pt.locs, Pt.cells, Pt.slots] at X3 zl3 zy3 zz3 st3 hQ3
    subst zl3 zy3 zz3
    obtain ⟨b_33, kb_33, rfl, Nq3, Kq3, p3_0, p3_1⟩ := hQ3
    have N3 := Fr.app N1 Nq3
    refine GoW.st st3 ?_
    have ne3_b_22_b_33 : b_22 ≠ b_33 := Nat.ne_of_lt (Nat.lt_of_lt_of_le p1_1.lt p3_0)
    have sz3_b_33 : h0.size ≤ b_33 := Nat.le_trans K1.1 p3_0
    have gg3_b_33 : n0 ≤ b_33 := Nat.le_trans Z0 sz3_b_33
    have f4_V_b_22 : Arv Z T3.heap b_22 kb_22 .long (0 : Int32) [] (.long (0 : Int64)) := p1_1.keep Kq3 nin0
    have K3 : Keep h0 T3.heap [] := K1.trans Kq3 all0
    show GoW p e below QQ (T3.setTop (mkF m 36 #[.val (.long q1), .second, .val (.long q2), .second, .val (.long q3), .second, .val (.long q4), .second, .val (.int p5), .val (.int (0 : Int32)), .val (.int (0 : Int32)), .val (.ref b_22), .unset, .unset, .unset, .unset] [(.ref b_33)]))
    refine GoW.st (fun t k => XS.astore X3.here hx rfl (hb hby at_36) rfl rfl (l' := #[.val (.long q1), .second, .val (.long q2), .second, .val (.long q3), .second, .val (.long q4), .second, .val (.int p5), .val (.int (0 : Int32)), .val (.int (0 : Int32)), .val (.ref b_22), .val (.ref b_33), .unset, .unset, .unset]) rfl (XS.aload X3.here hx rfl (hb hby at_38) rfl rfl (XS.aload X3.here hx rfl (hb hby at_40) rfl rfl k))) ?_
    show GoW p e below QQ (T3.setTop (mkF m 42 #[.val (.long q1), .second, .val (.long q2), .second, .val (.long q3), .second, .val (.long q4), .second, .val (.int p5), .val (.int (0 : Int32)), .val (.int (0 : Int32)), .val (.ref b_22), .val (.ref b_33), .unset, .unset, .unset] [(.ref b_33), (.ref b_22)]))
    obtain ⟨_, _, ⟨T5, zL5, zk5, zn5⟩, -, X5, ⟨Lc5, hQ5, zl5, zy5, zz5⟩, st5⟩ := Jvm.LawKit.callS X3 hx (y := (⟨"com/example/hike/hike/Holders", "merge", "([J[J)[J"⟩ : MethodName)) hown (mvT hZ (hw _ (List.mem_of_getElem? (i := 5) rfl))) (mvT hZ (hw _ (List.mem_of_getElem? (i := 6) rfl))) (mvT hZ (hw _ (List.mem_of_getElem? (i := 7) rfl))) (mvT hZ (hw _ (List.mem_of_getElem? (i := 8) rfl))) (by decide) (backOf (W := 0) (rm2_00 l Z a0 hw [] b_22 b_33 kb_22 kb_33 T3.heap n0 (Nat.le_trans Z0 K3.1) f4_V_b_22 p3_1) hZ (hw _ (List.mem_of_getElem? (i := 8) rfl)) (hw _ (List.mem_of_getElem? (i := 7) rfl)) (by decide) (by decide)) (g := (mkF m 42 #[.val (.long q1), .second, .val (.long q2), .second, .val (.long q3), .second, .val (.long q4), .second, .val (.int p5), .val (.int (0 : Int32)), .val (.int (0 : Int32)), .val (.ref b_22), .val (.ref b_33), .unset, .unset, .unset] [(.ref b_33), (.ref b_22)])) rfl (by rw [hml]; rfl) (argsL := [(.ref b_22), (.ref b_33)]) (rest := []) (lenOf pd_2 rfl) rfl (by show 2 * 0 + _ ≤ _; exact Nat.le_of_eq rfl) (hb hby at_42) (fun _ _ => ⟨rfl, rfl, (by decide : 2 + 1 ≤ _), (by decide : 0 + 0 ≤ _)⟩)
    dsimp only [Pt.U, Pt.locs, Pt.cells, Pt.slots] at X5 zl5 zy5 zz5 st5 hQ5
    subst zl5 zy5 zz5
    obtain ⟨b_42, kb_42, rfl, Nq5, Kq5, p5_0, p5_1⟩ := hQ5
    have N5 := Fr.app N3 Nq5
    refine GoW.st st5 ?_
    have ne5_b_22_b_42 : b_22 ≠ b_42 := Nat.ne_of_lt (Nat.lt_of_lt_of_le f4_V_b_22.lt p5_0)
    have ne5_b_33_b_42 : b_33 ≠ b_42 := Nat.ne_of_lt (Nat.lt_of_lt_of_le p3_1.lt p5_0)
    have sz5_b_42 : h0.size ≤ b_42 := Nat.le_trans K3.1 p5_0
    have gg5_b_42 : n0 ≤ b_42 := Nat.le_trans Z0 sz5_b_42
    have f6_V_b_22 : Arv Z T5.heap b_22 kb_22 .long (0 : Int32) [] (.long (0 : Int64)) := f4_V_b_22.keep Kq5 nin0
    have f6_V_b_33 : Arv Z T5.heap b_33 kb_33 .long (0 : Int32) [] (.long (0 : Int64)) := p3_1.keep Kq5 nin0
    have K5 : Keep h0 T5.heap [] := K3.trans Kq5 all0
    show GoW p e below QQ (T5.setTop (mkF m 45 #[.val (.long q1), .second, .val (.long q2), .second, .val (.long q3), .second, .val (.long q4), .second, .val (.int p5), .val (.int (0 : Int32)), .val (.int (0 : Int32)), .val (.ref b_22), .val (.ref b_33), .unset, .unset, .unset] [(.ref b_42)]))
    refine GoW.st (fun t k => XS.astore X5.here hx rfl (hb hby at_45) rfl rfl (l' := #[.val (.long q1), .second, .val (.long q2), .second, .val (.long q3), .second, .val (.long q4), .second, .val (.int p5), .val (.int (0 : Int32)), .val (.int (0 : Int32)), .val (.ref b_22), .val (.ref b_33), .val (.ref b_42), .unset, .unset]) rfl (XS.iload X5.here hx rfl (hb hby at_47) rfl (XS.iload X5.here hx rfl (hb hby at_49) rfl (XS.iadd X5.here hx rfl (hb hby at_51) rfl (XS.istore X5.here hx rfl (hb hby at_52) rfl (l' := #[.val (.long q1), .second, .val (.long q2), .second, .val (.long q3), .second, .val (.long q4), .second, .val (.int p5), .val (.int (0 : Int32)), .val (.int (0 : Int32)), .val (.ref b_22), .val (.ref b_33), .val (.ref b_42), .val (.int (0 : Int32)), .unset]) rfl (XS.aload X5.here hx rfl (hb hby at_54) rfl rfl k)))))) ?_
    show GoW p e below QQ (T5.setTop (mkF m 56 #[.val (.long q1), .second, .val (.long q2), .second, .val (.long q3), .second, .val (.long q4), .second, .val (.int p5), .val (.int (0 : Int32)), .val (.int (0 : Int32)), .val (.ref b_22), .val (.ref b_33), .val (.ref b_42), .val (.int (0 : Int32)), .unset] [(.ref b_42)]))
    refine GoW.st (fun t k => lnV X5 hx hZ rfl p5_1 (g := (mkF m 56 #[.val (.long q1), .second, .val (.long q2), .second, .val (.long q3), .second, .val (.long q4), .second, .val (.int p5), .val (.int (0 : Int32)), .val (.int (0 : Int32)), .val (.ref b_22), .val (.ref b_33), .val (.ref b_42), .val (.int (0 : Int32)), .unset] [(.ref b_42)])) rfl rfl (hb hby at_56) t (XS.iload X5.here hx rfl (hb hby at_57) rfl k)) ?_
    show GoW p e below QQ (T5.setTop (mkF m 59 #[.val (.long q1), .second, .val (.long q2), .second, .val (.long q3), .second, .val (.long q4), .second, .val (.int p5), .val (.int (0 : Int32)), .val (.int (0 : Int32)), .val (.ref b_22), .val (.ref b_33), .val (.ref b_42), .val (.int (0 : Int32)), .unset] [(.int (0 : Int32)), (.int (0 : Int32))]))
    have hc59 : (0 : Int32) = (0 : Int32) := by decide
    refine GoW.st (fun t k => XS.icmpYes X5.here hx rfl (pc0 := 59) (pc' := 64) rfl (hb hby at_59) rfl (teq hc59).1 (by decide) (by decide) (XS.iconst X5.here hx rfl (hb hby at_64) k)) ?_
    show GoW p e below QQ (T5.setTop (mkF m 65 #[.val (.long q1), .second, .val (.long q2), .second, .val (.long q3), .second, .val (.long q4), .second, .val (.int p5), .val (.int (0 : Int32)), .val (.int (0 : Int32)), .val (.ref b_22), .val (.ref b_33), .val (.ref b_42), .val (.int (0 : Int32)), .unset] [(.int (4 : Int32))]))
    obtain ⟨T7, h7, k7, X7, e7, E7, A7, st7⟩ := newP X5 hx hZ (hw _ (List.mem_of_getElem? (i := 4) rfl)) rfl (g := (mkF m 65 #[.val (.long q1), .second, .val (.long q2), .second, .val (.long q3), .second, .val (.long q4), .second, .val (.int p5), .val (.int (0 : Int32)), .val (.int (0 : Int32)), .val (.ref b_22), .val (.ref b_33), .val (.ref b_42), .val (.int (0 : Int32)), .unset] [(.int (4 : Int32))])) rfl (hb hby at_65) rfl (by decide) (cap := 4) (by decide) (by decide) (by decide) (by decide)
    obtain ⟨b7, g7⟩ : ∃ z, z = T5.heap.size := ⟨_, rfl⟩
    rw [← g7] at A7 st7
    refine GoW.st st7 ?_
    have gg7 : n0 ≤ b7 := Nat.le_trans (Nat.le_trans Z0 K5.1) (Nat.le_of_eq g7.symm)
    have sz7 : h0.size ≤ b7 := Nat.le_trans K5.1 (Nat.le_of_eq g7.symm)
    have ne7_b_22 : b_22 ≠ b7 := Nat.ne_of_lt (Nat.lt_of_lt_of_le f6_V_b_22.lt (Nat.le_of_eq g7.symm))
    have ne7_b_33 : b_33 ≠ b7 := Nat.ne_of_lt (Nat.lt_of_lt_of_le f6_V_b_33.lt (Nat.le_of_eq g7.symm))
    have ne7_b_42 : b_42 ≠ b7 := Nat.ne_of_lt (Nat.lt_of_lt_of_le p5_1.lt (Nat.le_of_eq g7.symm))
    have f8_V_b_22 : Arv Z h7 b_22 kb_22 .long (0 : Int32) [] (.long (0 : Int64)) := f6_V_b_22.ext E7
    have f8_V_b_33 : Arv Z h7 b_33 kb_33 .long (0 : Int32) [] (.long (0 : Int64)) := f6_V_b_33.ext E7
    have f8_V_b_42 : Arv Z h7 b_42 kb_42 .long (0 : Int32) [] (.long (0 : Int64)) := p5_1.ext E7
    have K7 : Keep h0 h7 [] := K5.ext E7
    have V7 : Arv Z h7 b7 k7 .long (4 : Int32) [(.long (0 : Int64)), (.long (0 : Int64)), (.long (0 : Int64)), (.long (0 : Int64))] (.long (0 : Int64)) := (Arv.new A7 (by decide)).pad (pad_rep [] (.long (0 : Int64)) 4)
    show GoW p e below QQ (T7.setTop (mkF m 67 #[.val (.long q1), .second, .val (.long q2), .second, .val (.long q3), .second, .val (.long q4), .second, .val (.int p5), .val (.int (0 : Int32)), .val (.int (0 : Int32)), .val (.ref b_22), .val (.ref b_33), .val (.ref b_42), .val (.int (0 : Int32)), .unset] [(.ref b7)]))
    refine GoW.st (fun t k => XS.astore X7.here hx rfl (hb hby at_67) rfl rfl (l' := #[.val (.long q1), .second, .val (.long q2), .second, .val (.long q3), .second, .val (.long q4), .second, .val (.int p5), .val (.int (0 : Int32)), .val (.int (0 : Int32)), .val (.ref b_22), .val (.ref b_33), .val (.ref b_42), .val (.int (0 : Int32)), .val (.ref b7)]) rfl (XS.iload X7.here hx rfl (hb hby at_69) rfl (XS.iconst X7.here hx rfl (hb hby at_71) k))) ?_
    show GoW p e below QQ (T7.setTop (mkF m 72 #[.val (.long q1), .second, .val (.long q2), .second, .val (.long q3), .second, .val (.long q4), .second, .val (.int p5), .val (.int (0 : Int32)), .val (.int (0 : Int32)), .val (.ref b_22), .val (.ref b_33), .val (.ref b_42), .val (.int (0 : Int32)), .val (.ref b7)] [(.int (1 : Int32)), (.int (0 : Int32))]))
    have hc72 : (0 : Int32) < (1 : Int32) := by decide
    refine GoW.st (fun t k => XS.icmpYes X7.here hx rfl (pc0 := 72) (pc' := 83) rfl (hb hby at_72) rfl (tlt hc72).1 (by decide) (by decide) (XS.iload X7.here hx rfl (hb hby at_83) rfl (XS.iconst X7.here hx rfl (hb hby at_85) k))) ?_
    show GoW p e below QQ (T7.setTop (mkF m 86 #[.val (.long q1), .second, .val (.long q2), .second, .val (.long q3), .second, .val (.long q4), .second, .val (.int p5), .val (.int (0 : Int32)), .val (.int (0 : Int32)), .val (.ref b_22), .val (.ref b_33), .val (.ref b_42), .val (.int (0 : Int32)), .val (.ref b7)] [(.int (2 : Int32)), (.int (0 : Int32))]))
    have hc86 : ¬ ((0 : Int32) = (2 : Int32)) := by decide
    refine GoW.st (fun t k => XS.icmpYes X7.here hx rfl (pc0 := 86) (pc' := 97) rfl (hb hby at_86) rfl (feq hc86).2 (by decide) (by decide) (XS.iload X7.here hx rfl (hb hby at_97) rfl (XS.iconst X7.here hx rfl (hb hby at_99) k))) ?_
    show GoW p e below QQ (T7.setTop (mkF m 100 #[.val (.long q1), .second, .val (.long q2), .second, .val (.long q3), .second, .val (.long q4), .second, .val (.int p5), .val (.int (0 : Int32)), .val (.int (0 : Int32)), .val (.ref b_22), .val (.ref b_33), .val (.ref b_42), .val (.int (0 : Int32)), .val (.ref b7)] [(.int (1 : Int32)), (.int (0 : Int32))]))
    have hc100 : (0 : Int32) < (1 : Int32) := by decide
    refine GoW.st (fun t k => XS.icmpYes X7.here hx rfl (pc0 := 100) (pc' := 112) rfl (hb hby at_100) rfl (tlt hc100).1 (by decide) (by decide) (XS.iload X7.here hx rfl (hb hby at_112) rfl (XS.iconst X7.here hx rfl (hb hby at_114) k))) ?_
    show GoW p e below QQ (T7.setTop (mkF m 115 #[.val (.long q1), .second, .val (.long q2), .second, .val (.long q3), .second, .val (.long q4), .second, .val (.int p5), .val (.int (0 : Int32)), .val (.int (0 : Int32)), .val (.ref b_22), .val (.ref b_33), .val (.ref b_42), .val (.int (0 : Int32)), .val (.ref b7)] [(.int (2 : Int32)), (.int (0 : Int32))]))
    have hc115 : ¬ ((0 : Int32) = (2 : Int32)) := by decide
    refine GoW.st (fun t k => XS.icmpYes X7.here hx rfl (pc0 := 115) (pc' := 129) rfl (hb hby at_115) rfl (feq hc115).2 (by decide) (by decide) (XS.aload X7.here hx rfl (hb hby at_129) rfl rfl (XS.iload X7.here hx rfl (hb hby at_131) rfl (XS.iconst X7.here hx rfl (hb hby at_133) (XS.iconst X7.here hx rfl (hb hby at_134) k))))) ?_
    show GoW p e below QQ (T7.setTop (mkF m 135 #[.val (.long q1), .second, .val (.long q2), .second, .val (.long q3), .second, .val (.long q4), .second, .val (.int p5), .val (.int (0 : Int32)), .val (.int (0 : Int32)), .val (.ref b_22), .val (.ref b_33), .val (.ref b_42), .val (.int (0 : Int32)), .val (.ref b7)] [(.int (1 : Int32)), (.int (0 : Int32)), (.int (0 : Int32)), (.ref b7)]))
    obtain ⟨_, _, ⟨T9, zL9, zk9, zn9⟩, -, X9, ⟨Lc9, hQ9, zl9, zy9, zz9⟩, st9⟩ := Jvm.LawKit.callS X7 hx (y := (⟨"com/example/hike/hike/HoldersMergePinLaw", "cx", "([JIII)V"⟩ : MethodName)) hown (mvT hZ (hw _ (List.mem_of_getElem? (i := 9) rfl))) (mvT hZ (hw _ (List.mem_of_getElem? (i := 10) rfl))) (mvT hZ (hw _ (List.mem_of_getElem? (i := 2) rfl))) (mvT hZ (hw _ (List.mem_of_getElem? (i := 11) rfl))) (by decide) (backOf (W := 0) (rm3_001 l Z a0 hw [] b7 h7 n0 (Nat.le_trans Z0 K7.1) ) hZ (hw _ (List.mem_of_getElem? (i := 11) rfl)) (hw _ (List.mem_of_getElem? (i := 2) rfl)) (by decide) (by decide)) (g := (mkF m 135 #[.val (.long q1), .second, .val (.long q2), .second, .val (.long q3), .second, .val (.long q4), .second, .val (.int p5), .val (.int (0 : Int32)), .val (.int (0 : Int32)), .val (.ref b_22), .val (.ref b_33), .val (.ref b_42), .val (.int (0 : Int32)), .val (.ref b7)] [(.int (1 : Int32)), (.int (0 : Int32)), (.int (0 : Int32)), (.ref b7)])) rfl (by rw [hml]; rfl) (argsL := [(.ref b7), (.int (0 : Int32)), (.int (0 : Int32)), (.int (1 : Int32))]) (rest := []) (lenOf pd_3 rfl) rfl (by show 2 * 0 + _ ≤ _; exact Nat.le_of_eq rfl) (hb hby at_135) (fun _ _ => ⟨rfl, e7, (by decide : 4 + 0 ≤ _), (by decide : 4 + 0 ≤ _)⟩)
    dsimp only [Pt.U, Pt.locs, Pt.cells, Pt.slots] at X9 zl9 zy9 zz9 st9 hQ9
    subst zl9 zy9 zz9
    obtain ⟨rfl, Nq9, hh9⟩ := hQ9
    have N9 := Fr.app N5 Nq9
    refine GoW.st st9 ?_
    show GoW p e below QQ (T9.setTop (mkF m 138 #[.val (.long q1), .second, .val (.long q2), .second, .val (.long q3), .second, .val (.long q4), .second, .val (.int p5), .val (.int (0 : Int32)), .val (.int (0 : Int32)), .val (.ref b_22), .val (.ref b_33), .val (.ref b_42), .val (.int (0 : Int32)), .val (.ref b7)] []))
    refine GoW.st (fun t k => XS.aload X9.here hx rfl (hb hby at_138) rfl rfl (XS.iload X9.here hx rfl (hb hby at_140) rfl (XS.iconst X9.here hx rfl (hb hby at_142) (XS.iconst X9.here hx rfl (hb hby at_143) k)))) ?_
    show GoW p e below QQ (T9.setTop (mkF m 144 #[.val (.long q1), .second, .val (.long q2), .second, .val (.long q3), .second, .val (.long q4), .second, .val (.int p5), .val (.int (0 : Int32)), .val (.int (0 : Int32)), .val (.ref b_22), .val (.ref b_33), .val (.ref b_42), .val (.int (0 : Int32)), .val (.ref b7)] [(.int (3 : Int32)), (.int (2 : Int32)), (.int (0 : Int32)), (.ref b7)]))
    obtain ⟨_, _, ⟨T10, zL10, zk10, zn10⟩, -, X10, ⟨Lc10, hQ10, zl10, zy10, zz10⟩, st10⟩ := Jvm.LawKit.callS X9 hx (y := (⟨"com/example/hike/hike/HoldersMergePinLaw", "cx", "([JIII)V"⟩ : MethodName)) hown (mvT hZ (hw _ (List.mem_of_getElem? (i := 9) rfl))) (mvT hZ (hw _ (List.mem_of_getElem? (i := 10) rfl))) (mvT hZ (hw _ (List.mem_of_getElem? (i := 2) rfl))) (mvT hZ (hw _ (List.mem_of_getElem? (i := 11) rfl))) (by decide) (backOf (W := 0) (rm3_023 l Z a0 hw [] b7 h7 n0 (Nat.le_trans Z0 K7.1) ) hZ (hw _ (List.mem_of_getElem? (i := 11) rfl)) (hw _ (List.mem_of_getElem? (i := 2) rfl)) (by decide) (by decide)) (g := (mkF m 144 #[.val (.long q1), .second, .val (.long q2), .second, .val (.long q3), .second, .val (.long q4), .second, .val (.int p5), .val (.int (0 : Int32)), .val (.int (0 : Int32)), .val (.ref b_22), .val (.ref b_33), .val (.ref b_42), .val (.int (0 : Int32)), .val (.ref b7)] [(.int (3 : Int32)), (.int (2 : Int32)), (.int (0 : Int32)), (.ref b7)])) rfl (by rw [hml]; rfl) (argsL := [(.ref b7), (.int (0 : Int32)), (.int (2 : Int32)), (.int (3 : Int32))]) (rest := []) (lenOf pd_3 rfl) rfl (by show 2 * 0 + _ ≤ _; exact Nat.le_of_eq rfl) (hb hby at_144) (fun _ _ => ⟨rfl, hh9, (by decide : 4 + 0 ≤ _), (by decide : 4 + 0 ≤ _)⟩)
    dsimp only [Pt.U, Pt.locs, Pt.cells, Pt.slots] at X10 zl10 zy10 zz10 st10 hQ10
    subst zl10 zy10 zz10
    obtain ⟨rfl, Nq10, hh10⟩ := hQ10
    have N10 := Fr.app N9 Nq10
    refine GoW.st st10 ?_
    show GoW p e below QQ (T10.setTop (mkF m 147 #[.val (.long q1), .second, .val (.long q2), .second, .val (.long q3), .second, .val (.long q4), .second, .val (.int p5), .val (.int (0 : Int32)), .val (.int (0 : Int32)), .val (.ref b_22), .val (.ref b_33), .val (.ref b_42), .val (.int (0 : Int32)), .val (.ref b7)] []))
    refine GoW.st (fun t k => XS.aload X10.here hx rfl (hb hby at_147) rfl rfl (XS.iload X10.here hx rfl (hb hby at_149) rfl (XS.iconst X10.here hx rfl (hb hby at_151) (XS.iconst X10.here hx rfl (hb hby at_152) k)))) ?_
    show GoW p e below QQ (T10.setTop (mkF m 153 #[.val (.long q1), .second, .val (.long q2), .second, .val (.long q3), .second, .val (.long q4), .second, .val (.int p5), .val (.int (0 : Int32)), .val (.int (0 : Int32)), .val (.ref b_22), .val (.ref b_33), .val (.ref b_42), .val (.int (0 : Int32)), .val (.ref b7)] [(.int (2 : Int32)), (.int (0 : Int32)), (.int (0 : Int32)), (.ref b7)]))
    obtain ⟨_, _, ⟨T11, zL11, zk11, zn11⟩, -, X11, ⟨Lc11, hQ11, zl11, zy11, zz11⟩, st11⟩ := Jvm.LawKit.callS X10 hx (y := (⟨"com/example/hike/hike/HoldersMergePinLaw", "cx", "([JIII)V"⟩ : MethodName)) hown (mvT hZ (hw _ (List.mem_of_getElem? (i := 9) rfl))) (mvT hZ (hw _ (List.mem_of_getElem? (i := 10) rfl))) (mvT hZ (hw _ (List.mem_of_getElem? (i := 2) rfl))) (mvT hZ (hw _ (List.mem_of_getElem? (i := 11) rfl))) (by decide) (backOf (W := 0) (rm3_002 l Z a0 hw [] b7 h7 n0 (Nat.le_trans Z0 K7.1) ) hZ (hw _ (List.mem_of_getElem? (i := 11) rfl)) (hw _ (List.mem_of_getElem? (i := 2) rfl)) (by decide) (by decide)) (g := (mkF m 153 #[.val (.long q1), .second, .val (.long q2), .second, .val (.long q3), .second, .val (.long q4), .second, .val (.int p5), .val (.int (0 : Int32)), .val (.int (0 : Int32)), .val (.ref b_22), .val (.ref b_33), .val (.ref b_42), .val (.int (0 : Int32)), .val (.ref b7)] [(.int (2 : Int32)), (.int (0 : Int32)), (.int (0 : Int32)), (.ref b7)])) rfl (by rw [hml]; rfl) (argsL := [(.ref b7), (.int (0 : Int32)), (.int (0 : Int32)), (.int (2 : Int32))]) (rest := []) (lenOf pd_3 rfl) rfl (by show 2 * 0 + _ ≤ _; exact Nat.le_of_eq rfl) (hb hby at_153) (fun _ _ => ⟨rfl, hh10, (by decide : 4 + 0 ≤ _), (by decide : 4 + 0 ≤ _)⟩)
    dsimp only [Pt.U, Pt.locs, Pt.cells, Pt.slots] at X11 zl11 zy11 zz11 st11 hQ11
    subst zl11 zy11 zz11
    obtain ⟨rfl, Nq11, hh11⟩ := hQ11
    have N11 := Fr.app N10 Nq11
    refine GoW.st st11 ?_
    show GoW p e below QQ (T11.setTop (mkF m 156 #[.val (.long q1), .second, .val (.long q2), .second, .val (.long q3), .second, .val (.long q4), .second, .val (.int p5), .val (.int (0 : Int32)), .val (.int (0 : Int32)), .val (.ref b_22), .val (.ref b_33), .val (.ref b_42), .val (.int (0 : Int32)), .val (.ref b7)] []))
    refine GoW.st (fun t k => XS.aload X11.here hx rfl (hb hby at_156) rfl rfl (XS.iload X11.here hx rfl (hb hby at_158) rfl (XS.iconst X11.here hx rfl (hb hby at_160) (XS.iconst X11.here hx rfl (hb hby at_161) k)))) ?_
    show GoW p e below QQ (T11.setTop (mkF m 162 #[.val (.long q1), .second, .val (.long q2), .second, .val (.long q3), .second, .val (.long q4), .second, .val (.int p5), .val (.int (0 : Int32)), .val (.int (0 : Int32)), .val (.ref b_22), .val (.ref b_33), .val (.ref b_42), .val (.int (0 : Int32)), .val (.ref b7)] [(.int (3 : Int32)), (.int (1 : Int32)), (.int (0 : Int32)), (.ref b7)]))
    obtain ⟨_, _, ⟨T12, zL12, zk12, zn12⟩, -, X12, ⟨Lc12, hQ12, zl12, zy12, zz12⟩, st12⟩ := Jvm.LawKit.callS X11 hx (y := (⟨"com/example/hike/hike/HoldersMergePinLaw", "cx", "([JIII)V"⟩ : MethodName)) hown (mvT hZ (hw _ (List.mem_of_getElem? (i := 9) rfl))) (mvT hZ (hw _ (List.mem_of_getElem? (i := 10) rfl))) (mvT hZ (hw _ (List.mem_of_getElem? (i := 2) rfl))) (mvT hZ (hw _ (List.mem_of_getElem? (i := 11) rfl))) (by decide) (backOf (W := 0) (rm3_013 l Z a0 hw [] b7 h7 n0 (Nat.le_trans Z0 K7.1) ) hZ (hw _ (List.mem_of_getElem? (i := 11) rfl)) (hw _ (List.mem_of_getElem? (i := 2) rfl)) (by decide) (by decide)) (g := (mkF m 162 #[.val (.long q1), .second, .val (.long q2), .second, .val (.long q3), .second, .val (.long q4), .second, .val (.int p5), .val (.int (0 : Int32)), .val (.int (0 : Int32)), .val (.ref b_22), .val (.ref b_33), .val (.ref b_42), .val (.int (0 : Int32)), .val (.ref b7)] [(.int (3 : Int32)), (.int (1 : Int32)), (.int (0 : Int32)), (.ref b7)])) rfl (by rw [hml]; rfl) (argsL := [(.ref b7), (.int (0 : Int32)), (.int (1 : Int32)), (.int (3 : Int32))]) (rest := []) (lenOf pd_3 rfl) rfl (by show 2 * 0 + _ ≤ _; exact Nat.le_of_eq rfl) (hb hby at_162) (fun _ _ => ⟨rfl, hh11, (by decide : 4 + 0 ≤ _), (by decide : 4 + 0 ≤ _)⟩)
    dsimp only [Pt.U, Pt.locs, Pt.cells, Pt.slots] at X12 zl12 zy12 zz12 st12 hQ12
    subst zl12 zy12 zz12
    obtain ⟨rfl, Nq12, hh12⟩ := hQ12
    have N12 := Fr.app N11 Nq12
    refine GoW.st st12 ?_
    show GoW p e below QQ (T12.setTop (mkF m 165 #[.val (.long q1), .second, .val (.long q2), .second, .val (.long q3), .second, .val (.long q4), .second, .val (.int p5), .val (.int (0 : Int32)), .val (.int (0 : Int32)), .val (.ref b_22), .val (.ref b_33), .val (.ref b_42), .val (.int (0 : Int32)), .val (.ref b7)] []))
    refine GoW.st (fun t k => XS.aload X12.here hx rfl (hb hby at_165) rfl rfl (XS.iload X12.here hx rfl (hb hby at_167) rfl (XS.iconst X12.here hx rfl (hb hby at_169) (XS.iconst X12.here hx rfl (hb hby at_170) k)))) ?_
    show GoW p e below QQ (T12.setTop (mkF m 171 #[.val (.long q1), .second, .val (.long q2), .second, .val (.long q3), .second, .val (.long q4), .second, .val (.int p5), .val (.int (0 : Int32)), .val (.int (0 : Int32)), .val (.ref b_22), .val (.ref b_33), .val (.ref b_42), .val (.int (0 : Int32)), .val (.ref b7)] [(.int (2 : Int32)), (.int (1 : Int32)), (.int (0 : Int32)), (.ref b7)]))
    obtain ⟨_, _, ⟨T13, zL13, zk13, zn13⟩, -, X13, ⟨Lc13, hQ13, zl13, zy13, zz13⟩, st13⟩ := Jvm.LawKit.callS X12 hx (y := (⟨"com/example/hike/hike/HoldersMergePinLaw", "cx", "([JIII)V"⟩ : MethodName)) hown (mvT hZ (hw _ (List.mem_of_getElem? (i := 9) rfl))) (mvT hZ (hw _ (List.mem_of_getElem? (i := 10) rfl))) (mvT hZ (hw _ (List.mem_of_getElem? (i := 2) rfl))) (mvT hZ (hw _ (List.mem_of_getElem? (i := 11) rfl))) (by decide) (backOf (W := 0) (rm3_012 l Z a0 hw [] b7 h7 n0 (Nat.le_trans Z0 K7.1) ) hZ (hw _ (List.mem_of_getElem? (i := 11) rfl)) (hw _ (List.mem_of_getElem? (i := 2) rfl)) (by decide) (by decide)) (g := (mkF m 171 #[.val (.long q1), .second, .val (.long q2), .second, .val (.long q3), .second, .val (.long q4), .second, .val (.int p5), .val (.int (0 : Int32)), .val (.int (0 : Int32)), .val (.ref b_22), .val (.ref b_33), .val (.ref b_42), .val (.int (0 : Int32)), .val (.ref b7)] [(.int (2 : Int32)), (.int (1 : Int32)), (.int (0 : Int32)), (.ref b7)])) rfl (by rw [hml]; rfl) (argsL := [(.ref b7), (.int (0 : Int32)), (.int (1 : Int32)), (.int (2 : Int32))]) (rest := []) (lenOf pd_3 rfl) rfl (by show 2 * 0 + _ ≤ _; exact Nat.le_of_eq rfl) (hb hby at_171) (fun _ _ => ⟨rfl, hh12, (by decide : 4 + 0 ≤ _), (by decide : 4 + 0 ≤ _)⟩)
    dsimp only [Pt.U, Pt.locs, Pt.cells, Pt.slots] at X13 zl13 zy13 zz13 st13 hQ13
    subst zl13 zy13 zz13
    obtain ⟨rfl, Nq13, hh13⟩ := hQ13
    have N13 := Fr.app N12 Nq13
    refine GoW.st st13 ?_
    show GoW p e below QQ (T13.setTop (mkF m 174 #[.val (.long q1), .second, .val (.long q2), .second, .val (.long q3), .second, .val (.long q4), .second, .val (.int p5), .val (.int (0 : Int32)), .val (.int (0 : Int32)), .val (.ref b_22), .val (.ref b_33), .val (.ref b_42), .val (.int (0 : Int32)), .val (.ref b7)] []))
    refine GoW.st (fun t k => XS.iconst X13.here hx rfl (hb hby at_174) (XS.iload X13.here hx rfl (hb hby at_175) rfl k)) ?_
    show GoW p e below QQ (T13.setTop (mkF m 177 #[.val (.long q1), .second, .val (.long q2), .second, .val (.long q3), .second, .val (.long q4), .second, .val (.int p5), .val (.int (0 : Int32)), .val (.int (0 : Int32)), .val (.ref b_22), .val (.ref b_33), .val (.ref b_42), .val (.int (0 : Int32)), .val (.ref b7)] [(.int (0 : Int32)), (.int (0 : Int32))]))
    have hc177 : ¬ ((0 : Int32) < (0 : Int32)) := by decide
    refine GoW.st (fun t k => XS.icmpYes X13.here hx rfl (pc0 := 177) (pc' := 194) rfl (hb hby at_177) rfl (flt hc177).2.1 (by decide) (by decide) (XS.iconst X13.here hx rfl (hb hby at_194) (XS.iload X13.here hx rfl (hb hby at_195) rfl k))) ?_
    show GoW p e below QQ (T13.setTop (mkF m 197 #[.val (.long q1), .second, .val (.long q2), .second, .val (.long q3), .second, .val (.long q4), .second, .val (.int p5), .val (.int (0 : Int32)), .val (.int (0 : Int32)), .val (.ref b_22), .val (.ref b_33), .val (.ref b_42), .val (.int (0 : Int32)), .val (.ref b7)] [(.int (0 : Int32)), (.int (1 : Int32))]))
    have hc197 : ¬ ((1 : Int32) < (0 : Int32)) := by decide
    refine GoW.st (fun t k => XS.icmpYes X13.here hx rfl (pc0 := 197) (pc' := 214) rfl (hb hby at_197) rfl (flt hc197).2.1 (by decide) (by decide) (XS.iconst X13.here hx rfl (hb hby at_214) (XS.iload X13.here hx rfl (hb hby at_215) rfl k))) ?_
    show GoW p e below QQ (T13.setTop (mkF m 217 #[.val (.long q1), .second, .val (.long q2), .second, .val (.long q3), .second, .val (.long q4), .second, .val (.int p5), .val (.int (0 : Int32)), .val (.int (0 : Int32)), .val (.ref b_22), .val (.ref b_33), .val (.ref b_42), .val (.int (0 : Int32)), .val (.ref b7)] [(.int (0 : Int32)), (.int (2 : Int32))]))
    have hc217 : ¬ ((2 : Int32) < (0 : Int32)) := by decide
    refine GoW.st (fun t k => XS.icmpYes X13.here hx rfl (pc0 := 217) (pc' := 234) rfl (hb hby at_217) rfl (flt hc217).2.1 (by decide) (by decide) (XS.iconst X13.here hx rfl (hb hby at_234) (XS.iload X13.here hx rfl (hb hby at_235) rfl k))) ?_
    show GoW p e below QQ (T13.setTop (mkF m 237 #[.val (.long q1), .second, .val (.long q2), .second, .val (.long q3), .second, .val (.long q4), .second, .val (.int p5), .val (.int (0 : Int32)), .val (.int (0 : Int32)), .val (.ref b_22), .val (.ref b_33), .val (.ref b_42), .val (.int (0 : Int32)), .val (.ref b7)] [(.int (0 : Int32)), (.int (3 : Int32))]))
    have hc237 : ¬ ((3 : Int32) < (0 : Int32)) := by decide
    refine GoW.st (fun t k => XS.icmpYes X13.here hx rfl (pc0 := 237) (pc' := 254) rfl (hb hby at_237) rfl (flt hc237).2.1 (by decide) (by decide) (XS.iconst X13.here hx rfl (hb hby at_254) k)) ?_
    show GoW p e below QQ (T13.setTop (mkF m 255 #[.val (.long q1), .second, .val (.long q2), .second, .val (.long q3), .second, .val (.long q4), .second, .val (.int p5), .val (.int (0 : Int32)), .val (.int (0 : Int32)), .val (.ref b_22), .val (.ref b_33), .val (.ref b_42), .val (.int (0 : Int32)), .val (.ref b7)] [(.int (1 : Int32))]))
    exact GoW.fin X13 (some (.int (nar .boolean (1 : Int32)))) (fun q => by rw [hret] at q; cases q) hlk hQ hh13 ⟨rfl, N13⟩ (by decide) (by decide) (fun fs hr => retN X13 hx (t := .boolean) hret (by simp) (hb hby at_255) hr)
  · skip
    show GoW p e below QQ (T0.setTop (mkF m 18 #[.val (.long q1), .second, .val (.long q2), .second, .val (.long q3), .second, .val (.long q4), .second, .val (.int p5), .val (.int (0 : Int32)), .val (.int (1 : Int32)), .unset, .unset, .unset, .unset, .unset] []))
    refine GoW.st (fun t k => XS.iload X0.here hx rfl (hb hby at_18) rfl (XS.lloadN X0.here hx rfl (hb hby at_20) rfl (XS.lloadN X0.here hx rfl (hb hby at_21) rfl k))) ?_
    show GoW p e below QQ (T0.setTop (mkF m 22 #[.val (.long q1), .second, .val (.long q2), .second, .val (.long q3), .second, .val (.long q4), .second, .val (.int p5), .val (.int (0 : Int32)), .val (.int (1 : Int32)), .unset, .unset, .unset, .unset, .unset] [(.long q2), (.long q1), (.int (0 : Int32))]))
    obtain ⟨_, _, ⟨T14, zL14, zk14, zn14⟩, -, X14, ⟨Lc14, hQ14, zl14, zy14, zz14⟩, st14⟩ := Jvm.LawKit.callS X0 hx (y := (⟨"com/example/hike/hike/HoldersMergePinLaw", "make", "(IJJ)[J"⟩ : MethodName)) hown (mvT hZ (hw _ (List.mem_of_getElem? (i := 0) rfl))) (mvT hZ (hw _ (List.mem_of_getElem? (i := 1) rfl))) (mvT hZ (hw _ (List.mem_of_getElem? (i := 2) rfl))) (mvT hZ (hw _ (List.mem_of_getElem? (i := 3) rfl))) (by decide) (backOf (W := 0) (rm1_0 l Z a0 hw [] q1 q2 h0 n0 (Nat.le_trans Z0 K0.1) ) hZ (hw _ (List.mem_of_getElem? (i := 3) rfl)) (hw _ (List.mem_of_getElem? (i := 2) rfl)) (by decide) (by decide)) (g := (mkF m 22 #[.val (.long q1), .second, .val (.long q2), .second, .val (.long q3), .second, .val (.long q4), .second, .val (.int p5), .val (.int (0 : Int32)), .val (.int (1 : Int32)), .unset, .unset, .unset, .unset, .unset] [(.long q2), (.long q1), (.int (0 : Int32))])) rfl (by rw [hml]; rfl) (argsL := [(.int (0 : Int32)), (.long q1), (.long q2)]) (rest := []) (lenOf pd_1 rfl) rfl (by show 2 * 0 + _ ≤ _; exact Nat.le_of_eq rfl) (hb hby at_22) (fun _ _ => ⟨rfl, e0, (by decide : 0 + 1 ≤ _), (by decide : 0 + 0 ≤ _)⟩)
    dsimp only [Pt.U, Pt.locs, Pt.cells, Pt.slots] at X14 zl14 zy14 zz14 st14 hQ14
    subst zl14 zy14 zz14
    obtain ⟨b_22, kb_22, rfl, Nq14, Kq14, p14_0, p14_1⟩ := hQ14
    have N14 := Fr.app N0 Nq14
    refine GoW.st st14 ?_
    have sz14_b_22 : h0.size ≤ b_22 := Nat.le_trans K0.1 p14_0
    have gg14_b_22 : n0 ≤ b_22 := Nat.le_trans Z0 sz14_b_22
    have K14 : Keep h0 T14.heap [] := K0.trans Kq14 all0
    show GoW p e below QQ (T14.setTop (mkF m 25 #[.val (.long q1), .second, .val (.long q2), .second, .val (.long q3), .second, .val (.long q4), .second, .val (.int p5), .val (.int (0 : Int32)), .val (.int (1 : Int32)), .unset, .unset, .unset, .unset, .unset] [(.ref b_22)]))
    refine GoW.st (fun t k => XS.astore X14.here hx rfl (hb hby at_25) rfl rfl (l' := #[.val (.long q1), .second, .val (.long q2), .second, .val (.long q3), .second, .val (.long q4), .second, .val (.int p5), .val (.int (0 : Int32)), .val (.int (1 : Int32)), .val (.ref b_22), .unset, .unset, .unset, .unset]) rfl (XS.iload X14.here hx rfl (hb hby at_27) rfl (XS.lload X14.here hx rfl (hb hby at_29) rfl (XS.lload X14.here hx rfl (hb hby at_31) rfl k)))) ?_
    show GoW p e below QQ (T14.setTop (mkF m 33 #[.val (.long q1), .second, .val (.long q2), .second, .val (.long q3), .second, .val (.long q4), .second, .val (.int p5), .val (.int (0 : Int32)), .val (.int (1 : Int32)), .val (.ref b_22), .unset, .unset, .unset, .unset] [(.long q4), (.long q3), (.int (1 : Int32))]))
    obtain ⟨_, _, ⟨T16, zL16, zk16, zn16⟩, -, X16, ⟨Lc16, hQ16, zl16, zy16, zz16⟩, st16⟩ := Jvm.LawKit.callS X14 hx (y := (⟨"com/example/hike/hike/HoldersMergePinLaw", "make", "(IJJ)[J"⟩ : MethodName)) hown (mvT hZ (hw _ (List.mem_of_getElem? (i := 0) rfl))) (mvT hZ (hw _ (List.mem_of_getElem? (i := 1) rfl))) (mvT hZ (hw _ (List.mem_of_getElem? (i := 2) rfl))) (mvT hZ (hw _ (List.mem_of_getElem? (i := 3) rfl))) (by decide) (backOf (W := 0) (rm1_1 l Z a0 hw [] q3 q4 T14.heap n0 (Nat.le_trans Z0 K14.1) ) hZ (hw _ (List.mem_of_getElem? (i := 3) rfl)) (hw _ (List.mem_of_getElem? (i := 2) rfl)) (by decide) (by decide)) (g := (mkF m 33 #[.val (.long q1), .second, .val (.long q2), .second, .val (.long q3), .second, .val (.long q4), .second, .val (.int p5), .val (.int (0 : Int32)), .val (.int (1 : Int32)), .val (.ref b_22), .unset, .unset, .unset, .unset] [(.long q4), (.long q3), (.int (1 : Int32))])) rfl (by rw [hml]; rfl) (argsL := [(.int (1 : Int32)), (.long q3), (.long q4)]) (rest := []) (lenOf pd_1 rfl) rfl (by show 2 * 0 + _ ≤ _; exact Nat.le_of_eq rfl) (hb hby at_33) (fun _ _ => ⟨rfl, rfl, (by decide : 1 + 1 ≤ _), (by decide : 0 + 1 ≤ _)⟩)
    dsimp only [Pt.U, Pt.locs, Pt.cells, Pt.slots] at X16 zl16 zy16 zz16 st16 hQ16
    subst zl16 zy16 zz16
    obtain ⟨b_33, kb_33, rfl, Nq16, Kq16, p16_0, p16_1⟩ := hQ16
    have N16 := Fr.app N14 Nq16
    refine GoW.st st16 ?_
    have ne16_b_22_b_33 : b_22 ≠ b_33 := Nat.ne_of_lt (Nat.lt_of_lt_of_le p14_1.lt p16_0)
    have sz16_b_33 : h0.size ≤ b_33 := Nat.le_trans K14.1 p16_0
    have gg16_b_33 : n0 ≤ b_33 := Nat.le_trans Z0 sz16_b_33
    have f17_V_b_22 : Arv Z T16.heap b_22 kb_22 .long (0 : Int32) [] (.long (0 : Int64)) := p14_1.keep Kq16 nin0
    have K16 : Keep h0 T16.heap [] := K14.trans Kq16 all0
    show GoW p e below QQ (T16.setTop (mkF m 36 #[.val (.long q1), .second, .val (.long q2), .second, .val (.long q3), .second, .val (.long q4), .second, .val (.int p5), .val (.int (0 : Int32)), .val (.int (1 : Int32)), .val (.ref b_22), .unset, .unset, .unset, .unset] [(.ref b_33)]))
    refine GoW.st (fun t k => XS.astore X16.here hx rfl (hb hby at_36) rfl rfl (l' := #[.val (.long q1), .second, .val (.long q2), .second, .val (.long q3), .second, .val (.long q4), .second, .val (.int p5), .val (.int (0 : Int32)), .val (.int (1 : Int32)), .val (.ref b_22), .val (.ref b_33), .unset, .unset, .unset]) rfl (XS.aload X16.here hx rfl (hb hby at_38) rfl rfl (XS.aload X16.here hx rfl (hb hby at_40) rfl rfl k))) ?_
    show GoW p e below QQ (T16.setTop (mkF m 42 #[.val (.long q1), .second, .val (.long q2), .second, .val (.long q3), .second, .val (.long q4), .second, .val (.int p5), .val (.int (0 : Int32)), .val (.int (1 : Int32)), .val (.ref b_22), .val (.ref b_33), .unset, .unset, .unset] [(.ref b_33), (.ref b_22)]))
    obtain ⟨_, _, ⟨T18, zL18, zk18, zn18⟩, -, X18, ⟨Lc18, hQ18, zl18, zy18, zz18⟩, st18⟩ := Jvm.LawKit.callS X16 hx (y := (⟨"com/example/hike/hike/Holders", "merge", "([J[J)[J"⟩ : MethodName)) hown (mvT hZ (hw _ (List.mem_of_getElem? (i := 5) rfl))) (mvT hZ (hw _ (List.mem_of_getElem? (i := 6) rfl))) (mvT hZ (hw _ (List.mem_of_getElem? (i := 7) rfl))) (mvT hZ (hw _ (List.mem_of_getElem? (i := 8) rfl))) (by decide) (backOf (W := 0) (rm2_01 l Z a0 hw [] b_22 b_33 kb_22 kb_33 q3 T16.heap n0 (Nat.le_trans Z0 K16.1) f17_V_b_22 p16_1) hZ (hw _ (List.mem_of_getElem? (i := 8) rfl)) (hw _ (List.mem_of_getElem? (i := 7) rfl)) (by decide) (by decide)) (g := (mkF m 42 #[.val (.long q1), .second, .val (.long q2), .second, .val (.long q3), .second, .val (.long q4), .second, .val (.int p5), .val (.int (0 : Int32)), .val (.int (1 : Int32)), .val (.ref b_22), .val (.ref b_33), .unset, .unset, .unset] [(.ref b_33), (.ref b_22)])) rfl (by rw [hml]; rfl) (argsL := [(.ref b_22), (.ref b_33)]) (rest := []) (lenOf pd_2 rfl) rfl (by show 2 * 0 + _ ≤ _; exact Nat.le_of_eq rfl) (hb hby at_42) (fun _ _ => ⟨rfl, rfl, (by decide : 2 + 1 ≤ _), (by decide : 1 + 1 ≤ _)⟩)
    dsimp only [Pt.U, Pt.locs, Pt.cells, Pt.slots] at X18 zl18 zy18 zz18 st18 hQ18
    subst zl18 zy18 zz18
    obtain ⟨b_42, kb_42, w0_42, rfl, Nq18, Kq18, p18_0, p18_1, p18_2⟩ := hQ18
    have N18 := Fr.app N16 Nq18
    refine GoW.st st18 ?_
    have ne18_b_22_b_42 : b_22 ≠ b_42 := Nat.ne_of_lt (Nat.lt_of_lt_of_le f17_V_b_22.lt p18_0)
    have ne18_b_33_b_42 : b_33 ≠ b_42 := Nat.ne_of_lt (Nat.lt_of_lt_of_le p16_1.lt p18_0)
    have sz18_b_42 : h0.size ≤ b_42 := Nat.le_trans K16.1 p18_0
    have gg18_b_42 : n0 ≤ b_42 := Nat.le_trans Z0 sz18_b_42
    have f19_V_b_22 : Arv Z T18.heap b_22 kb_22 .long (0 : Int32) [] (.long (0 : Int64)) := f17_V_b_22.keep Kq18 nin0
    have f19_V_b_33 : Arv Z T18.heap b_33 kb_33 .long (1 : Int32) [(.long q3)] (.long (0 : Int64)) := p16_1.keep Kq18 nin0
    have K18 : Keep h0 T18.heap [] := K16.trans Kq18 all0
    have hw_42 := p18_2
    show GoW p e below QQ (T18.setTop (mkF m 45 #[.val (.long q1), .second, .val (.long q2), .second, .val (.long q3), .second, .val (.long q4), .second, .val (.int p5), .val (.int (0 : Int32)), .val (.int (1 : Int32)), .val (.ref b_22), .val (.ref b_33), .unset, .unset, .unset] [(.ref b_42)]))
    refine GoW.st (fun t k => XS.astore X18.here hx rfl (hb hby at_45) rfl rfl (l' := #[.val (.long q1), .second, .val (.long q2), .second, .val (.long q3), .second, .val (.long q4), .second, .val (.int p5), .val (.int (0 : Int32)), .val (.int (1 : Int32)), .val (.ref b_22), .val (.ref b_33), .val (.ref b_42), .unset, .unset]) rfl (XS.iload X18.here hx rfl (hb hby at_47) rfl (XS.iload X18.here hx rfl (hb hby at_49) rfl (XS.iadd X18.here hx rfl (hb hby at_51) rfl (XS.istore X18.here hx rfl (hb hby at_52) rfl (l' := #[.val (.long q1), .second, .val (.long q2), .second, .val (.long q3), .second, .val (.long q4), .second, .val (.int p5), .val (.int (0 : Int32)), .val (.int (1 : Int32)), .val (.ref b_22), .val (.ref b_33), .val (.ref b_42), .val (.int (1 : Int32)), .unset]) rfl (XS.aload X18.here hx rfl (hb hby at_54) rfl rfl k)))))) ?_
    show GoW p e below QQ (T18.setTop (mkF m 56 #[.val (.long q1), .second, .val (.long q2), .second, .val (.long q3), .second, .val (.long q4), .second, .val (.int p5), .val (.int (0 : Int32)), .val (.int (1 : Int32)), .val (.ref b_22), .val (.ref b_33), .val (.ref b_42), .val (.int (1 : Int32)), .unset] [(.ref b_42)]))
    refine GoW.st (fun t k => lnV X18 hx hZ rfl p18_1 (g := (mkF m 56 #[.val (.long q1), .second, .val (.long q2), .second, .val (.long q3), .second, .val (.long q4), .second, .val (.int p5), .val (.int (0 : Int32)), .val (.int (1 : Int32)), .val (.ref b_22), .val (.ref b_33), .val (.ref b_42), .val (.int (1 : Int32)), .unset] [(.ref b_42)])) rfl rfl (hb hby at_56) t (XS.iload X18.here hx rfl (hb hby at_57) rfl k)) ?_
    show GoW p e below QQ (T18.setTop (mkF m 59 #[.val (.long q1), .second, .val (.long q2), .second, .val (.long q3), .second, .val (.long q4), .second, .val (.int p5), .val (.int (0 : Int32)), .val (.int (1 : Int32)), .val (.ref b_22), .val (.ref b_33), .val (.ref b_42), .val (.int (1 : Int32)), .unset] [(.int (1 : Int32)), (.int (1 : Int32))]))
    have hc59 : (1 : Int32) = (1 : Int32) := by decide
    refine GoW.st (fun t k => XS.icmpYes X18.here hx rfl (pc0 := 59) (pc' := 64) rfl (hb hby at_59) rfl (teq hc59).1 (by decide) (by decide) (XS.iconst X18.here hx rfl (hb hby at_64) k)) ?_
    show GoW p e below QQ (T18.setTop (mkF m 65 #[.val (.long q1), .second, .val (.long q2), .second, .val (.long q3), .second, .val (.long q4), .second, .val (.int p5), .val (.int (0 : Int32)), .val (.int (1 : Int32)), .val (.ref b_22), .val (.ref b_33), .val (.ref b_42), .val (.int (1 : Int32)), .unset] [(.int (4 : Int32))]))
    obtain ⟨T20, h20, k20, X20, e20, E20, A20, st20⟩ := newP X18 hx hZ (hw _ (List.mem_of_getElem? (i := 4) rfl)) rfl (g := (mkF m 65 #[.val (.long q1), .second, .val (.long q2), .second, .val (.long q3), .second, .val (.long q4), .second, .val (.int p5), .val (.int (0 : Int32)), .val (.int (1 : Int32)), .val (.ref b_22), .val (.ref b_33), .val (.ref b_42), .val (.int (1 : Int32)), .unset] [(.int (4 : Int32))])) rfl (hb hby at_65) rfl (by decide) (cap := 4) (by decide) (by decide) (by decide) (by decide)
    obtain ⟨b20, g20⟩ : ∃ z, z = T18.heap.size := ⟨_, rfl⟩
    rw [← g20] at A20 st20
    refine GoW.st st20 ?_
    have gg20 : n0 ≤ b20 := Nat.le_trans (Nat.le_trans Z0 K18.1) (Nat.le_of_eq g20.symm)
    have sz20 : h0.size ≤ b20 := Nat.le_trans K18.1 (Nat.le_of_eq g20.symm)
    have ne20_b_22 : b_22 ≠ b20 := Nat.ne_of_lt (Nat.lt_of_lt_of_le f19_V_b_22.lt (Nat.le_of_eq g20.symm))
    have ne20_b_33 : b_33 ≠ b20 := Nat.ne_of_lt (Nat.lt_of_lt_of_le f19_V_b_33.lt (Nat.le_of_eq g20.symm))
    have ne20_b_42 : b_42 ≠ b20 := Nat.ne_of_lt (Nat.lt_of_lt_of_le p18_1.lt (Nat.le_of_eq g20.symm))
    have f21_V_b_22 : Arv Z h20 b_22 kb_22 .long (0 : Int32) [] (.long (0 : Int64)) := f19_V_b_22.ext E20
    have f21_V_b_33 : Arv Z h20 b_33 kb_33 .long (1 : Int32) [(.long q3)] (.long (0 : Int64)) := f19_V_b_33.ext E20
    have f21_V_b_42 : Arv Z h20 b_42 kb_42 .long (1 : Int32) [(.long w0_42)] (.long (0 : Int64)) := p18_1.ext E20
    have K20 : Keep h0 h20 [] := K18.ext E20
    have V20 : Arv Z h20 b20 k20 .long (4 : Int32) [(.long (0 : Int64)), (.long (0 : Int64)), (.long (0 : Int64)), (.long (0 : Int64))] (.long (0 : Int64)) := (Arv.new A20 (by decide)).pad (pad_rep [] (.long (0 : Int64)) 4)
    show GoW p e below QQ (T20.setTop (mkF m 67 #[.val (.long q1), .second, .val (.long q2), .second, .val (.long q3), .second, .val (.long q4), .second, .val (.int p5), .val (.int (0 : Int32)), .val (.int (1 : Int32)), .val (.ref b_22), .val (.ref b_33), .val (.ref b_42), .val (.int (1 : Int32)), .unset] [(.ref b20)]))
    refine GoW.st (fun t k => XS.astore X20.here hx rfl (hb hby at_67) rfl rfl (l' := #[.val (.long q1), .second, .val (.long q2), .second, .val (.long q3), .second, .val (.long q4), .second, .val (.int p5), .val (.int (0 : Int32)), .val (.int (1 : Int32)), .val (.ref b_22), .val (.ref b_33), .val (.ref b_42), .val (.int (1 : Int32)), .val (.ref b20)]) rfl (XS.iload X20.here hx rfl (hb hby at_69) rfl (XS.iconst X20.here hx rfl (hb hby at_71) k))) ?_
    show GoW p e below QQ (T20.setTop (mkF m 72 #[.val (.long q1), .second, .val (.long q2), .second, .val (.long q3), .second, .val (.long q4), .second, .val (.int p5), .val (.int (0 : Int32)), .val (.int (1 : Int32)), .val (.ref b_22), .val (.ref b_33), .val (.ref b_42), .val (.int (1 : Int32)), .val (.ref b20)] [(.int (1 : Int32)), (.int (0 : Int32))]))
    have hc72 : (0 : Int32) < (1 : Int32) := by decide
    refine GoW.st (fun t k => XS.icmpYes X20.here hx rfl (pc0 := 72) (pc' := 83) rfl (hb hby at_72) rfl (tlt hc72).1 (by decide) (by decide) (XS.iload X20.here hx rfl (hb hby at_83) rfl (XS.iconst X20.here hx rfl (hb hby at_85) k))) ?_
    show GoW p e below QQ (T20.setTop (mkF m 86 #[.val (.long q1), .second, .val (.long q2), .second, .val (.long q3), .second, .val (.long q4), .second, .val (.int p5), .val (.int (0 : Int32)), .val (.int (1 : Int32)), .val (.ref b_22), .val (.ref b_33), .val (.ref b_42), .val (.int (1 : Int32)), .val (.ref b20)] [(.int (2 : Int32)), (.int (0 : Int32))]))
    have hc86 : ¬ ((0 : Int32) = (2 : Int32)) := by decide
    refine GoW.st (fun t k => XS.icmpYes X20.here hx rfl (pc0 := 86) (pc' := 97) rfl (hb hby at_86) rfl (feq hc86).2 (by decide) (by decide) (XS.iload X20.here hx rfl (hb hby at_97) rfl (XS.iconst X20.here hx rfl (hb hby at_99) k))) ?_
    show GoW p e below QQ (T20.setTop (mkF m 100 #[.val (.long q1), .second, .val (.long q2), .second, .val (.long q3), .second, .val (.long q4), .second, .val (.int p5), .val (.int (0 : Int32)), .val (.int (1 : Int32)), .val (.ref b_22), .val (.ref b_33), .val (.ref b_42), .val (.int (1 : Int32)), .val (.ref b20)] [(.int (1 : Int32)), (.int (1 : Int32))]))
    have hc100 : ¬ ((1 : Int32) < (1 : Int32)) := by decide
    refine GoW.st (fun t k => XS.icmpNo X20.here hx rfl (hb hby at_100) rfl (flt hc100).1 (XS.aload X20.here hx rfl (hb hby at_103) rfl rfl (XS.iload X20.here hx rfl (hb hby at_105) rfl (XS.aload X20.here hx rfl (hb hby at_107) rfl rfl (XS.iconst X20.here hx rfl (hb hby at_109) (ldVJ X20 hx hZ e20 f21_V_b_33 (v := (.long q3)) ⟨by decide, by decide⟩ rfl (g := (mkF m 110 #[.val (.long q1), .second, .val (.long q2), .second, .val (.long q3), .second, .val (.long q4), .second, .val (.int p5), .val (.int (0 : Int32)), .val (.int (1 : Int32)), .val (.ref b_22), .val (.ref b_33), .val (.ref b_42), .val (.int (1 : Int32)), .val (.ref b20)] [(.int (0 : Int32)), (.ref b_33), (.int (0 : Int32)), (.ref b20)])) rfl rfl (hb hby at_110) t k)))))) ?_
    show GoW p e below QQ (T20.setTop (mkF m 111 #[.val (.long q1), .second, .val (.long q2), .second, .val (.long q3), .second, .val (.long q4), .second, .val (.int p5), .val (.int (0 : Int32)), .val (.int (1 : Int32)), .val (.ref b_22), .val (.ref b_33), .val (.ref b_42), .val (.int (1 : Int32)), .val (.ref b20)] [(.long q3), (.int (0 : Int32)), (.ref b20)]))
    obtain ⟨T22, h22, X22, e22, W22, V22, st22⟩ := stVJ X20 hx hZ e20 V20 ⟨by decide, by decide⟩ 0 rfl (Nat.le_of_ble_eq_true rfl) (g := (mkF m 111 #[.val (.long q1), .second, .val (.long q2), .second, .val (.long q3), .second, .val (.long q4), .second, .val (.int p5), .val (.int (0 : Int32)), .val (.int (1 : Int32)), .val (.ref b_22), .val (.ref b_33), .val (.ref b_42), .val (.int (1 : Int32)), .val (.ref b20)] [(.long q3), (.int (0 : Int32)), (.ref b20)])) rfl rfl (hb hby at_111)
    refine GoW.st st22 ?_
    have f23_V_b_22 : Arv Z h22 b_22 kb_22 .long (0 : Int32) [] (.long (0 : Int64)) := f21_V_b_22.other W22 ne20_b_22
    have f23_V_b_33 : Arv Z h22 b_33 kb_33 .long (1 : Int32) [(.long q3)] (.long (0 : Int64)) := f21_V_b_33.other W22 ne20_b_33
    have f23_V_b_42 : Arv Z h22 b_42 kb_42 .long (1 : Int32) [(.long w0_42)] (.long (0 : Int64)) := f21_V_b_42.other W22 ne20_b_42
    have f23_V_b20 : Arv Z h22 b20 k20 .long (4 : Int32) [(.long q3), (.long (0 : Int64)), (.long (0 : Int64)), (.long (0 : Int64))] (.long (0 : Int64)) := V22
    have K22 : Keep h0 h22 [] := K20.wr W22 (Or.inr sz20)
    have N22 := Fr.snoc X22 N18 gg20
    show GoW p e below QQ (T22.setTop (mkF m 112 #[.val (.long q1), .second, .val (.long q2), .second, .val (.long q3), .second, .val (.long q4), .second, .val (.int p5), .val (.int (0 : Int32)), .val (.int (1 : Int32)), .val (.ref b_22), .val (.ref b_33), .val (.ref b_42), .val (.int (1 : Int32)), .val (.ref b20)] []))
    refine GoW.st (fun t k => XS.iload X22.here hx rfl (hb hby at_112) rfl (XS.iconst X22.here hx rfl (hb hby at_114) k)) ?_
    show GoW p e below QQ (T22.setTop (mkF m 115 #[.val (.long q1), .second, .val (.long q2), .second, .val (.long q3), .second, .val (.long q4), .second, .val (.int p5), .val (.int (0 : Int32)), .val (.int (1 : Int32)), .val (.ref b_22), .val (.ref b_33), .val (.ref b_42), .val (.int (1 : Int32)), .val (.ref b20)] [(.int (2 : Int32)), (.int (1 : Int32))]))
    have hc115 : ¬ ((1 : Int32) = (2 : Int32)) := by decide
    refine GoW.st (fun t k => XS.icmpYes X22.here hx rfl (pc0 := 115) (pc' := 129) rfl (hb hby at_115) rfl (feq hc115).2 (by decide) (by decide) (XS.aload X22.here hx rfl (hb hby at_129) rfl rfl (XS.iload X22.here hx rfl (hb hby at_131) rfl (XS.iconst X22.here hx rfl (hb hby at_133) (XS.iconst X22.here hx rfl (hb hby at_134) k))))) ?_
    show GoW p e below QQ (T22.setTop (mkF m 135 #[.val (.long q1), .second, .val (.long q2), .second, .val (.long q3), .second, .val (.long q4), .second, .val (.int p5), .val (.int (0 : Int32)), .val (.int (1 : Int32)), .val (.ref b_22), .val (.ref b_33), .val (.ref b_42), .val (.int (1 : Int32)), .val (.ref b20)] [(.int (1 : Int32)), (.int (0 : Int32)), (.int (1 : Int32)), (.ref b20)]))
    obtain ⟨_, _, ⟨T24, zL24, zk24, zn24⟩, -, X24, ⟨Lc24, hQ24, zl24, zy24, zz24⟩, st24⟩ := Jvm.LawKit.callS X22 hx (y := (⟨"com/example/hike/hike/HoldersMergePinLaw", "cx", "([JIII)V"⟩ : MethodName)) hown (mvT hZ (hw _ (List.mem_of_getElem? (i := 9) rfl))) (mvT hZ (hw _ (List.mem_of_getElem? (i := 10) rfl))) (mvT hZ (hw _ (List.mem_of_getElem? (i := 2) rfl))) (mvT hZ (hw _ (List.mem_of_getElem? (i := 11) rfl))) (by decide) (backOf (W := 0) (rm3_101 l Z a0 hw [] b20 h22 n0 (Nat.le_trans Z0 K22.1) ) hZ (hw _ (List.mem_of_getElem? (i := 11) rfl)) (hw _ (List.mem_of_getElem? (i := 2) rfl)) (by decide) (by decide)) (g := (mkF m 135 #[.val (.long q1), .second, .val (.long q2), .second, .val (.long q3), .second, .val (.long q4), .second, .val (.int p5), .val (.int (0 : Int32)), .val (.int (1 : Int32)), .val (.ref b_22), .val (.ref b_33), .val (.ref b_42), .val (.int (1 : Int32)), .val (.ref b20)] [(.int (1 : Int32)), (.int (0 : Int32)), (.int (1 : Int32)), (.ref b20)])) rfl (by rw [hml]; rfl) (argsL := [(.ref b20), (.int (1 : Int32)), (.int (0 : Int32)), (.int (1 : Int32))]) (rest := []) (lenOf pd_3 rfl) rfl (by show 2 * 0 + _ ≤ _; exact Nat.le_of_eq rfl) (hb hby at_135) (fun _ _ => ⟨rfl, e22, (by decide : 4 + 0 ≤ _), (by decide : 6 + 0 ≤ _)⟩)
    dsimp only [Pt.U, Pt.locs, Pt.cells, Pt.slots] at X24 zl24 zy24 zz24 st24 hQ24
    subst zl24 zy24 zz24
    obtain ⟨rfl, Nq24, hh24⟩ := hQ24
    have N24 := Fr.app N22 Nq24
    refine GoW.st st24 ?_
    show GoW p e below QQ (T24.setTop (mkF m 138 #[.val (.long q1), .second, .val (.long q2), .second, .val (.long q3), .second, .val (.long q4), .second, .val (.int p5), .val (.int (0 : Int32)), .val (.int (1 : Int32)), .val (.ref b_22), .val (.ref b_33), .val (.ref b_42), .val (.int (1 : Int32)), .val (.ref b20)] []))
    refine GoW.st (fun t k => XS.aload X24.here hx rfl (hb hby at_138) rfl rfl (XS.iload X24.here hx rfl (hb hby at_140) rfl (XS.iconst X24.here hx rfl (hb hby at_142) (XS.iconst X24.here hx rfl (hb hby at_143) k)))) ?_
    show GoW p e below QQ (T24.setTop (mkF m 144 #[.val (.long q1), .second, .val (.long q2), .second, .val (.long q3), .second, .val (.long q4), .second, .val (.int p5), .val (.int (0 : Int32)), .val (.int (1 : Int32)), .val (.ref b_22), .val (.ref b_33), .val (.ref b_42), .val (.int (1 : Int32)), .val (.ref b20)] [(.int (3 : Int32)), (.int (2 : Int32)), (.int (1 : Int32)), (.ref b20)]))
    obtain ⟨_, _, ⟨T25, zL25, zk25, zn25⟩, -, X25, ⟨Lc25, hQ25, zl25, zy25, zz25⟩, st25⟩ := Jvm.LawKit.callS X24 hx (y := (⟨"com/example/hike/hike/HoldersMergePinLaw", "cx", "([JIII)V"⟩ : MethodName)) hown (mvT hZ (hw _ (List.mem_of_getElem? (i := 9) rfl))) (mvT hZ (hw _ (List.mem_of_getElem? (i := 10) rfl))) (mvT hZ (hw _ (List.mem_of_getElem? (i := 2) rfl))) (mvT hZ (hw _ (List.mem_of_getElem? (i := 11) rfl))) (by decide) (backOf (W := 0) (rm3_123 l Z a0 hw [] b20 h22 n0 (Nat.le_trans Z0 K22.1) ) hZ (hw _ (List.mem_of_getElem? (i := 11) rfl)) (hw _ (List.mem_of_getElem? (i := 2) rfl)) (by decide) (by decide)) (g := (mkF m 144 #[.val (.long q1), .second, .val (.long q2), .second, .val (.long q3), .second, .val (.long q4), .second, .val (.int p5), .val (.int (0 : Int32)), .val (.int (1 : Int32)), .val (.ref b_22), .val (.ref b_33), .val (.ref b_42), .val (.int (1 : Int32)), .val (.ref b20)] [(.int (3 : Int32)), (.int (2 : Int32)), (.int (1 : Int32)), (.ref b20)])) rfl (by rw [hml]; rfl) (argsL := [(.ref b20), (.int (1 : Int32)), (.int (2 : Int32)), (.int (3 : Int32))]) (rest := []) (lenOf pd_3 rfl) rfl (by show 2 * 0 + _ ≤ _; exact Nat.le_of_eq rfl) (hb hby at_144) (fun _ _ => ⟨rfl, hh24, (by decide : 4 + 0 ≤ _), (by decide : 6 + 0 ≤ _)⟩)
    dsimp only [Pt.U, Pt.locs, Pt.cells, Pt.slots] at X25 zl25 zy25 zz25 st25 hQ25
    subst zl25 zy25 zz25
    obtain ⟨rfl, Nq25, hh25⟩ := hQ25
    have N25 := Fr.app N24 Nq25
    refine GoW.st st25 ?_
    show GoW p e below QQ (T25.setTop (mkF m 147 #[.val (.long q1), .second, .val (.long q2), .second, .val (.long q3), .second, .val (.long q4), .second, .val (.int p5), .val (.int (0 : Int32)), .val (.int (1 : Int32)), .val (.ref b_22), .val (.ref b_33), .val (.ref b_42), .val (.int (1 : Int32)), .val (.ref b20)] []))
    refine GoW.st (fun t k => XS.aload X25.here hx rfl (hb hby at_147) rfl rfl (XS.iload X25.here hx rfl (hb hby at_149) rfl (XS.iconst X25.here hx rfl (hb hby at_151) (XS.iconst X25.here hx rfl (hb hby at_152) k)))) ?_
    show GoW p e below QQ (T25.setTop (mkF m 153 #[.val (.long q1), .second, .val (.long q2), .second, .val (.long q3), .second, .val (.long q4), .second, .val (.int p5), .val (.int (0 : Int32)), .val (.int (1 : Int32)), .val (.ref b_22), .val (.ref b_33), .val (.ref b_42), .val (.int (1 : Int32)), .val (.ref b20)] [(.int (2 : Int32)), (.int (0 : Int32)), (.int (1 : Int32)), (.ref b20)]))
    obtain ⟨_, _, ⟨T26, zL26, zk26, zn26⟩, -, X26, ⟨Lc26, hQ26, zl26, zy26, zz26⟩, st26⟩ := Jvm.LawKit.callS X25 hx (y := (⟨"com/example/hike/hike/HoldersMergePinLaw", "cx", "([JIII)V"⟩ : MethodName)) hown (mvT hZ (hw _ (List.mem_of_getElem? (i := 9) rfl))) (mvT hZ (hw _ (List.mem_of_getElem? (i := 10) rfl))) (mvT hZ (hw _ (List.mem_of_getElem? (i := 2) rfl))) (mvT hZ (hw _ (List.mem_of_getElem? (i := 11) rfl))) (by decide) (backOf (W := 0) (rm3_102 l Z a0 hw [] b20 h22 n0 (Nat.le_trans Z0 K22.1) ) hZ (hw _ (List.mem_of_getElem? (i := 11) rfl)) (hw _ (List.mem_of_getElem? (i := 2) rfl)) (by decide) (by decide)) (g := (mkF m 153 #[.val (.long q1), .second, .val (.long q2), .second, .val (.long q3), .second, .val (.long q4), .second, .val (.int p5), .val (.int (0 : Int32)), .val (.int (1 : Int32)), .val (.ref b_22), .val (.ref b_33), .val (.ref b_42), .val (.int (1 : Int32)), .val (.ref b20)] [(.int (2 : Int32)), (.int (0 : Int32)), (.int (1 : Int32)), (.ref b20)])) rfl (by rw [hml]; rfl) (argsL := [(.ref b20), (.int (1 : Int32)), (.int (0 : Int32)), (.int (2 : Int32))]) (rest := []) (lenOf pd_3 rfl) rfl (by show 2 * 0 + _ ≤ _; exact Nat.le_of_eq rfl) (hb hby at_153) (fun _ _ => ⟨rfl, hh25, (by decide : 4 + 0 ≤ _), (by decide : 6 + 0 ≤ _)⟩)
    dsimp only [Pt.U, Pt.locs, Pt.cells, Pt.slots] at X26 zl26 zy26 zz26 st26 hQ26
    subst zl26 zy26 zz26
    obtain ⟨rfl, Nq26, hh26⟩ := hQ26
    have N26 := Fr.app N25 Nq26
    refine GoW.st st26 ?_
    show GoW p e below QQ (T26.setTop (mkF m 156 #[.val (.long q1), .second, .val (.long q2), .second, .val (.long q3), .second, .val (.long q4), .second, .val (.int p5), .val (.int (0 : Int32)), .val (.int (1 : Int32)), .val (.ref b_22), .val (.ref b_33), .val (.ref b_42), .val (.int (1 : Int32)), .val (.ref b20)] []))
    refine GoW.st (fun t k => XS.aload X26.here hx rfl (hb hby at_156) rfl rfl (XS.iload X26.here hx rfl (hb hby at_158) rfl (XS.iconst X26.here hx rfl (hb hby at_160) (XS.iconst X26.here hx rfl (hb hby at_161) k)))) ?_
    show GoW p e below QQ (T26.setTop (mkF m 162 #[.val (.long q1), .second, .val (.long q2), .second, .val (.long q3), .second, .val (.long q4), .second, .val (.int p5), .val (.int (0 : Int32)), .val (.int (1 : Int32)), .val (.ref b_22), .val (.ref b_33), .val (.ref b_42), .val (.int (1 : Int32)), .val (.ref b20)] [(.int (3 : Int32)), (.int (1 : Int32)), (.int (1 : Int32)), (.ref b20)]))
    obtain ⟨_, _, ⟨T27, zL27, zk27, zn27⟩, -, X27, ⟨Lc27, hQ27, zl27, zy27, zz27⟩, st27⟩ := Jvm.LawKit.callS X26 hx (y := (⟨"com/example/hike/hike/HoldersMergePinLaw", "cx", "([JIII)V"⟩ : MethodName)) hown (mvT hZ (hw _ (List.mem_of_getElem? (i := 9) rfl))) (mvT hZ (hw _ (List.mem_of_getElem? (i := 10) rfl))) (mvT hZ (hw _ (List.mem_of_getElem? (i := 2) rfl))) (mvT hZ (hw _ (List.mem_of_getElem? (i := 11) rfl))) (by decide) (backOf (W := 0) (rm3_113 l Z a0 hw [] b20 h22 n0 (Nat.le_trans Z0 K22.1) ) hZ (hw _ (List.mem_of_getElem? (i := 11) rfl)) (hw _ (List.mem_of_getElem? (i := 2) rfl)) (by decide) (by decide)) (g := (mkF m 162 #[.val (.long q1), .second, .val (.long q2), .second, .val (.long q3), .second, .val (.long q4), .second, .val (.int p5), .val (.int (0 : Int32)), .val (.int (1 : Int32)), .val (.ref b_22), .val (.ref b_33), .val (.ref b_42), .val (.int (1 : Int32)), .val (.ref b20)] [(.int (3 : Int32)), (.int (1 : Int32)), (.int (1 : Int32)), (.ref b20)])) rfl (by rw [hml]; rfl) (argsL := [(.ref b20), (.int (1 : Int32)), (.int (1 : Int32)), (.int (3 : Int32))]) (rest := []) (lenOf pd_3 rfl) rfl (by show 2 * 0 + _ ≤ _; exact Nat.le_of_eq rfl) (hb hby at_162) (fun _ _ => ⟨rfl, hh26, (by decide : 4 + 0 ≤ _), (by decide : 6 + 0 ≤ _)⟩)
    dsimp only [Pt.U, Pt.locs, Pt.cells, Pt.slots] at X27 zl27 zy27 zz27 st27 hQ27
    subst zl27 zy27 zz27
    obtain ⟨rfl, Nq27, hh27⟩ := hQ27
    have N27 := Fr.app N26 Nq27
    refine GoW.st st27 ?_
    show GoW p e below QQ (T27.setTop (mkF m 165 #[.val (.long q1), .second, .val (.long q2), .second, .val (.long q3), .second, .val (.long q4), .second, .val (.int p5), .val (.int (0 : Int32)), .val (.int (1 : Int32)), .val (.ref b_22), .val (.ref b_33), .val (.ref b_42), .val (.int (1 : Int32)), .val (.ref b20)] []))
    refine GoW.st (fun t k => XS.aload X27.here hx rfl (hb hby at_165) rfl rfl (XS.iload X27.here hx rfl (hb hby at_167) rfl (XS.iconst X27.here hx rfl (hb hby at_169) (XS.iconst X27.here hx rfl (hb hby at_170) k)))) ?_
    show GoW p e below QQ (T27.setTop (mkF m 171 #[.val (.long q1), .second, .val (.long q2), .second, .val (.long q3), .second, .val (.long q4), .second, .val (.int p5), .val (.int (0 : Int32)), .val (.int (1 : Int32)), .val (.ref b_22), .val (.ref b_33), .val (.ref b_42), .val (.int (1 : Int32)), .val (.ref b20)] [(.int (2 : Int32)), (.int (1 : Int32)), (.int (1 : Int32)), (.ref b20)]))
    obtain ⟨_, _, ⟨T28, zL28, zk28, zn28⟩, -, X28, ⟨Lc28, hQ28, zl28, zy28, zz28⟩, st28⟩ := Jvm.LawKit.callS X27 hx (y := (⟨"com/example/hike/hike/HoldersMergePinLaw", "cx", "([JIII)V"⟩ : MethodName)) hown (mvT hZ (hw _ (List.mem_of_getElem? (i := 9) rfl))) (mvT hZ (hw _ (List.mem_of_getElem? (i := 10) rfl))) (mvT hZ (hw _ (List.mem_of_getElem? (i := 2) rfl))) (mvT hZ (hw _ (List.mem_of_getElem? (i := 11) rfl))) (by decide) (backOf (W := 0) (rm3_112 l Z a0 hw [] b20 h22 n0 (Nat.le_trans Z0 K22.1) ) hZ (hw _ (List.mem_of_getElem? (i := 11) rfl)) (hw _ (List.mem_of_getElem? (i := 2) rfl)) (by decide) (by decide)) (g := (mkF m 171 #[.val (.long q1), .second, .val (.long q2), .second, .val (.long q3), .second, .val (.long q4), .second, .val (.int p5), .val (.int (0 : Int32)), .val (.int (1 : Int32)), .val (.ref b_22), .val (.ref b_33), .val (.ref b_42), .val (.int (1 : Int32)), .val (.ref b20)] [(.int (2 : Int32)), (.int (1 : Int32)), (.int (1 : Int32)), (.ref b20)])) rfl (by rw [hml]; rfl) (argsL := [(.ref b20), (.int (1 : Int32)), (.int (1 : Int32)), (.int (2 : Int32))]) (rest := []) (lenOf pd_3 rfl) rfl (by show 2 * 0 + _ ≤ _; exact Nat.le_of_eq rfl) (hb hby at_171) (fun _ _ => ⟨rfl, hh27, (by decide : 4 + 0 ≤ _), (by decide : 6 + 0 ≤ _)⟩)
    dsimp only [Pt.U, Pt.locs, Pt.cells, Pt.slots] at X28 zl28 zy28 zz28 st28 hQ28
    subst zl28 zy28 zz28
    obtain ⟨rfl, Nq28, hh28⟩ := hQ28
    have N28 := Fr.app N27 Nq28
    refine GoW.st st28 ?_
    show GoW p e below QQ (T28.setTop (mkF m 174 #[.val (.long q1), .second, .val (.long q2), .second, .val (.long q3), .second, .val (.long q4), .second, .val (.int p5), .val (.int (0 : Int32)), .val (.int (1 : Int32)), .val (.ref b_22), .val (.ref b_33), .val (.ref b_42), .val (.int (1 : Int32)), .val (.ref b20)] []))
    refine GoW.st (fun t k => XS.iconst X28.here hx rfl (hb hby at_174) (XS.iload X28.here hx rfl (hb hby at_175) rfl k)) ?_
    show GoW p e below QQ (T28.setTop (mkF m 177 #[.val (.long q1), .second, .val (.long q2), .second, .val (.long q3), .second, .val (.long q4), .second, .val (.int p5), .val (.int (0 : Int32)), .val (.int (1 : Int32)), .val (.ref b_22), .val (.ref b_33), .val (.ref b_42), .val (.int (1 : Int32)), .val (.ref b20)] [(.int (1 : Int32)), (.int (0 : Int32))]))
    have hc177 : (0 : Int32) < (1 : Int32) := by decide
    refine GoW.st (fun t k => XS.icmpNo X28.here hx rfl (hb hby at_177) rfl (tlt hc177).2.1 (XS.aload X28.here hx rfl (hb hby at_180) rfl rfl (XS.iconst X28.here hx rfl (hb hby at_182) (ldVJ X28 hx hZ hh28 f23_V_b_42 (v := (.long w0_42)) ⟨by decide, by decide⟩ rfl (g := (mkF m 183 #[.val (.long q1), .second, .val (.long q2), .second, .val (.long q3), .second, .val (.long q4), .second, .val (.int p5), .val (.int (0 : Int32)), .val (.int (1 : Int32)), .val (.ref b_22), .val (.ref b_33), .val (.ref b_42), .val (.int (1 : Int32)), .val (.ref b20)] [(.int (0 : Int32)), (.ref b_42)])) rfl rfl (hb hby at_183) t (XS.aload X28.here hx rfl (hb hby at_184) rfl rfl (XS.iconst X28.here hx rfl (hb hby at_186) k)))))) ?_
    show GoW p e below QQ (T28.setTop (mkF m 187 #[.val (.long q1), .second, .val (.long q2), .second, .val (.long q3), .second, .val (.long q4), .second, .val (.int p5), .val (.int (0 : Int32)), .val (.int (1 : Int32)), .val (.ref b_22), .val (.ref b_33), .val (.ref b_42), .val (.int (1 : Int32)), .val (.ref b20)] [(.int (0 : Int32)), (.ref b20), (.long w0_42)]))
    refine GoW.st (fun t k => ldVJ X28 hx hZ hh28 f23_V_b20 (v := (.long q3)) ⟨by decide, by decide⟩ rfl (g := (mkF m 187 #[.val (.long q1), .second, .val (.long q2), .second, .val (.long q3), .second, .val (.long q4), .second, .val (.int p5), .val (.int (0 : Int32)), .val (.int (1 : Int32)), .val (.ref b_22), .val (.ref b_33), .val (.ref b_42), .val (.int (1 : Int32)), .val (.ref b20)] [(.int (0 : Int32)), (.ref b20), (.long w0_42)])) rfl rfl (hb hby at_187) t (XS.lcmp X28.here hx rfl (hb hby at_188) rfl k)) ?_
    show GoW p e below QQ (T28.setTop (mkF m 189 #[.val (.long q1), .second, .val (.long q2), .second, .val (.long q3), .second, .val (.long q4), .second, .val (.int p5), .val (.int (0 : Int32)), .val (.int (1 : Int32)), .val (.ref b_22), .val (.ref b_33), .val (.ref b_42), .val (.int (1 : Int32)), .val (.ref b20)] [(.int (lcmpW w0_42 q3))]))
    have hc189 : w0_42 = q3 := by
      apply Int64.toInt_inj.mp
      omega
    refine GoW.st (fun t k => XS.ifYes X28.here hx rfl (pc0 := 189) (pc' := 194) rfl (hb hby at_189) rfl ((if0 _ _).trans (teq ((lw_eq w0_42 q3).mpr hc189)).1) (by decide) (by decide) (XS.iconst X28.here hx rfl (hb hby at_194) (XS.iload X28.here hx rfl (hb hby at_195) rfl k))) ?_
    show GoW p e below QQ (T28.setTop (mkF m 197 #[.val (.long q1), .second, .val (.long q2), .second, .val (.long q3), .second, .val (.long q4), .second, .val (.int p5), .val (.int (0 : Int32)), .val (.int (1 : Int32)), .val (.ref b_22), .val (.ref b_33), .val (.ref b_42), .val (.int (1 : Int32)), .val (.ref b20)] [(.int (1 : Int32)), (.int (1 : Int32))]))
    have hc197 : ¬ ((1 : Int32) < (1 : Int32)) := by decide
    refine GoW.st (fun t k => XS.icmpYes X28.here hx rfl (pc0 := 197) (pc' := 214) rfl (hb hby at_197) rfl (flt hc197).2.1 (by decide) (by decide) (XS.iconst X28.here hx rfl (hb hby at_214) (XS.iload X28.here hx rfl (hb hby at_215) rfl k))) ?_
    show GoW p e below QQ (T28.setTop (mkF m 217 #[.val (.long q1), .second, .val (.long q2), .second, .val (.long q3), .second, .val (.long q4), .second, .val (.int p5), .val (.int (0 : Int32)), .val (.int (1 : Int32)), .val (.ref b_22), .val (.ref b_33), .val (.ref b_42), .val (.int (1 : Int32)), .val (.ref b20)] [(.int (1 : Int32)), (.int (2 : Int32))]))
    have hc217 : ¬ ((2 : Int32) < (1 : Int32)) := by decide
    refine GoW.st (fun t k => XS.icmpYes X28.here hx rfl (pc0 := 217) (pc' := 234) rfl (hb hby at_217) rfl (flt hc217).2.1 (by decide) (by decide) (XS.iconst X28.here hx rfl (hb hby at_234) (XS.iload X28.here hx rfl (hb hby at_235) rfl k))) ?_
    show GoW p e below QQ (T28.setTop (mkF m 237 #[.val (.long q1), .second, .val (.long q2), .second, .val (.long q3), .second, .val (.long q4), .second, .val (.int p5), .val (.int (0 : Int32)), .val (.int (1 : Int32)), .val (.ref b_22), .val (.ref b_33), .val (.ref b_42), .val (.int (1 : Int32)), .val (.ref b20)] [(.int (1 : Int32)), (.int (3 : Int32))]))
    have hc237 : ¬ ((3 : Int32) < (1 : Int32)) := by decide
    refine GoW.st (fun t k => XS.icmpYes X28.here hx rfl (pc0 := 237) (pc' := 254) rfl (hb hby at_237) rfl (flt hc237).2.1 (by decide) (by decide) (XS.iconst X28.here hx rfl (hb hby at_254) k)) ?_
    show GoW p e below QQ (T28.setTop (mkF m 255 #[.val (.long q1), .second, .val (.long q2), .second, .val (.long q3), .second, .val (.long q4), .second, .val (.int p5), .val (.int (0 : Int32)), .val (.int (1 : Int32)), .val (.ref b_22), .val (.ref b_33), .val (.ref b_42), .val (.int (1 : Int32)), .val (.ref b20)] [(.int (1 : Int32))]))
    exact GoW.fin X28 (some (.int (nar .boolean (1 : Int32)))) (fun q => by rw [hret] at q; cases q) hlk hQ hh28 ⟨rfl, N28⟩ (by decide) (by decide) (fun fs hr => retN X28 hx (t := .boolean) hret (by simp) (hb hby at_255) hr)
  · skip
    show GoW p e below QQ (T0.setTop (mkF m 18 #[.val (.long q1), .second, .val (.long q2), .second, .val (.long q3), .second, .val (.long q4), .second, .val (.int p5), .val (.int (0 : Int32)), .val (.int (2 : Int32)), .unset, .unset, .unset, .unset, .unset] []))
    refine GoW.st (fun t k => XS.iload X0.here hx rfl (hb hby at_18) rfl (XS.lloadN X0.here hx rfl (hb hby at_20) rfl (XS.lloadN X0.here hx rfl (hb hby at_21) rfl k))) ?_
    show GoW p e below QQ (T0.setTop (mkF m 22 #[.val (.long q1), .second, .val (.long q2), .second, .val (.long q3), .second, .val (.long q4), .second, .val (.int p5), .val (.int (0 : Int32)), .val (.int (2 : Int32)), .unset, .unset, .unset, .unset, .unset] [(.long q2), (.long q1), (.int (0 : Int32))]))
    obtain ⟨_, _, ⟨T29, zL29, zk29, zn29⟩, -, X29, ⟨Lc29, hQ29, zl29, zy29, zz29⟩, st29⟩ := Jvm.LawKit.callS X0 hx (y := (⟨"com/example/hike/hike/HoldersMergePinLaw", "make", "(IJJ)[J"⟩ : MethodName)) hown (mvT hZ (hw _ (List.mem_of_getElem? (i := 0) rfl))) (mvT hZ (hw _ (List.mem_of_getElem? (i := 1) rfl))) (mvT hZ (hw _ (List.mem_of_getElem? (i := 2) rfl))) (mvT hZ (hw _ (List.mem_of_getElem? (i := 3) rfl))) (by decide) (backOf (W := 0) (rm1_0 l Z a0 hw [] q1 q2 h0 n0 (Nat.le_trans Z0 K0.1) ) hZ (hw _ (List.mem_of_getElem? (i := 3) rfl)) (hw _ (List.mem_of_getElem? (i := 2) rfl)) (by decide) (by decide)) (g := (mkF m 22 #[.val (.long q1), .second, .val (.long q2), .second, .val (.long q3), .second, .val (.long q4), .second, .val (.int p5), .val (.int (0 : Int32)), .val (.int (2 : Int32)), .unset, .unset, .unset, .unset, .unset] [(.long q2), (.long q1), (.int (0 : Int32))])) rfl (by rw [hml]; rfl) (argsL := [(.int (0 : Int32)), (.long q1), (.long q2)]) (rest := []) (lenOf pd_1 rfl) rfl (by show 2 * 0 + _ ≤ _; exact Nat.le_of_eq rfl) (hb hby at_22) (fun _ _ => ⟨rfl, e0, (by decide : 0 + 1 ≤ _), (by decide : 0 + 0 ≤ _)⟩)
    dsimp only [Pt.U, Pt.locs, Pt.cells, Pt.slots] at X29 zl29 zy29 zz29 st29 hQ29
    subst zl29 zy29 zz29
    obtain ⟨b_22, kb_22, rfl, Nq29, Kq29, p29_0, p29_1⟩ := hQ29
    have N29 := Fr.app N0 Nq29
    refine GoW.st st29 ?_
    have sz29_b_22 : h0.size ≤ b_22 := Nat.le_trans K0.1 p29_0
    have gg29_b_22 : n0 ≤ b_22 := Nat.le_trans Z0 sz29_b_22
    have K29 : Keep h0 T29.heap [] := K0.trans Kq29 all0
    show GoW p e below QQ (T29.setTop (mkF m 25 #[.val (.long q1), .second, .val (.long q2), .second, .val (.long q3), .second, .val (.long q4), .second, .val (.int p5), .val (.int (0 : Int32)), .val (.int (2 : Int32)), .unset, .unset, .unset, .unset, .unset] [(.ref b_22)]))
    refine GoW.st (fun t k => XS.astore X29.here hx rfl (hb hby at_25) rfl rfl (l' := #[.val (.long q1), .second, .val (.long q2), .second, .val (.long q3), .second, .val (.long q4), .second, .val (.int p5), .val (.int (0 : Int32)), .val (.int (2 : Int32)), .val (.ref b_22), .unset, .unset, .unset, .unset]) rfl (XS.iload X29.here hx rfl (hb hby at_27) rfl (XS.lload X29.here hx rfl (hb hby at_29) rfl (XS.lload X29.here hx rfl (hb hby at_31) rfl k)))) ?_
    show GoW p e below QQ (T29.setTop (mkF m 33 #[.val (.long q1), .second, .val (.long q2), .second, .val (.long q3), .second, .val (.long q4), .second, .val (.int p5), .val (.int (0 : Int32)), .val (.int (2 : Int32)), .val (.ref b_22), .unset, .unset, .unset, .unset] [(.long q4), (.long q3), (.int (2 : Int32))]))
    obtain ⟨_, _, ⟨T31, zL31, zk31, zn31⟩, -, X31, ⟨Lc31, hQ31, zl31, zy31, zz31⟩, st31⟩ := Jvm.LawKit.callS X29 hx (y := (⟨"com/example/hike/hike/HoldersMergePinLaw", "make", "(IJJ)[J"⟩ : MethodName)) hown (mvT hZ (hw _ (List.mem_of_getElem? (i := 0) rfl))) (mvT hZ (hw _ (List.mem_of_getElem? (i := 1) rfl))) (mvT hZ (hw _ (List.mem_of_getElem? (i := 2) rfl))) (mvT hZ (hw _ (List.mem_of_getElem? (i := 3) rfl))) (by decide) (backOf (W := 0) (rm1_2 l Z a0 hw [] q3 q4 T29.heap n0 (Nat.le_trans Z0 K29.1) ) hZ (hw _ (List.mem_of_getElem? (i := 3) rfl)) (hw _ (List.mem_of_getElem? (i := 2) rfl)) (by decide) (by decide)) (g := (mkF m 33 #[.val (.long q1), .second, .val (.long q2), .second, .val (.long q3), .second, .val (.long q4), .second, .val (.int p5), .val (.int (0 : Int32)), .val (.int (2 : Int32)), .val (.ref b_22), .unset, .unset, .unset, .unset] [(.long q4), (.long q3), (.int (2 : Int32))])) rfl (by rw [hml]; rfl) (argsL := [(.int (2 : Int32)), (.long q3), (.long q4)]) (rest := []) (lenOf pd_1 rfl) rfl (by show 2 * 0 + _ ≤ _; exact Nat.le_of_eq rfl) (hb hby at_33) (fun _ _ => ⟨rfl, rfl, (by decide : 1 + 1 ≤ _), (by decide : 0 + 2 ≤ _)⟩)
    dsimp only [Pt.U, Pt.locs, Pt.cells, Pt.slots] at X31 zl31 zy31 zz31 st31 hQ31
    subst zl31 zy31 zz31
    obtain ⟨b_33, kb_33, rfl, Nq31, Kq31, p31_0, p31_1⟩ := hQ31
    have N31 := Fr.app N29 Nq31
    refine GoW.st st31 ?_
    have ne31_b_22_b_33 : b_22 ≠ b_33 := Nat.ne_of_lt (Nat.lt_of_lt_of_le p29_1.lt p31_0)
    have sz31_b_33 : h0.size ≤ b_33 := Nat.le_trans K29.1 p31_0
    have gg31_b_33 : n0 ≤ b_33 := Nat.le_trans Z0 sz31_b_33
    have f32_V_b_22 : Arv Z T31.heap b_22 kb_22 .long (0 : Int32) [] (.long (0 : Int64)) := p29_1.keep Kq31 nin0
    have K31 : Keep h0 T31.heap [] := K29.trans Kq31 all0
    show GoW p e below QQ (T31.setTop (mkF m 36 #[.val (.long q1), .second, .val (.long q2), .second, .val (.long q3), .second, .val (.long q4), .second, .val (.int p5), .val (.int (0 : Int32)), .val (.int (2 : Int32)), .val (.ref b_22), .unset, .unset, .unset, .unset] [(.ref b_33)]))
    refine GoW.st (fun t k => XS.astore X31.here hx rfl (hb hby at_36) rfl rfl (l' := #[.val (.long q1), .second, .val (.long q2), .second, .val (.long q3), .second, .val (.long q4), .second, .val (.int p5), .val (.int (0 : Int32)), .val (.int (2 : Int32)), .val (.ref b_22), .val (.ref b_33), .unset, .unset, .unset]) rfl (XS.aload X31.here hx rfl (hb hby at_38) rfl rfl (XS.aload X31.here hx rfl (hb hby at_40) rfl rfl k))) ?_
    show GoW p e below QQ (T31.setTop (mkF m 42 #[.val (.long q1), .second, .val (.long q2), .second, .val (.long q3), .second, .val (.long q4), .second, .val (.int p5), .val (.int (0 : Int32)), .val (.int (2 : Int32)), .val (.ref b_22), .val (.ref b_33), .unset, .unset, .unset] [(.ref b_33), (.ref b_22)]))
    obtain ⟨_, _, ⟨T33, zL33, zk33, zn33⟩, -, X33, ⟨Lc33, hQ33, zl33, zy33, zz33⟩, st33⟩ := Jvm.LawKit.callS X31 hx (y := (⟨"com/example/hike/hike/Holders", "merge", "([J[J)[J"⟩ : MethodName)) hown (mvT hZ (hw _ (List.mem_of_getElem? (i := 5) rfl))) (mvT hZ (hw _ (List.mem_of_getElem? (i := 6) rfl))) (mvT hZ (hw _ (List.mem_of_getElem? (i := 7) rfl))) (mvT hZ (hw _ (List.mem_of_getElem? (i := 8) rfl))) (by decide) (backOf (W := 0) (rm2_02 l Z a0 hw [] b_22 b_33 kb_22 kb_33 (own_minL q3 q4) (own_maxL q3 q4) T31.heap n0 (Nat.le_trans Z0 K31.1) f32_V_b_22 p31_1 (own_mm _ _)) hZ (hw _ (List.mem_of_getElem? (i := 8) rfl)) (hw _ (List.mem_of_getElem? (i := 7) rfl)) (by decide) (by decide)) (g := (mkF m 42 #[.val (.long q1), .second, .val (.long q2), .second, .val (.long q3), .second, .val (.long q4), .second, .val (.int p5), .val (.int (0 : Int32)), .val (.int (2 : Int32)), .val (.ref b_22), .val (.ref b_33), .unset, .unset, .unset] [(.ref b_33), (.ref b_22)])) rfl (by rw [hml]; rfl) (argsL := [(.ref b_22), (.ref b_33)]) (rest := []) (lenOf pd_2 rfl) rfl (by show 2 * 0 + _ ≤ _; exact Nat.le_of_eq rfl) (hb hby at_42) (fun _ _ => ⟨rfl, rfl, (by decide : 2 + 1 ≤ _), (by decide : 2 + 2 ≤ _)⟩)
    dsimp only [Pt.U, Pt.locs, Pt.cells, Pt.slots] at X33 zl33 zy33 zz33 st33 hQ33
    subst zl33 zy33 zz33
    obtain ⟨b_42, kb_42, w0_42, w1_42, rfl, Nq33, Kq33, p33_0, p33_1, p33_2⟩ := hQ33
    have N33 := Fr.app N31 Nq33
    refine GoW.st st33 ?_
    have ne33_b_22_b_42 : b_22 ≠ b_42 := Nat.ne_of_lt (Nat.lt_of_lt_of_le f32_V_b_22.lt p33_0)
    have ne33_b_33_b_42 : b_33 ≠ b_42 := Nat.ne_of_lt (Nat.lt_of_lt_of_le p31_1.lt p33_0)
    have sz33_b_42 : h0.size ≤ b_42 := Nat.le_trans K31.1 p33_0
    have gg33_b_42 : n0 ≤ b_42 := Nat.le_trans Z0 sz33_b_42
    have f34_V_b_22 : Arv Z T33.heap b_22 kb_22 .long (0 : Int32) [] (.long (0 : Int64)) := f32_V_b_22.keep Kq33 nin0
    have f34_V_b_33 : Arv Z T33.heap b_33 kb_33 .long (2 : Int32) [(.long (own_minL q3 q4)), (.long (own_maxL q3 q4))] (.long (0 : Int64)) := p31_1.keep Kq33 nin0
    have K33 : Keep h0 T33.heap [] := K31.trans Kq33 all0
    have hw_42 := p33_2
    show GoW p e below QQ (T33.setTop (mkF m 45 #[.val (.long q1), .second, .val (.long q2), .second, .val (.long q3), .second, .val (.long q4), .second, .val (.int p5), .val (.int (0 : Int32)), .val (.int (2 : Int32)), .val (.ref b_22), .val (.ref b_33), .unset, .unset, .unset] [(.ref b_42)]))
    refine GoW.st (fun t k => XS.astore X33.here hx rfl (hb hby at_45) rfl rfl (l' := #[.val (.long q1), .second, .val (.long q2), .second, .val (.long q3), .second, .val (.long q4), .second, .val (.int p5), .val (.int (0 : Int32)), .val (.int (2 : Int32)), .val (.ref b_22), .val (.ref b_33), .val (.ref b_42), .unset, .unset]) rfl (XS.iload X33.here hx rfl (hb hby at_47) rfl (XS.iload X33.here hx rfl (hb hby at_49) rfl (XS.iadd X33.here hx rfl (hb hby at_51) rfl (XS.istore X33.here hx rfl (hb hby at_52) rfl (l' := #[.val (.long q1), .second, .val (.long q2), .second, .val (.long q3), .second, .val (.long q4), .second, .val (.int p5), .val (.int (0 : Int32)), .val (.int (2 : Int32)), .val (.ref b_22), .val (.ref b_33), .val (.ref b_42), .val (.int (2 : Int32)), .unset]) rfl (XS.aload X33.here hx rfl (hb hby at_54) rfl rfl k)))))) ?_
    show GoW p e below QQ (T33.setTop (mkF m 56 #[.val (.long q1), .second, .val (.long q2), .second, .val (.long q3), .second, .val (.long q4), .second, .val (.int p5), .val (.int (0 : Int32)), .val (.int (2 : Int32)), .val (.ref b_22), .val (.ref b_33), .val (.ref b_42), .val (.int (2 : Int32)), .unset] [(.ref b_42)]))
    refine GoW.st (fun t k => lnV X33 hx hZ rfl p33_1 (g := (mkF m 56 #[.val (.long q1), .second, .val (.long q2), .second, .val (.long q3), .second, .val (.long q4), .second, .val (.int p5), .val (.int (0 : Int32)), .val (.int (2 : Int32)), .val (.ref b_22), .val (.ref b_33), .val (.ref b_42), .val (.int (2 : Int32)), .unset] [(.ref b_42)])) rfl rfl (hb hby at_56) t (XS.iload X33.here hx rfl (hb hby at_57) rfl k)) ?_
    show GoW p e below QQ (T33.setTop (mkF m 59 #[.val (.long q1), .second, .val (.long q2), .second, .val (.long q3), .second, .val (.long q4), .second, .val (.int p5), .val (.int (0 : Int32)), .val (.int (2 : Int32)), .val (.ref b_22), .val (.ref b_33), .val (.ref b_42), .val (.int (2 : Int32)), .unset] [(.int (2 : Int32)), (.int (2 : Int32))]))
    have hc59 : (2 : Int32) = (2 : Int32) := by decide
    refine GoW.st (fun t k => XS.icmpYes X33.here hx rfl (pc0 := 59) (pc' := 64) rfl (hb hby at_59) rfl (teq hc59).1 (by decide) (by decide) (XS.iconst X33.here hx rfl (hb hby at_64) k)) ?_
    show GoW p e below QQ (T33.setTop (mkF m 65 #[.val (.long q1), .second, .val (.long q2), .second, .val (.long q3), .second, .val (.long q4), .second, .val (.int p5), .val (.int (0 : Int32)), .val (.int (2 : Int32)), .val (.ref b_22), .val (.ref b_33), .val (.ref b_42), .val (.int (2 : Int32)), .unset] [(.int (4 : Int32))]))
    obtain ⟨T35, h35, k35, X35, e35, E35, A35, st35⟩ := newP X33 hx hZ (hw _ (List.mem_of_getElem? (i := 4) rfl)) rfl (g := (mkF m 65 #[.val (.long q1), .second, .val (.long q2), .second, .val (.long q3), .second, .val (.long q4), .second, .val (.int p5), .val (.int (0 : Int32)), .val (.int (2 : Int32)), .val (.ref b_22), .val (.ref b_33), .val (.ref b_42), .val (.int (2 : Int32)), .unset] [(.int (4 : Int32))])) rfl (hb hby at_65) rfl (by decide) (cap := 4) (by decide) (by decide) (by decide) (by decide)
    obtain ⟨b35, g35⟩ : ∃ z, z = T33.heap.size := ⟨_, rfl⟩
    rw [← g35] at A35 st35
    refine GoW.st st35 ?_
    have gg35 : n0 ≤ b35 := Nat.le_trans (Nat.le_trans Z0 K33.1) (Nat.le_of_eq g35.symm)
    have sz35 : h0.size ≤ b35 := Nat.le_trans K33.1 (Nat.le_of_eq g35.symm)
    have ne35_b_22 : b_22 ≠ b35 := Nat.ne_of_lt (Nat.lt_of_lt_of_le f34_V_b_22.lt (Nat.le_of_eq g35.symm))
    have ne35_b_33 : b_33 ≠ b35 := Nat.ne_of_lt (Nat.lt_of_lt_of_le f34_V_b_33.lt (Nat.le_of_eq g35.symm))
    have ne35_b_42 : b_42 ≠ b35 := Nat.ne_of_lt (Nat.lt_of_lt_of_le p33_1.lt (Nat.le_of_eq g35.symm))
    have f36_V_b_22 : Arv Z h35 b_22 kb_22 .long (0 : Int32) [] (.long (0 : Int64)) := f34_V_b_22.ext E35
    have f36_V_b_33 : Arv Z h35 b_33 kb_33 .long (2 : Int32) [(.long (own_minL q3 q4)), (.long (own_maxL q3 q4))] (.long (0 : Int64)) := f34_V_b_33.ext E35
    have f36_V_b_42 : Arv Z h35 b_42 kb_42 .long (2 : Int32) [(.long w0_42), (.long w1_42)] (.long (0 : Int64)) := p33_1.ext E35
    have K35 : Keep h0 h35 [] := K33.ext E35
    have V35 : Arv Z h35 b35 k35 .long (4 : Int32) [(.long (0 : Int64)), (.long (0 : Int64)), (.long (0 : Int64)), (.long (0 : Int64))] (.long (0 : Int64)) := (Arv.new A35 (by decide)).pad (pad_rep [] (.long (0 : Int64)) 4)
    show GoW p e below QQ (T35.setTop (mkF m 67 #[.val (.long q1), .second, .val (.long q2), .second, .val (.long q3), .second, .val (.long q4), .second, .val (.int p5), .val (.int (0 : Int32)), .val (.int (2 : Int32)), .val (.ref b_22), .val (.ref b_33), .val (.ref b_42), .val (.int (2 : Int32)), .unset] [(.ref b35)]))
    refine GoW.st (fun t k => XS.astore X35.here hx rfl (hb hby at_67) rfl rfl (l' := #[.val (.long q1), .second, .val (.long q2), .second, .val (.long q3), .second, .val (.long q4), .second, .val (.int p5), .val (.int (0 : Int32)), .val (.int (2 : Int32)), .val (.ref b_22), .val (.ref b_33), .val (.ref b_42), .val (.int (2 : Int32)), .val (.ref b35)]) rfl (XS.iload X35.here hx rfl (hb hby at_69) rfl (XS.iconst X35.here hx rfl (hb hby at_71) k))) ?_
    show GoW p e below QQ (T35.setTop (mkF m 72 #[.val (.long q1), .second, .val (.long q2), .second, .val (.long q3), .second, .val (.long q4), .second, .val (.int p5), .val (.int (0 : Int32)), .val (.int (2 : Int32)), .val (.ref b_22), .val (.ref b_33), .val (.ref b_42), .val (.int (2 : Int32)), .val (.ref b35)] [(.int (1 : Int32)), (.int (0 : Int32))]))
    have hc72 : (0 : Int32) < (1 : Int32) := by decide
    refine GoW.st (fun t k => XS.icmpYes X35.here hx rfl (pc0 := 72) (pc' := 83) rfl (hb hby at_72) rfl (tlt hc72).1 (by decide) (by decide) (XS.iload X35.here hx rfl (hb hby at_83) rfl (XS.iconst X35.here hx rfl (hb hby at_85) k))) ?_
    show GoW p e below QQ (T35.setTop (mkF m 86 #[.val (.long q1), .second, .val (.long q2), .second, .val (.long q3), .second, .val (.long q4), .second, .val (.int p5), .val (.int (0 : Int32)), .val (.int (2 : Int32)), .val (.ref b_22), .val (.ref b_33), .val (.ref b_42), .val (.int (2 : Int32)), .val (.ref b35)] [(.int (2 : Int32)), (.int (0 : Int32))]))
    have hc86 : ¬ ((0 : Int32) = (2 : Int32)) := by decide
    refine GoW.st (fun t k => XS.icmpYes X35.here hx rfl (pc0 := 86) (pc' := 97) rfl (hb hby at_86) rfl (feq hc86).2 (by decide) (by decide) (XS.iload X35.here hx rfl (hb hby at_97) rfl (XS.iconst X35.here hx rfl (hb hby at_99) k))) ?_
    show GoW p e below QQ (T35.setTop (mkF m 100 #[.val (.long q1), .second, .val (.long q2), .second, .val (.long q3), .second, .val (.long q4), .second, .val (.int p5), .val (.int (0 : Int32)), .val (.int (2 : Int32)), .val (.ref b_22), .val (.ref b_33), .val (.ref b_42), .val (.int (2 : Int32)), .val (.ref b35)] [(.int (1 : Int32)), (.int (2 : Int32))]))
    have hc100 : ¬ ((2 : Int32) < (1 : Int32)) := by decide
    refine GoW.st (fun t k => XS.icmpNo X35.here hx rfl (hb hby at_100) rfl (flt hc100).1 (XS.aload X35.here hx rfl (hb hby at_103) rfl rfl (XS.iload X35.here hx rfl (hb hby at_105) rfl (XS.aload X35.here hx rfl (hb hby at_107) rfl rfl (XS.iconst X35.here hx rfl (hb hby at_109) (ldVJ X35 hx hZ e35 f36_V_b_33 (v := (.long (own_minL q3 q4))) ⟨by decide, by decide⟩ rfl (g := (mkF m 110 #[.val (.long q1), .second, .val (.long q2), .second, .val (.long q3), .second, .val (.long q4), .second, .val (.int p5), .val (.int (0 : Int32)), .val (.int (2 : Int32)), .val (.ref b_22), .val (.ref b_33), .val (.ref b_42), .val (.int (2 : Int32)), .val (.ref b35)] [(.int (0 : Int32)), (.ref b_33), (.int (0 : Int32)), (.ref b35)])) rfl rfl (hb hby at_110) t k)))))) ?_
    show GoW p e below QQ (T35.setTop (mkF m 111 #[.val (.long q1), .second, .val (.long q2), .second, .val (.long q3), .second, .val (.long q4), .second, .val (.int p5), .val (.int (0 : Int32)), .val (.int (2 : Int32)), .val (.ref b_22), .val (.ref b_33), .val (.ref b_42), .val (.int (2 : Int32)), .val (.ref b35)] [(.long (own_minL q3 q4)), (.int (0 : Int32)), (.ref b35)]))
    obtain ⟨T37, h37, X37, e37, W37, V37, st37⟩ := stVJ X35 hx hZ e35 V35 ⟨by decide, by decide⟩ 0 rfl (Nat.le_of_ble_eq_true rfl) (g := (mkF m 111 #[.val (.long q1), .second, .val (.long q2), .second, .val (.long q3), .second, .val (.long q4), .second, .val (.int p5), .val (.int (0 : Int32)), .val (.int (2 : Int32)), .val (.ref b_22), .val (.ref b_33), .val (.ref b_42), .val (.int (2 : Int32)), .val (.ref b35)] [(.long (own_minL q3 q4)), (.int (0 : Int32)), (.ref b35)])) rfl rfl (hb hby at_111)
    refine GoW.st st37 ?_
    have f38_V_b_22 : Arv Z h37 b_22 kb_22 .long (0 : Int32) [] (.long (0 : Int64)) := f36_V_b_22.other W37 ne35_b_22
    have f38_V_b_33 : Arv Z h37 b_33 kb_33 .long (2 : Int32) [(.long (own_minL q3 q4)), (.long (own_maxL q3 q4))] (.long (0 : Int64)) := f36_V_b_33.other W37 ne35_b_33
    have f38_V_b_42 : Arv Z h37 b_42 kb_42 .long (2 : Int32) [(.long w0_42), (.long w1_42)] (.long (0 : Int64)) := f36_V_b_42.other W37 ne35_b_42
    have f38_V_b35 : Arv Z h37 b35 k35 .long (4 : Int32) [(.long (own_minL q3 q4)), (.long (0 : Int64)), (.long (0 : Int64)), (.long (0 : Int64))] (.long (0 : Int64)) := V37
    have K37 : Keep h0 h37 [] := K35.wr W37 (Or.inr sz35)
    have N37 := Fr.snoc X37 N33 gg35
    show GoW p e below QQ (T37.setTop (mkF m 112 #[.val (.long q1), .second, .val (.long q2), .second, .val (.long q3), .second, .val (.long q4), .second, .val (.int p5), .val (.int (0 : Int32)), .val (.int (2 : Int32)), .val (.ref b_22), .val (.ref b_33), .val (.ref b_42), .val (.int (2 : Int32)), .val (.ref b35)] []))
    refine GoW.st (fun t k => XS.iload X37.here hx rfl (hb hby at_112) rfl (XS.iconst X37.here hx rfl (hb hby at_114) k)) ?_
    show GoW p e below QQ (T37.setTop (mkF m 115 #[.val (.long q1), .second, .val (.long q2), .second, .val (.long q3), .second, .val (.long q4), .second, .val (.int p5), .val (.int (0 : Int32)), .val (.int (2 : Int32)), .val (.ref b_22), .val (.ref b_33), .val (.ref b_42), .val (.int (2 : Int32)), .val (.ref b35)] [(.int (2 : Int32)), (.int (2 : Int32))]))
    have hc115 : (2 : Int32) = (2 : Int32) := by decide
    refine GoW.st (fun t k => XS.icmpNo X37.here hx rfl (hb hby at_115) rfl (teq hc115).2 (XS.aload X37.here hx rfl (hb hby at_118) rfl rfl (XS.iload X37.here hx rfl (hb hby at_120) rfl (XS.iconst X37.here hx rfl (hb hby at_122) (XS.iadd X37.here hx rfl (hb hby at_123) rfl (XS.aload X37.here hx rfl (hb hby at_124) rfl rfl k)))))) ?_
    show GoW p e below QQ (T37.setTop (mkF m 126 #[.val (.long q1), .second, .val (.long q2), .second, .val (.long q3), .second, .val (.long q4), .second, .val (.int p5), .val (.int (0 : Int32)), .val (.int (2 : Int32)), .val (.ref b_22), .val (.ref b_33), .val (.ref b_42), .val (.int (2 : Int32)), .val (.ref b35)] [(.ref b_33), (.int (1 : Int32)), (.ref b35)]))
    refine GoW.st (fun t k => XS.iconst X37.here hx rfl (hb hby at_126) (ldVJ X37 hx hZ e37 f38_V_b_33 (v := (.long (own_maxL q3 q4))) ⟨by decide, by decide⟩ rfl (g := (mkF m 127 #[.val (.long q1), .second, .val (.long q2), .second, .val (.long q3), .second, .val (.long q4), .second, .val (.int p5), .val (.int (0 : Int32)), .val (.int (2 : Int32)), .val (.ref b_22), .val (.ref b_33), .val (.ref b_42), .val (.int (2 : Int32)), .val (.ref b35)] [(.int (1 : Int32)), (.ref b_33), (.int (1 : Int32)), (.ref b35)])) rfl rfl (hb hby at_127) t k)) ?_
    show GoW p e below QQ (T37.setTop (mkF m 128 #[.val (.long q1), .second, .val (.long q2), .second, .val (.long q3), .second, .val (.long q4), .second, .val (.int p5), .val (.int (0 : Int32)), .val (.int (2 : Int32)), .val (.ref b_22), .val (.ref b_33), .val (.ref b_42), .val (.int (2 : Int32)), .val (.ref b35)] [(.long (own_maxL q3 q4)), (.int (1 : Int32)), (.ref b35)]))
    obtain ⟨T39, h39, X39, e39, W39, V39, st39⟩ := stVJ X37 hx hZ e37 f38_V_b35 ⟨by decide, by decide⟩ 1 rfl (Nat.le_of_ble_eq_true rfl) (g := (mkF m 128 #[.val (.long q1), .second, .val (.long q2), .second, .val (.long q3), .second, .val (.long q4), .second, .val (.int p5), .val (.int (0 : Int32)), .val (.int (2 : Int32)), .val (.ref b_22), .val (.ref b_33), .val (.ref b_42), .val (.int (2 : Int32)), .val (.ref b35)] [(.long (own_maxL q3 q4)), (.int (1 : Int32)), (.ref b35)])) rfl rfl (hb hby at_128)
    refine GoW.st st39 ?_
    have f40_V_b_22 : Arv Z h39 b_22 kb_22 .long (0 : Int32) [] (.long (0 : Int64)) := f38_V_b_22.other W39 ne35_b_22
    have f40_V_b_33 : Arv Z h39 b_33 kb_33 .long (2 : Int32) [(.long (own_minL q3 q4)), (.long (own_maxL q3 q4))] (.long (0 : Int64)) := f38_V_b_33.other W39 ne35_b_33
    have f40_V_b_42 : Arv Z h39 b_42 kb_42 .long (2 : Int32) [(.long w0_42), (.long w1_42)] (.long (0 : Int64)) := f38_V_b_42.other W39 ne35_b_42
    have f40_V_b35 : Arv Z h39 b35 k35 .long (4 : Int32) [(.long (own_minL q3 q4)), (.long (own_maxL q3 q4)), (.long (0 : Int64)), (.long (0 : Int64))] (.long (0 : Int64)) := V39
    have K39 : Keep h0 h39 [] := K37.wr W39 (Or.inr sz35)
    have N39 := Fr.snoc X39 N37 gg35
    show GoW p e below QQ (T39.setTop (mkF m 129 #[.val (.long q1), .second, .val (.long q2), .second, .val (.long q3), .second, .val (.long q4), .second, .val (.int p5), .val (.int (0 : Int32)), .val (.int (2 : Int32)), .val (.ref b_22), .val (.ref b_33), .val (.ref b_42), .val (.int (2 : Int32)), .val (.ref b35)] []))
    have so2 := own_mm q3 q4
    refine GoW.st (fun t k => XS.aload X39.here hx rfl (hb hby at_129) rfl rfl (XS.iload X39.here hx rfl (hb hby at_131) rfl (XS.iconst X39.here hx rfl (hb hby at_133) (XS.iconst X39.here hx rfl (hb hby at_134) k)))) ?_
    show GoW p e below QQ (T39.setTop (mkF m 135 #[.val (.long q1), .second, .val (.long q2), .second, .val (.long q3), .second, .val (.long q4), .second, .val (.int p5), .val (.int (0 : Int32)), .val (.int (2 : Int32)), .val (.ref b_22), .val (.ref b_33), .val (.ref b_42), .val (.int (2 : Int32)), .val (.ref b35)] [(.int (1 : Int32)), (.int (0 : Int32)), (.int (2 : Int32)), (.ref b35)]))
    obtain ⟨_, _, ⟨T41, zL41, zk41, zn41⟩, -, X41, ⟨Lc41, hQ41, zl41, zy41, zz41⟩, st41⟩ := Jvm.LawKit.callS X39 hx (y := (⟨"com/example/hike/hike/HoldersMergePinLaw", "cx", "([JIII)V"⟩ : MethodName)) hown (mvT hZ (hw _ (List.mem_of_getElem? (i := 9) rfl))) (mvT hZ (hw _ (List.mem_of_getElem? (i := 10) rfl))) (mvT hZ (hw _ (List.mem_of_getElem? (i := 2) rfl))) (mvT hZ (hw _ (List.mem_of_getElem? (i := 11) rfl))) (by decide) (backOf (W := 0) (rm3_201 l Z a0 hw [] b35 k35 (own_minL q3 q4) (own_maxL q3 q4) (0 : Int64) (0 : Int64) h39 n0 (Nat.le_trans Z0 K39.1) f40_V_b35 gg35) hZ (hw _ (List.mem_of_getElem? (i := 11) rfl)) (hw _ (List.mem_of_getElem? (i := 2) rfl)) (by decide) (by decide)) (g := (mkF m 135 #[.val (.long q1), .second, .val (.long q2), .second, .val (.long q3), .second, .val (.long q4), .second, .val (.int p5), .val (.int (0 : Int32)), .val (.int (2 : Int32)), .val (.ref b_22), .val (.ref b_33), .val (.ref b_42), .val (.int (2 : Int32)), .val (.ref b35)] [(.int (1 : Int32)), (.int (0 : Int32)), (.int (2 : Int32)), (.ref b35)])) rfl (by rw [hml]; rfl) (argsL := [(.ref b35), (.int (2 : Int32)), (.int (0 : Int32)), (.int (1 : Int32))]) (rest := []) (lenOf pd_3 rfl) rfl (by show 2 * 0 + _ ≤ _; exact Nat.le_of_eq rfl) (hb hby at_135) (fun _ _ => ⟨rfl, e39, (by decide : 4 + 0 ≤ _), (by decide : 8 + 0 ≤ _)⟩)
    dsimp only [Pt.U, Pt.locs, Pt.cells, Pt.slots] at X41 zl41 zy41 zz41 st41 hQ41
    subst zl41 zy41 zz41
    obtain ⟨wa_135, wb_135, rfl, Nq41, Kq41, p41_0, p41_1⟩ := hQ41
    have N41 := Fr.app N39 Nq41
    refine GoW.st st41 ?_
    have f42_V_b_42 : Arv Z T41.heap b_42 kb_42 .long (2 : Int32) [(.long w0_42), (.long w1_42)] (.long (0 : Int64)) := f40_V_b_42.keep Kq41 (ninS ne35_b_42 nin0)
    have K41 : Keep h0 T41.heap [] := K39.trans Kq41 (allS (Or.inr sz35) all0)
    have hs_135 := p41_1
    show GoW p e below QQ (T41.setTop (mkF m 138 #[.val (.long q1), .second, .val (.long q2), .second, .val (.long q3), .second, .val (.long q4), .second, .val (.int p5), .val (.int (0 : Int32)), .val (.int (2 : Int32)), .val (.ref b_22), .val (.ref b_33), .val (.ref b_42), .val (.int (2 : Int32)), .val (.ref b35)] []))
    refine GoW.st (fun t k => XS.aload X41.here hx rfl (hb hby at_138) rfl rfl (XS.iload X41.here hx rfl (hb hby at_140) rfl (XS.iconst X41.here hx rfl (hb hby at_142) (XS.iconst X41.here hx rfl (hb hby at_143) k)))) ?_
    show GoW p e below QQ (T41.setTop (mkF m 144 #[.val (.long q1), .second, .val (.long q2), .second, .val (.long q3), .second, .val (.long q4), .second, .val (.int p5), .val (.int (0 : Int32)), .val (.int (2 : Int32)), .val (.ref b_22), .val (.ref b_33), .val (.ref b_42), .val (.int (2 : Int32)), .val (.ref b35)] [(.int (3 : Int32)), (.int (2 : Int32)), (.int (2 : Int32)), (.ref b35)]))
    obtain ⟨_, _, ⟨T43, zL43, zk43, zn43⟩, -, X43, ⟨Lc43, hQ43, zl43, zy43, zz43⟩, st43⟩ := Jvm.LawKit.callS X41 hx (y := (⟨"com/example/hike/hike/HoldersMergePinLaw", "cx", "([JIII)V"⟩ : MethodName)) hown (mvT hZ (hw _ (List.mem_of_getElem? (i := 9) rfl))) (mvT hZ (hw _ (List.mem_of_getElem? (i := 10) rfl))) (mvT hZ (hw _ (List.mem_of_getElem? (i := 2) rfl))) (mvT hZ (hw _ (List.mem_of_getElem? (i := 11) rfl))) (by decide) (backOf (W := 0) (rm3_223 l Z a0 hw [] b35 T41.heap n0 (Nat.le_trans Z0 K41.1) ) hZ (hw _ (List.mem_of_getElem? (i := 11) rfl)) (hw _ (List.mem_of_getElem? (i := 2) rfl)) (by decide) (by decide)) (g := (mkF m 144 #[.val (.long q1), .second, .val (.long q2), .second, .val (.long q3), .second, .val (.long q4), .second, .val (.int p5), .val (.int (0 : Int32)), .val (.int (2 : Int32)), .val (.ref b_22), .val (.ref b_33), .val (.ref b_42), .val (.int (2 : Int32)), .val (.ref b35)] [(.int (3 : Int32)), (.int (2 : Int32)), (.int (2 : Int32)), (.ref b35)])) rfl (by rw [hml]; rfl) (argsL := [(.ref b35), (.int (2 : Int32)), (.int (2 : Int32)), (.int (3 : Int32))]) (rest := []) (lenOf pd_3 rfl) rfl (by show 2 * 0 + _ ≤ _; exact Nat.le_of_eq rfl) (hb hby at_144) (fun _ _ => ⟨rfl, rfl, (by decide : 4 + 0 ≤ _), (by decide : 8 + 0 ≤ _)⟩)
    dsimp only [Pt.U, Pt.locs, Pt.cells, Pt.slots] at X43 zl43 zy43 zz43 st43 hQ43
    subst zl43 zy43 zz43
    obtain ⟨rfl, Nq43, hh43⟩ := hQ43
    have N43 := Fr.app N41 Nq43
    refine GoW.st st43 ?_
    show GoW p e below QQ (T43.setTop (mkF m 147 #[.val (.long q1), .second, .val (.long q2), .second, .val (.long q3), .second, .val (.long q4), .second, .val (.int p5), .val (.int (0 : Int32)), .val (.int (2 : Int32)), .val (.ref b_22), .val (.ref b_33), .val (.ref b_42), .val (.int (2 : Int32)), .val (.ref b35)] []))
    refine GoW.st (fun t k => XS.aload X43.here hx rfl (hb hby at_147) rfl rfl (XS.iload X43.here hx rfl (hb hby at_149) rfl (XS.iconst X43.here hx rfl (hb hby at_151) (XS.iconst X43.here hx rfl (hb hby at_152) k)))) ?_
    show GoW p e below QQ (T43.setTop (mkF m 153 #[.val (.long q1), .second, .val (.long q2), .second, .val (.long q3), .second, .val (.long q4), .second, .val (.int p5), .val (.int (0 : Int32)), .val (.int (2 : Int32)), .val (.ref b_22), .val (.ref b_33), .val (.ref b_42), .val (.int (2 : Int32)), .val (.ref b35)] [(.int (2 : Int32)), (.int (0 : Int32)), (.int (2 : Int32)), (.ref b35)]))
    obtain ⟨_, _, ⟨T44, zL44, zk44, zn44⟩, -, X44, ⟨Lc44, hQ44, zl44, zy44, zz44⟩, st44⟩ := Jvm.LawKit.callS X43 hx (y := (⟨"com/example/hike/hike/HoldersMergePinLaw", "cx", "([JIII)V"⟩ : MethodName)) hown (mvT hZ (hw _ (List.mem_of_getElem? (i := 9) rfl))) (mvT hZ (hw _ (List.mem_of_getElem? (i := 10) rfl))) (mvT hZ (hw _ (List.mem_of_getElem? (i := 2) rfl))) (mvT hZ (hw _ (List.mem_of_getElem? (i := 11) rfl))) (by decide) (backOf (W := 0) (rm3_202 l Z a0 hw [] b35 T41.heap n0 (Nat.le_trans Z0 K41.1) ) hZ (hw _ (List.mem_of_getElem? (i := 11) rfl)) (hw _ (List.mem_of_getElem? (i := 2) rfl)) (by decide) (by decide)) (g := (mkF m 153 #[.val (.long q1), .second, .val (.long q2), .second, .val (.long q3), .second, .val (.long q4), .second, .val (.int p5), .val (.int (0 : Int32)), .val (.int (2 : Int32)), .val (.ref b_22), .val (.ref b_33), .val (.ref b_42), .val (.int (2 : Int32)), .val (.ref b35)] [(.int (2 : Int32)), (.int (0 : Int32)), (.int (2 : Int32)), (.ref b35)])) rfl (by rw [hml]; rfl) (argsL := [(.ref b35), (.int (2 : Int32)), (.int (0 : Int32)), (.int (2 : Int32))]) (rest := []) (lenOf pd_3 rfl) rfl (by show 2 * 0 + _ ≤ _; exact Nat.le_of_eq rfl) (hb hby at_153) (fun _ _ => ⟨rfl, hh43, (by decide : 4 + 0 ≤ _), (by decide : 8 + 0 ≤ _)⟩)
    dsimp only [Pt.U, Pt.locs, Pt.cells, Pt.slots] at X44 zl44 zy44 zz44 st44 hQ44
    subst zl44 zy44 zz44
    obtain ⟨rfl, Nq44, hh44⟩ := hQ44
    have N44 := Fr.app N43 Nq44
    refine GoW.st st44 ?_
    show GoW p e below QQ (T44.setTop (mkF m 156 #[.val (.long q1), .second, .val (.long q2), .second, .val (.long q3), .second, .val (.long q4), .second, .val (.int p5), .val (.int (0 : Int32)), .val (.int (2 : Int32)), .val (.ref b_22), .val (.ref b_33), .val (.ref b_42), .val (.int (2 : Int32)), .val (.ref b35)] []))
    refine GoW.st (fun t k => XS.aload X44.here hx rfl (hb hby at_156) rfl rfl (XS.iload X44.here hx rfl (hb hby at_158) rfl (XS.iconst X44.here hx rfl (hb hby at_160) (XS.iconst X44.here hx rfl (hb hby at_161) k)))) ?_
    show GoW p e below QQ (T44.setTop (mkF m 162 #[.val (.long q1), .second, .val (.long q2), .second, .val (.long q3), .second, .val (.long q4), .second, .val (.int p5), .val (.int (0 : Int32)), .val (.int (2 : Int32)), .val (.ref b_22), .val (.ref b_33), .val (.ref b_42), .val (.int (2 : Int32)), .val (.ref b35)] [(.int (3 : Int32)), (.int (1 : Int32)), (.int (2 : Int32)), (.ref b35)]))
    obtain ⟨_, _, ⟨T45, zL45, zk45, zn45⟩, -, X45, ⟨Lc45, hQ45, zl45, zy45, zz45⟩, st45⟩ := Jvm.LawKit.callS X44 hx (y := (⟨"com/example/hike/hike/HoldersMergePinLaw", "cx", "([JIII)V"⟩ : MethodName)) hown (mvT hZ (hw _ (List.mem_of_getElem? (i := 9) rfl))) (mvT hZ (hw _ (List.mem_of_getElem? (i := 10) rfl))) (mvT hZ (hw _ (List.mem_of_getElem? (i := 2) rfl))) (mvT hZ (hw _ (List.mem_of_getElem? (i := 11) rfl))) (by decide) (backOf (W := 0) (rm3_213 l Z a0 hw [] b35 T41.heap n0 (Nat.le_trans Z0 K41.1) ) hZ (hw _ (List.mem_of_getElem? (i := 11) rfl)) (hw _ (List.mem_of_getElem? (i := 2) rfl)) (by decide) (by decide)) (g := (mkF m 162 #[.val (.long q1), .second, .val (.long q2), .second, .val (.long q3), .second, .val (.long q4), .second, .val (.int p5), .val (.int (0 : Int32)), .val (.int (2 : Int32)), .val (.ref b_22), .val (.ref b_33), .val (.ref b_42), .val (.int (2 : Int32)), .val (.ref b35)] [(.int (3 : Int32)), (.int (1 : Int32)), (.int (2 : Int32)), (.ref b35)])) rfl (by rw [hml]; rfl) (argsL := [(.ref b35), (.int (2 : Int32)), (.int (1 : Int32)), (.int (3 : Int32))]) (rest := []) (lenOf pd_3 rfl) rfl (by show 2 * 0 + _ ≤ _; exact Nat.le_of_eq rfl) (hb hby at_162) (fun _ _ => ⟨rfl, hh44, (by decide : 4 + 0 ≤ _), (by decide : 8 + 0 ≤ _)⟩)
    dsimp only [Pt.U, Pt.locs, Pt.cells, Pt.slots] at X45 zl45 zy45 zz45 st45 hQ45
    subst zl45 zy45 zz45
    obtain ⟨rfl, Nq45, hh45⟩ := hQ45
    have N45 := Fr.app N44 Nq45
    refine GoW.st st45 ?_
    show GoW p e below QQ (T45.setTop (mkF m 165 #[.val (.long q1), .second, .val (.long q2), .second, .val (.long q3), .second, .val (.long q4), .second, .val (.int p5), .val (.int (0 : Int32)), .val (.int (2 : Int32)), .val (.ref b_22), .val (.ref b_33), .val (.ref b_42), .val (.int (2 : Int32)), .val (.ref b35)] []))
    refine GoW.st (fun t k => XS.aload X45.here hx rfl (hb hby at_165) rfl rfl (XS.iload X45.here hx rfl (hb hby at_167) rfl (XS.iconst X45.here hx rfl (hb hby at_169) (XS.iconst X45.here hx rfl (hb hby at_170) k)))) ?_
    show GoW p e below QQ (T45.setTop (mkF m 171 #[.val (.long q1), .second, .val (.long q2), .second, .val (.long q3), .second, .val (.long q4), .second, .val (.int p5), .val (.int (0 : Int32)), .val (.int (2 : Int32)), .val (.ref b_22), .val (.ref b_33), .val (.ref b_42), .val (.int (2 : Int32)), .val (.ref b35)] [(.int (2 : Int32)), (.int (1 : Int32)), (.int (2 : Int32)), (.ref b35)]))
    obtain ⟨_, _, ⟨T46, zL46, zk46, zn46⟩, -, X46, ⟨Lc46, hQ46, zl46, zy46, zz46⟩, st46⟩ := Jvm.LawKit.callS X45 hx (y := (⟨"com/example/hike/hike/HoldersMergePinLaw", "cx", "([JIII)V"⟩ : MethodName)) hown (mvT hZ (hw _ (List.mem_of_getElem? (i := 9) rfl))) (mvT hZ (hw _ (List.mem_of_getElem? (i := 10) rfl))) (mvT hZ (hw _ (List.mem_of_getElem? (i := 2) rfl))) (mvT hZ (hw _ (List.mem_of_getElem? (i := 11) rfl))) (by decide) (backOf (W := 0) (rm3_212 l Z a0 hw [] b35 T41.heap n0 (Nat.le_trans Z0 K41.1) ) hZ (hw _ (List.mem_of_getElem? (i := 11) rfl)) (hw _ (List.mem_of_getElem? (i := 2) rfl)) (by decide) (by decide)) (g := (mkF m 171 #[.val (.long q1), .second, .val (.long q2), .second, .val (.long q3), .second, .val (.long q4), .second, .val (.int p5), .val (.int (0 : Int32)), .val (.int (2 : Int32)), .val (.ref b_22), .val (.ref b_33), .val (.ref b_42), .val (.int (2 : Int32)), .val (.ref b35)] [(.int (2 : Int32)), (.int (1 : Int32)), (.int (2 : Int32)), (.ref b35)])) rfl (by rw [hml]; rfl) (argsL := [(.ref b35), (.int (2 : Int32)), (.int (1 : Int32)), (.int (2 : Int32))]) (rest := []) (lenOf pd_3 rfl) rfl (by show 2 * 0 + _ ≤ _; exact Nat.le_of_eq rfl) (hb hby at_171) (fun _ _ => ⟨rfl, hh45, (by decide : 4 + 0 ≤ _), (by decide : 8 + 0 ≤ _)⟩)
    dsimp only [Pt.U, Pt.locs, Pt.cells, Pt.slots] at X46 zl46 zy46 zz46 st46 hQ46
    subst zl46 zy46 zz46
    obtain ⟨rfl, Nq46, hh46⟩ := hQ46
    have N46 := Fr.app N45 Nq46
    refine GoW.st st46 ?_
    show GoW p e below QQ (T46.setTop (mkF m 174 #[.val (.long q1), .second, .val (.long q2), .second, .val (.long q3), .second, .val (.long q4), .second, .val (.int p5), .val (.int (0 : Int32)), .val (.int (2 : Int32)), .val (.ref b_22), .val (.ref b_33), .val (.ref b_42), .val (.int (2 : Int32)), .val (.ref b35)] []))
    refine GoW.st (fun t k => XS.iconst X46.here hx rfl (hb hby at_174) (XS.iload X46.here hx rfl (hb hby at_175) rfl k)) ?_
    show GoW p e below QQ (T46.setTop (mkF m 177 #[.val (.long q1), .second, .val (.long q2), .second, .val (.long q3), .second, .val (.long q4), .second, .val (.int p5), .val (.int (0 : Int32)), .val (.int (2 : Int32)), .val (.ref b_22), .val (.ref b_33), .val (.ref b_42), .val (.int (2 : Int32)), .val (.ref b35)] [(.int (2 : Int32)), (.int (0 : Int32))]))
    have hc177 : (0 : Int32) < (2 : Int32) := by decide
    refine GoW.st (fun t k => XS.icmpNo X46.here hx rfl (hb hby at_177) rfl (tlt hc177).2.1 (XS.aload X46.here hx rfl (hb hby at_180) rfl rfl (XS.iconst X46.here hx rfl (hb hby at_182) (ldVJ X46 hx hZ hh46 f42_V_b_42 (v := (.long w0_42)) ⟨by decide, by decide⟩ rfl (g := (mkF m 183 #[.val (.long q1), .second, .val (.long q2), .second, .val (.long q3), .second, .val (.long q4), .second, .val (.int p5), .val (.int (0 : Int32)), .val (.int (2 : Int32)), .val (.ref b_22), .val (.ref b_33), .val (.ref b_42), .val (.int (2 : Int32)), .val (.ref b35)] [(.int (0 : Int32)), (.ref b_42)])) rfl rfl (hb hby at_183) t (XS.aload X46.here hx rfl (hb hby at_184) rfl rfl (XS.iconst X46.here hx rfl (hb hby at_186) k)))))) ?_
    show GoW p e below QQ (T46.setTop (mkF m 187 #[.val (.long q1), .second, .val (.long q2), .second, .val (.long q3), .second, .val (.long q4), .second, .val (.int p5), .val (.int (0 : Int32)), .val (.int (2 : Int32)), .val (.ref b_22), .val (.ref b_33), .val (.ref b_42), .val (.int (2 : Int32)), .val (.ref b35)] [(.int (0 : Int32)), (.ref b35), (.long w0_42)]))
    refine GoW.st (fun t k => ldVJ X46 hx hZ hh46 p41_0 (v := (.long wa_135)) ⟨by decide, by decide⟩ rfl (g := (mkF m 187 #[.val (.long q1), .second, .val (.long q2), .second, .val (.long q3), .second, .val (.long q4), .second, .val (.int p5), .val (.int (0 : Int32)), .val (.int (2 : Int32)), .val (.ref b_22), .val (.ref b_33), .val (.ref b_42), .val (.int (2 : Int32)), .val (.ref b35)] [(.int (0 : Int32)), (.ref b35), (.long w0_42)])) rfl rfl (hb hby at_187) t (XS.lcmp X46.here hx rfl (hb hby at_188) rfl k)) ?_
    show GoW p e below QQ (T46.setTop (mkF m 189 #[.val (.long q1), .second, .val (.long q2), .second, .val (.long q3), .second, .val (.long q4), .second, .val (.int p5), .val (.int (0 : Int32)), .val (.int (2 : Int32)), .val (.ref b_22), .val (.ref b_33), .val (.ref b_42), .val (.int (2 : Int32)), .val (.ref b35)] [(.int (lcmpW w0_42 wa_135))]))
    have hc189 : w0_42 = wa_135 := by
      apply Int64.toInt_inj.mp
      omega
    refine GoW.st (fun t k => XS.ifYes X46.here hx rfl (pc0 := 189) (pc' := 194) rfl (hb hby at_189) rfl ((if0 _ _).trans (teq ((lw_eq w0_42 wa_135).mpr hc189)).1) (by decide) (by decide) (XS.iconst X46.here hx rfl (hb hby at_194) (XS.iload X46.here hx rfl (hb hby at_195) rfl k))) ?_
    show GoW p e below QQ (T46.setTop (mkF m 197 #[.val (.long q1), .second, .val (.long q2), .second, .val (.long q3), .second, .val (.long q4), .second, .val (.int p5), .val (.int (0 : Int32)), .val (.int (2 : Int32)), .val (.ref b_22), .val (.ref b_33), .val (.ref b_42), .val (.int (2 : Int32)), .val (.ref b35)] [(.int (2 : Int32)), (.int (1 : Int32))]))
    have hc197 : (1 : Int32) < (2 : Int32) := by decide
    refine GoW.st (fun t k => XS.icmpNo X46.here hx rfl (hb hby at_197) rfl (tlt hc197).2.1 (XS.aload X46.here hx rfl (hb hby at_200) rfl rfl (XS.iconst X46.here hx rfl (hb hby at_202) (ldVJ X46 hx hZ hh46 f42_V_b_42 (v := (.long w1_42)) ⟨by decide, by decide⟩ rfl (g := (mkF m 203 #[.val (.long q1), .second, .val (.long q2), .second, .val (.long q3), .second, .val (.long q4), .second, .val (.int p5), .val (.int (0 : Int32)), .val (.int (2 : Int32)), .val (.ref b_22), .val (.ref b_33), .val (.ref b_42), .val (.int (2 : Int32)), .val (.ref b35)] [(.int (1 : Int32)), (.ref b_42)])) rfl rfl (hb hby at_203) t (XS.aload X46.here hx rfl (hb hby at_204) rfl rfl (XS.iconst X46.here hx rfl (hb hby at_206) k)))))) ?_
    show GoW p e below QQ (T46.setTop (mkF m 207 #[.val (.long q1), .second, .val (.long q2), .second, .val (.long q3), .second, .val (.long q4), .second, .val (.int p5), .val (.int (0 : Int32)), .val (.int (2 : Int32)), .val (.ref b_22), .val (.ref b_33), .val (.ref b_42), .val (.int (2 : Int32)), .val (.ref b35)] [(.int (1 : Int32)), (.ref b35), (.long w1_42)]))
    refine GoW.st (fun t k => ldVJ X46 hx hZ hh46 p41_0 (v := (.long wb_135)) ⟨by decide, by decide⟩ rfl (g := (mkF m 207 #[.val (.long q1), .second, .val (.long q2), .second, .val (.long q3), .second, .val (.long q4), .second, .val (.int p5), .val (.int (0 : Int32)), .val (.int (2 : Int32)), .val (.ref b_22), .val (.ref b_33), .val (.ref b_42), .val (.int (2 : Int32)), .val (.ref b35)] [(.int (1 : Int32)), (.ref b35), (.long w1_42)])) rfl rfl (hb hby at_207) t (XS.lcmp X46.here hx rfl (hb hby at_208) rfl k)) ?_
    show GoW p e below QQ (T46.setTop (mkF m 209 #[.val (.long q1), .second, .val (.long q2), .second, .val (.long q3), .second, .val (.long q4), .second, .val (.int p5), .val (.int (0 : Int32)), .val (.int (2 : Int32)), .val (.ref b_22), .val (.ref b_33), .val (.ref b_42), .val (.int (2 : Int32)), .val (.ref b35)] [(.int (lcmpW w1_42 wb_135))]))
    have hc209 : w1_42 = wb_135 := by
      apply Int64.toInt_inj.mp
      omega
    refine GoW.st (fun t k => XS.ifYes X46.here hx rfl (pc0 := 209) (pc' := 214) rfl (hb hby at_209) rfl ((if0 _ _).trans (teq ((lw_eq w1_42 wb_135).mpr hc209)).1) (by decide) (by decide) (XS.iconst X46.here hx rfl (hb hby at_214) (XS.iload X46.here hx rfl (hb hby at_215) rfl k))) ?_
    show GoW p e below QQ (T46.setTop (mkF m 217 #[.val (.long q1), .second, .val (.long q2), .second, .val (.long q3), .second, .val (.long q4), .second, .val (.int p5), .val (.int (0 : Int32)), .val (.int (2 : Int32)), .val (.ref b_22), .val (.ref b_33), .val (.ref b_42), .val (.int (2 : Int32)), .val (.ref b35)] [(.int (2 : Int32)), (.int (2 : Int32))]))
    have hc217 : ¬ ((2 : Int32) < (2 : Int32)) := by decide
    refine GoW.st (fun t k => XS.icmpYes X46.here hx rfl (pc0 := 217) (pc' := 234) rfl (hb hby at_217) rfl (flt hc217).2.1 (by decide) (by decide) (XS.iconst X46.here hx rfl (hb hby at_234) (XS.iload X46.here hx rfl (hb hby at_235) rfl k))) ?_
    show GoW p e below QQ (T46.setTop (mkF m 237 #[.val (.long q1), .second, .val (.long q2), .second, .val (.long q3), .second, .val (.long q4), .second, .val (.int p5), .val (.int (0 : Int32)), .val (.int (2 : Int32)), .val (.ref b_22), .val (.ref b_33), .val (.ref b_42), .val (.int (2 : Int32)), .val (.ref b35)] [(.int (2 : Int32)), (.int (3 : Int32))]))
    have hc237 : ¬ ((3 : Int32) < (2 : Int32)) := by decide
    refine GoW.st (fun t k => XS.icmpYes X46.here hx rfl (pc0 := 237) (pc' := 254) rfl (hb hby at_237) rfl (flt hc237).2.1 (by decide) (by decide) (XS.iconst X46.here hx rfl (hb hby at_254) k)) ?_
    show GoW p e below QQ (T46.setTop (mkF m 255 #[.val (.long q1), .second, .val (.long q2), .second, .val (.long q3), .second, .val (.long q4), .second, .val (.int p5), .val (.int (0 : Int32)), .val (.int (2 : Int32)), .val (.ref b_22), .val (.ref b_33), .val (.ref b_42), .val (.int (2 : Int32)), .val (.ref b35)] [(.int (1 : Int32))]))
    exact GoW.fin X46 (some (.int (nar .boolean (1 : Int32)))) (fun q => by rw [hret] at q; cases q) hlk hQ hh46 ⟨rfl, N46⟩ (by decide) (by decide) (fun fs hr => retN X46 hx (t := .boolean) hret (by simp) (hb hby at_255) hr)
  · skip
    show GoW p e below QQ (T0.setTop (mkF m 18 #[.val (.long q1), .second, .val (.long q2), .second, .val (.long q3), .second, .val (.long q4), .second, .val (.int p5), .val (.int (1 : Int32)), .val (.int (0 : Int32)), .unset, .unset, .unset, .unset, .unset] []))
    refine GoW.st (fun t k => XS.iload X0.here hx rfl (hb hby at_18) rfl (XS.lloadN X0.here hx rfl (hb hby at_20) rfl (XS.lloadN X0.here hx rfl (hb hby at_21) rfl k))) ?_
    show GoW p e below QQ (T0.setTop (mkF m 22 #[.val (.long q1), .second, .val (.long q2), .second, .val (.long q3), .second, .val (.long q4), .second, .val (.int p5), .val (.int (1 : Int32)), .val (.int (0 : Int32)), .unset, .unset, .unset, .unset, .unset] [(.long q2), (.long q1), (.int (1 : Int32))]))
    obtain ⟨_, _, ⟨T47, zL47, zk47, zn47⟩, -, X47, ⟨Lc47, hQ47, zl47, zy47, zz47⟩, st47⟩ := Jvm.LawKit.callS X0 hx (y := (⟨"com/example/hike/hike/HoldersMergePinLaw", "make", "(IJJ)[J"⟩ : MethodName)) hown (mvT hZ (hw _ (List.mem_of_getElem? (i := 0) rfl))) (mvT hZ (hw _ (List.mem_of_getElem? (i := 1) rfl))) (mvT hZ (hw _ (List.mem_of_getElem? (i := 2) rfl))) (mvT hZ (hw _ (List.mem_of_getElem? (i := 3) rfl))) (by decide) (backOf (W := 0) (rm1_1 l Z a0 hw [] q1 q2 h0 n0 (Nat.le_trans Z0 K0.1) ) hZ (hw _ (List.mem_of_getElem? (i := 3) rfl)) (hw _ (List.mem_of_getElem? (i := 2) rfl)) (by decide) (by decide)) (g := (mkF m 22 #[.val (.long q1), .second, .val (.long q2), .second, .val (.long q3), .second, .val (.long q4), .second, .val (.int p5), .val (.int (1 : Int32)), .val (.int (0 : Int32)), .unset, .unset, .unset, .unset, .unset] [(.long q2), (.long q1), (.int (1 : Int32))])) rfl (by rw [hml]; rfl) (argsL := [(.int (1 : Int32)), (.long q1), (.long q2)]) (rest := []) (lenOf pd_1 rfl) rfl (by show 2 * 0 + _ ≤ _; exact Nat.le_of_eq rfl) (hb hby at_22) (fun _ _ => ⟨rfl, e0, (by decide : 0 + 1 ≤ _), (by decide : 0 + 1 ≤ _)⟩)
    dsimp only [Pt.U, Pt.locs, Pt.cells, Pt.slots] at X47 zl47 zy47 zz47 st47 hQ47
    subst zl47 zy47 zz47
    obtain ⟨b_22, kb_22, rfl, Nq47, Kq47, p47_0, p47_1⟩ := hQ47
    have N47 := Fr.app N0 Nq47
    refine GoW.st st47 ?_
    have sz47_b_22 : h0.size ≤ b_22 := Nat.le_trans K0.1 p47_0
    have gg47_b_22 : n0 ≤ b_22 := Nat.le_trans Z0 sz47_b_22
    have K47 : Keep h0 T47.heap [] := K0.trans Kq47 all0
    show GoW p e below QQ (T47.setTop (mkF m 25 #[.val (.long q1), .second, .val (.long q2), .second, .val (.long q3), .second, .val (.long q4), .second, .val (.int p5), .val (.int (1 : Int32)), .val (.int (0 : Int32)), .unset, .unset, .unset, .unset, .unset] [(.ref b_22)]))
    refine GoW.st (fun t k => XS.astore X47.here hx rfl (hb hby at_25) rfl rfl (l' := #[.val (.long q1), .second, .val (.long q2), .second, .val (.long q3), .second, .val (.long q4), .second, .val (.int p5), .val (.int (1 : Int32)), .val (.int (0 : Int32)), .val (.ref b_22), .unset, .unset, .unset, .unset]) rfl (XS.iload X47.here hx rfl (hb hby at_27) rfl (XS.lload X47.here hx rfl (hb hby at_29) rfl (XS.lload X47.here hx rfl (hb hby at_31) rfl k)))) ?_
    show GoW p e below QQ (T47.setTop (mkF m 33 #[.val (.long q1), .second, .val (.long q2), .second, .val (.long q3), .second, .val (.long q4), .second, .val (.int p5), .val (.int (1 : Int32)), .val (.int (0 : Int32)), .val (.ref b_22), .unset, .unset, .unset, .unset] [(.long q4), (.long q3), (.int (0 : Int32))]))
    obtain ⟨_, _, ⟨T49, zL49, zk49, zn49⟩, -, X49, ⟨Lc49, hQ49, zl49, zy49, zz49⟩, st49⟩ := Jvm.LawKit.callS X47 hx (y := (⟨"com/example/hike/hike/HoldersMergePinLaw", "make", "(IJJ)[J"⟩ : MethodName)) hown (mvT hZ (hw _ (List.mem_of_getElem? (i := 0) rfl))) (mvT hZ (hw _ (List.mem_of_getElem? (i := 1) rfl))) (mvT hZ (hw _ (List.mem_of_getElem? (i := 2) rfl))) (mvT hZ (hw _ (List.mem_of_getElem? (i := 3) rfl))) (by decide) (backOf (W := 0) (rm1_0 l Z a0 hw [] q3 q4 T47.heap n0 (Nat.le_trans Z0 K47.1) ) hZ (hw _ (List.mem_of_getElem? (i := 3) rfl)) (hw _ (List.mem_of_getElem? (i := 2) rfl)) (by decide) (by decide)) (g := (mkF m 33 #[.val (.long q1), .second, .val (.long q2), .second, .val (.long q3), .second, .val (.long q4), .second, .val (.int p5), .val (.int (1 : Int32)), .val (.int (0 : Int32)), .val (.ref b_22), .unset, .unset, .unset, .unset] [(.long q4), (.long q3), (.int (0 : Int32))])) rfl (by rw [hml]; rfl) (argsL := [(.int (0 : Int32)), (.long q3), (.long q4)]) (rest := []) (lenOf pd_1 rfl) rfl (by show 2 * 0 + _ ≤ _; exact Nat.le_of_eq rfl) (hb hby at_33) (fun _ _ => ⟨rfl, rfl, (by decide : 1 + 1 ≤ _), (by decide : 1 + 0 ≤ _)⟩)
    dsimp only [Pt.U, Pt.locs, Pt.cells, Pt.slots] at X49 zl49 zy49 zz49 st49 hQ49
    subst zl49 zy49 zz49
    obtain ⟨b_33, kb_33, rfl, Nq49, Kq49, p49_0, p49_1⟩ := hQ49
    have N49 := Fr.app N47 Nq49
    refine GoW.st st49 ?_
    have ne49_b_22_b_33 : b_22 ≠ b_33 := Nat.ne_of_lt (Nat.lt_of_lt_of_le p47_1.lt p49_0)
    have sz49_b_33 : h0.size ≤ b_33 := Nat.le_trans K47.1 p49_0
    have gg49_b_33 : n0 ≤ b_33 := Nat.le_trans Z0 sz49_b_33
    have f50_V_b_22 : Arv Z T49.heap b_22 kb_22 .long (1 : Int32) [(.long q1)] (.long (0 : Int64)) := p47_1.keep Kq49 nin0
    have K49 : Keep h0 T49.heap [] := K47.trans Kq49 all0
    show GoW p e below QQ (T49.setTop (mkF m 36 #[.val (.long q1), .second, .val (.long q2), .second, .val (.long q3), .second, .val (.long q4), .second, .val (.int p5), .val (.int (1 : Int32)), .val (.int (0 : Int32)), .val (.ref b_22), .unset, .unset, .unset, .unset] [(.ref b_33)]))
    refine GoW.st (fun t k => XS.astore X49.here hx rfl (hb hby at_36) rfl rfl (l' := #[.val (.long q1), .second, .val (.long q2), .second, .val (.long q3), .second, .val (.long q4), .second, .val (.int p5), .val (.int (1 : Int32)), .val (.int (0 : Int32)), .val (.ref b_22), .val (.ref b_33), .unset, .unset, .unset]) rfl (XS.aload X49.here hx rfl (hb hby at_38) rfl rfl (XS.aload X49.here hx rfl (hb hby at_40) rfl rfl k))) ?_
    show GoW p e below QQ (T49.setTop (mkF m 42 #[.val (.long q1), .second, .val (.long q2), .second, .val (.long q3), .second, .val (.long q4), .second, .val (.int p5), .val (.int (1 : Int32)), .val (.int (0 : Int32)), .val (.ref b_22), .val (.ref b_33), .unset, .unset, .unset] [(.ref b_33), (.ref b_22)]))
    obtain ⟨_, _, ⟨T51, zL51, zk51, zn51⟩, -, X51, ⟨Lc51, hQ51, zl51, zy51, zz51⟩, st51⟩ := Jvm.LawKit.callS X49 hx (y := (⟨"com/example/hike/hike/Holders", "merge", "([J[J)[J"⟩ : MethodName)) hown (mvT hZ (hw _ (List.mem_of_getElem? (i := 5) rfl))) (mvT hZ (hw _ (List.mem_of_getElem? (i := 6) rfl))) (mvT hZ (hw _ (List.mem_of_getElem? (i := 7) rfl))) (mvT hZ (hw _ (List.mem_of_getElem? (i := 8) rfl))) (by decide) (backOf (W := 0) (rm2_10 l Z a0 hw [] b_22 b_33 kb_22 kb_33 q1 T49.heap n0 (Nat.le_trans Z0 K49.1) f50_V_b_22 p49_1) hZ (hw _ (List.mem_of_getElem? (i := 8) rfl)) (hw _ (List.mem_of_getElem? (i := 7) rfl)) (by decide) (by decide)) (g := (mkF m 42 #[.val (.long q1), .second, .val (.long q2), .second, .val (.long q3), .second, .val (.long q4), .second, .val (.int p5), .val (.int (1 : Int32)), .val (.int (0 : Int32)), .val (.ref b_22), .val (.ref b_33), .unset, .unset, .unset] [(.ref b_33), (.ref b_22)])) rfl (by rw [hml]; rfl) (argsL := [(.ref b_22), (.ref b_33)]) (rest := []) (lenOf pd_2 rfl) rfl (by show 2 * 0 + _ ≤ _; exact Nat.le_of_eq rfl) (hb hby at_42) (fun _ _ => ⟨rfl, rfl, (by decide : 2 + 1 ≤ _), (by decide : 1 + 1 ≤ _)⟩)
    dsimp only [Pt.U, Pt.locs, Pt.cells, Pt.slots] at X51 zl51 zy51 zz51 st51 hQ51
    subst zl51 zy51 zz51
    obtain ⟨b_42, kb_42, w0_42, rfl, Nq51, Kq51, p51_0, p51_1, p51_2⟩ := hQ51
    have N51 := Fr.app N49 Nq51
    refine GoW.st st51 ?_
    have ne51_b_22_b_42 : b_22 ≠ b_42 := Nat.ne_of_lt (Nat.lt_of_lt_of_le f50_V_b_22.lt p51_0)
    have ne51_b_33_b_42 : b_33 ≠ b_42 := Nat.ne_of_lt (Nat.lt_of_lt_of_le p49_1.lt p51_0)
    have sz51_b_42 : h0.size ≤ b_42 := Nat.le_trans K49.1 p51_0
    have gg51_b_42 : n0 ≤ b_42 := Nat.le_trans Z0 sz51_b_42
    have f52_V_b_22 : Arv Z T51.heap b_22 kb_22 .long (1 : Int32) [(.long q1)] (.long (0 : Int64)) := f50_V_b_22.keep Kq51 nin0
    have f52_V_b_33 : Arv Z T51.heap b_33 kb_33 .long (0 : Int32) [] (.long (0 : Int64)) := p49_1.keep Kq51 nin0
    have K51 : Keep h0 T51.heap [] := K49.trans Kq51 all0
    have hw_42 := p51_2
    show GoW p e below QQ (T51.setTop (mkF m 45 #[.val (.long q1), .second, .val (.long q2), .second, .val (.long q3), .second, .val (.long q4), .second, .val (.int p5), .val (.int (1 : Int32)), .val (.int (0 : Int32)), .val (.ref b_22), .val (.ref b_33), .unset, .unset, .unset] [(.ref b_42)]))
    refine GoW.st (fun t k => XS.astore X51.here hx rfl (hb hby at_45) rfl rfl (l' := #[.val (.long q1), .second, .val (.long q2), .second, .val (.long q3), .second, .val (.long q4), .second, .val (.int p5), .val (.int (1 : Int32)), .val (.int (0 : Int32)), .val (.ref b_22), .val (.ref b_33), .val (.ref b_42), .unset, .unset]) rfl (XS.iload X51.here hx rfl (hb hby at_47) rfl (XS.iload X51.here hx rfl (hb hby at_49) rfl (XS.iadd X51.here hx rfl (hb hby at_51) rfl (XS.istore X51.here hx rfl (hb hby at_52) rfl (l' := #[.val (.long q1), .second, .val (.long q2), .second, .val (.long q3), .second, .val (.long q4), .second, .val (.int p5), .val (.int (1 : Int32)), .val (.int (0 : Int32)), .val (.ref b_22), .val (.ref b_33), .val (.ref b_42), .val (.int (1 : Int32)), .unset]) rfl (XS.aload X51.here hx rfl (hb hby at_54) rfl rfl k)))))) ?_
    show GoW p e below QQ (T51.setTop (mkF m 56 #[.val (.long q1), .second, .val (.long q2), .second, .val (.long q3), .second, .val (.long q4), .second, .val (.int p5), .val (.int (1 : Int32)), .val (.int (0 : Int32)), .val (.ref b_22), .val (.ref b_33), .val (.ref b_42), .val (.int (1 : Int32)), .unset] [(.ref b_42)]))
    refine GoW.st (fun t k => lnV X51 hx hZ rfl p51_1 (g := (mkF m 56 #[.val (.long q1), .second, .val (.long q2), .second, .val (.long q3), .second, .val (.long q4), .second, .val (.int p5), .val (.int (1 : Int32)), .val (.int (0 : Int32)), .val (.ref b_22), .val (.ref b_33), .val (.ref b_42), .val (.int (1 : Int32)), .unset] [(.ref b_42)])) rfl rfl (hb hby at_56) t (XS.iload X51.here hx rfl (hb hby at_57) rfl k)) ?_
    show GoW p e below QQ (T51.setTop (mkF m 59 #[.val (.long q1), .second, .val (.long q2), .second, .val (.long q3), .second, .val (.long q4), .second, .val (.int p5), .val (.int (1 : Int32)), .val (.int (0 : Int32)), .val (.ref b_22), .val (.ref b_33), .val (.ref b_42), .val (.int (1 : Int32)), .unset] [(.int (1 : Int32)), (.int (1 : Int32))]))
    have hc59 : (1 : Int32) = (1 : Int32) := by decide
    refine GoW.st (fun t k => XS.icmpYes X51.here hx rfl (pc0 := 59) (pc' := 64) rfl (hb hby at_59) rfl (teq hc59).1 (by decide) (by decide) (XS.iconst X51.here hx rfl (hb hby at_64) k)) ?_
    show GoW p e below QQ (T51.setTop (mkF m 65 #[.val (.long q1), .second, .val (.long q2), .second, .val (.long q3), .second, .val (.long q4), .second, .val (.int p5), .val (.int (1 : Int32)), .val (.int (0 : Int32)), .val (.ref b_22), .val (.ref b_33), .val (.ref b_42), .val (.int (1 : Int32)), .unset] [(.int (4 : Int32))]))
    obtain ⟨T53, h53, k53, X53, e53, E53, A53, st53⟩ := newP X51 hx hZ (hw _ (List.mem_of_getElem? (i := 4) rfl)) rfl (g := (mkF m 65 #[.val (.long q1), .second, .val (.long q2), .second, .val (.long q3), .second, .val (.long q4), .second, .val (.int p5), .val (.int (1 : Int32)), .val (.int (0 : Int32)), .val (.ref b_22), .val (.ref b_33), .val (.ref b_42), .val (.int (1 : Int32)), .unset] [(.int (4 : Int32))])) rfl (hb hby at_65) rfl (by decide) (cap := 4) (by decide) (by decide) (by decide) (by decide)
    obtain ⟨b53, g53⟩ : ∃ z, z = T51.heap.size := ⟨_, rfl⟩
    rw [← g53] at A53 st53
    refine GoW.st st53 ?_
    have gg53 : n0 ≤ b53 := Nat.le_trans (Nat.le_trans Z0 K51.1) (Nat.le_of_eq g53.symm)
    have sz53 : h0.size ≤ b53 := Nat.le_trans K51.1 (Nat.le_of_eq g53.symm)
    have ne53_b_22 : b_22 ≠ b53 := Nat.ne_of_lt (Nat.lt_of_lt_of_le f52_V_b_22.lt (Nat.le_of_eq g53.symm))
    have ne53_b_33 : b_33 ≠ b53 := Nat.ne_of_lt (Nat.lt_of_lt_of_le f52_V_b_33.lt (Nat.le_of_eq g53.symm))
    have ne53_b_42 : b_42 ≠ b53 := Nat.ne_of_lt (Nat.lt_of_lt_of_le p51_1.lt (Nat.le_of_eq g53.symm))
    have f54_V_b_22 : Arv Z h53 b_22 kb_22 .long (1 : Int32) [(.long q1)] (.long (0 : Int64)) := f52_V_b_22.ext E53
    have f54_V_b_33 : Arv Z h53 b_33 kb_33 .long (0 : Int32) [] (.long (0 : Int64)) := f52_V_b_33.ext E53
    have f54_V_b_42 : Arv Z h53 b_42 kb_42 .long (1 : Int32) [(.long w0_42)] (.long (0 : Int64)) := p51_1.ext E53
    have K53 : Keep h0 h53 [] := K51.ext E53
    have V53 : Arv Z h53 b53 k53 .long (4 : Int32) [(.long (0 : Int64)), (.long (0 : Int64)), (.long (0 : Int64)), (.long (0 : Int64))] (.long (0 : Int64)) := (Arv.new A53 (by decide)).pad (pad_rep [] (.long (0 : Int64)) 4)
    show GoW p e below QQ (T53.setTop (mkF m 67 #[.val (.long q1), .second, .val (.long q2), .second, .val (.long q3), .second, .val (.long q4), .second, .val (.int p5), .val (.int (1 : Int32)), .val (.int (0 : Int32)), .val (.ref b_22), .val (.ref b_33), .val (.ref b_42), .val (.int (1 : Int32)), .unset] [(.ref b53)]))
    refine GoW.st (fun t k => XS.astore X53.here hx rfl (hb hby at_67) rfl rfl (l' := #[.val (.long q1), .second, .val (.long q2), .second, .val (.long q3), .second, .val (.long q4), .second, .val (.int p5), .val (.int (1 : Int32)), .val (.int (0 : Int32)), .val (.ref b_22), .val (.ref b_33), .val (.ref b_42), .val (.int (1 : Int32)), .val (.ref b53)]) rfl (XS.iload X53.here hx rfl (hb hby at_69) rfl (XS.iconst X53.here hx rfl (hb hby at_71) k))) ?_
    show GoW p e below QQ (T53.setTop (mkF m 72 #[.val (.long q1), .second, .val (.long q2), .second, .val (.long q3), .second, .val (.long q4), .second, .val (.int p5), .val (.int (1 : Int32)), .val (.int (0 : Int32)), .val (.ref b_22), .val (.ref b_33), .val (.ref b_42), .val (.int (1 : Int32)), .val (.ref b53)] [(.int (1 : Int32)), (.int (1 : Int32))]))
    have hc72 : ¬ ((1 : Int32) < (1 : Int32)) := by decide
    refine GoW.st (fun t k => XS.icmpNo X53.here hx rfl (hb hby at_72) rfl (flt hc72).1 (XS.aload X53.here hx rfl (hb hby at_75) rfl rfl (XS.iconst X53.here hx rfl (hb hby at_77) (XS.aload X53.here hx rfl (hb hby at_78) rfl rfl (XS.iconst X53.here hx rfl (hb hby at_80) (ldVJ X53 hx hZ e53 f54_V_b_22 (v := (.long q1)) ⟨by decide, by decide⟩ rfl (g := (mkF m 81 #[.val (.long q1), .second, .val (.long q2), .second, .val (.long q3), .second, .val (.long q4), .second, .val (.int p5), .val (.int (1 : Int32)), .val (.int (0 : Int32)), .val (.ref b_22), .val (.ref b_33), .val (.ref b_42), .val (.int (1 : Int32)), .val (.ref b53)] [(.int (0 : Int32)), (.ref b_22), (.int (0 : Int32)), (.ref b53)])) rfl rfl (hb hby at_81) t k)))))) ?_
    show GoW p e below QQ (T53.setTop (mkF m 82 #[.val (.long q1), .second, .val (.long q2), .second, .val (.long q3), .second, .val (.long q4), .second, .val (.int p5), .val (.int (1 : Int32)), .val (.int (0 : Int32)), .val (.ref b_22), .val (.ref b_33), .val (.ref b_42), .val (.int (1 : Int32)), .val (.ref b53)] [(.long q1), (.int (0 : Int32)), (.ref b53)]))
    obtain ⟨T55, h55, X55, e55, W55, V55, st55⟩ := stVJ X53 hx hZ e53 V53 ⟨by decide, by decide⟩ 0 rfl (Nat.le_of_ble_eq_true rfl) (g := (mkF m 82 #[.val (.long q1), .second, .val (.long q2), .second, .val (.long q3), .second, .val (.long q4), .second, .val (.int p5), .val (.int (1 : Int32)), .val (.int (0 : Int32)), .val (.ref b_22), .val (.ref b_33), .val (.ref b_42), .val (.int (1 : Int32)), .val (.ref b53)] [(.long q1), (.int (0 : Int32)), (.ref b53)])) rfl rfl (hb hby at_82)
    refine GoW.st st55 ?_
    have f56_V_b_22 : Arv Z h55 b_22 kb_22 .long (1 : Int32) [(.long q1)] (.long (0 : Int64)) := f54_V_b_22.other W55 ne53_b_22
    have f56_V_b_33 : Arv Z h55 b_33 kb_33 .long (0 : Int32) [] (.long (0 : Int64)) := f54_V_b_33.other W55 ne53_b_33
    have f56_V_b_42 : Arv Z h55 b_42 kb_42 .long (1 : Int32) [(.long w0_42)] (.long (0 : Int64)) := f54_V_b_42.other W55 ne53_b_42
    have f56_V_b53 : Arv Z h55 b53 k53 .long (4 : Int32) [(.long q1), (.long (0 : Int64)), (.long (0 : Int64)), (.long (0 : Int64))] (.long (0 : Int64)) := V55
    have K55 : Keep h0 h55 [] := K53.wr W55 (Or.inr sz53)
    have N55 := Fr.snoc X55 N51 gg53
    show GoW p e below QQ (T55.setTop (mkF m 83 #[.val (.long q1), .second, .val (.long q2), .second, .val (.long q3), .second, .val (.long q4), .second, .val (.int p5), .val (.int (1 : Int32)), .val (.int (0 : Int32)), .val (.ref b_22), .val (.ref b_33), .val (.ref b_42), .val (.int (1 : Int32)), .val (.ref b53)] []))
    refine GoW.st (fun t k => XS.iload X55.here hx rfl (hb hby at_83) rfl (XS.iconst X55.here hx rfl (hb hby at_85) k)) ?_
    show GoW p e below QQ (T55.setTop (mkF m 86 #[.val (.long q1), .second, .val (.long q2), .second, .val (.long q3), .second, .val (.long q4), .second, .val (.int p5), .val (.int (1 : Int32)), .val (.int (0 : Int32)), .val (.ref b_22), .val (.ref b_33), .val (.ref b_42), .val (.int (1 : Int32)), .val (.ref b53)] [(.int (2 : Int32)), (.int (1 : Int32))]))
    have hc86 : ¬ ((1 : Int32) = (2 : Int32)) := by decide
    refine GoW.st (fun t k => XS.icmpYes X55.here hx rfl (pc0 := 86) (pc' := 97) rfl (hb hby at_86) rfl (feq hc86).2 (by decide) (by decide) (XS.iload X55.here hx rfl (hb hby at_97) rfl (XS.iconst X55.here hx rfl (hb hby at_99) k))) ?_
    show GoW p e below QQ (T55.setTop (mkF m 100 #[.val (.long q1), .second, .val (.long q2), .second, .val (.long q3), .second, .val (.long q4), .second, .val (.int p5), .val (.int (1 : Int32)), .val (.int (0 : Int32)), .val (.ref b_22), .val (.ref b_33), .val (.ref b_42), .val (.int (1 : Int32)), .val (.ref b53)] [(.int (1 : Int32)), (.int (0 : Int32))]))
    have hc100 : (0 : Int32) < (1 : Int32) := by decide
    refine GoW.st (fun t k => XS.icmpYes X55.here hx rfl (pc0 := 100) (pc' := 112) rfl (hb hby at_100) rfl (tlt hc100).1 (by decide) (by decide) (XS.iload X55.here hx rfl (hb hby at_112) rfl (XS.iconst X55.here hx rfl (hb hby at_114) k))) ?_
    show GoW p e below QQ (T55.setTop (mkF m 115 #[.val (.long q1), .second, .val (.long q2), .second, .val (.long q3), .second, .val (.long q4), .second, .val (.int p5), .val (.int (1 : Int32)), .val (.int (0 : Int32)), .val (.ref b_22), .val (.ref b_33), .val (.ref b_42), .val (.int (1 : Int32)), .val (.ref b53)] [(.int (2 : Int32)), (.int (0 : Int32))]))
    have hc115 : ¬ ((0 : Int32) = (2 : Int32)) := by decide
    refine GoW.st (fun t k => XS.icmpYes X55.here hx rfl (pc0 := 115) (pc' := 129) rfl (hb hby at_115) rfl (feq hc115).2 (by decide) (by decide) (XS.aload X55.here hx rfl (hb hby at_129) rfl rfl (XS.iload X55.here hx rfl (hb hby at_131) rfl (XS.iconst X55.here hx rfl (hb hby at_133) (XS.iconst X55.here hx rfl (hb hby at_134) k))))) ?_
    show GoW p e below QQ (T55.setTop (mkF m 135 #[.val (.long q1), .second, .val (.long q2), .second, .val (.long q3), .second, .val (.long q4), .second, .val (.int p5), .val (.int (1 : Int32)), .val (.int (0 : Int32)), .val (.ref b_22), .val (.ref b_33), .val (.ref b_42), .val (.int (1 : Int32)), .val (.ref b53)] [(.int (1 : Int32)), (.int (0 : Int32)), (.int (1 : Int32)), (.ref b53)]))
    obtain ⟨_, _, ⟨T57, zL57, zk57, zn57⟩, -, X57, ⟨Lc57, hQ57, zl57, zy57, zz57⟩, st57⟩ := Jvm.LawKit.callS X55 hx (y := (⟨"com/example/hike/hike/HoldersMergePinLaw", "cx", "([JIII)V"⟩ : MethodName)) hown (mvT hZ (hw _ (List.mem_of_getElem? (i := 9) rfl))) (mvT hZ (hw _ (List.mem_of_getElem? (i := 10) rfl))) (mvT hZ (hw _ (List.mem_of_getElem? (i := 2) rfl))) (mvT hZ (hw _ (List.mem_of_getElem? (i := 11) rfl))) (by decide) (backOf (W := 0) (rm3_101 l Z a0 hw [] b53 h55 n0 (Nat.le_trans Z0 K55.1) ) hZ (hw _ (List.mem_of_getElem? (i := 11) rfl)) (hw _ (List.mem_of_getElem? (i := 2) rfl)) (by decide) (by decide)) (g := (mkF m 135 #[.val (.long q1), .second, .val (.long q2), .second, .val (.long q3), .second, .val (.long q4), .second, .val (.int p5), .val (.int (1 : Int32)), .val (.int (0 : Int32)), .val (.ref b_22), .val (.ref b_33), .val (.ref b_42), .val (.int (1 : Int32)), .val (.ref b53)] [(.int (1 : Int32)), (.int (0 : Int32)), (.int (1 : Int32)), (.ref b53)])) rfl (by rw [hml]; rfl) (argsL := [(.ref b53), (.int (1 : Int32)), (.int (0 : Int32)), (.int (1 : Int32))]) (rest := []) (lenOf pd_3 rfl) rfl (by show 2 * 0 + _ ≤ _; exact Nat.le_of_eq rfl) (hb hby at_135) (fun _ _ => ⟨rfl, e55, (by decide : 4 + 0 ≤ _), (by decide : 6 + 0 ≤ _)⟩)
    dsimp only [Pt.U, Pt.locs, Pt.cells, Pt.slots] at X57 zl57 zy57 zz57 st57 hQ57
    subst zl57 zy57 zz57
    obtain ⟨rfl, Nq57, hh57⟩ := hQ57
    have N57 := Fr.app N55 Nq57
    refine GoW.st st57 ?_
    show GoW p e below QQ (T57.setTop (mkF m 138 #[.val (.long q1), .second, .val (.long q2), .second, .val (.long q3), .second, .val (.long q4), .second, .val (.int p5), .val (.int (1 : Int32)), .val (.int (0 : Int32)), .val (.ref b_22), .val (.ref b_33), .val (.ref b_42), .val (.int (1 : Int32)), .val (.ref b53)] []))
    refine GoW.st (fun t k => XS.aload X57.here hx rfl (hb hby at_138) rfl rfl (XS.iload X57.here hx rfl (hb hby at_140) rfl (XS.iconst X57.here hx rfl (hb hby at_142) (XS.iconst X57.here hx rfl (hb hby at_143) k)))) ?_
    show GoW p e below QQ (T57.setTop (mkF m 144 #[.val (.long q1), .second, .val (.long q2), .second, .val (.long q3), .second, .val (.long q4), .second, .val (.int p5), .val (.int (1 : Int32)), .val (.int (0 : Int32)), .val (.ref b_22), .val (.ref b_33), .val (.ref b_42), .val (.int (1 : Int32)), .val (.ref b53)] [(.int (3 : Int32)), (.int (2 : Int32)), (.int (1 : Int32)), (.ref b53)]))
    obtain ⟨_, _, ⟨T58, zL58, zk58, zn58⟩, -, X58, ⟨Lc58, hQ58, zl58, zy58, zz58⟩, st58⟩ := Jvm.LawKit.callS X57 hx (y := (⟨"com/example/hike/hike/HoldersMergePinLaw", "cx", "([JIII)V"⟩ : MethodName)) hown (mvT hZ (hw _ (List.mem_of_getElem? (i := 9) rfl))) (mvT hZ (hw _ (List.mem_of_getElem? (i := 10) rfl))) (mvT hZ (hw _ (List.mem_of_getElem? (i := 2) rfl))) (mvT hZ (hw _ (List.mem_of_getElem? (i := 11) rfl))) (by decide) (backOf (W := 0) (rm3_123 l Z a0 hw [] b53 h55 n0 (Nat.le_trans Z0 K55.1) ) hZ (hw _ (List.mem_of_getElem? (i := 11) rfl)) (hw _ (List.mem_of_getElem? (i := 2) rfl)) (by decide) (by decide)) (g := (mkF m 144 #[.val (.long q1), .second, .val (.long q2), .second, .val (.long q3), .second, .val (.long q4), .second, .val (.int p5), .val (.int (1 : Int32)), .val (.int (0 : Int32)), .val (.ref b_22), .val (.ref b_33), .val (.ref b_42), .val (.int (1 : Int32)), .val (.ref b53)] [(.int (3 : Int32)), (.int (2 : Int32)), (.int (1 : Int32)), (.ref b53)])) rfl (by rw [hml]; rfl) (argsL := [(.ref b53), (.int (1 : Int32)), (.int (2 : Int32)), (.int (3 : Int32))]) (rest := []) (lenOf pd_3 rfl) rfl (by show 2 * 0 + _ ≤ _; exact Nat.le_of_eq rfl) (hb hby at_144) (fun _ _ => ⟨rfl, hh57, (by decide : 4 + 0 ≤ _), (by decide : 6 + 0 ≤ _)⟩)
    dsimp only [Pt.U, Pt.locs, Pt.cells, Pt.slots] at X58 zl58 zy58 zz58 st58 hQ58
    subst zl58 zy58 zz58
    obtain ⟨rfl, Nq58, hh58⟩ := hQ58
    have N58 := Fr.app N57 Nq58
    refine GoW.st st58 ?_
    show GoW p e below QQ (T58.setTop (mkF m 147 #[.val (.long q1), .second, .val (.long q2), .second, .val (.long q3), .second, .val (.long q4), .second, .val (.int p5), .val (.int (1 : Int32)), .val (.int (0 : Int32)), .val (.ref b_22), .val (.ref b_33), .val (.ref b_42), .val (.int (1 : Int32)), .val (.ref b53)] []))
    refine GoW.st (fun t k => XS.aload X58.here hx rfl (hb hby at_147) rfl rfl (XS.iload X58.here hx rfl (hb hby at_149) rfl (XS.iconst X58.here hx rfl (hb hby at_151) (XS.iconst X58.here hx rfl (hb hby at_152) k)))) ?_
    show GoW p e below QQ (T58.setTop (mkF m 153 #[.val (.long q1), .second, .val (.long q2), .second, .val (.long q3), .second, .val (.long q4), .second, .val (.int p5), .val (.int (1 : Int32)), .val (.int (0 : Int32)), .val (.ref b_22), .val (.ref b_33), .val (.ref b_42), .val (.int (1 : Int32)), .val (.ref b53)] [(.int (2 : Int32)), (.int (0 : Int32)), (.int (1 : Int32)), (.ref b53)]))
    obtain ⟨_, _, ⟨T59, zL59, zk59, zn59⟩, -, X59, ⟨Lc59, hQ59, zl59, zy59, zz59⟩, st59⟩ := Jvm.LawKit.callS X58 hx (y := (⟨"com/example/hike/hike/HoldersMergePinLaw", "cx", "([JIII)V"⟩ : MethodName)) hown (mvT hZ (hw _ (List.mem_of_getElem? (i := 9) rfl))) (mvT hZ (hw _ (List.mem_of_getElem? (i := 10) rfl))) (mvT hZ (hw _ (List.mem_of_getElem? (i := 2) rfl))) (mvT hZ (hw _ (List.mem_of_getElem? (i := 11) rfl))) (by decide) (backOf (W := 0) (rm3_102 l Z a0 hw [] b53 h55 n0 (Nat.le_trans Z0 K55.1) ) hZ (hw _ (List.mem_of_getElem? (i := 11) rfl)) (hw _ (List.mem_of_getElem? (i := 2) rfl)) (by decide) (by decide)) (g := (mkF m 153 #[.val (.long q1), .second, .val (.long q2), .second, .val (.long q3), .second, .val (.long q4), .second, .val (.int p5), .val (.int (1 : Int32)), .val (.int (0 : Int32)), .val (.ref b_22), .val (.ref b_33), .val (.ref b_42), .val (.int (1 : Int32)), .val (.ref b53)] [(.int (2 : Int32)), (.int (0 : Int32)), (.int (1 : Int32)), (.ref b53)])) rfl (by rw [hml]; rfl) (argsL := [(.ref b53), (.int (1 : Int32)), (.int (0 : Int32)), (.int (2 : Int32))]) (rest := []) (lenOf pd_3 rfl) rfl (by show 2 * 0 + _ ≤ _; exact Nat.le_of_eq rfl) (hb hby at_153) (fun _ _ => ⟨rfl, hh58, (by decide : 4 + 0 ≤ _), (by decide : 6 + 0 ≤ _)⟩)
    dsimp only [Pt.U, Pt.locs, Pt.cells, Pt.slots] at X59 zl59 zy59 zz59 st59 hQ59
    subst zl59 zy59 zz59
    obtain ⟨rfl, Nq59, hh59⟩ := hQ59
    have N59 := Fr.app N58 Nq59
    refine GoW.st st59 ?_
    show GoW p e below QQ (T59.setTop (mkF m 156 #[.val (.long q1), .second, .val (.long q2), .second, .val (.long q3), .second, .val (.long q4), .second, .val (.int p5), .val (.int (1 : Int32)), .val (.int (0 : Int32)), .val (.ref b_22), .val (.ref b_33), .val (.ref b_42), .val (.int (1 : Int32)), .val (.ref b53)] []))
    refine GoW.st (fun t k => XS.aload X59.here hx rfl (hb hby at_156) rfl rfl (XS.iload X59.here hx rfl (hb hby at_158) rfl (XS.iconst X59.here hx rfl (hb hby at_160) (XS.iconst X59.here hx rfl (hb hby at_161) k)))) ?_
    show GoW p e below QQ (T59.setTop (mkF m 162 #[.val (.long q1), .second, .val (.long q2), .second, .val (.long q3), .second, .val (.long q4), .second, .val (.int p5), .val (.int (1 : Int32)), .val (.int (0 : Int32)), .val (.ref b_22), .val (.ref b_33), .val (.ref b_42), .val (.int (1 : Int32)), .val (.ref b53)] [(.int (3 : Int32)), (.int (1 : Int32)), (.int (1 : Int32)), (.ref b53)]))
    obtain ⟨_, _, ⟨T60, zL60, zk60, zn60⟩, -, X60, ⟨Lc60, hQ60, zl60, zy60, zz60⟩, st60⟩ := Jvm.LawKit.callS X59 hx (y := (⟨"com/example/hike/hike/HoldersMergePinLaw", "cx", "([JIII)V"⟩ : MethodName)) hown (mvT hZ (hw _ (List.mem_of_getElem? (i := 9) rfl))) (mvT hZ (hw _ (List.mem_of_getElem? (i := 10) rfl))) (mvT hZ (hw _ (List.mem_of_getElem? (i := 2) rfl))) (mvT hZ (hw _ (List.mem_of_getElem? (i := 11) rfl))) (by decide) (backOf (W := 0) (rm3_113 l Z a0 hw [] b53 h55 n0 (Nat.le_trans Z0 K55.1) ) hZ (hw _ (List.mem_of_getElem? (i := 11) rfl)) (hw _ (List.mem_of_getElem? (i := 2) rfl)) (by decide) (by decide)) (g := (mkF m 162 #[.val (.long q1), .second, .val (.long q2), .second, .val (.long q3), .second, .val (.long q4), .second, .val (.int p5), .val (.int (1 : Int32)), .val (.int (0 : Int32)), .val (.ref b_22), .val (.ref b_33), .val (.ref b_42), .val (.int (1 : Int32)), .val (.ref b53)] [(.int (3 : Int32)), (.int (1 : Int32)), (.int (1 : Int32)), (.ref b53)])) rfl (by rw [hml]; rfl) (argsL := [(.ref b53), (.int (1 : Int32)), (.int (1 : Int32)), (.int (3 : Int32))]) (rest := []) (lenOf pd_3 rfl) rfl (by show 2 * 0 + _ ≤ _; exact Nat.le_of_eq rfl) (hb hby at_162) (fun _ _ => ⟨rfl, hh59, (by decide : 4 + 0 ≤ _), (by decide : 6 + 0 ≤ _)⟩)
    dsimp only [Pt.U, Pt.locs, Pt.cells, Pt.slots] at X60 zl60 zy60 zz60 st60 hQ60
    subst zl60 zy60 zz60
    obtain ⟨rfl, Nq60, hh60⟩ := hQ60
    have N60 := Fr.app N59 Nq60
    refine GoW.st st60 ?_
    show GoW p e below QQ (T60.setTop (mkF m 165 #[.val (.long q1), .second, .val (.long q2), .second, .val (.long q3), .second, .val (.long q4), .second, .val (.int p5), .val (.int (1 : Int32)), .val (.int (0 : Int32)), .val (.ref b_22), .val (.ref b_33), .val (.ref b_42), .val (.int (1 : Int32)), .val (.ref b53)] []))
    refine GoW.st (fun t k => XS.aload X60.here hx rfl (hb hby at_165) rfl rfl (XS.iload X60.here hx rfl (hb hby at_167) rfl (XS.iconst X60.here hx rfl (hb hby at_169) (XS.iconst X60.here hx rfl (hb hby at_170) k)))) ?_
    show GoW p e below QQ (T60.setTop (mkF m 171 #[.val (.long q1), .second, .val (.long q2), .second, .val (.long q3), .second, .val (.long q4), .second, .val (.int p5), .val (.int (1 : Int32)), .val (.int (0 : Int32)), .val (.ref b_22), .val (.ref b_33), .val (.ref b_42), .val (.int (1 : Int32)), .val (.ref b53)] [(.int (2 : Int32)), (.int (1 : Int32)), (.int (1 : Int32)), (.ref b53)]))
    obtain ⟨_, _, ⟨T61, zL61, zk61, zn61⟩, -, X61, ⟨Lc61, hQ61, zl61, zy61, zz61⟩, st61⟩ := Jvm.LawKit.callS X60 hx (y := (⟨"com/example/hike/hike/HoldersMergePinLaw", "cx", "([JIII)V"⟩ : MethodName)) hown (mvT hZ (hw _ (List.mem_of_getElem? (i := 9) rfl))) (mvT hZ (hw _ (List.mem_of_getElem? (i := 10) rfl))) (mvT hZ (hw _ (List.mem_of_getElem? (i := 2) rfl))) (mvT hZ (hw _ (List.mem_of_getElem? (i := 11) rfl))) (by decide) (backOf (W := 0) (rm3_112 l Z a0 hw [] b53 h55 n0 (Nat.le_trans Z0 K55.1) ) hZ (hw _ (List.mem_of_getElem? (i := 11) rfl)) (hw _ (List.mem_of_getElem? (i := 2) rfl)) (by decide) (by decide)) (g := (mkF m 171 #[.val (.long q1), .second, .val (.long q2), .second, .val (.long q3), .second, .val (.long q4), .second, .val (.int p5), .val (.int (1 : Int32)), .val (.int (0 : Int32)), .val (.ref b_22), .val (.ref b_33), .val (.ref b_42), .val (.int (1 : Int32)), .val (.ref b53)] [(.int (2 : Int32)), (.int (1 : Int32)), (.int (1 : Int32)), (.ref b53)])) rfl (by rw [hml]; rfl) (argsL := [(.ref b53), (.int (1 : Int32)), (.int (1 : Int32)), (.int (2 : Int32))]) (rest := []) (lenOf pd_3 rfl) rfl (by show 2 * 0 + _ ≤ _; exact Nat.le_of_eq rfl) (hb hby at_171) (fun _ _ => ⟨rfl, hh60, (by decide : 4 + 0 ≤ _), (by decide : 6 + 0 ≤ _)⟩)
    dsimp only [Pt.U, Pt.locs, Pt.cells, Pt.slots] at X61 zl61 zy61 zz61 st61 hQ61
    subst zl61 zy61 zz61
    obtain ⟨rfl, Nq61, hh61⟩ := hQ61
    have N61 := Fr.app N60 Nq61
    refine GoW.st st61 ?_
    show GoW p e below QQ (T61.setTop (mkF m 174 #[.val (.long q1), .second, .val (.long q2), .second, .val (.long q3), .second, .val (.long q4), .second, .val (.int p5), .val (.int (1 : Int32)), .val (.int (0 : Int32)), .val (.ref b_22), .val (.ref b_33), .val (.ref b_42), .val (.int (1 : Int32)), .val (.ref b53)] []))
    refine GoW.st (fun t k => XS.iconst X61.here hx rfl (hb hby at_174) (XS.iload X61.here hx rfl (hb hby at_175) rfl k)) ?_
    show GoW p e below QQ (T61.setTop (mkF m 177 #[.val (.long q1), .second, .val (.long q2), .second, .val (.long q3), .second, .val (.long q4), .second, .val (.int p5), .val (.int (1 : Int32)), .val (.int (0 : Int32)), .val (.ref b_22), .val (.ref b_33), .val (.ref b_42), .val (.int (1 : Int32)), .val (.ref b53)] [(.int (1 : Int32)), (.int (0 : Int32))]))
    have hc177 : (0 : Int32) < (1 : Int32) := by decide
    refine GoW.st (fun t k => XS.icmpNo X61.here hx rfl (hb hby at_177) rfl (tlt hc177).2.1 (XS.aload X61.here hx rfl (hb hby at_180) rfl rfl (XS.iconst X61.here hx rfl (hb hby at_182) (ldVJ X61 hx hZ hh61 f56_V_b_42 (v := (.long w0_42)) ⟨by decide, by decide⟩ rfl (g := (mkF m 183 #[.val (.long q1), .second, .val (.long q2), .second, .val (.long q3), .second, .val (.long q4), .second, .val (.int p5), .val (.int (1 : Int32)), .val (.int (0 : Int32)), .val (.ref b_22), .val (.ref b_33), .val (.ref b_42), .val (.int (1 : Int32)), .val (.ref b53)] [(.int (0 : Int32)), (.ref b_42)])) rfl rfl (hb hby at_183) t (XS.aload X61.here hx rfl (hb hby at_184) rfl rfl (XS.iconst X61.here hx rfl (hb hby at_186) k)))))) ?_
    show GoW p e below QQ (T61.setTop (mkF m 187 #[.val (.long q1), .second, .val (.long q2), .second, .val (.long q3), .second, .val (.long q4), .second, .val (.int p5), .val (.int (1 : Int32)), .val (.int (0 : Int32)), .val (.ref b_22), .val (.ref b_33), .val (.ref b_42), .val (.int (1 : Int32)), .val (.ref b53)] [(.int (0 : Int32)), (.ref b53), (.long w0_42)]))
    refine GoW.st (fun t k => ldVJ X61 hx hZ hh61 f56_V_b53 (v := (.long q1)) ⟨by decide, by decide⟩ rfl (g := (mkF m 187 #[.val (.long q1), .second, .val (.long q2), .second, .val (.long q3), .second, .val (.long q4), .second, .val (.int p5), .val (.int (1 : Int32)), .val (.int (0 : Int32)), .val (.ref b_22), .val (.ref b_33), .val (.ref b_42), .val (.int (1 : Int32)), .val (.ref b53)] [(.int (0 : Int32)), (.ref b53), (.long w0_42)])) rfl rfl (hb hby at_187) t (XS.lcmp X61.here hx rfl (hb hby at_188) rfl k)) ?_
    show GoW p e below QQ (T61.setTop (mkF m 189 #[.val (.long q1), .second, .val (.long q2), .second, .val (.long q3), .second, .val (.long q4), .second, .val (.int p5), .val (.int (1 : Int32)), .val (.int (0 : Int32)), .val (.ref b_22), .val (.ref b_33), .val (.ref b_42), .val (.int (1 : Int32)), .val (.ref b53)] [(.int (lcmpW w0_42 q1))]))
    have hc189 : w0_42 = q1 := by
      apply Int64.toInt_inj.mp
      omega
    refine GoW.st (fun t k => XS.ifYes X61.here hx rfl (pc0 := 189) (pc' := 194) rfl (hb hby at_189) rfl ((if0 _ _).trans (teq ((lw_eq w0_42 q1).mpr hc189)).1) (by decide) (by decide) (XS.iconst X61.here hx rfl (hb hby at_194) (XS.iload X61.here hx rfl (hb hby at_195) rfl k))) ?_
    show GoW p e below QQ (T61.setTop (mkF m 197 #[.val (.long q1), .second, .val (.long q2), .second, .val (.long q3), .second, .val (.long q4), .second, .val (.int p5), .val (.int (1 : Int32)), .val (.int (0 : Int32)), .val (.ref b_22), .val (.ref b_33), .val (.ref b_42), .val (.int (1 : Int32)), .val (.ref b53)] [(.int (1 : Int32)), (.int (1 : Int32))]))
    have hc197 : ¬ ((1 : Int32) < (1 : Int32)) := by decide
    refine GoW.st (fun t k => XS.icmpYes X61.here hx rfl (pc0 := 197) (pc' := 214) rfl (hb hby at_197) rfl (flt hc197).2.1 (by decide) (by decide) (XS.iconst X61.here hx rfl (hb hby at_214) (XS.iload X61.here hx rfl (hb hby at_215) rfl k))) ?_
    show GoW p e below QQ (T61.setTop (mkF m 217 #[.val (.long q1), .second, .val (.long q2), .second, .val (.long q3), .second, .val (.long q4), .second, .val (.int p5), .val (.int (1 : Int32)), .val (.int (0 : Int32)), .val (.ref b_22), .val (.ref b_33), .val (.ref b_42), .val (.int (1 : Int32)), .val (.ref b53)] [(.int (1 : Int32)), (.int (2 : Int32))]))
    have hc217 : ¬ ((2 : Int32) < (1 : Int32)) := by decide
    refine GoW.st (fun t k => XS.icmpYes X61.here hx rfl (pc0 := 217) (pc' := 234) rfl (hb hby at_217) rfl (flt hc217).2.1 (by decide) (by decide) (XS.iconst X61.here hx rfl (hb hby at_234) (XS.iload X61.here hx rfl (hb hby at_235) rfl k))) ?_
    show GoW p e below QQ (T61.setTop (mkF m 237 #[.val (.long q1), .second, .val (.long q2), .second, .val (.long q3), .second, .val (.long q4), .second, .val (.int p5), .val (.int (1 : Int32)), .val (.int (0 : Int32)), .val (.ref b_22), .val (.ref b_33), .val (.ref b_42), .val (.int (1 : Int32)), .val (.ref b53)] [(.int (1 : Int32)), (.int (3 : Int32))]))
    have hc237 : ¬ ((3 : Int32) < (1 : Int32)) := by decide
    refine GoW.st (fun t k => XS.icmpYes X61.here hx rfl (pc0 := 237) (pc' := 254) rfl (hb hby at_237) rfl (flt hc237).2.1 (by decide) (by decide) (XS.iconst X61.here hx rfl (hb hby at_254) k)) ?_
    show GoW p e below QQ (T61.setTop (mkF m 255 #[.val (.long q1), .second, .val (.long q2), .second, .val (.long q3), .second, .val (.long q4), .second, .val (.int p5), .val (.int (1 : Int32)), .val (.int (0 : Int32)), .val (.ref b_22), .val (.ref b_33), .val (.ref b_42), .val (.int (1 : Int32)), .val (.ref b53)] [(.int (1 : Int32))]))
    exact GoW.fin X61 (some (.int (nar .boolean (1 : Int32)))) (fun q => by rw [hret] at q; cases q) hlk hQ hh61 ⟨rfl, N61⟩ (by decide) (by decide) (fun fs hr => retN X61 hx (t := .boolean) hret (by simp) (hb hby at_255) hr)
  · skip
    show GoW p e below QQ (T0.setTop (mkF m 18 #[.val (.long q1), .second, .val (.long q2), .second, .val (.long q3), .second, .val (.long q4), .second, .val (.int p5), .val (.int (1 : Int32)), .val (.int (1 : Int32)), .unset, .unset, .unset, .unset, .unset] []))
    refine GoW.st (fun t k => XS.iload X0.here hx rfl (hb hby at_18) rfl (XS.lloadN X0.here hx rfl (hb hby at_20) rfl (XS.lloadN X0.here hx rfl (hb hby at_21) rfl k))) ?_
    show GoW p e below QQ (T0.setTop (mkF m 22 #[.val (.long q1), .second, .val (.long q2), .second, .val (.long q3), .second, .val (.long q4), .second, .val (.int p5), .val (.int (1 : Int32)), .val (.int (1 : Int32)), .unset, .unset, .unset, .unset, .unset] [(.long q2), (.long q1), (.int (1 : Int32))]))
    obtain ⟨_, _, ⟨T62, zL62, zk62, zn62⟩, -, X62, ⟨Lc62, hQ62, zl62, zy62, zz62⟩, st62⟩ := Jvm.LawKit.callS X0 hx (y := (⟨"com/example/hike/hike/HoldersMergePinLaw", "make", "(IJJ)[J"⟩ : MethodName)) hown (mvT hZ (hw _ (List.mem_of_getElem? (i := 0) rfl))) (mvT hZ (hw _ (List.mem_of_getElem? (i := 1) rfl))) (mvT hZ (hw _ (List.mem_of_getElem? (i := 2) rfl))) (mvT hZ (hw _ (List.mem_of_getElem? (i := 3) rfl))) (by decide) (backOf (W := 0) (rm1_1 l Z a0 hw [] q1 q2 h0 n0 (Nat.le_trans Z0 K0.1) ) hZ (hw _ (List.mem_of_getElem? (i := 3) rfl)) (hw _ (List.mem_of_getElem? (i := 2) rfl)) (by decide) (by decide)) (g := (mkF m 22 #[.val (.long q1), .second, .val (.long q2), .second, .val (.long q3), .second, .val (.long q4), .second, .val (.int p5), .val (.int (1 : Int32)), .val (.int (1 : Int32)), .unset, .unset, .unset, .unset, .unset] [(.long q2), (.long q1), (.int (1 : Int32))])) rfl (by rw [hml]; rfl) (argsL := [(.int (1 : Int32)), (.long q1), (.long q2)]) (rest := []) (lenOf pd_1 rfl) rfl (by show 2 * 0 + _ ≤ _; exact Nat.le_of_eq rfl) (hb hby at_22) (fun _ _ => ⟨rfl, e0, (by decide : 0 + 1 ≤ _), (by decide : 0 + 1 ≤ _)⟩)
    dsimp only [Pt.U, Pt.locs, Pt.cells, Pt.slots] at X62 zl62 zy62 zz62 st62 hQ62
    subst zl62 zy62 zz62
    obtain ⟨b_22, kb_22, rfl, Nq62, Kq62, p62_0, p62_1⟩ := hQ62
    have N62 := Fr.app N0 Nq62
    refine GoW.st st62 ?_
    have sz62_b_22 : h0.size ≤ b_22 := Nat.le_trans K0.1 p62_0
    have gg62_b_22 : n0 ≤ b_22 := Nat.le_trans Z0 sz62_b_22
    have K62 : Keep h0 T62.heap [] := K0.trans Kq62 all0
    show GoW p e below QQ (T62.setTop (mkF m 25 #[.val (.long q1), .second, .val (.long q2), .second, .val (.long q3), .second, .val (.long q4), .second, .val (.int p5), .val (.int (1 : Int32)), .val (.int (1 : Int32)), .unset, .unset, .unset, .unset, .unset] [(.ref b_22)]))
    refine GoW.st (fun t k => XS.astore X62.here hx rfl (hb hby at_25) rfl rfl (l' := #[.val (.long q1), .second, .val (.long q2), .second, .val (.long q3), .second, .val (.long q4), .second, .val (.int p5), .val (.int (1 : Int32)), .val (.int (1 : Int32)), .val (.ref b_22), .unset, .unset, .unset, .unset]) rfl (XS.iload X62.here hx rfl (hb hby at_27) rfl (XS.lload X62.here hx rfl (hb hby at_29) rfl (XS.lload X62.here hx rfl (hb hby at_31) rfl k)))) ?_
    show GoW p e below QQ (T62.setTop (mkF m 33 #[.val (.long q1), .second, .val (.long q2), .second, .val (.long q3), .second, .val (.long q4), .second, .val (.int p5), .val (.int (1 : Int32)), .val (.int (1 : Int32)), .val (.ref b_22), .unset, .unset, .unset, .unset] [(.long q4), (.long q3), (.int (1 : Int32))]))
    obtain ⟨_, _, ⟨T64, zL64, zk64, zn64⟩, -, X64, ⟨Lc64, hQ64, zl64, zy64, zz64⟩, st64⟩ := Jvm.LawKit.callS X62 hx (y := (⟨"com/example/hike/hike/HoldersMergePinLaw", "make", "(IJJ)[J"⟩ : MethodName)) hown (mvT hZ (hw _ (List.mem_of_getElem? (i := 0) rfl))) (mvT hZ (hw _ (List.mem_of_getElem? (i := 1) rfl))) (mvT hZ (hw _ (List.mem_of_getElem? (i := 2) rfl))) (mvT hZ (hw _ (List.mem_of_getElem? (i := 3) rfl))) (by decide) (backOf (W := 0) (rm1_1 l Z a0 hw [] q3 q4 T62.heap n0 (Nat.le_trans Z0 K62.1) ) hZ (hw _ (List.mem_of_getElem? (i := 3) rfl)) (hw _ (List.mem_of_getElem? (i := 2) rfl)) (by decide) (by decide)) (g := (mkF m 33 #[.val (.long q1), .second, .val (.long q2), .second, .val (.long q3), .second, .val (.long q4), .second, .val (.int p5), .val (.int (1 : Int32)), .val (.int (1 : Int32)), .val (.ref b_22), .unset, .unset, .unset, .unset] [(.long q4), (.long q3), (.int (1 : Int32))])) rfl (by rw [hml]; rfl) (argsL := [(.int (1 : Int32)), (.long q3), (.long q4)]) (rest := []) (lenOf pd_1 rfl) rfl (by show 2 * 0 + _ ≤ _; exact Nat.le_of_eq rfl) (hb hby at_33) (fun _ _ => ⟨rfl, rfl, (by decide : 1 + 1 ≤ _), (by decide : 1 + 1 ≤ _)⟩)
    dsimp only [Pt.U, Pt.locs, Pt.cells, Pt.slots] at X64 zl64 zy64 zz64 st64 hQ64
    subst zl64 zy64 zz64
    obtain ⟨b_33, kb_33, rfl, Nq64, Kq64, p64_0, p64_1⟩ := hQ64
    have N64 := Fr.app N62 Nq64
    refine GoW.st st64 ?_
    have ne64_b_22_b_33 : b_22 ≠ b_33 := Nat.ne_of_lt (Nat.lt_of_lt_of_le p62_1.lt p64_0)
    have sz64_b_33 : h0.size ≤ b_33 := Nat.le_trans K62.1 p64_0
    have gg64_b_33 : n0 ≤ b_33 := Nat.le_trans Z0 sz64_b_33
    have f65_V_b_22 : Arv Z T64.heap b_22 kb_22 .long (1 : Int32) [(.long q1)] (.long (0 : Int64)) := p62_1.keep Kq64 nin0
    have K64 : Keep h0 T64.heap [] := K62.trans Kq64 all0
    show GoW p e below QQ (T64.setTop (mkF m 36 #[.val (.long q1), .second, .val (.long q2), .second, .val (.long q3), .second, .val (.long q4), .second, .val (.int p5), .val (.int (1 : Int32)), .val (.int (1 : Int32)), .val (.ref b_22), .unset, .unset, .unset, .unset] [(.ref b_33)]))
    refine GoW.st (fun t k => XS.astore X64.here hx rfl (hb hby at_36) rfl rfl (l' := #[.val (.long q1), .second, .val (.long q2), .second, .val (.long q3), .second, .val (.long q4), .second, .val (.int p5), .val (.int (1 : Int32)), .val (.int (1 : Int32)), .val (.ref b_22), .val (.ref b_33), .unset, .unset, .unset]) rfl (XS.aload X64.here hx rfl (hb hby at_38) rfl rfl (XS.aload X64.here hx rfl (hb hby at_40) rfl rfl k))) ?_
    show GoW p e below QQ (T64.setTop (mkF m 42 #[.val (.long q1), .second, .val (.long q2), .second, .val (.long q3), .second, .val (.long q4), .second, .val (.int p5), .val (.int (1 : Int32)), .val (.int (1 : Int32)), .val (.ref b_22), .val (.ref b_33), .unset, .unset, .unset] [(.ref b_33), (.ref b_22)]))
    obtain ⟨_, _, ⟨T66, zL66, zk66, zn66⟩, -, X66, ⟨Lc66, hQ66, zl66, zy66, zz66⟩, st66⟩ := Jvm.LawKit.callS X64 hx (y := (⟨"com/example/hike/hike/Holders", "merge", "([J[J)[J"⟩ : MethodName)) hown (mvT hZ (hw _ (List.mem_of_getElem? (i := 5) rfl))) (mvT hZ (hw _ (List.mem_of_getElem? (i := 6) rfl))) (mvT hZ (hw _ (List.mem_of_getElem? (i := 7) rfl))) (mvT hZ (hw _ (List.mem_of_getElem? (i := 8) rfl))) (by decide) (backOf (W := 0) (rm2_11 l Z a0 hw [] b_22 b_33 kb_22 kb_33 q1 q3 T64.heap n0 (Nat.le_trans Z0 K64.1) f65_V_b_22 p64_1) hZ (hw _ (List.mem_of_getElem? (i := 8) rfl)) (hw _ (List.mem_of_getElem? (i := 7) rfl)) (by decide) (by decide)) (g := (mkF m 42 #[.val (.long q1), .second, .val (.long q2), .second, .val (.long q3), .second, .val (.long q4), .second, .val (.int p5), .val (.int (1 : Int32)), .val (.int (1 : Int32)), .val (.ref b_22), .val (.ref b_33), .unset, .unset, .unset] [(.ref b_33), (.ref b_22)])) rfl (by rw [hml]; rfl) (argsL := [(.ref b_22), (.ref b_33)]) (rest := []) (lenOf pd_2 rfl) rfl (by show 2 * 0 + _ ≤ _; exact Nat.le_of_eq rfl) (hb hby at_42) (fun _ _ => ⟨rfl, rfl, (by decide : 2 + 1 ≤ _), (by decide : 2 + 2 ≤ _)⟩)
    dsimp only [Pt.U, Pt.locs, Pt.cells, Pt.slots] at X66 zl66 zy66 zz66 st66 hQ66
    subst zl66 zy66 zz66
    obtain ⟨b_42, kb_42, w0_42, w1_42, rfl, Nq66, Kq66, p66_0, p66_1, p66_2⟩ := hQ66
    have N66 := Fr.app N64 Nq66
    refine GoW.st st66 ?_
    have ne66_b_22_b_42 : b_22 ≠ b_42 := Nat.ne_of_lt (Nat.lt_of_lt_of_le f65_V_b_22.lt p66_0)
    have ne66_b_33_b_42 : b_33 ≠ b_42 := Nat.ne_of_lt (Nat.lt_of_lt_of_le p64_1.lt p66_0)
    have sz66_b_42 : h0.size ≤ b_42 := Nat.le_trans K64.1 p66_0
    have gg66_b_42 : n0 ≤ b_42 := Nat.le_trans Z0 sz66_b_42
    have f67_V_b_22 : Arv Z T66.heap b_22 kb_22 .long (1 : Int32) [(.long q1)] (.long (0 : Int64)) := f65_V_b_22.keep Kq66 nin0
    have f67_V_b_33 : Arv Z T66.heap b_33 kb_33 .long (1 : Int32) [(.long q3)] (.long (0 : Int64)) := p64_1.keep Kq66 nin0
    have K66 : Keep h0 T66.heap [] := K64.trans Kq66 all0
    have hw_42 := p66_2
    show GoW p e below QQ (T66.setTop (mkF m 45 #[.val (.long q1), .second, .val (.long q2), .second, .val (.long q3), .second, .val (.long q4), .second, .val (.int p5), .val (.int (1 : Int32)), .val (.int (1 : Int32)), .val (.ref b_22), .val (.ref b_33), .unset, .unset, .unset] [(.ref b_42)]))
    refine GoW.st (fun t k => XS.astore X66.here hx rfl (hb hby at_45) rfl rfl (l' := #[.val (.long q1), .second, .val (.long q2), .second, .val (.long q3), .second, .val (.long q4), .second, .val (.int p5), .val (.int (1 : Int32)), .val (.int (1 : Int32)), .val (.ref b_22), .val (.ref b_33), .val (.ref b_42), .unset, .unset]) rfl (XS.iload X66.here hx rfl (hb hby at_47) rfl (XS.iload X66.here hx rfl (hb hby at_49) rfl (XS.iadd X66.here hx rfl (hb hby at_51) rfl (XS.istore X66.here hx rfl (hb hby at_52) rfl (l' := #[.val (.long q1), .second, .val (.long q2), .second, .val (.long q3), .second, .val (.long q4), .second, .val (.int p5), .val (.int (1 : Int32)), .val (.int (1 : Int32)), .val (.ref b_22), .val (.ref b_33), .val (.ref b_42), .val (.int (2 : Int32)), .unset]) rfl (XS.aload X66.here hx rfl (hb hby at_54) rfl rfl k)))))) ?_
    show GoW p e below QQ (T66.setTop (mkF m 56 #[.val (.long q1), .second, .val (.long q2), .second, .val (.long q3), .second, .val (.long q4), .second, .val (.int p5), .val (.int (1 : Int32)), .val (.int (1 : Int32)), .val (.ref b_22), .val (.ref b_33), .val (.ref b_42), .val (.int (2 : Int32)), .unset] [(.ref b_42)]))
    refine GoW.st (fun t k => lnV X66 hx hZ rfl p66_1 (g := (mkF m 56 #[.val (.long q1), .second, .val (.long q2), .second, .val (.long q3), .second, .val (.long q4), .second, .val (.int p5), .val (.int (1 : Int32)), .val (.int (1 : Int32)), .val (.ref b_22), .val (.ref b_33), .val (.ref b_42), .val (.int (2 : Int32)), .unset] [(.ref b_42)])) rfl rfl (hb hby at_56) t (XS.iload X66.here hx rfl (hb hby at_57) rfl k)) ?_
    show GoW p e below QQ (T66.setTop (mkF m 59 #[.val (.long q1), .second, .val (.long q2), .second, .val (.long q3), .second, .val (.long q4), .second, .val (.int p5), .val (.int (1 : Int32)), .val (.int (1 : Int32)), .val (.ref b_22), .val (.ref b_33), .val (.ref b_42), .val (.int (2 : Int32)), .unset] [(.int (2 : Int32)), (.int (2 : Int32))]))
    have hc59 : (2 : Int32) = (2 : Int32) := by decide
    refine GoW.st (fun t k => XS.icmpYes X66.here hx rfl (pc0 := 59) (pc' := 64) rfl (hb hby at_59) rfl (teq hc59).1 (by decide) (by decide) (XS.iconst X66.here hx rfl (hb hby at_64) k)) ?_
    show GoW p e below QQ (T66.setTop (mkF m 65 #[.val (.long q1), .second, .val (.long q2), .second, .val (.long q3), .second, .val (.long q4), .second, .val (.int p5), .val (.int (1 : Int32)), .val (.int (1 : Int32)), .val (.ref b_22), .val (.ref b_33), .val (.ref b_42), .val (.int (2 : Int32)), .unset] [(.int (4 : Int32))]))
    obtain ⟨T68, h68, k68, X68, e68, E68, A68, st68⟩ := newP X66 hx hZ (hw _ (List.mem_of_getElem? (i := 4) rfl)) rfl (g := (mkF m 65 #[.val (.long q1), .second, .val (.long q2), .second, .val (.long q3), .second, .val (.long q4), .second, .val (.int p5), .val (.int (1 : Int32)), .val (.int (1 : Int32)), .val (.ref b_22), .val (.ref b_33), .val (.ref b_42), .val (.int (2 : Int32)), .unset] [(.int (4 : Int32))])) rfl (hb hby at_65) rfl (by decide) (cap := 4) (by decide) (by decide) (by decide) (by decide)
    obtain ⟨b68, g68⟩ : ∃ z, z = T66.heap.size := ⟨_, rfl⟩
    rw [← g68] at A68 st68
    refine GoW.st st68 ?_
    have gg68 : n0 ≤ b68 := Nat.le_trans (Nat.le_trans Z0 K66.1) (Nat.le_of_eq g68.symm)
    have sz68 : h0.size ≤ b68 := Nat.le_trans K66.1 (Nat.le_of_eq g68.symm)
    have ne68_b_22 : b_22 ≠ b68 := Nat.ne_of_lt (Nat.lt_of_lt_of_le f67_V_b_22.lt (Nat.le_of_eq g68.symm))
    have ne68_b_33 : b_33 ≠ b68 := Nat.ne_of_lt (Nat.lt_of_lt_of_le f67_V_b_33.lt (Nat.le_of_eq g68.symm))
    have ne68_b_42 : b_42 ≠ b68 := Nat.ne_of_lt (Nat.lt_of_lt_of_le p66_1.lt (Nat.le_of_eq g68.symm))
    have f69_V_b_22 : Arv Z h68 b_22 kb_22 .long (1 : Int32) [(.long q1)] (.long (0 : Int64)) := f67_V_b_22.ext E68
    have f69_V_b_33 : Arv Z h68 b_33 kb_33 .long (1 : Int32) [(.long q3)] (.long (0 : Int64)) := f67_V_b_33.ext E68
    have f69_V_b_42 : Arv Z h68 b_42 kb_42 .long (2 : Int32) [(.long w0_42), (.long w1_42)] (.long (0 : Int64)) := p66_1.ext E68
    have K68 : Keep h0 h68 [] := K66.ext E68
    have V68 : Arv Z h68 b68 k68 .long (4 : Int32) [(.long (0 : Int64)), (.long (0 : Int64)), (.long (0 : Int64)), (.long (0 : Int64))] (.long (0 : Int64)) := (Arv.new A68 (by decide)).pad (pad_rep [] (.long (0 : Int64)) 4)
    show GoW p e below QQ (T68.setTop (mkF m 67 #[.val (.long q1), .second, .val (.long q2), .second, .val (.long q3), .second, .val (.long q4), .second, .val (.int p5), .val (.int (1 : Int32)), .val (.int (1 : Int32)), .val (.ref b_22), .val (.ref b_33), .val (.ref b_42), .val (.int (2 : Int32)), .unset] [(.ref b68)]))
    refine GoW.st (fun t k => XS.astore X68.here hx rfl (hb hby at_67) rfl rfl (l' := #[.val (.long q1), .second, .val (.long q2), .second, .val (.long q3), .second, .val (.long q4), .second, .val (.int p5), .val (.int (1 : Int32)), .val (.int (1 : Int32)), .val (.ref b_22), .val (.ref b_33), .val (.ref b_42), .val (.int (2 : Int32)), .val (.ref b68)]) rfl (XS.iload X68.here hx rfl (hb hby at_69) rfl (XS.iconst X68.here hx rfl (hb hby at_71) k))) ?_
    show GoW p e below QQ (T68.setTop (mkF m 72 #[.val (.long q1), .second, .val (.long q2), .second, .val (.long q3), .second, .val (.long q4), .second, .val (.int p5), .val (.int (1 : Int32)), .val (.int (1 : Int32)), .val (.ref b_22), .val (.ref b_33), .val (.ref b_42), .val (.int (2 : Int32)), .val (.ref b68)] [(.int (1 : Int32)), (.int (1 : Int32))]))
    have hc72 : ¬ ((1 : Int32) < (1 : Int32)) := by decide
    refine GoW.st (fun t k => XS.icmpNo X68.here hx rfl (hb hby at_72) rfl (flt hc72).1 (XS.aload X68.here hx rfl (hb hby at_75) rfl rfl (XS.iconst X68.here hx rfl (hb hby at_77) (XS.aload X68.here hx rfl (hb hby at_78) rfl rfl (XS.iconst X68.here hx rfl (hb hby at_80) (ldVJ X68 hx hZ e68 f69_V_b_22 (v := (.long q1)) ⟨by decide, by decide⟩ rfl (g := (mkF m 81 #[.val (.long q1), .second, .val (.long q2), .second, .val (.long q3), .second, .val (.long q4), .second, .val (.int p5), .val (.int (1 : Int32)), .val (.int (1 : Int32)), .val (.ref b_22), .val (.ref b_33), .val (.ref b_42), .val (.int (2 : Int32)), .val (.ref b68)] [(.int (0 : Int32)), (.ref b_22), (.int (0 : Int32)), (.ref b68)])) rfl rfl (hb hby at_81) t k)))))) ?_
    show GoW p e below QQ (T68.setTop (mkF m 82 #[.val (.long q1), .second, .val (.long q2), .second, .val (.long q3), .second, .val (.long q4), .second, .val (.int p5), .val (.int (1 : Int32)), .val (.int (1 : Int32)), .val (.ref b_22), .val (.ref b_33), .val (.ref b_42), .val (.int (2 : Int32)), .val (.ref b68)] [(.long q1), (.int (0 : Int32)), (.ref b68)]))
    obtain ⟨T70, h70, X70, e70, W70, V70, st70⟩ := stVJ X68 hx hZ e68 V68 ⟨by decide, by decide⟩ 0 rfl (Nat.le_of_ble_eq_true rfl) (g := (mkF m 82 #[.val (.long q1), .second, .val (.long q2), .second, .val (.long q3), .second, .val (.long q4), .second, .val (.int p5), .val (.int (1 : Int32)), .val (.int (1 : Int32)), .val (.ref b_22), .val (.ref b_33), .val (.ref b_42), .val (.int (2 : Int32)), .val (.ref b68)] [(.long q1), (.int (0 : Int32)), (.ref b68)])) rfl rfl (hb hby at_82)
    refine GoW.st st70 ?_
    have f71_V_b_22 : Arv Z h70 b_22 kb_22 .long (1 : Int32) [(.long q1)] (.long (0 : Int64)) := f69_V_b_22.other W70 ne68_b_22
    have f71_V_b_33 : Arv Z h70 b_33 kb_33 .long (1 : Int32) [(.long q3)] (.long (0 : Int64)) := f69_V_b_33.other W70 ne68_b_33
    have f71_V_b_42 : Arv Z h70 b_42 kb_42 .long (2 : Int32) [(.long w0_42), (.long w1_42)] (.long (0 : Int64)) := f69_V_b_42.other W70 ne68_b_42
    have f71_V_b68 : Arv Z h70 b68 k68 .long (4 : Int32) [(.long q1), (.long (0 : Int64)), (.long (0 : Int64)), (.long (0 : Int64))] (.long (0 : Int64)) := V70
    have K70 : Keep h0 h70 [] := K68.wr W70 (Or.inr sz68)
    have N70 := Fr.snoc X70 N66 gg68
    show GoW p e below QQ (T70.setTop (mkF m 83 #[.val (.long q1), .second, .val (.long q2), .second, .val (.long q3), .second, .val (.long q4), .second, .val (.int p5), .val (.int (1 : Int32)), .val (.int (1 : Int32)), .val (.ref b_22), .val (.ref b_33), .val (.ref b_42), .val (.int (2 : Int32)), .val (.ref b68)] []))
    refine GoW.st (fun t k => XS.iload X70.here hx rfl (hb hby at_83) rfl (XS.iconst X70.here hx rfl (hb hby at_85) k)) ?_
    show GoW p e below QQ (T70.setTop (mkF m 86 #[.val (.long q1), .second, .val (.long q2), .second, .val (.long q3), .second, .val (.long q4), .second, .val (.int p5), .val (.int (1 : Int32)), .val (.int (1 : Int32)), .val (.ref b_22), .val (.ref b_33), .val (.ref b_42), .val (.int (2 : Int32)), .val (.ref b68)] [(.int (2 : Int32)), (.int (1 : Int32))]))
    have hc86 : ¬ ((1 : Int32) = (2 : Int32)) := by decide
    refine GoW.st (fun t k => XS.icmpYes X70.here hx rfl (pc0 := 86) (pc' := 97) rfl (hb hby at_86) rfl (feq hc86).2 (by decide) (by decide) (XS.iload X70.here hx rfl (hb hby at_97) rfl (XS.iconst X70.here hx rfl (hb hby at_99) k))) ?_
    show GoW p e below QQ (T70.setTop (mkF m 100 #[.val (.long q1), .second, .val (.long q2), .second, .val (.long q3), .second, .val (.long q4), .second, .val (.int p5), .val (.int (1 : Int32)), .val (.int (1 : Int32)), .val (.ref b_22), .val (.ref b_33), .val (.ref b_42), .val (.int (2 : Int32)), .val (.ref b68)] [(.int (1 : Int32)), (.int (1 : Int32))]))
    have hc100 : ¬ ((1 : Int32) < (1 : Int32)) := by decide
    refine GoW.st (fun t k => XS.icmpNo X70.here hx rfl (hb hby at_100) rfl (flt hc100).1 (XS.aload X70.here hx rfl (hb hby at_103) rfl rfl (XS.iload X70.here hx rfl (hb hby at_105) rfl (XS.aload X70.here hx rfl (hb hby at_107) rfl rfl (XS.iconst X70.here hx rfl (hb hby at_109) (ldVJ X70 hx hZ e70 f71_V_b_33 (v := (.long q3)) ⟨by decide, by decide⟩ rfl (g := (mkF m 110 #[.val (.long q1), .second, .val (.long q2), .second, .val (.long q3), .second, .val (.long q4), .second, .val (.int p5), .val (.int (1 : Int32)), .val (.int (1 : Int32)), .val (.ref b_22), .val (.ref b_33), .val (.ref b_42), .val (.int (2 : Int32)), .val (.ref b68)] [(.int (0 : Int32)), (.ref b_33), (.int (1 : Int32)), (.ref b68)])) rfl rfl (hb hby at_110) t k)))))) ?_
    show GoW p e below QQ (T70.setTop (mkF m 111 #[.val (.long q1), .second, .val (.long q2), .second, .val (.long q3), .second, .val (.long q4), .second, .val (.int p5), .val (.int (1 : Int32)), .val (.int (1 : Int32)), .val (.ref b_22), .val (.ref b_33), .val (.ref b_42), .val (.int (2 : Int32)), .val (.ref b68)] [(.long q3), (.int (1 : Int32)), (.ref b68)]))
    obtain ⟨T72, h72, X72, e72, W72, V72, st72⟩ := stVJ X70 hx hZ e70 f71_V_b68 ⟨by decide, by decide⟩ 1 rfl (Nat.le_of_ble_eq_true rfl) (g := (mkF m 111 #[.val (.long q1), .second, .val (.long q2), .second, .val (.long q3), .second, .val (.long q4), .second, .val (.int p5), .val (.int (1 : Int32)), .val (.int (1 : Int32)), .val (.ref b_22), .val (.ref b_33), .val (.ref b_42), .val (.int (2 : Int32)), .val (.ref b68)] [(.long q3), (.int (1 : Int32)), (.ref b68)])) rfl rfl (hb hby at_111)
    refine GoW.st st72 ?_
    have f73_V_b_22 : Arv Z h72 b_22 kb_22 .long (1 : Int32) [(.long q1)] (.long (0 : Int64)) := f71_V_b_22.other W72 ne68_b_22
    have f73_V_b_33 : Arv Z h72 b_33 kb_33 .long (1 : Int32) [(.long q3)] (.long (0 : Int64)) := f71_V_b_33.other W72 ne68_b_33
    have f73_V_b_42 : Arv Z h72 b_42 kb_42 .long (2 : Int32) [(.long w0_42), (.long w1_42)] (.long (0 : Int64)) := f71_V_b_42.other W72 ne68_b_42
    have f73_V_b68 : Arv Z h72 b68 k68 .long (4 : Int32) [(.long q1), (.long q3), (.long (0 : Int64)), (.long (0 : Int64))] (.long (0 : Int64)) := V72
    have K72 : Keep h0 h72 [] := K70.wr W72 (Or.inr sz68)
    have N72 := Fr.snoc X72 N70 gg68
    show GoW p e below QQ (T72.setTop (mkF m 112 #[.val (.long q1), .second, .val (.long q2), .second, .val (.long q3), .second, .val (.long q4), .second, .val (.int p5), .val (.int (1 : Int32)), .val (.int (1 : Int32)), .val (.ref b_22), .val (.ref b_33), .val (.ref b_42), .val (.int (2 : Int32)), .val (.ref b68)] []))
    refine GoW.st (fun t k => XS.iload X72.here hx rfl (hb hby at_112) rfl (XS.iconst X72.here hx rfl (hb hby at_114) k)) ?_
    show GoW p e below QQ (T72.setTop (mkF m 115 #[.val (.long q1), .second, .val (.long q2), .second, .val (.long q3), .second, .val (.long q4), .second, .val (.int p5), .val (.int (1 : Int32)), .val (.int (1 : Int32)), .val (.ref b_22), .val (.ref b_33), .val (.ref b_42), .val (.int (2 : Int32)), .val (.ref b68)] [(.int (2 : Int32)), (.int (1 : Int32))]))
    have hc115 : ¬ ((1 : Int32) = (2 : Int32)) := by decide
    refine GoW.st (fun t k => XS.icmpYes X72.here hx rfl (pc0 := 115) (pc' := 129) rfl (hb hby at_115) rfl (feq hc115).2 (by decide) (by decide) (XS.aload X72.here hx rfl (hb hby at_129) rfl rfl (XS.iload X72.here hx rfl (hb hby at_131) rfl (XS.iconst X72.here hx rfl (hb hby at_133) (XS.iconst X72.here hx rfl (hb hby at_134) k))))) ?_
    show GoW p e below QQ (T72.setTop (mkF m 135 #[.val (.long q1), .second, .val (.long q2), .second, .val (.long q3), .second, .val (.long q4), .second, .val (.int p5), .val (.int (1 : Int32)), .val (.int (1 : Int32)), .val (.ref b_22), .val (.ref b_33), .val (.ref b_42), .val (.int (2 : Int32)), .val (.ref b68)] [(.int (1 : Int32)), (.int (0 : Int32)), (.int (2 : Int32)), (.ref b68)]))
    obtain ⟨_, _, ⟨T74, zL74, zk74, zn74⟩, -, X74, ⟨Lc74, hQ74, zl74, zy74, zz74⟩, st74⟩ := Jvm.LawKit.callS X72 hx (y := (⟨"com/example/hike/hike/HoldersMergePinLaw", "cx", "([JIII)V"⟩ : MethodName)) hown (mvT hZ (hw _ (List.mem_of_getElem? (i := 9) rfl))) (mvT hZ (hw _ (List.mem_of_getElem? (i := 10) rfl))) (mvT hZ (hw _ (List.mem_of_getElem? (i := 2) rfl))) (mvT hZ (hw _ (List.mem_of_getElem? (i := 11) rfl))) (by decide) (backOf (W := 0) (rm3_201 l Z a0 hw [] b68 k68 q1 q3 (0 : Int64) (0 : Int64) h72 n0 (Nat.le_trans Z0 K72.1) f73_V_b68 gg68) hZ (hw _ (List.mem_of_getElem? (i := 11) rfl)) (hw _ (List.mem_of_getElem? (i := 2) rfl)) (by decide) (by decide)) (g := (mkF m 135 #[.val (.long q1), .second, .val (.long q2), .second, .val (.long q3), .second, .val (.long q4), .second, .val (.int p5), .val (.int (1 : Int32)), .val (.int (1 : Int32)), .val (.ref b_22), .val (.ref b_33), .val (.ref b_42), .val (.int (2 : Int32)), .val (.ref b68)] [(.int (1 : Int32)), (.int (0 : Int32)), (.int (2 : Int32)), (.ref b68)])) rfl (by rw [hml]; rfl) (argsL := [(.ref b68), (.int (2 : Int32)), (.int (0 : Int32)), (.int (1 : Int32))]) (rest := []) (lenOf pd_3 rfl) rfl (by show 2 * 0 + _ ≤ _; exact Nat.le_of_eq rfl) (hb hby at_135) (fun _ _ => ⟨rfl, e72, (by decide : 4 + 0 ≤ _), (by decide : 8 + 0 ≤ _)⟩)
    dsimp only [Pt.U, Pt.locs, Pt.cells, Pt.slots] at X74 zl74 zy74 zz74 st74 hQ74
    subst zl74 zy74 zz74
    obtain ⟨wa_135, wb_135, rfl, Nq74, Kq74, p74_0, p74_1⟩ := hQ74
    have N74 := Fr.app N72 Nq74
    refine GoW.st st74 ?_
    have f75_V_b_42 : Arv Z T74.heap b_42 kb_42 .long (2 : Int32) [(.long w0_42), (.long w1_42)] (.long (0 : Int64)) := f73_V_b_42.keep Kq74 (ninS ne68_b_42 nin0)
    have K74 : Keep h0 T74.heap [] := K72.trans Kq74 (allS (Or.inr sz68) all0)
    have hs_135 := p74_1
    show GoW p e below QQ (T74.setTop (mkF m 138 #[.val (.long q1), .second, .val (.long q2), .second, .val (.long q3), .second, .val (.long q4), .second, .val (.int p5), .val (.int (1 : Int32)), .val (.int (1 : Int32)), .val (.ref b_22), .val (.ref b_33), .val (.ref b_42), .val (.int (2 : Int32)), .val (.ref b68)] []))
    refine GoW.st (fun t k => XS.aload X74.here hx rfl (hb hby at_138) rfl rfl (XS.iload X74.here hx rfl (hb hby at_140) rfl (XS.iconst X74.here hx rfl (hb hby at_142) (XS.iconst X74.here hx rfl (hb hby at_143) k)))) ?_
    show GoW p e below QQ (T74.setTop (mkF m 144 #[.val (.long q1), .second, .val (.long q2), .second, .val (.long q3), .second, .val (.long q4), .second, .val (.int p5), .val (.int (1 : Int32)), .val (.int (1 : Int32)), .val (.ref b_22), .val (.ref b_33), .val (.ref b_42), .val (.int (2 : Int32)), .val (.ref b68)] [(.int (3 : Int32)), (.int (2 : Int32)), (.int (2 : Int32)), (.ref b68)]))
    obtain ⟨_, _, ⟨T76, zL76, zk76, zn76⟩, -, X76, ⟨Lc76, hQ76, zl76, zy76, zz76⟩, st76⟩ := Jvm.LawKit.callS X74 hx (y := (⟨"com/example/hike/hike/HoldersMergePinLaw", "cx", "([JIII)V"⟩ : MethodName)) hown (mvT hZ (hw _ (List.mem_of_getElem? (i := 9) rfl))) (mvT hZ (hw _ (List.mem_of_getElem? (i := 10) rfl))) (mvT hZ (hw _ (List.mem_of_getElem? (i := 2) rfl))) (mvT hZ (hw _ (List.mem_of_getElem? (i := 11) rfl))) (by decide) (backOf (W := 0) (rm3_223 l Z a0 hw [] b68 T74.heap n0 (Nat.le_trans Z0 K74.1) ) hZ (hw _ (List.mem_of_getElem? (i := 11) rfl)) (hw _ (List.mem_of_getElem? (i := 2) rfl)) (by decide) (by decide)) (g := (mkF m 144 #[.val (.long q1), .second, .val (.long q2), .second, .val (.long q3), .second, .val (.long q4), .second, .val (.int p5), .val (.int (1 : Int32)), .val (.int (1 : Int32)), .val (.ref b_22), .val (.ref b_33), .val (.ref b_42), .val (.int (2 : Int32)), .val (.ref b68)] [(.int (3 : Int32)), (.int (2 : Int32)), (.int (2 : Int32)), (.ref b68)])) rfl (by rw [hml]; rfl) (argsL := [(.ref b68), (.int (2 : Int32)), (.int (2 : Int32)), (.int (3 : Int32))]) (rest := []) (lenOf pd_3 rfl) rfl (by show 2 * 0 + _ ≤ _; exact Nat.le_of_eq rfl) (hb hby at_144) (fun _ _ => ⟨rfl, rfl, (by decide : 4 + 0 ≤ _), (by decide : 8 + 0 ≤ _)⟩)
    dsimp only [Pt.U, Pt.locs, Pt.cells, Pt.slots] at X76 zl76 zy76 zz76 st76 hQ76
    subst zl76 zy76 zz76
    obtain ⟨rfl, Nq76, hh76⟩ := hQ76
    have N76 := Fr.app N74 Nq76
    refine GoW.st st76 ?_
    show GoW p e below QQ (T76.setTop (mkF m 147 #[.val (.long q1), .second, .val (.long q2), .second, .val (.long q3), .second, .val (.long q4), .second, .val (.int p5), .val (.int (1 : Int32)), .val (.int (1 : Int32)), .val (.ref b_22), .val (.ref b_33), .val (.ref b_42), .val (.int (2 : Int32)), .val (.ref b68)] []))
    refine GoW.st (fun t k => XS.aload X76.here hx rfl (hb hby at_147) rfl rfl (XS.iload X76.here hx rfl (hb hby at_149) rfl (XS.iconst X76.here hx rfl (hb hby at_151) (XS.iconst X76.here hx rfl (hb hby at_152) k)))) ?_
    show GoW p e below QQ (T76.setTop (mkF m 153 #[.val (.long q1), .second, .val (.long q2), .second, .val (.long q3), .second, .val (.long q4), .second, .val (.int p5), .val (.int (1 : Int32)), .val (.int (1 : Int32)), .val (.ref b_22), .val (.ref b_33), .val (.ref b_42), .val (.int (2 : Int32)), .val (.ref b68)] [(.int (2 : Int32)), (.int (0 : Int32)), (.int (2 : Int32)), (.ref b68)]))
    obtain ⟨_, _, ⟨T77, zL77, zk77, zn77⟩, -, X77, ⟨Lc77, hQ77, zl77, zy77, zz77⟩, st77⟩ := Jvm.LawKit.callS X76 hx (y := (⟨"com/example/hike/hike/HoldersMergePinLaw", "cx", "([JIII)V"⟩ : MethodName)) hown (mvT hZ (hw _ (List.mem_of_getElem? (i := 9) rfl))) (mvT hZ (hw _ (List.mem_of_getElem? (i := 10) rfl))) (mvT hZ (hw _ (List.mem_of_getElem? (i := 2) rfl))) (mvT hZ (hw _ (List.mem_of_getElem? (i := 11) rfl))) (by decide) (backOf (W := 0) (rm3_202 l Z a0 hw [] b68 T74.heap n0 (Nat.le_trans Z0 K74.1) ) hZ (hw _ (List.mem_of_getElem? (i := 11) rfl)) (hw _ (List.mem_of_getElem? (i := 2) rfl)) (by decide) (by decide)) (g := (mkF m 153 #[.val (.long q1), .second, .val (.long q2), .second, .val (.long q3), .second, .val (.long q4), .second, .val (.int p5), .val (.int (1 : Int32)), .val (.int (1 : Int32)), .val (.ref b_22), .val (.ref b_33), .val (.ref b_42), .val (.int (2 : Int32)), .val (.ref b68)] [(.int (2 : Int32)), (.int (0 : Int32)), (.int (2 : Int32)), (.ref b68)])) rfl (by rw [hml]; rfl) (argsL := [(.ref b68), (.int (2 : Int32)), (.int (0 : Int32)), (.int (2 : Int32))]) (rest := []) (lenOf pd_3 rfl) rfl (by show 2 * 0 + _ ≤ _; exact Nat.le_of_eq rfl) (hb hby at_153) (fun _ _ => ⟨rfl, hh76, (by decide : 4 + 0 ≤ _), (by decide : 8 + 0 ≤ _)⟩)
    dsimp only [Pt.U, Pt.locs, Pt.cells, Pt.slots] at X77 zl77 zy77 zz77 st77 hQ77
    subst zl77 zy77 zz77
    obtain ⟨rfl, Nq77, hh77⟩ := hQ77
    have N77 := Fr.app N76 Nq77
    refine GoW.st st77 ?_
    show GoW p e below QQ (T77.setTop (mkF m 156 #[.val (.long q1), .second, .val (.long q2), .second, .val (.long q3), .second, .val (.long q4), .second, .val (.int p5), .val (.int (1 : Int32)), .val (.int (1 : Int32)), .val (.ref b_22), .val (.ref b_33), .val (.ref b_42), .val (.int (2 : Int32)), .val (.ref b68)] []))
    refine GoW.st (fun t k => XS.aload X77.here hx rfl (hb hby at_156) rfl rfl (XS.iload X77.here hx rfl (hb hby at_158) rfl (XS.iconst X77.here hx rfl (hb hby at_160) (XS.iconst X77.here hx rfl (hb hby at_161) k)))) ?_
    show GoW p e below QQ (T77.setTop (mkF m 162 #[.val (.long q1), .second, .val (.long q2), .second, .val (.long q3), .second, .val (.long q4), .second, .val (.int p5), .val (.int (1 : Int32)), .val (.int (1 : Int32)), .val (.ref b_22), .val (.ref b_33), .val (.ref b_42), .val (.int (2 : Int32)), .val (.ref b68)] [(.int (3 : Int32)), (.int (1 : Int32)), (.int (2 : Int32)), (.ref b68)]))
    obtain ⟨_, _, ⟨T78, zL78, zk78, zn78⟩, -, X78, ⟨Lc78, hQ78, zl78, zy78, zz78⟩, st78⟩ := Jvm.LawKit.callS X77 hx (y := (⟨"com/example/hike/hike/HoldersMergePinLaw", "cx", "([JIII)V"⟩ : MethodName)) hown (mvT hZ (hw _ (List.mem_of_getElem? (i := 9) rfl))) (mvT hZ (hw _ (List.mem_of_getElem? (i := 10) rfl))) (mvT hZ (hw _ (List.mem_of_getElem? (i := 2) rfl))) (mvT hZ (hw _ (List.mem_of_getElem? (i := 11) rfl))) (by decide) (backOf (W := 0) (rm3_213 l Z a0 hw [] b68 T74.heap n0 (Nat.le_trans Z0 K74.1) ) hZ (hw _ (List.mem_of_getElem? (i := 11) rfl)) (hw _ (List.mem_of_getElem? (i := 2) rfl)) (by decide) (by decide)) (g := (mkF m 162 #[.val (.long q1), .second, .val (.long q2), .second, .val (.long q3), .second, .val (.long q4), .second, .val (.int p5), .val (.int (1 : Int32)), .val (.int (1 : Int32)), .val (.ref b_22), .val (.ref b_33), .val (.ref b_42), .val (.int (2 : Int32)), .val (.ref b68)] [(.int (3 : Int32)), (.int (1 : Int32)), (.int (2 : Int32)), (.ref b68)])) rfl (by rw [hml]; rfl) (argsL := [(.ref b68), (.int (2 : Int32)), (.int (1 : Int32)), (.int (3 : Int32))]) (rest := []) (lenOf pd_3 rfl) rfl (by show 2 * 0 + _ ≤ _; exact Nat.le_of_eq rfl) (hb hby at_162) (fun _ _ => ⟨rfl, hh77, (by decide : 4 + 0 ≤ _), (by decide : 8 + 0 ≤ _)⟩)
    dsimp only [Pt.U, Pt.locs, Pt.cells, Pt.slots] at X78 zl78 zy78 zz78 st78 hQ78
    subst zl78 zy78 zz78
    obtain ⟨rfl, Nq78, hh78⟩ := hQ78
    have N78 := Fr.app N77 Nq78
    refine GoW.st st78 ?_
    show GoW p e below QQ (T78.setTop (mkF m 165 #[.val (.long q1), .second, .val (.long q2), .second, .val (.long q3), .second, .val (.long q4), .second, .val (.int p5), .val (.int (1 : Int32)), .val (.int (1 : Int32)), .val (.ref b_22), .val (.ref b_33), .val (.ref b_42), .val (.int (2 : Int32)), .val (.ref b68)] []))
    refine GoW.st (fun t k => XS.aload X78.here hx rfl (hb hby at_165) rfl rfl (XS.iload X78.here hx rfl (hb hby at_167) rfl (XS.iconst X78.here hx rfl (hb hby at_169) (XS.iconst X78.here hx rfl (hb hby at_170) k)))) ?_
    show GoW p e below QQ (T78.setTop (mkF m 171 #[.val (.long q1), .second, .val (.long q2), .second, .val (.long q3), .second, .val (.long q4), .second, .val (.int p5), .val (.int (1 : Int32)), .val (.int (1 : Int32)), .val (.ref b_22), .val (.ref b_33), .val (.ref b_42), .val (.int (2 : Int32)), .val (.ref b68)] [(.int (2 : Int32)), (.int (1 : Int32)), (.int (2 : Int32)), (.ref b68)]))
    obtain ⟨_, _, ⟨T79, zL79, zk79, zn79⟩, -, X79, ⟨Lc79, hQ79, zl79, zy79, zz79⟩, st79⟩ := Jvm.LawKit.callS X78 hx (y := (⟨"com/example/hike/hike/HoldersMergePinLaw", "cx", "([JIII)V"⟩ : MethodName)) hown (mvT hZ (hw _ (List.mem_of_getElem? (i := 9) rfl))) (mvT hZ (hw _ (List.mem_of_getElem? (i := 10) rfl))) (mvT hZ (hw _ (List.mem_of_getElem? (i := 2) rfl))) (mvT hZ (hw _ (List.mem_of_getElem? (i := 11) rfl))) (by decide) (backOf (W := 0) (rm3_212 l Z a0 hw [] b68 T74.heap n0 (Nat.le_trans Z0 K74.1) ) hZ (hw _ (List.mem_of_getElem? (i := 11) rfl)) (hw _ (List.mem_of_getElem? (i := 2) rfl)) (by decide) (by decide)) (g := (mkF m 171 #[.val (.long q1), .second, .val (.long q2), .second, .val (.long q3), .second, .val (.long q4), .second, .val (.int p5), .val (.int (1 : Int32)), .val (.int (1 : Int32)), .val (.ref b_22), .val (.ref b_33), .val (.ref b_42), .val (.int (2 : Int32)), .val (.ref b68)] [(.int (2 : Int32)), (.int (1 : Int32)), (.int (2 : Int32)), (.ref b68)])) rfl (by rw [hml]; rfl) (argsL := [(.ref b68), (.int (2 : Int32)), (.int (1 : Int32)), (.int (2 : Int32))]) (rest := []) (lenOf pd_3 rfl) rfl (by show 2 * 0 + _ ≤ _; exact Nat.le_of_eq rfl) (hb hby at_171) (fun _ _ => ⟨rfl, hh78, (by decide : 4 + 0 ≤ _), (by decide : 8 + 0 ≤ _)⟩)
    dsimp only [Pt.U, Pt.locs, Pt.cells, Pt.slots] at X79 zl79 zy79 zz79 st79 hQ79
    subst zl79 zy79 zz79
    obtain ⟨rfl, Nq79, hh79⟩ := hQ79
    have N79 := Fr.app N78 Nq79
    refine GoW.st st79 ?_
    show GoW p e below QQ (T79.setTop (mkF m 174 #[.val (.long q1), .second, .val (.long q2), .second, .val (.long q3), .second, .val (.long q4), .second, .val (.int p5), .val (.int (1 : Int32)), .val (.int (1 : Int32)), .val (.ref b_22), .val (.ref b_33), .val (.ref b_42), .val (.int (2 : Int32)), .val (.ref b68)] []))
    refine GoW.st (fun t k => XS.iconst X79.here hx rfl (hb hby at_174) (XS.iload X79.here hx rfl (hb hby at_175) rfl k)) ?_
    show GoW p e below QQ (T79.setTop (mkF m 177 #[.val (.long q1), .second, .val (.long q2), .second, .val (.long q3), .second, .val (.long q4), .second, .val (.int p5), .val (.int (1 : Int32)), .val (.int (1 : Int32)), .val (.ref b_22), .val (.ref b_33), .val (.ref b_42), .val (.int (2 : Int32)), .val (.ref b68)] [(.int (2 : Int32)), (.int (0 : Int32))]))
    have hc177 : (0 : Int32) < (2 : Int32) := by decide
    refine GoW.st (fun t k => XS.icmpNo X79.here hx rfl (hb hby at_177) rfl (tlt hc177).2.1 (XS.aload X79.here hx rfl (hb hby at_180) rfl rfl (XS.iconst X79.here hx rfl (hb hby at_182) (ldVJ X79 hx hZ hh79 f75_V_b_42 (v := (.long w0_42)) ⟨by decide, by decide⟩ rfl (g := (mkF m 183 #[.val (.long q1), .second, .val (.long q2), .second, .val (.long q3), .second, .val (.long q4), .second, .val (.int p5), .val (.int (1 : Int32)), .val (.int (1 : Int32)), .val (.ref b_22), .val (.ref b_33), .val (.ref b_42), .val (.int (2 : Int32)), .val (.ref b68)] [(.int (0 : Int32)), (.ref b_42)])) rfl rfl (hb hby at_183) t (XS.aload X79.here hx rfl (hb hby at_184) rfl rfl (XS.iconst X79.here hx rfl (hb hby at_186) k)))))) ?_
    show GoW p e below QQ (T79.setTop (mkF m 187 #[.val (.long q1), .second, .val (.long q2), .second, .val (.long q3), .second, .val (.long q4), .second, .val (.int p5), .val (.int (1 : Int32)), .val (.int (1 : Int32)), .val (.ref b_22), .val (.ref b_33), .val (.ref b_42), .val (.int (2 : Int32)), .val (.ref b68)] [(.int (0 : Int32)), (.ref b68), (.long w0_42)]))
    refine GoW.st (fun t k => ldVJ X79 hx hZ hh79 p74_0 (v := (.long wa_135)) ⟨by decide, by decide⟩ rfl (g := (mkF m 187 #[.val (.long q1), .second, .val (.long q2), .second, .val (.long q3), .second, .val (.long q4), .second, .val (.int p5), .val (.int (1 : Int32)), .val (.int (1 : Int32)), .val (.ref b_22), .val (.ref b_33), .val (.ref b_42), .val (.int (2 : Int32)), .val (.ref b68)] [(.int (0 : Int32)), (.ref b68), (.long w0_42)])) rfl rfl (hb hby at_187) t (XS.lcmp X79.here hx rfl (hb hby at_188) rfl k)) ?_
    show GoW p e below QQ (T79.setTop (mkF m 189 #[.val (.long q1), .second, .val (.long q2), .second, .val (.long q3), .second, .val (.long q4), .second, .val (.int p5), .val (.int (1 : Int32)), .val (.int (1 : Int32)), .val (.ref b_22), .val (.ref b_33), .val (.ref b_42), .val (.int (2 : Int32)), .val (.ref b68)] [(.int (lcmpW w0_42 wa_135))]))
    have hc189 : w0_42 = wa_135 := by
      apply Int64.toInt_inj.mp
      omega
    refine GoW.st (fun t k => XS.ifYes X79.here hx rfl (pc0 := 189) (pc' := 194) rfl (hb hby at_189) rfl ((if0 _ _).trans (teq ((lw_eq w0_42 wa_135).mpr hc189)).1) (by decide) (by decide) (XS.iconst X79.here hx rfl (hb hby at_194) (XS.iload X79.here hx rfl (hb hby at_195) rfl k))) ?_
    show GoW p e below QQ (T79.setTop (mkF m 197 #[.val (.long q1), .second, .val (.long q2), .second, .val (.long q3), .second, .val (.long q4), .second, .val (.int p5), .val (.int (1 : Int32)), .val (.int (1 : Int32)), .val (.ref b_22), .val (.ref b_33), .val (.ref b_42), .val (.int (2 : Int32)), .val (.ref b68)] [(.int (2 : Int32)), (.int (1 : Int32))]))
    have hc197 : (1 : Int32) < (2 : Int32) := by decide
    refine GoW.st (fun t k => XS.icmpNo X79.here hx rfl (hb hby at_197) rfl (tlt hc197).2.1 (XS.aload X79.here hx rfl (hb hby at_200) rfl rfl (XS.iconst X79.here hx rfl (hb hby at_202) (ldVJ X79 hx hZ hh79 f75_V_b_42 (v := (.long w1_42)) ⟨by decide, by decide⟩ rfl (g := (mkF m 203 #[.val (.long q1), .second, .val (.long q2), .second, .val (.long q3), .second, .val (.long q4), .second, .val (.int p5), .val (.int (1 : Int32)), .val (.int (1 : Int32)), .val (.ref b_22), .val (.ref b_33), .val (.ref b_42), .val (.int (2 : Int32)), .val (.ref b68)] [(.int (1 : Int32)), (.ref b_42)])) rfl rfl (hb hby at_203) t (XS.aload X79.here hx rfl (hb hby at_204) rfl rfl (XS.iconst X79.here hx rfl (hb hby at_206) k)))))) ?_
    show GoW p e below QQ (T79.setTop (mkF m 207 #[.val (.long q1), .second, .val (.long q2), .second, .val (.long q3), .second, .val (.long q4), .second, .val (.int p5), .val (.int (1 : Int32)), .val (.int (1 : Int32)), .val (.ref b_22), .val (.ref b_33), .val (.ref b_42), .val (.int (2 : Int32)), .val (.ref b68)] [(.int (1 : Int32)), (.ref b68), (.long w1_42)]))
    refine GoW.st (fun t k => ldVJ X79 hx hZ hh79 p74_0 (v := (.long wb_135)) ⟨by decide, by decide⟩ rfl (g := (mkF m 207 #[.val (.long q1), .second, .val (.long q2), .second, .val (.long q3), .second, .val (.long q4), .second, .val (.int p5), .val (.int (1 : Int32)), .val (.int (1 : Int32)), .val (.ref b_22), .val (.ref b_33), .val (.ref b_42), .val (.int (2 : Int32)), .val (.ref b68)] [(.int (1 : Int32)), (.ref b68), (.long w1_42)])) rfl rfl (hb hby at_207) t (XS.lcmp X79.here hx rfl (hb hby at_208) rfl k)) ?_
    show GoW p e below QQ (T79.setTop (mkF m 209 #[.val (.long q1), .second, .val (.long q2), .second, .val (.long q3), .second, .val (.long q4), .second, .val (.int p5), .val (.int (1 : Int32)), .val (.int (1 : Int32)), .val (.ref b_22), .val (.ref b_33), .val (.ref b_42), .val (.int (2 : Int32)), .val (.ref b68)] [(.int (lcmpW w1_42 wb_135))]))
    have hc209 : w1_42 = wb_135 := by
      apply Int64.toInt_inj.mp
      omega
    refine GoW.st (fun t k => XS.ifYes X79.here hx rfl (pc0 := 209) (pc' := 214) rfl (hb hby at_209) rfl ((if0 _ _).trans (teq ((lw_eq w1_42 wb_135).mpr hc209)).1) (by decide) (by decide) (XS.iconst X79.here hx rfl (hb hby at_214) (XS.iload X79.here hx rfl (hb hby at_215) rfl k))) ?_
    show GoW p e below QQ (T79.setTop (mkF m 217 #[.val (.long q1), .second, .val (.long q2), .second, .val (.long q3), .second, .val (.long q4), .second, .val (.int p5), .val (.int (1 : Int32)), .val (.int (1 : Int32)), .val (.ref b_22), .val (.ref b_33), .val (.ref b_42), .val (.int (2 : Int32)), .val (.ref b68)] [(.int (2 : Int32)), (.int (2 : Int32))]))
    have hc217 : ¬ ((2 : Int32) < (2 : Int32)) := by decide
    refine GoW.st (fun t k => XS.icmpYes X79.here hx rfl (pc0 := 217) (pc' := 234) rfl (hb hby at_217) rfl (flt hc217).2.1 (by decide) (by decide) (XS.iconst X79.here hx rfl (hb hby at_234) (XS.iload X79.here hx rfl (hb hby at_235) rfl k))) ?_
    show GoW p e below QQ (T79.setTop (mkF m 237 #[.val (.long q1), .second, .val (.long q2), .second, .val (.long q3), .second, .val (.long q4), .second, .val (.int p5), .val (.int (1 : Int32)), .val (.int (1 : Int32)), .val (.ref b_22), .val (.ref b_33), .val (.ref b_42), .val (.int (2 : Int32)), .val (.ref b68)] [(.int (2 : Int32)), (.int (3 : Int32))]))
    have hc237 : ¬ ((3 : Int32) < (2 : Int32)) := by decide
    refine GoW.st (fun t k => XS.icmpYes X79.here hx rfl (pc0 := 237) (pc' := 254) rfl (hb hby at_237) rfl (flt hc237).2.1 (by decide) (by decide) (XS.iconst X79.here hx rfl (hb hby at_254) k)) ?_
    show GoW p e below QQ (T79.setTop (mkF m 255 #[.val (.long q1), .second, .val (.long q2), .second, .val (.long q3), .second, .val (.long q4), .second, .val (.int p5), .val (.int (1 : Int32)), .val (.int (1 : Int32)), .val (.ref b_22), .val (.ref b_33), .val (.ref b_42), .val (.int (2 : Int32)), .val (.ref b68)] [(.int (1 : Int32))]))
    exact GoW.fin X79 (some (.int (nar .boolean (1 : Int32)))) (fun q => by rw [hret] at q; cases q) hlk hQ hh79 ⟨rfl, N79⟩ (by decide) (by decide) (fun fs hr => retN X79 hx (t := .boolean) hret (by simp) (hb hby at_255) hr)
  · skip
    show GoW p e below QQ (T0.setTop (mkF m 18 #[.val (.long q1), .second, .val (.long q2), .second, .val (.long q3), .second, .val (.long q4), .second, .val (.int p5), .val (.int (1 : Int32)), .val (.int (2 : Int32)), .unset, .unset, .unset, .unset, .unset] []))
    refine GoW.st (fun t k => XS.iload X0.here hx rfl (hb hby at_18) rfl (XS.lloadN X0.here hx rfl (hb hby at_20) rfl (XS.lloadN X0.here hx rfl (hb hby at_21) rfl k))) ?_
    show GoW p e below QQ (T0.setTop (mkF m 22 #[.val (.long q1), .second, .val (.long q2), .second, .val (.long q3), .second, .val (.long q4), .second, .val (.int p5), .val (.int (1 : Int32)), .val (.int (2 : Int32)), .unset, .unset, .unset, .unset, .unset] [(.long q2), (.long q1), (.int (1 : Int32))]))
    obtain ⟨_, _, ⟨T80, zL80, zk80, zn80⟩, -, X80, ⟨Lc80, hQ80, zl80, zy80, zz80⟩, st80⟩ := Jvm.LawKit.callS X0 hx (y := (⟨"com/example/hike/hike/HoldersMergePinLaw", "make", "(IJJ)[J"⟩ : MethodName)) hown (mvT hZ (hw _ (List.mem_of_getElem? (i := 0) rfl))) (mvT hZ (hw _ (List.mem_of_getElem? (i := 1) rfl))) (mvT hZ (hw _ (List.mem_of_getElem? (i := 2) rfl))) (mvT hZ (hw _ (List.mem_of_getElem? (i := 3) rfl))) (by decide) (backOf (W := 0) (rm1_1 l Z a0 hw [] q1 q2 h0 n0 (Nat.le_trans Z0 K0.1) ) hZ (hw _ (List.mem_of_getElem? (i := 3) rfl)) (hw _ (List.mem_of_getElem? (i := 2) rfl)) (by decide) (by decide)) (g := (mkF m 22 #[.val (.long q1), .second, .val (.long q2), .second, .val (.long q3), .second, .val (.long q4), .second, .val (.int p5), .val (.int (1 : Int32)), .val (.int (2 : Int32)), .unset, .unset, .unset, .unset, .unset] [(.long q2), (.long q1), (.int (1 : Int32))])) rfl (by rw [hml]; rfl) (argsL := [(.int (1 : Int32)), (.long q1), (.long q2)]) (rest := []) (lenOf pd_1 rfl) rfl (by show 2 * 0 + _ ≤ _; exact Nat.le_of_eq rfl) (hb hby at_22) (fun _ _ => ⟨rfl, e0, (by decide : 0 + 1 ≤ _), (by decide : 0 + 1 ≤ _)⟩)
    dsimp only [Pt.U, Pt.locs, Pt.cells, Pt.slots] at X80 zl80 zy80 zz80 st80 hQ80
    subst zl80 zy80 zz80
    obtain ⟨b_22, kb_22, rfl, Nq80, Kq80, p80_0, p80_1⟩ := hQ80
    have N80 := Fr.app N0 Nq80
    refine GoW.st st80 ?_
    have sz80_b_22 : h0.size ≤ b_22 := Nat.le_trans K0.1 p80_0
    have gg80_b_22 : n0 ≤ b_22 := Nat.le_trans Z0 sz80_b_22
    have K80 : Keep h0 T80.heap [] := K0.trans Kq80 all0
    show GoW p e below QQ (T80.setTop (mkF m 25 #[.val (.long q1), .second, .val (.long q2), .second, .val (.long q3), .second, .val (.long q4), .second, .val (.int p5), .val (.int (1 : Int32)), .val (.int (2 : Int32)), .unset, .unset, .unset, .unset, .unset] [(.ref b_22)]))
    refine GoW.st (fun t k => XS.astore X80.here hx rfl (hb hby at_25) rfl rfl (l' := #[.val (.long q1), .second, .val (.long q2), .second, .val (.long q3), .second, .val (.long q4), .second, .val (.int p5), .val (.int (1 : Int32)), .val (.int (2 : Int32)), .val (.ref b_22), .unset, .unset, .unset, .unset]) rfl (XS.iload X80.here hx rfl (hb hby at_27) rfl (XS.lload X80.here hx rfl (hb hby at_29) rfl (XS.lload X80.here hx rfl (hb hby at_31) rfl k)))) ?_
    show GoW p e below QQ (T80.setTop (mkF m 33 #[.val (.long q1), .second, .val (.long q2), .second, .val (.long q3), .second, .val (.long q4), .second, .val (.int p5), .val (.int (1 : Int32)), .val (.int (2 : Int32)), .val (.ref b_22), .unset, .unset, .unset, .unset] [(.long q4), (.long q3), (.int (2 : Int32))]))
    obtain ⟨_, _, ⟨T82, zL82, zk82, zn82⟩, -, X82, ⟨Lc82, hQ82, zl82, zy82, zz82⟩, st82⟩ := Jvm.LawKit.callS X80 hx (y := (⟨"com/example/hike/hike/HoldersMergePinLaw", "make", "(IJJ)[J"⟩ : MethodName)) hown (mvT hZ (hw _ (List.mem_of_getElem? (i := 0) rfl))) (mvT hZ (hw _ (List.mem_of_getElem? (i := 1) rfl))) (mvT hZ (hw _ (List.mem_of_getElem? (i := 2) rfl))) (mvT hZ (hw _ (List.mem_of_getElem? (i := 3) rfl))) (by decide) (backOf (W := 0) (rm1_2 l Z a0 hw [] q3 q4 T80.heap n0 (Nat.le_trans Z0 K80.1) ) hZ (hw _ (List.mem_of_getElem? (i := 3) rfl)) (hw _ (List.mem_of_getElem? (i := 2) rfl)) (by decide) (by decide)) (g := (mkF m 33 #[.val (.long q1), .second, .val (.long q2), .second, .val (.long q3), .second, .val (.long q4), .second, .val (.int p5), .val (.int (1 : Int32)), .val (.int (2 : Int32)), .val (.ref b_22), .unset, .unset, .unset, .unset] [(.long q4), (.long q3), (.int (2 : Int32))])) rfl (by rw [hml]; rfl) (argsL := [(.int (2 : Int32)), (.long q3), (.long q4)]) (rest := []) (lenOf pd_1 rfl) rfl (by show 2 * 0 + _ ≤ _; exact Nat.le_of_eq rfl) (hb hby at_33) (fun _ _ => ⟨rfl, rfl, (by decide : 1 + 1 ≤ _), (by decide : 1 + 2 ≤ _)⟩)
    dsimp only [Pt.U, Pt.locs, Pt.cells, Pt.slots] at X82 zl82 zy82 zz82 st82 hQ82
    subst zl82 zy82 zz82
    obtain ⟨b_33, kb_33, rfl, Nq82, Kq82, p82_0, p82_1⟩ := hQ82
    have N82 := Fr.app N80 Nq82
    refine GoW.st st82 ?_
    have ne82_b_22_b_33 : b_22 ≠ b_33 := Nat.ne_of_lt (Nat.lt_of_lt_of_le p80_1.lt p82_0)
    have sz82_b_33 : h0.size ≤ b_33 := Nat.le_trans K80.1 p82_0
    have gg82_b_33 : n0 ≤ b_33 := Nat.le_trans Z0 sz82_b_33
    have f83_V_b_22 : Arv Z T82.heap b_22 kb_22 .long (1 : Int32) [(.long q1)] (.long (0 : Int64)) := p80_1.keep Kq82 nin0
    have K82 : Keep h0 T82.heap [] := K80.trans Kq82 all0
    show GoW p e below QQ (T82.setTop (mkF m 36 #[.val (.long q1), .second, .val (.long q2), .second, .val (.long q3), .second, .val (.long q4), .second, .val (.int p5), .val (.int (1 : Int32)), .val (.int (2 : Int32)), .val (.ref b_22), .unset, .unset, .unset, .unset] [(.ref b_33)]))
    refine GoW.st (fun t k => XS.astore X82.here hx rfl (hb hby at_36) rfl rfl (l' := #[.val (.long q1), .second, .val (.long q2), .second, .val (.long q3), .second, .val (.long q4), .second, .val (.int p5), .val (.int (1 : Int32)), .val (.int (2 : Int32)), .val (.ref b_22), .val (.ref b_33), .unset, .unset, .unset]) rfl (XS.aload X82.here hx rfl (hb hby at_38) rfl rfl (XS.aload X82.here hx rfl (hb hby at_40) rfl rfl k))) ?_
    show GoW p e below QQ (T82.setTop (mkF m 42 #[.val (.long q1), .second, .val (.long q2), .second, .val (.long q3), .second, .val (.long q4), .second, .val (.int p5), .val (.int (1 : Int32)), .val (.int (2 : Int32)), .val (.ref b_22), .val (.ref b_33), .unset, .unset, .unset] [(.ref b_33), (.ref b_22)]))
    obtain ⟨_, _, ⟨T84, zL84, zk84, zn84⟩, -, X84, ⟨Lc84, hQ84, zl84, zy84, zz84⟩, st84⟩ := Jvm.LawKit.callS X82 hx (y := (⟨"com/example/hike/hike/Holders", "merge", "([J[J)[J"⟩ : MethodName)) hown (mvT hZ (hw _ (List.mem_of_getElem? (i := 5) rfl))) (mvT hZ (hw _ (List.mem_of_getElem? (i := 6) rfl))) (mvT hZ (hw _ (List.mem_of_getElem? (i := 7) rfl))) (mvT hZ (hw _ (List.mem_of_getElem? (i := 8) rfl))) (by decide) (backOf (W := 0) (rm2_12 l Z a0 hw [] b_22 b_33 kb_22 kb_33 q1 (own_minL q3 q4) (own_maxL q3 q4) T82.heap n0 (Nat.le_trans Z0 K82.1) f83_V_b_22 p82_1 (own_mm _ _)) hZ (hw _ (List.mem_of_getElem? (i := 8) rfl)) (hw _ (List.mem_of_getElem? (i := 7) rfl)) (by decide) (by decide)) (g := (mkF m 42 #[.val (.long q1), .second, .val (.long q2), .second, .val (.long q3), .second, .val (.long q4), .second, .val (.int p5), .val (.int (1 : Int32)), .val (.int (2 : Int32)), .val (.ref b_22), .val (.ref b_33), .unset, .unset, .unset] [(.ref b_33), (.ref b_22)])) rfl (by rw [hml]; rfl) (argsL := [(.ref b_22), (.ref b_33)]) (rest := []) (lenOf pd_2 rfl) rfl (by show 2 * 0 + _ ≤ _; exact Nat.le_of_eq rfl) (hb hby at_42) (fun _ _ => ⟨rfl, rfl, (by decide : 2 + 1 ≤ _), (by decide : 3 + 3 ≤ _)⟩)
    dsimp only [Pt.U, Pt.locs, Pt.cells, Pt.slots] at X84 zl84 zy84 zz84 st84 hQ84
    subst zl84 zy84 zz84
    obtain ⟨b_42, kb_42, w0_42, w1_42, w2_42, rfl, Nq84, Kq84, p84_0, p84_1, p84_2⟩ := hQ84
    have N84 := Fr.app N82 Nq84
    refine GoW.st st84 ?_
    have ne84_b_22_b_42 : b_22 ≠ b_42 := Nat.ne_of_lt (Nat.lt_of_lt_of_le f83_V_b_22.lt p84_0)
    have ne84_b_33_b_42 : b_33 ≠ b_42 := Nat.ne_of_lt (Nat.lt_of_lt_of_le p82_1.lt p84_0)
    have sz84_b_42 : h0.size ≤ b_42 := Nat.le_trans K82.1 p84_0
    have gg84_b_42 : n0 ≤ b_42 := Nat.le_trans Z0 sz84_b_42
    have f85_V_b_22 : Arv Z T84.heap b_22 kb_22 .long (1 : Int32) [(.long q1)] (.long (0 : Int64)) := f83_V_b_22.keep Kq84 nin0
    have f85_V_b_33 : Arv Z T84.heap b_33 kb_33 .long (2 : Int32) [(.long (own_minL q3 q4)), (.long (own_maxL q3 q4))] (.long (0 : Int64)) := p82_1.keep Kq84 nin0
    have K84 : Keep h0 T84.heap [] := K82.trans Kq84 all0
    have hw_42 := p84_2
    show GoW p e below QQ (T84.setTop (mkF m 45 #[.val (.long q1), .second, .val (.long q2), .second, .val (.long q3), .second, .val (.long q4), .second, .val (.int p5), .val (.int (1 : Int32)), .val (.int (2 : Int32)), .val (.ref b_22), .val (.ref b_33), .unset, .unset, .unset] [(.ref b_42)]))
    refine GoW.st (fun t k => XS.astore X84.here hx rfl (hb hby at_45) rfl rfl (l' := #[.val (.long q1), .second, .val (.long q2), .second, .val (.long q3), .second, .val (.long q4), .second, .val (.int p5), .val (.int (1 : Int32)), .val (.int (2 : Int32)), .val (.ref b_22), .val (.ref b_33), .val (.ref b_42), .unset, .unset]) rfl (XS.iload X84.here hx rfl (hb hby at_47) rfl (XS.iload X84.here hx rfl (hb hby at_49) rfl (XS.iadd X84.here hx rfl (hb hby at_51) rfl (XS.istore X84.here hx rfl (hb hby at_52) rfl (l' := #[.val (.long q1), .second, .val (.long q2), .second, .val (.long q3), .second, .val (.long q4), .second, .val (.int p5), .val (.int (1 : Int32)), .val (.int (2 : Int32)), .val (.ref b_22), .val (.ref b_33), .val (.ref b_42), .val (.int (3 : Int32)), .unset]) rfl (XS.aload X84.here hx rfl (hb hby at_54) rfl rfl k)))))) ?_
    show GoW p e below QQ (T84.setTop (mkF m 56 #[.val (.long q1), .second, .val (.long q2), .second, .val (.long q3), .second, .val (.long q4), .second, .val (.int p5), .val (.int (1 : Int32)), .val (.int (2 : Int32)), .val (.ref b_22), .val (.ref b_33), .val (.ref b_42), .val (.int (3 : Int32)), .unset] [(.ref b_42)]))
    refine GoW.st (fun t k => lnV X84 hx hZ rfl p84_1 (g := (mkF m 56 #[.val (.long q1), .second, .val (.long q2), .second, .val (.long q3), .second, .val (.long q4), .second, .val (.int p5), .val (.int (1 : Int32)), .val (.int (2 : Int32)), .val (.ref b_22), .val (.ref b_33), .val (.ref b_42), .val (.int (3 : Int32)), .unset] [(.ref b_42)])) rfl rfl (hb hby at_56) t (XS.iload X84.here hx rfl (hb hby at_57) rfl k)) ?_
    show GoW p e below QQ (T84.setTop (mkF m 59 #[.val (.long q1), .second, .val (.long q2), .second, .val (.long q3), .second, .val (.long q4), .second, .val (.int p5), .val (.int (1 : Int32)), .val (.int (2 : Int32)), .val (.ref b_22), .val (.ref b_33), .val (.ref b_42), .val (.int (3 : Int32)), .unset] [(.int (3 : Int32)), (.int (3 : Int32))]))
    have hc59 : (3 : Int32) = (3 : Int32) := by decide
    refine GoW.st (fun t k => XS.icmpYes X84.here hx rfl (pc0 := 59) (pc' := 64) rfl (hb hby at_59) rfl (teq hc59).1 (by decide) (by decide) (XS.iconst X84.here hx rfl (hb hby at_64) k)) ?_
    show GoW p e below QQ (T84.setTop (mkF m 65 #[.val (.long q1), .second, .val (.long q2), .second, .val (.long q3), .second, .val (.long q4), .second, .val (.int p5), .val (.int (1 : Int32)), .val (.int (2 : Int32)), .val (.ref b_22), .val (.ref b_33), .val (.ref b_42), .val (.int (3 : Int32)), .unset] [(.int (4 : Int32))]))
    obtain ⟨T86, h86, k86, X86, e86, E86, A86, st86⟩ := newP X84 hx hZ (hw _ (List.mem_of_getElem? (i := 4) rfl)) rfl (g := (mkF m 65 #[.val (.long q1), .second, .val (.long q2), .second, .val (.long q3), .second, .val (.long q4), .second, .val (.int p5), .val (.int (1 : Int32)), .val (.int (2 : Int32)), .val (.ref b_22), .val (.ref b_33), .val (.ref b_42), .val (.int (3 : Int32)), .unset] [(.int (4 : Int32))])) rfl (hb hby at_65) rfl (by decide) (cap := 4) (by decide) (by decide) (by decide) (by decide)
    obtain ⟨b86, g86⟩ : ∃ z, z = T84.heap.size := ⟨_, rfl⟩
    rw [← g86] at A86 st86
    refine GoW.st st86 ?_
    have gg86 : n0 ≤ b86 := Nat.le_trans (Nat.le_trans Z0 K84.1) (Nat.le_of_eq g86.symm)
    have sz86 : h0.size ≤ b86 := Nat.le_trans K84.1 (Nat.le_of_eq g86.symm)
    have ne86_b_22 : b_22 ≠ b86 := Nat.ne_of_lt (Nat.lt_of_lt_of_le f85_V_b_22.lt (Nat.le_of_eq g86.symm))
    have ne86_b_33 : b_33 ≠ b86 := Nat.ne_of_lt (Nat.lt_of_lt_of_le f85_V_b_33.lt (Nat.le_of_eq g86.symm))
    have ne86_b_42 : b_42 ≠ b86 := Nat.ne_of_lt (Nat.lt_of_lt_of_le p84_1.lt (Nat.le_of_eq g86.symm))
    have f87_V_b_22 : Arv Z h86 b_22 kb_22 .long (1 : Int32) [(.long q1)] (.long (0 : Int64)) := f85_V_b_22.ext E86
    have f87_V_b_33 : Arv Z h86 b_33 kb_33 .long (2 : Int32) [(.long (own_minL q3 q4)), (.long (own_maxL q3 q4))] (.long (0 : Int64)) := f85_V_b_33.ext E86
    have f87_V_b_42 : Arv Z h86 b_42 kb_42 .long (3 : Int32) [(.long w0_42), (.long w1_42), (.long w2_42)] (.long (0 : Int64)) := p84_1.ext E86
    have K86 : Keep h0 h86 [] := K84.ext E86
    have V86 : Arv Z h86 b86 k86 .long (4 : Int32) [(.long (0 : Int64)), (.long (0 : Int64)), (.long (0 : Int64)), (.long (0 : Int64))] (.long (0 : Int64)) := (Arv.new A86 (by decide)).pad (pad_rep [] (.long (0 : Int64)) 4)
    show GoW p e below QQ (T86.setTop (mkF m 67 #[.val (.long q1), .second, .val (.long q2), .second, .val (.long q3), .second, .val (.long q4), .second, .val (.int p5), .val (.int (1 : Int32)), .val (.int (2 : Int32)), .val (.ref b_22), .val (.ref b_33), .val (.ref b_42), .val (.int (3 : Int32)), .unset] [(.ref b86)]))
    refine GoW.st (fun t k => XS.astore X86.here hx rfl (hb hby at_67) rfl rfl (l' := #[.val (.long q1), .second, .val (.long q2), .second, .val (.long q3), .second, .val (.long q4), .second, .val (.int p5), .val (.int (1 : Int32)), .val (.int (2 : Int32)), .val (.ref b_22), .val (.ref b_33), .val (.ref b_42), .val (.int (3 : Int32)), .val (.ref b86)]) rfl (XS.iload X86.here hx rfl (hb hby at_69) rfl (XS.iconst X86.here hx rfl (hb hby at_71) k))) ?_
    show GoW p e below QQ (T86.setTop (mkF m 72 #[.val (.long q1), .second, .val (.long q2), .second, .val (.long q3), .second, .val (.long q4), .second, .val (.int p5), .val (.int (1 : Int32)), .val (.int (2 : Int32)), .val (.ref b_22), .val (.ref b_33), .val (.ref b_42), .val (.int (3 : Int32)), .val (.ref b86)] [(.int (1 : Int32)), (.int (1 : Int32))]))
    have hc72 : ¬ ((1 : Int32) < (1 : Int32)) := by decide
    refine GoW.st (fun t k => XS.icmpNo X86.here hx rfl (hb hby at_72) rfl (flt hc72).1 (XS.aload X86.here hx rfl (hb hby at_75) rfl rfl (XS.iconst X86.here hx rfl (hb hby at_77) (XS.aload X86.here hx rfl (hb hby at_78) rfl rfl (XS.iconst X86.here hx rfl (hb hby at_80) (ldVJ X86 hx hZ e86 f87_V_b_22 (v := (.long q1)) ⟨by decide, by decide⟩ rfl (g := (mkF m 81 #[.val (.long q1), .second, .val (.long q2), .second, .val (.long q3), .second, .val (.long q4), .second, .val (.int p5), .val (.int (1 : Int32)), .val (.int (2 : Int32)), .val (.ref b_22), .val (.ref b_33), .val (.ref b_42), .val (.int (3 : Int32)), .val (.ref b86)] [(.int (0 : Int32)), (.ref b_22), (.int (0 : Int32)), (.ref b86)])) rfl rfl (hb hby at_81) t k)))))) ?_
    show GoW p e below QQ (T86.setTop (mkF m 82 #[.val (.long q1), .second, .val (.long q2), .second, .val (.long q3), .second, .val (.long q4), .second, .val (.int p5), .val (.int (1 : Int32)), .val (.int (2 : Int32)), .val (.ref b_22), .val (.ref b_33), .val (.ref b_42), .val (.int (3 : Int32)), .val (.ref b86)] [(.long q1), (.int (0 : Int32)), (.ref b86)]))
    obtain ⟨T88, h88, X88, e88, W88, V88, st88⟩ := stVJ X86 hx hZ e86 V86 ⟨by decide, by decide⟩ 0 rfl (Nat.le_of_ble_eq_true rfl) (g := (mkF m 82 #[.val (.long q1), .second, .val (.long q2), .second, .val (.long q3), .second, .val (.long q4), .second, .val (.int p5), .val (.int (1 : Int32)), .val (.int (2 : Int32)), .val (.ref b_22), .val (.ref b_33), .val (.ref b_42), .val (.int (3 : Int32)), .val (.ref b86)] [(.long q1), (.int (0 : Int32)), (.ref b86)])) rfl rfl (hb hby at_82)
    refine GoW.st st88 ?_
    have f89_V_b_22 : Arv Z h88 b_22 kb_22 .long (1 : Int32) [(.long q1)] (.long (0 : Int64)) := f87_V_b_22.other W88 ne86_b_22
    have f89_V_b_33 : Arv Z h88 b_33 kb_33 .long (2 : Int32) [(.long (own_minL q3 q4)), (.long (own_maxL q3 q4))] (.long (0 : Int64)) := f87_V_b_33.other W88 ne86_b_33
    have f89_V_b_42 : Arv Z h88 b_42 kb_42 .long (3 : Int32) [(.long w0_42), (.long w1_42), (.long w2_42)] (.long (0 : Int64)) := f87_V_b_42.other W88 ne86_b_42
    have f89_V_b86 : Arv Z h88 b86 k86 .long (4 : Int32) [(.long q1), (.long (0 : Int64)), (.long (0 : Int64)), (.long (0 : Int64))] (.long (0 : Int64)) := V88
    have K88 : Keep h0 h88 [] := K86.wr W88 (Or.inr sz86)
    have N88 := Fr.snoc X88 N84 gg86
    show GoW p e below QQ (T88.setTop (mkF m 83 #[.val (.long q1), .second, .val (.long q2), .second, .val (.long q3), .second, .val (.long q4), .second, .val (.int p5), .val (.int (1 : Int32)), .val (.int (2 : Int32)), .val (.ref b_22), .val (.ref b_33), .val (.ref b_42), .val (.int (3 : Int32)), .val (.ref b86)] []))
    refine GoW.st (fun t k => XS.iload X88.here hx rfl (hb hby at_83) rfl (XS.iconst X88.here hx rfl (hb hby at_85) k)) ?_
    show GoW p e below QQ (T88.setTop (mkF m 86 #[.val (.long q1), .second, .val (.long q2), .second, .val (.long q3), .second, .val (.long q4), .second, .val (.int p5), .val (.int (1 : Int32)), .val (.int (2 : Int32)), .val (.ref b_22), .val (.ref b_33), .val (.ref b_42), .val (.int (3 : Int32)), .val (.ref b86)] [(.int (2 : Int32)), (.int (1 : Int32))]))
    have hc86 : ¬ ((1 : Int32) = (2 : Int32)) := by decide
    refine GoW.st (fun t k => XS.icmpYes X88.here hx rfl (pc0 := 86) (pc' := 97) rfl (hb hby at_86) rfl (feq hc86).2 (by decide) (by decide) (XS.iload X88.here hx rfl (hb hby at_97) rfl (XS.iconst X88.here hx rfl (hb hby at_99) k))) ?_
    show GoW p e below QQ (T88.setTop (mkF m 100 #[.val (.long q1), .second, .val (.long q2), .second, .val (.long q3), .second, .val (.long q4), .second, .val (.int p5), .val (.int (1 : Int32)), .val (.int (2 : Int32)), .val (.ref b_22), .val (.ref b_33), .val (.ref b_42), .val (.int (3 : Int32)), .val (.ref b86)] [(.int (1 : Int32)), (.int (2 : Int32))]))
    have hc100 : ¬ ((2 : Int32) < (1 : Int32)) := by decide
    refine GoW.st (fun t k => XS.icmpNo X88.here hx rfl (hb hby at_100) rfl (flt hc100).1 (XS.aload X88.here hx rfl (hb hby at_103) rfl rfl (XS.iload X88.here hx rfl (hb hby at_105) rfl (XS.aload X88.here hx rfl (hb hby at_107) rfl rfl (XS.iconst X88.here hx rfl (hb hby at_109) (ldVJ X88 hx hZ e88 f89_V_b_33 (v := (.long (own_minL q3 q4))) ⟨by decide, by decide⟩ rfl (g := (mkF m 110 #[.val (.long q1), .second, .val (.long q2), .second, .val (.long q3), .second, .val (.long q4), .second, .val (.int p5), .val (.int (1 : Int32)), .val (.int (2 : Int32)), .val (.ref b_22), .val (.ref b_33), .val (.ref b_42), .val (.int (3 : Int32)), .val (.ref b86)] [(.int (0 : Int32)), (.ref b_33), (.int (1 : Int32)), (.ref b86)])) rfl rfl (hb hby at_110) t k)))))) ?_
    show GoW p e below QQ (T88.setTop (mkF m 111 #[.val (.long q1), .second, .val (.long q2), .second, .val (.long q3), .second, .val (.long q4), .second, .val (.int p5), .val (.int (1 : Int32)), .val (.int (2 : Int32)), .val (.ref b_22), .val (.ref b_33), .val (.ref b_42), .val (.int (3 : Int32)), .val (.ref b86)] [(.long (own_minL q3 q4)), (.int (1 : Int32)), (.ref b86)]))
    obtain ⟨T90, h90, X90, e90, W90, V90, st90⟩ := stVJ X88 hx hZ e88 f89_V_b86 ⟨by decide, by decide⟩ 1 rfl (Nat.le_of_ble_eq_true rfl) (g := (mkF m 111 #[.val (.long q1), .second, .val (.long q2), .second, .val (.long q3), .second, .val (.long q4), .second, .val (.int p5), .val (.int (1 : Int32)), .val (.int (2 : Int32)), .val (.ref b_22), .val (.ref b_33), .val (.ref b_42), .val (.int (3 : Int32)), .val (.ref b86)] [(.long (own_minL q3 q4)), (.int (1 : Int32)), (.ref b86)])) rfl rfl (hb hby at_111)
    refine GoW.st st90 ?_
    have f91_V_b_22 : Arv Z h90 b_22 kb_22 .long (1 : Int32) [(.long q1)] (.long (0 : Int64)) := f89_V_b_22.other W90 ne86_b_22
    have f91_V_b_33 : Arv Z h90 b_33 kb_33 .long (2 : Int32) [(.long (own_minL q3 q4)), (.long (own_maxL q3 q4))] (.long (0 : Int64)) := f89_V_b_33.other W90 ne86_b_33
    have f91_V_b_42 : Arv Z h90 b_42 kb_42 .long (3 : Int32) [(.long w0_42), (.long w1_42), (.long w2_42)] (.long (0 : Int64)) := f89_V_b_42.other W90 ne86_b_42
    have f91_V_b86 : Arv Z h90 b86 k86 .long (4 : Int32) [(.long q1), (.long (own_minL q3 q4)), (.long (0 : Int64)), (.long (0 : Int64))] (.long (0 : Int64)) := V90
    have K90 : Keep h0 h90 [] := K88.wr W90 (Or.inr sz86)
    have N90 := Fr.snoc X90 N88 gg86
    show GoW p e below QQ (T90.setTop (mkF m 112 #[.val (.long q1), .second, .val (.long q2), .second, .val (.long q3), .second, .val (.long q4), .second, .val (.int p5), .val (.int (1 : Int32)), .val (.int (2 : Int32)), .val (.ref b_22), .val (.ref b_33), .val (.ref b_42), .val (.int (3 : Int32)), .val (.ref b86)] []))
    refine GoW.st (fun t k => XS.iload X90.here hx rfl (hb hby at_112) rfl (XS.iconst X90.here hx rfl (hb hby at_114) k)) ?_
    show GoW p e below QQ (T90.setTop (mkF m 115 #[.val (.long q1), .second, .val (.long q2), .second, .val (.long q3), .second, .val (.long q4), .second, .val (.int p5), .val (.int (1 : Int32)), .val (.int (2 : Int32)), .val (.ref b_22), .val (.ref b_33), .val (.ref b_42), .val (.int (3 : Int32)), .val (.ref b86)] [(.int (2 : Int32)), (.int (2 : Int32))]))
    have hc115 : (2 : Int32) = (2 : Int32) := by decide
    refine GoW.st (fun t k => XS.icmpNo X90.here hx rfl (hb hby at_115) rfl (teq hc115).2 (XS.aload X90.here hx rfl (hb hby at_118) rfl rfl (XS.iload X90.here hx rfl (hb hby at_120) rfl (XS.iconst X90.here hx rfl (hb hby at_122) (XS.iadd X90.here hx rfl (hb hby at_123) rfl (XS.aload X90.here hx rfl (hb hby at_124) rfl rfl k)))))) ?_
    show GoW p e below QQ (T90.setTop (mkF m 126 #[.val (.long q1), .second, .val (.long q2), .second, .val (.long q3), .second, .val (.long q4), .second, .val (.int p5), .val (.int (1 : Int32)), .val (.int (2 : Int32)), .val (.ref b_22), .val (.ref b_33), .val (.ref b_42), .val (.int (3 : Int32)), .val (.ref b86)] [(.ref b_33), (.int (2 : Int32)), (.ref b86)]))
    refine GoW.st (fun t k => XS.iconst X90.here hx rfl (hb hby at_126) (ldVJ X90 hx hZ e90 f91_V_b_33 (v := (.long (own_maxL q3 q4))) ⟨by decide, by decide⟩ rfl (g := (mkF m 127 #[.val (.long q1), .second, .val (.long q2), .second, .val (.long q3), .second, .val (.long q4), .second, .val (.int p5), .val (.int (1 : Int32)), .val (.int (2 : Int32)), .val (.ref b_22), .val (.ref b_33), .val (.ref b_42), .val (.int (3 : Int32)), .val (.ref b86)] [(.int (1 : Int32)), (.ref b_33), (.int (2 : Int32)), (.ref b86)])) rfl rfl (hb hby at_127) t k)) ?_
    show GoW p e below QQ (T90.setTop (mkF m 128 #[.val (.long q1), .second, .val (.long q2), .second, .val (.long q3), .second, .val (.long q4), .second, .val (.int p5), .val (.int (1 : Int32)), .val (.int (2 : Int32)), .val (.ref b_22), .val (.ref b_33), .val (.ref b_42), .val (.int (3 : Int32)), .val (.ref b86)] [(.long (own_maxL q3 q4)), (.int (2 : Int32)), (.ref b86)]))
    obtain ⟨T92, h92, X92, e92, W92, V92, st92⟩ := stVJ X90 hx hZ e90 f91_V_b86 ⟨by decide, by decide⟩ 2 rfl (Nat.le_of_ble_eq_true rfl) (g := (mkF m 128 #[.val (.long q1), .second, .val (.long q2), .second, .val (.long q3), .second, .val (.long q4), .second, .val (.int p5), .val (.int (1 : Int32)), .val (.int (2 : Int32)), .val (.ref b_22), .val (.ref b_33), .val (.ref b_42), .val (.int (3 : Int32)), .val (.ref b86)] [(.long (own_maxL q3 q4)), (.int (2 : Int32)), (.ref b86)])) rfl rfl (hb hby at_128)
    refine GoW.st st92 ?_
    have f93_V_b_22 : Arv Z h92 b_22 kb_22 .long (1 : Int32) [(.long q1)] (.long (0 : Int64)) := f91_V_b_22.other W92 ne86_b_22
    have f93_V_b_33 : Arv Z h92 b_33 kb_33 .long (2 : Int32) [(.long (own_minL q3 q4)), (.long (own_maxL q3 q4))] (.long (0 : Int64)) := f91_V_b_33.other W92 ne86_b_33
    have f93_V_b_42 : Arv Z h92 b_42 kb_42 .long (3 : Int32) [(.long w0_42), (.long w1_42), (.long w2_42)] (.long (0 : Int64)) := f91_V_b_42.other W92 ne86_b_42
    have f93_V_b86 : Arv Z h92 b86 k86 .long (4 : Int32) [(.long q1), (.long (own_minL q3 q4)), (.long (own_maxL q3 q4)), (.long (0 : Int64))] (.long (0 : Int64)) := V92
    have K92 : Keep h0 h92 [] := K90.wr W92 (Or.inr sz86)
    have N92 := Fr.snoc X92 N90 gg86
    show GoW p e below QQ (T92.setTop (mkF m 129 #[.val (.long q1), .second, .val (.long q2), .second, .val (.long q3), .second, .val (.long q4), .second, .val (.int p5), .val (.int (1 : Int32)), .val (.int (2 : Int32)), .val (.ref b_22), .val (.ref b_33), .val (.ref b_42), .val (.int (3 : Int32)), .val (.ref b86)] []))
    have so2 := own_mm q3 q4
    refine GoW.st (fun t k => XS.aload X92.here hx rfl (hb hby at_129) rfl rfl (XS.iload X92.here hx rfl (hb hby at_131) rfl (XS.iconst X92.here hx rfl (hb hby at_133) (XS.iconst X92.here hx rfl (hb hby at_134) k)))) ?_
    show GoW p e below QQ (T92.setTop (mkF m 135 #[.val (.long q1), .second, .val (.long q2), .second, .val (.long q3), .second, .val (.long q4), .second, .val (.int p5), .val (.int (1 : Int32)), .val (.int (2 : Int32)), .val (.ref b_22), .val (.ref b_33), .val (.ref b_42), .val (.int (3 : Int32)), .val (.ref b86)] [(.int (1 : Int32)), (.int (0 : Int32)), (.int (3 : Int32)), (.ref b86)]))
    obtain ⟨_, _, ⟨T94, zL94, zk94, zn94⟩, -, X94, ⟨Lc94, hQ94, zl94, zy94, zz94⟩, st94⟩ := Jvm.LawKit.callS X92 hx (y := (⟨"com/example/hike/hike/HoldersMergePinLaw", "cx", "([JIII)V"⟩ : MethodName)) hown (mvT hZ (hw _ (List.mem_of_getElem? (i := 9) rfl))) (mvT hZ (hw _ (List.mem_of_getElem? (i := 10) rfl))) (mvT hZ (hw _ (List.mem_of_getElem? (i := 2) rfl))) (mvT hZ (hw _ (List.mem_of_getElem? (i := 11) rfl))) (by decide) (backOf (W := 0) (rm3_301 l Z a0 hw [] b86 k86 q1 (own_minL q3 q4) (own_maxL q3 q4) (0 : Int64) h92 n0 (Nat.le_trans Z0 K92.1) f93_V_b86 gg86) hZ (hw _ (List.mem_of_getElem? (i := 11) rfl)) (hw _ (List.mem_of_getElem? (i := 2) rfl)) (by decide) (by decide)) (g := (mkF m 135 #[.val (.long q1), .second, .val (.long q2), .second, .val (.long q3), .second, .val (.long q4), .second, .val (.int p5), .val (.int (1 : Int32)), .val (.int (2 : Int32)), .val (.ref b_22), .val (.ref b_33), .val (.ref b_42), .val (.int (3 : Int32)), .val (.ref b86)] [(.int (1 : Int32)), (.int (0 : Int32)), (.int (3 : Int32)), (.ref b86)])) rfl (by rw [hml]; rfl) (argsL := [(.ref b86), (.int (3 : Int32)), (.int (0 : Int32)), (.int (1 : Int32))]) (rest := []) (lenOf pd_3 rfl) rfl (by show 2 * 0 + _ ≤ _; exact Nat.le_of_eq rfl) (hb hby at_135) (fun _ _ => ⟨rfl, e92, (by decide : 4 + 0 ≤ _), (by decide : 10 + 0 ≤ _)⟩)
    dsimp only [Pt.U, Pt.locs, Pt.cells, Pt.slots] at X94 zl94 zy94 zz94 st94 hQ94
    subst zl94 zy94 zz94
    obtain ⟨wa_135, wb_135, rfl, Nq94, Kq94, p94_0, p94_1⟩ := hQ94
    have N94 := Fr.app N92 Nq94
    refine GoW.st st94 ?_
    have f95_V_b_42 : Arv Z T94.heap b_42 kb_42 .long (3 : Int32) [(.long w0_42), (.long w1_42), (.long w2_42)] (.long (0 : Int64)) := f93_V_b_42.keep Kq94 (ninS ne86_b_42 nin0)
    have K94 : Keep h0 T94.heap [] := K92.trans Kq94 (allS (Or.inr sz86) all0)
    have hs_135 := p94_1
    show GoW p e below QQ (T94.setTop (mkF m 138 #[.val (.long q1), .second, .val (.long q2), .second, .val (.long q3), .second, .val (.long q4), .second, .val (.int p5), .val (.int (1 : Int32)), .val (.int (2 : Int32)), .val (.ref b_22), .val (.ref b_33), .val (.ref b_42), .val (.int (3 : Int32)), .val (.ref b86)] []))
    refine GoW.st (fun t k => XS.aload X94.here hx rfl (hb hby at_138) rfl rfl (XS.iload X94.here hx rfl (hb hby at_140) rfl (XS.iconst X94.here hx rfl (hb hby at_142) (XS.iconst X94.here hx rfl (hb hby at_143) k)))) ?_
    show GoW p e below QQ (T94.setTop (mkF m 144 #[.val (.long q1), .second, .val (.long q2), .second, .val (.long q3), .second, .val (.long q4), .second, .val (.int p5), .val (.int (1 : Int32)), .val (.int (2 : Int32)), .val (.ref b_22), .val (.ref b_33), .val (.ref b_42), .val (.int (3 : Int32)), .val (.ref b86)] [(.int (3 : Int32)), (.int (2 : Int32)), (.int (3 : Int32)), (.ref b86)]))
    obtain ⟨_, _, ⟨T96, zL96, zk96, zn96⟩, -, X96, ⟨Lc96, hQ96, zl96, zy96, zz96⟩, st96⟩ := Jvm.LawKit.callS X94 hx (y := (⟨"com/example/hike/hike/HoldersMergePinLaw", "cx", "([JIII)V"⟩ : MethodName)) hown (mvT hZ (hw _ (List.mem_of_getElem? (i := 9) rfl))) (mvT hZ (hw _ (List.mem_of_getElem? (i := 10) rfl))) (mvT hZ (hw _ (List.mem_of_getElem? (i := 2) rfl))) (mvT hZ (hw _ (List.mem_of_getElem? (i := 11) rfl))) (by decide) (backOf (W := 0) (rm3_323 l Z a0 hw [] b86 T94.heap n0 (Nat.le_trans Z0 K94.1) ) hZ (hw _ (List.mem_of_getElem? (i := 11) rfl)) (hw _ (List.mem_of_getElem? (i := 2) rfl)) (by decide) (by decide)) (g := (mkF m 144 #[.val (.long q1), .second, .val (.long q2), .second, .val (.long q3), .second, .val (.long q4), .second, .val (.int p5), .val (.int (1 : Int32)), .val (.int (2 : Int32)), .val (.ref b_22), .val (.ref b_33), .val (.ref b_42), .val (.int (3 : Int32)), .val (.ref b86)] [(.int (3 : Int32)), (.int (2 : Int32)), (.int (3 : Int32)), (.ref b86)])) rfl (by rw [hml]; rfl) (argsL := [(.ref b86), (.int (3 : Int32)), (.int (2 : Int32)), (.int (3 : Int32))]) (rest := []) (lenOf pd_3 rfl) rfl (by show 2 * 0 + _ ≤ _; exact Nat.le_of_eq rfl) (hb hby at_144) (fun _ _ => ⟨rfl, rfl, (by decide : 4 + 0 ≤ _), (by decide : 10 + 0 ≤ _)⟩)
    dsimp only [Pt.U, Pt.locs, Pt.cells, Pt.slots] at X96 zl96 zy96 zz96 st96 hQ96
    subst zl96 zy96 zz96
    obtain ⟨rfl, Nq96, hh96⟩ := hQ96
    have N96 := Fr.app N94 Nq96
    refine GoW.st st96 ?_
    show GoW p e below QQ (T96.setTop (mkF m 147 #[.val (.long q1), .second, .val (.long q2), .second, .val (.long q3), .second, .val (.long q4), .second, .val (.int p5), .val (.int (1 : Int32)), .val (.int (2 : Int32)), .val (.ref b_22), .val (.ref b_33), .val (.ref b_42), .val (.int (3 : Int32)), .val (.ref b86)] []))
    refine GoW.st (fun t k => XS.aload X96.here hx rfl (hb hby at_147) rfl rfl (XS.iload X96.here hx rfl (hb hby at_149) rfl (XS.iconst X96.here hx rfl (hb hby at_151) (XS.iconst X96.here hx rfl (hb hby at_152) k)))) ?_
    show GoW p e below QQ (T96.setTop (mkF m 153 #[.val (.long q1), .second, .val (.long q2), .second, .val (.long q3), .second, .val (.long q4), .second, .val (.int p5), .val (.int (1 : Int32)), .val (.int (2 : Int32)), .val (.ref b_22), .val (.ref b_33), .val (.ref b_42), .val (.int (3 : Int32)), .val (.ref b86)] [(.int (2 : Int32)), (.int (0 : Int32)), (.int (3 : Int32)), (.ref b86)]))
    obtain ⟨_, _, ⟨T97, zL97, zk97, zn97⟩, -, X97, ⟨Lc97, hQ97, zl97, zy97, zz97⟩, st97⟩ := Jvm.LawKit.callS X96 hx (y := (⟨"com/example/hike/hike/HoldersMergePinLaw", "cx", "([JIII)V"⟩ : MethodName)) hown (mvT hZ (hw _ (List.mem_of_getElem? (i := 9) rfl))) (mvT hZ (hw _ (List.mem_of_getElem? (i := 10) rfl))) (mvT hZ (hw _ (List.mem_of_getElem? (i := 2) rfl))) (mvT hZ (hw _ (List.mem_of_getElem? (i := 11) rfl))) (by decide) (backOf (W := 0) (rm3_302 l Z a0 hw [] b86 k86 wa_135 wb_135 (own_maxL q3 q4) (0 : Int64) T94.heap n0 (Nat.le_trans Z0 K94.1) p94_0 gg86) hZ (hw _ (List.mem_of_getElem? (i := 11) rfl)) (hw _ (List.mem_of_getElem? (i := 2) rfl)) (by decide) (by decide)) (g := (mkF m 153 #[.val (.long q1), .second, .val (.long q2), .second, .val (.long q3), .second, .val (.long q4), .second, .val (.int p5), .val (.int (1 : Int32)), .val (.int (2 : Int32)), .val (.ref b_22), .val (.ref b_33), .val (.ref b_42), .val (.int (3 : Int32)), .val (.ref b86)] [(.int (2 : Int32)), (.int (0 : Int32)), (.int (3 : Int32)), (.ref b86)])) rfl (by rw [hml]; rfl) (argsL := [(.ref b86), (.int (3 : Int32)), (.int (0 : Int32)), (.int (2 : Int32))]) (rest := []) (lenOf pd_3 rfl) rfl (by show 2 * 0 + _ ≤ _; exact Nat.le_of_eq rfl) (hb hby at_153) (fun _ _ => ⟨rfl, hh96, (by decide : 4 + 0 ≤ _), (by decide : 10 + 0 ≤ _)⟩)
    dsimp only [Pt.U, Pt.locs, Pt.cells, Pt.slots] at X97 zl97 zy97 zz97 st97 hQ97
    subst zl97 zy97 zz97
    obtain ⟨wa_153, wb_153, rfl, Nq97, Kq97, p97_0, p97_1⟩ := hQ97
    have N97 := Fr.app N96 Nq97
    refine GoW.st st97 ?_
    have f98_V_b_42 : Arv Z T97.heap b_42 kb_42 .long (3 : Int32) [(.long w0_42), (.long w1_42), (.long w2_42)] (.long (0 : Int64)) := f95_V_b_42.keep Kq97 (ninS ne86_b_42 nin0)
    have K97 : Keep h0 T97.heap [] := K94.trans Kq97 (allS (Or.inr sz86) all0)
    have hs_153 := p97_1
    show GoW p e below QQ (T97.setTop (mkF m 156 #[.val (.long q1), .second, .val (.long q2), .second, .val (.long q3), .second, .val (.long q4), .second, .val (.int p5), .val (.int (1 : Int32)), .val (.int (2 : Int32)), .val (.ref b_22), .val (.ref b_33), .val (.ref b_42), .val (.int (3 : Int32)), .val (.ref b86)] []))
    refine GoW.st (fun t k => XS.aload X97.here hx rfl (hb hby at_156) rfl rfl (XS.iload X97.here hx rfl (hb hby at_158) rfl (XS.iconst X97.here hx rfl (hb hby at_160) (XS.iconst X97.here hx rfl (hb hby at_161) k)))) ?_
    show GoW p e below QQ (T97.setTop (mkF m 162 #[.val (.long q1), .second, .val (.long q2), .second, .val (.long q3), .second, .val (.long q4), .second, .val (.int p5), .val (.int (1 : Int32)), .val (.int (2 : Int32)), .val (.ref b_22), .val (.ref b_33), .val (.ref b_42), .val (.int (3 : Int32)), .val (.ref b86)] [(.int (3 : Int32)), (.int (1 : Int32)), (.int (3 : Int32)), (.ref b86)]))
    obtain ⟨_, _, ⟨T99, zL99, zk99, zn99⟩, -, X99, ⟨Lc99, hQ99, zl99, zy99, zz99⟩, st99⟩ := Jvm.LawKit.callS X97 hx (y := (⟨"com/example/hike/hike/HoldersMergePinLaw", "cx", "([JIII)V"⟩ : MethodName)) hown (mvT hZ (hw _ (List.mem_of_getElem? (i := 9) rfl))) (mvT hZ (hw _ (List.mem_of_getElem? (i := 10) rfl))) (mvT hZ (hw _ (List.mem_of_getElem? (i := 2) rfl))) (mvT hZ (hw _ (List.mem_of_getElem? (i := 11) rfl))) (by decide) (backOf (W := 0) (rm3_313 l Z a0 hw [] b86 T97.heap n0 (Nat.le_trans Z0 K97.1) ) hZ (hw _ (List.mem_of_getElem? (i := 11) rfl)) (hw _ (List.mem_of_getElem? (i := 2) rfl)) (by decide) (by decide)) (g := (mkF m 162 #[.val (.long q1), .second, .val (.long q2), .second, .val (.long q3), .second, .val (.long q4), .second, .val (.int p5), .val (.int (1 : Int32)), .val (.int (2 : Int32)), .val (.ref b_22), .val (.ref b_33), .val (.ref b_42), .val (.int (3 : Int32)), .val (.ref b86)] [(.int (3 : Int32)), (.int (1 : Int32)), (.int (3 : Int32)), (.ref b86)])) rfl (by rw [hml]; rfl) (argsL := [(.ref b86), (.int (3 : Int32)), (.int (1 : Int32)), (.int (3 : Int32))]) (rest := []) (lenOf pd_3 rfl) rfl (by show 2 * 0 + _ ≤ _; exact Nat.le_of_eq rfl) (hb hby at_162) (fun _ _ => ⟨rfl, rfl, (by decide : 4 + 0 ≤ _), (by decide : 10 + 0 ≤ _)⟩)
    dsimp only [Pt.U, Pt.locs, Pt.cells, Pt.slots] at X99 zl99 zy99 zz99 st99 hQ99
    subst zl99 zy99 zz99
    obtain ⟨rfl, Nq99, hh99⟩ := hQ99
    have N99 := Fr.app N97 Nq99
    refine GoW.st st99 ?_
    show GoW p e below QQ (T99.setTop (mkF m 165 #[.val (.long q1), .second, .val (.long q2), .second, .val (.long q3), .second, .val (.long q4), .second, .val (.int p5), .val (.int (1 : Int32)), .val (.int (2 : Int32)), .val (.ref b_22), .val (.ref b_33), .val (.ref b_42), .val (.int (3 : Int32)), .val (.ref b86)] []))
    refine GoW.st (fun t k => XS.aload X99.here hx rfl (hb hby at_165) rfl rfl (XS.iload X99.here hx rfl (hb hby at_167) rfl (XS.iconst X99.here hx rfl (hb hby at_169) (XS.iconst X99.here hx rfl (hb hby at_170) k)))) ?_
    show GoW p e below QQ (T99.setTop (mkF m 171 #[.val (.long q1), .second, .val (.long q2), .second, .val (.long q3), .second, .val (.long q4), .second, .val (.int p5), .val (.int (1 : Int32)), .val (.int (2 : Int32)), .val (.ref b_22), .val (.ref b_33), .val (.ref b_42), .val (.int (3 : Int32)), .val (.ref b86)] [(.int (2 : Int32)), (.int (1 : Int32)), (.int (3 : Int32)), (.ref b86)]))
    obtain ⟨_, _, ⟨T100, zL100, zk100, zn100⟩, -, X100, ⟨Lc100, hQ100, zl100, zy100, zz100⟩, st100⟩ := Jvm.LawKit.callS X99 hx (y := (⟨"com/example/hike/hike/HoldersMergePinLaw", "cx", "([JIII)V"⟩ : MethodName)) hown (mvT hZ (hw _ (List.mem_of_getElem? (i := 9) rfl))) (mvT hZ (hw _ (List.mem_of_getElem? (i := 10) rfl))) (mvT hZ (hw _ (List.mem_of_getElem? (i := 2) rfl))) (mvT hZ (hw _ (List.mem_of_getElem? (i := 11) rfl))) (by decide) (backOf (W := 0) (rm3_312 l Z a0 hw [] b86 k86 wa_153 wb_135 wb_153 (0 : Int64) T97.heap n0 (Nat.le_trans Z0 K97.1) p97_0 gg86) hZ (hw _ (List.mem_of_getElem? (i := 11) rfl)) (hw _ (List.mem_of_getElem? (i := 2) rfl)) (by decide) (by decide)) (g := (mkF m 171 #[.val (.long q1), .second, .val (.long q2), .second, .val (.long q3), .second, .val (.long q4), .second, .val (.int p5), .val (.int (1 : Int32)), .val (.int (2 : Int32)), .val (.ref b_22), .val (.ref b_33), .val (.ref b_42), .val (.int (3 : Int32)), .val (.ref b86)] [(.int (2 : Int32)), (.int (1 : Int32)), (.int (3 : Int32)), (.ref b86)])) rfl (by rw [hml]; rfl) (argsL := [(.ref b86), (.int (3 : Int32)), (.int (1 : Int32)), (.int (2 : Int32))]) (rest := []) (lenOf pd_3 rfl) rfl (by show 2 * 0 + _ ≤ _; exact Nat.le_of_eq rfl) (hb hby at_171) (fun _ _ => ⟨rfl, hh99, (by decide : 4 + 0 ≤ _), (by decide : 10 + 0 ≤ _)⟩)
    dsimp only [Pt.U, Pt.locs, Pt.cells, Pt.slots] at X100 zl100 zy100 zz100 st100 hQ100
    subst zl100 zy100 zz100
    obtain ⟨wa_171, wb_171, rfl, Nq100, Kq100, p100_0, p100_1⟩ := hQ100
    have N100 := Fr.app N99 Nq100
    refine GoW.st st100 ?_
    have f101_V_b_42 : Arv Z T100.heap b_42 kb_42 .long (3 : Int32) [(.long w0_42), (.long w1_42), (.long w2_42)] (.long (0 : Int64)) := f98_V_b_42.keep Kq100 (ninS ne86_b_42 nin0)
    have K100 : Keep h0 T100.heap [] := K97.trans Kq100 (allS (Or.inr sz86) all0)
    have hs_171 := p100_1
    show GoW p e below QQ (T100.setTop (mkF m 174 #[.val (.long q1), .second, .val (.long q2), .second, .val (.long q3), .second, .val (.long q4), .second, .val (.int p5), .val (.int (1 : Int32)), .val (.int (2 : Int32)), .val (.ref b_22), .val (.ref b_33), .val (.ref b_42), .val (.int (3 : Int32)), .val (.ref b86)] []))
    refine GoW.st (fun t k => XS.iconst X100.here hx rfl (hb hby at_174) (XS.iload X100.here hx rfl (hb hby at_175) rfl k)) ?_
    show GoW p e below QQ (T100.setTop (mkF m 177 #[.val (.long q1), .second, .val (.long q2), .second, .val (.long q3), .second, .val (.long q4), .second, .val (.int p5), .val (.int (1 : Int32)), .val (.int (2 : Int32)), .val (.ref b_22), .val (.ref b_33), .val (.ref b_42), .val (.int (3 : Int32)), .val (.ref b86)] [(.int (3 : Int32)), (.int (0 : Int32))]))
    have hc177 : (0 : Int32) < (3 : Int32) := by decide
    refine GoW.st (fun t k => XS.icmpNo X100.here hx rfl (hb hby at_177) rfl (tlt hc177).2.1 (XS.aload X100.here hx rfl (hb hby at_180) rfl rfl (XS.iconst X100.here hx rfl (hb hby at_182) (ldVJ X100 hx hZ rfl f101_V_b_42 (v := (.long w0_42)) ⟨by decide, by decide⟩ rfl (g := (mkF m 183 #[.val (.long q1), .second, .val (.long q2), .second, .val (.long q3), .second, .val (.long q4), .second, .val (.int p5), .val (.int (1 : Int32)), .val (.int (2 : Int32)), .val (.ref b_22), .val (.ref b_33), .val (.ref b_42), .val (.int (3 : Int32)), .val (.ref b86)] [(.int (0 : Int32)), (.ref b_42)])) rfl rfl (hb hby at_183) t (XS.aload X100.here hx rfl (hb hby at_184) rfl rfl (XS.iconst X100.here hx rfl (hb hby at_186) k)))))) ?_
    show GoW p e below QQ (T100.setTop (mkF m 187 #[.val (.long q1), .second, .val (.long q2), .second, .val (.long q3), .second, .val (.long q4), .second, .val (.int p5), .val (.int (1 : Int32)), .val (.int (2 : Int32)), .val (.ref b_22), .val (.ref b_33), .val (.ref b_42), .val (.int (3 : Int32)), .val (.ref b86)] [(.int (0 : Int32)), (.ref b86), (.long w0_42)]))
    refine GoW.st (fun t k => ldVJ X100 hx hZ rfl p100_0 (v := (.long wa_153)) ⟨by decide, by decide⟩ rfl (g := (mkF m 187 #[.val (.long q1), .second, .val (.long q2), .second, .val (.long q3), .second, .val (.long q4), .second, .val (.int p5), .val (.int (1 : Int32)), .val (.int (2 : Int32)), .val (.ref b_22), .val (.ref b_33), .val (.ref b_42), .val (.int (3 : Int32)), .val (.ref b86)] [(.int (0 : Int32)), (.ref b86), (.long w0_42)])) rfl rfl (hb hby at_187) t (XS.lcmp X100.here hx rfl (hb hby at_188) rfl k)) ?_
    show GoW p e below QQ (T100.setTop (mkF m 189 #[.val (.long q1), .second, .val (.long q2), .second, .val (.long q3), .second, .val (.long q4), .second, .val (.int p5), .val (.int (1 : Int32)), .val (.int (2 : Int32)), .val (.ref b_22), .val (.ref b_33), .val (.ref b_42), .val (.int (3 : Int32)), .val (.ref b86)] [(.int (lcmpW w0_42 wa_153))]))
    have hc189 : w0_42 = wa_153 := by
      apply Int64.toInt_inj.mp
      omega
    refine GoW.st (fun t k => XS.ifYes X100.here hx rfl (pc0 := 189) (pc' := 194) rfl (hb hby at_189) rfl ((if0 _ _).trans (teq ((lw_eq w0_42 wa_153).mpr hc189)).1) (by decide) (by decide) (XS.iconst X100.here hx rfl (hb hby at_194) (XS.iload X100.here hx rfl (hb hby at_195) rfl k))) ?_
    show GoW p e below QQ (T100.setTop (mkF m 197 #[.val (.long q1), .second, .val (.long q2), .second, .val (.long q3), .second, .val (.long q4), .second, .val (.int p5), .val (.int (1 : Int32)), .val (.int (2 : Int32)), .val (.ref b_22), .val (.ref b_33), .val (.ref b_42), .val (.int (3 : Int32)), .val (.ref b86)] [(.int (3 : Int32)), (.int (1 : Int32))]))
    have hc197 : (1 : Int32) < (3 : Int32) := by decide
    refine GoW.st (fun t k => XS.icmpNo X100.here hx rfl (hb hby at_197) rfl (tlt hc197).2.1 (XS.aload X100.here hx rfl (hb hby at_200) rfl rfl (XS.iconst X100.here hx rfl (hb hby at_202) (ldVJ X100 hx hZ rfl f101_V_b_42 (v := (.long w1_42)) ⟨by decide, by decide⟩ rfl (g := (mkF m 203 #[.val (.long q1), .second, .val (.long q2), .second, .val (.long q3), .second, .val (.long q4), .second, .val (.int p5), .val (.int (1 : Int32)), .val (.int (2 : Int32)), .val (.ref b_22), .val (.ref b_33), .val (.ref b_42), .val (.int (3 : Int32)), .val (.ref b86)] [(.int (1 : Int32)), (.ref b_42)])) rfl rfl (hb hby at_203) t (XS.aload X100.here hx rfl (hb hby at_204) rfl rfl (XS.iconst X100.here hx rfl (hb hby at_206) k)))))) ?_
    show GoW p e below QQ (T100.setTop (mkF m 207 #[.val (.long q1), .second, .val (.long q2), .second, .val (.long q3), .second, .val (.long q4), .second, .val (.int p5), .val (.int (1 : Int32)), .val (.int (2 : Int32)), .val (.ref b_22), .val (.ref b_33), .val (.ref b_42), .val (.int (3 : Int32)), .val (.ref b86)] [(.int (1 : Int32)), (.ref b86), (.long w1_42)]))
    refine GoW.st (fun t k => ldVJ X100 hx hZ rfl p100_0 (v := (.long wa_171)) ⟨by decide, by decide⟩ rfl (g := (mkF m 207 #[.val (.long q1), .second, .val (.long q2), .second, .val (.long q3), .second, .val (.long q4), .second, .val (.int p5), .val (.int (1 : Int32)), .val (.int (2 : Int32)), .val (.ref b_22), .val (.ref b_33), .val (.ref b_42), .val (.int (3 : Int32)), .val (.ref b86)] [(.int (1 : Int32)), (.ref b86), (.long w1_42)])) rfl rfl (hb hby at_207) t (XS.lcmp X100.here hx rfl (hb hby at_208) rfl k)) ?_
    show GoW p e below QQ (T100.setTop (mkF m 209 #[.val (.long q1), .second, .val (.long q2), .second, .val (.long q3), .second, .val (.long q4), .second, .val (.int p5), .val (.int (1 : Int32)), .val (.int (2 : Int32)), .val (.ref b_22), .val (.ref b_33), .val (.ref b_42), .val (.int (3 : Int32)), .val (.ref b86)] [(.int (lcmpW w1_42 wa_171))]))
    have hc209 : w1_42 = wa_171 := by
      apply Int64.toInt_inj.mp
      omega
    refine GoW.st (fun t k => XS.ifYes X100.here hx rfl (pc0 := 209) (pc' := 214) rfl (hb hby at_209) rfl ((if0 _ _).trans (teq ((lw_eq w1_42 wa_171).mpr hc209)).1) (by decide) (by decide) (XS.iconst X100.here hx rfl (hb hby at_214) (XS.iload X100.here hx rfl (hb hby at_215) rfl k))) ?_
    show GoW p e below QQ (T100.setTop (mkF m 217 #[.val (.long q1), .second, .val (.long q2), .second, .val (.long q3), .second, .val (.long q4), .second, .val (.int p5), .val (.int (1 : Int32)), .val (.int (2 : Int32)), .val (.ref b_22), .val (.ref b_33), .val (.ref b_42), .val (.int (3 : Int32)), .val (.ref b86)] [(.int (3 : Int32)), (.int (2 : Int32))]))
    have hc217 : (2 : Int32) < (3 : Int32) := by decide
    refine GoW.st (fun t k => XS.icmpNo X100.here hx rfl (hb hby at_217) rfl (tlt hc217).2.1 (XS.aload X100.here hx rfl (hb hby at_220) rfl rfl (XS.iconst X100.here hx rfl (hb hby at_222) (ldVJ X100 hx hZ rfl f101_V_b_42 (v := (.long w2_42)) ⟨by decide, by decide⟩ rfl (g := (mkF m 223 #[.val (.long q1), .second, .val (.long q2), .second, .val (.long q3), .second, .val (.long q4), .second, .val (.int p5), .val (.int (1 : Int32)), .val (.int (2 : Int32)), .val (.ref b_22), .val (.ref b_33), .val (.ref b_42), .val (.int (3 : Int32)), .val (.ref b86)] [(.int (2 : Int32)), (.ref b_42)])) rfl rfl (hb hby at_223) t (XS.aload X100.here hx rfl (hb hby at_224) rfl rfl (XS.iconst X100.here hx rfl (hb hby at_226) k)))))) ?_
    show GoW p e below QQ (T100.setTop (mkF m 227 #[.val (.long q1), .second, .val (.long q2), .second, .val (.long q3), .second, .val (.long q4), .second, .val (.int p5), .val (.int (1 : Int32)), .val (.int (2 : Int32)), .val (.ref b_22), .val (.ref b_33), .val (.ref b_42), .val (.int (3 : Int32)), .val (.ref b86)] [(.int (2 : Int32)), (.ref b86), (.long w2_42)]))
    refine GoW.st (fun t k => ldVJ X100 hx hZ rfl p100_0 (v := (.long wb_171)) ⟨by decide, by decide⟩ rfl (g := (mkF m 227 #[.val (.long q1), .second, .val (.long q2), .second, .val (.long q3), .second, .val (.long q4), .second, .val (.int p5), .val (.int (1 : Int32)), .val (.int (2 : Int32)), .val (.ref b_22), .val (.ref b_33), .val (.ref b_42), .val (.int (3 : Int32)), .val (.ref b86)] [(.int (2 : Int32)), (.ref b86), (.long w2_42)])) rfl rfl (hb hby at_227) t (XS.lcmp X100.here hx rfl (hb hby at_228) rfl k)) ?_
    show GoW p e below QQ (T100.setTop (mkF m 229 #[.val (.long q1), .second, .val (.long q2), .second, .val (.long q3), .second, .val (.long q4), .second, .val (.int p5), .val (.int (1 : Int32)), .val (.int (2 : Int32)), .val (.ref b_22), .val (.ref b_33), .val (.ref b_42), .val (.int (3 : Int32)), .val (.ref b86)] [(.int (lcmpW w2_42 wb_171))]))
    have hc229 : w2_42 = wb_171 := by
      apply Int64.toInt_inj.mp
      omega
    refine GoW.st (fun t k => XS.ifYes X100.here hx rfl (pc0 := 229) (pc' := 234) rfl (hb hby at_229) rfl ((if0 _ _).trans (teq ((lw_eq w2_42 wb_171).mpr hc229)).1) (by decide) (by decide) (XS.iconst X100.here hx rfl (hb hby at_234) (XS.iload X100.here hx rfl (hb hby at_235) rfl k))) ?_
    show GoW p e below QQ (T100.setTop (mkF m 237 #[.val (.long q1), .second, .val (.long q2), .second, .val (.long q3), .second, .val (.long q4), .second, .val (.int p5), .val (.int (1 : Int32)), .val (.int (2 : Int32)), .val (.ref b_22), .val (.ref b_33), .val (.ref b_42), .val (.int (3 : Int32)), .val (.ref b86)] [(.int (3 : Int32)), (.int (3 : Int32))]))
    have hc237 : ¬ ((3 : Int32) < (3 : Int32)) := by decide
    refine GoW.st (fun t k => XS.icmpYes X100.here hx rfl (pc0 := 237) (pc' := 254) rfl (hb hby at_237) rfl (flt hc237).2.1 (by decide) (by decide) (XS.iconst X100.here hx rfl (hb hby at_254) k)) ?_
    show GoW p e below QQ (T100.setTop (mkF m 255 #[.val (.long q1), .second, .val (.long q2), .second, .val (.long q3), .second, .val (.long q4), .second, .val (.int p5), .val (.int (1 : Int32)), .val (.int (2 : Int32)), .val (.ref b_22), .val (.ref b_33), .val (.ref b_42), .val (.int (3 : Int32)), .val (.ref b86)] [(.int (1 : Int32))]))
    exact GoW.fin X100 (some (.int (nar .boolean (1 : Int32)))) (fun q => by rw [hret] at q; cases q) hlk hQ rfl ⟨rfl, N100⟩ (by decide) (by decide) (fun fs hr => retN X100 hx (t := .boolean) hret (by simp) (hb hby at_255) hr)
  · skip
    show GoW p e below QQ (T0.setTop (mkF m 18 #[.val (.long q1), .second, .val (.long q2), .second, .val (.long q3), .second, .val (.long q4), .second, .val (.int p5), .val (.int (2 : Int32)), .val (.int (0 : Int32)), .unset, .unset, .unset, .unset, .unset] []))
    refine GoW.st (fun t k => XS.iload X0.here hx rfl (hb hby at_18) rfl (XS.lloadN X0.here hx rfl (hb hby at_20) rfl (XS.lloadN X0.here hx rfl (hb hby at_21) rfl k))) ?_
    show GoW p e below QQ (T0.setTop (mkF m 22 #[.val (.long q1), .second, .val (.long q2), .second, .val (.long q3), .second, .val (.long q4), .second, .val (.int p5), .val (.int (2 : Int32)), .val (.int (0 : Int32)), .unset, .unset, .unset, .unset, .unset] [(.long q2), (.long q1), (.int (2 : Int32))]))
    obtain ⟨_, _, ⟨T102, zL102, zk102, zn102⟩, -, X102, ⟨Lc102, hQ102, zl102, zy102, zz102⟩, st102⟩ := Jvm.LawKit.callS X0 hx (y := (⟨"com/example/hike/hike/HoldersMergePinLaw", "make", "(IJJ)[J"⟩ : MethodName)) hown (mvT hZ (hw _ (List.mem_of_getElem? (i := 0) rfl))) (mvT hZ (hw _ (List.mem_of_getElem? (i := 1) rfl))) (mvT hZ (hw _ (List.mem_of_getElem? (i := 2) rfl))) (mvT hZ (hw _ (List.mem_of_getElem? (i := 3) rfl))) (by decide) (backOf (W := 0) (rm1_2 l Z a0 hw [] q1 q2 h0 n0 (Nat.le_trans Z0 K0.1) ) hZ (hw _ (List.mem_of_getElem? (i := 3) rfl)) (hw _ (List.mem_of_getElem? (i := 2) rfl)) (by decide) (by decide)) (g := (mkF m 22 #[.val (.long q1), .second, .val (.long q2), .second, .val (.long q3), .second, .val (.long q4), .second, .val (.int p5), .val (.int (2 : Int32)), .val (.int (0 : Int32)), .unset, .unset, .unset, .unset, .unset] [(.long q2), (.long q1), (.int (2 : Int32))])) rfl (by rw [hml]; rfl) (argsL := [(.int (2 : Int32)), (.long q1), (.long q2)]) (rest := []) (lenOf pd_1 rfl) rfl (by show 2 * 0 + _ ≤ _; exact Nat.le_of_eq rfl) (hb hby at_22) (fun _ _ => ⟨rfl, e0, (by decide : 0 + 1 ≤ _), (by decide : 0 + 2 ≤ _)⟩)
    dsimp only [Pt.U, Pt.locs, Pt.cells, Pt.slots] at X102 zl102 zy102 zz102 st102 hQ102
    subst zl102 zy102 zz102
    obtain ⟨b_22, kb_22, rfl, Nq102, Kq102, p102_0, p102_1⟩ := hQ102
    have N102 := Fr.app N0 Nq102
    refine GoW.st st102 ?_
    have sz102_b_22 : h0.size ≤ b_22 := Nat.le_trans K0.1 p102_0
    have gg102_b_22 : n0 ≤ b_22 := Nat.le_trans Z0 sz102_b_22
    have K102 : Keep h0 T102.heap [] := K0.trans Kq102 all0
    show GoW p e below QQ (T102.setTop (mkF m 25 #[.val (.long q1), .second, .val (.long q2), .second, .val (.long q3), .second, .val (.long q4), .second, .val (.int p5), .val (.int (2 : Int32)), .val (.int (0 : Int32)), .unset, .unset, .unset, .unset, .unset] [(.ref b_22)]))
    refine GoW.st (fun t k => XS.astore X102.here hx rfl (hb hby at_25) rfl rfl (l' := #[.val (.long q1), .second, .val (.long q2), .second, .val (.long q3), .second, .val (.long q4), .second, .val (.int p5), .val (.int (2 : Int32)), .val (.int (0 : Int32)), .val (.ref b_22), .unset, .unset, .unset, .unset]) rfl (XS.iload X102.here hx rfl (hb hby at_27) rfl (XS.lload X102.here hx rfl (hb hby at_29) rfl (XS.lload X102.here hx rfl (hb hby at_31) rfl k)))) ?_
    show GoW p e below QQ (T102.setTop (mkF m 33 #[.val (.long q1), .second, .val (.long q2), .second, .val (.long q3), .second, .val (.long q4), .second, .val (.int p5), .val (.int (2 : Int32)), .val (.int (0 : Int32)), .val (.ref b_22), .unset, .unset, .unset, .unset] [(.long q4), (.long q3), (.int (0 : Int32))]))
    obtain ⟨_, _, ⟨T104, zL104, zk104, zn104⟩, -, X104, ⟨Lc104, hQ104, zl104, zy104, zz104⟩, st104⟩ := Jvm.LawKit.callS X102 hx (y := (⟨"com/example/hike/hike/HoldersMergePinLaw", "make", "(IJJ)[J"⟩ : MethodName)) hown (mvT hZ (hw _ (List.mem_of_getElem? (i := 0) rfl))) (mvT hZ (hw _ (List.mem_of_getElem? (i := 1) rfl))) (mvT hZ (hw _ (List.mem_of_getElem? (i := 2) rfl))) (mvT hZ (hw _ (List.mem_of_getElem? (i := 3) rfl))) (by decide) (backOf (W := 0) (rm1_0 l Z a0 hw [] q3 q4 T102.heap n0 (Nat.le_trans Z0 K102.1) ) hZ (hw _ (List.mem_of_getElem? (i := 3) rfl)) (hw _ (List.mem_of_getElem? (i := 2) rfl)) (by decide) (by decide)) (g := (mkF m 33 #[.val (.long q1), .second, .val (.long q2), .second, .val (.long q3), .second, .val (.long q4), .second, .val (.int p5), .val (.int (2 : Int32)), .val (.int (0 : Int32)), .val (.ref b_22), .unset, .unset, .unset, .unset] [(.long q4), (.long q3), (.int (0 : Int32))])) rfl (by rw [hml]; rfl) (argsL := [(.int (0 : Int32)), (.long q3), (.long q4)]) (rest := []) (lenOf pd_1 rfl) rfl (by show 2 * 0 + _ ≤ _; exact Nat.le_of_eq rfl) (hb hby at_33) (fun _ _ => ⟨rfl, rfl, (by decide : 1 + 1 ≤ _), (by decide : 2 + 0 ≤ _)⟩)
    dsimp only [Pt.U, Pt.locs, Pt.cells, Pt.slots] at X104 zl104 zy104 zz104 st104 hQ104
    subst zl104 zy104 zz104
    obtain ⟨b_33, kb_33, rfl, Nq104, Kq104, p104_0, p104_1⟩ := hQ104
    have N104 := Fr.app N102 Nq104
    refine GoW.st st104 ?_
    have ne104_b_22_b_33 : b_22 ≠ b_33 := Nat.ne_of_lt (Nat.lt_of_lt_of_le p102_1.lt p104_0)
    have sz104_b_33 : h0.size ≤ b_33 := Nat.le_trans K102.1 p104_0
    have gg104_b_33 : n0 ≤ b_33 := Nat.le_trans Z0 sz104_b_33
    have f105_V_b_22 : Arv Z T104.heap b_22 kb_22 .long (2 : Int32) [(.long (own_minL q1 q2)), (.long (own_maxL q1 q2))] (.long (0 : Int64)) := p102_1.keep Kq104 nin0
    have K104 : Keep h0 T104.heap [] := K102.trans Kq104 all0
    show GoW p e below QQ (T104.setTop (mkF m 36 #[.val (.long q1), .second, .val (.long q2), .second, .val (.long q3), .second, .val (.long q4), .second, .val (.int p5), .val (.int (2 : Int32)), .val (.int (0 : Int32)), .val (.ref b_22), .unset, .unset, .unset, .unset] [(.ref b_33)]))
    refine GoW.st (fun t k => XS.astore X104.here hx rfl (hb hby at_36) rfl rfl (l' := #[.val (.long q1), .second, .val (.long q2), .second, .val (.long q3), .second, .val (.long q4), .second, .val (.int p5), .val (.int (2 : Int32)), .val (.int (0 : Int32)), .val (.ref b_22), .val (.ref b_33), .unset, .unset, .unset]) rfl (XS.aload X104.here hx rfl (hb hby at_38) rfl rfl (XS.aload X104.here hx rfl (hb hby at_40) rfl rfl k))) ?_
    show GoW p e below QQ (T104.setTop (mkF m 42 #[.val (.long q1), .second, .val (.long q2), .second, .val (.long q3), .second, .val (.long q4), .second, .val (.int p5), .val (.int (2 : Int32)), .val (.int (0 : Int32)), .val (.ref b_22), .val (.ref b_33), .unset, .unset, .unset] [(.ref b_33), (.ref b_22)]))
    obtain ⟨_, _, ⟨T106, zL106, zk106, zn106⟩, -, X106, ⟨Lc106, hQ106, zl106, zy106, zz106⟩, st106⟩ := Jvm.LawKit.callS X104 hx (y := (⟨"com/example/hike/hike/Holders", "merge", "([J[J)[J"⟩ : MethodName)) hown (mvT hZ (hw _ (List.mem_of_getElem? (i := 5) rfl))) (mvT hZ (hw _ (List.mem_of_getElem? (i := 6) rfl))) (mvT hZ (hw _ (List.mem_of_getElem? (i := 7) rfl))) (mvT hZ (hw _ (List.mem_of_getElem? (i := 8) rfl))) (by decide) (backOf (W := 0) (rm2_20 l Z a0 hw [] b_22 b_33 kb_22 kb_33 (own_minL q1 q2) (own_maxL q1 q2) T104.heap n0 (Nat.le_trans Z0 K104.1) f105_V_b_22 p104_1 (own_mm _ _)) hZ (hw _ (List.mem_of_getElem? (i := 8) rfl)) (hw _ (List.mem_of_getElem? (i := 7) rfl)) (by decide) (by decide)) (g := (mkF m 42 #[.val (.long q1), .second, .val (.long q2), .second, .val (.long q3), .second, .val (.long q4), .second, .val (.int p5), .val (.int (2 : Int32)), .val (.int (0 : Int32)), .val (.ref b_22), .val (.ref b_33), .unset, .unset, .unset] [(.ref b_33), (.ref b_22)])) rfl (by rw [hml]; rfl) (argsL := [(.ref b_22), (.ref b_33)]) (rest := []) (lenOf pd_2 rfl) rfl (by show 2 * 0 + _ ≤ _; exact Nat.le_of_eq rfl) (hb hby at_42) (fun _ _ => ⟨rfl, rfl, (by decide : 2 + 1 ≤ _), (by decide : 2 + 2 ≤ _)⟩)
    dsimp only [Pt.U, Pt.locs, Pt.cells, Pt.slots] at X106 zl106 zy106 zz106 st106 hQ106
    subst zl106 zy106 zz106
    obtain ⟨b_42, kb_42, w0_42, w1_42, rfl, Nq106, Kq106, p106_0, p106_1, p106_2⟩ := hQ106
    have N106 := Fr.app N104 Nq106
    refine GoW.st st106 ?_
    have ne106_b_22_b_42 : b_22 ≠ b_42 := Nat.ne_of_lt (Nat.lt_of_lt_of_le f105_V_b_22.lt p106_0)
    have ne106_b_33_b_42 : b_33 ≠ b_42 := Nat.ne_of_lt (Nat.lt_of_lt_of_le p104_1.lt p106_0)
    have sz106_b_42 : h0.size ≤ b_42 := Nat.le_trans K104.1 p106_0
    have gg106_b_42 : n0 ≤ b_42 := Nat.le_trans Z0 sz106_b_42
    have f107_V_b_22 : Arv Z T106.heap b_22 kb_22 .long (2 : Int32) [(.long (own_minL q1 q2)), (.long (own_maxL q1 q2))] (.long (0 : Int64)) := f105_V_b_22.keep Kq106 nin0
    have f107_V_b_33 : Arv Z T106.heap b_33 kb_33 .long (0 : Int32) [] (.long (0 : Int64)) := p104_1.keep Kq106 nin0
    have K106 : Keep h0 T106.heap [] := K104.trans Kq106 all0
    have hw_42 := p106_2
    show GoW p e below QQ (T106.setTop (mkF m 45 #[.val (.long q1), .second, .val (.long q2), .second, .val (.long q3), .second, .val (.long q4), .second, .val (.int p5), .val (.int (2 : Int32)), .val (.int (0 : Int32)), .val (.ref b_22), .val (.ref b_33), .unset, .unset, .unset] [(.ref b_42)]))
    refine GoW.st (fun t k => XS.astore X106.here hx rfl (hb hby at_45) rfl rfl (l' := #[.val (.long q1), .second, .val (.long q2), .second, .val (.long q3), .second, .val (.long q4), .second, .val (.int p5), .val (.int (2 : Int32)), .val (.int (0 : Int32)), .val (.ref b_22), .val (.ref b_33), .val (.ref b_42), .unset, .unset]) rfl (XS.iload X106.here hx rfl (hb hby at_47) rfl (XS.iload X106.here hx rfl (hb hby at_49) rfl (XS.iadd X106.here hx rfl (hb hby at_51) rfl (XS.istore X106.here hx rfl (hb hby at_52) rfl (l' := #[.val (.long q1), .second, .val (.long q2), .second, .val (.long q3), .second, .val (.long q4), .second, .val (.int p5), .val (.int (2 : Int32)), .val (.int (0 : Int32)), .val (.ref b_22), .val (.ref b_33), .val (.ref b_42), .val (.int (2 : Int32)), .unset]) rfl (XS.aload X106.here hx rfl (hb hby at_54) rfl rfl k)))))) ?_
    show GoW p e below QQ (T106.setTop (mkF m 56 #[.val (.long q1), .second, .val (.long q2), .second, .val (.long q3), .second, .val (.long q4), .second, .val (.int p5), .val (.int (2 : Int32)), .val (.int (0 : Int32)), .val (.ref b_22), .val (.ref b_33), .val (.ref b_42), .val (.int (2 : Int32)), .unset] [(.ref b_42)]))
    refine GoW.st (fun t k => lnV X106 hx hZ rfl p106_1 (g := (mkF m 56 #[.val (.long q1), .second, .val (.long q2), .second, .val (.long q3), .second, .val (.long q4), .second, .val (.int p5), .val (.int (2 : Int32)), .val (.int (0 : Int32)), .val (.ref b_22), .val (.ref b_33), .val (.ref b_42), .val (.int (2 : Int32)), .unset] [(.ref b_42)])) rfl rfl (hb hby at_56) t (XS.iload X106.here hx rfl (hb hby at_57) rfl k)) ?_
    show GoW p e below QQ (T106.setTop (mkF m 59 #[.val (.long q1), .second, .val (.long q2), .second, .val (.long q3), .second, .val (.long q4), .second, .val (.int p5), .val (.int (2 : Int32)), .val (.int (0 : Int32)), .val (.ref b_22), .val (.ref b_33), .val (.ref b_42), .val (.int (2 : Int32)), .unset] [(.int (2 : Int32)), (.int (2 : Int32))]))
    have hc59 : (2 : Int32) = (2 : Int32) := by decide
    refine GoW.st (fun t k => XS.icmpYes X106.here hx rfl (pc0 := 59) (pc' := 64) rfl (hb hby at_59) rfl (teq hc59).1 (by decide) (by decide) (XS.iconst X106.here hx rfl (hb hby at_64) k)) ?_
    show GoW p e below QQ (T106.setTop (mkF m 65 #[.val (.long q1), .second, .val (.long q2), .second, .val (.long q3), .second, .val (.long q4), .second, .val (.int p5), .val (.int (2 : Int32)), .val (.int (0 : Int32)), .val (.ref b_22), .val (.ref b_33), .val (.ref b_42), .val (.int (2 : Int32)), .unset] [(.int (4 : Int32))]))
    obtain ⟨T108, h108, k108, X108, e108, E108, A108, st108⟩ := newP X106 hx hZ (hw _ (List.mem_of_getElem? (i := 4) rfl)) rfl (g := (mkF m 65 #[.val (.long q1), .second, .val (.long q2), .second, .val (.long q3), .second, .val (.long q4), .second, .val (.int p5), .val (.int (2 : Int32)), .val (.int (0 : Int32)), .val (.ref b_22), .val (.ref b_33), .val (.ref b_42), .val (.int (2 : Int32)), .unset] [(.int (4 : Int32))])) rfl (hb hby at_65) rfl (by decide) (cap := 4) (by decide) (by decide) (by decide) (by decide)
    obtain ⟨b108, g108⟩ : ∃ z, z = T106.heap.size := ⟨_, rfl⟩
    rw [← g108] at A108 st108
    refine GoW.st st108 ?_
    have gg108 : n0 ≤ b108 := Nat.le_trans (Nat.le_trans Z0 K106.1) (Nat.le_of_eq g108.symm)
    have sz108 : h0.size ≤ b108 := Nat.le_trans K106.1 (Nat.le_of_eq g108.symm)
    have ne108_b_22 : b_22 ≠ b108 := Nat.ne_of_lt (Nat.lt_of_lt_of_le f107_V_b_22.lt (Nat.le_of_eq g108.symm))
    have ne108_b_33 : b_33 ≠ b108 := Nat.ne_of_lt (Nat.lt_of_lt_of_le f107_V_b_33.lt (Nat.le_of_eq g108.symm))
    have ne108_b_42 : b_42 ≠ b108 := Nat.ne_of_lt (Nat.lt_of_lt_of_le p106_1.lt (Nat.le_of_eq g108.symm))
    have f109_V_b_22 : Arv Z h108 b_22 kb_22 .long (2 : Int32) [(.long (own_minL q1 q2)), (.long (own_maxL q1 q2))] (.long (0 : Int64)) := f107_V_b_22.ext E108
    have f109_V_b_33 : Arv Z h108 b_33 kb_33 .long (0 : Int32) [] (.long (0 : Int64)) := f107_V_b_33.ext E108
    have f109_V_b_42 : Arv Z h108 b_42 kb_42 .long (2 : Int32) [(.long w0_42), (.long w1_42)] (.long (0 : Int64)) := p106_1.ext E108
    have K108 : Keep h0 h108 [] := K106.ext E108
    have V108 : Arv Z h108 b108 k108 .long (4 : Int32) [(.long (0 : Int64)), (.long (0 : Int64)), (.long (0 : Int64)), (.long (0 : Int64))] (.long (0 : Int64)) := (Arv.new A108 (by decide)).pad (pad_rep [] (.long (0 : Int64)) 4)
    show GoW p e below QQ (T108.setTop (mkF m 67 #[.val (.long q1), .second, .val (.long q2), .second, .val (.long q3), .second, .val (.long q4), .second, .val (.int p5), .val (.int (2 : Int32)), .val (.int (0 : Int32)), .val (.ref b_22), .val (.ref b_33), .val (.ref b_42), .val (.int (2 : Int32)), .unset] [(.ref b108)]))
    refine GoW.st (fun t k => XS.astore X108.here hx rfl (hb hby at_67) rfl rfl (l' := #[.val (.long q1), .second, .val (.long q2), .second, .val (.long q3), .second, .val (.long q4), .second, .val (.int p5), .val (.int (2 : Int32)), .val (.int (0 : Int32)), .val (.ref b_22), .val (.ref b_33), .val (.ref b_42), .val (.int (2 : Int32)), .val (.ref b108)]) rfl (XS.iload X108.here hx rfl (hb hby at_69) rfl (XS.iconst X108.here hx rfl (hb hby at_71) k))) ?_
    show GoW p e below QQ (T108.setTop (mkF m 72 #[.val (.long q1), .second, .val (.long q2), .second, .val (.long q3), .second, .val (.long q4), .second, .val (.int p5), .val (.int (2 : Int32)), .val (.int (0 : Int32)), .val (.ref b_22), .val (.ref b_33), .val (.ref b_42), .val (.int (2 : Int32)), .val (.ref b108)] [(.int (1 : Int32)), (.int (2 : Int32))]))
    have hc72 : ¬ ((2 : Int32) < (1 : Int32)) := by decide
    refine GoW.st (fun t k => XS.icmpNo X108.here hx rfl (hb hby at_72) rfl (flt hc72).1 (XS.aload X108.here hx rfl (hb hby at_75) rfl rfl (XS.iconst X108.here hx rfl (hb hby at_77) (XS.aload X108.here hx rfl (hb hby at_78) rfl rfl (XS.iconst X108.here hx rfl (hb hby at_80) (ldVJ X108 hx hZ e108 f109_V_b_22 (v := (.long (own_minL q1 q2))) ⟨by decide, by decide⟩ rfl (g := (mkF m 81 #[.val (.long q1), .second, .val (.long q2), .second, .val (.long q3), .second, .val (.long q4), .second, .val (.int p5), .val (.int (2 : Int32)), .val (.int (0 : Int32)), .val (.ref b_22), .val (.ref b_33), .val (.ref b_42), .val (.int (2 : Int32)), .val (.ref b108)] [(.int (0 : Int32)), (.ref b_22), (.int (0 : Int32)), (.ref b108)])) rfl rfl (hb hby at_81) t k)))))) ?_
    show GoW p e below QQ (T108.setTop (mkF m 82 #[.val (.long q1), .second, .val (.long q2), .second, .val (.long q3), .second, .val (.long q4), .second, .val (.int p5), .val (.int (2 : Int32)), .val (.int (0 : Int32)), .val (.ref b_22), .val (.ref b_33), .val (.ref b_42), .val (.int (2 : Int32)), .val (.ref b108)] [(.long (own_minL q1 q2)), (.int (0 : Int32)), (.ref b108)]))
    obtain ⟨T110, h110, X110, e110, W110, V110, st110⟩ := stVJ X108 hx hZ e108 V108 ⟨by decide, by decide⟩ 0 rfl (Nat.le_of_ble_eq_true rfl) (g := (mkF m 82 #[.val (.long q1), .second, .val (.long q2), .second, .val (.long q3), .second, .val (.long q4), .second, .val (.int p5), .val (.int (2 : Int32)), .val (.int (0 : Int32)), .val (.ref b_22), .val (.ref b_33), .val (.ref b_42), .val (.int (2 : Int32)), .val (.ref b108)] [(.long (own_minL q1 q2)), (.int (0 : Int32)), (.ref b108)])) rfl rfl (hb hby at_82)
    refine GoW.st st110 ?_
    have f111_V_b_22 : Arv Z h110 b_22 kb_22 .long (2 : Int32) [(.long (own_minL q1 q2)), (.long (own_maxL q1 q2))] (.long (0 : Int64)) := f109_V_b_22.other W110 ne108_b_22
    have f111_V_b_33 : Arv Z h110 b_33 kb_33 .long (0 : Int32) [] (.long (0 : Int64)) := f109_V_b_33.other W110 ne108_b_33
    have f111_V_b_42 : Arv Z h110 b_42 kb_42 .long (2 : Int32) [(.long w0_42), (.long w1_42)] (.long (0 : Int64)) := f109_V_b_42.other W110 ne108_b_42
    have f111_V_b108 : Arv Z h110 b108 k108 .long (4 : Int32) [(.long (own_minL q1 q2)), (.long (0 : Int64)), (.long (0 : Int64)), (.long (0 : Int64))] (.long (0 : Int64)) := V110
    have K110 : Keep h0 h110 [] := K108.wr W110 (Or.inr sz108)
    have N110 := Fr.snoc X110 N106 gg108
    show GoW p e below QQ (T110.setTop (mkF m 83 #[.val (.long q1), .second, .val (.long q2), .second, .val (.long q3), .second, .val (.long q4), .second, .val (.int p5), .val (.int (2 : Int32)), .val (.int (0 : Int32)), .val (.ref b_22), .val (.ref b_33), .val (.ref b_42), .val (.int (2 : Int32)), .val (.ref b108)] []))
    refine GoW.st (fun t k => XS.iload X110.here hx rfl (hb hby at_83) rfl (XS.iconst X110.here hx rfl (hb hby at_85) k)) ?_
    show GoW p e below QQ (T110.setTop (mkF m 86 #[.val (.long q1), .second, .val (.long q2), .second, .val (.long q3), .second, .val (.long q4), .second, .val (.int p5), .val (.int (2 : Int32)), .val (.int (0 : Int32)), .val (.ref b_22), .val (.ref b_33), .val (.ref b_42), .val (.int (2 : Int32)), .val (.ref b108)] [(.int (2 : Int32)), (.int (2 : Int32))]))
    have hc86 : (2 : Int32) = (2 : Int32) := by decide
    refine GoW.st (fun t k => XS.icmpNo X110.here hx rfl (hb hby at_86) rfl (teq hc86).2 (XS.aload X110.here hx rfl (hb hby at_89) rfl rfl (XS.iconst X110.here hx rfl (hb hby at_91) (XS.aload X110.here hx rfl (hb hby at_92) rfl rfl (XS.iconst X110.here hx rfl (hb hby at_94) (ldVJ X110 hx hZ e110 f111_V_b_22 (v := (.long (own_maxL q1 q2))) ⟨by decide, by decide⟩ rfl (g := (mkF m 95 #[.val (.long q1), .second, .val (.long q2), .second, .val (.long q3), .second, .val (.long q4), .second, .val (.int p5), .val (.int (2 : Int32)), .val (.int (0 : Int32)), .val (.ref b_22), .val (.ref b_33), .val (.ref b_42), .val (.int (2 : Int32)), .val (.ref b108)] [(.int (1 : Int32)), (.ref b_22), (.int (1 : Int32)), (.ref b108)])) rfl rfl (hb hby at_95) t k)))))) ?_
    show GoW p e below QQ (T110.setTop (mkF m 96 #[.val (.long q1), .second, .val (.long q2), .second, .val (.long q3), .second, .val (.long q4), .second, .val (.int p5), .val (.int (2 : Int32)), .val (.int (0 : Int32)), .val (.ref b_22), .val (.ref b_33), .val (.ref b_42), .val (.int (2 : Int32)), .val (.ref b108)] [(.long (own_maxL q1 q2)), (.int (1 : Int32)), (.ref b108)]))
    obtain ⟨T112, h112, X112, e112, W112, V112, st112⟩ := stVJ X110 hx hZ e110 f111_V_b108 ⟨by decide, by decide⟩ 1 rfl (Nat.le_of_ble_eq_true rfl) (g := (mkF m 96 #[.val (.long q1), .second, .val (.long q2), .second, .val (.long q3), .second, .val (.long q4), .second, .val (.int p5), .val (.int (2 : Int32)), .val (.int (0 : Int32)), .val (.ref b_22), .val (.ref b_33), .val (.ref b_42), .val (.int (2 : Int32)), .val (.ref b108)] [(.long (own_maxL q1 q2)), (.int (1 : Int32)), (.ref b108)])) rfl rfl (hb hby at_96)
    refine GoW.st st112 ?_
    have f113_V_b_22 : Arv Z h112 b_22 kb_22 .long (2 : Int32) [(.long (own_minL q1 q2)), (.long (own_maxL q1 q2))] (.long (0 : Int64)) := f111_V_b_22.other W112 ne108_b_22
    have f113_V_b_33 : Arv Z h112 b_33 kb_33 .long (0 : Int32) [] (.long (0 : Int64)) := f111_V_b_33.other W112 ne108_b_33
    have f113_V_b_42 : Arv Z h112 b_42 kb_42 .long (2 : Int32) [(.long w0_42), (.long w1_42)] (.long (0 : Int64)) := f111_V_b_42.other W112 ne108_b_42
    have f113_V_b108 : Arv Z h112 b108 k108 .long (4 : Int32) [(.long (own_minL q1 q2)), (.long (own_maxL q1 q2)), (.long (0 : Int64)), (.long (0 : Int64))] (.long (0 : Int64)) := V112
    have K112 : Keep h0 h112 [] := K110.wr W112 (Or.inr sz108)
    have N112 := Fr.snoc X112 N110 gg108
    show GoW p e below QQ (T112.setTop (mkF m 97 #[.val (.long q1), .second, .val (.long q2), .second, .val (.long q3), .second, .val (.long q4), .second, .val (.int p5), .val (.int (2 : Int32)), .val (.int (0 : Int32)), .val (.ref b_22), .val (.ref b_33), .val (.ref b_42), .val (.int (2 : Int32)), .val (.ref b108)] []))
    refine GoW.st (fun t k => XS.iload X112.here hx rfl (hb hby at_97) rfl (XS.iconst X112.here hx rfl (hb hby at_99) k)) ?_
    show GoW p e below QQ (T112.setTop (mkF m 100 #[.val (.long q1), .second, .val (.long q2), .second, .val (.long q3), .second, .val (.long q4), .second, .val (.int p5), .val (.int (2 : Int32)), .val (.int (0 : Int32)), .val (.ref b_22), .val (.ref b_33), .val (.ref b_42), .val (.int (2 : Int32)), .val (.ref b108)] [(.int (1 : Int32)), (.int (0 : Int32))]))
    have hc100 : (0 : Int32) < (1 : Int32) := by decide
    refine GoW.st (fun t k => XS.icmpYes X112.here hx rfl (pc0 := 100) (pc' := 112) rfl (hb hby at_100) rfl (tlt hc100).1 (by decide) (by decide) (XS.iload X112.here hx rfl (hb hby at_112) rfl (XS.iconst X112.here hx rfl (hb hby at_114) k))) ?_
    show GoW p e below QQ (T112.setTop (mkF m 115 #[.val (.long q1), .second, .val (.long q2), .second, .val (.long q3), .second, .val (.long q4), .second, .val (.int p5), .val (.int (2 : Int32)), .val (.int (0 : Int32)), .val (.ref b_22), .val (.ref b_33), .val (.ref b_42), .val (.int (2 : Int32)), .val (.ref b108)] [(.int (2 : Int32)), (.int (0 : Int32))]))
    have hc115 : ¬ ((0 : Int32) = (2 : Int32)) := by decide
    refine GoW.st (fun t k => XS.icmpYes X112.here hx rfl (pc0 := 115) (pc' := 129) rfl (hb hby at_115) rfl (feq hc115).2 (by decide) (by decide) k) ?_
    show GoW p e below QQ (T112.setTop (mkF m 129 #[.val (.long q1), .second, .val (.long q2), .second, .val (.long q3), .second, .val (.long q4), .second, .val (.int p5), .val (.int (2 : Int32)), .val (.int (0 : Int32)), .val (.ref b_22), .val (.ref b_33), .val (.ref b_42), .val (.int (2 : Int32)), .val (.ref b108)] []))
    have so1 := own_mm q1 q2
    refine GoW.st (fun t k => XS.aload X112.here hx rfl (hb hby at_129) rfl rfl (XS.iload X112.here hx rfl (hb hby at_131) rfl (XS.iconst X112.here hx rfl (hb hby at_133) (XS.iconst X112.here hx rfl (hb hby at_134) k)))) ?_
    show GoW p e below QQ (T112.setTop (mkF m 135 #[.val (.long q1), .second, .val (.long q2), .second, .val (.long q3), .second, .val (.long q4), .second, .val (.int p5), .val (.int (2 : Int32)), .val (.int (0 : Int32)), .val (.ref b_22), .val (.ref b_33), .val (.ref b_42), .val (.int (2 : Int32)), .val (.ref b108)] [(.int (1 : Int32)), (.int (0 : Int32)), (.int (2 : Int32)), (.ref b108)]))
    obtain ⟨_, _, ⟨T114, zL114, zk114, zn114⟩, -, X114, ⟨Lc114, hQ114, zl114, zy114, zz114⟩, st114⟩ := Jvm.LawKit.callS X112 hx (y := (⟨"com/example/hike/hike/HoldersMergePinLaw", "cx", "([JIII)V"⟩ : MethodName)) hown (mvT hZ (hw _ (List.mem_of_getElem? (i := 9) rfl))) (mvT hZ (hw _ (List.mem_of_getElem? (i := 10) rfl))) (mvT hZ (hw _ (List.mem_of_getElem? (i := 2) rfl))) (mvT hZ (hw _ (List.mem_of_getElem? (i := 11) rfl))) (by decide) (backOf (W := 0) (rm3_201 l Z a0 hw [] b108 k108 (own_minL q1 q2) (own_maxL q1 q2) (0 : Int64) (0 : Int64) h112 n0 (Nat.le_trans Z0 K112.1) f113_V_b108 gg108) hZ (hw _ (List.mem_of_getElem? (i := 11) rfl)) (hw _ (List.mem_of_getElem? (i := 2) rfl)) (by decide) (by decide)) (g := (mkF m 135 #[.val (.long q1), .second, .val (.long q2), .second, .val (.long q3), .second, .val (.long q4), .second, .val (.int p5), .val (.int (2 : Int32)), .val (.int (0 : Int32)), .val (.ref b_22), .val (.ref b_33), .val (.ref b_42), .val (.int (2 : Int32)), .val (.ref b108)] [(.int (1 : Int32)), (.int (0 : Int32)), (.int (2 : Int32)), (.ref b108)])) rfl (by rw [hml]; rfl) (argsL := [(.ref b108), (.int (2 : Int32)), (.int (0 : Int32)), (.int (1 : Int32))]) (rest := []) (lenOf pd_3 rfl) rfl (by show 2 * 0 + _ ≤ _; exact Nat.le_of_eq rfl) (hb hby at_135) (fun _ _ => ⟨rfl, e112, (by decide : 4 + 0 ≤ _), (by decide : 8 + 0 ≤ _)⟩)
    dsimp only [Pt.U, Pt.locs, Pt.cells, Pt.slots] at X114 zl114 zy114 zz114 st114 hQ114
    subst zl114 zy114 zz114
    obtain ⟨wa_135, wb_135, rfl, Nq114, Kq114, p114_0, p114_1⟩ := hQ114
    have N114 := Fr.app N112 Nq114
    refine GoW.st st114 ?_
    have f115_V_b_42 : Arv Z T114.heap b_42 kb_42 .long (2 : Int32) [(.long w0_42), (.long w1_42)] (.long (0 : Int64)) := f113_V_b_42.keep Kq114 (ninS ne108_b_42 nin0)
    have K114 : Keep h0 T114.heap [] := K112.trans Kq114 (allS (Or.inr sz108) all0)
    have hs_135 := p114_1
    show GoW p e below QQ (T114.setTop (mkF m 138 #[.val (.long q1), .second, .val (.long q2), .second, .val (.long q3), .second, .val (.long q4), .second, .val (.int p5), .val (.int (2 : Int32)), .val (.int (0 : Int32)), .val (.ref b_22), .val (.ref b_33), .val (.ref b_42), .val (.int (2 : Int32)), .val (.ref b108)] []))
    refine GoW.st (fun t k => XS.aload X114.here hx rfl (hb hby at_138) rfl rfl (XS.iload X114.here hx rfl (hb hby at_140) rfl (XS.iconst X114.here hx rfl (hb hby at_142) (XS.iconst X114.here hx rfl (hb hby at_143) k)))) ?_
    show GoW p e below QQ (T114.setTop (mkF m 144 #[.val (.long q1), .second, .val (.long q2), .second, .val (.long q3), .second, .val (.long q4), .second, .val (.int p5), .val (.int (2 : Int32)), .val (.int (0 : Int32)), .val (.ref b_22), .val (.ref b_33), .val (.ref b_42), .val (.int (2 : Int32)), .val (.ref b108)] [(.int (3 : Int32)), (.int (2 : Int32)), (.int (2 : Int32)), (.ref b108)]))
    obtain ⟨_, _, ⟨T116, zL116, zk116, zn116⟩, -, X116, ⟨Lc116, hQ116, zl116, zy116, zz116⟩, st116⟩ := Jvm.LawKit.callS X114 hx (y := (⟨"com/example/hike/hike/HoldersMergePinLaw", "cx", "([JIII)V"⟩ : MethodName)) hown (mvT hZ (hw _ (List.mem_of_getElem? (i := 9) rfl))) (mvT hZ (hw _ (List.mem_of_getElem? (i := 10) rfl))) (mvT hZ (hw _ (List.mem_of_getElem? (i := 2) rfl))) (mvT hZ (hw _ (List.mem_of_getElem? (i := 11) rfl))) (by decide) (backOf (W := 0) (rm3_223 l Z a0 hw [] b108 T114.heap n0 (Nat.le_trans Z0 K114.1) ) hZ (hw _ (List.mem_of_getElem? (i := 11) rfl)) (hw _ (List.mem_of_getElem? (i := 2) rfl)) (by decide) (by decide)) (g := (mkF m 144 #[.val (.long q1), .second, .val (.long q2), .second, .val (.long q3), .second, .val (.long q4), .second, .val (.int p5), .val (.int (2 : Int32)), .val (.int (0 : Int32)), .val (.ref b_22), .val (.ref b_33), .val (.ref b_42), .val (.int (2 : Int32)), .val (.ref b108)] [(.int (3 : Int32)), (.int (2 : Int32)), (.int (2 : Int32)), (.ref b108)])) rfl (by rw [hml]; rfl) (argsL := [(.ref b108), (.int (2 : Int32)), (.int (2 : Int32)), (.int (3 : Int32))]) (rest := []) (lenOf pd_3 rfl) rfl (by show 2 * 0 + _ ≤ _; exact Nat.le_of_eq rfl) (hb hby at_144) (fun _ _ => ⟨rfl, rfl, (by decide : 4 + 0 ≤ _), (by decide : 8 + 0 ≤ _)⟩)
    dsimp only [Pt.U, Pt.locs, Pt.cells, Pt.slots] at X116 zl116 zy116 zz116 st116 hQ116
    subst zl116 zy116 zz116
    obtain ⟨rfl, Nq116, hh116⟩ := hQ116
    have N116 := Fr.app N114 Nq116
    refine GoW.st st116 ?_
    show GoW p e below QQ (T116.setTop (mkF m 147 #[.val (.long q1), .second, .val (.long q2), .second, .val (.long q3), .second, .val (.long q4), .second, .val (.int p5), .val (.int (2 : Int32)), .val (.int (0 : Int32)), .val (.ref b_22), .val (.ref b_33), .val (.ref b_42), .val (.int (2 : Int32)), .val (.ref b108)] []))
    refine GoW.st (fun t k => XS.aload X116.here hx rfl (hb hby at_147) rfl rfl (XS.iload X116.here hx rfl (hb hby at_149) rfl (XS.iconst X116.here hx rfl (hb hby at_151) (XS.iconst X116.here hx rfl (hb hby at_152) k)))) ?_
    show GoW p e below QQ (T116.setTop (mkF m 153 #[.val (.long q1), .second, .val (.long q2), .second, .val (.long q3), .second, .val (.long q4), .second, .val (.int p5), .val (.int (2 : Int32)), .val (.int (0 : Int32)), .val (.ref b_22), .val (.ref b_33), .val (.ref b_42), .val (.int (2 : Int32)), .val (.ref b108)] [(.int (2 : Int32)), (.int (0 : Int32)), (.int (2 : Int32)), (.ref b108)]))
    obtain ⟨_, _, ⟨T117, zL117, zk117, zn117⟩, -, X117, ⟨Lc117, hQ117, zl117, zy117, zz117⟩, st117⟩ := Jvm.LawKit.callS X116 hx (y := (⟨"com/example/hike/hike/HoldersMergePinLaw", "cx", "([JIII)V"⟩ : MethodName)) hown (mvT hZ (hw _ (List.mem_of_getElem? (i := 9) rfl))) (mvT hZ (hw _ (List.mem_of_getElem? (i := 10) rfl))) (mvT hZ (hw _ (List.mem_of_getElem? (i := 2) rfl))) (mvT hZ (hw _ (List.mem_of_getElem? (i := 11) rfl))) (by decide) (backOf (W := 0) (rm3_202 l Z a0 hw [] b108 T114.heap n0 (Nat.le_trans Z0 K114.1) ) hZ (hw _ (List.mem_of_getElem? (i := 11) rfl)) (hw _ (List.mem_of_getElem? (i := 2) rfl)) (by decide) (by decide)) (g := (mkF m 153 #[.val (.long q1), .second, .val (.long q2), .second, .val (.long q3), .second, .val (.long q4), .second, .val (.int p5), .val (.int (2 : Int32)), .val (.int (0 : Int32)), .val (.ref b_22), .val (.ref b_33), .val (.ref b_42), .val (.int (2 : Int32)), .val (.ref b108)] [(.int (2 : Int32)), (.int (0 : Int32)), (.int (2 : Int32)), (.ref b108)])) rfl (by rw [hml]; rfl) (argsL := [(.ref b108), (.int (2 : Int32)), (.int (0 : Int32)), (.int (2 : Int32))]) (rest := []) (lenOf pd_3 rfl) rfl (by show 2 * 0 + _ ≤ _; exact Nat.le_of_eq rfl) (hb hby at_153) (fun _ _ => ⟨rfl, hh116, (by decide : 4 + 0 ≤ _), (by decide : 8 + 0 ≤ _)⟩)
    dsimp only [Pt.U, Pt.locs, Pt.cells, Pt.slots] at X117 zl117 zy117 zz117 st117 hQ117
    subst zl117 zy117 zz117
    obtain ⟨rfl, Nq117, hh117⟩ := hQ117
    have N117 := Fr.app N116 Nq117
    refine GoW.st st117 ?_
    show GoW p e below QQ (T117.setTop (mkF m 156 #[.val (.long q1), .second, .val (.long q2), .second, .val (.long q3), .second, .val (.long q4), .second, .val (.int p5), .val (.int (2 : Int32)), .val (.int (0 : Int32)), .val (.ref b_22), .val (.ref b_33), .val (.ref b_42), .val (.int (2 : Int32)), .val (.ref b108)] []))
    refine GoW.st (fun t k => XS.aload X117.here hx rfl (hb hby at_156) rfl rfl (XS.iload X117.here hx rfl (hb hby at_158) rfl (XS.iconst X117.here hx rfl (hb hby at_160) (XS.iconst X117.here hx rfl (hb hby at_161) k)))) ?_
    show GoW p e below QQ (T117.setTop (mkF m 162 #[.val (.long q1), .second, .val (.long q2), .second, .val (.long q3), .second, .val (.long q4), .second, .val (.int p5), .val (.int (2 : Int32)), .val (.int (0 : Int32)), .val (.ref b_22), .val (.ref b_33), .val (.ref b_42), .val (.int (2 : Int32)), .val (.ref b108)] [(.int (3 : Int32)), (.int (1 : Int32)), (.int (2 : Int32)), (.ref b108)]))
    obtain ⟨_, _, ⟨T118, zL118, zk118, zn118⟩, -, X118, ⟨Lc118, hQ118, zl118, zy118, zz118⟩, st118⟩ := Jvm.LawKit.callS X117 hx (y := (⟨"com/example/hike/hike/HoldersMergePinLaw", "cx", "([JIII)V"⟩ : MethodName)) hown (mvT hZ (hw _ (List.mem_of_getElem? (i := 9) rfl))) (mvT hZ (hw _ (List.mem_of_getElem? (i := 10) rfl))) (mvT hZ (hw _ (List.mem_of_getElem? (i := 2) rfl))) (mvT hZ (hw _ (List.mem_of_getElem? (i := 11) rfl))) (by decide) (backOf (W := 0) (rm3_213 l Z a0 hw [] b108 T114.heap n0 (Nat.le_trans Z0 K114.1) ) hZ (hw _ (List.mem_of_getElem? (i := 11) rfl)) (hw _ (List.mem_of_getElem? (i := 2) rfl)) (by decide) (by decide)) (g := (mkF m 162 #[.val (.long q1), .second, .val (.long q2), .second, .val (.long q3), .second, .val (.long q4), .second, .val (.int p5), .val (.int (2 : Int32)), .val (.int (0 : Int32)), .val (.ref b_22), .val (.ref b_33), .val (.ref b_42), .val (.int (2 : Int32)), .val (.ref b108)] [(.int (3 : Int32)), (.int (1 : Int32)), (.int (2 : Int32)), (.ref b108)])) rfl (by rw [hml]; rfl) (argsL := [(.ref b108), (.int (2 : Int32)), (.int (1 : Int32)), (.int (3 : Int32))]) (rest := []) (lenOf pd_3 rfl) rfl (by show 2 * 0 + _ ≤ _; exact Nat.le_of_eq rfl) (hb hby at_162) (fun _ _ => ⟨rfl, hh117, (by decide : 4 + 0 ≤ _), (by decide : 8 + 0 ≤ _)⟩)
    dsimp only [Pt.U, Pt.locs, Pt.cells, Pt.slots] at X118 zl118 zy118 zz118 st118 hQ118
    subst zl118 zy118 zz118
    obtain ⟨rfl, Nq118, hh118⟩ := hQ118
    have N118 := Fr.app N117 Nq118
    refine GoW.st st118 ?_
    show GoW p e below QQ (T118.setTop (mkF m 165 #[.val (.long q1), .second, .val (.long q2), .second, .val (.long q3), .second, .val (.long q4), .second, .val (.int p5), .val (.int (2 : Int32)), .val (.int (0 : Int32)), .val (.ref b_22), .val (.ref b_33), .val (.ref b_42), .val (.int (2 : Int32)), .val (.ref b108)] []))
    refine GoW.st (fun t k => XS.aload X118.here hx rfl (hb hby at_165) rfl rfl (XS.iload X118.here hx rfl (hb hby at_167) rfl (XS.iconst X118.here hx rfl (hb hby at_169) (XS.iconst X118.here hx rfl (hb hby at_170) k)))) ?_
    show GoW p e below QQ (T118.setTop (mkF m 171 #[.val (.long q1), .second, .val (.long q2), .second, .val (.long q3), .second, .val (.long q4), .second, .val (.int p5), .val (.int (2 : Int32)), .val (.int (0 : Int32)), .val (.ref b_22), .val (.ref b_33), .val (.ref b_42), .val (.int (2 : Int32)), .val (.ref b108)] [(.int (2 : Int32)), (.int (1 : Int32)), (.int (2 : Int32)), (.ref b108)]))
    obtain ⟨_, _, ⟨T119, zL119, zk119, zn119⟩, -, X119, ⟨Lc119, hQ119, zl119, zy119, zz119⟩, st119⟩ := Jvm.LawKit.callS X118 hx (y := (⟨"com/example/hike/hike/HoldersMergePinLaw", "cx", "([JIII)V"⟩ : MethodName)) hown (mvT hZ (hw _ (List.mem_of_getElem? (i := 9) rfl))) (mvT hZ (hw _ (List.mem_of_getElem? (i := 10) rfl))) (mvT hZ (hw _ (List.mem_of_getElem? (i := 2) rfl))) (mvT hZ (hw _ (List.mem_of_getElem? (i := 11) rfl))) (by decide) (backOf (W := 0) (rm3_212 l Z a0 hw [] b108 T114.heap n0 (Nat.le_trans Z0 K114.1) ) hZ (hw _ (List.mem_of_getElem? (i := 11) rfl)) (hw _ (List.mem_of_getElem? (i := 2) rfl)) (by decide) (by decide)) (g := (mkF m 171 #[.val (.long q1), .second, .val (.long q2), .second, .val (.long q3), .second, .val (.long q4), .second, .val (.int p5), .val (.int (2 : Int32)), .val (.int (0 : Int32)), .val (.ref b_22), .val (.ref b_33), .val (.ref b_42), .val (.int (2 : Int32)), .val (.ref b108)] [(.int (2 : Int32)), (.int (1 : Int32)), (.int (2 : Int32)), (.ref b108)])) rfl (by rw [hml]; rfl) (argsL := [(.ref b108), (.int (2 : Int32)), (.int (1 : Int32)), (.int (2 : Int32))]) (rest := []) (lenOf pd_3 rfl) rfl (by show 2 * 0 + _ ≤ _; exact Nat.le_of_eq rfl) (hb hby at_171) (fun _ _ => ⟨rfl, hh118, (by decide : 4 + 0 ≤ _), (by decide : 8 + 0 ≤ _)⟩)
    dsimp only [Pt.U, Pt.locs, Pt.cells, Pt.slots] at X119 zl119 zy119 zz119 st119 hQ119
    subst zl119 zy119 zz119
    obtain ⟨rfl, Nq119, hh119⟩ := hQ119
    have N119 := Fr.app N118 Nq119
    refine GoW.st st119 ?_
    show GoW p e below QQ (T119.setTop (mkF m 174 #[.val (.long q1), .second, .val (.long q2), .second, .val (.long q3), .second, .val (.long q4), .second, .val (.int p5), .val (.int (2 : Int32)), .val (.int (0 : Int32)), .val (.ref b_22), .val (.ref b_33), .val (.ref b_42), .val (.int (2 : Int32)), .val (.ref b108)] []))
    refine GoW.st (fun t k => XS.iconst X119.here hx rfl (hb hby at_174) (XS.iload X119.here hx rfl (hb hby at_175) rfl k)) ?_
    show GoW p e below QQ (T119.setTop (mkF m 177 #[.val (.long q1), .second, .val (.long q2), .second, .val (.long q3), .second, .val (.long q4), .second, .val (.int p5), .val (.int (2 : Int32)), .val (.int (0 : Int32)), .val (.ref b_22), .val (.ref b_33), .val (.ref b_42), .val (.int (2 : Int32)), .val (.ref b108)] [(.int (2 : Int32)), (.int (0 : Int32))]))
    have hc177 : (0 : Int32) < (2 : Int32) := by decide
    refine GoW.st (fun t k => XS.icmpNo X119.here hx rfl (hb hby at_177) rfl (tlt hc177).2.1 (XS.aload X119.here hx rfl (hb hby at_180) rfl rfl (XS.iconst X119.here hx rfl (hb hby at_182) (ldVJ X119 hx hZ hh119 f115_V_b_42 (v := (.long w0_42)) ⟨by decide, by decide⟩ rfl (g := (mkF m 183 #[.val (.long q1), .second, .val (.long q2), .second, .val (.long q3), .second, .val (.long q4), .second, .val (.int p5), .val (.int (2 : Int32)), .val (.int (0 : Int32)), .val (.ref b_22), .val (.ref b_33), .val (.ref b_42), .val (.int (2 : Int32)), .val (.ref b108)] [(.int (0 : Int32)), (.ref b_42)])) rfl rfl (hb hby at_183) t (XS.aload X119.here hx rfl (hb hby at_184) rfl rfl (XS.iconst X119.here hx rfl (hb hby at_186) k)))))) ?_
    show GoW p e below QQ (T119.setTop (mkF m 187 #[.val (.long q1), .second, .val (.long q2), .second, .val (.long q3), .second, .val (.long q4), .second, .val (.int p5), .val (.int (2 : Int32)), .val (.int (0 : Int32)), .val (.ref b_22), .val (.ref b_33), .val (.ref b_42), .val (.int (2 : Int32)), .val (.ref b108)] [(.int (0 : Int32)), (.ref b108), (.long w0_42)]))
    refine GoW.st (fun t k => ldVJ X119 hx hZ hh119 p114_0 (v := (.long wa_135)) ⟨by decide, by decide⟩ rfl (g := (mkF m 187 #[.val (.long q1), .second, .val (.long q2), .second, .val (.long q3), .second, .val (.long q4), .second, .val (.int p5), .val (.int (2 : Int32)), .val (.int (0 : Int32)), .val (.ref b_22), .val (.ref b_33), .val (.ref b_42), .val (.int (2 : Int32)), .val (.ref b108)] [(.int (0 : Int32)), (.ref b108), (.long w0_42)])) rfl rfl (hb hby at_187) t (XS.lcmp X119.here hx rfl (hb hby at_188) rfl k)) ?_
    show GoW p e below QQ (T119.setTop (mkF m 189 #[.val (.long q1), .second, .val (.long q2), .second, .val (.long q3), .second, .val (.long q4), .second, .val (.int p5), .val (.int (2 : Int32)), .val (.int (0 : Int32)), .val (.ref b_22), .val (.ref b_33), .val (.ref b_42), .val (.int (2 : Int32)), .val (.ref b108)] [(.int (lcmpW w0_42 wa_135))]))
    have hc189 : w0_42 = wa_135 := by
      apply Int64.toInt_inj.mp
      omega
    refine GoW.st (fun t k => XS.ifYes X119.here hx rfl (pc0 := 189) (pc' := 194) rfl (hb hby at_189) rfl ((if0 _ _).trans (teq ((lw_eq w0_42 wa_135).mpr hc189)).1) (by decide) (by decide) (XS.iconst X119.here hx rfl (hb hby at_194) (XS.iload X119.here hx rfl (hb hby at_195) rfl k))) ?_
    show GoW p e below QQ (T119.setTop (mkF m 197 #[.val (.long q1), .second, .val (.long q2), .second, .val (.long q3), .second, .val (.long q4), .second, .val (.int p5), .val (.int (2 : Int32)), .val (.int (0 : Int32)), .val (.ref b_22), .val (.ref b_33), .val (.ref b_42), .val (.int (2 : Int32)), .val (.ref b108)] [(.int (2 : Int32)), (.int (1 : Int32))]))
    have hc197 : (1 : Int32) < (2 : Int32) := by decide
    refine GoW.st (fun t k => XS.icmpNo X119.here hx rfl (hb hby at_197) rfl (tlt hc197).2.1 (XS.aload X119.here hx rfl (hb hby at_200) rfl rfl (XS.iconst X119.here hx rfl (hb hby at_202) (ldVJ X119 hx hZ hh119 f115_V_b_42 (v := (.long w1_42)) ⟨by decide, by decide⟩ rfl (g := (mkF m 203 #[.val (.long q1), .second, .val (.long q2), .second, .val (.long q3), .second, .val (.long q4), .second, .val (.int p5), .val (.int (2 : Int32)), .val (.int (0 : Int32)), .val (.ref b_22), .val (.ref b_33), .val (.ref b_42), .val (.int (2 : Int32)), .val (.ref b108)] [(.int (1 : Int32)), (.ref b_42)])) rfl rfl (hb hby at_203) t (XS.aload X119.here hx rfl (hb hby at_204) rfl rfl (XS.iconst X119.here hx rfl (hb hby at_206) k)))))) ?_
    show GoW p e below QQ (T119.setTop (mkF m 207 #[.val (.long q1), .second, .val (.long q2), .second, .val (.long q3), .second, .val (.long q4), .second, .val (.int p5), .val (.int (2 : Int32)), .val (.int (0 : Int32)), .val (.ref b_22), .val (.ref b_33), .val (.ref b_42), .val (.int (2 : Int32)), .val (.ref b108)] [(.int (1 : Int32)), (.ref b108), (.long w1_42)]))
    refine GoW.st (fun t k => ldVJ X119 hx hZ hh119 p114_0 (v := (.long wb_135)) ⟨by decide, by decide⟩ rfl (g := (mkF m 207 #[.val (.long q1), .second, .val (.long q2), .second, .val (.long q3), .second, .val (.long q4), .second, .val (.int p5), .val (.int (2 : Int32)), .val (.int (0 : Int32)), .val (.ref b_22), .val (.ref b_33), .val (.ref b_42), .val (.int (2 : Int32)), .val (.ref b108)] [(.int (1 : Int32)), (.ref b108), (.long w1_42)])) rfl rfl (hb hby at_207) t (XS.lcmp X119.here hx rfl (hb hby at_208) rfl k)) ?_
    show GoW p e below QQ (T119.setTop (mkF m 209 #[.val (.long q1), .second, .val (.long q2), .second, .val (.long q3), .second, .val (.long q4), .second, .val (.int p5), .val (.int (2 : Int32)), .val (.int (0 : Int32)), .val (.ref b_22), .val (.ref b_33), .val (.ref b_42), .val (.int (2 : Int32)), .val (.ref b108)] [(.int (lcmpW w1_42 wb_135))]))
    have hc209 : w1_42 = wb_135 := by
      apply Int64.toInt_inj.mp
      omega
    refine GoW.st (fun t k => XS.ifYes X119.here hx rfl (pc0 := 209) (pc' := 214) rfl (hb hby at_209) rfl ((if0 _ _).trans (teq ((lw_eq w1_42 wb_135).mpr hc209)).1) (by decide) (by decide) (XS.iconst X119.here hx rfl (hb hby at_214) (XS.iload X119.here hx rfl (hb hby at_215) rfl k))) ?_
    show GoW p e below QQ (T119.setTop (mkF m 217 #[.val (.long q1), .second, .val (.long q2), .second, .val (.long q3), .second, .val (.long q4), .second, .val (.int p5), .val (.int (2 : Int32)), .val (.int (0 : Int32)), .val (.ref b_22), .val (.ref b_33), .val (.ref b_42), .val (.int (2 : Int32)), .val (.ref b108)] [(.int (2 : Int32)), (.int (2 : Int32))]))
    have hc217 : ¬ ((2 : Int32) < (2 : Int32)) := by decide
    refine GoW.st (fun t k => XS.icmpYes X119.here hx rfl (pc0 := 217) (pc' := 234) rfl (hb hby at_217) rfl (flt hc217).2.1 (by decide) (by decide) (XS.iconst X119.here hx rfl (hb hby at_234) (XS.iload X119.here hx rfl (hb hby at_235) rfl k))) ?_
    show GoW p e below QQ (T119.setTop (mkF m 237 #[.val (.long q1), .second, .val (.long q2), .second, .val (.long q3), .second, .val (.long q4), .second, .val (.int p5), .val (.int (2 : Int32)), .val (.int (0 : Int32)), .val (.ref b_22), .val (.ref b_33), .val (.ref b_42), .val (.int (2 : Int32)), .val (.ref b108)] [(.int (2 : Int32)), (.int (3 : Int32))]))
    have hc237 : ¬ ((3 : Int32) < (2 : Int32)) := by decide
    refine GoW.st (fun t k => XS.icmpYes X119.here hx rfl (pc0 := 237) (pc' := 254) rfl (hb hby at_237) rfl (flt hc237).2.1 (by decide) (by decide) (XS.iconst X119.here hx rfl (hb hby at_254) k)) ?_
    show GoW p e below QQ (T119.setTop (mkF m 255 #[.val (.long q1), .second, .val (.long q2), .second, .val (.long q3), .second, .val (.long q4), .second, .val (.int p5), .val (.int (2 : Int32)), .val (.int (0 : Int32)), .val (.ref b_22), .val (.ref b_33), .val (.ref b_42), .val (.int (2 : Int32)), .val (.ref b108)] [(.int (1 : Int32))]))
    exact GoW.fin X119 (some (.int (nar .boolean (1 : Int32)))) (fun q => by rw [hret] at q; cases q) hlk hQ hh119 ⟨rfl, N119⟩ (by decide) (by decide) (fun fs hr => retN X119 hx (t := .boolean) hret (by simp) (hb hby at_255) hr)
  · skip
    show GoW p e below QQ (T0.setTop (mkF m 18 #[.val (.long q1), .second, .val (.long q2), .second, .val (.long q3), .second, .val (.long q4), .second, .val (.int p5), .val (.int (2 : Int32)), .val (.int (1 : Int32)), .unset, .unset, .unset, .unset, .unset] []))
    refine GoW.st (fun t k => XS.iload X0.here hx rfl (hb hby at_18) rfl (XS.lloadN X0.here hx rfl (hb hby at_20) rfl (XS.lloadN X0.here hx rfl (hb hby at_21) rfl k))) ?_
    show GoW p e below QQ (T0.setTop (mkF m 22 #[.val (.long q1), .second, .val (.long q2), .second, .val (.long q3), .second, .val (.long q4), .second, .val (.int p5), .val (.int (2 : Int32)), .val (.int (1 : Int32)), .unset, .unset, .unset, .unset, .unset] [(.long q2), (.long q1), (.int (2 : Int32))]))
    obtain ⟨_, _, ⟨T120, zL120, zk120, zn120⟩, -, X120, ⟨Lc120, hQ120, zl120, zy120, zz120⟩, st120⟩ := Jvm.LawKit.callS X0 hx (y := (⟨"com/example/hike/hike/HoldersMergePinLaw", "make", "(IJJ)[J"⟩ : MethodName)) hown (mvT hZ (hw _ (List.mem_of_getElem? (i := 0) rfl))) (mvT hZ (hw _ (List.mem_of_getElem? (i := 1) rfl))) (mvT hZ (hw _ (List.mem_of_getElem? (i := 2) rfl))) (mvT hZ (hw _ (List.mem_of_getElem? (i := 3) rfl))) (by decide) (backOf (W := 0) (rm1_2 l Z a0 hw [] q1 q2 h0 n0 (Nat.le_trans Z0 K0.1) ) hZ (hw _ (List.mem_of_getElem? (i := 3) rfl)) (hw _ (List.mem_of_getElem? (i := 2) rfl)) (by decide) (by decide)) (g := (mkF m 22 #[.val (.long q1), .second, .val (.long q2), .second, .val (.long q3), .second, .val (.long q4), .second, .val (.int p5), .val (.int (2 : Int32)), .val (.int (1 : Int32)), .unset, .unset, .unset, .unset, .unset] [(.long q2), (.long q1), (.int (2 : Int32))])) rfl (by rw [hml]; rfl) (argsL := [(.int (2 : Int32)), (.long q1), (.long q2)]) (rest := []) (lenOf pd_1 rfl) rfl (by show 2 * 0 + _ ≤ _; exact Nat.le_of_eq rfl) (hb hby at_22) (fun _ _ => ⟨rfl, e0, (by decide : 0 + 1 ≤ _), (by decide : 0 + 2 ≤ _)⟩)
    dsimp only [Pt.U, Pt.locs, Pt.cells, Pt.slots] at X120 zl120 zy120 zz120 st120 hQ120
    subst zl120 zy120 zz120
    obtain ⟨b_22, kb_22, rfl, Nq120, Kq120, p120_0, p120_1⟩ := hQ120
    have N120 := Fr.app N0 Nq120
    refine GoW.st st120 ?_
    have sz120_b_22 : h0.size ≤ b_22 := Nat.le_trans K0.1 p120_0
    have gg120_b_22 : n0 ≤ b_22 := Nat.le_trans Z0 sz120_b_22
    have K120 : Keep h0 T120.heap [] := K0.trans Kq120 all0
    show GoW p e below QQ (T120.setTop (mkF m 25 #[.val (.long q1), .second, .val (.long q2), .second, .val (.long q3), .second, .val (.long q4), .second, .val (.int p5), .val (.int (2 : Int32)), .val (.int (1 : Int32)), .unset, .unset, .unset, .unset, .unset] [(.ref b_22)]))
    refine GoW.st (fun t k => XS.astore X120.here hx rfl (hb hby at_25) rfl rfl (l' := #[.val (.long q1), .second, .val (.long q2), .second, .val (.long q3), .second, .val (.long q4), .second, .val (.int p5), .val (.int (2 : Int32)), .val (.int (1 : Int32)), .val (.ref b_22), .unset, .unset, .unset, .unset]) rfl (XS.iload X120.here hx rfl (hb hby at_27) rfl (XS.lload X120.here hx rfl (hb hby at_29) rfl (XS.lload X120.here hx rfl (hb hby at_31) rfl k)))) ?_
    show GoW p e below QQ (T120.setTop (mkF m 33 #[.val (.long q1), .second, .val (.long q2), .second, .val (.long q3), .second, .val (.long q4), .second, .val (.int p5), .val (.int (2 : Int32)), .val (.int (1 : Int32)), .val (.ref b_22), .unset, .unset, .unset, .unset] [(.long q4), (.long q3), (.int (1 : Int32))]))
    obtain ⟨_, _, ⟨T122, zL122, zk122, zn122⟩, -, X122, ⟨Lc122, hQ122, zl122, zy122, zz122⟩, st122⟩ := Jvm.LawKit.callS X120 hx (y := (⟨"com/example/hike/hike/HoldersMergePinLaw", "make", "(IJJ)[J"⟩ : MethodName)) hown (mvT hZ (hw _ (List.mem_of_getElem? (i := 0) rfl))) (mvT hZ (hw _ (List.mem_of_getElem? (i := 1) rfl))) (mvT hZ (hw _ (List.mem_of_getElem? (i := 2) rfl))) (mvT hZ (hw _ (List.mem_of_getElem? (i := 3) rfl))) (by decide) (backOf (W := 0) (rm1_1 l Z a0 hw [] q3 q4 T120.heap n0 (Nat.le_trans Z0 K120.1) ) hZ (hw _ (List.mem_of_getElem? (i := 3) rfl)) (hw _ (List.mem_of_getElem? (i := 2) rfl)) (by decide) (by decide)) (g := (mkF m 33 #[.val (.long q1), .second, .val (.long q2), .second, .val (.long q3), .second, .val (.long q4), .second, .val (.int p5), .val (.int (2 : Int32)), .val (.int (1 : Int32)), .val (.ref b_22), .unset, .unset, .unset, .unset] [(.long q4), (.long q3), (.int (1 : Int32))])) rfl (by rw [hml]; rfl) (argsL := [(.int (1 : Int32)), (.long q3), (.long q4)]) (rest := []) (lenOf pd_1 rfl) rfl (by show 2 * 0 + _ ≤ _; exact Nat.le_of_eq rfl) (hb hby at_33) (fun _ _ => ⟨rfl, rfl, (by decide : 1 + 1 ≤ _), (by decide : 2 + 1 ≤ _)⟩)
    dsimp only [Pt.U, Pt.locs, Pt.cells, Pt.slots] at X122 zl122 zy122 zz122 st122 hQ122
    subst zl122 zy122 zz122
    obtain ⟨b_33, kb_33, rfl, Nq122, Kq122, p122_0, p122_1⟩ := hQ122
    have N122 := Fr.app N120 Nq122
    refine GoW.st st122 ?_
    have ne122_b_22_b_33 : b_22 ≠ b_33 := Nat.ne_of_lt (Nat.lt_of_lt_of_le p120_1.lt p122_0)
    have sz122_b_33 : h0.size ≤ b_33 := Nat.le_trans K120.1 p122_0
    have gg122_b_33 : n0 ≤ b_33 := Nat.le_trans Z0 sz122_b_33
    have f123_V_b_22 : Arv Z T122.heap b_22 kb_22 .long (2 : Int32) [(.long (own_minL q1 q2)), (.long (own_maxL q1 q2))] (.long (0 : Int64)) := p120_1.keep Kq122 nin0
    have K122 : Keep h0 T122.heap [] := K120.trans Kq122 all0
    show GoW p e below QQ (T122.setTop (mkF m 36 #[.val (.long q1), .second, .val (.long q2), .second, .val (.long q3), .second, .val (.long q4), .second, .val (.int p5), .val (.int (2 : Int32)), .val (.int (1 : Int32)), .val (.ref b_22), .unset, .unset, .unset, .unset] [(.ref b_33)]))
    refine GoW.st (fun t k => XS.astore X122.here hx rfl (hb hby at_36) rfl rfl (l' := #[.val (.long q1), .second, .val (.long q2), .second, .val (.long q3), .second, .val (.long q4), .second, .val (.int p5), .val (.int (2 : Int32)), .val (.int (1 : Int32)), .val (.ref b_22), .val (.ref b_33), .unset, .unset, .unset]) rfl (XS.aload X122.here hx rfl (hb hby at_38) rfl rfl (XS.aload X122.here hx rfl (hb hby at_40) rfl rfl k))) ?_
    show GoW p e below QQ (T122.setTop (mkF m 42 #[.val (.long q1), .second, .val (.long q2), .second, .val (.long q3), .second, .val (.long q4), .second, .val (.int p5), .val (.int (2 : Int32)), .val (.int (1 : Int32)), .val (.ref b_22), .val (.ref b_33), .unset, .unset, .unset] [(.ref b_33), (.ref b_22)]))
    obtain ⟨_, _, ⟨T124, zL124, zk124, zn124⟩, -, X124, ⟨Lc124, hQ124, zl124, zy124, zz124⟩, st124⟩ := Jvm.LawKit.callS X122 hx (y := (⟨"com/example/hike/hike/Holders", "merge", "([J[J)[J"⟩ : MethodName)) hown (mvT hZ (hw _ (List.mem_of_getElem? (i := 5) rfl))) (mvT hZ (hw _ (List.mem_of_getElem? (i := 6) rfl))) (mvT hZ (hw _ (List.mem_of_getElem? (i := 7) rfl))) (mvT hZ (hw _ (List.mem_of_getElem? (i := 8) rfl))) (by decide) (backOf (W := 0) (rm2_21 l Z a0 hw [] b_22 b_33 kb_22 kb_33 (own_minL q1 q2) (own_maxL q1 q2) q3 T122.heap n0 (Nat.le_trans Z0 K122.1) f123_V_b_22 p122_1 (own_mm _ _)) hZ (hw _ (List.mem_of_getElem? (i := 8) rfl)) (hw _ (List.mem_of_getElem? (i := 7) rfl)) (by decide) (by decide)) (g := (mkF m 42 #[.val (.long q1), .second, .val (.long q2), .second, .val (.long q3), .second, .val (.long q4), .second, .val (.int p5), .val (.int (2 : Int32)), .val (.int (1 : Int32)), .val (.ref b_22), .val (.ref b_33), .unset, .unset, .unset] [(.ref b_33), (.ref b_22)])) rfl (by rw [hml]; rfl) (argsL := [(.ref b_22), (.ref b_33)]) (rest := []) (lenOf pd_2 rfl) rfl (by show 2 * 0 + _ ≤ _; exact Nat.le_of_eq rfl) (hb hby at_42) (fun _ _ => ⟨rfl, rfl, (by decide : 2 + 1 ≤ _), (by decide : 3 + 3 ≤ _)⟩)
    dsimp only [Pt.U, Pt.locs, Pt.cells, Pt.slots] at X124 zl124 zy124 zz124 st124 hQ124
    subst zl124 zy124 zz124
    obtain ⟨b_42, kb_42, w0_42, w1_42, w2_42, rfl, Nq124, Kq124, p124_0, p124_1, p124_2⟩ := hQ124
    have N124 := Fr.app N122 Nq124
    refine GoW.st st124 ?_
    have ne124_b_22_b_42 : b_22 ≠ b_42 := Nat.ne_of_lt (Nat.lt_of_lt_of_le f123_V_b_22.lt p124_0)
    have ne124_b_33_b_42 : b_33 ≠ b_42 := Nat.ne_of_lt (Nat.lt_of_lt_of_le p122_1.lt p124_0)
    have sz124_b_42 : h0.size ≤ b_42 := Nat.le_trans K122.1 p124_0
    have gg124_b_42 : n0 ≤ b_42 := Nat.le_trans Z0 sz124_b_42
    have f125_V_b_22 : Arv Z T124.heap b_22 kb_22 .long (2 : Int32) [(.long (own_minL q1 q2)), (.long (own_maxL q1 q2))] (.long (0 : Int64)) := f123_V_b_22.keep Kq124 nin0
    have f125_V_b_33 : Arv Z T124.heap b_33 kb_33 .long (1 : Int32) [(.long q3)] (.long (0 : Int64)) := p122_1.keep Kq124 nin0
    have K124 : Keep h0 T124.heap [] := K122.trans Kq124 all0
    have hw_42 := p124_2
    show GoW p e below QQ (T124.setTop (mkF m 45 #[.val (.long q1), .second, .val (.long q2), .second, .val (.long q3), .second, .val (.long q4), .second, .val (.int p5), .val (.int (2 : Int32)), .val (.int (1 : Int32)), .val (.ref b_22), .val (.ref b_33), .unset, .unset, .unset] [(.ref b_42)]))
    refine GoW.st (fun t k => XS.astore X124.here hx rfl (hb hby at_45) rfl rfl (l' := #[.val (.long q1), .second, .val (.long q2), .second, .val (.long q3), .second, .val (.long q4), .second, .val (.int p5), .val (.int (2 : Int32)), .val (.int (1 : Int32)), .val (.ref b_22), .val (.ref b_33), .val (.ref b_42), .unset, .unset]) rfl (XS.iload X124.here hx rfl (hb hby at_47) rfl (XS.iload X124.here hx rfl (hb hby at_49) rfl (XS.iadd X124.here hx rfl (hb hby at_51) rfl (XS.istore X124.here hx rfl (hb hby at_52) rfl (l' := #[.val (.long q1), .second, .val (.long q2), .second, .val (.long q3), .second, .val (.long q4), .second, .val (.int p5), .val (.int (2 : Int32)), .val (.int (1 : Int32)), .val (.ref b_22), .val (.ref b_33), .val (.ref b_42), .val (.int (3 : Int32)), .unset]) rfl (XS.aload X124.here hx rfl (hb hby at_54) rfl rfl k)))))) ?_
    show GoW p e below QQ (T124.setTop (mkF m 56 #[.val (.long q1), .second, .val (.long q2), .second, .val (.long q3), .second, .val (.long q4), .second, .val (.int p5), .val (.int (2 : Int32)), .val (.int (1 : Int32)), .val (.ref b_22), .val (.ref b_33), .val (.ref b_42), .val (.int (3 : Int32)), .unset] [(.ref b_42)]))
    refine GoW.st (fun t k => lnV X124 hx hZ rfl p124_1 (g := (mkF m 56 #[.val (.long q1), .second, .val (.long q2), .second, .val (.long q3), .second, .val (.long q4), .second, .val (.int p5), .val (.int (2 : Int32)), .val (.int (1 : Int32)), .val (.ref b_22), .val (.ref b_33), .val (.ref b_42), .val (.int (3 : Int32)), .unset] [(.ref b_42)])) rfl rfl (hb hby at_56) t (XS.iload X124.here hx rfl (hb hby at_57) rfl k)) ?_
    show GoW p e below QQ (T124.setTop (mkF m 59 #[.val (.long q1), .second, .val (.long q2), .second, .val (.long q3), .second, .val (.long q4), .second, .val (.int p5), .val (.int (2 : Int32)), .val (.int (1 : Int32)), .val (.ref b_22), .val (.ref b_33), .val (.ref b_42), .val (.int (3 : Int32)), .unset] [(.int (3 : Int32)), (.int (3 : Int32))]))
    have hc59 : (3 : Int32) = (3 : Int32) := by decide
    refine GoW.st (fun t k => XS.icmpYes X124.here hx rfl (pc0 := 59) (pc' := 64) rfl (hb hby at_59) rfl (teq hc59).1 (by decide) (by decide) (XS.iconst X124.here hx rfl (hb hby at_64) k)) ?_
    show GoW p e below QQ (T124.setTop (mkF m 65 #[.val (.long q1), .second, .val (.long q2), .second, .val (.long q3), .second, .val (.long q4), .second, .val (.int p5), .val (.int (2 : Int32)), .val (.int (1 : Int32)), .val (.ref b_22), .val (.ref b_33), .val (.ref b_42), .val (.int (3 : Int32)), .unset] [(.int (4 : Int32))]))
    obtain ⟨T126, h126, k126, X126, e126, E126, A126, st126⟩ := newP X124 hx hZ (hw _ (List.mem_of_getElem? (i := 4) rfl)) rfl (g := (mkF m 65 #[.val (.long q1), .second, .val (.long q2), .second, .val (.long q3), .second, .val (.long q4), .second, .val (.int p5), .val (.int (2 : Int32)), .val (.int (1 : Int32)), .val (.ref b_22), .val (.ref b_33), .val (.ref b_42), .val (.int (3 : Int32)), .unset] [(.int (4 : Int32))])) rfl (hb hby at_65) rfl (by decide) (cap := 4) (by decide) (by decide) (by decide) (by decide)
    obtain ⟨b126, g126⟩ : ∃ z, z = T124.heap.size := ⟨_, rfl⟩
    rw [← g126] at A126 st126
    refine GoW.st st126 ?_
    have gg126 : n0 ≤ b126 := Nat.le_trans (Nat.le_trans Z0 K124.1) (Nat.le_of_eq g126.symm)
    have sz126 : h0.size ≤ b126 := Nat.le_trans K124.1 (Nat.le_of_eq g126.symm)
    have ne126_b_22 : b_22 ≠ b126 := Nat.ne_of_lt (Nat.lt_of_lt_of_le f125_V_b_22.lt (Nat.le_of_eq g126.symm))
    have ne126_b_33 : b_33 ≠ b126 := Nat.ne_of_lt (Nat.lt_of_lt_of_le f125_V_b_33.lt (Nat.le_of_eq g126.symm))
    have ne126_b_42 : b_42 ≠ b126 := Nat.ne_of_lt (Nat.lt_of_lt_of_le p124_1.lt (Nat.le_of_eq g126.symm))
    have f127_V_b_22 : Arv Z h126 b_22 kb_22 .long (2 : Int32) [(.long (own_minL q1 q2)), (.long (own_maxL q1 q2))] (.long (0 : Int64)) := f125_V_b_22.ext E126
    have f127_V_b_33 : Arv Z h126 b_33 kb_33 .long (1 : Int32) [(.long q3)] (.long (0 : Int64)) := f125_V_b_33.ext E126
    have f127_V_b_42 : Arv Z h126 b_42 kb_42 .long (3 : Int32) [(.long w0_42), (.long w1_42), (.long w2_42)] (.long (0 : Int64)) := p124_1.ext E126
    have K126 : Keep h0 h126 [] := K124.ext E126
    have V126 : Arv Z h126 b126 k126 .long (4 : Int32) [(.long (0 : Int64)), (.long (0 : Int64)), (.long (0 : Int64)), (.long (0 : Int64))] (.long (0 : Int64)) := (Arv.new A126 (by decide)).pad (pad_rep [] (.long (0 : Int64)) 4)
    show GoW p e below QQ (T126.setTop (mkF m 67 #[.val (.long q1), .second, .val (.long q2), .second, .val (.long q3), .second, .val (.long q4), .second, .val (.int p5), .val (.int (2 : Int32)), .val (.int (1 : Int32)), .val (.ref b_22), .val (.ref b_33), .val (.ref b_42), .val (.int (3 : Int32)), .unset] [(.ref b126)]))
    refine GoW.st (fun t k => XS.astore X126.here hx rfl (hb hby at_67) rfl rfl (l' := #[.val (.long q1), .second, .val (.long q2), .second, .val (.long q3), .second, .val (.long q4), .second, .val (.int p5), .val (.int (2 : Int32)), .val (.int (1 : Int32)), .val (.ref b_22), .val (.ref b_33), .val (.ref b_42), .val (.int (3 : Int32)), .val (.ref b126)]) rfl (XS.iload X126.here hx rfl (hb hby at_69) rfl (XS.iconst X126.here hx rfl (hb hby at_71) k))) ?_
    show GoW p e below QQ (T126.setTop (mkF m 72 #[.val (.long q1), .second, .val (.long q2), .second, .val (.long q3), .second, .val (.long q4), .second, .val (.int p5), .val (.int (2 : Int32)), .val (.int (1 : Int32)), .val (.ref b_22), .val (.ref b_33), .val (.ref b_42), .val (.int (3 : Int32)), .val (.ref b126)] [(.int (1 : Int32)), (.int (2 : Int32))]))
    have hc72 : ¬ ((2 : Int32) < (1 : Int32)) := by decide
    refine GoW.st (fun t k => XS.icmpNo X126.here hx rfl (hb hby at_72) rfl (flt hc72).1 (XS.aload X126.here hx rfl (hb hby at_75) rfl rfl (XS.iconst X126.here hx rfl (hb hby at_77) (XS.aload X126.here hx rfl (hb hby at_78) rfl rfl (XS.iconst X126.here hx rfl (hb hby at_80) (ldVJ X126 hx hZ e126 f127_V_b_22 (v := (.long (own_minL q1 q2))) ⟨by decide, by decide⟩ rfl (g := (mkF m 81 #[.val (.long q1), .second, .val (.long q2), .second, .val (.long q3), .second, .val (.long q4), .second, .val (.int p5), .val (.int (2 : Int32)), .val (.int (1 : Int32)), .val (.ref b_22), .val (.ref b_33), .val (.ref b_42), .val (.int (3 : Int32)), .val (.ref b126)] [(.int (0 : Int32)), (.ref b_22), (.int (0 : Int32)), (.ref b126)])) rfl rfl (hb hby at_81) t k)))))) ?_
    show GoW p e below QQ (T126.setTop (mkF m 82 #[.val (.long q1), .second, .val (.long q2), .second, .val (.long q3), .second, .val (.long q4), .second, .val (.int p5), .val (.int (2 : Int32)), .val (.int (1 : Int32)), .val (.ref b_22), .val (.ref b_33), .val (.ref b_42), .val (.int (3 : Int32)), .val (.ref b126)] [(.long (own_minL q1 q2)), (.int (0 : Int32)), (.ref b126)]))
    obtain ⟨T128, h128, X128, e128, W128, V128, st128⟩ := stVJ X126 hx hZ e126 V126 ⟨by decide, by decide⟩ 0 rfl (Nat.le_of_ble_eq_true rfl) (g := (mkF m 82 #[.val (.long q1), .second, .val (.long q2), .second, .val (.long q3), .second, .val (.long q4), .second, .val (.int p5), .val (.int (2 : Int32)), .val (.int (1 : Int32)), .val (.ref b_22), .val (.ref b_33), .val (.ref b_42), .val (.int (3 : Int32)), .val (.ref b126)] [(.long (own_minL q1 q2)), (.int (0 : Int32)), (.ref b126)])) rfl rfl (hb hby at_82)
    refine GoW.st st128 ?_
    have f129_V_b_22 : Arv Z h128 b_22 kb_22 .long (2 : Int32) [(.long (own_minL q1 q2)), (.long (own_maxL q1 q2))] (.long (0 : Int64)) := f127_V_b_22.other W128 ne126_b_22
    have f129_V_b_33 : Arv Z h128 b_33 kb_33 .long (1 : Int32) [(.long q3)] (.long (0 : Int64)) := f127_V_b_33.other W128 ne126_b_33
    have f129_V_b_42 : Arv Z h128 b_42 kb_42 .long (3 : Int32) [(.long w0_42), (.long w1_42), (.long w2_42)] (.long (0 : Int64)) := f127_V_b_42.other W128 ne126_b_42
    have f129_V_b126 : Arv Z h128 b126 k126 .long (4 : Int32) [(.long (own_minL q1 q2)), (.long (0 : Int64)), (.long (0 : Int64)), (.long (0 : Int64))] (.long (0 : Int64)) := V128
    have K128 : Keep h0 h128 [] := K126.wr W128 (Or.inr sz126)
    have N128 := Fr.snoc X128 N124 gg126
    show GoW p e below QQ (T128.setTop (mkF m 83 #[.val (.long q1), .second, .val (.long q2), .second, .val (.long q3), .second, .val (.long q4), .second, .val (.int p5), .val (.int (2 : Int32)), .val (.int (1 : Int32)), .val (.ref b_22), .val (.ref b_33), .val (.ref b_42), .val (.int (3 : Int32)), .val (.ref b126)] []))
    refine GoW.st (fun t k => XS.iload X128.here hx rfl (hb hby at_83) rfl (XS.iconst X128.here hx rfl (hb hby at_85) k)) ?_
    show GoW p e below QQ (T128.setTop (mkF m 86 #[.val (.long q1), .second, .val (.long q2), .second, .val (.long q3), .second, .val (.long q4), .second, .val (.int p5), .val (.int (2 : Int32)), .val (.int (1 : Int32)), .val (.ref b_22), .val (.ref b_33), .val (.ref b_42), .val (.int (3 : Int32)), .val (.ref b126)] [(.int (2 : Int32)), (.int (2 : Int32))]))
    have hc86 : (2 : Int32) = (2 : Int32) := by decide
    refine GoW.st (fun t k => XS.icmpNo X128.here hx rfl (hb hby at_86) rfl (teq hc86).2 (XS.aload X128.here hx rfl (hb hby at_89) rfl rfl (XS.iconst X128.here hx rfl (hb hby at_91) (XS.aload X128.here hx rfl (hb hby at_92) rfl rfl (XS.iconst X128.here hx rfl (hb hby at_94) (ldVJ X128 hx hZ e128 f129_V_b_22 (v := (.long (own_maxL q1 q2))) ⟨by decide, by decide⟩ rfl (g := (mkF m 95 #[.val (.long q1), .second, .val (.long q2), .second, .val (.long q3), .second, .val (.long q4), .second, .val (.int p5), .val (.int (2 : Int32)), .val (.int (1 : Int32)), .val (.ref b_22), .val (.ref b_33), .val (.ref b_42), .val (.int (3 : Int32)), .val (.ref b126)] [(.int (1 : Int32)), (.ref b_22), (.int (1 : Int32)), (.ref b126)])) rfl rfl (hb hby at_95) t k)))))) ?_
    show GoW p e below QQ (T128.setTop (mkF m 96 #[.val (.long q1), .second, .val (.long q2), .second, .val (.long q3), .second, .val (.long q4), .second, .val (.int p5), .val (.int (2 : Int32)), .val (.int (1 : Int32)), .val (.ref b_22), .val (.ref b_33), .val (.ref b_42), .val (.int (3 : Int32)), .val (.ref b126)] [(.long (own_maxL q1 q2)), (.int (1 : Int32)), (.ref b126)]))
    obtain ⟨T130, h130, X130, e130, W130, V130, st130⟩ := stVJ X128 hx hZ e128 f129_V_b126 ⟨by decide, by decide⟩ 1 rfl (Nat.le_of_ble_eq_true rfl) (g := (mkF m 96 #[.val (.long q1), .second, .val (.long q2), .second, .val (.long q3), .second, .val (.long q4), .second, .val (.int p5), .val (.int (2 : Int32)), .val (.int (1 : Int32)), .val (.ref b_22), .val (.ref b_33), .val (.ref b_42), .val (.int (3 : Int32)), .val (.ref b126)] [(.long (own_maxL q1 q2)), (.int (1 : Int32)), (.ref b126)])) rfl rfl (hb hby at_96)
    refine GoW.st st130 ?_
    have f131_V_b_22 : Arv Z h130 b_22 kb_22 .long (2 : Int32) [(.long (own_minL q1 q2)), (.long (own_maxL q1 q2))] (.long (0 : Int64)) := f129_V_b_22.other W130 ne126_b_22
    have f131_V_b_33 : Arv Z h130 b_33 kb_33 .long (1 : Int32) [(.long q3)] (.long (0 : Int64)) := f129_V_b_33.other W130 ne126_b_33
    have f131_V_b_42 : Arv Z h130 b_42 kb_42 .long (3 : Int32) [(.long w0_42), (.long w1_42), (.long w2_42)] (.long (0 : Int64)) := f129_V_b_42.other W130 ne126_b_42
    have f131_V_b126 : Arv Z h130 b126 k126 .long (4 : Int32) [(.long (own_minL q1 q2)), (.long (own_maxL q1 q2)), (.long (0 : Int64)), (.long (0 : Int64))] (.long (0 : Int64)) := V130
    have K130 : Keep h0 h130 [] := K128.wr W130 (Or.inr sz126)
    have N130 := Fr.snoc X130 N128 gg126
    show GoW p e below QQ (T130.setTop (mkF m 97 #[.val (.long q1), .second, .val (.long q2), .second, .val (.long q3), .second, .val (.long q4), .second, .val (.int p5), .val (.int (2 : Int32)), .val (.int (1 : Int32)), .val (.ref b_22), .val (.ref b_33), .val (.ref b_42), .val (.int (3 : Int32)), .val (.ref b126)] []))
    refine GoW.st (fun t k => XS.iload X130.here hx rfl (hb hby at_97) rfl (XS.iconst X130.here hx rfl (hb hby at_99) k)) ?_
    show GoW p e below QQ (T130.setTop (mkF m 100 #[.val (.long q1), .second, .val (.long q2), .second, .val (.long q3), .second, .val (.long q4), .second, .val (.int p5), .val (.int (2 : Int32)), .val (.int (1 : Int32)), .val (.ref b_22), .val (.ref b_33), .val (.ref b_42), .val (.int (3 : Int32)), .val (.ref b126)] [(.int (1 : Int32)), (.int (1 : Int32))]))
    have hc100 : ¬ ((1 : Int32) < (1 : Int32)) := by decide
    refine GoW.st (fun t k => XS.icmpNo X130.here hx rfl (hb hby at_100) rfl (flt hc100).1 (XS.aload X130.here hx rfl (hb hby at_103) rfl rfl (XS.iload X130.here hx rfl (hb hby at_105) rfl (XS.aload X130.here hx rfl (hb hby at_107) rfl rfl (XS.iconst X130.here hx rfl (hb hby at_109) (ldVJ X130 hx hZ e130 f131_V_b_33 (v := (.long q3)) ⟨by decide, by decide⟩ rfl (g := (mkF m 110 #[.val (.long q1), .second, .val (.long q2), .second, .val (.long q3), .second, .val (.long q4), .second, .val (.int p5), .val (.int (2 : Int32)), .val (.int (1 : Int32)), .val (.ref b_22), .val (.ref b_33), .val (.ref b_42), .val (.int (3 : Int32)), .val (.ref b126)] [(.int (0 : Int32)), (.ref b_33), (.int (2 : Int32)), (.ref b126)])) rfl rfl (hb hby at_110) t k)))))) ?_
    show GoW p e below QQ (T130.setTop (mkF m 111 #[.val (.long q1), .second, .val (.long q2), .second, .val (.long q3), .second, .val (.long q4), .second, .val (.int p5), .val (.int (2 : Int32)), .val (.int (1 : Int32)), .val (.ref b_22), .val (.ref b_33), .val (.ref b_42), .val (.int (3 : Int32)), .val (.ref b126)] [(.long q3), (.int (2 : Int32)), (.ref b126)]))
    obtain ⟨T132, h132, X132, e132, W132, V132, st132⟩ := stVJ X130 hx hZ e130 f131_V_b126 ⟨by decide, by decide⟩ 2 rfl (Nat.le_of_ble_eq_true rfl) (g := (mkF m 111 #[.val (.long q1), .second, .val (.long q2), .second, .val (.long q3), .second, .val (.long q4), .second, .val (.int p5), .val (.int (2 : Int32)), .val (.int (1 : Int32)), .val (.ref b_22), .val (.ref b_33), .val (.ref b_42), .val (.int (3 : Int32)), .val (.ref b126)] [(.long q3), (.int (2 : Int32)), (.ref b126)])) rfl rfl (hb hby at_111)
    refine GoW.st st132 ?_
    have f133_V_b_22 : Arv Z h132 b_22 kb_22 .long (2 : Int32) [(.long (own_minL q1 q2)), (.long (own_maxL q1 q2))] (.long (0 : Int64)) := f131_V_b_22.other W132 ne126_b_22
    have f133_V_b_33 : Arv Z h132 b_33 kb_33 .long (1 : Int32) [(.long q3)] (.long (0 : Int64)) := f131_V_b_33.other W132 ne126_b_33
    have f133_V_b_42 : Arv Z h132 b_42 kb_42 .long (3 : Int32) [(.long w0_42), (.long w1_42), (.long w2_42)] (.long (0 : Int64)) := f131_V_b_42.other W132 ne126_b_42
    have f133_V_b126 : Arv Z h132 b126 k126 .long (4 : Int32) [(.long (own_minL q1 q2)), (.long (own_maxL q1 q2)), (.long q3), (.long (0 : Int64))] (.long (0 : Int64)) := V132
    have K132 : Keep h0 h132 [] := K130.wr W132 (Or.inr sz126)
    have N132 := Fr.snoc X132 N130 gg126
    show GoW p e below QQ (T132.setTop (mkF m 112 #[.val (.long q1), .second, .val (.long q2), .second, .val (.long q3), .second, .val (.long q4), .second, .val (.int p5), .val (.int (2 : Int32)), .val (.int (1 : Int32)), .val (.ref b_22), .val (.ref b_33), .val (.ref b_42), .val (.int (3 : Int32)), .val (.ref b126)] []))
    refine GoW.st (fun t k => XS.iload X132.here hx rfl (hb hby at_112) rfl (XS.iconst X132.here hx rfl (hb hby at_114) k)) ?_
    show GoW p e below QQ (T132.setTop (mkF m 115 #[.val (.long q1), .second, .val (.long q2), .second, .val (.long q3), .second, .val (.long q4), .second, .val (.int p5), .val (.int (2 : Int32)), .val (.int (1 : Int32)), .val (.ref b_22), .val (.ref b_33), .val (.ref b_42), .val (.int (3 : Int32)), .val (.ref b126)] [(.int (2 : Int32)), (.int (1 : Int32))]))
    have hc115 : ¬ ((1 : Int32) = (2 : Int32)) := by decide
    refine GoW.st (fun t k => XS.icmpYes X132.here hx rfl (pc0 := 115) (pc' := 129) rfl (hb hby at_115) rfl (feq hc115).2 (by decide) (by decide) k) ?_
    show GoW p e below QQ (T132.setTop (mkF m 129 #[.val (.long q1), .second, .val (.long q2), .second, .val (.long q3), .second, .val (.long q4), .second, .val (.int p5), .val (.int (2 : Int32)), .val (.int (1 : Int32)), .val (.ref b_22), .val (.ref b_33), .val (.ref b_42), .val (.int (3 : Int32)), .val (.ref b126)] []))
    have so1 := own_mm q1 q2
    refine GoW.st (fun t k => XS.aload X132.here hx rfl (hb hby at_129) rfl rfl (XS.iload X132.here hx rfl (hb hby at_131) rfl (XS.iconst X132.here hx rfl (hb hby at_133) (XS.iconst X132.here hx rfl (hb hby at_134) k)))) ?_
    show GoW p e below QQ (T132.setTop (mkF m 135 #[.val (.long q1), .second, .val (.long q2), .second, .val (.long q3), .second, .val (.long q4), .second, .val (.int p5), .val (.int (2 : Int32)), .val (.int (1 : Int32)), .val (.ref b_22), .val (.ref b_33), .val (.ref b_42), .val (.int (3 : Int32)), .val (.ref b126)] [(.int (1 : Int32)), (.int (0 : Int32)), (.int (3 : Int32)), (.ref b126)]))
    obtain ⟨_, _, ⟨T134, zL134, zk134, zn134⟩, -, X134, ⟨Lc134, hQ134, zl134, zy134, zz134⟩, st134⟩ := Jvm.LawKit.callS X132 hx (y := (⟨"com/example/hike/hike/HoldersMergePinLaw", "cx", "([JIII)V"⟩ : MethodName)) hown (mvT hZ (hw _ (List.mem_of_getElem? (i := 9) rfl))) (mvT hZ (hw _ (List.mem_of_getElem? (i := 10) rfl))) (mvT hZ (hw _ (List.mem_of_getElem? (i := 2) rfl))) (mvT hZ (hw _ (List.mem_of_getElem? (i := 11) rfl))) (by decide) (backOf (W := 0) (rm3_301 l Z a0 hw [] b126 k126 (own_minL q1 q2) (own_maxL q1 q2) q3 (0 : Int64) h132 n0 (Nat.le_trans Z0 K132.1) f133_V_b126 gg126) hZ (hw _ (List.mem_of_getElem? (i := 11) rfl)) (hw _ (List.mem_of_getElem? (i := 2) rfl)) (by decide) (by decide)) (g := (mkF m 135 #[.val (.long q1), .second, .val (.long q2), .second, .val (.long q3), .second, .val (.long q4), .second, .val (.int p5), .val (.int (2 : Int32)), .val (.int (1 : Int32)), .val (.ref b_22), .val (.ref b_33), .val (.ref b_42), .val (.int (3 : Int32)), .val (.ref b126)] [(.int (1 : Int32)), (.int (0 : Int32)), (.int (3 : Int32)), (.ref b126)])) rfl (by rw [hml]; rfl) (argsL := [(.ref b126), (.int (3 : Int32)), (.int (0 : Int32)), (.int (1 : Int32))]) (rest := []) (lenOf pd_3 rfl) rfl (by show 2 * 0 + _ ≤ _; exact Nat.le_of_eq rfl) (hb hby at_135) (fun _ _ => ⟨rfl, e132, (by decide : 4 + 0 ≤ _), (by decide : 10 + 0 ≤ _)⟩)
    dsimp only [Pt.U, Pt.locs, Pt.cells, Pt.slots] at X134 zl134 zy134 zz134 st134 hQ134
    subst zl134 zy134 zz134
    obtain ⟨wa_135, wb_135, rfl, Nq134, Kq134, p134_0, p134_1⟩ := hQ134
    have N134 := Fr.app N132 Nq134
    refine GoW.st st134 ?_
    have f135_V_b_42 : Arv Z T134.heap b_42 kb_42 .long (3 : Int32) [(.long w0_42), (.long w1_42), (.long w2_42)] (.long (0 : Int64)) := f133_V_b_42.keep Kq134 (ninS ne126_b_42 nin0)
    have K134 : Keep h0 T134.heap [] := K132.trans Kq134 (allS (Or.inr sz126) all0)
    have hs_135 := p134_1
    show GoW p e below QQ (T134.setTop (mkF m 138 #[.val (.long q1), .second, .val (.long q2), .second, .val (.long q3), .second, .val (.long q4), .second, .val (.int p5), .val (.int (2 : Int32)), .val (.int (1 : Int32)), .val (.ref b_22), .val (.ref b_33), .val (.ref b_42), .val (.int (3 : Int32)), .val (.ref b126)] []))
    refine GoW.st (fun t k => XS.aload X134.here hx rfl (hb hby at_138) rfl rfl (XS.iload X134.here hx rfl (hb hby at_140) rfl (XS.iconst X134.here hx rfl (hb hby at_142) (XS.iconst X134.here hx rfl (hb hby at_143) k)))) ?_
    show GoW p e below QQ (T134.setTop (mkF m 144 #[.val (.long q1), .second, .val (.long q2), .second, .val (.long q3), .second, .val (.long q4), .second, .val (.int p5), .val (.int (2 : Int32)), .val (.int (1 : Int32)), .val (.ref b_22), .val (.ref b_33), .val (.ref b_42), .val (.int (3 : Int32)), .val (.ref b126)] [(.int (3 : Int32)), (.int (2 : Int32)), (.int (3 : Int32)), (.ref b126)]))
    obtain ⟨_, _, ⟨T136, zL136, zk136, zn136⟩, -, X136, ⟨Lc136, hQ136, zl136, zy136, zz136⟩, st136⟩ := Jvm.LawKit.callS X134 hx (y := (⟨"com/example/hike/hike/HoldersMergePinLaw", "cx", "([JIII)V"⟩ : MethodName)) hown (mvT hZ (hw _ (List.mem_of_getElem? (i := 9) rfl))) (mvT hZ (hw _ (List.mem_of_getElem? (i := 10) rfl))) (mvT hZ (hw _ (List.mem_of_getElem? (i := 2) rfl))) (mvT hZ (hw _ (List.mem_of_getElem? (i := 11) rfl))) (by decide) (backOf (W := 0) (rm3_323 l Z a0 hw [] b126 T134.heap n0 (Nat.le_trans Z0 K134.1) ) hZ (hw _ (List.mem_of_getElem? (i := 11) rfl)) (hw _ (List.mem_of_getElem? (i := 2) rfl)) (by decide) (by decide)) (g := (mkF m 144 #[.val (.long q1), .second, .val (.long q2), .second, .val (.long q3), .second, .val (.long q4), .second, .val (.int p5), .val (.int (2 : Int32)), .val (.int (1 : Int32)), .val (.ref b_22), .val (.ref b_33), .val (.ref b_42), .val (.int (3 : Int32)), .val (.ref b126)] [(.int (3 : Int32)), (.int (2 : Int32)), (.int (3 : Int32)), (.ref b126)])) rfl (by rw [hml]; rfl) (argsL := [(.ref b126), (.int (3 : Int32)), (.int (2 : Int32)), (.int (3 : Int32))]) (rest := []) (lenOf pd_3 rfl) rfl (by show 2 * 0 + _ ≤ _; exact Nat.le_of_eq rfl) (hb hby at_144) (fun _ _ => ⟨rfl, rfl, (by decide : 4 + 0 ≤ _), (by decide : 10 + 0 ≤ _)⟩)
    dsimp only [Pt.U, Pt.locs, Pt.cells, Pt.slots] at X136 zl136 zy136 zz136 st136 hQ136
    subst zl136 zy136 zz136
    obtain ⟨rfl, Nq136, hh136⟩ := hQ136
    have N136 := Fr.app N134 Nq136
    refine GoW.st st136 ?_
    show GoW p e below QQ (T136.setTop (mkF m 147 #[.val (.long q1), .second, .val (.long q2), .second, .val (.long q3), .second, .val (.long q4), .second, .val (.int p5), .val (.int (2 : Int32)), .val (.int (1 : Int32)), .val (.ref b_22), .val (.ref b_33), .val (.ref b_42), .val (.int (3 : Int32)), .val (.ref b126)] []))
    refine GoW.st (fun t k => XS.aload X136.here hx rfl (hb hby at_147) rfl rfl (XS.iload X136.here hx rfl (hb hby at_149) rfl (XS.iconst X136.here hx rfl (hb hby at_151) (XS.iconst X136.here hx rfl (hb hby at_152) k)))) ?_
    show GoW p e below QQ (T136.setTop (mkF m 153 #[.val (.long q1), .second, .val (.long q2), .second, .val (.long q3), .second, .val (.long q4), .second, .val (.int p5), .val (.int (2 : Int32)), .val (.int (1 : Int32)), .val (.ref b_22), .val (.ref b_33), .val (.ref b_42), .val (.int (3 : Int32)), .val (.ref b126)] [(.int (2 : Int32)), (.int (0 : Int32)), (.int (3 : Int32)), (.ref b126)]))
    obtain ⟨_, _, ⟨T137, zL137, zk137, zn137⟩, -, X137, ⟨Lc137, hQ137, zl137, zy137, zz137⟩, st137⟩ := Jvm.LawKit.callS X136 hx (y := (⟨"com/example/hike/hike/HoldersMergePinLaw", "cx", "([JIII)V"⟩ : MethodName)) hown (mvT hZ (hw _ (List.mem_of_getElem? (i := 9) rfl))) (mvT hZ (hw _ (List.mem_of_getElem? (i := 10) rfl))) (mvT hZ (hw _ (List.mem_of_getElem? (i := 2) rfl))) (mvT hZ (hw _ (List.mem_of_getElem? (i := 11) rfl))) (by decide) (backOf (W := 0) (rm3_302 l Z a0 hw [] b126 k126 wa_135 wb_135 q3 (0 : Int64) T134.heap n0 (Nat.le_trans Z0 K134.1) p134_0 gg126) hZ (hw _ (List.mem_of_getElem? (i := 11) rfl)) (hw _ (List.mem_of_getElem? (i := 2) rfl)) (by decide) (by decide)) (g := (mkF m 153 #[.val (.long q1), .second, .val (.long q2), .second, .val (.long q3), .second, .val (.long q4), .second, .val (.int p5), .val (.int (2 : Int32)), .val (.int (1 : Int32)), .val (.ref b_22), .val (.ref b_33), .val (.ref b_42), .val (.int (3 : Int32)), .val (.ref b126)] [(.int (2 : Int32)), (.int (0 : Int32)), (.int (3 : Int32)), (.ref b126)])) rfl (by rw [hml]; rfl) (argsL := [(.ref b126), (.int (3 : Int32)), (.int (0 : Int32)), (.int (2 : Int32))]) (rest := []) (lenOf pd_3 rfl) rfl (by show 2 * 0 + _ ≤ _; exact Nat.le_of_eq rfl) (hb hby at_153) (fun _ _ => ⟨rfl, hh136, (by decide : 4 + 0 ≤ _), (by decide : 10 + 0 ≤ _)⟩)
    dsimp only [Pt.U, Pt.locs, Pt.cells, Pt.slots] at X137 zl137 zy137 zz137 st137 hQ137
    subst zl137 zy137 zz137
    obtain ⟨wa_153, wb_153, rfl, Nq137, Kq137, p137_0, p137_1⟩ := hQ137
    have N137 := Fr.app N136 Nq137
    refine GoW.st st137 ?_
    have f138_V_b_42 : Arv Z T137.heap b_42 kb_42 .long (3 : Int32) [(.long w0_42), (.long w1_42), (.long w2_42)] (.long (0 : Int64)) := f135_V_b_42.keep Kq137 (ninS ne126_b_42 nin0)
    have K137 : Keep h0 T137.heap [] := K134.trans Kq137 (allS (Or.inr sz126) all0)
    have hs_153 := p137_1
    show GoW p e below QQ (T137.setTop (mkF m 156 #[.val (.long q1), .second, .val (.long q2), .second, .val (.long q3), .second, .val (.long q4), .second, .val (.int p5), .val (.int (2 : Int32)), .val (.int (1 : Int32)), .val (.ref b_22), .val (.ref b_33), .val (.ref b_42), .val (.int (3 : Int32)), .val (.ref b126)] []))
    refine GoW.st (fun t k => XS.aload X137.here hx rfl (hb hby at_156) rfl rfl (XS.iload X137.here hx rfl (hb hby at_158) rfl (XS.iconst X137.here hx rfl (hb hby at_160) (XS.iconst X137.here hx rfl (hb hby at_161) k)))) ?_
    show GoW p e below QQ (T137.setTop (mkF m 162 #[.val (.long q1), .second, .val (.long q2), .second, .val (.long q3), .second, .val (.long q4), .second, .val (.int p5), .val (.int (2 : Int32)), .val (.int (1 : Int32)), .val (.ref b_22), .val (.ref b_33), .val (.ref b_42), .val (.int (3 : Int32)), .val (.ref b126)] [(.int (3 : Int32)), (.int (1 : Int32)), (.int (3 : Int32)), (.ref b126)]))
    obtain ⟨_, _, ⟨T139, zL139, zk139, zn139⟩, -, X139, ⟨Lc139, hQ139, zl139, zy139, zz139⟩, st139⟩ := Jvm.LawKit.callS X137 hx (y := (⟨"com/example/hike/hike/HoldersMergePinLaw", "cx", "([JIII)V"⟩ : MethodName)) hown (mvT hZ (hw _ (List.mem_of_getElem? (i := 9) rfl))) (mvT hZ (hw _ (List.mem_of_getElem? (i := 10) rfl))) (mvT hZ (hw _ (List.mem_of_getElem? (i := 2) rfl))) (mvT hZ (hw _ (List.mem_of_getElem? (i := 11) rfl))) (by decide) (backOf (W := 0) (rm3_313 l Z a0 hw [] b126 T137.heap n0 (Nat.le_trans Z0 K137.1) ) hZ (hw _ (List.mem_of_getElem? (i := 11) rfl)) (hw _ (List.mem_of_getElem? (i := 2) rfl)) (by decide) (by decide)) (g := (mkF m 162 #[.val (.long q1), .second, .val (.long q2), .second, .val (.long q3), .second, .val (.long q4), .second, .val (.int p5), .val (.int (2 : Int32)), .val (.int (1 : Int32)), .val (.ref b_22), .val (.ref b_33), .val (.ref b_42), .val (.int (3 : Int32)), .val (.ref b126)] [(.int (3 : Int32)), (.int (1 : Int32)), (.int (3 : Int32)), (.ref b126)])) rfl (by rw [hml]; rfl) (argsL := [(.ref b126), (.int (3 : Int32)), (.int (1 : Int32)), (.int (3 : Int32))]) (rest := []) (lenOf pd_3 rfl) rfl (by show 2 * 0 + _ ≤ _; exact Nat.le_of_eq rfl) (hb hby at_162) (fun _ _ => ⟨rfl, rfl, (by decide : 4 + 0 ≤ _), (by decide : 10 + 0 ≤ _)⟩)
    dsimp only [Pt.U, Pt.locs, Pt.cells, Pt.slots] at X139 zl139 zy139 zz139 st139 hQ139
    subst zl139 zy139 zz139
    obtain ⟨rfl, Nq139, hh139⟩ := hQ139
    have N139 := Fr.app N137 Nq139
    refine GoW.st st139 ?_
    show GoW p e below QQ (T139.setTop (mkF m 165 #[.val (.long q1), .second, .val (.long q2), .second, .val (.long q3), .second, .val (.long q4), .second, .val (.int p5), .val (.int (2 : Int32)), .val (.int (1 : Int32)), .val (.ref b_22), .val (.ref b_33), .val (.ref b_42), .val (.int (3 : Int32)), .val (.ref b126)] []))
    refine GoW.st (fun t k => XS.aload X139.here hx rfl (hb hby at_165) rfl rfl (XS.iload X139.here hx rfl (hb hby at_167) rfl (XS.iconst X139.here hx rfl (hb hby at_169) (XS.iconst X139.here hx rfl (hb hby at_170) k)))) ?_
    show GoW p e below QQ (T139.setTop (mkF m 171 #[.val (.long q1), .second, .val (.long q2), .second, .val (.long q3), .second, .val (.long q4), .second, .val (.int p5), .val (.int (2 : Int32)), .val (.int (1 : Int32)), .val (.ref b_22), .val (.ref b_33), .val (.ref b_42), .val (.int (3 : Int32)), .val (.ref b126)] [(.int (2 : Int32)), (.int (1 : Int32)), (.int (3 : Int32)), (.ref b126)]))
    obtain ⟨_, _, ⟨T140, zL140, zk140, zn140⟩, -, X140, ⟨Lc140, hQ140, zl140, zy140, zz140⟩, st140⟩ := Jvm.LawKit.callS X139 hx (y := (⟨"com/example/hike/hike/HoldersMergePinLaw", "cx", "([JIII)V"⟩ : MethodName)) hown (mvT hZ (hw _ (List.mem_of_getElem? (i := 9) rfl))) (mvT hZ (hw _ (List.mem_of_getElem? (i := 10) rfl))) (mvT hZ (hw _ (List.mem_of_getElem? (i := 2) rfl))) (mvT hZ (hw _ (List.mem_of_getElem? (i := 11) rfl))) (by decide) (backOf (W := 0) (rm3_312 l Z a0 hw [] b126 k126 wa_153 wb_135 wb_153 (0 : Int64) T137.heap n0 (Nat.le_trans Z0 K137.1) p137_0 gg126) hZ (hw _ (List.mem_of_getElem? (i := 11) rfl)) (hw _ (List.mem_of_getElem? (i := 2) rfl)) (by decide) (by decide)) (g := (mkF m 171 #[.val (.long q1), .second, .val (.long q2), .second, .val (.long q3), .second, .val (.long q4), .second, .val (.int p5), .val (.int (2 : Int32)), .val (.int (1 : Int32)), .val (.ref b_22), .val (.ref b_33), .val (.ref b_42), .val (.int (3 : Int32)), .val (.ref b126)] [(.int (2 : Int32)), (.int (1 : Int32)), (.int (3 : Int32)), (.ref b126)])) rfl (by rw [hml]; rfl) (argsL := [(.ref b126), (.int (3 : Int32)), (.int (1 : Int32)), (.int (2 : Int32))]) (rest := []) (lenOf pd_3 rfl) rfl (by show 2 * 0 + _ ≤ _; exact Nat.le_of_eq rfl) (hb hby at_171) (fun _ _ => ⟨rfl, hh139, (by decide : 4 + 0 ≤ _), (by decide : 10 + 0 ≤ _)⟩)
    dsimp only [Pt.U, Pt.locs, Pt.cells, Pt.slots] at X140 zl140 zy140 zz140 st140 hQ140
    subst zl140 zy140 zz140
    obtain ⟨wa_171, wb_171, rfl, Nq140, Kq140, p140_0, p140_1⟩ := hQ140
    have N140 := Fr.app N139 Nq140
    refine GoW.st st140 ?_
    have f141_V_b_42 : Arv Z T140.heap b_42 kb_42 .long (3 : Int32) [(.long w0_42), (.long w1_42), (.long w2_42)] (.long (0 : Int64)) := f138_V_b_42.keep Kq140 (ninS ne126_b_42 nin0)
    have K140 : Keep h0 T140.heap [] := K137.trans Kq140 (allS (Or.inr sz126) all0)
    have hs_171 := p140_1
    show GoW p e below QQ (T140.setTop (mkF m 174 #[.val (.long q1), .second, .val (.long q2), .second, .val (.long q3), .second, .val (.long q4), .second, .val (.int p5), .val (.int (2 : Int32)), .val (.int (1 : Int32)), .val (.ref b_22), .val (.ref b_33), .val (.ref b_42), .val (.int (3 : Int32)), .val (.ref b126)] []))
    refine GoW.st (fun t k => XS.iconst X140.here hx rfl (hb hby at_174) (XS.iload X140.here hx rfl (hb hby at_175) rfl k)) ?_
    show GoW p e below QQ (T140.setTop (mkF m 177 #[.val (.long q1), .second, .val (.long q2), .second, .val (.long q3), .second, .val (.long q4), .second, .val (.int p5), .val (.int (2 : Int32)), .val (.int (1 : Int32)), .val (.ref b_22), .val (.ref b_33), .val (.ref b_42), .val (.int (3 : Int32)), .val (.ref b126)] [(.int (3 : Int32)), (.int (0 : Int32))]))
    have hc177 : (0 : Int32) < (3 : Int32) := by decide
    refine GoW.st (fun t k => XS.icmpNo X140.here hx rfl (hb hby at_177) rfl (tlt hc177).2.1 (XS.aload X140.here hx rfl (hb hby at_180) rfl rfl (XS.iconst X140.here hx rfl (hb hby at_182) (ldVJ X140 hx hZ rfl f141_V_b_42 (v := (.long w0_42)) ⟨by decide, by decide⟩ rfl (g := (mkF m 183 #[.val (.long q1), .second, .val (.long q2), .second, .val (.long q3), .second, .val (.long q4), .second, .val (.int p5), .val (.int (2 : Int32)), .val (.int (1 : Int32)), .val (.ref b_22), .val (.ref b_33), .val (.ref b_42), .val (.int (3 : Int32)), .val (.ref b126)] [(.int (0 : Int32)), (.ref b_42)])) rfl rfl (hb hby at_183) t (XS.aload X140.here hx rfl (hb hby at_184) rfl rfl (XS.iconst X140.here hx rfl (hb hby at_186) k)))))) ?_
    show GoW p e below QQ (T140.setTop (mkF m 187 #[.val (.long q1), .second, .val (.long q2), .second, .val (.long q3), .second, .val (.long q4), .second, .val (.int p5), .val (.int (2 : Int32)), .val (.int (1 : Int32)), .val (.ref b_22), .val (.ref b_33), .val (.ref b_42), .val (.int (3 : Int32)), .val (.ref b126)] [(.int (0 : Int32)), (.ref b126), (.long w0_42)]))
    refine GoW.st (fun t k => ldVJ X140 hx hZ rfl p140_0 (v := (.long wa_153)) ⟨by decide, by decide⟩ rfl (g := (mkF m 187 #[.val (.long q1), .second, .val (.long q2), .second, .val (.long q3), .second, .val (.long q4), .second, .val (.int p5), .val (.int (2 : Int32)), .val (.int (1 : Int32)), .val (.ref b_22), .val (.ref b_33), .val (.ref b_42), .val (.int (3 : Int32)), .val (.ref b126)] [(.int (0 : Int32)), (.ref b126), (.long w0_42)])) rfl rfl (hb hby at_187) t (XS.lcmp X140.here hx rfl (hb hby at_188) rfl k)) ?_
    show GoW p e below QQ (T140.setTop (mkF m 189 #[.val (.long q1), .second, .val (.long q2), .second, .val (.long q3), .second, .val (.long q4), .second, .val (.int p5), .val (.int (2 : Int32)), .val (.int (1 : Int32)), .val (.ref b_22), .val (.ref b_33), .val (.ref b_42), .val (.int (3 : Int32)), .val (.ref b126)] [(.int (lcmpW w0_42 wa_153))]))
    have hc189 : w0_42 = wa_153 := by
      apply Int64.toInt_inj.mp
      omega
    refine GoW.st (fun t k => XS.ifYes X140.here hx rfl (pc0 := 189) (pc' := 194) rfl (hb hby at_189) rfl ((if0 _ _).trans (teq ((lw_eq w0_42 wa_153).mpr hc189)).1) (by decide) (by decide) (XS.iconst X140.here hx rfl (hb hby at_194) (XS.iload X140.here hx rfl (hb hby at_195) rfl k))) ?_
    show GoW p e below QQ (T140.setTop (mkF m 197 #[.val (.long q1), .second, .val (.long q2), .second, .val (.long q3), .second, .val (.long q4), .second, .val (.int p5), .val (.int (2 : Int32)), .val (.int (1 : Int32)), .val (.ref b_22), .val (.ref b_33), .val (.ref b_42), .val (.int (3 : Int32)), .val (.ref b126)] [(.int (3 : Int32)), (.int (1 : Int32))]))
    have hc197 : (1 : Int32) < (3 : Int32) := by decide
    refine GoW.st (fun t k => XS.icmpNo X140.here hx rfl (hb hby at_197) rfl (tlt hc197).2.1 (XS.aload X140.here hx rfl (hb hby at_200) rfl rfl (XS.iconst X140.here hx rfl (hb hby at_202) (ldVJ X140 hx hZ rfl f141_V_b_42 (v := (.long w1_42)) ⟨by decide, by decide⟩ rfl (g := (mkF m 203 #[.val (.long q1), .second, .val (.long q2), .second, .val (.long q3), .second, .val (.long q4), .second, .val (.int p5), .val (.int (2 : Int32)), .val (.int (1 : Int32)), .val (.ref b_22), .val (.ref b_33), .val (.ref b_42), .val (.int (3 : Int32)), .val (.ref b126)] [(.int (1 : Int32)), (.ref b_42)])) rfl rfl (hb hby at_203) t (XS.aload X140.here hx rfl (hb hby at_204) rfl rfl (XS.iconst X140.here hx rfl (hb hby at_206) k)))))) ?_
    show GoW p e below QQ (T140.setTop (mkF m 207 #[.val (.long q1), .second, .val (.long q2), .second, .val (.long q3), .second, .val (.long q4), .second, .val (.int p5), .val (.int (2 : Int32)), .val (.int (1 : Int32)), .val (.ref b_22), .val (.ref b_33), .val (.ref b_42), .val (.int (3 : Int32)), .val (.ref b126)] [(.int (1 : Int32)), (.ref b126), (.long w1_42)]))
    refine GoW.st (fun t k => ldVJ X140 hx hZ rfl p140_0 (v := (.long wa_171)) ⟨by decide, by decide⟩ rfl (g := (mkF m 207 #[.val (.long q1), .second, .val (.long q2), .second, .val (.long q3), .second, .val (.long q4), .second, .val (.int p5), .val (.int (2 : Int32)), .val (.int (1 : Int32)), .val (.ref b_22), .val (.ref b_33), .val (.ref b_42), .val (.int (3 : Int32)), .val (.ref b126)] [(.int (1 : Int32)), (.ref b126), (.long w1_42)])) rfl rfl (hb hby at_207) t (XS.lcmp X140.here hx rfl (hb hby at_208) rfl k)) ?_
    show GoW p e below QQ (T140.setTop (mkF m 209 #[.val (.long q1), .second, .val (.long q2), .second, .val (.long q3), .second, .val (.long q4), .second, .val (.int p5), .val (.int (2 : Int32)), .val (.int (1 : Int32)), .val (.ref b_22), .val (.ref b_33), .val (.ref b_42), .val (.int (3 : Int32)), .val (.ref b126)] [(.int (lcmpW w1_42 wa_171))]))
    have hc209 : w1_42 = wa_171 := by
      apply Int64.toInt_inj.mp
      omega
    refine GoW.st (fun t k => XS.ifYes X140.here hx rfl (pc0 := 209) (pc' := 214) rfl (hb hby at_209) rfl ((if0 _ _).trans (teq ((lw_eq w1_42 wa_171).mpr hc209)).1) (by decide) (by decide) (XS.iconst X140.here hx rfl (hb hby at_214) (XS.iload X140.here hx rfl (hb hby at_215) rfl k))) ?_
    show GoW p e below QQ (T140.setTop (mkF m 217 #[.val (.long q1), .second, .val (.long q2), .second, .val (.long q3), .second, .val (.long q4), .second, .val (.int p5), .val (.int (2 : Int32)), .val (.int (1 : Int32)), .val (.ref b_22), .val (.ref b_33), .val (.ref b_42), .val (.int (3 : Int32)), .val (.ref b126)] [(.int (3 : Int32)), (.int (2 : Int32))]))
    have hc217 : (2 : Int32) < (3 : Int32) := by decide
    refine GoW.st (fun t k => XS.icmpNo X140.here hx rfl (hb hby at_217) rfl (tlt hc217).2.1 (XS.aload X140.here hx rfl (hb hby at_220) rfl rfl (XS.iconst X140.here hx rfl (hb hby at_222) (ldVJ X140 hx hZ rfl f141_V_b_42 (v := (.long w2_42)) ⟨by decide, by decide⟩ rfl (g := (mkF m 223 #[.val (.long q1), .second, .val (.long q2), .second, .val (.long q3), .second, .val (.long q4), .second, .val (.int p5), .val (.int (2 : Int32)), .val (.int (1 : Int32)), .val (.ref b_22), .val (.ref b_33), .val (.ref b_42), .val (.int (3 : Int32)), .val (.ref b126)] [(.int (2 : Int32)), (.ref b_42)])) rfl rfl (hb hby at_223) t (XS.aload X140.here hx rfl (hb hby at_224) rfl rfl (XS.iconst X140.here hx rfl (hb hby at_226) k)))))) ?_
    show GoW p e below QQ (T140.setTop (mkF m 227 #[.val (.long q1), .second, .val (.long q2), .second, .val (.long q3), .second, .val (.long q4), .second, .val (.int p5), .val (.int (2 : Int32)), .val (.int (1 : Int32)), .val (.ref b_22), .val (.ref b_33), .val (.ref b_42), .val (.int (3 : Int32)), .val (.ref b126)] [(.int (2 : Int32)), (.ref b126), (.long w2_42)]))
    refine GoW.st (fun t k => ldVJ X140 hx hZ rfl p140_0 (v := (.long wb_171)) ⟨by decide, by decide⟩ rfl (g := (mkF m 227 #[.val (.long q1), .second, .val (.long q2), .second, .val (.long q3), .second, .val (.long q4), .second, .val (.int p5), .val (.int (2 : Int32)), .val (.int (1 : Int32)), .val (.ref b_22), .val (.ref b_33), .val (.ref b_42), .val (.int (3 : Int32)), .val (.ref b126)] [(.int (2 : Int32)), (.ref b126), (.long w2_42)])) rfl rfl (hb hby at_227) t (XS.lcmp X140.here hx rfl (hb hby at_228) rfl k)) ?_
    show GoW p e below QQ (T140.setTop (mkF m 229 #[.val (.long q1), .second, .val (.long q2), .second, .val (.long q3), .second, .val (.long q4), .second, .val (.int p5), .val (.int (2 : Int32)), .val (.int (1 : Int32)), .val (.ref b_22), .val (.ref b_33), .val (.ref b_42), .val (.int (3 : Int32)), .val (.ref b126)] [(.int (lcmpW w2_42 wb_171))]))
    have hc229 : w2_42 = wb_171 := by
      apply Int64.toInt_inj.mp
      omega
    refine GoW.st (fun t k => XS.ifYes X140.here hx rfl (pc0 := 229) (pc' := 234) rfl (hb hby at_229) rfl ((if0 _ _).trans (teq ((lw_eq w2_42 wb_171).mpr hc229)).1) (by decide) (by decide) (XS.iconst X140.here hx rfl (hb hby at_234) (XS.iload X140.here hx rfl (hb hby at_235) rfl k))) ?_
    show GoW p e below QQ (T140.setTop (mkF m 237 #[.val (.long q1), .second, .val (.long q2), .second, .val (.long q3), .second, .val (.long q4), .second, .val (.int p5), .val (.int (2 : Int32)), .val (.int (1 : Int32)), .val (.ref b_22), .val (.ref b_33), .val (.ref b_42), .val (.int (3 : Int32)), .val (.ref b126)] [(.int (3 : Int32)), (.int (3 : Int32))]))
    have hc237 : ¬ ((3 : Int32) < (3 : Int32)) := by decide
    refine GoW.st (fun t k => XS.icmpYes X140.here hx rfl (pc0 := 237) (pc' := 254) rfl (hb hby at_237) rfl (flt hc237).2.1 (by decide) (by decide) (XS.iconst X140.here hx rfl (hb hby at_254) k)) ?_
    show GoW p e below QQ (T140.setTop (mkF m 255 #[.val (.long q1), .second, .val (.long q2), .second, .val (.long q3), .second, .val (.long q4), .second, .val (.int p5), .val (.int (2 : Int32)), .val (.int (1 : Int32)), .val (.ref b_22), .val (.ref b_33), .val (.ref b_42), .val (.int (3 : Int32)), .val (.ref b126)] [(.int (1 : Int32))]))
    exact GoW.fin X140 (some (.int (nar .boolean (1 : Int32)))) (fun q => by rw [hret] at q; cases q) hlk hQ rfl ⟨rfl, N140⟩ (by decide) (by decide) (fun fs hr => retN X140 hx (t := .boolean) hret (by simp) (hb hby at_255) hr)
  · skip
    show GoW p e below QQ (T0.setTop (mkF m 18 #[.val (.long q1), .second, .val (.long q2), .second, .val (.long q3), .second, .val (.long q4), .second, .val (.int p5), .val (.int (2 : Int32)), .val (.int (2 : Int32)), .unset, .unset, .unset, .unset, .unset] []))
    refine GoW.st (fun t k => XS.iload X0.here hx rfl (hb hby at_18) rfl (XS.lloadN X0.here hx rfl (hb hby at_20) rfl (XS.lloadN X0.here hx rfl (hb hby at_21) rfl k))) ?_
    show GoW p e below QQ (T0.setTop (mkF m 22 #[.val (.long q1), .second, .val (.long q2), .second, .val (.long q3), .second, .val (.long q4), .second, .val (.int p5), .val (.int (2 : Int32)), .val (.int (2 : Int32)), .unset, .unset, .unset, .unset, .unset] [(.long q2), (.long q1), (.int (2 : Int32))]))
    obtain ⟨_, _, ⟨T142, zL142, zk142, zn142⟩, -, X142, ⟨Lc142, hQ142, zl142, zy142, zz142⟩, st142⟩ := Jvm.LawKit.callS X0 hx (y := (⟨"com/example/hike/hike/HoldersMergePinLaw", "make", "(IJJ)[J"⟩ : MethodName)) hown (mvT hZ (hw _ (List.mem_of_getElem? (i := 0) rfl))) (mvT hZ (hw _ (List.mem_of_getElem? (i := 1) rfl))) (mvT hZ (hw _ (List.mem_of_getElem? (i := 2) rfl))) (mvT hZ (hw _ (List.mem_of_getElem? (i := 3) rfl))) (by decide) (backOf (W := 0) (rm1_2 l Z a0 hw [] q1 q2 h0 n0 (Nat.le_trans Z0 K0.1) ) hZ (hw _ (List.mem_of_getElem? (i := 3) rfl)) (hw _ (List.mem_of_getElem? (i := 2) rfl)) (by decide) (by decide)) (g := (mkF m 22 #[.val (.long q1), .second, .val (.long q2), .second, .val (.long q3), .second, .val (.long q4), .second, .val (.int p5), .val (.int (2 : Int32)), .val (.int (2 : Int32)), .unset, .unset, .unset, .unset, .unset] [(.long q2), (.long q1), (.int (2 : Int32))])) rfl (by rw [hml]; rfl) (argsL := [(.int (2 : Int32)), (.long q1), (.long q2)]) (rest := []) (lenOf pd_1 rfl) rfl (by show 2 * 0 + _ ≤ _; exact Nat.le_of_eq rfl) (hb hby at_22) (fun _ _ => ⟨rfl, e0, (by decide : 0 + 1 ≤ _), (by decide : 0 + 2 ≤ _)⟩)
    dsimp only [Pt.U, Pt.locs, Pt.cells, Pt.slots] at X142 zl142 zy142 zz142 st142 hQ142
    subst zl142 zy142 zz142
    obtain ⟨b_22, kb_22, rfl, Nq142, Kq142, p142_0, p142_1⟩ := hQ142
    have N142 := Fr.app N0 Nq142
    refine GoW.st st142 ?_
    have sz142_b_22 : h0.size ≤ b_22 := Nat.le_trans K0.1 p142_0
    have gg142_b_22 : n0 ≤ b_22 := Nat.le_trans Z0 sz142_b_22
    have K142 : Keep h0 T142.heap [] := K0.trans Kq142 all0
    show GoW p e below QQ (T142.setTop (mkF m 25 #[.val (.long q1), .second, .val (.long q2), .second, .val (.long q3), .second, .val (.long q4), .second, .val (.int p5), .val (.int (2 : Int32)), .val (.int (2 : Int32)), .unset, .unset, .unset, .unset, .unset] [(.ref b_22)]))
    refine GoW.st (fun t k => XS.astore X142.here hx rfl (hb hby at_25) rfl rfl (l' := #[.val (.long q1), .second, .val (.long q2), .second, .val (.long q3), .second, .val (.long q4), .second, .val (.int p5), .val (.int (2 : Int32)), .val (.int (2 : Int32)), .val (.ref b_22), .unset, .unset, .unset, .unset]) rfl (XS.iload X142.here hx rfl (hb hby at_27) rfl (XS.lload X142.here hx rfl (hb hby at_29) rfl (XS.lload X142.here hx rfl (hb hby at_31) rfl k)))) ?_
    show GoW p e below QQ (T142.setTop (mkF m 33 #[.val (.long q1), .second, .val (.long q2), .second, .val (.long q3), .second, .val (.long q4), .second, .val (.int p5), .val (.int (2 : Int32)), .val (.int (2 : Int32)), .val (.ref b_22), .unset, .unset, .unset, .unset] [(.long q4), (.long q3), (.int (2 : Int32))]))
    obtain ⟨_, _, ⟨T144, zL144, zk144, zn144⟩, -, X144, ⟨Lc144, hQ144, zl144, zy144, zz144⟩, st144⟩ := Jvm.LawKit.callS X142 hx (y := (⟨"com/example/hike/hike/HoldersMergePinLaw", "make", "(IJJ)[J"⟩ : MethodName)) hown (mvT hZ (hw _ (List.mem_of_getElem? (i := 0) rfl))) (mvT hZ (hw _ (List.mem_of_getElem? (i := 1) rfl))) (mvT hZ (hw _ (List.mem_of_getElem? (i := 2) rfl))) (mvT hZ (hw _ (List.mem_of_getElem? (i := 3) rfl))) (by decide) (backOf (W := 0) (rm1_2 l Z a0 hw [] q3 q4 T142.heap n0 (Nat.le_trans Z0 K142.1) ) hZ (hw _ (List.mem_of_getElem? (i := 3) rfl)) (hw _ (List.mem_of_getElem? (i := 2) rfl)) (by decide) (by decide)) (g := (mkF m 33 #[.val (.long q1), .second, .val (.long q2), .second, .val (.long q3), .second, .val (.long q4), .second, .val (.int p5), .val (.int (2 : Int32)), .val (.int (2 : Int32)), .val (.ref b_22), .unset, .unset, .unset, .unset] [(.long q4), (.long q3), (.int (2 : Int32))])) rfl (by rw [hml]; rfl) (argsL := [(.int (2 : Int32)), (.long q3), (.long q4)]) (rest := []) (lenOf pd_1 rfl) rfl (by show 2 * 0 + _ ≤ _; exact Nat.le_of_eq rfl) (hb hby at_33) (fun _ _ => ⟨rfl, rfl, (by decide : 1 + 1 ≤ _), (by decide : 2 + 2 ≤ _)⟩)
    dsimp only [Pt.U, Pt.locs, Pt.cells, Pt.slots] at X144 zl144 zy144 zz144 st144 hQ144
    subst zl144 zy144 zz144
    obtain ⟨b_33, kb_33, rfl, Nq144, Kq144, p144_0, p144_1⟩ := hQ144
    have N144 := Fr.app N142 Nq144
    refine GoW.st st144 ?_
    have ne144_b_22_b_33 : b_22 ≠ b_33 := Nat.ne_of_lt (Nat.lt_of_lt_of_le p142_1.lt p144_0)
    have sz144_b_33 : h0.size ≤ b_33 := Nat.le_trans K142.1 p144_0
    have gg144_b_33 : n0 ≤ b_33 := Nat.le_trans Z0 sz144_b_33
    have f145_V_b_22 : Arv Z T144.heap b_22 kb_22 .long (2 : Int32) [(.long (own_minL q1 q2)), (.long (own_maxL q1 q2))] (.long (0 : Int64)) := p142_1.keep Kq144 nin0
    have K144 : Keep h0 T144.heap [] := K142.trans Kq144 all0
    show GoW p e below QQ (T144.setTop (mkF m 36 #[.val (.long q1), .second, .val (.long q2), .second, .val (.long q3), .second, .val (.long q4), .second, .val (.int p5), .val (.int (2 : Int32)), .val (.int (2 : Int32)), .val (.ref b_22), .unset, .unset, .unset, .unset] [(.ref b_33)]))
    refine GoW.st (fun t k => XS.astore X144.here hx rfl (hb hby at_36) rfl rfl (l' := #[.val (.long q1), .second, .val (.long q2), .second, .val (.long q3), .second, .val (.long q4), .second, .val (.int p5), .val (.int (2 : Int32)), .val (.int (2 : Int32)), .val (.ref b_22), .val (.ref b_33), .unset, .unset, .unset]) rfl (XS.aload X144.here hx rfl (hb hby at_38) rfl rfl (XS.aload X144.here hx rfl (hb hby at_40) rfl rfl k))) ?_
    show GoW p e below QQ (T144.setTop (mkF m 42 #[.val (.long q1), .second, .val (.long q2), .second, .val (.long q3), .second, .val (.long q4), .second, .val (.int p5), .val (.int (2 : Int32)), .val (.int (2 : Int32)), .val (.ref b_22), .val (.ref b_33), .unset, .unset, .unset] [(.ref b_33), (.ref b_22)]))
    obtain ⟨_, _, ⟨T146, zL146, zk146, zn146⟩, -, X146, ⟨Lc146, hQ146, zl146, zy146, zz146⟩, st146⟩ := Jvm.LawKit.callS X144 hx (y := (⟨"com/example/hike/hike/Holders", "merge", "([J[J)[J"⟩ : MethodName)) hown (mvT hZ (hw _ (List.mem_of_getElem? (i := 5) rfl))) (mvT hZ (hw _ (List.mem_of_getElem? (i := 6) rfl))) (mvT hZ (hw _ (List.mem_of_getElem? (i := 7) rfl))) (mvT hZ (hw _ (List.mem_of_getElem? (i := 8) rfl))) (by decide) (backOf (W := 0) (rm2_22 l Z a0 hw [] b_22 b_33 kb_22 kb_33 (own_minL q1 q2) (own_maxL q1 q2) (own_minL q3 q4) (own_maxL q3 q4) T144.heap n0 (Nat.le_trans Z0 K144.1) f145_V_b_22 p144_1 (own_mm _ _) (own_mm _ _)) hZ (hw _ (List.mem_of_getElem? (i := 8) rfl)) (hw _ (List.mem_of_getElem? (i := 7) rfl)) (by decide) (by decide)) (g := (mkF m 42 #[.val (.long q1), .second, .val (.long q2), .second, .val (.long q3), .second, .val (.long q4), .second, .val (.int p5), .val (.int (2 : Int32)), .val (.int (2 : Int32)), .val (.ref b_22), .val (.ref b_33), .unset, .unset, .unset] [(.ref b_33), (.ref b_22)])) rfl (by rw [hml]; rfl) (argsL := [(.ref b_22), (.ref b_33)]) (rest := []) (lenOf pd_2 rfl) rfl (by show 2 * 0 + _ ≤ _; exact Nat.le_of_eq rfl) (hb hby at_42) (fun _ _ => ⟨rfl, rfl, (by decide : 2 + 1 ≤ _), (by decide : 4 + 4 ≤ _)⟩)
    dsimp only [Pt.U, Pt.locs, Pt.cells, Pt.slots] at X146 zl146 zy146 zz146 st146 hQ146
    subst zl146 zy146 zz146
    obtain ⟨b_42, kb_42, w0_42, w1_42, w2_42, w3_42, rfl, Nq146, Kq146, p146_0, p146_1, p146_2⟩ := hQ146
    have N146 := Fr.app N144 Nq146
    refine GoW.st st146 ?_
    have ne146_b_22_b_42 : b_22 ≠ b_42 := Nat.ne_of_lt (Nat.lt_of_lt_of_le f145_V_b_22.lt p146_0)
    have ne146_b_33_b_42 : b_33 ≠ b_42 := Nat.ne_of_lt (Nat.lt_of_lt_of_le p144_1.lt p146_0)
    have sz146_b_42 : h0.size ≤ b_42 := Nat.le_trans K144.1 p146_0
    have gg146_b_42 : n0 ≤ b_42 := Nat.le_trans Z0 sz146_b_42
    have f147_V_b_22 : Arv Z T146.heap b_22 kb_22 .long (2 : Int32) [(.long (own_minL q1 q2)), (.long (own_maxL q1 q2))] (.long (0 : Int64)) := f145_V_b_22.keep Kq146 nin0
    have f147_V_b_33 : Arv Z T146.heap b_33 kb_33 .long (2 : Int32) [(.long (own_minL q3 q4)), (.long (own_maxL q3 q4))] (.long (0 : Int64)) := p144_1.keep Kq146 nin0
    have K146 : Keep h0 T146.heap [] := K144.trans Kq146 all0
    have hw_42 := p146_2
    show GoW p e below QQ (T146.setTop (mkF m 45 #[.val (.long q1), .second, .val (.long q2), .second, .val (.long q3), .second, .val (.long q4), .second, .val (.int p5), .val (.int (2 : Int32)), .val (.int (2 : Int32)), .val (.ref b_22), .val (.ref b_33), .unset, .unset, .unset] [(.ref b_42)]))
    refine GoW.st (fun t k => XS.astore X146.here hx rfl (hb hby at_45) rfl rfl (l' := #[.val (.long q1), .second, .val (.long q2), .second, .val (.long q3), .second, .val (.long q4), .second, .val (.int p5), .val (.int (2 : Int32)), .val (.int (2 : Int32)), .val (.ref b_22), .val (.ref b_33), .val (.ref b_42), .unset, .unset]) rfl (XS.iload X146.here hx rfl (hb hby at_47) rfl (XS.iload X146.here hx rfl (hb hby at_49) rfl (XS.iadd X146.here hx rfl (hb hby at_51) rfl (XS.istore X146.here hx rfl (hb hby at_52) rfl (l' := #[.val (.long q1), .second, .val (.long q2), .second, .val (.long q3), .second, .val (.long q4), .second, .val (.int p5), .val (.int (2 : Int32)), .val (.int (2 : Int32)), .val (.ref b_22), .val (.ref b_33), .val (.ref b_42), .val (.int (4 : Int32)), .unset]) rfl (XS.aload X146.here hx rfl (hb hby at_54) rfl rfl k)))))) ?_
    show GoW p e below QQ (T146.setTop (mkF m 56 #[.val (.long q1), .second, .val (.long q2), .second, .val (.long q3), .second, .val (.long q4), .second, .val (.int p5), .val (.int (2 : Int32)), .val (.int (2 : Int32)), .val (.ref b_22), .val (.ref b_33), .val (.ref b_42), .val (.int (4 : Int32)), .unset] [(.ref b_42)]))
    refine GoW.st (fun t k => lnV X146 hx hZ rfl p146_1 (g := (mkF m 56 #[.val (.long q1), .second, .val (.long q2), .second, .val (.long q3), .second, .val (.long q4), .second, .val (.int p5), .val (.int (2 : Int32)), .val (.int (2 : Int32)), .val (.ref b_22), .val (.ref b_33), .val (.ref b_42), .val (.int (4 : Int32)), .unset] [(.ref b_42)])) rfl rfl (hb hby at_56) t (XS.iload X146.here hx rfl (hb hby at_57) rfl k)) ?_
    show GoW p e below QQ (T146.setTop (mkF m 59 #[.val (.long q1), .second, .val (.long q2), .second, .val (.long q3), .second, .val (.long q4), .second, .val (.int p5), .val (.int (2 : Int32)), .val (.int (2 : Int32)), .val (.ref b_22), .val (.ref b_33), .val (.ref b_42), .val (.int (4 : Int32)), .unset] [(.int (4 : Int32)), (.int (4 : Int32))]))
    have hc59 : (4 : Int32) = (4 : Int32) := by decide
    refine GoW.st (fun t k => XS.icmpYes X146.here hx rfl (pc0 := 59) (pc' := 64) rfl (hb hby at_59) rfl (teq hc59).1 (by decide) (by decide) (XS.iconst X146.here hx rfl (hb hby at_64) k)) ?_
    show GoW p e below QQ (T146.setTop (mkF m 65 #[.val (.long q1), .second, .val (.long q2), .second, .val (.long q3), .second, .val (.long q4), .second, .val (.int p5), .val (.int (2 : Int32)), .val (.int (2 : Int32)), .val (.ref b_22), .val (.ref b_33), .val (.ref b_42), .val (.int (4 : Int32)), .unset] [(.int (4 : Int32))]))
    obtain ⟨T148, h148, k148, X148, e148, E148, A148, st148⟩ := newP X146 hx hZ (hw _ (List.mem_of_getElem? (i := 4) rfl)) rfl (g := (mkF m 65 #[.val (.long q1), .second, .val (.long q2), .second, .val (.long q3), .second, .val (.long q4), .second, .val (.int p5), .val (.int (2 : Int32)), .val (.int (2 : Int32)), .val (.ref b_22), .val (.ref b_33), .val (.ref b_42), .val (.int (4 : Int32)), .unset] [(.int (4 : Int32))])) rfl (hb hby at_65) rfl (by decide) (cap := 4) (by decide) (by decide) (by decide) (by decide)
    obtain ⟨b148, g148⟩ : ∃ z, z = T146.heap.size := ⟨_, rfl⟩
    rw [← g148] at A148 st148
    refine GoW.st st148 ?_
    have gg148 : n0 ≤ b148 := Nat.le_trans (Nat.le_trans Z0 K146.1) (Nat.le_of_eq g148.symm)
    have sz148 : h0.size ≤ b148 := Nat.le_trans K146.1 (Nat.le_of_eq g148.symm)
    have ne148_b_22 : b_22 ≠ b148 := Nat.ne_of_lt (Nat.lt_of_lt_of_le f147_V_b_22.lt (Nat.le_of_eq g148.symm))
    have ne148_b_33 : b_33 ≠ b148 := Nat.ne_of_lt (Nat.lt_of_lt_of_le f147_V_b_33.lt (Nat.le_of_eq g148.symm))
    have ne148_b_42 : b_42 ≠ b148 := Nat.ne_of_lt (Nat.lt_of_lt_of_le p146_1.lt (Nat.le_of_eq g148.symm))
    have f149_V_b_22 : Arv Z h148 b_22 kb_22 .long (2 : Int32) [(.long (own_minL q1 q2)), (.long (own_maxL q1 q2))] (.long (0 : Int64)) := f147_V_b_22.ext E148
    have f149_V_b_33 : Arv Z h148 b_33 kb_33 .long (2 : Int32) [(.long (own_minL q3 q4)), (.long (own_maxL q3 q4))] (.long (0 : Int64)) := f147_V_b_33.ext E148
    have f149_V_b_42 : Arv Z h148 b_42 kb_42 .long (4 : Int32) [(.long w0_42), (.long w1_42), (.long w2_42), (.long w3_42)] (.long (0 : Int64)) := p146_1.ext E148
    have K148 : Keep h0 h148 [] := K146.ext E148
    have V148 : Arv Z h148 b148 k148 .long (4 : Int32) [(.long (0 : Int64)), (.long (0 : Int64)), (.long (0 : Int64)), (.long (0 : Int64))] (.long (0 : Int64)) := (Arv.new A148 (by decide)).pad (pad_rep [] (.long (0 : Int64)) 4)
    show GoW p e below QQ (T148.setTop (mkF m 67 #[.val (.long q1), .second, .val (.long q2), .second, .val (.long q3), .second, .val (.long q4), .second, .val (.int p5), .val (.int (2 : Int32)), .val (.int (2 : Int32)), .val (.ref b_22), .val (.ref b_33), .val (.ref b_42), .val (.int (4 : Int32)), .unset] [(.ref b148)]))
    refine GoW.st (fun t k => XS.astore X148.here hx rfl (hb hby at_67) rfl rfl (l' := #[.val (.long q1), .second, .val (.long q2), .second, .val (.long q3), .second, .val (.long q4), .second, .val (.int p5), .val (.int (2 : Int32)), .val (.int (2 : Int32)), .val (.ref b_22), .val (.ref b_33), .val (.ref b_42), .val (.int (4 : Int32)), .val (.ref b148)]) rfl (XS.iload X148.here hx rfl (hb hby at_69) rfl (XS.iconst X148.here hx rfl (hb hby at_71) k))) ?_
    show GoW p e below QQ (T148.setTop (mkF m 72 #[.val (.long q1), .second, .val (.long q2), .second, .val (.long q3), .second, .val (.long q4), .second, .val (.int p5), .val (.int (2 : Int32)), .val (.int (2 : Int32)), .val (.ref b_22), .val (.ref b_33), .val (.ref b_42), .val (.int (4 : Int32)), .val (.ref b148)] [(.int (1 : Int32)), (.int (2 : Int32))]))
    have hc72 : ¬ ((2 : Int32) < (1 : Int32)) := by decide
    refine GoW.st (fun t k => XS.icmpNo X148.here hx rfl (hb hby at_72) rfl (flt hc72).1 (XS.aload X148.here hx rfl (hb hby at_75) rfl rfl (XS.iconst X148.here hx rfl (hb hby at_77) (XS.aload X148.here hx rfl (hb hby at_78) rfl rfl (XS.iconst X148.here hx rfl (hb hby at_80) (ldVJ X148 hx hZ e148 f149_V_b_22 (v := (.long (own_minL q1 q2))) ⟨by decide, by decide⟩ rfl (g := (mkF m 81 #[.val (.long q1), .second, .val (.long q2), .second, .val (.long q3), .second, .val (.long q4), .second, .val (.int p5), .val (.int (2 : Int32)), .val (.int (2 : Int32)), .val (.ref b_22), .val (.ref b_33), .val (.ref b_42), .val (.int (4 : Int32)), .val (.ref b148)] [(.int (0 : Int32)), (.ref b_22), (.int (0 : Int32)), (.ref b148)])) rfl rfl (hb hby at_81) t k)))))) ?_
    show GoW p e below QQ (T148.setTop (mkF m 82 #[.val (.long q1), .second, .val (.long q2), .second, .val (.long q3), .second, .val (.long q4), .second, .val (.int p5), .val (.int (2 : Int32)), .val (.int (2 : Int32)), .val (.ref b_22), .val (.ref b_33), .val (.ref b_42), .val (.int (4 : Int32)), .val (.ref b148)] [(.long (own_minL q1 q2)), (.int (0 : Int32)), (.ref b148)]))
    obtain ⟨T150, h150, X150, e150, W150, V150, st150⟩ := stVJ X148 hx hZ e148 V148 ⟨by decide, by decide⟩ 0 rfl (Nat.le_of_ble_eq_true rfl) (g := (mkF m 82 #[.val (.long q1), .second, .val (.long q2), .second, .val (.long q3), .second, .val (.long q4), .second, .val (.int p5), .val (.int (2 : Int32)), .val (.int (2 : Int32)), .val (.ref b_22), .val (.ref b_33), .val (.ref b_42), .val (.int (4 : Int32)), .val (.ref b148)] [(.long (own_minL q1 q2)), (.int (0 : Int32)), (.ref b148)])) rfl rfl (hb hby at_82)
    refine GoW.st st150 ?_
    have f151_V_b_22 : Arv Z h150 b_22 kb_22 .long (2 : Int32) [(.long (own_minL q1 q2)), (.long (own_maxL q1 q2))] (.long (0 : Int64)) := f149_V_b_22.other W150 ne148_b_22
    have f151_V_b_33 : Arv Z h150 b_33 kb_33 .long (2 : Int32) [(.long (own_minL q3 q4)), (.long (own_maxL q3 q4))] (.long (0 : Int64)) := f149_V_b_33.other W150 ne148_b_33
    have f151_V_b_42 : Arv Z h150 b_42 kb_42 .long (4 : Int32) [(.long w0_42), (.long w1_42), (.long w2_42), (.long w3_42)] (.long (0 : Int64)) := f149_V_b_42.other W150 ne148_b_42
    have f151_V_b148 : Arv Z h150 b148 k148 .long (4 : Int32) [(.long (own_minL q1 q2)), (.long (0 : Int64)), (.long (0 : Int64)), (.long (0 : Int64))] (.long (0 : Int64)) := V150
    have K150 : Keep h0 h150 [] := K148.wr W150 (Or.inr sz148)
    have N150 := Fr.snoc X150 N146 gg148
    show GoW p e below QQ (T150.setTop (mkF m 83 #[.val (.long q1), .second, .val (.long q2), .second, .val (.long q3), .second, .val (.long q4), .second, .val (.int p5), .val (.int (2 : Int32)), .val (.int (2 : Int32)), .val (.ref b_22), .val (.ref b_33), .val (.ref b_42), .val (.int (4 : Int32)), .val (.ref b148)] []))
    refine GoW.st (fun t k => XS.iload X150.here hx rfl (hb hby at_83) rfl (XS.iconst X150.here hx rfl (hb hby at_85) k)) ?_
    show GoW p e below QQ (T150.setTop (mkF m 86 #[.val (.long q1), .second, .val (.long q2), .second, .val (.long q3), .second, .val (.long q4), .second, .val (.int p5), .val (.int (2 : Int32)), .val (.int (2 : Int32)), .val (.ref b_22), .val (.ref b_33), .val (.ref b_42), .val (.int (4 : Int32)), .val (.ref b148)] [(.int (2 : Int32)), (.int (2 : Int32))]))
    have hc86 : (2 : Int32) = (2 : Int32) := by decide
    refine GoW.st (fun t k => XS.icmpNo X150.here hx rfl (hb hby at_86) rfl (teq hc86).2 (XS.aload X150.here hx rfl (hb hby at_89) rfl rfl (XS.iconst X150.here hx rfl (hb hby at_91) (XS.aload X150.here hx rfl (hb hby at_92) rfl rfl (XS.iconst X150.here hx rfl (hb hby at_94) (ldVJ X150 hx hZ e150 f151_V_b_22 (v := (.long (own_maxL q1 q2))) ⟨by decide, by decide⟩ rfl (g := (mkF m 95 #[.val (.long q1), .second, .val (.long q2), .second, .val (.long q3), .second, .val (.long q4), .second, .val (.int p5), .val (.int (2 : Int32)), .val (.int (2 : Int32)), .val (.ref b_22), .val (.ref b_33), .val (.ref b_42), .val (.int (4 : Int32)), .val (.ref b148)] [(.int (1 : Int32)), (.ref b_22), (.int (1 : Int32)), (.ref b148)])) rfl rfl (hb hby at_95) t k)))))) ?_
    show GoW p e below QQ (T150.setTop (mkF m 96 #[.val (.long q1), .second, .val (.long q2), .second, .val (.long q3), .second, .val (.long q4), .second, .val (.int p5), .val (.int (2 : Int32)), .val (.int (2 : Int32)), .val (.ref b_22), .val (.ref b_33), .val (.ref b_42), .val (.int (4 : Int32)), .val (.ref b148)] [(.long (own_maxL q1 q2)), (.int (1 : Int32)), (.ref b148)]))
    obtain ⟨T152, h152, X152, e152, W152, V152, st152⟩ := stVJ X150 hx hZ e150 f151_V_b148 ⟨by decide, by decide⟩ 1 rfl (Nat.le_of_ble_eq_true rfl) (g := (mkF m 96 #[.val (.long q1), .second, .val (.long q2), .second, .val (.long q3), .second, .val (.long q4), .second, .val (.int p5), .val (.int (2 : Int32)), .val (.int (2 : Int32)), .val (.ref b_22), .val (.ref b_33), .val (.ref b_42), .val (.int (4 : Int32)), .val (.ref b148)] [(.long (own_maxL q1 q2)), (.int (1 : Int32)), (.ref b148)])) rfl rfl (hb hby at_96)
    refine GoW.st st152 ?_
    have f153_V_b_22 : Arv Z h152 b_22 kb_22 .long (2 : Int32) [(.long (own_minL q1 q2)), (.long (own_maxL q1 q2))] (.long (0 : Int64)) := f151_V_b_22.other W152 ne148_b_22
    have f153_V_b_33 : Arv Z h152 b_33 kb_33 .long (2 : Int32) [(.long (own_minL q3 q4)), (.long (own_maxL q3 q4))] (.long (0 : Int64)) := f151_V_b_33.other W152 ne148_b_33
    have f153_V_b_42 : Arv Z h152 b_42 kb_42 .long (4 : Int32) [(.long w0_42), (.long w1_42), (.long w2_42), (.long w3_42)] (.long (0 : Int64)) := f151_V_b_42.other W152 ne148_b_42
    have f153_V_b148 : Arv Z h152 b148 k148 .long (4 : Int32) [(.long (own_minL q1 q2)), (.long (own_maxL q1 q2)), (.long (0 : Int64)), (.long (0 : Int64))] (.long (0 : Int64)) := V152
    have K152 : Keep h0 h152 [] := K150.wr W152 (Or.inr sz148)
    have N152 := Fr.snoc X152 N150 gg148
    show GoW p e below QQ (T152.setTop (mkF m 97 #[.val (.long q1), .second, .val (.long q2), .second, .val (.long q3), .second, .val (.long q4), .second, .val (.int p5), .val (.int (2 : Int32)), .val (.int (2 : Int32)), .val (.ref b_22), .val (.ref b_33), .val (.ref b_42), .val (.int (4 : Int32)), .val (.ref b148)] []))
    refine GoW.st (fun t k => XS.iload X152.here hx rfl (hb hby at_97) rfl (XS.iconst X152.here hx rfl (hb hby at_99) k)) ?_
    show GoW p e below QQ (T152.setTop (mkF m 100 #[.val (.long q1), .second, .val (.long q2), .second, .val (.long q3), .second, .val (.long q4), .second, .val (.int p5), .val (.int (2 : Int32)), .val (.int (2 : Int32)), .val (.ref b_22), .val (.ref b_33), .val (.ref b_42), .val (.int (4 : Int32)), .val (.ref b148)] [(.int (1 : Int32)), (.int (2 : Int32))]))
    have hc100 : ¬ ((2 : Int32) < (1 : Int32)) := by decide
    refine GoW.st (fun t k => XS.icmpNo X152.here hx rfl (hb hby at_100) rfl (flt hc100).1 (XS.aload X152.here hx rfl (hb hby at_103) rfl rfl (XS.iload X152.here hx rfl (hb hby at_105) rfl (XS.aload X152.here hx rfl (hb hby at_107) rfl rfl (XS.iconst X152.here hx rfl (hb hby at_109) (ldVJ X152 hx hZ e152 f153_V_b_33 (v := (.long (own_minL q3 q4))) ⟨by decide, by decide⟩ rfl (g := (mkF m 110 #[.val (.long q1), .second, .val (.long q2), .second, .val (.long q3), .second, .val (.long q4), .second, .val (.int p5), .val (.int (2 : Int32)), .val (.int (2 : Int32)), .val (.ref b_22), .val (.ref b_33), .val (.ref b_42), .val (.int (4 : Int32)), .val (.ref b148)] [(.int (0 : Int32)), (.ref b_33), (.int (2 : Int32)), (.ref b148)])) rfl rfl (hb hby at_110) t k)))))) ?_
    show GoW p e below QQ (T152.setTop (mkF m 111 #[.val (.long q1), .second, .val (.long q2), .second, .val (.long q3), .second, .val (.long q4), .second, .val (.int p5), .val (.int (2 : Int32)), .val (.int (2 : Int32)), .val (.ref b_22), .val (.ref b_33), .val (.ref b_42), .val (.int (4 : Int32)), .val (.ref b148)] [(.long (own_minL q3 q4)), (.int (2 : Int32)), (.ref b148)]))
    obtain ⟨T154, h154, X154, e154, W154, V154, st154⟩ := stVJ X152 hx hZ e152 f153_V_b148 ⟨by decide, by decide⟩ 2 rfl (Nat.le_of_ble_eq_true rfl) (g := (mkF m 111 #[.val (.long q1), .second, .val (.long q2), .second, .val (.long q3), .second, .val (.long q4), .second, .val (.int p5), .val (.int (2 : Int32)), .val (.int (2 : Int32)), .val (.ref b_22), .val (.ref b_33), .val (.ref b_42), .val (.int (4 : Int32)), .val (.ref b148)] [(.long (own_minL q3 q4)), (.int (2 : Int32)), (.ref b148)])) rfl rfl (hb hby at_111)
    refine GoW.st st154 ?_
    have f155_V_b_22 : Arv Z h154 b_22 kb_22 .long (2 : Int32) [(.long (own_minL q1 q2)), (.long (own_maxL q1 q2))] (.long (0 : Int64)) := f153_V_b_22.other W154 ne148_b_22
    have f155_V_b_33 : Arv Z h154 b_33 kb_33 .long (2 : Int32) [(.long (own_minL q3 q4)), (.long (own_maxL q3 q4))] (.long (0 : Int64)) := f153_V_b_33.other W154 ne148_b_33
    have f155_V_b_42 : Arv Z h154 b_42 kb_42 .long (4 : Int32) [(.long w0_42), (.long w1_42), (.long w2_42), (.long w3_42)] (.long (0 : Int64)) := f153_V_b_42.other W154 ne148_b_42
    have f155_V_b148 : Arv Z h154 b148 k148 .long (4 : Int32) [(.long (own_minL q1 q2)), (.long (own_maxL q1 q2)), (.long (own_minL q3 q4)), (.long (0 : Int64))] (.long (0 : Int64)) := V154
    have K154 : Keep h0 h154 [] := K152.wr W154 (Or.inr sz148)
    have N154 := Fr.snoc X154 N152 gg148
    show GoW p e below QQ (T154.setTop (mkF m 112 #[.val (.long q1), .second, .val (.long q2), .second, .val (.long q3), .second, .val (.long q4), .second, .val (.int p5), .val (.int (2 : Int32)), .val (.int (2 : Int32)), .val (.ref b_22), .val (.ref b_33), .val (.ref b_42), .val (.int (4 : Int32)), .val (.ref b148)] []))
    refine GoW.st (fun t k => XS.iload X154.here hx rfl (hb hby at_112) rfl (XS.iconst X154.here hx rfl (hb hby at_114) k)) ?_
    show GoW p e below QQ (T154.setTop (mkF m 115 #[.val (.long q1), .second, .val (.long q2), .second, .val (.long q3), .second, .val (.long q4), .second, .val (.int p5), .val (.int (2 : Int32)), .val (.int (2 : Int32)), .val (.ref b_22), .val (.ref b_33), .val (.ref b_42), .val (.int (4 : Int32)), .val (.ref b148)] [(.int (2 : Int32)), (.int (2 : Int32))]))
    have hc115 : (2 : Int32) = (2 : Int32) := by decide
    refine GoW.st (fun t k => XS.icmpNo X154.here hx rfl (hb hby at_115) rfl (teq hc115).2 (XS.aload X154.here hx rfl (hb hby at_118) rfl rfl (XS.iload X154.here hx rfl (hb hby at_120) rfl (XS.iconst X154.here hx rfl (hb hby at_122) (XS.iadd X154.here hx rfl (hb hby at_123) rfl (XS.aload X154.here hx rfl (hb hby at_124) rfl rfl k)))))) ?_
    show GoW p e below QQ (T154.setTop (mkF m 126 #[.val (.long q1), .second, .val (.long q2), .second, .val (.long q3), .second, .val (.long q4), .second, .val (.int p5), .val (.int (2 : Int32)), .val (.int (2 : Int32)), .val (.ref b_22), .val (.ref b_33), .val (.ref b_42), .val (.int (4 : Int32)), .val (.ref b148)] [(.ref b_33), (.int (3 : Int32)), (.ref b148)]))
    refine GoW.st (fun t k => XS.iconst X154.here hx rfl (hb hby at_126) (ldVJ X154 hx hZ e154 f155_V_b_33 (v := (.long (own_maxL q3 q4))) ⟨by decide, by decide⟩ rfl (g := (mkF m 127 #[.val (.long q1), .second, .val (.long q2), .second, .val (.long q3), .second, .val (.long q4), .second, .val (.int p5), .val (.int (2 : Int32)), .val (.int (2 : Int32)), .val (.ref b_22), .val (.ref b_33), .val (.ref b_42), .val (.int (4 : Int32)), .val (.ref b148)] [(.int (1 : Int32)), (.ref b_33), (.int (3 : Int32)), (.ref b148)])) rfl rfl (hb hby at_127) t k)) ?_
    show GoW p e below QQ (T154.setTop (mkF m 128 #[.val (.long q1), .second, .val (.long q2), .second, .val (.long q3), .second, .val (.long q4), .second, .val (.int p5), .val (.int (2 : Int32)), .val (.int (2 : Int32)), .val (.ref b_22), .val (.ref b_33), .val (.ref b_42), .val (.int (4 : Int32)), .val (.ref b148)] [(.long (own_maxL q3 q4)), (.int (3 : Int32)), (.ref b148)]))
    obtain ⟨T156, h156, X156, e156, W156, V156, st156⟩ := stVJ X154 hx hZ e154 f155_V_b148 ⟨by decide, by decide⟩ 3 rfl (Nat.le_of_ble_eq_true rfl) (g := (mkF m 128 #[.val (.long q1), .second, .val (.long q2), .second, .val (.long q3), .second, .val (.long q4), .second, .val (.int p5), .val (.int (2 : Int32)), .val (.int (2 : Int32)), .val (.ref b_22), .val (.ref b_33), .val (.ref b_42), .val (.int (4 : Int32)), .val (.ref b148)] [(.long (own_maxL q3 q4)), (.int (3 : Int32)), (.ref b148)])) rfl rfl (hb hby at_128)
    refine GoW.st st156 ?_
    have f157_V_b_22 : Arv Z h156 b_22 kb_22 .long (2 : Int32) [(.long (own_minL q1 q2)), (.long (own_maxL q1 q2))] (.long (0 : Int64)) := f155_V_b_22.other W156 ne148_b_22
    have f157_V_b_33 : Arv Z h156 b_33 kb_33 .long (2 : Int32) [(.long (own_minL q3 q4)), (.long (own_maxL q3 q4))] (.long (0 : Int64)) := f155_V_b_33.other W156 ne148_b_33
    have f157_V_b_42 : Arv Z h156 b_42 kb_42 .long (4 : Int32) [(.long w0_42), (.long w1_42), (.long w2_42), (.long w3_42)] (.long (0 : Int64)) := f155_V_b_42.other W156 ne148_b_42
    have f157_V_b148 : Arv Z h156 b148 k148 .long (4 : Int32) [(.long (own_minL q1 q2)), (.long (own_maxL q1 q2)), (.long (own_minL q3 q4)), (.long (own_maxL q3 q4))] (.long (0 : Int64)) := V156
    have K156 : Keep h0 h156 [] := K154.wr W156 (Or.inr sz148)
    have N156 := Fr.snoc X156 N154 gg148
    show GoW p e below QQ (T156.setTop (mkF m 129 #[.val (.long q1), .second, .val (.long q2), .second, .val (.long q3), .second, .val (.long q4), .second, .val (.int p5), .val (.int (2 : Int32)), .val (.int (2 : Int32)), .val (.ref b_22), .val (.ref b_33), .val (.ref b_42), .val (.int (4 : Int32)), .val (.ref b148)] []))
    have so1 := own_mm q1 q2
    have so2 := own_mm q3 q4
    refine GoW.st (fun t k => XS.aload X156.here hx rfl (hb hby at_129) rfl rfl (XS.iload X156.here hx rfl (hb hby at_131) rfl (XS.iconst X156.here hx rfl (hb hby at_133) (XS.iconst X156.here hx rfl (hb hby at_134) k)))) ?_
    show GoW p e below QQ (T156.setTop (mkF m 135 #[.val (.long q1), .second, .val (.long q2), .second, .val (.long q3), .second, .val (.long q4), .second, .val (.int p5), .val (.int (2 : Int32)), .val (.int (2 : Int32)), .val (.ref b_22), .val (.ref b_33), .val (.ref b_42), .val (.int (4 : Int32)), .val (.ref b148)] [(.int (1 : Int32)), (.int (0 : Int32)), (.int (4 : Int32)), (.ref b148)]))
    obtain ⟨_, _, ⟨T158, zL158, zk158, zn158⟩, -, X158, ⟨Lc158, hQ158, zl158, zy158, zz158⟩, st158⟩ := Jvm.LawKit.callS X156 hx (y := (⟨"com/example/hike/hike/HoldersMergePinLaw", "cx", "([JIII)V"⟩ : MethodName)) hown (mvT hZ (hw _ (List.mem_of_getElem? (i := 9) rfl))) (mvT hZ (hw _ (List.mem_of_getElem? (i := 10) rfl))) (mvT hZ (hw _ (List.mem_of_getElem? (i := 2) rfl))) (mvT hZ (hw _ (List.mem_of_getElem? (i := 11) rfl))) (by decide) (backOf (W := 0) (rm3_401 l Z a0 hw [] b148 k148 (own_minL q1 q2) (own_maxL q1 q2) (own_minL q3 q4) (own_maxL q3 q4) h156 n0 (Nat.le_trans Z0 K156.1) f157_V_b148 gg148) hZ (hw _ (List.mem_of_getElem? (i := 11) rfl)) (hw _ (List.mem_of_getElem? (i := 2) rfl)) (by decide) (by decide)) (g := (mkF m 135 #[.val (.long q1), .second, .val (.long q2), .second, .val (.long q3), .second, .val (.long q4), .second, .val (.int p5), .val (.int (2 : Int32)), .val (.int (2 : Int32)), .val (.ref b_22), .val (.ref b_33), .val (.ref b_42), .val (.int (4 : Int32)), .val (.ref b148)] [(.int (1 : Int32)), (.int (0 : Int32)), (.int (4 : Int32)), (.ref b148)])) rfl (by rw [hml]; rfl) (argsL := [(.ref b148), (.int (4 : Int32)), (.int (0 : Int32)), (.int (1 : Int32))]) (rest := []) (lenOf pd_3 rfl) rfl (by show 2 * 0 + _ ≤ _; exact Nat.le_of_eq rfl) (hb hby at_135) (fun _ _ => ⟨rfl, e156, (by decide : 4 + 0 ≤ _), (by decide : 12 + 0 ≤ _)⟩)
    dsimp only [Pt.U, Pt.locs, Pt.cells, Pt.slots] at X158 zl158 zy158 zz158 st158 hQ158
    subst zl158 zy158 zz158
    obtain ⟨wa_135, wb_135, rfl, Nq158, Kq158, p158_0, p158_1⟩ := hQ158
    have N158 := Fr.app N156 Nq158
    refine GoW.st st158 ?_
    have f159_V_b_42 : Arv Z T158.heap b_42 kb_42 .long (4 : Int32) [(.long w0_42), (.long w1_42), (.long w2_42), (.long w3_42)] (.long (0 : Int64)) := f157_V_b_42.keep Kq158 (ninS ne148_b_42 nin0)
    have K158 : Keep h0 T158.heap [] := K156.trans Kq158 (allS (Or.inr sz148) all0)
    have hs_135 := p158_1
    show GoW p e below QQ (T158.setTop (mkF m 138 #[.val (.long q1), .second, .val (.long q2), .second, .val (.long q3), .second, .val (.long q4), .second, .val (.int p5), .val (.int (2 : Int32)), .val (.int (2 : Int32)), .val (.ref b_22), .val (.ref b_33), .val (.ref b_42), .val (.int (4 : Int32)), .val (.ref b148)] []))
    refine GoW.st (fun t k => XS.aload X158.here hx rfl (hb hby at_138) rfl rfl (XS.iload X158.here hx rfl (hb hby at_140) rfl (XS.iconst X158.here hx rfl (hb hby at_142) (XS.iconst X158.here hx rfl (hb hby at_143) k)))) ?_
    show GoW p e below QQ (T158.setTop (mkF m 144 #[.val (.long q1), .second, .val (.long q2), .second, .val (.long q3), .second, .val (.long q4), .second, .val (.int p5), .val (.int (2 : Int32)), .val (.int (2 : Int32)), .val (.ref b_22), .val (.ref b_33), .val (.ref b_42), .val (.int (4 : Int32)), .val (.ref b148)] [(.int (3 : Int32)), (.int (2 : Int32)), (.int (4 : Int32)), (.ref b148)]))
    obtain ⟨_, _, ⟨T160, zL160, zk160, zn160⟩, -, X160, ⟨Lc160, hQ160, zl160, zy160, zz160⟩, st160⟩ := Jvm.LawKit.callS X158 hx (y := (⟨"com/example/hike/hike/HoldersMergePinLaw", "cx", "([JIII)V"⟩ : MethodName)) hown (mvT hZ (hw _ (List.mem_of_getElem? (i := 9) rfl))) (mvT hZ (hw _ (List.mem_of_getElem? (i := 10) rfl))) (mvT hZ (hw _ (List.mem_of_getElem? (i := 2) rfl))) (mvT hZ (hw _ (List.mem_of_getElem? (i := 11) rfl))) (by decide) (backOf (W := 0) (rm3_423 l Z a0 hw [] b148 k148 wa_135 wb_135 (own_minL q3 q4) (own_maxL q3 q4) T158.heap n0 (Nat.le_trans Z0 K158.1) p158_0 gg148) hZ (hw _ (List.mem_of_getElem? (i := 11) rfl)) (hw _ (List.mem_of_getElem? (i := 2) rfl)) (by decide) (by decide)) (g := (mkF m 144 #[.val (.long q1), .second, .val (.long q2), .second, .val (.long q3), .second, .val (.long q4), .second, .val (.int p5), .val (.int (2 : Int32)), .val (.int (2 : Int32)), .val (.ref b_22), .val (.ref b_33), .val (.ref b_42), .val (.int (4 : Int32)), .val (.ref b148)] [(.int (3 : Int32)), (.int (2 : Int32)), (.int (4 : Int32)), (.ref b148)])) rfl (by rw [hml]; rfl) (argsL := [(.ref b148), (.int (4 : Int32)), (.int (2 : Int32)), (.int (3 : Int32))]) (rest := []) (lenOf pd_3 rfl) rfl (by show 2 * 0 + _ ≤ _; exact Nat.le_of_eq rfl) (hb hby at_144) (fun _ _ => ⟨rfl, rfl, (by decide : 4 + 0 ≤ _), (by decide : 12 + 0 ≤ _)⟩)
    dsimp only [Pt.U, Pt.locs, Pt.cells, Pt.slots] at X160 zl160 zy160 zz160 st160 hQ160
    subst zl160 zy160 zz160
    obtain ⟨wa_144, wb_144, rfl, Nq160, Kq160, p160_0, p160_1⟩ := hQ160
    have N160 := Fr.app N158 Nq160
    refine GoW.st st160 ?_
    have f161_V_b_42 : Arv Z T160.heap b_42 kb_42 .long (4 : Int32) [(.long w0_42), (.long w1_42), (.long w2_42), (.long w3_42)] (.long (0 : Int64)) := f159_V_b_42.keep Kq160 (ninS ne148_b_42 nin0)
    have K160 : Keep h0 T160.heap [] := K158.trans Kq160 (allS (Or.inr sz148) all0)
    have hs_144 := p160_1
    show GoW p e below QQ (T160.setTop (mkF m 147 #[.val (.long q1), .second, .val (.long q2), .second, .val (.long q3), .second, .val (.long q4), .second, .val (.int p5), .val (.int (2 : Int32)), .val (.int (2 : Int32)), .val (.ref b_22), .val (.ref b_33), .val (.ref b_42), .val (.int (4 : Int32)), .val (.ref b148)] []))
    refine GoW.st (fun t k => XS.aload X160.here hx rfl (hb hby at_147) rfl rfl (XS.iload X160.here hx rfl (hb hby at_149) rfl (XS.iconst X160.here hx rfl (hb hby at_151) (XS.iconst X160.here hx rfl (hb hby at_152) k)))) ?_
    show GoW p e below QQ (T160.setTop (mkF m 153 #[.val (.long q1), .second, .val (.long q2), .second, .val (.long q3), .second, .val (.long q4), .second, .val (.int p5), .val (.int (2 : Int32)), .val (.int (2 : Int32)), .val (.ref b_22), .val (.ref b_33), .val (.ref b_42), .val (.int (4 : Int32)), .val (.ref b148)] [(.int (2 : Int32)), (.int (0 : Int32)), (.int (4 : Int32)), (.ref b148)]))
    obtain ⟨_, _, ⟨T162, zL162, zk162, zn162⟩, -, X162, ⟨Lc162, hQ162, zl162, zy162, zz162⟩, st162⟩ := Jvm.LawKit.callS X160 hx (y := (⟨"com/example/hike/hike/HoldersMergePinLaw", "cx", "([JIII)V"⟩ : MethodName)) hown (mvT hZ (hw _ (List.mem_of_getElem? (i := 9) rfl))) (mvT hZ (hw _ (List.mem_of_getElem? (i := 10) rfl))) (mvT hZ (hw _ (List.mem_of_getElem? (i := 2) rfl))) (mvT hZ (hw _ (List.mem_of_getElem? (i := 11) rfl))) (by decide) (backOf (W := 0) (rm3_402 l Z a0 hw [] b148 k148 wa_135 wb_135 wa_144 wb_144 T160.heap n0 (Nat.le_trans Z0 K160.1) p160_0 gg148) hZ (hw _ (List.mem_of_getElem? (i := 11) rfl)) (hw _ (List.mem_of_getElem? (i := 2) rfl)) (by decide) (by decide)) (g := (mkF m 153 #[.val (.long q1), .second, .val (.long q2), .second, .val (.long q3), .second, .val (.long q4), .second, .val (.int p5), .val (.int (2 : Int32)), .val (.int (2 : Int32)), .val (.ref b_22), .val (.ref b_33), .val (.ref b_42), .val (.int (4 : Int32)), .val (.ref b148)] [(.int (2 : Int32)), (.int (0 : Int32)), (.int (4 : Int32)), (.ref b148)])) rfl (by rw [hml]; rfl) (argsL := [(.ref b148), (.int (4 : Int32)), (.int (0 : Int32)), (.int (2 : Int32))]) (rest := []) (lenOf pd_3 rfl) rfl (by show 2 * 0 + _ ≤ _; exact Nat.le_of_eq rfl) (hb hby at_153) (fun _ _ => ⟨rfl, rfl, (by decide : 4 + 0 ≤ _), (by decide : 12 + 0 ≤ _)⟩)
    dsimp only [Pt.U, Pt.locs, Pt.cells, Pt.slots] at X162 zl162 zy162 zz162 st162 hQ162
    subst zl162 zy162 zz162
    obtain ⟨wa_153, wb_153, rfl, Nq162, Kq162, p162_0, p162_1⟩ := hQ162
    have N162 := Fr.app N160 Nq162
    refine GoW.st st162 ?_
    have f163_V_b_42 : Arv Z T162.heap b_42 kb_42 .long (4 : Int32) [(.long w0_42), (.long w1_42), (.long w2_42), (.long w3_42)] (.long (0 : Int64)) := f161_V_b_42.keep Kq162 (ninS ne148_b_42 nin0)
    have K162 : Keep h0 T162.heap [] := K160.trans Kq162 (allS (Or.inr sz148) all0)
    have hs_153 := p162_1
    show GoW p e below QQ (T162.setTop (mkF m 156 #[.val (.long q1), .second, .val (.long q2), .second, .val (.long q3), .second, .val (.long q4), .second, .val (.int p5), .val (.int (2 : Int32)), .val (.int (2 : Int32)), .val (.ref b_22), .val (.ref b_33), .val (.ref b_42), .val (.int (4 : Int32)), .val (.ref b148)] []))
    refine GoW.st (fun t k => XS.aload X162.here hx rfl (hb hby at_156) rfl rfl (XS.iload X162.here hx rfl (hb hby at_158) rfl (XS.iconst X162.here hx rfl (hb hby at_160) (XS.iconst X162.here hx rfl (hb hby at_161) k)))) ?_
    show GoW p e below QQ (T162.setTop (mkF m 162 #[.val (.long q1), .second, .val (.long q2), .second, .val (.long q3), .second, .val (.long q4), .second, .val (.int p5), .val (.int (2 : Int32)), .val (.int (2 : Int32)), .val (.ref b_22), .val (.ref b_33), .val (.ref b_42), .val (.int (4 : Int32)), .val (.ref b148)] [(.int (3 : Int32)), (.int (1 : Int32)), (.int (4 : Int32)), (.ref b148)]))
    obtain ⟨_, _, ⟨T164, zL164, zk164, zn164⟩, -, X164, ⟨Lc164, hQ164, zl164, zy164, zz164⟩, st164⟩ := Jvm.LawKit.callS X162 hx (y := (⟨"com/example/hike/hike/HoldersMergePinLaw", "cx", "([JIII)V"⟩ : MethodName)) hown (mvT hZ (hw _ (List.mem_of_getElem? (i := 9) rfl))) (mvT hZ (hw _ (List.mem_of_getElem? (i := 10) rfl))) (mvT hZ (hw _ (List.mem_of_getElem? (i := 2) rfl))) (mvT hZ (hw _ (List.mem_of_getElem? (i := 11) rfl))) (by decide) (backOf (W := 0) (rm3_413 l Z a0 hw [] b148 k148 wa_153 wb_135 wb_153 wb_144 T162.heap n0 (Nat.le_trans Z0 K162.1) p162_0 gg148) hZ (hw _ (List.mem_of_getElem? (i := 11) rfl)) (hw _ (List.mem_of_getElem? (i := 2) rfl)) (by decide) (by decide)) (g := (mkF m 162 #[.val (.long q1), .second, .val (.long q2), .second, .val (.long q3), .second, .val (.long q4), .second, .val (.int p5), .val (.int (2 : Int32)), .val (.int (2 : Int32)), .val (.ref b_22), .val (.ref b_33), .val (.ref b_42), .val (.int (4 : Int32)), .val (.ref b148)] [(.int (3 : Int32)), (.int (1 : Int32)), (.int (4 : Int32)), (.ref b148)])) rfl (by rw [hml]; rfl) (argsL := [(.ref b148), (.int (4 : Int32)), (.int (1 : Int32)), (.int (3 : Int32))]) (rest := []) (lenOf pd_3 rfl) rfl (by show 2 * 0 + _ ≤ _; exact Nat.le_of_eq rfl) (hb hby at_162) (fun _ _ => ⟨rfl, rfl, (by decide : 4 + 0 ≤ _), (by decide : 12 + 0 ≤ _)⟩)
    dsimp only [Pt.U, Pt.locs, Pt.cells, Pt.slots] at X164 zl164 zy164 zz164 st164 hQ164
    subst zl164 zy164 zz164
    obtain ⟨wa_162, wb_162, rfl, Nq164, Kq164, p164_0, p164_1⟩ := hQ164
    have N164 := Fr.app N162 Nq164
    refine GoW.st st164 ?_
    have f165_V_b_42 : Arv Z T164.heap b_42 kb_42 .long (4 : Int32) [(.long w0_42), (.long w1_42), (.long w2_42), (.long w3_42)] (.long (0 : Int64)) := f163_V_b_42.keep Kq164 (ninS ne148_b_42 nin0)
    have K164 : Keep h0 T164.heap [] := K162.trans Kq164 (allS (Or.inr sz148) all0)
    have hs_162 := p164_1
    show GoW p e below QQ (T164.setTop (mkF m 165 #[.val (.long q1), .second, .val (.long q2), .second, .val (.long q3), .second, .val (.long q4), .second, .val (.int p5), .val (.int (2 : Int32)), .val (.int (2 : Int32)), .val (.ref b_22), .val (.ref b_33), .val (.ref b_42), .val (.int (4 : Int32)), .val (.ref b148)] []))
    refine GoW.st (fun t k => XS.aload X164.here hx rfl (hb hby at_165) rfl rfl (XS.iload X164.here hx rfl (hb hby at_167) rfl (XS.iconst X164.here hx rfl (hb hby at_169) (XS.iconst X164.here hx rfl (hb hby at_170) k)))) ?_
    show GoW p e below QQ (T164.setTop (mkF m 171 #[.val (.long q1), .second, .val (.long q2), .second, .val (.long q3), .second, .val (.long q4), .second, .val (.int p5), .val (.int (2 : Int32)), .val (.int (2 : Int32)), .val (.ref b_22), .val (.ref b_33), .val (.ref b_42), .val (.int (4 : Int32)), .val (.ref b148)] [(.int (2 : Int32)), (.int (1 : Int32)), (.int (4 : Int32)), (.ref b148)]))
    obtain ⟨_, _, ⟨T166, zL166, zk166, zn166⟩, -, X166, ⟨Lc166, hQ166, zl166, zy166, zz166⟩, st166⟩ := Jvm.LawKit.callS X164 hx (y := (⟨"com/example/hike/hike/HoldersMergePinLaw", "cx", "([JIII)V"⟩ : MethodName)) hown (mvT hZ (hw _ (List.mem_of_getElem? (i := 9) rfl))) (mvT hZ (hw _ (List.mem_of_getElem? (i := 10) rfl))) (mvT hZ (hw _ (List.mem_of_getElem? (i := 2) rfl))) (mvT hZ (hw _ (List.mem_of_getElem? (i := 11) rfl))) (by decide) (backOf (W := 0) (rm3_412 l Z a0 hw [] b148 k148 wa_153 wa_162 wb_153 wb_162 T164.heap n0 (Nat.le_trans Z0 K164.1) p164_0 gg148) hZ (hw _ (List.mem_of_getElem? (i := 11) rfl)) (hw _ (List.mem_of_getElem? (i := 2) rfl)) (by decide) (by decide)) (g := (mkF m 171 #[.val (.long q1), .second, .val (.long q2), .second, .val (.long q3), .second, .val (.long q4), .second, .val (.int p5), .val (.int (2 : Int32)), .val (.int (2 : Int32)), .val (.ref b_22), .val (.ref b_33), .val (.ref b_42), .val (.int (4 : Int32)), .val (.ref b148)] [(.int (2 : Int32)), (.int (1 : Int32)), (.int (4 : Int32)), (.ref b148)])) rfl (by rw [hml]; rfl) (argsL := [(.ref b148), (.int (4 : Int32)), (.int (1 : Int32)), (.int (2 : Int32))]) (rest := []) (lenOf pd_3 rfl) rfl (by show 2 * 0 + _ ≤ _; exact Nat.le_of_eq rfl) (hb hby at_171) (fun _ _ => ⟨rfl, rfl, (by decide : 4 + 0 ≤ _), (by decide : 12 + 0 ≤ _)⟩)
    dsimp only [Pt.U, Pt.locs, Pt.cells, Pt.slots] at X166 zl166 zy166 zz166 st166 hQ166
    subst zl166 zy166 zz166
    obtain ⟨wa_171, wb_171, rfl, Nq166, Kq166, p166_0, p166_1⟩ := hQ166
    have N166 := Fr.app N164 Nq166
    refine GoW.st st166 ?_
    have f167_V_b_42 : Arv Z T166.heap b_42 kb_42 .long (4 : Int32) [(.long w0_42), (.long w1_42), (.long w2_42), (.long w3_42)] (.long (0 : Int64)) := f165_V_b_42.keep Kq166 (ninS ne148_b_42 nin0)
    have K166 : Keep h0 T166.heap [] := K164.trans Kq166 (allS (Or.inr sz148) all0)
    have hs_171 := p166_1
    show GoW p e below QQ (T166.setTop (mkF m 174 #[.val (.long q1), .second, .val (.long q2), .second, .val (.long q3), .second, .val (.long q4), .second, .val (.int p5), .val (.int (2 : Int32)), .val (.int (2 : Int32)), .val (.ref b_22), .val (.ref b_33), .val (.ref b_42), .val (.int (4 : Int32)), .val (.ref b148)] []))
    refine GoW.st (fun t k => XS.iconst X166.here hx rfl (hb hby at_174) (XS.iload X166.here hx rfl (hb hby at_175) rfl k)) ?_
    show GoW p e below QQ (T166.setTop (mkF m 177 #[.val (.long q1), .second, .val (.long q2), .second, .val (.long q3), .second, .val (.long q4), .second, .val (.int p5), .val (.int (2 : Int32)), .val (.int (2 : Int32)), .val (.ref b_22), .val (.ref b_33), .val (.ref b_42), .val (.int (4 : Int32)), .val (.ref b148)] [(.int (4 : Int32)), (.int (0 : Int32))]))
    have hc177 : (0 : Int32) < (4 : Int32) := by decide
    refine GoW.st (fun t k => XS.icmpNo X166.here hx rfl (hb hby at_177) rfl (tlt hc177).2.1 (XS.aload X166.here hx rfl (hb hby at_180) rfl rfl (XS.iconst X166.here hx rfl (hb hby at_182) (ldVJ X166 hx hZ rfl f167_V_b_42 (v := (.long w0_42)) ⟨by decide, by decide⟩ rfl (g := (mkF m 183 #[.val (.long q1), .second, .val (.long q2), .second, .val (.long q3), .second, .val (.long q4), .second, .val (.int p5), .val (.int (2 : Int32)), .val (.int (2 : Int32)), .val (.ref b_22), .val (.ref b_33), .val (.ref b_42), .val (.int (4 : Int32)), .val (.ref b148)] [(.int (0 : Int32)), (.ref b_42)])) rfl rfl (hb hby at_183) t (XS.aload X166.here hx rfl (hb hby at_184) rfl rfl (XS.iconst X166.here hx rfl (hb hby at_186) k)))))) ?_
    show GoW p e below QQ (T166.setTop (mkF m 187 #[.val (.long q1), .second, .val (.long q2), .second, .val (.long q3), .second, .val (.long q4), .second, .val (.int p5), .val (.int (2 : Int32)), .val (.int (2 : Int32)), .val (.ref b_22), .val (.ref b_33), .val (.ref b_42), .val (.int (4 : Int32)), .val (.ref b148)] [(.int (0 : Int32)), (.ref b148), (.long w0_42)]))
    refine GoW.st (fun t k => ldVJ X166 hx hZ rfl p166_0 (v := (.long wa_153)) ⟨by decide, by decide⟩ rfl (g := (mkF m 187 #[.val (.long q1), .second, .val (.long q2), .second, .val (.long q3), .second, .val (.long q4), .second, .val (.int p5), .val (.int (2 : Int32)), .val (.int (2 : Int32)), .val (.ref b_22), .val (.ref b_33), .val (.ref b_42), .val (.int (4 : Int32)), .val (.ref b148)] [(.int (0 : Int32)), (.ref b148), (.long w0_42)])) rfl rfl (hb hby at_187) t (XS.lcmp X166.here hx rfl (hb hby at_188) rfl k)) ?_
    show GoW p e below QQ (T166.setTop (mkF m 189 #[.val (.long q1), .second, .val (.long q2), .second, .val (.long q3), .second, .val (.long q4), .second, .val (.int p5), .val (.int (2 : Int32)), .val (.int (2 : Int32)), .val (.ref b_22), .val (.ref b_33), .val (.ref b_42), .val (.int (4 : Int32)), .val (.ref b148)] [(.int (lcmpW w0_42 wa_153))]))
    have hc189 : w0_42 = wa_153 := by
      apply Int64.toInt_inj.mp
      omega
    refine GoW.st (fun t k => XS.ifYes X166.here hx rfl (pc0 := 189) (pc' := 194) rfl (hb hby at_189) rfl ((if0 _ _).trans (teq ((lw_eq w0_42 wa_153).mpr hc189)).1) (by decide) (by decide) (XS.iconst X166.here hx rfl (hb hby at_194) (XS.iload X166.here hx rfl (hb hby at_195) rfl k))) ?_
    show GoW p e below QQ (T166.setTop (mkF m 197 #[.val (.long q1), .second, .val (.long q2), .second, .val (.long q3), .second, .val (.long q4), .second, .val (.int p5), .val (.int (2 : Int32)), .val (.int (2 : Int32)), .val (.ref b_22), .val (.ref b_33), .val (.ref b_42), .val (.int (4 : Int32)), .val (.ref b148)] [(.int (4 : Int32)), (.int (1 : Int32))]))
    have hc197 : (1 : Int32) < (4 : Int32) := by decide
    refine GoW.st (fun t k => XS.icmpNo X166.here hx rfl (hb hby at_197) rfl (tlt hc197).2.1 (XS.aload X166.here hx rfl (hb hby at_200) rfl rfl (XS.iconst X166.here hx rfl (hb hby at_202) (ldVJ X166 hx hZ rfl f167_V_b_42 (v := (.long w1_42)) ⟨by decide, by decide⟩ rfl (g := (mkF m 203 #[.val (.long q1), .second, .val (.long q2), .second, .val (.long q3), .second, .val (.long q4), .second, .val (.int p5), .val (.int (2 : Int32)), .val (.int (2 : Int32)), .val (.ref b_22), .val (.ref b_33), .val (.ref b_42), .val (.int (4 : Int32)), .val (.ref b148)] [(.int (1 : Int32)), (.ref b_42)])) rfl rfl (hb hby at_203) t (XS.aload X166.here hx rfl (hb hby at_204) rfl rfl (XS.iconst X166.here hx rfl (hb hby at_206) k)))))) ?_
    show GoW p e below QQ (T166.setTop (mkF m 207 #[.val (.long q1), .second, .val (.long q2), .second, .val (.long q3), .second, .val (.long q4), .second, .val (.int p5), .val (.int (2 : Int32)), .val (.int (2 : Int32)), .val (.ref b_22), .val (.ref b_33), .val (.ref b_42), .val (.int (4 : Int32)), .val (.ref b148)] [(.int (1 : Int32)), (.ref b148), (.long w1_42)]))
    refine GoW.st (fun t k => ldVJ X166 hx hZ rfl p166_0 (v := (.long wa_171)) ⟨by decide, by decide⟩ rfl (g := (mkF m 207 #[.val (.long q1), .second, .val (.long q2), .second, .val (.long q3), .second, .val (.long q4), .second, .val (.int p5), .val (.int (2 : Int32)), .val (.int (2 : Int32)), .val (.ref b_22), .val (.ref b_33), .val (.ref b_42), .val (.int (4 : Int32)), .val (.ref b148)] [(.int (1 : Int32)), (.ref b148), (.long w1_42)])) rfl rfl (hb hby at_207) t (XS.lcmp X166.here hx rfl (hb hby at_208) rfl k)) ?_
    show GoW p e below QQ (T166.setTop (mkF m 209 #[.val (.long q1), .second, .val (.long q2), .second, .val (.long q3), .second, .val (.long q4), .second, .val (.int p5), .val (.int (2 : Int32)), .val (.int (2 : Int32)), .val (.ref b_22), .val (.ref b_33), .val (.ref b_42), .val (.int (4 : Int32)), .val (.ref b148)] [(.int (lcmpW w1_42 wa_171))]))
    have hc209 : w1_42 = wa_171 := by
      apply Int64.toInt_inj.mp
      omega
    refine GoW.st (fun t k => XS.ifYes X166.here hx rfl (pc0 := 209) (pc' := 214) rfl (hb hby at_209) rfl ((if0 _ _).trans (teq ((lw_eq w1_42 wa_171).mpr hc209)).1) (by decide) (by decide) (XS.iconst X166.here hx rfl (hb hby at_214) (XS.iload X166.here hx rfl (hb hby at_215) rfl k))) ?_
    show GoW p e below QQ (T166.setTop (mkF m 217 #[.val (.long q1), .second, .val (.long q2), .second, .val (.long q3), .second, .val (.long q4), .second, .val (.int p5), .val (.int (2 : Int32)), .val (.int (2 : Int32)), .val (.ref b_22), .val (.ref b_33), .val (.ref b_42), .val (.int (4 : Int32)), .val (.ref b148)] [(.int (4 : Int32)), (.int (2 : Int32))]))
    have hc217 : (2 : Int32) < (4 : Int32) := by decide
    refine GoW.st (fun t k => XS.icmpNo X166.here hx rfl (hb hby at_217) rfl (tlt hc217).2.1 (XS.aload X166.here hx rfl (hb hby at_220) rfl rfl (XS.iconst X166.here hx rfl (hb hby at_222) (ldVJ X166 hx hZ rfl f167_V_b_42 (v := (.long w2_42)) ⟨by decide, by decide⟩ rfl (g := (mkF m 223 #[.val (.long q1), .second, .val (.long q2), .second, .val (.long q3), .second, .val (.long q4), .second, .val (.int p5), .val (.int (2 : Int32)), .val (.int (2 : Int32)), .val (.ref b_22), .val (.ref b_33), .val (.ref b_42), .val (.int (4 : Int32)), .val (.ref b148)] [(.int (2 : Int32)), (.ref b_42)])) rfl rfl (hb hby at_223) t (XS.aload X166.here hx rfl (hb hby at_224) rfl rfl (XS.iconst X166.here hx rfl (hb hby at_226) k)))))) ?_
    show GoW p e below QQ (T166.setTop (mkF m 227 #[.val (.long q1), .second, .val (.long q2), .second, .val (.long q3), .second, .val (.long q4), .second, .val (.int p5), .val (.int (2 : Int32)), .val (.int (2 : Int32)), .val (.ref b_22), .val (.ref b_33), .val (.ref b_42), .val (.int (4 : Int32)), .val (.ref b148)] [(.int (2 : Int32)), (.ref b148), (.long w2_42)]))
    refine GoW.st (fun t k => ldVJ X166 hx hZ rfl p166_0 (v := (.long wb_171)) ⟨by decide, by decide⟩ rfl (g := (mkF m 227 #[.val (.long q1), .second, .val (.long q2), .second, .val (.long q3), .second, .val (.long q4), .second, .val (.int p5), .val (.int (2 : Int32)), .val (.int (2 : Int32)), .val (.ref b_22), .val (.ref b_33), .val (.ref b_42), .val (.int (4 : Int32)), .val (.ref b148)] [(.int (2 : Int32)), (.ref b148), (.long w2_42)])) rfl rfl (hb hby at_227) t (XS.lcmp X166.here hx rfl (hb hby at_228) rfl k)) ?_
    show GoW p e below QQ (T166.setTop (mkF m 229 #[.val (.long q1), .second, .val (.long q2), .second, .val (.long q3), .second, .val (.long q4), .second, .val (.int p5), .val (.int (2 : Int32)), .val (.int (2 : Int32)), .val (.ref b_22), .val (.ref b_33), .val (.ref b_42), .val (.int (4 : Int32)), .val (.ref b148)] [(.int (lcmpW w2_42 wb_171))]))
    have hc229 : w2_42 = wb_171 := by
      apply Int64.toInt_inj.mp
      omega
    refine GoW.st (fun t k => XS.ifYes X166.here hx rfl (pc0 := 229) (pc' := 234) rfl (hb hby at_229) rfl ((if0 _ _).trans (teq ((lw_eq w2_42 wb_171).mpr hc229)).1) (by decide) (by decide) (XS.iconst X166.here hx rfl (hb hby at_234) (XS.iload X166.here hx rfl (hb hby at_235) rfl k))) ?_
    show GoW p e below QQ (T166.setTop (mkF m 237 #[.val (.long q1), .second, .val (.long q2), .second, .val (.long q3), .second, .val (.long q4), .second, .val (.int p5), .val (.int (2 : Int32)), .val (.int (2 : Int32)), .val (.ref b_22), .val (.ref b_33), .val (.ref b_42), .val (.int (4 : Int32)), .val (.ref b148)] [(.int (4 : Int32)), (.int (3 : Int32))]))
    have hc237 : (3 : Int32) < (4 : Int32) := by decide
    refine GoW.st (fun t k => XS.icmpNo X166.here hx rfl (hb hby at_237) rfl (tlt hc237).2.1 (XS.aload X166.here hx rfl (hb hby at_240) rfl rfl (XS.iconst X166.here hx rfl (hb hby at_242) (ldVJ X166 hx hZ rfl f167_V_b_42 (v := (.long w3_42)) ⟨by decide, by decide⟩ rfl (g := (mkF m 243 #[.val (.long q1), .second, .val (.long q2), .second, .val (.long q3), .second, .val (.long q4), .second, .val (.int p5), .val (.int (2 : Int32)), .val (.int (2 : Int32)), .val (.ref b_22), .val (.ref b_33), .val (.ref b_42), .val (.int (4 : Int32)), .val (.ref b148)] [(.int (3 : Int32)), (.ref b_42)])) rfl rfl (hb hby at_243) t (XS.aload X166.here hx rfl (hb hby at_244) rfl rfl (XS.iconst X166.here hx rfl (hb hby at_246) k)))))) ?_
    show GoW p e below QQ (T166.setTop (mkF m 247 #[.val (.long q1), .second, .val (.long q2), .second, .val (.long q3), .second, .val (.long q4), .second, .val (.int p5), .val (.int (2 : Int32)), .val (.int (2 : Int32)), .val (.ref b_22), .val (.ref b_33), .val (.ref b_42), .val (.int (4 : Int32)), .val (.ref b148)] [(.int (3 : Int32)), (.ref b148), (.long w3_42)]))
    refine GoW.st (fun t k => ldVJ X166 hx hZ rfl p166_0 (v := (.long wb_162)) ⟨by decide, by decide⟩ rfl (g := (mkF m 247 #[.val (.long q1), .second, .val (.long q2), .second, .val (.long q3), .second, .val (.long q4), .second, .val (.int p5), .val (.int (2 : Int32)), .val (.int (2 : Int32)), .val (.ref b_22), .val (.ref b_33), .val (.ref b_42), .val (.int (4 : Int32)), .val (.ref b148)] [(.int (3 : Int32)), (.ref b148), (.long w3_42)])) rfl rfl (hb hby at_247) t (XS.lcmp X166.here hx rfl (hb hby at_248) rfl k)) ?_
    show GoW p e below QQ (T166.setTop (mkF m 249 #[.val (.long q1), .second, .val (.long q2), .second, .val (.long q3), .second, .val (.long q4), .second, .val (.int p5), .val (.int (2 : Int32)), .val (.int (2 : Int32)), .val (.ref b_22), .val (.ref b_33), .val (.ref b_42), .val (.int (4 : Int32)), .val (.ref b148)] [(.int (lcmpW w3_42 wb_162))]))
    have hc249 : w3_42 = wb_162 := by
      apply Int64.toInt_inj.mp
      omega
    refine GoW.st (fun t k => XS.ifYes X166.here hx rfl (pc0 := 249) (pc' := 254) rfl (hb hby at_249) rfl ((if0 _ _).trans (teq ((lw_eq w3_42 wb_162).mpr hc249)).1) (by decide) (by decide) (XS.iconst X166.here hx rfl (hb hby at_254) k)) ?_
    show GoW p e below QQ (T166.setTop (mkF m 255 #[.val (.long q1), .second, .val (.long q2), .second, .val (.long q3), .second, .val (.long q4), .second, .val (.int p5), .val (.int (2 : Int32)), .val (.int (2 : Int32)), .val (.ref b_22), .val (.ref b_33), .val (.ref b_42), .val (.int (4 : Int32)), .val (.ref b148)] [(.int (1 : Int32))]))
    exact GoW.fin X166 (some (.int (nar .boolean (1 : Int32)))) (fun q => by rw [hret] at q; cases q) hlk hQ rfl ⟨rfl, N166⟩ (by decide) (by decide) (fun fs hr => retN X166 hx (t := .boolean) hret (by simp) (hb hby at_255) hr)
set_option maxRecDepth 65536 in
set_option maxHeartbeats 40000000 in
theorem comes_1 {Post : Tables → Env → Array Value → State → Outcome → State → Prop} (hpost : ∀ tb e args s v u, (limb_1_1.after args s (.returned v) u = true ∧ limb_1_2.after args s (.returned v) u = true ∧ True) → FrameEnd s (.returned v) u (Jvm.fieldLocs frame_1_writes args s ++ Jvm.arrayLocs frame_1_arrays args s ++ Jvm.staticLocs frame_1_statics s) 16 128 → Post tb e args s (.returned v) u) :
    ArmFor flags0 classFile x code maxLocals ret World_1 tables_1 room_1 Calls_1 rest_1 Pre_1 Post := by
  intro l hfl _ _ p e ha hc hk s m args below hf hA hF happ hP
  obtain ⟨hcalls, hrest, hpre⟩ := hP
  obtain ⟨-, -, -, hnamed, -, -, -, hat⟩ := (Spec.applies_iff hf).mp happ
  obtain ⟨hg, hn⟩ := and_e (Cond.before_iff.mp (show (Jvm.Cond.and given_1 narrow_1).before args s = true from hpre))
  obtain ⟨gcount, gr0⟩ := and_e hg
  obtain ⟨ga0, gr1⟩ := and_e gr0
  obtain ⟨ga1, gr2⟩ := and_e gr1
  obtain ⟨ga2, gr3⟩ := and_e gr2
  obtain ⟨ga3, gr4⟩ := and_e gr3
  obtain ⟨w0, w1, w2, w3, w4, rfl⟩ : ∃ w0 w1 w2 w3 w4 : Value, args = #[w0, w1, w2, w3, w4] := by
    have hs : args.size = 5 := by simpa [Cond.value, given_1] using gcount
    obtain ⟨L⟩ := args
    match L, hs with
    | [w0, w1, w2, w3, w4], _ => exact ⟨w0, w1, w2, w3, w4, rfl⟩
  have hw := fun d (hd : d ∈ tables_1) => atoms_spec (ws := Jvm.Cond.code x code maxLocals ret :: tables_1) hat d (List.mem_cons_of_mem _ hd)
  obtain ⟨i0, ei0⟩ := isL_v ga0
  obtain rfl : w0 = (.long i0) := Option.some.inj ei0
  obtain ⟨i1, ei1⟩ := isL_v ga1
  obtain rfl : w1 = (.long i1) := Option.some.inj ei1
  obtain ⟨i2, ei2⟩ := isL_v ga2
  obtain rfl : w2 = (.long i2) := Option.some.inj ei2
  obtain ⟨i3, ei3⟩ := isL_v ga3
  obtain rfl : w3 = (.long i3) := Option.some.inj ei3
  obtain ⟨i4, ei4⟩ := is_v gr4
  obtain rfl : w4 = (.int i4) := Option.some.inj ei4
  obtain ⟨n, o, h1, h2, h3, _, L, rfl, ⟨rfl, N⟩, hq⟩ := rm0 l s _ hw tables_1 i0 i1 i2 i3 i4 s.heap s.heap.size (Nat.le_refl _) (Nat.le_refl _) p e ha hc hk s m _ below hf ((Spec.applies_iff_loose hf).mp happ).1 ⟨rfl, State.Warmed39.refl s, rfl⟩ trivial
  refine ⟨n, _, h1, h2, h3, hpost _ _ _ _ _ _ ⟨Cond.after_iff.mpr rfl, Cond.after_iff.mpr (eq_i res_at (Term.int_eval (1)) rfl), trivial⟩ ⟨hq.1, hq.2.1, (hq.2.2.sift fun y hy => Or.inr (N y hy)).mono (by decide) (by decide)⟩⟩
theorem main_1_1 : Claimed_1_1 := comes_1 fun _ _ _ _ _ _ h hF => ⟨h.1, hF⟩
theorem main_1_2 : Claimed_1_2 := comes_1 fun _ _ _ _ _ _ h hF => ⟨h.2.1, hF⟩
end Jvm.Pilot.@@N@@
namespace Jvm.Pilot.@@N@@
open Jvm Jvm.ClassFile Sem Op Lib Jvm.Free Jvm.Stand Jvm.Pilot.@@N@@.Jvm.D
/-! MADE BY PROGRAM (witnessworld.py) out of the Statement's table words and the real class files: 14 classes; the members and pool entries that the words name. The judged class is class 1, her method 1. -/
namespace start1
open Jvm.ClassFile
def u (s : String) : CpInfo := .utf8 (stringToUtf16 s)
/-- a pool by its gaps: so many unusable entries, then the entry; so many at the end -/
def gap : Nat → List CpInfo → List CpInfo
  | 0, r => r
  | n + 1, r => .unusable :: gap n r
def poolList (es : List (Nat × CpInfo)) (last : Nat) : List CpInfo := es.foldr (fun e r => gap e.1 (e.2 :: r)) (gap last [])
def pool (es : List (Nat × CpInfo)) (last : Nat) : Array CpInfo := ⟨poolList es last⟩
def fileOf (pool : Array CpInfo) (this : Nat) (attrs : Array Attribute := #[]) (ms : Array MethodInfo := #[]) (fl : Nat := 33) (sup : Nat := 0) (ifs : Array Nat := #[]) (fds : Array FieldInfo := #[]) : ClassFile where
  minorVersion := 0
  majorVersion := 65
  constantPool := pool
  accessFlags := fl
  thisClass := this
  superClass := sup
  interfaces := ifs
  fields := fds
  methods := ms
  attributes := attrs
def plain (name : String) (sup : Option ClassId) : Class where
  name := name
  kind := .ordinary
  loader := none
  accessFlags := 33
  super := sup
  interfaces := #[]
  cf := none
  fields := #[]
  methods := #[]
  instanceTypes := #[]
  staticTypes := #[]
  resolved := #[]
  callSites := []
  init := .initialized
  statics := none
  mirror := none

def pool0 : Array CpInfo := pool [(5, u "<init>"), (0, u "()V"), (1, .class_ 10), (1, u "java/lang/Object")] 113

def k0m0 : Method := { name := "<init>", desc := "()V", sig := { parameters := [], returnType := none }, accessFlags := 1, code := none }
/-- java/lang/Object -/
def k0 : Class := { plain "java/lang/Object" none with
  accessFlags := 33
  interfaces := #[]
  cf := some (fileOf pool0 8 #[] #[{ accessFlags := 1, nameIndex := 5, descriptorIndex := 6, attributes := #[] }] 33 0 #[] #[])
  fields := #[]
  methods := #[k0m0]
  instanceTypes := #[]
  staticTypes := #[]
  resolved := Array.replicate 124 none
  statics := none }

def pool1 : Array CpInfo := pool [(2, .class_ 4), (1, u "java/lang/Object"), (0, u "<init>"), (0, u "()V"), (0, .methodref 8 9), (0, .class_ 10), (0, .nameAndType 11 12), (0, u "com/example/hike/hike/HoldersMergePinLaw"), (0, u "make"), (0, u "(IJJ)[J"), (0, .methodref 14 15), (0, .class_ 16), (0, .nameAndType 17 18), (0, u "com/example/hike/hike/Holders"), (0, u "merge"), (0, u "([J[J)[J"), (0, .methodref 8 20), (0, .nameAndType 21 22), (0, u "cx"), (0, u "([JIII)V"), (0, .methodref 24 25), (0, .class_ 26), (0, .nameAndType 27 28), (0, u "java/lang/Math"), (0, u "min"), (0, u "(JJ)J"), (0, .methodref 24 30), (0, .nameAndType 31 28), (0, u "max"), (2, u "law"), (0, u "(JJJJI)Z")] 5

def k1m0 : Method := { name := "<init>", desc := "()V", sig := { parameters := [], returnType := none }, accessFlags := 1, code := none }
def k1c1 : Code := { maxStack := 5, maxLocals := 16, code := code, exceptionTable := #[], attributes := #[] }
def k1m1 : Method := { name := "law", desc := "(JJJJI)Z", sig := { parameters := [.long, .long, .long, .long, .int], returnType := some .boolean }, accessFlags := 9, code := some k1c1 }
def k1c2 : Code := { maxStack := 7, maxLocals := 5, code := method_3_code, exceptionTable := #[], attributes := #[] }
def k1m2 : Method := { name := "make", desc := "(IJJ)[J", sig := { parameters := [.int, .long, .long], returnType := some (.array .long) }, accessFlags := 10, code := some k1c2 }
def k1c3 : Code := { maxStack := 4, maxLocals := 6, code := method_4_code, exceptionTable := #[], attributes := #[] }
def k1m3 : Method := { name := "cx", desc := "([JIII)V", sig := { parameters := [(.array .long), .int, .int, .int], returnType := none }, accessFlags := 10, code := some k1c3 }
/-- com/example/hike/hike/HoldersMergePinLaw -/
def k1 : Class := { plain "com/example/hike/hike/HoldersMergePinLaw" (some 0) with
  accessFlags := 49
  interfaces := #[]
  cf := some (fileOf pool1 8 #[] #[{ accessFlags := 1, nameIndex := 5, descriptorIndex := 6, attributes := #[] }, { accessFlags := 9, nameIndex := 34, descriptorIndex := 35, attributes := #[] }, { accessFlags := 10, nameIndex := 11, descriptorIndex := 12, attributes := #[] }, { accessFlags := 10, nameIndex := 21, descriptorIndex := 22, attributes := #[] }] 49 2 #[] #[])
  fields := #[]
  methods := #[k1m0, k1m1, k1m2, k1m3]
  instanceTypes := #[]
  staticTypes := #[]
  resolved := Array.replicate 41 none
  statics := none }

def pool2 : Array CpInfo := pool [(1, .class_ 2), (0, u "com/example/hike/hike/Cursor"), (0, .class_ 4), (0, u "java/lang/Object")] 20

/-- com/example/hike/hike/Cursor -/
def k2 : Class := { plain "com/example/hike/hike/Cursor" (some 0) with
  accessFlags := 1536
  interfaces := #[]
  cf := some (fileOf pool2 1 #[] #[] 1536 3 #[] #[])
  fields := #[]
  methods := #[]
  instanceTypes := #[]
  staticTypes := #[]
  resolved := Array.replicate 25 none
  statics := none }

def pool3 : Array CpInfo := pool [(2, .class_ 4), (1, u "java/lang/Object"), (3, .class_ 10), (1, u "com/example/hike/hike/SequenceView"), (0, u "nodes"), (0, u "Lcom/example/hike/hike/Cursor;"), (1, .class_ 16), (1, u "com/example/hike/hike/Cursor")] 34

/-- com/example/hike/hike/SequenceView -/
def k3 : Class := { plain "com/example/hike/hike/SequenceView" (some 0) with
  accessFlags := 1056
  interfaces := #[2]
  cf := some (fileOf pool3 8 #[] #[] 1056 2 #[14] #[{ accessFlags := 20, nameIndex := 11, descriptorIndex := 12, attributes := #[] }])
  fields := #[{ name := "nodes", type := (.object "com/example/hike/hike/Cursor"), accessFlags := 20, slot := 0, constantValue := 0 }]
  methods := #[]
  instanceTypes := #[(.object "com/example/hike/hike/Cursor")]
  staticTypes := #[]
  resolved := Array.replicate 51 none
  statics := none }

def pool4 : Array CpInfo := pool [(2, .class_ 4), (1, u "com/example/hike/hike/SequenceView"), (5, .class_ 12), (1, u "com/example/hike/hike/Holders"), (0, u "pre"), (0, u "J"), (2, u "end"), (2, u "positions"), (0, u "[J"), (2, u "next"), (0, u "I"), (53, u "merge"), (0, u "([J[J)[J")] 29

def k4c0 : Code := { maxStack := 4, maxLocals := 7, code := prog_63_method_6_code, exceptionTable := #[], attributes := #[] }
def k4m0 : Method := { name := "merge", desc := "([J[J)[J", sig := { parameters := [(.array .long), (.array .long)], returnType := some (.array .long) }, accessFlags := 8, code := some k4c0 }
/-- com/example/hike/hike/Holders -/
def k4 : Class := { plain "com/example/hike/hike/Holders" (some 3) with
  accessFlags := 48
  interfaces := #[]
  cf := some (fileOf pool4 10 #[] #[{ accessFlags := 8, nameIndex := 79, descriptorIndex := 80, attributes := #[] }] 48 2 #[] #[{ accessFlags := 18, nameIndex := 20, descriptorIndex := 21, attributes := #[] }, { accessFlags := 2, nameIndex := 24, descriptorIndex := 25, attributes := #[] }, { accessFlags := 2, nameIndex := 13, descriptorIndex := 14, attributes := #[] }, { accessFlags := 2, nameIndex := 17, descriptorIndex := 14, attributes := #[] }])
  fields := #[{ name := "positions", type := (.array .long), accessFlags := 18, slot := 1, constantValue := 0 }, { name := "next", type := .int, accessFlags := 2, slot := 2, constantValue := 0 }, { name := "pre", type := .long, accessFlags := 2, slot := 3, constantValue := 0 }, { name := "end", type := .long, accessFlags := 2, slot := 4, constantValue := 0 }]
  methods := #[k4m0]
  instanceTypes := #[(.object "com/example/hike/hike/Cursor"), (.array .long), .int, .long, .long]
  staticTypes := #[]
  resolved := Array.replicate 110 none
  statics := none }

def pool5 : Array CpInfo := pool [(1, .class_ 2), (0, u "java/lang/Math"), (1, .class_ 6), (1, u "java/lang/Object"), (0, u "<init>"), (0, u "()V"), (89, .class_ 100), (1, u "java/lang/Math$RandomNumberGeneratorHolder"), (20, u "(JJ)J"), (50, u "negativeZeroFloatBits"), (0, u "J"), (2, u "negativeZeroDoubleBits"), (21, u "max"), (2, u "min"), (43, u "$assertionsDisabled"), (0, u "Z"), (91, u "twoToTheDoubleScaleDown"), (0, u "D"), (4, u "twoToTheDoubleScaleUp"), (9, u "E"), (3, u "PI"), (2, u "TAU"), (2, u "DEGREES_TO_RADIANS"), (0, u "RADIANS_TO_DEGREES")] 94

def k5m0 : Method := { name := "<init>", desc := "()V", sig := { parameters := [], returnType := none }, accessFlags := 2, code := none }
def k5c1 : Code := { maxStack := 4, maxLocals := 4, code := jdk_29_method_66_code, exceptionTable := #[], attributes := #[] }
def k5m1 : Method := { name := "max", desc := "(JJ)J", sig := { parameters := [.long, .long], returnType := some .long }, accessFlags := 9, code := some k5c1 }
def k5c2 : Code := { maxStack := 4, maxLocals := 4, code := jdk_29_method_70_code, exceptionTable := #[], attributes := #[] }
def k5m2 : Method := { name := "min", desc := "(JJ)J", sig := { parameters := [.long, .long], returnType := some .long }, accessFlags := 9, code := some k5c2 }
/-- java/lang/Math -/
def k5 : Class := { plain "java/lang/Math" (some 0) with
  accessFlags := 49
  interfaces := #[]
  cf := some (fileOf pool5 1 #[.nestMembers #[98]] #[{ accessFlags := 2, nameIndex := 7, descriptorIndex := 8, attributes := #[] }, { accessFlags := 9, nameIndex := 198, descriptorIndex := 121, attributes := #[] }, { accessFlags := 9, nameIndex := 201, descriptorIndex := 121, attributes := #[] }] 49 4 #[] #[{ accessFlags := 25, nameIndex := 354, descriptorIndex := 339, attributes := #[] }, { accessFlags := 25, nameIndex := 358, descriptorIndex := 339, attributes := #[] }, { accessFlags := 25, nameIndex := 361, descriptorIndex := 339, attributes := #[] }, { accessFlags := 26, nameIndex := 364, descriptorIndex := 339, attributes := #[] }, { accessFlags := 26, nameIndex := 365, descriptorIndex := 339, attributes := #[] }, { accessFlags := 26, nameIndex := 172, descriptorIndex := 173, attributes := #[] }, { accessFlags := 26, nameIndex := 176, descriptorIndex := 173, attributes := #[] }, { accessFlags := 8, nameIndex := 344, descriptorIndex := 339, attributes := #[] }, { accessFlags := 8, nameIndex := 338, descriptorIndex := 339, attributes := #[] }, { accessFlags := 4120, nameIndex := 245, descriptorIndex := 246, attributes := #[] }])
  fields := #[{ name := "E", type := .double, accessFlags := 25, slot := 0, constantValue := 0 }, { name := "PI", type := .double, accessFlags := 25, slot := 1, constantValue := 0 }, { name := "TAU", type := .double, accessFlags := 25, slot := 2, constantValue := 0 }, { name := "DEGREES_TO_RADIANS", type := .double, accessFlags := 26, slot := 3, constantValue := 0 }, { name := "RADIANS_TO_DEGREES", type := .double, accessFlags := 26, slot := 4, constantValue := 0 }, { name := "negativeZeroFloatBits", type := .long, accessFlags := 26, slot := 5, constantValue := 0 }, { name := "negativeZeroDoubleBits", type := .long, accessFlags := 26, slot := 6, constantValue := 0 }, { name := "twoToTheDoubleScaleUp", type := .double, accessFlags := 8, slot := 7, constantValue := 0 }, { name := "twoToTheDoubleScaleDown", type := .double, accessFlags := 8, slot := 8, constantValue := 0 }, { name := "$assertionsDisabled", type := .boolean, accessFlags := 4120, slot := 9, constantValue := 0 }]
  methods := #[k5m0, k5m1, k5m2]
  instanceTypes := #[]
  staticTypes := #[.double, .double, .double, .double, .double, .long, .long, .double, .double, .boolean]
  resolved := Array.replicate 460 none
  statics := none }

def pool6 : Array CpInfo := pool [(1, u "java/lang/Cloneable"), (0, .class_ 1), (0, u "java/lang/Object"), (0, .class_ 3)] 3

/-- java/lang/Cloneable -/
def k6 : Class := { plain "java/lang/Cloneable" (some 0) with
  accessFlags := 1537
  interfaces := #[]
  cf := some (fileOf pool6 2 #[] #[] 1537 4 #[] #[])
  fields := #[]
  methods := #[]
  instanceTypes := #[]
  staticTypes := #[]
  resolved := Array.replicate 8 none
  statics := none }

def pool7 : Array CpInfo := pool [(1, u "java/io/Serializable"), (0, .class_ 1), (0, u "java/lang/Object"), (0, .class_ 3)] 3

/-- java/io/Serializable -/
def k7 : Class := { plain "java/io/Serializable" (some 0) with
  accessFlags := 1537
  interfaces := #[]
  cf := some (fileOf pool7 2 #[] #[] 1537 4 #[] #[])
  fields := #[]
  methods := #[]
  instanceTypes := #[]
  staticTypes := #[]
  resolved := Array.replicate 8 none
  statics := none }

/-- the primitive byte -/
def k8 : Class := { plain "byte" none with kind := .primitive 'B', accessFlags := 0x411 }
/-- [B -/
def k9 : Class := { plain "[B" (some 0) with kind := .array 8 .byte, interfaces := #[6, 7], accessFlags := 1041 }

/-- the primitive int -/
def k10 : Class := { plain "int" none with kind := .primitive 'I', accessFlags := 0x411 }
/-- [I -/
def k11 : Class := { plain "[I" (some 0) with kind := .array 10 .int, interfaces := #[6, 7], accessFlags := 1041 }

/-- the primitive long -/
def k12 : Class := { plain "long" none with kind := .primitive 'J', accessFlags := 0x411 }
/-- [J -/
def k13 : Class := { plain "[J" (some 0) with kind := .array 12 .long, interfaces := #[6, 7], accessFlags := 1041 }

def heap : Heap := #[]
def classes : Array Class := #[k0, k1, k2, k3, k4, k5, k6, k7, k8, k9, k10, k11, k12, k13]
def interned : List (Array UInt16 × Addr) := []
def slotsUsed : Nat := 0
def theMethod : MethodId := ⟨1, 1⟩
def args0 : Array Value := #[.long 5, .long 6, .long 7, .long 8, .int 9]
def aboutOver (below : List Frame) : State where
  vm := { classes := classes, interned := interned.toArray }
  heap := heap
  slotsUsed := slotsUsed
  threads := #[{ frames := .invoking theMethod args0 :: below }]
def below0 : List Frame := [.native { method := ⟨0, 0⟩, args := #[] }]
def about1 : State := aboutOver below0
def p0 : Program := .bare "" "" ""
def e0 : Env := launch0.env 0 0 0
theorem w_frames : about1.frames = Frame.invoking theMethod args0 :: below0 := rfl
set_option maxRecDepth 65536 in
theorem w_args : argsFit about1.vm theMethod args0 = true := by decide +kernel
set_option maxRecDepth 65536 in
theorem w_heap : heapFits about1 = true := by decide +kernel
set_option maxRecDepth 65536 in
theorem w_runnable : about1.curStatus? = some .runnable := by decide +kernel
set_option maxRecDepth 65536 in
theorem w_alone : about1.alone = true := by decide +kernel
set_option maxRecDepth 65536 in
theorem w_named : about1.methodNamed? x = some theMethod := by decide +kernel
set_option maxRecDepth 65536 in
theorem w_hears : about1.hears theMethod below0 = true := by decide +kernel
set_option maxRecDepth 65536 in
theorem w_ripe : about1.ripe theMethod args0 below0 = true := by decide +kernel
theorem w_running : about1.status = .running := rfl
set_option maxRecDepth 65536 in
theorem w_room : about1.hasRoom e0.platform room_1 = true :=
  launch0.hasRoom_least _ room_1 (by decide +kernel) (by decide +kernel) (by decide +kernel) (by decide +kernel) (by decide +kernel) (by decide +kernel)
theorem allAtoms_all (ts : List Jvm.Cond) (a : Array Jvm.Value) (st : Jvm.State) : (allAtoms ts).before a st = ts.all (fun c => c.before a st) := by
  induction ts with
  | nil => rfl
  | cons c t ih =>
    show (Jvm.Cond.and c (allAtoms t)).before a st = _
    rw [Jvm.Cond.before_and, ih, List.all_cons]
def words1 : List Jvm.Cond := Jvm.Cond.code x code maxLocals ret :: tables_1
/-- a 'code' word, met by the world's own term for the bytes: nothing is compared byte by byte -/
theorem code_word {y : MethodName} {bytes : ByteArray} {mx : Nat} {rt : Option FieldType} {a : Array Value} {s : State} {m : MethodId} {meth : Method} {c : Code} (h1 : s.methodNamed? y = some m) (h2 : s.vm.method? m = some meth) (h3 : meth.code = some c) (h4 : c.code = bytes)
    (h5 : (c.maxLocals == mx && c.exceptionTable.isEmpty && decide (c.maxStack ≤ mostOperands) && decide (meth.sig.returnType = rt) && !meth.locks && decide (parseMethodDescriptor y.desc = some meth.sig)) = true) : (Jvm.Cond.code y bytes mx rt).before a s = true := by
  simp only [Bool.and_eq_true, beq_iff_eq, Bool.not_eq_true', decide_eq_true_eq] at h5
  obtain ⟨⟨⟨⟨⟨g1, g2⟩, g3⟩, g4⟩, g5⟩, g6⟩ := h5
  simp [Cond.before, Cond.holds, Cond.value, h1, h2, h3, h4, g1, g2, g3, g4, g5, g6]
def isCode : Jvm.Cond → Bool
  | .code _ _ _ _ => true
  | _ => false
theorem all_split {L : List Jvm.Cond} {P : Jvm.Cond → Bool} (h1 : L.all (fun c => isCode c || P c) = true) (h2 : ∀ c ∈ L.filter isCode, P c = true) : L.all P = true := by
  refine List.all_eq_true.mpr fun c hc => ?_
  have h := List.all_eq_true.mp h1 c hc
  rcases Bool.eq_false_or_eq_true (isCode c) with hi | hi
  · exact h2 c (List.mem_filter.mpr ⟨hc, hi⟩)
  · simpa [hi] using h
set_option maxRecDepth 65536 in
theorem w_c0 : (Jvm.Cond.code x code maxLocals ret).before args0 about1 = true := code_word (m := ⟨1, 1⟩) (meth := k1m1) (c := k1c1) (by decide +kernel) rfl rfl rfl (by decide +kernel)
set_option maxRecDepth 65536 in
theorem w_c1 : (Jvm.Cond.code ({ cls := "com/example/hike/hike/HoldersMergePinLaw", name := "make", desc := "(IJJ)[J" } : Jvm.MethodName) method_3_code (5 : Nat) (Option.some (Jvm.ClassFile.FieldType.array Jvm.ClassFile.FieldType.long))).before args0 about1 = true := code_word (m := ⟨1, 2⟩) (meth := k1m2) (c := k1c2) (by decide +kernel) rfl rfl rfl (by decide +kernel)
set_option maxRecDepth 65536 in
theorem w_c2 : (Jvm.Cond.code ({ cls := "com/example/hike/hike/Holders", name := "merge", desc := "([J[J)[J" } : Jvm.MethodName) prog_63_method_6_code (7 : Nat) (Option.some (Jvm.ClassFile.FieldType.array Jvm.ClassFile.FieldType.long))).before args0 about1 = true := code_word (m := ⟨4, 0⟩) (meth := k4m0) (c := k4c0) (by decide +kernel) rfl rfl rfl (by decide +kernel)
set_option maxRecDepth 65536 in
theorem w_c3 : (Jvm.Cond.code ({ cls := "com/example/hike/hike/HoldersMergePinLaw", name := "cx", desc := "([JIII)V" } : Jvm.MethodName) method_4_code (6 : Nat) (Option.none : Option Jvm.ClassFile.FieldType)).before args0 about1 = true := code_word (m := ⟨1, 3⟩) (meth := k1m3) (c := k1c3) (by decide +kernel) rfl rfl rfl (by decide +kernel)
set_option maxRecDepth 65536 in
theorem w_c4 : (Jvm.Cond.code ({ cls := "java/lang/Math", name := "min", desc := "(JJ)J" } : Jvm.MethodName) jdk_29_method_70_code (4 : Nat) (Option.some Jvm.ClassFile.FieldType.long)).before args0 about1 = true := code_word (m := ⟨5, 2⟩) (meth := k5m2) (c := k5c2) (by decide +kernel) rfl rfl rfl (by decide +kernel)
set_option maxRecDepth 65536 in
theorem w_c5 : (Jvm.Cond.code ({ cls := "java/lang/Math", name := "max", desc := "(JJ)J" } : Jvm.MethodName) jdk_29_method_66_code (4 : Nat) (Option.some Jvm.ClassFile.FieldType.long)).before args0 about1 = true := code_word (m := ⟨5, 1⟩) (meth := k5m1) (c := k5c1) (by decide +kernel) rfl rfl rfl (by decide +kernel)
def codes1 : List Jvm.Cond := [Jvm.Cond.code x code maxLocals ret, Jvm.Cond.code ({ cls := "com/example/hike/hike/HoldersMergePinLaw", name := "make", desc := "(IJJ)[J" } : Jvm.MethodName) method_3_code (5 : Nat) (Option.some (Jvm.ClassFile.FieldType.array Jvm.ClassFile.FieldType.long)), Jvm.Cond.code ({ cls := "com/example/hike/hike/Holders", name := "merge", desc := "([J[J)[J" } : Jvm.MethodName) prog_63_method_6_code (7 : Nat) (Option.some (Jvm.ClassFile.FieldType.array Jvm.ClassFile.FieldType.long)), Jvm.Cond.code ({ cls := "com/example/hike/hike/HoldersMergePinLaw", name := "cx", desc := "([JIII)V" } : Jvm.MethodName) method_4_code (6 : Nat) (Option.none : Option Jvm.ClassFile.FieldType), Jvm.Cond.code ({ cls := "java/lang/Math", name := "min", desc := "(JJ)J" } : Jvm.MethodName) jdk_29_method_70_code (4 : Nat) (Option.some Jvm.ClassFile.FieldType.long), Jvm.Cond.code ({ cls := "java/lang/Math", name := "max", desc := "(JJ)J" } : Jvm.MethodName) jdk_29_method_66_code (4 : Nat) (Option.some Jvm.ClassFile.FieldType.long)]
set_option maxRecDepth 65536 in
theorem codes_eq : words1.filter isCode = codes1 := rfl
theorem w_codes : ∀ c ∈ words1.filter isCode, c.before args0 about1 = true := by
  rw [codes_eq]
  intro c hc
  simp only [codes1, List.mem_cons, List.not_mem_nil, or_false] at hc
  rcases hc with rfl | rfl | rfl | rfl | rfl | rfl
  · exact w_c0
  · exact w_c1
  · exact w_c2
  · exact w_c3
  · exact w_c4
  · exact w_c5
set_option maxRecDepth 65536 in
theorem w_t1 : words1.all (fun c => isCode c || c.before args0 about1) = true := by decide +kernel
theorem w_tables : (allAtoms (Jvm.Cond.code x code maxLocals ret :: tables_1)).before args0 about1 = true := by
  rw [allAtoms_all]
  show words1.all (fun c => c.before args0 about1) = true
  refine all_split ?_ w_codes
  rw [w_t1]
set_option maxRecDepth 65536 in
theorem w_case : (Jvm.Cond.and given_1 narrow_1).before args0 about1 = true := by decide +kernel
theorem w_applies : (headSpec (Jvm.Cond.code x code maxLocals ret :: tables_1) room_1).applies x e0.platform about1 = true :=
  (Spec.applies_iff w_frames).mpr ⟨w_running, w_runnable, w_alone, w_named, w_hears, w_ripe, w_room, w_tables⟩
theorem atStart : AtStart classFile x code maxLocals ret World_1 tables_1 room_1 Calls_1 rest_1 Pre_1 launch0 p0 e0 about1 theMethod args0 below0 :=
  ⟨lists_1, trivial, launch0.admits_env _ _ _, launch0.least_env, fairChoices_fair.cas, fairChoices_fair.clock, w_frames, w_args, w_heap, w_applies, trivial, trivial, w_case⟩
end start1
theorem witness_1 : WitnessClaimed_1 := ⟨start1.p0, start1.e0, start1.about1, start1.theMethod, start1.args0, start1.below0, start1.atStart⟩
end Jvm.Pilot.@@N@@
