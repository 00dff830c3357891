import JvmDerived
import JvmDerived.Pilot.@@N@@Statement
import JvmDerived.Pilot.@@N@@Code
set_option linter.unusedVariables false
set_option linter.unusedSimpArgs false
namespace Jvm.RoadKit
open Sem ClassFile Op Lib Jvm.Stand Jvm.Free Jvm.LawKit
section Own
variable {p : Program} {l : Launch} {e : Env} {R : Room} {s : State} {m : MethodId} {args : Array Value} {below : List Frame} {meth : Method} {c : Code} {T : State} {locs : List Loc} {cells slots : Nat}
theorem retI (X : Stand p l e R s m args below meth c T locs cells slots) (hx : p.tables.exec = Jvm.exec) {pc : Nat} {Ls : Array Slot} {z : Int32} {rest : List Value} (hret : meth.sig.returnType = some .int) (hd : decode c.code pc = .ok (.ireturn, 1)) {fs : List Frame}
    (hl : ∀ (f : JFrame) (acts : List Action), f.method = m → f.locked = none → f.entered = [] → (doReturn e (T.setTop f) acts (some (.int z))).1 = T.setFrames fs) : Steps p.tables e below (T.setTop (mkF m pc Ls (.int z :: rest))) (T.setFrames fs) := by
  have hm' : T.vm.method? m = some meth := X.method'
  have hn : narrow .int (.int z) = .int z := rfl
  show Steps p.tables e below (T.setTop { method := m, pc := pc, locals := Ls, stack := _ :: rest, locked := none }) _
  jvm_step X.here [X.here.top, hx, hd, hm', hret, hn]
  first | (intro acts; rw [hl _ acts rfl rfl rfl]) | rw [hl _ _ rfl rfl rfl]
  exact Steps.refl _
/-- the run comes from the state A to its end, and the end is as QQ says -/
def GoW (p : Program) (e : Env) (below : List Frame) (QQ : Outcome → State → Prop) (A : State) : Prop :=
  ∃ s₂ o, Steps p.tables e below A s₂ ∧ s₂.status = .running ∧ Ended s₂ below o ∧ QQ o s₂
theorem GoW.st {QQ : Outcome → State → Prop} {A B : State} (h : ∀ t, Steps p.tables e below B t → Steps p.tables e below A t) (g : GoW p e below QQ B) : GoW p e below QQ A := by
  obtain ⟨s₂, o, h1, h2⟩ := g
  exact ⟨s₂, o, h _ h1, h2⟩
/-- what an end with the value v, the heap and the written places must say -/
def EndsW (s : State) (Q : Option Value → Heap → List Loc → Prop) (cl sl : Nat) (QQ : Outcome → State → Prop) : Prop :=
  ∀ (v : Option Value) (L : List Loc) (T : State), Q v T.heap L → FrameEnd s (.returned v) T L cl sl → QQ (.returned v) T
theorem GoW.fin {Q : Option Value → Heap → List Loc → Prop} {cl sl : Nat} {QQ : Outcome → State → Prop} {A : State} (X : Stand p l e R s m args below meth c T locs cells slots) (v : Option Value) (hv : meth.sig.returnType = none → v = none) (hlk : meth.locks = false) (hQ : EndsW s Q cl sl QQ) {h : Heap} (eT : T.heap = h)
    (q : Q v h locs) (hc : cells ≤ cl) (hs : slots ≤ sl)
    (st : ∀ fs, (∀ (f : JFrame) (acts : List Action), f.method = m → f.locked = none → f.entered = [] → (doReturn e (T.setTop f) acts v).1 = T.setFrames fs) → Steps p.tables e below A (T.setFrames fs)) : GoW p e below QQ A := by
  obtain ⟨fs, hr, hrun, hended, hW, hsame⟩ := X.leave (v := v) hv hlk
  subst eT
  exact ⟨_, _, st fs hr, hrun, hended, hQ _ _ _ q ⟨⟨_, rfl⟩, hW, hsame.mono hc hs⟩⟩
theorem met_of {y : MethodName} {bytes : ByteArray} {maxL : Nat} {ret : Option FieldType} {ws : List Cond} {as' : Array Value} {Z : State} {h0 : Heap} {Q : Option Value → Heap → List Loc → Prop} {cl sl : Nat} (hp : plainFor y = true) {Ls : Array Slot} (ef : ∀ m, entryFrame m as' maxL = mkF m 0 Ls [])
    (core : ∀ (p : Program) (e : Env) (s : State) (m : MethodId) (below : List Frame) (meth : Method) (c : Code) (T : State) (QQ : Outcome → State → Prop), p.tables.exec = Jvm.exec → Z.Warmed39 s.vm → c.code = bytes → c.maxLocals = maxL → s.vm.findClass y.cls = some m.cls → meth.name = y.name → meth.sig.returnType = ret → meth.locks = false →
      Stand p l e R s m as' below meth c T [] 0 0 → T.heap = h0 → EndsW s Q cl sl QQ → GoW p e below QQ (T.setTop (mkF m 0 Ls []))) :
    MetFree l y (head1 (Cond.code y bytes maxL ret :: ws) R) (fun a U => a = as' ∧ Z.Warmed39 U.vm ∧ U.heap = h0) (fun _ _ _ _ _ => True) (fun _ U o U' => ∃ v L, o = .returned v ∧ Q v U'.heap L ∧ FrameEnd U o U' L cl sl) := by
  refine MetFree.of_bodySF hp hisR ?_
  intro p e s m args below meth c s₁ Bd hml0 hP hK
  obtain ⟨rfl, hZ, hh⟩ := hP
  obtain ⟨s₂, o, g1, g2, g3, g4⟩ := core p e s m below meth c s₁ (fun o U' => ∃ v L, o = .returned v ∧ Q v U'.heap L ∧ FrameEnd s o U' L cl sl) Bd.exec hZ Bd.bytes hml0 (findClass_of_methodNamed Bd.named) (name_of_methodNamed Bd.named Bd.method).1 Bd.returns Bd.notSynchronized (Stand.of_body Bd) (by rw [← hh, Bd.state]; rfl) (fun v L T q f => ⟨v, L, rfl, q, f⟩)
  exact ⟨s₂, o, castTop (ef m) g1, g2, g3, g4⟩
theorem standUp (X : Stand p l e R s m args below meth c T locs cells slots) {cells' slots' : Nat} (hc : cells ≤ cells') (hs : slots ≤ slots') : Stand p l e R s m args below meth c T locs cells' slots' :=
  { X with same := X.same.mono hc hs }
theorem lremM {g : JFrame} {target : State} (X : Stand p l e R s m args below meth c T locs cells slots) (hx : p.tables.exec = Jvm.exec) (hg : g.method = m) {x y : Int64} {rest : List Value} (hd : decode c.code g.pc = .ok (.lrem, 1)) (hs : g.stack = .long y :: .long x :: rest) (hy : y ≠ 0)
    (hr : Steps p.tables e below (T.setTop { g with pc := g.pc + 1, stack := .long (x % y) :: rest }) target) : Steps p.tables e below (T.setTop g) target := by
  have q : x - x / y * y = x % y := lrem_mod x y
  exact XS.lrem X.here hx hg hd hs hy (by rw [q]; exact hr)
theorem ldVI {Z : State} {h : Heap} {a : Addr} {kc : ClassId} {z j : Int32} {vs : List Value} {dv v : Value} (X : Stand p l e R s m args below meth c T locs cells slots) (hx : p.tables.exec = Jvm.exec) (hZ : Z.Warmed39 s.vm) (eT : T.heap = h) (F : Arv Z h a kc .int z vs dv) (hj : ¬ j < 0 ∧ j < z) (hv : vs.getD j.toNatClampNeg dv = v)
    {g : JFrame} (hg : g.method = m) {rest : List Value} (hs : g.stack = .int j :: .ref a :: rest) (hd : decode c.code g.pc = .ok (.iaload, 1)) (t : State) (k : Steps p.tables e below (T.setTop { g with pc := g.pc + 1, stack := v :: rest }) t) : Steps p.tables e below (T.setTop g) t := by
  obtain ⟨c', A, -, S, -, H, -⟩ := F
  have i := inb_of S hj
  exact X.iaload hx (by rw [eT]; exact A.1) (State.isArrayOf_alike hZ.alike A.2.1) A.2.2 i (H.at i hv) hg hs hd t k
theorem ldVJ {Z : State} {h : Heap} {a : Addr} {kc : ClassId} {z j : Int32} {vs : List Value} {dv v : Value} (X : Stand p l e R s m args below meth c T locs cells slots) (hx : p.tables.exec = Jvm.exec) (hZ : Z.Warmed39 s.vm) (eT : T.heap = h) (F : Arv Z h a kc .long z vs dv) (hj : ¬ j < 0 ∧ j < z) (hv : vs.getD j.toNatClampNeg dv = v)
    {g : JFrame} (hg : g.method = m) {rest : List Value} (hs : g.stack = .int j :: .ref a :: rest) (hd : decode c.code g.pc = .ok (.laload, 1)) (t : State) (k : Steps p.tables e below (T.setTop { g with pc := g.pc + 1, stack := v :: rest }) t) : Steps p.tables e below (T.setTop g) t := by
  obtain ⟨c', A, -, S, -, H, -⟩ := F
  have i := inb_of S hj
  exact X.laload hx (by rw [eT]; exact A.1) (State.isArrayOf_alike hZ.alike A.2.1) A.2.2 i (H.at i hv) hg hs hd t k
theorem ldVB {Z : State} {h : Heap} {a : Addr} {kc : ClassId} {z j : Int32} {vs : List Value} {dv v : Value} (X : Stand p l e R s m args below meth c T locs cells slots) (hx : p.tables.exec = Jvm.exec) (hZ : Z.Warmed39 s.vm) (eT : T.heap = h) (F : Arv Z h a kc .byte z vs dv) (hj : ¬ j < 0 ∧ j < z) (hv : vs.getD j.toNatClampNeg dv = v)
    {g : JFrame} (hg : g.method = m) {rest : List Value} (hs : g.stack = .int j :: .ref a :: rest) (hd : decode c.code g.pc = .ok (.baload, 1)) (t : State) (k : Steps p.tables e below (T.setTop { g with pc := g.pc + 1, stack := v :: rest }) t) : Steps p.tables e below (T.setTop g) t := by
  obtain ⟨c', A, -, S, -, H, -⟩ := F
  have i := inb_of S hj
  exact X.baloadBytes hx (by rw [eT]; exact A.1) (State.isArrayOf_alike hZ.alike A.2.1) A.2.2 i (H.at i hv) hg hs hd t k
theorem stVI {Z : State} {h : Heap} {a : Addr} {kc : ClassId} {z j : Int32} {vs : List Value} {dv : Value} {x : Int32} (X : Stand p l e R s m args below meth c T locs cells slots) (hx : p.tables.exec = Jvm.exec) (hZ : Z.Warmed39 s.vm) (eT : T.heap = h) (F : Arv Z h a kc .int z vs dv) (hj : ¬ j < 0 ∧ j < z) (i : Nat) (hi : j.toNatClampNeg = i) (hl : i < vs.length)
    {g : JFrame} (hg : g.method = m) {rest : List Value} (hs : g.stack = (.int x) :: .int j :: .ref a :: rest) (hd : decode c.code g.pc = .ok (.iastore, 1)) :
    ∃ T' h', Stand p l e R s m args below meth c T' (locs ++ [⟨a, j.toNatClampNeg⟩]) cells slots ∧ T'.heap = h' ∧ Wr h h' a j.toNatClampNeg (.int x) ∧ Arv Z h' a kc .int z (vs.set i (.int x)) dv ∧ ∀ target, Steps p.tables e below (T'.setTop { g with pc := g.pc + 1, stack := rest }) target → Steps p.tables e below (T.setTop g) target := by
  obtain ⟨c', A, q, S, M, H, G⟩ := F
  obtain ⟨T', h', X', e', W', st⟩ := stI X hx hZ eT A (inb_of S hj) hg hs hd
  exact ⟨T', h', X', e', W', Arv.set A q S M H G rfl W' i hi hl, st⟩
theorem stVJ {Z : State} {h : Heap} {a : Addr} {kc : ClassId} {z j : Int32} {vs : List Value} {dv : Value} {x : Int64} (X : Stand p l e R s m args below meth c T locs cells slots) (hx : p.tables.exec = Jvm.exec) (hZ : Z.Warmed39 s.vm) (eT : T.heap = h) (F : Arv Z h a kc .long z vs dv) (hj : ¬ j < 0 ∧ j < z) (i : Nat) (hi : j.toNatClampNeg = i) (hl : i < vs.length)
    {g : JFrame} (hg : g.method = m) {rest : List Value} (hs : g.stack = (.long x) :: .int j :: .ref a :: rest) (hd : decode c.code g.pc = .ok (.lastore, 1)) :
    ∃ T' h', Stand p l e R s m args below meth c T' (locs ++ [⟨a, j.toNatClampNeg⟩]) cells slots ∧ T'.heap = h' ∧ Wr h h' a j.toNatClampNeg (.long x) ∧ Arv Z h' a kc .long z (vs.set i (.long x)) dv ∧ ∀ target, Steps p.tables e below (T'.setTop { g with pc := g.pc + 1, stack := rest }) target → Steps p.tables e below (T.setTop g) target := by
  obtain ⟨c', A, q, S, M, H, G⟩ := F
  obtain ⟨T', h', X', e', W', st⟩ := stJ X hx hZ eT A (inb_of S hj) hg hs hd
  exact ⟨T', h', X', e', W', Arv.set A q S M H G rfl W' i hi hl, st⟩
theorem stVB {Z : State} {h : Heap} {a : Addr} {kc : ClassId} {z j : Int32} {vs : List Value} {dv : Value} {x : Int32} (X : Stand p l e R s m args below meth c T locs cells slots) (hx : p.tables.exec = Jvm.exec) (hZ : Z.Warmed39 s.vm) (eT : T.heap = h) (F : Arv Z h a kc .byte z vs dv) (hj : ¬ j < 0 ∧ j < z) (i : Nat) (hi : j.toNatClampNeg = i) (hl : i < vs.length)
    {g : JFrame} (hg : g.method = m) {rest : List Value} (hs : g.stack = (.int x) :: .int j :: .ref a :: rest) (hd : decode c.code g.pc = .ok (.bastore, 1)) :
    ∃ T' h', Stand p l e R s m args below meth c T' (locs ++ [⟨a, j.toNatClampNeg⟩]) cells slots ∧ T'.heap = h' ∧ Wr h h' a j.toNatClampNeg (.int (nar .byte x)) ∧ Arv Z h' a kc .byte z (vs.set i (.int (nar .byte x))) dv ∧ ∀ target, Steps p.tables e below (T'.setTop { g with pc := g.pc + 1, stack := rest }) target → Steps p.tables e below (T.setTop g) target := by
  obtain ⟨c', A, q, S, M, H, G⟩ := F
  obtain ⟨T', h', X', e', W', st⟩ := stB X hx hZ eT A (inb_of S hj) hg hs hd
  exact ⟨T', h', X', e', W', Arv.set A q S M H G (fits_nar_byte _) W' i hi hl, st⟩
theorem lnV {Z : State} {h : Heap} {a : Addr} {kc : ClassId} {ty : FieldType} {z : Int32} {vs : List Value} {dv : Value} (X : Stand p l e R s m args below meth c T locs cells slots) (hx : p.tables.exec = Jvm.exec) (hZ : Z.Warmed39 s.vm) (eT : T.heap = h) (F : Arv Z h a kc ty z vs dv)
    {g : JFrame} (hg : g.method = m) {rest : List Value} (hs : g.stack = .ref a :: rest) (hd : decode c.code g.pc = .ok (.arraylength, 1)) (t : State) (k : Steps p.tables e below (T.setTop { g with pc := g.pc + 1, stack := .int z :: rest }) t) : Steps p.tables e below (T.setTop g) t := by
  obtain ⟨c', A, -, S, M, -, -⟩ := F
  refine X.arraylength hx (by rw [eT]; exact A.1) (State.isArrayOf_alike hZ.alike A.2.1) hg hs hd t ?_
  rw [len_of S M]; exact k
theorem gdI (vs : List Int32) (d : Int32) (i : Nat) : (vs.map Value.int).getD i (.int d) = .int (vs.getD i d) := by
  induction vs generalizing i with
  | nil => rfl
  | cons a t ih => cases i with
    | zero => rfl
    | succ i => simpa using ih i
theorem gdJ (vs : List Int64) (d : Int64) (i : Nat) : (vs.map Value.long).getD i (.long d) = .long (vs.getD i d) := by
  induction vs generalizing i with
  | nil => rfl
  | cons a t ih => cases i with
    | zero => rfl
    | succ i => simpa using ih i
end Own
end Jvm.RoadKit
namespace Jvm.Pilot.@@N@@
open Jvm Jvm.ClassFile Sem Op Lib Jvm.Free Jvm.Stand Jvm.LawKit Jvm.RoadKit Bundle Jvm.Pilot.@@N@@.Jvm.D
abbrev own_W (x : Int) : Prop := (9 ≤ x ∧ x ≤ 13) ∨ x = 32 ∨ x = 133 ∨ x = 160 ∨ x = 5760 ∨ (8192 ≤ x ∧ x ≤ 8202) ∨ x = 8232 ∨ x = 8233 ∨ x = 8239 ∨ x = 8287 ∨ x = 12288
def own_ws (c : Int32) : Int32 := if own_W c.toInt then (1 : Int32) else (0 : Int32)
theorem own_at13 (o0 o1 o2 o3 o4 o5 o6 o7 o8 o9 o10 o11 o12 : Int32) (i : Nat) : ([(.int o0), (.int o1), (.int o2), (.int o3), (.int o4), (.int o5), (.int o6), (.int o7), (.int o8), (.int o9), (.int o10), (.int o11), (.int o12)] : List Value).getD i (.int (0 : Int32)) = .int (([o0, o1, o2, o3, o4, o5, o6, o7, o8, o9, o10, o11, o12] : List Int32).getD i (0 : Int32)) := gdI [o0, o1, o2, o3, o4, o5, o6, o7, o8, o9, o10, o11, o12] 0 i
theorem pn_0 : plainName "com/example/terseform/terseform/Grammar" = true := by first | (simp [plainName, overriddenIn]; done) | decide +kernel
theorem d1_12 : decode prog_7_method_19_code 12 = .ok (.iload_n 0, 1) := by decide +kernel
theorem d1_13 : decode prog_7_method_19_code 13 = .ok (.bipush 32, 2) := by decide +kernel
theorem d1_15 : decode prog_7_method_19_code 15 = .ok (.if_icmp .eq 73, 3) := by decide +kernel
theorem d1_88 : decode prog_7_method_19_code 88 = .ok (.iconst 1, 1) := by decide +kernel
theorem d1_89 : decode prog_7_method_19_code 89 = .ok (.goto 4, 3) := by decide +kernel
theorem d1_93 : decode prog_7_method_19_code 93 = .ok (.ireturn, 1) := by decide +kernel
theorem d1_18 : decode prog_7_method_19_code 18 = .ok (.iload_n 0, 1) := by decide +kernel
theorem d1_19 : decode prog_7_method_19_code 19 = .ok (.sipush 133, 3) := by decide +kernel
theorem d1_22 : decode prog_7_method_19_code 22 = .ok (.if_icmp .eq 66, 3) := by decide +kernel
theorem d1_25 : decode prog_7_method_19_code 25 = .ok (.iload_n 0, 1) := by decide +kernel
theorem d1_26 : decode prog_7_method_19_code 26 = .ok (.sipush 160, 3) := by decide +kernel
theorem d1_29 : decode prog_7_method_19_code 29 = .ok (.if_icmp .eq 59, 3) := by decide +kernel
theorem d1_32 : decode prog_7_method_19_code 32 = .ok (.iload_n 0, 1) := by decide +kernel
theorem d1_33 : decode prog_7_method_19_code 33 = .ok (.sipush 5760, 3) := by decide +kernel
theorem d1_36 : decode prog_7_method_19_code 36 = .ok (.if_icmp .eq 52, 3) := by decide +kernel
theorem d1_53 : decode prog_7_method_19_code 53 = .ok (.iload_n 0, 1) := by decide +kernel
theorem d1_54 : decode prog_7_method_19_code 54 = .ok (.sipush 8232, 3) := by decide +kernel
theorem d1_57 : decode prog_7_method_19_code 57 = .ok (.if_icmp .eq 31, 3) := by decide +kernel
theorem d1_60 : decode prog_7_method_19_code 60 = .ok (.iload_n 0, 1) := by decide +kernel
theorem d1_61 : decode prog_7_method_19_code 61 = .ok (.sipush 8233, 3) := by decide +kernel
theorem d1_64 : decode prog_7_method_19_code 64 = .ok (.if_icmp .eq 24, 3) := by decide +kernel
theorem d1_67 : decode prog_7_method_19_code 67 = .ok (.iload_n 0, 1) := by decide +kernel
theorem d1_68 : decode prog_7_method_19_code 68 = .ok (.sipush 8239, 3) := by decide +kernel
theorem d1_71 : decode prog_7_method_19_code 71 = .ok (.if_icmp .eq 17, 3) := by decide +kernel
theorem d1_74 : decode prog_7_method_19_code 74 = .ok (.iload_n 0, 1) := by decide +kernel
theorem d1_75 : decode prog_7_method_19_code 75 = .ok (.sipush 8287, 3) := by decide +kernel
theorem d1_78 : decode prog_7_method_19_code 78 = .ok (.if_icmp .eq 10, 3) := by decide +kernel
theorem d1_81 : decode prog_7_method_19_code 81 = .ok (.iload_n 0, 1) := by decide +kernel
theorem d1_82 : decode prog_7_method_19_code 82 = .ok (.sipush 12288, 3) := by decide +kernel
theorem d1_85 : decode prog_7_method_19_code 85 = .ok (.if_icmp .ne 7, 3) := by decide +kernel
theorem d1_92 : decode prog_7_method_19_code 92 = .ok (.iconst 0, 1) := by decide +kernel
theorem d1_39 : decode prog_7_method_19_code 39 = .ok (.iload_n 0, 1) := by decide +kernel
theorem d1_40 : decode prog_7_method_19_code 40 = .ok (.sipush 8192, 3) := by decide +kernel
theorem d1_43 : decode prog_7_method_19_code 43 = .ok (.if_icmp .lt 10, 3) := by decide +kernel
theorem d1_46 : decode prog_7_method_19_code 46 = .ok (.iload_n 0, 1) := by decide +kernel
theorem d1_47 : decode prog_7_method_19_code 47 = .ok (.sipush 8202, 3) := by decide +kernel
theorem d1_50 : decode prog_7_method_19_code 50 = .ok (.if_icmp .le 38, 3) := by decide +kernel
theorem d1_0 : decode prog_7_method_19_code 0 = .ok (.iload_n 0, 1) := by decide +kernel
theorem d1_1 : decode prog_7_method_19_code 1 = .ok (.bipush 9, 2) := by decide +kernel
theorem d1_3 : decode prog_7_method_19_code 3 = .ok (.if_icmp .lt 9, 3) := by decide +kernel
theorem d1_6 : decode prog_7_method_19_code 6 = .ok (.iload_n 0, 1) := by decide +kernel
theorem d1_7 : decode prog_7_method_19_code 7 = .ok (.bipush 13, 2) := by decide +kernel
theorem d1_9 : decode prog_7_method_19_code 9 = .ok (.if_icmp .le 79, 3) := by decide +kernel
def RM1 : Room := { frames := 0, cells := 0, slots := 0, locals := 0 }
def Q1 (Z : State) (p1 : Int32) (h0 : Heap) (n0 : Nat) (v : Option Value) (h : Heap) (L : List Loc) : Prop := v = some (.int (own_ws p1)) ∧ Fr n0 L ∧ h = h0
set_option maxRecDepth 65536 in
set_option maxHeartbeats 40000000 in
theorem rm1 (l : Launch) (Z : State) (a0 : Array Value) (hw : ∀ d ∈ tables_1, d.before a0 Z = true) (ws : List Jvm.Cond) (p1 : Int32) (h0 : Heap) (n0 : Nat) (Z0 : n0 ≤ h0.size)  :
    MetFree l (⟨"com/example/terseform/terseform/Grammar", "isWhitespace", "(I)Z"⟩ : MethodName) (head1 (Jvm.Cond.code (⟨"com/example/terseform/terseform/Grammar", "isWhitespace", "(I)Z"⟩ : MethodName) prog_7_method_19_code 1 (some .boolean) :: ws) RM1) (fun a U => a = #[(.int p1)] ∧ Z.Warmed39 U.vm ∧ U.heap = h0) (fun _ _ _ _ _ => True) (fun _ U o U' => ∃ v L, o = .returned v ∧ Q1 Z p1 h0 n0 v U'.heap L ∧ FrameEnd U o U' L RM1.cells RM1.slots) := by
  refine met_of (Q := fun v h L => Q1 Z p1 h0 n0 v h L) (plainFor_of_name pn_0) (fun m => by first | (simp [entryFrame, mkF, argsToLocals, Value.category]; done) | rfl) (Ls := #[.val (.int p1)]) ?_
  intro p e s m below meth c T0 QQ hx hZ hby hml hown hnm hret hlk X0 e0 hQ
  have hml : c.maxLocals = 1 := hml
  have hown : s.vm.findClass "com/example/terseform/terseform/Grammar" = some m.cls := hown
  have hnm : meth.name = "isWhitespace" := hnm
  have hret : meth.sig.returnType = some .boolean := hret
  have N0 := Fr.nil n0
  have K0 : Keep h0 h0 [] := Keep.refl h0 _
  show GoW p e below QQ (T0.setTop (mkF m 0 #[.val (.int p1)] []))
  have J12_1 : ∀ (TJ1 : State) (LJ1 : List Loc)  (XJ1 : Stand p l e RM1 s m #[(.int p1)] below meth c TJ1 LJ1 0 0) (eJ1 : TJ1.heap = h0) (NJ1 : Fr n0 LJ1)  (hj1 : ¬ (9 ≤ p1.toInt ∧ p1.toInt ≤ 13)), GoW p e below QQ (TJ1.setTop (mkF m 12 #[.val (.int p1)] [])) := by
    intro TJ1 LJ1   XJ1 eJ1 NJ1   hj1
    refine GoW.st (fun t k => XS.iloadN XJ1.here hx rfl (hb hby d1_12) rfl (XS.bipush XJ1.here hx rfl (hb hby d1_13) k)) ?_
    show GoW p e below QQ (TJ1.setTop (mkF m 15 #[.val (.int p1)] [(.int (32 : Int32)), (.int p1)]))
    by_cases hc15 : p1 = (32 : Int32)
    · skip
      refine GoW.st (fun t k => XS.icmpYes XJ1.here hx rfl (pc0 := 15) (pc' := 88) rfl (hb hby d1_15) rfl (teq hc15).1 (by decide) (by decide) k) ?_
      show GoW p e below QQ (TJ1.setTop (mkF m 88 #[.val (.int p1)] []))
      have hi15 : p1.toInt = 32 := (congrArg Int32.toInt hc15)
      refine GoW.st (fun t k => XS.iconst XJ1.here hx rfl (hb hby d1_88) (XS.goto XJ1.here hx rfl (pc0 := 89) (pc' := 93) rfl (hb hby d1_89) (by decide) (by decide) k)) ?_
      show GoW p e below QQ (TJ1.setTop (mkF m 93 #[.val (.int p1)] [(.int (1 : Int32))]))
      have rv : ((some (.int (nar .boolean (1 : Int32)))) : Option Value) = some (.int (own_ws p1)) := by
        rw [own_ws, if_pos (by unfold own_W; omega)]
        all_goals rfl
      exact GoW.fin XJ1 (some (.int (nar .boolean (1 : Int32)))) (fun q => by rw [hret] at q; cases q) hlk hQ eJ1 ⟨rv, NJ1, rfl⟩ (by decide) (by decide) (fun fs hr => retN XJ1 hx (t := .boolean) hret (by simp) (hb hby d1_93) hr)
    · skip
      refine GoW.st (fun t k => XS.icmpNo XJ1.here hx rfl (hb hby d1_15) rfl (feq hc15).1 k) ?_
      show GoW p e below QQ (TJ1.setTop (mkF m 18 #[.val (.int p1)] []))
      have hi15 : ¬ (p1.toInt = 32) := (fun q => hc15 (Int32.toInt_inj.mp q))
      refine GoW.st (fun t k => XS.iloadN XJ1.here hx rfl (hb hby d1_18) rfl (XS.sipush XJ1.here hx rfl (hb hby d1_19) k)) ?_
      show GoW p e below QQ (TJ1.setTop (mkF m 22 #[.val (.int p1)] [(.int (133 : Int32)), (.int p1)]))
      by_cases hc22 : p1 = (133 : Int32)
      · skip
        refine GoW.st (fun t k => XS.icmpYes XJ1.here hx rfl (pc0 := 22) (pc' := 88) rfl (hb hby d1_22) rfl (teq hc22).1 (by decide) (by decide) k) ?_
        show GoW p e below QQ (TJ1.setTop (mkF m 88 #[.val (.int p1)] []))
        have hi22 : p1.toInt = 133 := (congrArg Int32.toInt hc22)
        refine GoW.st (fun t k => XS.iconst XJ1.here hx rfl (hb hby d1_88) (XS.goto XJ1.here hx rfl (pc0 := 89) (pc' := 93) rfl (hb hby d1_89) (by decide) (by decide) k)) ?_
        show GoW p e below QQ (TJ1.setTop (mkF m 93 #[.val (.int p1)] [(.int (1 : Int32))]))
        have rv : ((some (.int (nar .boolean (1 : Int32)))) : Option Value) = some (.int (own_ws p1)) := by
          rw [own_ws, if_pos (by unfold own_W; omega)]
          all_goals rfl
        exact GoW.fin XJ1 (some (.int (nar .boolean (1 : Int32)))) (fun q => by rw [hret] at q; cases q) hlk hQ eJ1 ⟨rv, NJ1, rfl⟩ (by decide) (by decide) (fun fs hr => retN XJ1 hx (t := .boolean) hret (by simp) (hb hby d1_93) hr)
      · skip
        refine GoW.st (fun t k => XS.icmpNo XJ1.here hx rfl (hb hby d1_22) rfl (feq hc22).1 k) ?_
        show GoW p e below QQ (TJ1.setTop (mkF m 25 #[.val (.int p1)] []))
        have hi22 : ¬ (p1.toInt = 133) := (fun q => hc22 (Int32.toInt_inj.mp q))
        refine GoW.st (fun t k => XS.iloadN XJ1.here hx rfl (hb hby d1_25) rfl (XS.sipush XJ1.here hx rfl (hb hby d1_26) k)) ?_
        show GoW p e below QQ (TJ1.setTop (mkF m 29 #[.val (.int p1)] [(.int (160 : Int32)), (.int p1)]))
        by_cases hc29 : p1 = (160 : Int32)
        · skip
          refine GoW.st (fun t k => XS.icmpYes XJ1.here hx rfl (pc0 := 29) (pc' := 88) rfl (hb hby d1_29) rfl (teq hc29).1 (by decide) (by decide) k) ?_
          show GoW p e below QQ (TJ1.setTop (mkF m 88 #[.val (.int p1)] []))
          have hi29 : p1.toInt = 160 := (congrArg Int32.toInt hc29)
          refine GoW.st (fun t k => XS.iconst XJ1.here hx rfl (hb hby d1_88) (XS.goto XJ1.here hx rfl (pc0 := 89) (pc' := 93) rfl (hb hby d1_89) (by decide) (by decide) k)) ?_
          show GoW p e below QQ (TJ1.setTop (mkF m 93 #[.val (.int p1)] [(.int (1 : Int32))]))
          have rv : ((some (.int (nar .boolean (1 : Int32)))) : Option Value) = some (.int (own_ws p1)) := by
            rw [own_ws, if_pos (by unfold own_W; omega)]
            all_goals rfl
          exact GoW.fin XJ1 (some (.int (nar .boolean (1 : Int32)))) (fun q => by rw [hret] at q; cases q) hlk hQ eJ1 ⟨rv, NJ1, rfl⟩ (by decide) (by decide) (fun fs hr => retN XJ1 hx (t := .boolean) hret (by simp) (hb hby d1_93) hr)
        · skip
          refine GoW.st (fun t k => XS.icmpNo XJ1.here hx rfl (hb hby d1_29) rfl (feq hc29).1 k) ?_
          show GoW p e below QQ (TJ1.setTop (mkF m 32 #[.val (.int p1)] []))
          have hi29 : ¬ (p1.toInt = 160) := (fun q => hc29 (Int32.toInt_inj.mp q))
          refine GoW.st (fun t k => XS.iloadN XJ1.here hx rfl (hb hby d1_32) rfl (XS.sipush XJ1.here hx rfl (hb hby d1_33) k)) ?_
          show GoW p e below QQ (TJ1.setTop (mkF m 36 #[.val (.int p1)] [(.int (5760 : Int32)), (.int p1)]))
          by_cases hc36 : p1 = (5760 : Int32)
          · skip
            refine GoW.st (fun t k => XS.icmpYes XJ1.here hx rfl (pc0 := 36) (pc' := 88) rfl (hb hby d1_36) rfl (teq hc36).1 (by decide) (by decide) k) ?_
            show GoW p e below QQ (TJ1.setTop (mkF m 88 #[.val (.int p1)] []))
            have hi36 : p1.toInt = 5760 := (congrArg Int32.toInt hc36)
            refine GoW.st (fun t k => XS.iconst XJ1.here hx rfl (hb hby d1_88) (XS.goto XJ1.here hx rfl (pc0 := 89) (pc' := 93) rfl (hb hby d1_89) (by decide) (by decide) k)) ?_
            show GoW p e below QQ (TJ1.setTop (mkF m 93 #[.val (.int p1)] [(.int (1 : Int32))]))
            have rv : ((some (.int (nar .boolean (1 : Int32)))) : Option Value) = some (.int (own_ws p1)) := by
              rw [own_ws, if_pos (by unfold own_W; omega)]
              all_goals rfl
            exact GoW.fin XJ1 (some (.int (nar .boolean (1 : Int32)))) (fun q => by rw [hret] at q; cases q) hlk hQ eJ1 ⟨rv, NJ1, rfl⟩ (by decide) (by decide) (fun fs hr => retN XJ1 hx (t := .boolean) hret (by simp) (hb hby d1_93) hr)
          · skip
            refine GoW.st (fun t k => XS.icmpNo XJ1.here hx rfl (hb hby d1_36) rfl (feq hc36).1 k) ?_
            show GoW p e below QQ (TJ1.setTop (mkF m 39 #[.val (.int p1)] []))
            have hi36 : ¬ (p1.toInt = 5760) := (fun q => hc36 (Int32.toInt_inj.mp q))
            have J53_2 : ∀ (TJ2 : State) (LJ2 : List Loc)  (XJ2 : Stand p l e RM1 s m #[(.int p1)] below meth c TJ2 LJ2 0 0) (eJ2 : TJ2.heap = h0) (NJ2 : Fr n0 LJ2)  (hj2 : ¬ (8192 ≤ p1.toInt ∧ p1.toInt ≤ 8202)), GoW p e below QQ (TJ2.setTop (mkF m 53 #[.val (.int p1)] [])) := by
              intro TJ2 LJ2   XJ2 eJ2 NJ2   hj2
              refine GoW.st (fun t k => XS.iloadN XJ2.here hx rfl (hb hby d1_53) rfl (XS.sipush XJ2.here hx rfl (hb hby d1_54) k)) ?_
              show GoW p e below QQ (TJ2.setTop (mkF m 57 #[.val (.int p1)] [(.int (8232 : Int32)), (.int p1)]))
              by_cases hc57 : p1 = (8232 : Int32)
              · skip
                refine GoW.st (fun t k => XS.icmpYes XJ2.here hx rfl (pc0 := 57) (pc' := 88) rfl (hb hby d1_57) rfl (teq hc57).1 (by decide) (by decide) k) ?_
                show GoW p e below QQ (TJ2.setTop (mkF m 88 #[.val (.int p1)] []))
                have hi57 : p1.toInt = 8232 := (congrArg Int32.toInt hc57)
                refine GoW.st (fun t k => XS.iconst XJ2.here hx rfl (hb hby d1_88) (XS.goto XJ2.here hx rfl (pc0 := 89) (pc' := 93) rfl (hb hby d1_89) (by decide) (by decide) k)) ?_
                show GoW p e below QQ (TJ2.setTop (mkF m 93 #[.val (.int p1)] [(.int (1 : Int32))]))
                have rv : ((some (.int (nar .boolean (1 : Int32)))) : Option Value) = some (.int (own_ws p1)) := by
                  rw [own_ws, if_pos (by unfold own_W; omega)]
                  all_goals rfl
                exact GoW.fin XJ2 (some (.int (nar .boolean (1 : Int32)))) (fun q => by rw [hret] at q; cases q) hlk hQ eJ2 ⟨rv, NJ2, rfl⟩ (by decide) (by decide) (fun fs hr => retN XJ2 hx (t := .boolean) hret (by simp) (hb hby d1_93) hr)
              · skip
                refine GoW.st (fun t k => XS.icmpNo XJ2.here hx rfl (hb hby d1_57) rfl (feq hc57).1 k) ?_
                show GoW p e below QQ (TJ2.setTop (mkF m 60 #[.val (.int p1)] []))
                have hi57 : ¬ (p1.toInt = 8232) := (fun q => hc57 (Int32.toInt_inj.mp q))
                refine GoW.st (fun t k => XS.iloadN XJ2.here hx rfl (hb hby d1_60) rfl (XS.sipush XJ2.here hx rfl (hb hby d1_61) k)) ?_
                show GoW p e below QQ (TJ2.setTop (mkF m 64 #[.val (.int p1)] [(.int (8233 : Int32)), (.int p1)]))
                by_cases hc64 : p1 = (8233 : Int32)
                · skip
                  refine GoW.st (fun t k => XS.icmpYes XJ2.here hx rfl (pc0 := 64) (pc' := 88) rfl (hb hby d1_64) rfl (teq hc64).1 (by decide) (by decide) k) ?_
                  show GoW p e below QQ (TJ2.setTop (mkF m 88 #[.val (.int p1)] []))
                  have hi64 : p1.toInt = 8233 := (congrArg Int32.toInt hc64)
                  refine GoW.st (fun t k => XS.iconst XJ2.here hx rfl (hb hby d1_88) (XS.goto XJ2.here hx rfl (pc0 := 89) (pc' := 93) rfl (hb hby d1_89) (by decide) (by decide) k)) ?_
                  show GoW p e below QQ (TJ2.setTop (mkF m 93 #[.val (.int p1)] [(.int (1 : Int32))]))
                  have rv : ((some (.int (nar .boolean (1 : Int32)))) : Option Value) = some (.int (own_ws p1)) := by
                    rw [own_ws, if_pos (by unfold own_W; omega)]
                    all_goals rfl
                  exact GoW.fin XJ2 (some (.int (nar .boolean (1 : Int32)))) (fun q => by rw [hret] at q; cases q) hlk hQ eJ2 ⟨rv, NJ2, rfl⟩ (by decide) (by decide) (fun fs hr => retN XJ2 hx (t := .boolean) hret (by simp) (hb hby d1_93) hr)
                · skip
                  refine GoW.st (fun t k => XS.icmpNo XJ2.here hx rfl (hb hby d1_64) rfl (feq hc64).1 k) ?_
                  show GoW p e below QQ (TJ2.setTop (mkF m 67 #[.val (.int p1)] []))
                  have hi64 : ¬ (p1.toInt = 8233) := (fun q => hc64 (Int32.toInt_inj.mp q))
                  refine GoW.st (fun t k => XS.iloadN XJ2.here hx rfl (hb hby d1_67) rfl (XS.sipush XJ2.here hx rfl (hb hby d1_68) k)) ?_
                  show GoW p e below QQ (TJ2.setTop (mkF m 71 #[.val (.int p1)] [(.int (8239 : Int32)), (.int p1)]))
                  by_cases hc71 : p1 = (8239 : Int32)
                  · skip
                    refine GoW.st (fun t k => XS.icmpYes XJ2.here hx rfl (pc0 := 71) (pc' := 88) rfl (hb hby d1_71) rfl (teq hc71).1 (by decide) (by decide) k) ?_
                    show GoW p e below QQ (TJ2.setTop (mkF m 88 #[.val (.int p1)] []))
                    have hi71 : p1.toInt = 8239 := (congrArg Int32.toInt hc71)
                    refine GoW.st (fun t k => XS.iconst XJ2.here hx rfl (hb hby d1_88) (XS.goto XJ2.here hx rfl (pc0 := 89) (pc' := 93) rfl (hb hby d1_89) (by decide) (by decide) k)) ?_
                    show GoW p e below QQ (TJ2.setTop (mkF m 93 #[.val (.int p1)] [(.int (1 : Int32))]))
                    have rv : ((some (.int (nar .boolean (1 : Int32)))) : Option Value) = some (.int (own_ws p1)) := by
                      rw [own_ws, if_pos (by unfold own_W; omega)]
                      all_goals rfl
                    exact GoW.fin XJ2 (some (.int (nar .boolean (1 : Int32)))) (fun q => by rw [hret] at q; cases q) hlk hQ eJ2 ⟨rv, NJ2, rfl⟩ (by decide) (by decide) (fun fs hr => retN XJ2 hx (t := .boolean) hret (by simp) (hb hby d1_93) hr)
                  · skip
                    refine GoW.st (fun t k => XS.icmpNo XJ2.here hx rfl (hb hby d1_71) rfl (feq hc71).1 k) ?_
                    show GoW p e below QQ (TJ2.setTop (mkF m 74 #[.val (.int p1)] []))
                    have hi71 : ¬ (p1.toInt = 8239) := (fun q => hc71 (Int32.toInt_inj.mp q))
                    refine GoW.st (fun t k => XS.iloadN XJ2.here hx rfl (hb hby d1_74) rfl (XS.sipush XJ2.here hx rfl (hb hby d1_75) k)) ?_
                    show GoW p e below QQ (TJ2.setTop (mkF m 78 #[.val (.int p1)] [(.int (8287 : Int32)), (.int p1)]))
                    by_cases hc78 : p1 = (8287 : Int32)
                    · skip
                      refine GoW.st (fun t k => XS.icmpYes XJ2.here hx rfl (pc0 := 78) (pc' := 88) rfl (hb hby d1_78) rfl (teq hc78).1 (by decide) (by decide) k) ?_
                      show GoW p e below QQ (TJ2.setTop (mkF m 88 #[.val (.int p1)] []))
                      have hi78 : p1.toInt = 8287 := (congrArg Int32.toInt hc78)
                      refine GoW.st (fun t k => XS.iconst XJ2.here hx rfl (hb hby d1_88) (XS.goto XJ2.here hx rfl (pc0 := 89) (pc' := 93) rfl (hb hby d1_89) (by decide) (by decide) k)) ?_
                      show GoW p e below QQ (TJ2.setTop (mkF m 93 #[.val (.int p1)] [(.int (1 : Int32))]))
                      have rv : ((some (.int (nar .boolean (1 : Int32)))) : Option Value) = some (.int (own_ws p1)) := by
                        rw [own_ws, if_pos (by unfold own_W; omega)]
                        all_goals rfl
                      exact GoW.fin XJ2 (some (.int (nar .boolean (1 : Int32)))) (fun q => by rw [hret] at q; cases q) hlk hQ eJ2 ⟨rv, NJ2, rfl⟩ (by decide) (by decide) (fun fs hr => retN XJ2 hx (t := .boolean) hret (by simp) (hb hby d1_93) hr)
                    · skip
                      refine GoW.st (fun t k => XS.icmpNo XJ2.here hx rfl (hb hby d1_78) rfl (feq hc78).1 k) ?_
                      show GoW p e below QQ (TJ2.setTop (mkF m 81 #[.val (.int p1)] []))
                      have hi78 : ¬ (p1.toInt = 8287) := (fun q => hc78 (Int32.toInt_inj.mp q))
                      refine GoW.st (fun t k => XS.iloadN XJ2.here hx rfl (hb hby d1_81) rfl (XS.sipush XJ2.here hx rfl (hb hby d1_82) k)) ?_
                      show GoW p e below QQ (TJ2.setTop (mkF m 85 #[.val (.int p1)] [(.int (12288 : Int32)), (.int p1)]))
                      by_cases hc85 : p1 = (12288 : Int32)
                      · skip
                        refine GoW.st (fun t k => XS.icmpNo XJ2.here hx rfl (hb hby d1_85) rfl (teq hc85).2 k) ?_
                        show GoW p e below QQ (TJ2.setTop (mkF m 88 #[.val (.int p1)] []))
                        have hi85 : p1.toInt = 12288 := (congrArg Int32.toInt hc85)
                        refine GoW.st (fun t k => XS.iconst XJ2.here hx rfl (hb hby d1_88) (XS.goto XJ2.here hx rfl (pc0 := 89) (pc' := 93) rfl (hb hby d1_89) (by decide) (by decide) k)) ?_
                        show GoW p e below QQ (TJ2.setTop (mkF m 93 #[.val (.int p1)] [(.int (1 : Int32))]))
                        have rv : ((some (.int (nar .boolean (1 : Int32)))) : Option Value) = some (.int (own_ws p1)) := by
                          rw [own_ws, if_pos (by unfold own_W; omega)]
                          all_goals rfl
                        exact GoW.fin XJ2 (some (.int (nar .boolean (1 : Int32)))) (fun q => by rw [hret] at q; cases q) hlk hQ eJ2 ⟨rv, NJ2, rfl⟩ (by decide) (by decide) (fun fs hr => retN XJ2 hx (t := .boolean) hret (by simp) (hb hby d1_93) hr)
                      · skip
                        refine GoW.st (fun t k => XS.icmpYes XJ2.here hx rfl (pc0 := 85) (pc' := 92) rfl (hb hby d1_85) rfl (feq hc85).2 (by decide) (by decide) k) ?_
                        show GoW p e below QQ (TJ2.setTop (mkF m 92 #[.val (.int p1)] []))
                        have hi85 : ¬ (p1.toInt = 12288) := (fun q => hc85 (Int32.toInt_inj.mp q))
                        refine GoW.st (fun t k => XS.iconst XJ2.here hx rfl (hb hby d1_92) k) ?_
                        show GoW p e below QQ (TJ2.setTop (mkF m 93 #[.val (.int p1)] [(.int (0 : Int32))]))
                        have rv : ((some (.int (nar .boolean (0 : Int32)))) : Option Value) = some (.int (own_ws p1)) := by
                          rw [own_ws, if_neg (by unfold own_W; omega)]
                          all_goals rfl
                        exact GoW.fin XJ2 (some (.int (nar .boolean (0 : Int32)))) (fun q => by rw [hret] at q; cases q) hlk hQ eJ2 ⟨rv, NJ2, rfl⟩ (by decide) (by decide) (fun fs hr => retN XJ2 hx (t := .boolean) hret (by simp) (hb hby d1_93) hr)
            refine GoW.st (fun t k => XS.iloadN XJ1.here hx rfl (hb hby d1_39) rfl (XS.sipush XJ1.here hx rfl (hb hby d1_40) k)) ?_
            show GoW p e below QQ (TJ1.setTop (mkF m 43 #[.val (.int p1)] [(.int (8192 : Int32)), (.int p1)]))
            by_cases hc43 : p1 < (8192 : Int32)
            · skip
              refine GoW.st (fun t k => XS.icmpYes XJ1.here hx rfl (pc0 := 43) (pc' := 53) rfl (hb hby d1_43) rfl (tlt hc43).1 (by decide) (by decide) k) ?_
              show GoW p e below QQ (TJ1.setTop (mkF m 53 #[.val (.int p1)] []))
              have hi43 : p1.toInt < 8192 := (Int32.lt_iff_toInt_lt.mp hc43)
              exact J53_2 _ _  XJ1 eJ1 NJ1   (by omega)
            · skip
              refine GoW.st (fun t k => XS.icmpNo XJ1.here hx rfl (hb hby d1_43) rfl (flt hc43).1 k) ?_
              show GoW p e below QQ (TJ1.setTop (mkF m 46 #[.val (.int p1)] []))
              have hi43 : ¬ (p1.toInt < 8192) := (fun q => hc43 (Int32.lt_iff_toInt_lt.mpr q))
              refine GoW.st (fun t k => XS.iloadN XJ1.here hx rfl (hb hby d1_46) rfl (XS.sipush XJ1.here hx rfl (hb hby d1_47) k)) ?_
              show GoW p e below QQ (TJ1.setTop (mkF m 50 #[.val (.int p1)] [(.int (8202 : Int32)), (.int p1)]))
              by_cases hc50 : (8202 : Int32) < p1
              · skip
                refine GoW.st (fun t k => XS.icmpNo XJ1.here hx rfl (hb hby d1_50) rfl (tlt hc50).2.2.2 k) ?_
                show GoW p e below QQ (TJ1.setTop (mkF m 53 #[.val (.int p1)] []))
                have hi50 : 8202 < p1.toInt := (Int32.lt_iff_toInt_lt.mp hc50)
                exact J53_2 _ _  XJ1 eJ1 NJ1   (by omega)
              · skip
                refine GoW.st (fun t k => XS.icmpYes XJ1.here hx rfl (pc0 := 50) (pc' := 88) rfl (hb hby d1_50) rfl (flt hc50).2.2.2 (by decide) (by decide) k) ?_
                show GoW p e below QQ (TJ1.setTop (mkF m 88 #[.val (.int p1)] []))
                have hi50 : ¬ (8202 < p1.toInt) := (fun q => hc50 (Int32.lt_iff_toInt_lt.mpr q))
                refine GoW.st (fun t k => XS.iconst XJ1.here hx rfl (hb hby d1_88) (XS.goto XJ1.here hx rfl (pc0 := 89) (pc' := 93) rfl (hb hby d1_89) (by decide) (by decide) k)) ?_
                show GoW p e below QQ (TJ1.setTop (mkF m 93 #[.val (.int p1)] [(.int (1 : Int32))]))
                have rv : ((some (.int (nar .boolean (1 : Int32)))) : Option Value) = some (.int (own_ws p1)) := by
                  rw [own_ws, if_pos (by unfold own_W; omega)]
                  all_goals rfl
                exact GoW.fin XJ1 (some (.int (nar .boolean (1 : Int32)))) (fun q => by rw [hret] at q; cases q) hlk hQ eJ1 ⟨rv, NJ1, rfl⟩ (by decide) (by decide) (fun fs hr => retN XJ1 hx (t := .boolean) hret (by simp) (hb hby d1_93) hr)
  refine GoW.st (fun t k => XS.iloadN X0.here hx rfl (hb hby d1_0) rfl (XS.bipush X0.here hx rfl (hb hby d1_1) k)) ?_
  show GoW p e below QQ (T0.setTop (mkF m 3 #[.val (.int p1)] [(.int (9 : Int32)), (.int p1)]))
  by_cases hc3 : p1 < (9 : Int32)
  · skip
    refine GoW.st (fun t k => XS.icmpYes X0.here hx rfl (pc0 := 3) (pc' := 12) rfl (hb hby d1_3) rfl (tlt hc3).1 (by decide) (by decide) k) ?_
    show GoW p e below QQ (T0.setTop (mkF m 12 #[.val (.int p1)] []))
    have hi3 : p1.toInt < 9 := (Int32.lt_iff_toInt_lt.mp hc3)
    exact J12_1 _ _  X0 e0 N0   (by omega)
  · skip
    refine GoW.st (fun t k => XS.icmpNo X0.here hx rfl (hb hby d1_3) rfl (flt hc3).1 k) ?_
    show GoW p e below QQ (T0.setTop (mkF m 6 #[.val (.int p1)] []))
    have hi3 : ¬ (p1.toInt < 9) := (fun q => hc3 (Int32.lt_iff_toInt_lt.mpr q))
    refine GoW.st (fun t k => XS.iloadN X0.here hx rfl (hb hby d1_6) rfl (XS.bipush X0.here hx rfl (hb hby d1_7) k)) ?_
    show GoW p e below QQ (T0.setTop (mkF m 9 #[.val (.int p1)] [(.int (13 : Int32)), (.int p1)]))
    by_cases hc9 : (13 : Int32) < p1
    · skip
      refine GoW.st (fun t k => XS.icmpNo X0.here hx rfl (hb hby d1_9) rfl (tlt hc9).2.2.2 k) ?_
      show GoW p e below QQ (T0.setTop (mkF m 12 #[.val (.int p1)] []))
      have hi9 : 13 < p1.toInt := (Int32.lt_iff_toInt_lt.mp hc9)
      exact J12_1 _ _  X0 e0 N0   (by omega)
    · skip
      refine GoW.st (fun t k => XS.icmpYes X0.here hx rfl (pc0 := 9) (pc' := 88) rfl (hb hby d1_9) rfl (flt hc9).2.2.2 (by decide) (by decide) k) ?_
      show GoW p e below QQ (T0.setTop (mkF m 88 #[.val (.int p1)] []))
      have hi9 : ¬ (13 < p1.toInt) := (fun q => hc9 (Int32.lt_iff_toInt_lt.mpr q))
      refine GoW.st (fun t k => XS.iconst X0.here hx rfl (hb hby d1_88) (XS.goto X0.here hx rfl (pc0 := 89) (pc' := 93) rfl (hb hby d1_89) (by decide) (by decide) k)) ?_
      show GoW p e below QQ (T0.setTop (mkF m 93 #[.val (.int p1)] [(.int (1 : Int32))]))
      have rv : ((some (.int (nar .boolean (1 : Int32)))) : Option Value) = some (.int (own_ws p1)) := by
        rw [own_ws, if_pos (by unfold own_W; omega)]
        all_goals rfl
      exact GoW.fin X0 (some (.int (nar .boolean (1 : Int32)))) (fun q => by rw [hret] at q; cases q) hlk hQ e0 ⟨rv, N0, rfl⟩ (by decide) (by decide) (fun fs hr => retN X0 hx (t := .boolean) hret (by simp) (hb hby d1_93) hr)
theorem pn_1 : plainName "com/example/terseform/terseform/GrammarIsWhitespacePinLaw" = true := by first | (simp [plainName, overriddenIn]; done) | decide +kernel
theorem d2_13 : decode method_2_code 13 = .ok (.iload_n 0, 1) := by decide +kernel
theorem d2_14 : decode method_2_code 14 = .ok (.bipush 8, 2) := by decide +kernel
theorem d2_16 : decode method_2_code 16 = .ok (.ishr, 1) := by decide +kernel
theorem d2_17 : decode method_2_code 17 = .ok (.istore_n 1, 1) := by decide +kernel
theorem d2_18 : decode method_2_code 18 = .ok (.iload_n 0, 1) := by decide +kernel
theorem d2_19 : decode method_2_code 19 = .ok (.sipush 255, 3) := by decide +kernel
theorem d2_22 : decode method_2_code 22 = .ok (.iand, 1) := by decide +kernel
theorem d2_23 : decode method_2_code 23 = .ok (.istore_n 2, 1) := by decide +kernel
theorem d2_24 : decode method_2_code 24 = .ok (.iload_n 1, 1) := by decide +kernel
theorem d2_25 : decode method_2_code 25 = .ok (.ifCond .ne 41, 3) := by decide +kernel
theorem d2_40 : decode method_2_code 40 = .ok (.iload_n 2, 1) := by decide +kernel
theorem d2_41 : decode method_2_code 41 = .ok (.bipush 32, 2) := by decide +kernel
theorem d2_43 : decode method_2_code 43 = .ok (.if_icmp .eq 17, 3) := by decide +kernel
theorem d2_60 : decode method_2_code 60 = .ok (.iconst 1, 1) := by decide +kernel
theorem d2_61 : decode method_2_code 61 = .ok (.goto 4, 3) := by decide +kernel
theorem d2_65 : decode method_2_code 65 = .ok (.ireturn, 1) := by decide +kernel
theorem d2_46 : decode method_2_code 46 = .ok (.iload_n 2, 1) := by decide +kernel
theorem d2_47 : decode method_2_code 47 = .ok (.sipush 133, 3) := by decide +kernel
theorem d2_50 : decode method_2_code 50 = .ok (.if_icmp .eq 10, 3) := by decide +kernel
theorem d2_53 : decode method_2_code 53 = .ok (.iload_n 2, 1) := by decide +kernel
theorem d2_54 : decode method_2_code 54 = .ok (.sipush 160, 3) := by decide +kernel
theorem d2_57 : decode method_2_code 57 = .ok (.if_icmp .ne 7, 3) := by decide +kernel
theorem d2_64 : decode method_2_code 64 = .ok (.iconst 0, 1) := by decide +kernel
theorem d2_28 : decode method_2_code 28 = .ok (.iload_n 2, 1) := by decide +kernel
theorem d2_29 : decode method_2_code 29 = .ok (.bipush 9, 2) := by decide +kernel
theorem d2_31 : decode method_2_code 31 = .ok (.if_icmp .lt 9, 3) := by decide +kernel
theorem d2_34 : decode method_2_code 34 = .ok (.iload_n 2, 1) := by decide +kernel
theorem d2_35 : decode method_2_code 35 = .ok (.bipush 13, 2) := by decide +kernel
theorem d2_37 : decode method_2_code 37 = .ok (.if_icmp .le 23, 3) := by decide +kernel
theorem d2_66 : decode method_2_code 66 = .ok (.iload_n 1, 1) := by decide +kernel
theorem d2_67 : decode method_2_code 67 = .ok (.bipush 22, 2) := by decide +kernel
theorem d2_69 : decode method_2_code 69 = .ok (.if_icmp .ne 16, 3) := by decide +kernel
theorem d2_72 : decode method_2_code 72 = .ok (.iload_n 2, 1) := by decide +kernel
theorem d2_73 : decode method_2_code 73 = .ok (.sipush 128, 3) := by decide +kernel
theorem d2_76 : decode method_2_code 76 = .ok (.if_icmp .ne 7, 3) := by decide +kernel
theorem d2_79 : decode method_2_code 79 = .ok (.iconst 1, 1) := by decide +kernel
theorem d2_80 : decode method_2_code 80 = .ok (.goto 4, 3) := by decide +kernel
theorem d2_84 : decode method_2_code 84 = .ok (.ireturn, 1) := by decide +kernel
theorem d2_83 : decode method_2_code 83 = .ok (.iconst 0, 1) := by decide +kernel
theorem d2_85 : decode method_2_code 85 = .ok (.iload_n 1, 1) := by decide +kernel
theorem d2_86 : decode method_2_code 86 = .ok (.bipush 32, 2) := by decide +kernel
theorem d2_88 : decode method_2_code 88 = .ok (.if_icmp .ne 39, 3) := by decide +kernel
theorem d2_91 : decode method_2_code 91 = .ok (.iload_n 2, 1) := by decide +kernel
theorem d2_92 : decode method_2_code 92 = .ok (.bipush 10, 2) := by decide +kernel
theorem d2_94 : decode method_2_code 94 = .ok (.if_icmp .le 27, 3) := by decide +kernel
theorem d2_97 : decode method_2_code 97 = .ok (.iload_n 2, 1) := by decide +kernel
theorem d2_98 : decode method_2_code 98 = .ok (.bipush 40, 2) := by decide +kernel
theorem d2_100 : decode method_2_code 100 = .ok (.if_icmp .eq 21, 3) := by decide +kernel
theorem d2_121 : decode method_2_code 121 = .ok (.iconst 1, 1) := by decide +kernel
theorem d2_122 : decode method_2_code 122 = .ok (.goto 4, 3) := by decide +kernel
theorem d2_126 : decode method_2_code 126 = .ok (.ireturn, 1) := by decide +kernel
theorem d2_103 : decode method_2_code 103 = .ok (.iload_n 2, 1) := by decide +kernel
theorem d2_104 : decode method_2_code 104 = .ok (.bipush 41, 2) := by decide +kernel
theorem d2_106 : decode method_2_code 106 = .ok (.if_icmp .eq 15, 3) := by decide +kernel
theorem d2_109 : decode method_2_code 109 = .ok (.iload_n 2, 1) := by decide +kernel
theorem d2_110 : decode method_2_code 110 = .ok (.bipush 47, 2) := by decide +kernel
theorem d2_112 : decode method_2_code 112 = .ok (.if_icmp .eq 9, 3) := by decide +kernel
theorem d2_115 : decode method_2_code 115 = .ok (.iload_n 2, 1) := by decide +kernel
theorem d2_116 : decode method_2_code 116 = .ok (.bipush 95, 2) := by decide +kernel
theorem d2_118 : decode method_2_code 118 = .ok (.if_icmp .ne 7, 3) := by decide +kernel
theorem d2_125 : decode method_2_code 125 = .ok (.iconst 0, 1) := by decide +kernel
theorem d2_127 : decode method_2_code 127 = .ok (.iload_n 1, 1) := by decide +kernel
theorem d2_128 : decode method_2_code 128 = .ok (.bipush 48, 2) := by decide +kernel
theorem d2_130 : decode method_2_code 130 = .ok (.if_icmp .ne 13, 3) := by decide +kernel
theorem d2_133 : decode method_2_code 133 = .ok (.iload_n 2, 1) := by decide +kernel
theorem d2_134 : decode method_2_code 134 = .ok (.ifCond .ne 7, 3) := by decide +kernel
theorem d2_137 : decode method_2_code 137 = .ok (.iconst 1, 1) := by decide +kernel
theorem d2_138 : decode method_2_code 138 = .ok (.goto 4, 3) := by decide +kernel
theorem d2_142 : decode method_2_code 142 = .ok (.ireturn, 1) := by decide +kernel
theorem d2_141 : decode method_2_code 141 = .ok (.iconst 0, 1) := by decide +kernel
theorem d2_143 : decode method_2_code 143 = .ok (.iconst 0, 1) := by decide +kernel
theorem d2_144 : decode method_2_code 144 = .ok (.ireturn, 1) := by decide +kernel
theorem d2_0 : decode method_2_code 0 = .ok (.iload_n 0, 1) := by decide +kernel
theorem d2_1 : decode method_2_code 1 = .ok (.ifCond .lt 10, 3) := by decide +kernel
theorem d2_11 : decode method_2_code 11 = .ok (.iconst 0, 1) := by decide +kernel
theorem d2_12 : decode method_2_code 12 = .ok (.ireturn, 1) := by decide +kernel
theorem d2_4 : decode method_2_code 4 = .ok (.iload_n 0, 1) := by decide +kernel
theorem d2_5 : decode method_2_code 5 = .ok (.sipush 12288, 3) := by decide +kernel
theorem d2_8 : decode method_2_code 8 = .ok (.if_icmp .le 5, 3) := by decide +kernel
def RM2 : Room := { frames := 0, cells := 0, slots := 0, locals := 0 }
def Q2 (Z : State) (p1 : Int32) (h0 : Heap) (n0 : Nat) (v : Option Value) (h : Heap) (L : List Loc) : Prop := v = some (.int (own_ws p1)) ∧ Fr n0 L ∧ h = h0
set_option maxRecDepth 65536 in
set_option maxHeartbeats 40000000 in
theorem rm2 (l : Launch) (Z : State) (a0 : Array Value) (hw : ∀ d ∈ tables_1, d.before a0 Z = true) (ws : List Jvm.Cond) (p1 : Int32) (h0 : Heap) (n0 : Nat) (Z0 : n0 ≤ h0.size)  :
    MetFree l (⟨"com/example/terseform/terseform/GrammarIsWhitespacePinLaw", "ref", "(I)Z"⟩ : MethodName) (head1 (Jvm.Cond.code (⟨"com/example/terseform/terseform/GrammarIsWhitespacePinLaw", "ref", "(I)Z"⟩ : MethodName) method_2_code 3 (some .boolean) :: ws) RM2) (fun a U => a = #[(.int p1)] ∧ Z.Warmed39 U.vm ∧ U.heap = h0) (fun _ _ _ _ _ => True) (fun _ U o U' => ∃ v L, o = .returned v ∧ Q2 Z p1 h0 n0 v U'.heap L ∧ FrameEnd U o U' L RM2.cells RM2.slots) := by
  refine met_of (Q := fun v h L => Q2 Z p1 h0 n0 v h L) (plainFor_of_name pn_1) (fun m => by first | (simp [entryFrame, mkF, argsToLocals, Value.category]; done) | rfl) (Ls := #[.val (.int p1), .unset, .unset]) ?_
  intro p e s m below meth c T0 QQ hx hZ hby hml hown hnm hret hlk X0 e0 hQ
  have hml : c.maxLocals = 3 := hml
  have hown : s.vm.findClass "com/example/terseform/terseform/GrammarIsWhitespacePinLaw" = some m.cls := hown
  have hnm : meth.name = "ref" := hnm
  have hret : meth.sig.returnType = some .boolean := hret
  have N0 := Fr.nil n0
  have K0 : Keep h0 h0 [] := Keep.refl h0 _
  show GoW p e below QQ (T0.setTop (mkF m 0 #[.val (.int p1), .unset, .unset] []))
  have J13_1 : ∀ (TJ1 : State) (LJ1 : List Loc)  (XJ1 : Stand p l e RM2 s m #[(.int p1)] below meth c TJ1 LJ1 0 0) (eJ1 : TJ1.heap = h0) (NJ1 : Fr n0 LJ1)  (hj1 : 0 ≤ p1.toInt ∧ p1.toInt ≤ 12288), GoW p e below QQ (TJ1.setTop (mkF m 13 #[.val (.int p1), .unset, .unset] [])) := by
    intro TJ1 LJ1   XJ1 eJ1 NJ1   hj1
    refine GoW.st (fun t k => XS.iloadN XJ1.here hx rfl (hb hby d2_13) rfl (XS.bipush XJ1.here hx rfl (hb hby d2_14) (XS.ishr XJ1.here hx rfl (hb hby d2_16) rfl (XS.istoreN XJ1.here hx rfl (hb hby d2_17) rfl (l' := #[.val (.int p1), .val (.int (p1 >>> ((8 : Int32) &&& 31))), .unset]) rfl k)))) ?_
    show GoW p e below QQ (TJ1.setTop (mkF m 18 #[.val (.int p1), .val (.int (p1 >>> ((8 : Int32) &&& 31))), .unset] []))
    generalize hv17 : (p1 >>> ((8 : Int32) &&& 31)) = v17
    refine GoW.st (fun t k => XS.iloadN XJ1.here hx rfl (hb hby d2_18) rfl (XS.sipush XJ1.here hx rfl (hb hby d2_19) (XS.iand XJ1.here hx rfl (hb hby d2_22) rfl (XS.istoreN XJ1.here hx rfl (hb hby d2_23) rfl (l' := #[.val (.int p1), .val (.int v17), .val (.int (p1 &&& (255 : Int32)))]) rfl k)))) ?_
    show GoW p e below QQ (TJ1.setTop (mkF m 24 #[.val (.int p1), .val (.int v17), .val (.int (p1 &&& (255 : Int32)))] []))
    generalize hv23 : (p1 &&& (255 : Int32)) = v23
    have a1 := c_ishr p1 8 8 rfl
    rw [hv17] at a1
    have a2 := c_mask p1 255 8 (by decide) rfl
    rw [hv23] at a2
    refine GoW.st (fun t k => XS.iloadN XJ1.here hx rfl (hb hby d2_24) rfl k) ?_
    show GoW p e below QQ (TJ1.setTop (mkF m 25 #[.val (.int p1), .val (.int v17), .val (.int v23)] [(.int v17)]))
    by_cases hc25 : v17 = (0 : Int32)
    · skip
      refine GoW.st (fun t k => XS.ifNo XJ1.here hx rfl (hb hby d2_25) rfl ((if0 _ _).trans (teq hc25).2) k) ?_
      show GoW p e below QQ (TJ1.setTop (mkF m 28 #[.val (.int p1), .val (.int v17), .val (.int v23)] []))
      have hi25 : v17.toInt = 0 := (congrArg Int32.toInt hc25)
      have J40_2 : ∀ (TJ2 : State) (LJ2 : List Loc)  (XJ2 : Stand p l e RM2 s m #[(.int p1)] below meth c TJ2 LJ2 0 0) (eJ2 : TJ2.heap = h0) (NJ2 : Fr n0 LJ2)  (hj2 : ¬ (9 ≤ v23.toInt ∧ v23.toInt ≤ 13)), GoW p e below QQ (TJ2.setTop (mkF m 40 #[.val (.int p1), .val (.int v17), .val (.int v23)] [])) := by
        intro TJ2 LJ2   XJ2 eJ2 NJ2   hj2
        refine GoW.st (fun t k => XS.iloadN XJ2.here hx rfl (hb hby d2_40) rfl (XS.bipush XJ2.here hx rfl (hb hby d2_41) k)) ?_
        show GoW p e below QQ (TJ2.setTop (mkF m 43 #[.val (.int p1), .val (.int v17), .val (.int v23)] [(.int (32 : Int32)), (.int v23)]))
        by_cases hc43 : v23 = (32 : Int32)
        · skip
          refine GoW.st (fun t k => XS.icmpYes XJ2.here hx rfl (pc0 := 43) (pc' := 60) rfl (hb hby d2_43) rfl (teq hc43).1 (by decide) (by decide) k) ?_
          show GoW p e below QQ (TJ2.setTop (mkF m 60 #[.val (.int p1), .val (.int v17), .val (.int v23)] []))
          have hi43 : v23.toInt = 32 := (congrArg Int32.toInt hc43)
          refine GoW.st (fun t k => XS.iconst XJ2.here hx rfl (hb hby d2_60) (XS.goto XJ2.here hx rfl (pc0 := 61) (pc' := 65) rfl (hb hby d2_61) (by decide) (by decide) k)) ?_
          show GoW p e below QQ (TJ2.setTop (mkF m 65 #[.val (.int p1), .val (.int v17), .val (.int v23)] [(.int (1 : Int32))]))
          have rv : ((some (.int (nar .boolean (1 : Int32)))) : Option Value) = some (.int (own_ws p1)) := by
            rw [own_ws, if_pos (by unfold own_W; omega)]
            all_goals rfl
          exact GoW.fin XJ2 (some (.int (nar .boolean (1 : Int32)))) (fun q => by rw [hret] at q; cases q) hlk hQ eJ2 ⟨rv, NJ2, rfl⟩ (by decide) (by decide) (fun fs hr => retN XJ2 hx (t := .boolean) hret (by simp) (hb hby d2_65) hr)
        · skip
          refine GoW.st (fun t k => XS.icmpNo XJ2.here hx rfl (hb hby d2_43) rfl (feq hc43).1 k) ?_
          show GoW p e below QQ (TJ2.setTop (mkF m 46 #[.val (.int p1), .val (.int v17), .val (.int v23)] []))
          have hi43 : ¬ (v23.toInt = 32) := (fun q => hc43 (Int32.toInt_inj.mp q))
          refine GoW.st (fun t k => XS.iloadN XJ2.here hx rfl (hb hby d2_46) rfl (XS.sipush XJ2.here hx rfl (hb hby d2_47) k)) ?_
          show GoW p e below QQ (TJ2.setTop (mkF m 50 #[.val (.int p1), .val (.int v17), .val (.int v23)] [(.int (133 : Int32)), (.int v23)]))
          by_cases hc50 : v23 = (133 : Int32)
          · skip
            refine GoW.st (fun t k => XS.icmpYes XJ2.here hx rfl (pc0 := 50) (pc' := 60) rfl (hb hby d2_50) rfl (teq hc50).1 (by decide) (by decide) k) ?_
            show GoW p e below QQ (TJ2.setTop (mkF m 60 #[.val (.int p1), .val (.int v17), .val (.int v23)] []))
            have hi50 : v23.toInt = 133 := (congrArg Int32.toInt hc50)
            refine GoW.st (fun t k => XS.iconst XJ2.here hx rfl (hb hby d2_60) (XS.goto XJ2.here hx rfl (pc0 := 61) (pc' := 65) rfl (hb hby d2_61) (by decide) (by decide) k)) ?_
            show GoW p e below QQ (TJ2.setTop (mkF m 65 #[.val (.int p1), .val (.int v17), .val (.int v23)] [(.int (1 : Int32))]))
            have rv : ((some (.int (nar .boolean (1 : Int32)))) : Option Value) = some (.int (own_ws p1)) := by
              rw [own_ws, if_pos (by unfold own_W; omega)]
              all_goals rfl
            exact GoW.fin XJ2 (some (.int (nar .boolean (1 : Int32)))) (fun q => by rw [hret] at q; cases q) hlk hQ eJ2 ⟨rv, NJ2, rfl⟩ (by decide) (by decide) (fun fs hr => retN XJ2 hx (t := .boolean) hret (by simp) (hb hby d2_65) hr)
          · skip
            refine GoW.st (fun t k => XS.icmpNo XJ2.here hx rfl (hb hby d2_50) rfl (feq hc50).1 k) ?_
            show GoW p e below QQ (TJ2.setTop (mkF m 53 #[.val (.int p1), .val (.int v17), .val (.int v23)] []))
            have hi50 : ¬ (v23.toInt = 133) := (fun q => hc50 (Int32.toInt_inj.mp q))
            refine GoW.st (fun t k => XS.iloadN XJ2.here hx rfl (hb hby d2_53) rfl (XS.sipush XJ2.here hx rfl (hb hby d2_54) k)) ?_
            show GoW p e below QQ (TJ2.setTop (mkF m 57 #[.val (.int p1), .val (.int v17), .val (.int v23)] [(.int (160 : Int32)), (.int v23)]))
            by_cases hc57 : v23 = (160 : Int32)
            · skip
              refine GoW.st (fun t k => XS.icmpNo XJ2.here hx rfl (hb hby d2_57) rfl (teq hc57).2 k) ?_
              show GoW p e below QQ (TJ2.setTop (mkF m 60 #[.val (.int p1), .val (.int v17), .val (.int v23)] []))
              have hi57 : v23.toInt = 160 := (congrArg Int32.toInt hc57)
              refine GoW.st (fun t k => XS.iconst XJ2.here hx rfl (hb hby d2_60) (XS.goto XJ2.here hx rfl (pc0 := 61) (pc' := 65) rfl (hb hby d2_61) (by decide) (by decide) k)) ?_
              show GoW p e below QQ (TJ2.setTop (mkF m 65 #[.val (.int p1), .val (.int v17), .val (.int v23)] [(.int (1 : Int32))]))
              have rv : ((some (.int (nar .boolean (1 : Int32)))) : Option Value) = some (.int (own_ws p1)) := by
                rw [own_ws, if_pos (by unfold own_W; omega)]
                all_goals rfl
              exact GoW.fin XJ2 (some (.int (nar .boolean (1 : Int32)))) (fun q => by rw [hret] at q; cases q) hlk hQ eJ2 ⟨rv, NJ2, rfl⟩ (by decide) (by decide) (fun fs hr => retN XJ2 hx (t := .boolean) hret (by simp) (hb hby d2_65) hr)
            · skip
              refine GoW.st (fun t k => XS.icmpYes XJ2.here hx rfl (pc0 := 57) (pc' := 64) rfl (hb hby d2_57) rfl (feq hc57).2 (by decide) (by decide) k) ?_
              show GoW p e below QQ (TJ2.setTop (mkF m 64 #[.val (.int p1), .val (.int v17), .val (.int v23)] []))
              have hi57 : ¬ (v23.toInt = 160) := (fun q => hc57 (Int32.toInt_inj.mp q))
              refine GoW.st (fun t k => XS.iconst XJ2.here hx rfl (hb hby d2_64) k) ?_
              show GoW p e below QQ (TJ2.setTop (mkF m 65 #[.val (.int p1), .val (.int v17), .val (.int v23)] [(.int (0 : Int32))]))
              have rv : ((some (.int (nar .boolean (0 : Int32)))) : Option Value) = some (.int (own_ws p1)) := by
                rw [own_ws, if_neg (by unfold own_W; omega)]
                all_goals rfl
              exact GoW.fin XJ2 (some (.int (nar .boolean (0 : Int32)))) (fun q => by rw [hret] at q; cases q) hlk hQ eJ2 ⟨rv, NJ2, rfl⟩ (by decide) (by decide) (fun fs hr => retN XJ2 hx (t := .boolean) hret (by simp) (hb hby d2_65) hr)
      refine GoW.st (fun t k => XS.iloadN XJ1.here hx rfl (hb hby d2_28) rfl (XS.bipush XJ1.here hx rfl (hb hby d2_29) k)) ?_
      show GoW p e below QQ (TJ1.setTop (mkF m 31 #[.val (.int p1), .val (.int v17), .val (.int v23)] [(.int (9 : Int32)), (.int v23)]))
      by_cases hc31 : v23 < (9 : Int32)
      · skip
        refine GoW.st (fun t k => XS.icmpYes XJ1.here hx rfl (pc0 := 31) (pc' := 40) rfl (hb hby d2_31) rfl (tlt hc31).1 (by decide) (by decide) k) ?_
        show GoW p e below QQ (TJ1.setTop (mkF m 40 #[.val (.int p1), .val (.int v17), .val (.int v23)] []))
        have hi31 : v23.toInt < 9 := (Int32.lt_iff_toInt_lt.mp hc31)
        exact J40_2 _ _  XJ1 eJ1 NJ1   (by omega)
      · skip
        refine GoW.st (fun t k => XS.icmpNo XJ1.here hx rfl (hb hby d2_31) rfl (flt hc31).1 k) ?_
        show GoW p e below QQ (TJ1.setTop (mkF m 34 #[.val (.int p1), .val (.int v17), .val (.int v23)] []))
        have hi31 : ¬ (v23.toInt < 9) := (fun q => hc31 (Int32.lt_iff_toInt_lt.mpr q))
        refine GoW.st (fun t k => XS.iloadN XJ1.here hx rfl (hb hby d2_34) rfl (XS.bipush XJ1.here hx rfl (hb hby d2_35) k)) ?_
        show GoW p e below QQ (TJ1.setTop (mkF m 37 #[.val (.int p1), .val (.int v17), .val (.int v23)] [(.int (13 : Int32)), (.int v23)]))
        by_cases hc37 : (13 : Int32) < v23
        · skip
          refine GoW.st (fun t k => XS.icmpNo XJ1.here hx rfl (hb hby d2_37) rfl (tlt hc37).2.2.2 k) ?_
          show GoW p e below QQ (TJ1.setTop (mkF m 40 #[.val (.int p1), .val (.int v17), .val (.int v23)] []))
          have hi37 : 13 < v23.toInt := (Int32.lt_iff_toInt_lt.mp hc37)
          exact J40_2 _ _  XJ1 eJ1 NJ1   (by omega)
        · skip
          refine GoW.st (fun t k => XS.icmpYes XJ1.here hx rfl (pc0 := 37) (pc' := 60) rfl (hb hby d2_37) rfl (flt hc37).2.2.2 (by decide) (by decide) k) ?_
          show GoW p e below QQ (TJ1.setTop (mkF m 60 #[.val (.int p1), .val (.int v17), .val (.int v23)] []))
          have hi37 : ¬ (13 < v23.toInt) := (fun q => hc37 (Int32.lt_iff_toInt_lt.mpr q))
          refine GoW.st (fun t k => XS.iconst XJ1.here hx rfl (hb hby d2_60) (XS.goto XJ1.here hx rfl (pc0 := 61) (pc' := 65) rfl (hb hby d2_61) (by decide) (by decide) k)) ?_
          show GoW p e below QQ (TJ1.setTop (mkF m 65 #[.val (.int p1), .val (.int v17), .val (.int v23)] [(.int (1 : Int32))]))
          have rv : ((some (.int (nar .boolean (1 : Int32)))) : Option Value) = some (.int (own_ws p1)) := by
            rw [own_ws, if_pos (by unfold own_W; omega)]
            all_goals rfl
          exact GoW.fin XJ1 (some (.int (nar .boolean (1 : Int32)))) (fun q => by rw [hret] at q; cases q) hlk hQ eJ1 ⟨rv, NJ1, rfl⟩ (by decide) (by decide) (fun fs hr => retN XJ1 hx (t := .boolean) hret (by simp) (hb hby d2_65) hr)
    · skip
      refine GoW.st (fun t k => XS.ifYes XJ1.here hx rfl (pc0 := 25) (pc' := 66) rfl (hb hby d2_25) rfl ((if0 _ _).trans (feq hc25).2) (by decide) (by decide) k) ?_
      show GoW p e below QQ (TJ1.setTop (mkF m 66 #[.val (.int p1), .val (.int v17), .val (.int v23)] []))
      have hi25 : ¬ (v17.toInt = 0) := (fun q => hc25 (Int32.toInt_inj.mp q))
      refine GoW.st (fun t k => XS.iloadN XJ1.here hx rfl (hb hby d2_66) rfl (XS.bipush XJ1.here hx rfl (hb hby d2_67) k)) ?_
      show GoW p e below QQ (TJ1.setTop (mkF m 69 #[.val (.int p1), .val (.int v17), .val (.int v23)] [(.int (22 : Int32)), (.int v17)]))
      by_cases hc69 : v17 = (22 : Int32)
      · skip
        refine GoW.st (fun t k => XS.icmpNo XJ1.here hx rfl (hb hby d2_69) rfl (teq hc69).2 k) ?_
        show GoW p e below QQ (TJ1.setTop (mkF m 72 #[.val (.int p1), .val (.int v17), .val (.int v23)] []))
        have hi69 : v17.toInt = 22 := (congrArg Int32.toInt hc69)
        refine GoW.st (fun t k => XS.iloadN XJ1.here hx rfl (hb hby d2_72) rfl (XS.sipush XJ1.here hx rfl (hb hby d2_73) k)) ?_
        show GoW p e below QQ (TJ1.setTop (mkF m 76 #[.val (.int p1), .val (.int v17), .val (.int v23)] [(.int (128 : Int32)), (.int v23)]))
        by_cases hc76 : v23 = (128 : Int32)
        · skip
          refine GoW.st (fun t k => XS.icmpNo XJ1.here hx rfl (hb hby d2_76) rfl (teq hc76).2 k) ?_
          show GoW p e below QQ (TJ1.setTop (mkF m 79 #[.val (.int p1), .val (.int v17), .val (.int v23)] []))
          have hi76 : v23.toInt = 128 := (congrArg Int32.toInt hc76)
          refine GoW.st (fun t k => XS.iconst XJ1.here hx rfl (hb hby d2_79) (XS.goto XJ1.here hx rfl (pc0 := 80) (pc' := 84) rfl (hb hby d2_80) (by decide) (by decide) k)) ?_
          show GoW p e below QQ (TJ1.setTop (mkF m 84 #[.val (.int p1), .val (.int v17), .val (.int v23)] [(.int (1 : Int32))]))
          have rv : ((some (.int (nar .boolean (1 : Int32)))) : Option Value) = some (.int (own_ws p1)) := by
            rw [own_ws, if_pos (by unfold own_W; omega)]
            all_goals rfl
          exact GoW.fin XJ1 (some (.int (nar .boolean (1 : Int32)))) (fun q => by rw [hret] at q; cases q) hlk hQ eJ1 ⟨rv, NJ1, rfl⟩ (by decide) (by decide) (fun fs hr => retN XJ1 hx (t := .boolean) hret (by simp) (hb hby d2_84) hr)
        · skip
          refine GoW.st (fun t k => XS.icmpYes XJ1.here hx rfl (pc0 := 76) (pc' := 83) rfl (hb hby d2_76) rfl (feq hc76).2 (by decide) (by decide) k) ?_
          show GoW p e below QQ (TJ1.setTop (mkF m 83 #[.val (.int p1), .val (.int v17), .val (.int v23)] []))
          have hi76 : ¬ (v23.toInt = 128) := (fun q => hc76 (Int32.toInt_inj.mp q))
          refine GoW.st (fun t k => XS.iconst XJ1.here hx rfl (hb hby d2_83) k) ?_
          show GoW p e below QQ (TJ1.setTop (mkF m 84 #[.val (.int p1), .val (.int v17), .val (.int v23)] [(.int (0 : Int32))]))
          have rv : ((some (.int (nar .boolean (0 : Int32)))) : Option Value) = some (.int (own_ws p1)) := by
            rw [own_ws, if_neg (by unfold own_W; omega)]
            all_goals rfl
          exact GoW.fin XJ1 (some (.int (nar .boolean (0 : Int32)))) (fun q => by rw [hret] at q; cases q) hlk hQ eJ1 ⟨rv, NJ1, rfl⟩ (by decide) (by decide) (fun fs hr => retN XJ1 hx (t := .boolean) hret (by simp) (hb hby d2_84) hr)
      · skip
        refine GoW.st (fun t k => XS.icmpYes XJ1.here hx rfl (pc0 := 69) (pc' := 85) rfl (hb hby d2_69) rfl (feq hc69).2 (by decide) (by decide) k) ?_
        show GoW p e below QQ (TJ1.setTop (mkF m 85 #[.val (.int p1), .val (.int v17), .val (.int v23)] []))
        have hi69 : ¬ (v17.toInt = 22) := (fun q => hc69 (Int32.toInt_inj.mp q))
        refine GoW.st (fun t k => XS.iloadN XJ1.here hx rfl (hb hby d2_85) rfl (XS.bipush XJ1.here hx rfl (hb hby d2_86) k)) ?_
        show GoW p e below QQ (TJ1.setTop (mkF m 88 #[.val (.int p1), .val (.int v17), .val (.int v23)] [(.int (32 : Int32)), (.int v17)]))
        by_cases hc88 : v17 = (32 : Int32)
        · skip
          refine GoW.st (fun t k => XS.icmpNo XJ1.here hx rfl (hb hby d2_88) rfl (teq hc88).2 k) ?_
          show GoW p e below QQ (TJ1.setTop (mkF m 91 #[.val (.int p1), .val (.int v17), .val (.int v23)] []))
          have hi88 : v17.toInt = 32 := (congrArg Int32.toInt hc88)
          refine GoW.st (fun t k => XS.iloadN XJ1.here hx rfl (hb hby d2_91) rfl (XS.bipush XJ1.here hx rfl (hb hby d2_92) k)) ?_
          show GoW p e below QQ (TJ1.setTop (mkF m 94 #[.val (.int p1), .val (.int v17), .val (.int v23)] [(.int (10 : Int32)), (.int v23)]))
          by_cases hc94 : (10 : Int32) < v23
          · skip
            refine GoW.st (fun t k => XS.icmpNo XJ1.here hx rfl (hb hby d2_94) rfl (tlt hc94).2.2.2 k) ?_
            show GoW p e below QQ (TJ1.setTop (mkF m 97 #[.val (.int p1), .val (.int v17), .val (.int v23)] []))
            have hi94 : 10 < v23.toInt := (Int32.lt_iff_toInt_lt.mp hc94)
            refine GoW.st (fun t k => XS.iloadN XJ1.here hx rfl (hb hby d2_97) rfl (XS.bipush XJ1.here hx rfl (hb hby d2_98) k)) ?_
            show GoW p e below QQ (TJ1.setTop (mkF m 100 #[.val (.int p1), .val (.int v17), .val (.int v23)] [(.int (40 : Int32)), (.int v23)]))
            by_cases hc100 : v23 = (40 : Int32)
            · skip
              refine GoW.st (fun t k => XS.icmpYes XJ1.here hx rfl (pc0 := 100) (pc' := 121) rfl (hb hby d2_100) rfl (teq hc100).1 (by decide) (by decide) k) ?_
              show GoW p e below QQ (TJ1.setTop (mkF m 121 #[.val (.int p1), .val (.int v17), .val (.int v23)] []))
              have hi100 : v23.toInt = 40 := (congrArg Int32.toInt hc100)
              refine GoW.st (fun t k => XS.iconst XJ1.here hx rfl (hb hby d2_121) (XS.goto XJ1.here hx rfl (pc0 := 122) (pc' := 126) rfl (hb hby d2_122) (by decide) (by decide) k)) ?_
              show GoW p e below QQ (TJ1.setTop (mkF m 126 #[.val (.int p1), .val (.int v17), .val (.int v23)] [(.int (1 : Int32))]))
              have rv : ((some (.int (nar .boolean (1 : Int32)))) : Option Value) = some (.int (own_ws p1)) := by
                rw [own_ws, if_pos (by unfold own_W; omega)]
                all_goals rfl
              exact GoW.fin XJ1 (some (.int (nar .boolean (1 : Int32)))) (fun q => by rw [hret] at q; cases q) hlk hQ eJ1 ⟨rv, NJ1, rfl⟩ (by decide) (by decide) (fun fs hr => retN XJ1 hx (t := .boolean) hret (by simp) (hb hby d2_126) hr)
            · skip
              refine GoW.st (fun t k => XS.icmpNo XJ1.here hx rfl (hb hby d2_100) rfl (feq hc100).1 k) ?_
              show GoW p e below QQ (TJ1.setTop (mkF m 103 #[.val (.int p1), .val (.int v17), .val (.int v23)] []))
              have hi100 : ¬ (v23.toInt = 40) := (fun q => hc100 (Int32.toInt_inj.mp q))
              refine GoW.st (fun t k => XS.iloadN XJ1.here hx rfl (hb hby d2_103) rfl (XS.bipush XJ1.here hx rfl (hb hby d2_104) k)) ?_
              show GoW p e below QQ (TJ1.setTop (mkF m 106 #[.val (.int p1), .val (.int v17), .val (.int v23)] [(.int (41 : Int32)), (.int v23)]))
              by_cases hc106 : v23 = (41 : Int32)
              · skip
                refine GoW.st (fun t k => XS.icmpYes XJ1.here hx rfl (pc0 := 106) (pc' := 121) rfl (hb hby d2_106) rfl (teq hc106).1 (by decide) (by decide) k) ?_
                show GoW p e below QQ (TJ1.setTop (mkF m 121 #[.val (.int p1), .val (.int v17), .val (.int v23)] []))
                have hi106 : v23.toInt = 41 := (congrArg Int32.toInt hc106)
                refine GoW.st (fun t k => XS.iconst XJ1.here hx rfl (hb hby d2_121) (XS.goto XJ1.here hx rfl (pc0 := 122) (pc' := 126) rfl (hb hby d2_122) (by decide) (by decide) k)) ?_
                show GoW p e below QQ (TJ1.setTop (mkF m 126 #[.val (.int p1), .val (.int v17), .val (.int v23)] [(.int (1 : Int32))]))
                have rv : ((some (.int (nar .boolean (1 : Int32)))) : Option Value) = some (.int (own_ws p1)) := by
                  rw [own_ws, if_pos (by unfold own_W; omega)]
                  all_goals rfl
                exact GoW.fin XJ1 (some (.int (nar .boolean (1 : Int32)))) (fun q => by rw [hret] at q; cases q) hlk hQ eJ1 ⟨rv, NJ1, rfl⟩ (by decide) (by decide) (fun fs hr => retN XJ1 hx (t := .boolean) hret (by simp) (hb hby d2_126) hr)
              · skip
                refine GoW.st (fun t k => XS.icmpNo XJ1.here hx rfl (hb hby d2_106) rfl (feq hc106).1 k) ?_
                show GoW p e below QQ (TJ1.setTop (mkF m 109 #[.val (.int p1), .val (.int v17), .val (.int v23)] []))
                have hi106 : ¬ (v23.toInt = 41) := (fun q => hc106 (Int32.toInt_inj.mp q))
                refine GoW.st (fun t k => XS.iloadN XJ1.here hx rfl (hb hby d2_109) rfl (XS.bipush XJ1.here hx rfl (hb hby d2_110) k)) ?_
                show GoW p e below QQ (TJ1.setTop (mkF m 112 #[.val (.int p1), .val (.int v17), .val (.int v23)] [(.int (47 : Int32)), (.int v23)]))
                by_cases hc112 : v23 = (47 : Int32)
                · skip
                  refine GoW.st (fun t k => XS.icmpYes XJ1.here hx rfl (pc0 := 112) (pc' := 121) rfl (hb hby d2_112) rfl (teq hc112).1 (by decide) (by decide) k) ?_
                  show GoW p e below QQ (TJ1.setTop (mkF m 121 #[.val (.int p1), .val (.int v17), .val (.int v23)] []))
                  have hi112 : v23.toInt = 47 := (congrArg Int32.toInt hc112)
                  refine GoW.st (fun t k => XS.iconst XJ1.here hx rfl (hb hby d2_121) (XS.goto XJ1.here hx rfl (pc0 := 122) (pc' := 126) rfl (hb hby d2_122) (by decide) (by decide) k)) ?_
                  show GoW p e below QQ (TJ1.setTop (mkF m 126 #[.val (.int p1), .val (.int v17), .val (.int v23)] [(.int (1 : Int32))]))
                  have rv : ((some (.int (nar .boolean (1 : Int32)))) : Option Value) = some (.int (own_ws p1)) := by
                    rw [own_ws, if_pos (by unfold own_W; omega)]
                    all_goals rfl
                  exact GoW.fin XJ1 (some (.int (nar .boolean (1 : Int32)))) (fun q => by rw [hret] at q; cases q) hlk hQ eJ1 ⟨rv, NJ1, rfl⟩ (by decide) (by decide) (fun fs hr => retN XJ1 hx (t := .boolean) hret (by simp) (hb hby d2_126) hr)
                · skip
                  refine GoW.st (fun t k => XS.icmpNo XJ1.here hx rfl (hb hby d2_112) rfl (feq hc112).1 k) ?_
                  show GoW p e below QQ (TJ1.setTop (mkF m 115 #[.val (.int p1), .val (.int v17), .val (.int v23)] []))
                  have hi112 : ¬ (v23.toInt = 47) := (fun q => hc112 (Int32.toInt_inj.mp q))
                  refine GoW.st (fun t k => XS.iloadN XJ1.here hx rfl (hb hby d2_115) rfl (XS.bipush XJ1.here hx rfl (hb hby d2_116) k)) ?_
                  show GoW p e below QQ (TJ1.setTop (mkF m 118 #[.val (.int p1), .val (.int v17), .val (.int v23)] [(.int (95 : Int32)), (.int v23)]))
                  by_cases hc118 : v23 = (95 : Int32)
                  · skip
                    refine GoW.st (fun t k => XS.icmpNo XJ1.here hx rfl (hb hby d2_118) rfl (teq hc118).2 k) ?_
                    show GoW p e below QQ (TJ1.setTop (mkF m 121 #[.val (.int p1), .val (.int v17), .val (.int v23)] []))
                    have hi118 : v23.toInt = 95 := (congrArg Int32.toInt hc118)
                    refine GoW.st (fun t k => XS.iconst XJ1.here hx rfl (hb hby d2_121) (XS.goto XJ1.here hx rfl (pc0 := 122) (pc' := 126) rfl (hb hby d2_122) (by decide) (by decide) k)) ?_
                    show GoW p e below QQ (TJ1.setTop (mkF m 126 #[.val (.int p1), .val (.int v17), .val (.int v23)] [(.int (1 : Int32))]))
                    have rv : ((some (.int (nar .boolean (1 : Int32)))) : Option Value) = some (.int (own_ws p1)) := by
                      rw [own_ws, if_pos (by unfold own_W; omega)]
                      all_goals rfl
                    exact GoW.fin XJ1 (some (.int (nar .boolean (1 : Int32)))) (fun q => by rw [hret] at q; cases q) hlk hQ eJ1 ⟨rv, NJ1, rfl⟩ (by decide) (by decide) (fun fs hr => retN XJ1 hx (t := .boolean) hret (by simp) (hb hby d2_126) hr)
                  · skip
                    refine GoW.st (fun t k => XS.icmpYes XJ1.here hx rfl (pc0 := 118) (pc' := 125) rfl (hb hby d2_118) rfl (feq hc118).2 (by decide) (by decide) k) ?_
                    show GoW p e below QQ (TJ1.setTop (mkF m 125 #[.val (.int p1), .val (.int v17), .val (.int v23)] []))
                    have hi118 : ¬ (v23.toInt = 95) := (fun q => hc118 (Int32.toInt_inj.mp q))
                    refine GoW.st (fun t k => XS.iconst XJ1.here hx rfl (hb hby d2_125) k) ?_
                    show GoW p e below QQ (TJ1.setTop (mkF m 126 #[.val (.int p1), .val (.int v17), .val (.int v23)] [(.int (0 : Int32))]))
                    have rv : ((some (.int (nar .boolean (0 : Int32)))) : Option Value) = some (.int (own_ws p1)) := by
                      rw [own_ws, if_neg (by unfold own_W; omega)]
                      all_goals rfl
                    exact GoW.fin XJ1 (some (.int (nar .boolean (0 : Int32)))) (fun q => by rw [hret] at q; cases q) hlk hQ eJ1 ⟨rv, NJ1, rfl⟩ (by decide) (by decide) (fun fs hr => retN XJ1 hx (t := .boolean) hret (by simp) (hb hby d2_126) hr)
          · skip
            refine GoW.st (fun t k => XS.icmpYes XJ1.here hx rfl (pc0 := 94) (pc' := 121) rfl (hb hby d2_94) rfl (flt hc94).2.2.2 (by decide) (by decide) k) ?_
            show GoW p e below QQ (TJ1.setTop (mkF m 121 #[.val (.int p1), .val (.int v17), .val (.int v23)] []))
            have hi94 : ¬ (10 < v23.toInt) := (fun q => hc94 (Int32.lt_iff_toInt_lt.mpr q))
            refine GoW.st (fun t k => XS.iconst XJ1.here hx rfl (hb hby d2_121) (XS.goto XJ1.here hx rfl (pc0 := 122) (pc' := 126) rfl (hb hby d2_122) (by decide) (by decide) k)) ?_
            show GoW p e below QQ (TJ1.setTop (mkF m 126 #[.val (.int p1), .val (.int v17), .val (.int v23)] [(.int (1 : Int32))]))
            have rv : ((some (.int (nar .boolean (1 : Int32)))) : Option Value) = some (.int (own_ws p1)) := by
              rw [own_ws, if_pos (by unfold own_W; omega)]
              all_goals rfl
            exact GoW.fin XJ1 (some (.int (nar .boolean (1 : Int32)))) (fun q => by rw [hret] at q; cases q) hlk hQ eJ1 ⟨rv, NJ1, rfl⟩ (by decide) (by decide) (fun fs hr => retN XJ1 hx (t := .boolean) hret (by simp) (hb hby d2_126) hr)
        · skip
          refine GoW.st (fun t k => XS.icmpYes XJ1.here hx rfl (pc0 := 88) (pc' := 127) rfl (hb hby d2_88) rfl (feq hc88).2 (by decide) (by decide) k) ?_
          show GoW p e below QQ (TJ1.setTop (mkF m 127 #[.val (.int p1), .val (.int v17), .val (.int v23)] []))
          have hi88 : ¬ (v17.toInt = 32) := (fun q => hc88 (Int32.toInt_inj.mp q))
          refine GoW.st (fun t k => XS.iloadN XJ1.here hx rfl (hb hby d2_127) rfl (XS.bipush XJ1.here hx rfl (hb hby d2_128) k)) ?_
          show GoW p e below QQ (TJ1.setTop (mkF m 130 #[.val (.int p1), .val (.int v17), .val (.int v23)] [(.int (48 : Int32)), (.int v17)]))
          by_cases hc130 : v17 = (48 : Int32)
          · skip
            refine GoW.st (fun t k => XS.icmpNo XJ1.here hx rfl (hb hby d2_130) rfl (teq hc130).2 k) ?_
            show GoW p e below QQ (TJ1.setTop (mkF m 133 #[.val (.int p1), .val (.int v17), .val (.int v23)] []))
            have hi130 : v17.toInt = 48 := (congrArg Int32.toInt hc130)
            refine GoW.st (fun t k => XS.iloadN XJ1.here hx rfl (hb hby d2_133) rfl k) ?_
            show GoW p e below QQ (TJ1.setTop (mkF m 134 #[.val (.int p1), .val (.int v17), .val (.int v23)] [(.int v23)]))
            by_cases hc134 : v23 = (0 : Int32)
            · skip
              refine GoW.st (fun t k => XS.ifNo XJ1.here hx rfl (hb hby d2_134) rfl ((if0 _ _).trans (teq hc134).2) k) ?_
              show GoW p e below QQ (TJ1.setTop (mkF m 137 #[.val (.int p1), .val (.int v17), .val (.int v23)] []))
              have hi134 : v23.toInt = 0 := (congrArg Int32.toInt hc134)
              refine GoW.st (fun t k => XS.iconst XJ1.here hx rfl (hb hby d2_137) (XS.goto XJ1.here hx rfl (pc0 := 138) (pc' := 142) rfl (hb hby d2_138) (by decide) (by decide) k)) ?_
              show GoW p e below QQ (TJ1.setTop (mkF m 142 #[.val (.int p1), .val (.int v17), .val (.int v23)] [(.int (1 : Int32))]))
              have rv : ((some (.int (nar .boolean (1 : Int32)))) : Option Value) = some (.int (own_ws p1)) := by
                rw [own_ws, if_pos (by unfold own_W; omega)]
                all_goals rfl
              exact GoW.fin XJ1 (some (.int (nar .boolean (1 : Int32)))) (fun q => by rw [hret] at q; cases q) hlk hQ eJ1 ⟨rv, NJ1, rfl⟩ (by decide) (by decide) (fun fs hr => retN XJ1 hx (t := .boolean) hret (by simp) (hb hby d2_142) hr)
            · skip
              refine GoW.st (fun t k => XS.ifYes XJ1.here hx rfl (pc0 := 134) (pc' := 141) rfl (hb hby d2_134) rfl ((if0 _ _).trans (feq hc134).2) (by decide) (by decide) k) ?_
              show GoW p e below QQ (TJ1.setTop (mkF m 141 #[.val (.int p1), .val (.int v17), .val (.int v23)] []))
              have hi134 : ¬ (v23.toInt = 0) := (fun q => hc134 (Int32.toInt_inj.mp q))
              refine GoW.st (fun t k => XS.iconst XJ1.here hx rfl (hb hby d2_141) k) ?_
              show GoW p e below QQ (TJ1.setTop (mkF m 142 #[.val (.int p1), .val (.int v17), .val (.int v23)] [(.int (0 : Int32))]))
              have rv : ((some (.int (nar .boolean (0 : Int32)))) : Option Value) = some (.int (own_ws p1)) := by
                rw [own_ws, if_neg (by unfold own_W; omega)]
                all_goals rfl
              exact GoW.fin XJ1 (some (.int (nar .boolean (0 : Int32)))) (fun q => by rw [hret] at q; cases q) hlk hQ eJ1 ⟨rv, NJ1, rfl⟩ (by decide) (by decide) (fun fs hr => retN XJ1 hx (t := .boolean) hret (by simp) (hb hby d2_142) hr)
          · skip
            refine GoW.st (fun t k => XS.icmpYes XJ1.here hx rfl (pc0 := 130) (pc' := 143) rfl (hb hby d2_130) rfl (feq hc130).2 (by decide) (by decide) k) ?_
            show GoW p e below QQ (TJ1.setTop (mkF m 143 #[.val (.int p1), .val (.int v17), .val (.int v23)] []))
            have hi130 : ¬ (v17.toInt = 48) := (fun q => hc130 (Int32.toInt_inj.mp q))
            refine GoW.st (fun t k => XS.iconst XJ1.here hx rfl (hb hby d2_143) k) ?_
            show GoW p e below QQ (TJ1.setTop (mkF m 144 #[.val (.int p1), .val (.int v17), .val (.int v23)] [(.int (0 : Int32))]))
            have rv : ((some (.int (nar .boolean (0 : Int32)))) : Option Value) = some (.int (own_ws p1)) := by
              rw [own_ws, if_neg (by unfold own_W; omega)]
              all_goals rfl
            exact GoW.fin XJ1 (some (.int (nar .boolean (0 : Int32)))) (fun q => by rw [hret] at q; cases q) hlk hQ eJ1 ⟨rv, NJ1, rfl⟩ (by decide) (by decide) (fun fs hr => retN XJ1 hx (t := .boolean) hret (by simp) (hb hby d2_144) hr)
  refine GoW.st (fun t k => XS.iloadN X0.here hx rfl (hb hby d2_0) rfl k) ?_
  show GoW p e below QQ (T0.setTop (mkF m 1 #[.val (.int p1), .unset, .unset] [(.int p1)]))
  by_cases hc1 : p1 < (0 : Int32)
  · skip
    refine GoW.st (fun t k => XS.ifYes X0.here hx rfl (pc0 := 1) (pc' := 11) rfl (hb hby d2_1) rfl ((if0 _ _).trans (tlt hc1).1) (by decide) (by decide) k) ?_
    show GoW p e below QQ (T0.setTop (mkF m 11 #[.val (.int p1), .unset, .unset] []))
    have hi1 : p1.toInt < 0 := (Int32.lt_iff_toInt_lt.mp hc1)
    refine GoW.st (fun t k => XS.iconst X0.here hx rfl (hb hby d2_11) k) ?_
    show GoW p e below QQ (T0.setTop (mkF m 12 #[.val (.int p1), .unset, .unset] [(.int (0 : Int32))]))
    have rv : ((some (.int (nar .boolean (0 : Int32)))) : Option Value) = some (.int (own_ws p1)) := by
      rw [own_ws, if_neg (by unfold own_W; omega)]
      all_goals rfl
    exact GoW.fin X0 (some (.int (nar .boolean (0 : Int32)))) (fun q => by rw [hret] at q; cases q) hlk hQ e0 ⟨rv, N0, rfl⟩ (by decide) (by decide) (fun fs hr => retN X0 hx (t := .boolean) hret (by simp) (hb hby d2_12) hr)
  · skip
    refine GoW.st (fun t k => XS.ifNo X0.here hx rfl (hb hby d2_1) rfl ((if0 _ _).trans (flt hc1).1) k) ?_
    show GoW p e below QQ (T0.setTop (mkF m 4 #[.val (.int p1), .unset, .unset] []))
    have hi1 : ¬ (p1.toInt < 0) := (fun q => hc1 (Int32.lt_iff_toInt_lt.mpr q))
    refine GoW.st (fun t k => XS.iloadN X0.here hx rfl (hb hby d2_4) rfl (XS.sipush X0.here hx rfl (hb hby d2_5) k)) ?_
    show GoW p e below QQ (T0.setTop (mkF m 8 #[.val (.int p1), .unset, .unset] [(.int (12288 : Int32)), (.int p1)]))
    by_cases hc8 : (12288 : Int32) < p1
    · skip
      refine GoW.st (fun t k => XS.icmpNo X0.here hx rfl (hb hby d2_8) rfl (tlt hc8).2.2.2 k) ?_
      show GoW p e below QQ (T0.setTop (mkF m 11 #[.val (.int p1), .unset, .unset] []))
      have hi8 : 12288 < p1.toInt := (Int32.lt_iff_toInt_lt.mp hc8)
      refine GoW.st (fun t k => XS.iconst X0.here hx rfl (hb hby d2_11) k) ?_
      show GoW p e below QQ (T0.setTop (mkF m 12 #[.val (.int p1), .unset, .unset] [(.int (0 : Int32))]))
      have rv : ((some (.int (nar .boolean (0 : Int32)))) : Option Value) = some (.int (own_ws p1)) := by
        rw [own_ws, if_neg (by unfold own_W; omega)]
        all_goals rfl
      exact GoW.fin X0 (some (.int (nar .boolean (0 : Int32)))) (fun q => by rw [hret] at q; cases q) hlk hQ e0 ⟨rv, N0, rfl⟩ (by decide) (by decide) (fun fs hr => retN X0 hx (t := .boolean) hret (by simp) (hb hby d2_12) hr)
    · skip
      refine GoW.st (fun t k => XS.icmpYes X0.here hx rfl (pc0 := 8) (pc' := 13) rfl (hb hby d2_8) rfl (flt hc8).2.2.2 (by decide) (by decide) k) ?_
      show GoW p e below QQ (T0.setTop (mkF m 13 #[.val (.int p1), .unset, .unset] []))
      have hi8 : ¬ (12288 < p1.toInt) := (fun q => hc8 (Int32.lt_iff_toInt_lt.mpr q))
      exact J13_1 _ _  X0 e0 N0   (by omega)
theorem pd_0 : parseMethodDescriptor "(I)Z" = some ⟨[.int], some .boolean⟩ := by decide +kernel
def Q0 (Z : State) (p1 : Int32) (p2 : Int32) (h0 : Heap) (n0 : Nat) (v : Option Value) (h : Heap) (L : List Loc) : Prop := v = some (.int (1 : Int32)) ∧ Fr n0 L
set_option maxRecDepth 65536 in
set_option maxHeartbeats 40000000 in
theorem rm0 (l : Launch) (Z : State) (a0 : Array Value) (hw : ∀ d ∈ tables_1, d.before a0 Z = true) (ws : List Jvm.Cond) (p1 : Int32) (p2 : Int32) (h0 : Heap) (n0 : Nat) (Z0 : n0 ≤ h0.size) (Z1 : h0.size ≤ n0)  :
    MetFree l x (head1 (Jvm.Cond.code x code maxLocals ret :: ws) room_1) (fun a U => a = #[(.int p1), (.int p2)] ∧ Z.Warmed39 U.vm ∧ U.heap = h0) (fun _ _ _ _ _ => True) (fun _ U o U' => ∃ v L, o = .returned v ∧ Q0 Z p1 p2 h0 n0 v U'.heap L ∧ FrameEnd U o U' L 16 128) := by
  refine met_of (Q := fun v h L => Q0 Z p1 p2 h0 n0 v h L) (plainFor_of_name pn_1) (fun m => by first | (simp [entryFrame, mkF, argsToLocals, Value.category, maxLocals]; done) | rfl) (Ls := #[.val (.int p1), .val (.int p2), .unset, .unset, .unset, .unset, .unset, .unset, .unset]) ?_
  intro p e s m below meth c T0 QQ hx hZ hby hml hown hnm hret hlk X0 e0 hQ
  have hml : c.maxLocals = 9 := hml
  have hown : s.vm.findClass "com/example/terseform/terseform/GrammarIsWhitespacePinLaw" = some m.cls := hown
  have hnm : meth.name = "law" := hnm
  have hret : meth.sig.returnType = some .boolean := hret
  have N0 := Fr.nil n0
  have K0 : Keep h0 h0 [] := Keep.refl h0 _
  show GoW p e below QQ (T0.setTop (mkF m 0 #[.val (.int p1), .val (.int p2), .unset, .unset, .unset, .unset, .unset, .unset, .unset] []))
  refine GoW.st (fun t k => XS.bipush X0.here hx rfl (hb hby at_0) k) ?_
  show GoW p e below QQ (T0.setTop (mkF m 2 #[.val (.int p1), .val (.int p2), .unset, .unset, .unset, .unset, .unset, .unset, .unset] [(.int (13 : Int32))]))
  obtain ⟨T1, h1, k1, X1, e1, E1, A1, st1⟩ := newP X0 hx hZ (hw _ (List.mem_of_getElem? (i := 0) rfl)) e0 (g := (mkF m 2 #[.val (.int p1), .val (.int p2), .unset, .unset, .unset, .unset, .unset, .unset, .unset] [(.int (13 : Int32))])) rfl (hb hby at_2) rfl (by decide) (cap := 13) (by decide) (by decide) (by decide) (by decide)
  obtain ⟨b1, g1⟩ : ∃ z, z = h0.size := ⟨_, rfl⟩
  rw [← g1] at A1 st1
  refine GoW.st st1 ?_
  have gg1 : n0 ≤ b1 := Nat.le_trans (Nat.le_trans Z0 K0.1) (Nat.le_of_eq g1.symm)
  have sz1 : h0.size ≤ b1 := Nat.le_trans K0.1 (Nat.le_of_eq g1.symm)
  have K1 : Keep h0 h1 [] := K0.ext E1
  have V1 : Arv Z h1 b1 k1 .int (13 : Int32) [(.int (0 : Int32)), (.int (0 : Int32)), (.int (0 : Int32)), (.int (0 : Int32)), (.int (0 : Int32)), (.int (0 : Int32)), (.int (0 : Int32)), (.int (0 : Int32)), (.int (0 : Int32)), (.int (0 : Int32)), (.int (0 : Int32)), (.int (0 : Int32)), (.int (0 : Int32))] (.int (0 : Int32)) := (Arv.new A1 (by decide)).pad (pad_rep [] (.int (0 : Int32)) 13)
  show GoW p e below QQ (T1.setTop (mkF m 4 #[.val (.int p1), .val (.int p2), .unset, .unset, .unset, .unset, .unset, .unset, .unset] [(.ref b1)]))
  refine GoW.st (fun t k => XS.dup X1.here hx rfl (hb hby at_4) rfl rfl (XS.iconst X1.here hx rfl (hb hby at_5) (XS.bipush X1.here hx rfl (hb hby at_6) k))) ?_
  show GoW p e below QQ (T1.setTop (mkF m 8 #[.val (.int p1), .val (.int p2), .unset, .unset, .unset, .unset, .unset, .unset, .unset] [(.int (9 : Int32)), (.int (0 : Int32)), (.ref b1), (.ref b1)]))
  obtain ⟨T3, h3, X3, e3, W3, V3, st3⟩ := stVI X1 hx hZ e1 V1 ⟨by decide, by decide⟩ 0 rfl (Nat.le_of_ble_eq_true rfl) (g := (mkF m 8 #[.val (.int p1), .val (.int p2), .unset, .unset, .unset, .unset, .unset, .unset, .unset] [(.int (9 : Int32)), (.int (0 : Int32)), (.ref b1), (.ref b1)])) rfl rfl (hb hby at_8)
  refine GoW.st st3 ?_
  have f4_V_b1 : Arv Z h3 b1 k1 .int (13 : Int32) [(.int (9 : Int32)), (.int (0 : Int32)), (.int (0 : Int32)), (.int (0 : Int32)), (.int (0 : Int32)), (.int (0 : Int32)), (.int (0 : Int32)), (.int (0 : Int32)), (.int (0 : Int32)), (.int (0 : Int32)), (.int (0 : Int32)), (.int (0 : Int32)), (.int (0 : Int32))] (.int (0 : Int32)) := V3
  have K3 : Keep h0 h3 [] := K1.wr W3 (Or.inr sz1)
  have N3 := Fr.snoc X3 N0 gg1
  show GoW p e below QQ (T3.setTop (mkF m 9 #[.val (.int p1), .val (.int p2), .unset, .unset, .unset, .unset, .unset, .unset, .unset] [(.ref b1)]))
  refine GoW.st (fun t k => XS.dup X3.here hx rfl (hb hby at_9) rfl rfl (XS.iconst X3.here hx rfl (hb hby at_10) (XS.bipush X3.here hx rfl (hb hby at_11) k))) ?_
  show GoW p e below QQ (T3.setTop (mkF m 13 #[.val (.int p1), .val (.int p2), .unset, .unset, .unset, .unset, .unset, .unset, .unset] [(.int (13 : Int32)), (.int (1 : Int32)), (.ref b1), (.ref b1)]))
  obtain ⟨T5, h5, X5, e5, W5, V5, st5⟩ := stVI X3 hx hZ e3 f4_V_b1 ⟨by decide, by decide⟩ 1 rfl (Nat.le_of_ble_eq_true rfl) (g := (mkF m 13 #[.val (.int p1), .val (.int p2), .unset, .unset, .unset, .unset, .unset, .unset, .unset] [(.int (13 : Int32)), (.int (1 : Int32)), (.ref b1), (.ref b1)])) rfl rfl (hb hby at_13)
  refine GoW.st st5 ?_
  have f6_V_b1 : Arv Z h5 b1 k1 .int (13 : Int32) [(.int (9 : Int32)), (.int (13 : Int32)), (.int (0 : Int32)), (.int (0 : Int32)), (.int (0 : Int32)), (.int (0 : Int32)), (.int (0 : Int32)), (.int (0 : Int32)), (.int (0 : Int32)), (.int (0 : Int32)), (.int (0 : Int32)), (.int (0 : Int32)), (.int (0 : Int32))] (.int (0 : Int32)) := V5
  have K5 : Keep h0 h5 [] := K3.wr W5 (Or.inr sz1)
  have N5 := Fr.snoc X5 N3 gg1
  show GoW p e below QQ (T5.setTop (mkF m 14 #[.val (.int p1), .val (.int p2), .unset, .unset, .unset, .unset, .unset, .unset, .unset] [(.ref b1)]))
  refine GoW.st (fun t k => XS.dup X5.here hx rfl (hb hby at_14) rfl rfl (XS.iconst X5.here hx rfl (hb hby at_15) (XS.bipush X5.here hx rfl (hb hby at_16) k))) ?_
  show GoW p e below QQ (T5.setTop (mkF m 18 #[.val (.int p1), .val (.int p2), .unset, .unset, .unset, .unset, .unset, .unset, .unset] [(.int (32 : Int32)), (.int (2 : Int32)), (.ref b1), (.ref b1)]))
  obtain ⟨T7, h7, X7, e7, W7, V7, st7⟩ := stVI X5 hx hZ e5 f6_V_b1 ⟨by decide, by decide⟩ 2 rfl (Nat.le_of_ble_eq_true rfl) (g := (mkF m 18 #[.val (.int p1), .val (.int p2), .unset, .unset, .unset, .unset, .unset, .unset, .unset] [(.int (32 : Int32)), (.int (2 : Int32)), (.ref b1), (.ref b1)])) rfl rfl (hb hby at_18)
  refine GoW.st st7 ?_
  have f8_V_b1 : Arv Z h7 b1 k1 .int (13 : Int32) [(.int (9 : Int32)), (.int (13 : Int32)), (.int (32 : Int32)), (.int (0 : Int32)), (.int (0 : Int32)), (.int (0 : Int32)), (.int (0 : Int32)), (.int (0 : Int32)), (.int (0 : Int32)), (.int (0 : Int32)), (.int (0 : Int32)), (.int (0 : Int32)), (.int (0 : Int32))] (.int (0 : Int32)) := V7
  have K7 : Keep h0 h7 [] := K5.wr W7 (Or.inr sz1)
  have N7 := Fr.snoc X7 N5 gg1
  show GoW p e below QQ (T7.setTop (mkF m 19 #[.val (.int p1), .val (.int p2), .unset, .unset, .unset, .unset, .unset, .unset, .unset] [(.ref b1)]))
  refine GoW.st (fun t k => XS.dup X7.here hx rfl (hb hby at_19) rfl rfl (XS.iconst X7.here hx rfl (hb hby at_20) (XS.sipush X7.here hx rfl (hb hby at_21) k))) ?_
  show GoW p e below QQ (T7.setTop (mkF m 24 #[.val (.int p1), .val (.int p2), .unset, .unset, .unset, .unset, .unset, .unset, .unset] [(.int (133 : Int32)), (.int (3 : Int32)), (.ref b1), (.ref b1)]))
  obtain ⟨T9, h9, X9, e9, W9, V9, st9⟩ := stVI X7 hx hZ e7 f8_V_b1 ⟨by decide, by decide⟩ 3 rfl (Nat.le_of_ble_eq_true rfl) (g := (mkF m 24 #[.val (.int p1), .val (.int p2), .unset, .unset, .unset, .unset, .unset, .unset, .unset] [(.int (133 : Int32)), (.int (3 : Int32)), (.ref b1), (.ref b1)])) rfl rfl (hb hby at_24)
  refine GoW.st st9 ?_
  have f10_V_b1 : Arv Z h9 b1 k1 .int (13 : Int32) [(.int (9 : Int32)), (.int (13 : Int32)), (.int (32 : Int32)), (.int (133 : Int32)), (.int (0 : Int32)), (.int (0 : Int32)), (.int (0 : Int32)), (.int (0 : Int32)), (.int (0 : Int32)), (.int (0 : Int32)), (.int (0 : Int32)), (.int (0 : Int32)), (.int (0 : Int32))] (.int (0 : Int32)) := V9
  have K9 : Keep h0 h9 [] := K7.wr W9 (Or.inr sz1)
  have N9 := Fr.snoc X9 N7 gg1
  show GoW p e below QQ (T9.setTop (mkF m 25 #[.val (.int p1), .val (.int p2), .unset, .unset, .unset, .unset, .unset, .unset, .unset] [(.ref b1)]))
  refine GoW.st (fun t k => XS.dup X9.here hx rfl (hb hby at_25) rfl rfl (XS.iconst X9.here hx rfl (hb hby at_26) (XS.sipush X9.here hx rfl (hb hby at_27) k))) ?_
  show GoW p e below QQ (T9.setTop (mkF m 30 #[.val (.int p1), .val (.int p2), .unset, .unset, .unset, .unset, .unset, .unset, .unset] [(.int (160 : Int32)), (.int (4 : Int32)), (.ref b1), (.ref b1)]))
  obtain ⟨T11, h11, X11, e11, W11, V11, st11⟩ := stVI X9 hx hZ e9 f10_V_b1 ⟨by decide, by decide⟩ 4 rfl (Nat.le_of_ble_eq_true rfl) (g := (mkF m 30 #[.val (.int p1), .val (.int p2), .unset, .unset, .unset, .unset, .unset, .unset, .unset] [(.int (160 : Int32)), (.int (4 : Int32)), (.ref b1), (.ref b1)])) rfl rfl (hb hby at_30)
  refine GoW.st st11 ?_
  have f12_V_b1 : Arv Z h11 b1 k1 .int (13 : Int32) [(.int (9 : Int32)), (.int (13 : Int32)), (.int (32 : Int32)), (.int (133 : Int32)), (.int (160 : Int32)), (.int (0 : Int32)), (.int (0 : Int32)), (.int (0 : Int32)), (.int (0 : Int32)), (.int (0 : Int32)), (.int (0 : Int32)), (.int (0 : Int32)), (.int (0 : Int32))] (.int (0 : Int32)) := V11
  have K11 : Keep h0 h11 [] := K9.wr W11 (Or.inr sz1)
  have N11 := Fr.snoc X11 N9 gg1
  show GoW p e below QQ (T11.setTop (mkF m 31 #[.val (.int p1), .val (.int p2), .unset, .unset, .unset, .unset, .unset, .unset, .unset] [(.ref b1)]))
  refine GoW.st (fun t k => XS.dup X11.here hx rfl (hb hby at_31) rfl rfl (XS.iconst X11.here hx rfl (hb hby at_32) (XS.sipush X11.here hx rfl (hb hby at_33) k))) ?_
  show GoW p e below QQ (T11.setTop (mkF m 36 #[.val (.int p1), .val (.int p2), .unset, .unset, .unset, .unset, .unset, .unset, .unset] [(.int (5760 : Int32)), (.int (5 : Int32)), (.ref b1), (.ref b1)]))
  obtain ⟨T13, h13, X13, e13, W13, V13, st13⟩ := stVI X11 hx hZ e11 f12_V_b1 ⟨by decide, by decide⟩ 5 rfl (Nat.le_of_ble_eq_true rfl) (g := (mkF m 36 #[.val (.int p1), .val (.int p2), .unset, .unset, .unset, .unset, .unset, .unset, .unset] [(.int (5760 : Int32)), (.int (5 : Int32)), (.ref b1), (.ref b1)])) rfl rfl (hb hby at_36)
  refine GoW.st st13 ?_
  have f14_V_b1 : Arv Z h13 b1 k1 .int (13 : Int32) [(.int (9 : Int32)), (.int (13 : Int32)), (.int (32 : Int32)), (.int (133 : Int32)), (.int (160 : Int32)), (.int (5760 : Int32)), (.int (0 : Int32)), (.int (0 : Int32)), (.int (0 : Int32)), (.int (0 : Int32)), (.int (0 : Int32)), (.int (0 : Int32)), (.int (0 : Int32))] (.int (0 : Int32)) := V13
  have K13 : Keep h0 h13 [] := K11.wr W13 (Or.inr sz1)
  have N13 := Fr.snoc X13 N11 gg1
  show GoW p e below QQ (T13.setTop (mkF m 37 #[.val (.int p1), .val (.int p2), .unset, .unset, .unset, .unset, .unset, .unset, .unset] [(.ref b1)]))
  refine GoW.st (fun t k => XS.dup X13.here hx rfl (hb hby at_37) rfl rfl (XS.bipush X13.here hx rfl (hb hby at_38) (XS.sipush X13.here hx rfl (hb hby at_40) k))) ?_
  show GoW p e below QQ (T13.setTop (mkF m 43 #[.val (.int p1), .val (.int p2), .unset, .unset, .unset, .unset, .unset, .unset, .unset] [(.int (8192 : Int32)), (.int (6 : Int32)), (.ref b1), (.ref b1)]))
  obtain ⟨T15, h15, X15, e15, W15, V15, st15⟩ := stVI X13 hx hZ e13 f14_V_b1 ⟨by decide, by decide⟩ 6 rfl (Nat.le_of_ble_eq_true rfl) (g := (mkF m 43 #[.val (.int p1), .val (.int p2), .unset, .unset, .unset, .unset, .unset, .unset, .unset] [(.int (8192 : Int32)), (.int (6 : Int32)), (.ref b1), (.ref b1)])) rfl rfl (hb hby at_43)
  refine GoW.st st15 ?_
  have f16_V_b1 : Arv Z h15 b1 k1 .int (13 : Int32) [(.int (9 : Int32)), (.int (13 : Int32)), (.int (32 : Int32)), (.int (133 : Int32)), (.int (160 : Int32)), (.int (5760 : Int32)), (.int (8192 : Int32)), (.int (0 : Int32)), (.int (0 : Int32)), (.int (0 : Int32)), (.int (0 : Int32)), (.int (0 : Int32)), (.int (0 : Int32))] (.int (0 : Int32)) := V15
  have K15 : Keep h0 h15 [] := K13.wr W15 (Or.inr sz1)
  have N15 := Fr.snoc X15 N13 gg1
  show GoW p e below QQ (T15.setTop (mkF m 44 #[.val (.int p1), .val (.int p2), .unset, .unset, .unset, .unset, .unset, .unset, .unset] [(.ref b1)]))
  refine GoW.st (fun t k => XS.dup X15.here hx rfl (hb hby at_44) rfl rfl (XS.bipush X15.here hx rfl (hb hby at_45) (XS.sipush X15.here hx rfl (hb hby at_47) k))) ?_
  show GoW p e below QQ (T15.setTop (mkF m 50 #[.val (.int p1), .val (.int p2), .unset, .unset, .unset, .unset, .unset, .unset, .unset] [(.int (8202 : Int32)), (.int (7 : Int32)), (.ref b1), (.ref b1)]))
  obtain ⟨T17, h17, X17, e17, W17, V17, st17⟩ := stVI X15 hx hZ e15 f16_V_b1 ⟨by decide, by decide⟩ 7 rfl (Nat.le_of_ble_eq_true rfl) (g := (mkF m 50 #[.val (.int p1), .val (.int p2), .unset, .unset, .unset, .unset, .unset, .unset, .unset] [(.int (8202 : Int32)), (.int (7 : Int32)), (.ref b1), (.ref b1)])) rfl rfl (hb hby at_50)
  refine GoW.st st17 ?_
  have f18_V_b1 : Arv Z h17 b1 k1 .int (13 : Int32) [(.int (9 : Int32)), (.int (13 : Int32)), (.int (32 : Int32)), (.int (133 : Int32)), (.int (160 : Int32)), (.int (5760 : Int32)), (.int (8192 : Int32)), (.int (8202 : Int32)), (.int (0 : Int32)), (.int (0 : Int32)), (.int (0 : Int32)), (.int (0 : Int32)), (.int (0 : Int32))] (.int (0 : Int32)) := V17
  have K17 : Keep h0 h17 [] := K15.wr W17 (Or.inr sz1)
  have N17 := Fr.snoc X17 N15 gg1
  show GoW p e below QQ (T17.setTop (mkF m 51 #[.val (.int p1), .val (.int p2), .unset, .unset, .unset, .unset, .unset, .unset, .unset] [(.ref b1)]))
  refine GoW.st (fun t k => XS.dup X17.here hx rfl (hb hby at_51) rfl rfl (XS.bipush X17.here hx rfl (hb hby at_52) (XS.sipush X17.here hx rfl (hb hby at_54) k))) ?_
  show GoW p e below QQ (T17.setTop (mkF m 57 #[.val (.int p1), .val (.int p2), .unset, .unset, .unset, .unset, .unset, .unset, .unset] [(.int (8232 : Int32)), (.int (8 : Int32)), (.ref b1), (.ref b1)]))
  obtain ⟨T19, h19, X19, e19, W19, V19, st19⟩ := stVI X17 hx hZ e17 f18_V_b1 ⟨by decide, by decide⟩ 8 rfl (Nat.le_of_ble_eq_true rfl) (g := (mkF m 57 #[.val (.int p1), .val (.int p2), .unset, .unset, .unset, .unset, .unset, .unset, .unset] [(.int (8232 : Int32)), (.int (8 : Int32)), (.ref b1), (.ref b1)])) rfl rfl (hb hby at_57)
  refine GoW.st st19 ?_
  have f20_V_b1 : Arv Z h19 b1 k1 .int (13 : Int32) [(.int (9 : Int32)), (.int (13 : Int32)), (.int (32 : Int32)), (.int (133 : Int32)), (.int (160 : Int32)), (.int (5760 : Int32)), (.int (8192 : Int32)), (.int (8202 : Int32)), (.int (8232 : Int32)), (.int (0 : Int32)), (.int (0 : Int32)), (.int (0 : Int32)), (.int (0 : Int32))] (.int (0 : Int32)) := V19
  have K19 : Keep h0 h19 [] := K17.wr W19 (Or.inr sz1)
  have N19 := Fr.snoc X19 N17 gg1
  show GoW p e below QQ (T19.setTop (mkF m 58 #[.val (.int p1), .val (.int p2), .unset, .unset, .unset, .unset, .unset, .unset, .unset] [(.ref b1)]))
  refine GoW.st (fun t k => XS.dup X19.here hx rfl (hb hby at_58) rfl rfl (XS.bipush X19.here hx rfl (hb hby at_59) (XS.sipush X19.here hx rfl (hb hby at_61) k))) ?_
  show GoW p e below QQ (T19.setTop (mkF m 64 #[.val (.int p1), .val (.int p2), .unset, .unset, .unset, .unset, .unset, .unset, .unset] [(.int (8233 : Int32)), (.int (9 : Int32)), (.ref b1), (.ref b1)]))
  obtain ⟨T21, h21, X21, e21, W21, V21, st21⟩ := stVI X19 hx hZ e19 f20_V_b1 ⟨by decide, by decide⟩ 9 rfl (Nat.le_of_ble_eq_true rfl) (g := (mkF m 64 #[.val (.int p1), .val (.int p2), .unset, .unset, .unset, .unset, .unset, .unset, .unset] [(.int (8233 : Int32)), (.int (9 : Int32)), (.ref b1), (.ref b1)])) rfl rfl (hb hby at_64)
  refine GoW.st st21 ?_
  have f22_V_b1 : Arv Z h21 b1 k1 .int (13 : Int32) [(.int (9 : Int32)), (.int (13 : Int32)), (.int (32 : Int32)), (.int (133 : Int32)), (.int (160 : Int32)), (.int (5760 : Int32)), (.int (8192 : Int32)), (.int (8202 : Int32)), (.int (8232 : Int32)), (.int (8233 : Int32)), (.int (0 : Int32)), (.int (0 : Int32)), (.int (0 : Int32))] (.int (0 : Int32)) := V21
  have K21 : Keep h0 h21 [] := K19.wr W21 (Or.inr sz1)
  have N21 := Fr.snoc X21 N19 gg1
  show GoW p e below QQ (T21.setTop (mkF m 65 #[.val (.int p1), .val (.int p2), .unset, .unset, .unset, .unset, .unset, .unset, .unset] [(.ref b1)]))
  refine GoW.st (fun t k => XS.dup X21.here hx rfl (hb hby at_65) rfl rfl (XS.bipush X21.here hx rfl (hb hby at_66) (XS.sipush X21.here hx rfl (hb hby at_68) k))) ?_
  show GoW p e below QQ (T21.setTop (mkF m 71 #[.val (.int p1), .val (.int p2), .unset, .unset, .unset, .unset, .unset, .unset, .unset] [(.int (8239 : Int32)), (.int (10 : Int32)), (.ref b1), (.ref b1)]))
  obtain ⟨T23, h23, X23, e23, W23, V23, st23⟩ := stVI X21 hx hZ e21 f22_V_b1 ⟨by decide, by decide⟩ 10 rfl (Nat.le_of_ble_eq_true rfl) (g := (mkF m 71 #[.val (.int p1), .val (.int p2), .unset, .unset, .unset, .unset, .unset, .unset, .unset] [(.int (8239 : Int32)), (.int (10 : Int32)), (.ref b1), (.ref b1)])) rfl rfl (hb hby at_71)
  refine GoW.st st23 ?_
  have f24_V_b1 : Arv Z h23 b1 k1 .int (13 : Int32) [(.int (9 : Int32)), (.int (13 : Int32)), (.int (32 : Int32)), (.int (133 : Int32)), (.int (160 : Int32)), (.int (5760 : Int32)), (.int (8192 : Int32)), (.int (8202 : Int32)), (.int (8232 : Int32)), (.int (8233 : Int32)), (.int (8239 : Int32)), (.int (0 : Int32)), (.int (0 : Int32))] (.int (0 : Int32)) := V23
  have K23 : Keep h0 h23 [] := K21.wr W23 (Or.inr sz1)
  have N23 := Fr.snoc X23 N21 gg1
  show GoW p e below QQ (T23.setTop (mkF m 72 #[.val (.int p1), .val (.int p2), .unset, .unset, .unset, .unset, .unset, .unset, .unset] [(.ref b1)]))
  refine GoW.st (fun t k => XS.dup X23.here hx rfl (hb hby at_72) rfl rfl (XS.bipush X23.here hx rfl (hb hby at_73) (XS.sipush X23.here hx rfl (hb hby at_75) k))) ?_
  show GoW p e below QQ (T23.setTop (mkF m 78 #[.val (.int p1), .val (.int p2), .unset, .unset, .unset, .unset, .unset, .unset, .unset] [(.int (8287 : Int32)), (.int (11 : Int32)), (.ref b1), (.ref b1)]))
  obtain ⟨T25, h25, X25, e25, W25, V25, st25⟩ := stVI X23 hx hZ e23 f24_V_b1 ⟨by decide, by decide⟩ 11 rfl (Nat.le_of_ble_eq_true rfl) (g := (mkF m 78 #[.val (.int p1), .val (.int p2), .unset, .unset, .unset, .unset, .unset, .unset, .unset] [(.int (8287 : Int32)), (.int (11 : Int32)), (.ref b1), (.ref b1)])) rfl rfl (hb hby at_78)
  refine GoW.st st25 ?_
  have f26_V_b1 : Arv Z h25 b1 k1 .int (13 : Int32) [(.int (9 : Int32)), (.int (13 : Int32)), (.int (32 : Int32)), (.int (133 : Int32)), (.int (160 : Int32)), (.int (5760 : Int32)), (.int (8192 : Int32)), (.int (8202 : Int32)), (.int (8232 : Int32)), (.int (8233 : Int32)), (.int (8239 : Int32)), (.int (8287 : Int32)), (.int (0 : Int32))] (.int (0 : Int32)) := V25
  have K25 : Keep h0 h25 [] := K23.wr W25 (Or.inr sz1)
  have N25 := Fr.snoc X25 N23 gg1
  show GoW p e below QQ (T25.setTop (mkF m 79 #[.val (.int p1), .val (.int p2), .unset, .unset, .unset, .unset, .unset, .unset, .unset] [(.ref b1)]))
  refine GoW.st (fun t k => XS.dup X25.here hx rfl (hb hby at_79) rfl rfl (XS.bipush X25.here hx rfl (hb hby at_80) (XS.sipush X25.here hx rfl (hb hby at_82) k))) ?_
  show GoW p e below QQ (T25.setTop (mkF m 85 #[.val (.int p1), .val (.int p2), .unset, .unset, .unset, .unset, .unset, .unset, .unset] [(.int (12288 : Int32)), (.int (12 : Int32)), (.ref b1), (.ref b1)]))
  obtain ⟨T27, h27, X27, e27, W27, V27, st27⟩ := stVI X25 hx hZ e25 f26_V_b1 ⟨by decide, by decide⟩ 12 rfl (Nat.le_of_ble_eq_true rfl) (g := (mkF m 85 #[.val (.int p1), .val (.int p2), .unset, .unset, .unset, .unset, .unset, .unset, .unset] [(.int (12288 : Int32)), (.int (12 : Int32)), (.ref b1), (.ref b1)])) rfl rfl (hb hby at_85)
  refine GoW.st st27 ?_
  have f28_V_b1 : Arv Z h27 b1 k1 .int (13 : Int32) [(.int (9 : Int32)), (.int (13 : Int32)), (.int (32 : Int32)), (.int (133 : Int32)), (.int (160 : Int32)), (.int (5760 : Int32)), (.int (8192 : Int32)), (.int (8202 : Int32)), (.int (8232 : Int32)), (.int (8233 : Int32)), (.int (8239 : Int32)), (.int (8287 : Int32)), (.int (12288 : Int32))] (.int (0 : Int32)) := V27
  have K27 : Keep h0 h27 [] := K25.wr W27 (Or.inr sz1)
  have N27 := Fr.snoc X27 N25 gg1
  show GoW p e below QQ (T27.setTop (mkF m 86 #[.val (.int p1), .val (.int p2), .unset, .unset, .unset, .unset, .unset, .unset, .unset] [(.ref b1)]))
  refine GoW.st (fun t k => XS.astoreN X27.here hx rfl (hb hby at_86) rfl rfl (l' := #[.val (.int p1), .val (.int p2), .val (.ref b1), .unset, .unset, .unset, .unset, .unset, .unset]) rfl (XS.iloadN X27.here hx rfl (hb hby at_87) rfl (X27.ldcInt hx hown (mvT hZ (hw _ (List.mem_of_getElem? (i := 1) rfl))) (g := (mkF m 88 #[.val (.int p1), .val (.int p2), .val (.ref b1), .unset, .unset, .unset, .unset, .unset, .unset] [(.int p2)])) rfl (hb hby at_88) t (XS.iand X27.here hx rfl (hb hby at_90) rfl (XS.istoreN X27.here hx rfl (hb hby at_91) rfl (l' := #[.val (.int p1), .val (.int p2), .val (.ref b1), .val (.int (p2 &&& (2147483647 : Int32))), .unset, .unset, .unset, .unset, .unset]) rfl k))))) ?_
  show GoW p e below QQ (T27.setTop (mkF m 92 #[.val (.int p1), .val (.int p2), .val (.ref b1), .val (.int (p2 &&& (2147483647 : Int32))), .unset, .unset, .unset, .unset, .unset] []))
  generalize hv91 : (p2 &&& (2147483647 : Int32)) = v91
  refine GoW.st (fun t k => XS.iloadN X27.here hx rfl (hb hby at_92) rfl (XS.bipush X27.here hx rfl (hb hby at_93) (iremM X27 hx rfl (hb hby at_95) rfl (by decide) (XS.istore X27.here hx rfl (hb hby at_96) rfl (l' := #[.val (.int p1), .val (.int p2), .val (.ref b1), .val (.int v91), .val (.int (v91 % (13 : Int32))), .unset, .unset, .unset, .unset]) rfl k)))) ?_
  show GoW p e below QQ (T27.setTop (mkF m 98 #[.val (.int p1), .val (.int p2), .val (.ref b1), .val (.int v91), .val (.int (v91 % (13 : Int32))), .unset, .unset, .unset, .unset] []))
  generalize hv96 : (v91 % (13 : Int32)) = v96
  refine GoW.st (fun t k => XS.iloadN X27.here hx rfl (hb hby at_98) rfl (XS.bipush X27.here hx rfl (hb hby at_99) (XS.idiv X27.here hx rfl (hb hby at_101) rfl (by decide) (XS.bipush X27.here hx rfl (hb hby at_102) (iremM X27 hx rfl (hb hby at_104) rfl (by decide) (XS.bipush X27.here hx rfl (hb hby at_105) k)))))) ?_
  show GoW p e below QQ (T27.setTop (mkF m 107 #[.val (.int p1), .val (.int p2), .val (.ref b1), .val (.int v91), .val (.int v96), .unset, .unset, .unset, .unset] [(.int (6 : Int32)), (.int ((v91 / (13 : Int32)) % (13 : Int32)))]))
  refine GoW.st (fun t k => XS.isub X27.here hx rfl (hb hby at_107) rfl (XS.istore X27.here hx rfl (hb hby at_108) rfl (l' := #[.val (.int p1), .val (.int p2), .val (.ref b1), .val (.int v91), .val (.int v96), .val (.int (((v91 / (13 : Int32)) % (13 : Int32)) - (6 : Int32))), .unset, .unset, .unset]) rfl k)) ?_
  show GoW p e below QQ (T27.setTop (mkF m 110 #[.val (.int p1), .val (.int p2), .val (.ref b1), .val (.int v91), .val (.int v96), .val (.int (((v91 / (13 : Int32)) % (13 : Int32)) - (6 : Int32))), .unset, .unset, .unset] []))
  generalize hv108 : (((v91 / (13 : Int32)) % (13 : Int32)) - (6 : Int32)) = v108
  have nb := c_and p2 2147483647 (by decide)
  rw [hv91] at nb
  have n1 := (c_irem v91 13 13 rfl).1 nb.1
  rw [hv96] at n1
  have hj0 : ¬ v96 < 0 := by
    have z : (0 : Int32).toInt = 0 := rfl
    rw [Int32.lt_iff_toInt_lt]; omega
  have hjz : v96 < 13 := by
    have z : (13 : Int32).toInt = 13 := rfl
    rw [Int32.lt_iff_toInt_lt]; omega
  refine GoW.st (fun t k => XS.aloadN X27.here hx rfl (hb hby at_110) rfl rfl (XS.iload X27.here hx rfl (hb hby at_111) rfl (ldVI X27 hx hZ e27 f28_V_b1 (v := (.int (([(9 : Int32), (13 : Int32), (32 : Int32), (133 : Int32), (160 : Int32), (5760 : Int32), (8192 : Int32), (8202 : Int32), (8232 : Int32), (8233 : Int32), (8239 : Int32), (8287 : Int32), (12288 : Int32)] : List Int32).getD (v96).toNatClampNeg (0 : Int32)))) ⟨hj0, hjz⟩ (own_at13 _ _ _ _ _ _ _ _ _ _ _ _ _ _) (g := (mkF m 113 #[.val (.int p1), .val (.int p2), .val (.ref b1), .val (.int v91), .val (.int v96), .val (.int v108), .unset, .unset, .unset] [(.int v96), (.ref b1)])) rfl rfl (hb hby at_113) t (XS.iload X27.here hx rfl (hb hby at_114) rfl (XS.iadd X27.here hx rfl (hb hby at_116) rfl (XS.istore X27.here hx rfl (hb hby at_117) rfl (l' := #[.val (.int p1), .val (.int p2), .val (.ref b1), .val (.int v91), .val (.int v96), .val (.int v108), .val (.int ((([(9 : Int32), (13 : Int32), (32 : Int32), (133 : Int32), (160 : Int32), (5760 : Int32), (8192 : Int32), (8202 : Int32), (8232 : Int32), (8233 : Int32), (8239 : Int32), (8287 : Int32), (12288 : Int32)] : List Int32).getD (v96).toNatClampNeg (0 : Int32)) + v108)), .unset, .unset]) rfl k)))))) ?_
  show GoW p e below QQ (T27.setTop (mkF m 119 #[.val (.int p1), .val (.int p2), .val (.ref b1), .val (.int v91), .val (.int v96), .val (.int v108), .val (.int ((([(9 : Int32), (13 : Int32), (32 : Int32), (133 : Int32), (160 : Int32), (5760 : Int32), (8192 : Int32), (8202 : Int32), (8232 : Int32), (8233 : Int32), (8239 : Int32), (8287 : Int32), (12288 : Int32)] : List Int32).getD (v96).toNatClampNeg (0 : Int32)) + v108)), .unset, .unset] []))
  generalize hv117 : ((([(9 : Int32), (13 : Int32), (32 : Int32), (133 : Int32), (160 : Int32), (5760 : Int32), (8192 : Int32), (8202 : Int32), (8232 : Int32), (8233 : Int32), (8239 : Int32), (8287 : Int32), (12288 : Int32)] : List Int32).getD (v96).toNatClampNeg (0 : Int32)) + v108) = v117
  refine GoW.st (fun t k => XS.iloadN X27.here hx rfl (hb hby at_119) rfl k) ?_
  show GoW p e below QQ (T27.setTop (mkF m 120 #[.val (.int p1), .val (.int p2), .val (.ref b1), .val (.int v91), .val (.int v96), .val (.int v108), .val (.int v117), .unset, .unset] [(.int p1)]))
  obtain ⟨_, _, ⟨T29, zL29, zk29, zn29⟩, -, X29, ⟨Lc29, hQ29, zl29, zy29, zz29⟩, st29⟩ := Jvm.LawKit.callS X27 hx (y := (⟨"com/example/terseform/terseform/Grammar", "isWhitespace", "(I)Z"⟩ : MethodName)) hown (mvT hZ (hw _ (List.mem_of_getElem? (i := 2) rfl))) (mvT hZ (hw _ (List.mem_of_getElem? (i := 3) rfl))) (mvT hZ (hw _ (List.mem_of_getElem? (i := 4) rfl))) (mvT hZ (hw _ (List.mem_of_getElem? (i := 5) rfl))) (by decide) (backOf (W := 0) (rm1 l Z a0 hw [] p1 h27 n0 (Nat.le_trans Z0 K27.1) ) hZ (hw _ (List.mem_of_getElem? (i := 5) rfl)) (hw _ (List.mem_of_getElem? (i := 4) rfl)) (by decide) (by decide)) (g := (mkF m 120 #[.val (.int p1), .val (.int p2), .val (.ref b1), .val (.int v91), .val (.int v96), .val (.int v108), .val (.int v117), .unset, .unset] [(.int p1)])) rfl (by rw [hml]; rfl) (argsL := [(.int p1)]) (rest := []) (lenOf pd_0 rfl) rfl (by show 2 * 0 + _ ≤ _; exact Nat.le_of_eq rfl) (hb hby at_120) (fun _ _ => ⟨rfl, e27, (by decide : 1 + 0 ≤ _), (by decide : 13 + 0 ≤ _)⟩)
  dsimp only [Pt.U, Pt.locs, Pt.cells, Pt.slots] at X29 zl29 zy29 zz29 st29 hQ29
  subst zl29 zy29 zz29
  obtain ⟨rfl, Nq29, hh29⟩ := hQ29
  have N29 := Fr.app N27 Nq29
  refine GoW.st st29 ?_
  show GoW p e below QQ (T29.setTop (mkF m 123 #[.val (.int p1), .val (.int p2), .val (.ref b1), .val (.int v91), .val (.int v96), .val (.int v108), .val (.int v117), .unset, .unset] [(.int (own_ws p1))]))
  refine GoW.st (fun t k => XS.iloadN X29.here hx rfl (hb hby at_123) rfl k) ?_
  show GoW p e below QQ (T29.setTop (mkF m 124 #[.val (.int p1), .val (.int p2), .val (.ref b1), .val (.int v91), .val (.int v96), .val (.int v108), .val (.int v117), .unset, .unset] [(.int p1), (.int (own_ws p1))]))
  obtain ⟨_, _, ⟨T30, zL30, zk30, zn30⟩, -, X30, ⟨Lc30, hQ30, zl30, zy30, zz30⟩, st30⟩ := Jvm.LawKit.callS X29 hx (y := (⟨"com/example/terseform/terseform/GrammarIsWhitespacePinLaw", "ref", "(I)Z"⟩ : MethodName)) hown (mvT hZ (hw _ (List.mem_of_getElem? (i := 6) rfl))) (mvT hZ (hw _ (List.mem_of_getElem? (i := 7) rfl))) (mvT hZ (hw _ (List.mem_of_getElem? (i := 8) rfl))) (mvT hZ (hw _ (List.mem_of_getElem? (i := 9) rfl))) (by decide) (backOf (W := 1) (rm2 l Z a0 hw [] p1 h27 n0 (Nat.le_trans Z0 K27.1) ) hZ (hw _ (List.mem_of_getElem? (i := 9) rfl)) (hw _ (List.mem_of_getElem? (i := 8) rfl)) (by decide) (by decide)) (g := (mkF m 124 #[.val (.int p1), .val (.int p2), .val (.ref b1), .val (.int v91), .val (.int v96), .val (.int v108), .val (.int v117), .unset, .unset] [(.int p1), (.int (own_ws p1))])) rfl (by rw [hml]; rfl) (argsL := [(.int p1)]) (rest := [(.int (own_ws p1))]) (lenOf pd_0 rfl) rfl (by show 2 * 0 + _ ≤ _; exact Nat.le_of_eq rfl) (hb hby at_124) (fun _ _ => ⟨rfl, hh29, (by decide : 1 + 0 ≤ _), (by decide : 13 + 0 ≤ _)⟩)
  dsimp only [Pt.U, Pt.locs, Pt.cells, Pt.slots] at X30 zl30 zy30 zz30 st30 hQ30
  subst zl30 zy30 zz30
  obtain ⟨rfl, Nq30, hh30⟩ := hQ30
  have N30 := Fr.app N29 Nq30
  refine GoW.st st30 ?_
  show GoW p e below QQ (T30.setTop (mkF m 127 #[.val (.int p1), .val (.int p2), .val (.ref b1), .val (.int v91), .val (.int v96), .val (.int v108), .val (.int v117), .unset, .unset] [(.int (own_ws p1)), (.int (own_ws p1))]))
  have hc127 : (own_ws p1) = (own_ws p1) := by
    rfl
  refine GoW.st (fun t k => XS.icmpNo X30.here hx rfl (hb hby at_127) rfl (teq hc127).2 (XS.iconst X30.here hx rfl (hb hby at_130) (XS.goto X30.here hx rfl (pc0 := 131) (pc' := 135) rfl (hb hby at_131) (by decide) (by decide) (XS.istore X30.here hx rfl (hb hby at_135) rfl (l' := #[.val (.int p1), .val (.int p2), .val (.ref b1), .val (.int v91), .val (.int v96), .val (.int v108), .val (.int v117), .val (.int (1 : Int32)), .unset]) rfl (XS.iload X30.here hx rfl (hb hby at_137) rfl k))))) ?_
  show GoW p e below QQ (T30.setTop (mkF m 139 #[.val (.int p1), .val (.int p2), .val (.ref b1), .val (.int v91), .val (.int v96), .val (.int v108), .val (.int v117), .val (.int (1 : Int32)), .unset] [(.int v117)]))
  obtain ⟨_, _, ⟨T31, zL31, zk31, zn31⟩, -, X31, ⟨Lc31, hQ31, zl31, zy31, zz31⟩, st31⟩ := Jvm.LawKit.callS X30 hx (y := (⟨"com/example/terseform/terseform/Grammar", "isWhitespace", "(I)Z"⟩ : MethodName)) hown (mvT hZ (hw _ (List.mem_of_getElem? (i := 2) rfl))) (mvT hZ (hw _ (List.mem_of_getElem? (i := 3) rfl))) (mvT hZ (hw _ (List.mem_of_getElem? (i := 4) rfl))) (mvT hZ (hw _ (List.mem_of_getElem? (i := 5) rfl))) (by decide) (backOf (W := 0) (rm1 l Z a0 hw [] v117 h27 n0 (Nat.le_trans Z0 K27.1) ) hZ (hw _ (List.mem_of_getElem? (i := 5) rfl)) (hw _ (List.mem_of_getElem? (i := 4) rfl)) (by decide) (by decide)) (g := (mkF m 139 #[.val (.int p1), .val (.int p2), .val (.ref b1), .val (.int v91), .val (.int v96), .val (.int v108), .val (.int v117), .val (.int (1 : Int32)), .unset] [(.int v117)])) rfl (by rw [hml]; rfl) (argsL := [(.int v117)]) (rest := []) (lenOf pd_0 rfl) rfl (by show 2 * 0 + _ ≤ _; exact Nat.le_of_eq rfl) (hb hby at_139) (fun _ _ => ⟨rfl, hh30, (by decide : 1 + 0 ≤ _), (by decide : 13 + 0 ≤ _)⟩)
  dsimp only [Pt.U, Pt.locs, Pt.cells, Pt.slots] at X31 zl31 zy31 zz31 st31 hQ31
  subst zl31 zy31 zz31
  obtain ⟨rfl, Nq31, hh31⟩ := hQ31
  have N31 := Fr.app N30 Nq31
  refine GoW.st st31 ?_
  show GoW p e below QQ (T31.setTop (mkF m 142 #[.val (.int p1), .val (.int p2), .val (.ref b1), .val (.int v91), .val (.int v96), .val (.int v108), .val (.int v117), .val (.int (1 : Int32)), .unset] [(.int (own_ws v117))]))
  refine GoW.st (fun t k => XS.iload X31.here hx rfl (hb hby at_142) rfl k) ?_
  show GoW p e below QQ (T31.setTop (mkF m 144 #[.val (.int p1), .val (.int p2), .val (.ref b1), .val (.int v91), .val (.int v96), .val (.int v108), .val (.int v117), .val (.int (1 : Int32)), .unset] [(.int v117), (.int (own_ws v117))]))
  obtain ⟨_, _, ⟨T32, zL32, zk32, zn32⟩, -, X32, ⟨Lc32, hQ32, zl32, zy32, zz32⟩, st32⟩ := Jvm.LawKit.callS X31 hx (y := (⟨"com/example/terseform/terseform/GrammarIsWhitespacePinLaw", "ref", "(I)Z"⟩ : MethodName)) hown (mvT hZ (hw _ (List.mem_of_getElem? (i := 6) rfl))) (mvT hZ (hw _ (List.mem_of_getElem? (i := 7) rfl))) (mvT hZ (hw _ (List.mem_of_getElem? (i := 8) rfl))) (mvT hZ (hw _ (List.mem_of_getElem? (i := 9) rfl))) (by decide) (backOf (W := 1) (rm2 l Z a0 hw [] v117 h27 n0 (Nat.le_trans Z0 K27.1) ) hZ (hw _ (List.mem_of_getElem? (i := 9) rfl)) (hw _ (List.mem_of_getElem? (i := 8) rfl)) (by decide) (by decide)) (g := (mkF m 144 #[.val (.int p1), .val (.int p2), .val (.ref b1), .val (.int v91), .val (.int v96), .val (.int v108), .val (.int v117), .val (.int (1 : Int32)), .unset] [(.int v117), (.int (own_ws v117))])) rfl (by rw [hml]; rfl) (argsL := [(.int v117)]) (rest := [(.int (own_ws v117))]) (lenOf pd_0 rfl) rfl (by show 2 * 0 + _ ≤ _; exact Nat.le_of_eq rfl) (hb hby at_144) (fun _ _ => ⟨rfl, hh31, (by decide : 1 + 0 ≤ _), (by decide : 13 + 0 ≤ _)⟩)
  dsimp only [Pt.U, Pt.locs, Pt.cells, Pt.slots] at X32 zl32 zy32 zz32 st32 hQ32
  subst zl32 zy32 zz32
  obtain ⟨rfl, Nq32, hh32⟩ := hQ32
  have N32 := Fr.app N31 Nq32
  refine GoW.st st32 ?_
  show GoW p e below QQ (T32.setTop (mkF m 147 #[.val (.int p1), .val (.int p2), .val (.ref b1), .val (.int v91), .val (.int v96), .val (.int v108), .val (.int v117), .val (.int (1 : Int32)), .unset] [(.int (own_ws v117)), (.int (own_ws v117))]))
  have hc147 : (own_ws v117) = (own_ws v117) := by
    rfl
  refine GoW.st (fun t k => XS.icmpNo X32.here hx rfl (hb hby at_147) rfl (teq hc147).2 (XS.iconst X32.here hx rfl (hb hby at_150) (XS.goto X32.here hx rfl (pc0 := 151) (pc' := 155) rfl (hb hby at_151) (by decide) (by decide) (XS.istore X32.here hx rfl (hb hby at_155) rfl (l' := #[.val (.int p1), .val (.int p2), .val (.ref b1), .val (.int v91), .val (.int v96), .val (.int v108), .val (.int v117), .val (.int (1 : Int32)), .val (.int (1 : Int32))]) rfl (XS.iload X32.here hx rfl (hb hby at_157) rfl k))))) ?_
  show GoW p e below QQ (T32.setTop (mkF m 159 #[.val (.int p1), .val (.int p2), .val (.ref b1), .val (.int v91), .val (.int v96), .val (.int v108), .val (.int v117), .val (.int (1 : Int32)), .val (.int (1 : Int32))] [(.int (1 : Int32))]))
  have hc159 : ¬ ((1 : Int32) = (0 : Int32)) := by decide
  refine GoW.st (fun t k => XS.ifNo X32.here hx rfl (hb hby at_159) rfl ((if0 _ _).trans (feq hc159).1) (XS.iload X32.here hx rfl (hb hby at_162) rfl k)) ?_
  show GoW p e below QQ (T32.setTop (mkF m 164 #[.val (.int p1), .val (.int p2), .val (.ref b1), .val (.int v91), .val (.int v96), .val (.int v108), .val (.int v117), .val (.int (1 : Int32)), .val (.int (1 : Int32))] [(.int (1 : Int32))]))
  have hc164 : ¬ ((1 : Int32) = (0 : Int32)) := by decide
  refine GoW.st (fun t k => XS.ifNo X32.here hx rfl (hb hby at_164) rfl ((if0 _ _).trans (feq hc164).1) (XS.iconst X32.here hx rfl (hb hby at_167) (XS.goto X32.here hx rfl (pc0 := 168) (pc' := 172) rfl (hb hby at_168) (by decide) (by decide) k))) ?_
  show GoW p e below QQ (T32.setTop (mkF m 172 #[.val (.int p1), .val (.int p2), .val (.ref b1), .val (.int v91), .val (.int v96), .val (.int v108), .val (.int v117), .val (.int (1 : Int32)), .val (.int (1 : Int32))] [(.int (1 : Int32))]))
  exact GoW.fin X32 (some (.int (nar .boolean (1 : Int32)))) (fun q => by rw [hret] at q; cases q) hlk hQ hh32 ⟨rfl, N32⟩ (by decide) (by decide) (fun fs hr => retN X32 hx (t := .boolean) hret (by simp) (hb hby at_172) hr)
set_option maxRecDepth 65536 in
set_option maxHeartbeats 40000000 in
theorem comes_1 {Post : Tables → Env → Array Value → State → Outcome → State → Prop} (hpost : ∀ tb e args s v u, (limb_1_1.after args s (.returned v) u = true ∧ limb_1_2.after args s (.returned v) u = true ∧ True) → FrameEnd s (.returned v) u (Jvm.fieldLocs frame_1_writes args s ++ Jvm.arrayLocs frame_1_arrays args s ++ Jvm.staticLocs frame_1_statics s) 16 128 → Post tb e args s (.returned v) u) :
    ArmFor flags0 classFile x code maxLocals ret World_1 tables_1 room_1 Calls_1 rest_1 Pre_1 Post := by
  intro l hfl _ _ p e ha hc hk s m args below hf hA hF happ hP
  obtain ⟨hcalls, hrest, hpre⟩ := hP
  obtain ⟨-, -, -, hnamed, -, -, -, hat⟩ := (Spec.applies_iff hf).mp happ
  obtain ⟨hg, hn⟩ := and_e (Cond.before_iff.mp (show (Jvm.Cond.and given_1 narrow_1).before args s = true from hpre))
  obtain ⟨gcount, gr0⟩ := and_e hg
  obtain ⟨ga0, gr1⟩ := and_e gr0
  obtain ⟨w0, w1, rfl⟩ : ∃ w0 w1 : Value, args = #[w0, w1] := by
    have hs : args.size = 2 := by simpa [Cond.value, given_1] using gcount
    obtain ⟨L⟩ := args
    match L, hs with
    | [w0, w1], _ => exact ⟨w0, w1, rfl⟩
  have hw := fun d (hd : d ∈ tables_1) => atoms_spec (ws := Jvm.Cond.code x code maxLocals ret :: tables_1) hat d (List.mem_cons_of_mem _ hd)
  obtain ⟨i0, ei0⟩ := is_v ga0
  obtain rfl : w0 = (.int i0) := Option.some.inj ei0
  obtain ⟨i1, ei1⟩ := is_v gr1
  obtain rfl : w1 = (.int i1) := Option.some.inj ei1
  obtain ⟨n, o, h1, h2, h3, _, L, rfl, ⟨rfl, N⟩, hq⟩ := rm0 l s _ hw tables_1 i0 i1 s.heap s.heap.size (Nat.le_refl _) (Nat.le_refl _) p e ha hc hk s m _ below hf ((Spec.applies_iff_loose hf).mp happ).1 ⟨rfl, State.Warmed39.refl s, rfl⟩ trivial
  refine ⟨n, _, h1, h2, h3, hpost _ _ _ _ _ _ ⟨Cond.after_iff.mpr rfl, Cond.after_iff.mpr (eq_i res_at (Term.int_eval (1)) rfl), trivial⟩ ⟨hq.1, hq.2.1, (hq.2.2.sift fun y hy => Or.inr (N y hy)).mono (by decide) (by decide)⟩⟩
theorem main_1_1 : Claimed_1_1 := comes_1 fun _ _ _ _ _ _ h hF => ⟨h.1, hF⟩
theorem main_1_2 : Claimed_1_2 := comes_1 fun _ _ _ _ _ _ h hF => ⟨h.2.1, hF⟩
end Jvm.Pilot.@@N@@
namespace Jvm.Pilot.@@N@@
open Jvm Jvm.ClassFile Sem Op Lib Jvm.Free Jvm.Stand Jvm.Pilot.@@N@@.Jvm.D
/-! MADE BY PROGRAM (witnessworld.py) out of the Statement's table words and the real class files: 9 classes; the members and pool entries that the words name. The judged class is class 1, her method 2. -/
namespace start1
open Jvm.ClassFile
def u (s : String) : CpInfo := .utf8 (stringToUtf16 s)
/-- a pool by its gaps: so many unusable entries, then the entry; so many at the end -/
def gap : Nat → List CpInfo → List CpInfo
  | 0, r => r
  | n + 1, r => .unusable :: gap n r
def poolList (es : List (Nat × CpInfo)) (last : Nat) : List CpInfo := es.foldr (fun e r => gap e.1 (e.2 :: r)) (gap last [])
def pool (es : List (Nat × CpInfo)) (last : Nat) : Array CpInfo := ⟨poolList es last⟩
def fileOf (pool : Array CpInfo) (this : Nat) (attrs : Array Attribute := #[]) (ms : Array MethodInfo := #[]) (fl : Nat := 33) (sup : Nat := 0) (ifs : Array Nat := #[]) (fds : Array FieldInfo := #[]) : ClassFile where
  minorVersion := 0
  majorVersion := 65
  constantPool := pool
  accessFlags := fl
  thisClass := this
  superClass := sup
  interfaces := ifs
  fields := fds
  methods := ms
  attributes := attrs
def plain (name : String) (sup : Option ClassId) : Class where
  name := name
  kind := .ordinary
  loader := none
  accessFlags := 33
  super := sup
  interfaces := #[]
  cf := none
  fields := #[]
  methods := #[]
  instanceTypes := #[]
  staticTypes := #[]
  resolved := #[]
  callSites := []
  init := .initialized
  statics := none
  mirror := none

def pool0 : Array CpInfo := pool [(5, u "<init>"), (0, u "()V"), (1, .class_ 10), (1, u "java/lang/Object")] 113

def k0m0 : Method := { name := "<init>", desc := "()V", sig := { parameters := [], returnType := none }, accessFlags := 1, code := none }
/-- java/lang/Object -/
def k0 : Class := { plain "java/lang/Object" none with
  accessFlags := 33
  interfaces := #[]
  cf := some (fileOf pool0 8 #[] #[{ accessFlags := 1, nameIndex := 5, descriptorIndex := 6, attributes := #[] }] 33 0 #[] #[])
  fields := #[]
  methods := #[k0m0]
  instanceTypes := #[]
  staticTypes := #[]
  resolved := Array.replicate 124 none
  statics := none }

def pool1 : Array CpInfo := pool [(2, .class_ 4), (1, u "java/lang/Object"), (0, u "<init>"), (0, u "()V"), (0, .integer 2147483647), (0, .methodref 9 10), (0, .class_ 11), (0, .nameAndType 12 13), (0, u "com/example/terseform/terseform/Grammar"), (0, u "isWhitespace"), (0, u "(I)Z"), (0, .methodref 15 16), (0, .class_ 17), (0, .nameAndType 18 13), (0, u "com/example/terseform/terseform/GrammarIsWhitespacePinLaw"), (0, u "ref"), (3, u "law"), (0, u "(II)Z")] 4

def k1m0 : Method := { name := "<init>", desc := "()V", sig := { parameters := [], returnType := none }, accessFlags := 2, code := none }
def k1c1 : Code := { maxStack := 2, maxLocals := 3, code := method_2_code, exceptionTable := #[], attributes := #[] }
def k1m1 : Method := { name := "ref", desc := "(I)Z", sig := { parameters := [.int], returnType := some .boolean }, accessFlags := 10, code := some k1c1 }
def k1c2 : Code := { maxStack := 4, maxLocals := 9, code := code, exceptionTable := #[], attributes := #[] }
def k1m2 : Method := { name := "law", desc := "(II)Z", sig := { parameters := [.int, .int], returnType := some .boolean }, accessFlags := 9, code := some k1c2 }
/-- com/example/terseform/terseform/GrammarIsWhitespacePinLaw -/
def k1 : Class := { plain "com/example/terseform/terseform/GrammarIsWhitespacePinLaw" (some 0) with
  accessFlags := 49
  interfaces := #[]
  cf := some (fileOf pool1 15 #[] #[{ accessFlags := 2, nameIndex := 5, descriptorIndex := 6, attributes := #[] }, { accessFlags := 10, nameIndex := 18, descriptorIndex := 13, attributes := #[] }, { accessFlags := 9, nameIndex := 22, descriptorIndex := 23, attributes := #[] }] 49 2 #[] #[])
  fields := #[]
  methods := #[k1m0, k1m1, k1m2]
  instanceTypes := #[]
  staticTypes := #[]
  resolved := Array.replicate 28 none
  statics := none }

def pool2 : Array CpInfo := pool [(2, .class_ 4), (1, u "java/lang/Object"), (0, u "<init>"), (0, u "()V"), (13, .class_ 22), (1, u "com/example/terseform/terseform/Grammar"), (66, u "HEX"), (0, u "[C"), (23, u "ASCII_TOKEN_ENDS"), (0, u "[J"), (6, u "isWhitespace"), (0, u "(I)Z")] 30

def k2m0 : Method := { name := "<init>", desc := "()V", sig := { parameters := [], returnType := none }, accessFlags := 2, code := none }
def k2c1 : Code := { maxStack := 2, maxLocals := 1, code := prog_7_method_19_code, exceptionTable := #[], attributes := #[] }
def k2m1 : Method := { name := "isWhitespace", desc := "(I)Z", sig := { parameters := [.int], returnType := some .boolean }, accessFlags := 8, code := some k2c1 }
/-- com/example/terseform/terseform/Grammar -/
def k2 : Class := { plain "com/example/terseform/terseform/Grammar" (some 0) with
  accessFlags := 48
  interfaces := #[]
  cf := some (fileOf pool2 20 #[] #[{ accessFlags := 2, nameIndex := 5, descriptorIndex := 6, attributes := #[] }, { accessFlags := 8, nameIndex := 122, descriptorIndex := 123, attributes := #[] }] 48 2 #[] #[{ accessFlags := 26, nameIndex := 89, descriptorIndex := 90, attributes := #[] }, { accessFlags := 26, nameIndex := 114, descriptorIndex := 115, attributes := #[] }])
  fields := #[{ name := "HEX", type := (.array .char), accessFlags := 26, slot := 0, constantValue := 0 }, { name := "ASCII_TOKEN_ENDS", type := (.array .long), accessFlags := 26, slot := 1, constantValue := 0 }]
  methods := #[k2m0, k2m1]
  instanceTypes := #[]
  staticTypes := #[(.array .char), (.array .long)]
  resolved := Array.replicate 154 none
  statics := none }

def pool3 : Array CpInfo := pool [(1, u "java/lang/Cloneable"), (0, .class_ 1), (0, u "java/lang/Object"), (0, .class_ 3)] 3

/-- java/lang/Cloneable -/
def k3 : Class := { plain "java/lang/Cloneable" (some 0) with
  accessFlags := 1537
  interfaces := #[]
  cf := some (fileOf pool3 2 #[] #[] 1537 4 #[] #[])
  fields := #[]
  methods := #[]
  instanceTypes := #[]
  staticTypes := #[]
  resolved := Array.replicate 8 none
  statics := none }

def pool4 : Array CpInfo := pool [(1, u "java/io/Serializable"), (0, .class_ 1), (0, u "java/lang/Object"), (0, .class_ 3)] 3

/-- java/io/Serializable -/
def k4 : Class := { plain "java/io/Serializable" (some 0) with
  accessFlags := 1537
  interfaces := #[]
  cf := some (fileOf pool4 2 #[] #[] 1537 4 #[] #[])
  fields := #[]
  methods := #[]
  instanceTypes := #[]
  staticTypes := #[]
  resolved := Array.replicate 8 none
  statics := none }

/-- the primitive byte -/
def k5 : Class := { plain "byte" none with kind := .primitive 'B', accessFlags := 0x411 }
/-- [B -/
def k6 : Class := { plain "[B" (some 0) with kind := .array 5 .byte, interfaces := #[3, 4], accessFlags := 1041 }

/-- the primitive int -/
def k7 : Class := { plain "int" none with kind := .primitive 'I', accessFlags := 0x411 }
/-- [I -/
def k8 : Class := { plain "[I" (some 0) with kind := .array 7 .int, interfaces := #[3, 4], accessFlags := 1041 }

def heap : Heap := #[]
def classes : Array Class := #[k0, k1, k2, k3, k4, k5, k6, k7, k8]
def interned : List (Array UInt16 × Addr) := []
def slotsUsed : Nat := 0
def theMethod : MethodId := ⟨1, 2⟩
def args0 : Array Value := #[.int 5, .int 6]
def aboutOver (below : List Frame) : State where
  vm := { classes := classes, interned := interned.toArray }
  heap := heap
  slotsUsed := slotsUsed
  threads := #[{ frames := .invoking theMethod args0 :: below }]
def below0 : List Frame := [.native { method := ⟨0, 0⟩, args := #[] }]
def about1 : State := aboutOver below0
def p0 : Program := .bare "" "" ""
def e0 : Env := launch0.env 0 0 0
theorem w_frames : about1.frames = Frame.invoking theMethod args0 :: below0 := rfl
set_option maxRecDepth 65536 in
theorem w_args : argsFit about1.vm theMethod args0 = true := by decide +kernel
set_option maxRecDepth 65536 in
theorem w_heap : heapFits about1 = true := by decide +kernel
set_option maxRecDepth 65536 in
theorem w_runnable : about1.curStatus? = some .runnable := by decide +kernel
set_option maxRecDepth 65536 in
theorem w_alone : about1.alone = true := by decide +kernel
set_option maxRecDepth 65536 in
theorem w_named : about1.methodNamed? x = some theMethod := by decide +kernel
set_option maxRecDepth 65536 in
theorem w_hears : about1.hears theMethod below0 = true := by decide +kernel
set_option maxRecDepth 65536 in
theorem w_ripe : about1.ripe theMethod args0 below0 = true := by decide +kernel
theorem w_running : about1.status = .running := rfl
set_option maxRecDepth 65536 in
theorem w_room : about1.hasRoom e0.platform room_1 = true :=
  launch0.hasRoom_least _ room_1 (by decide +kernel) (by decide +kernel) (by decide +kernel) (by decide +kernel) (by decide +kernel) (by decide +kernel)
theorem allAtoms_all (ts : List Jvm.Cond) (a : Array Jvm.Value) (st : Jvm.State) : (allAtoms ts).before a st = ts.all (fun c => c.before a st) := by
  induction ts with
  | nil => rfl
  | cons c t ih =>
    show (Jvm.Cond.and c (allAtoms t)).before a st = _
    rw [Jvm.Cond.before_and, ih, List.all_cons]
def words1 : List Jvm.Cond := Jvm.Cond.code x code maxLocals ret :: tables_1
/-- a 'code' word, met by the world's own term for the bytes: nothing is compared byte by byte -/
theorem code_word {y : MethodName} {bytes : ByteArray} {mx : Nat} {rt : Option FieldType} {a : Array Value} {s : State} {m : MethodId} {meth : Method} {c : Code} (h1 : s.methodNamed? y = some m) (h2 : s.vm.method? m = some meth) (h3 : meth.code = some c) (h4 : c.code = bytes)
    (h5 : (c.maxLocals == mx && c.exceptionTable.isEmpty && decide (c.maxStack ≤ mostOperands) && decide (meth.sig.returnType = rt) && !meth.locks && decide (parseMethodDescriptor y.desc = some meth.sig)) = true) : (Jvm.Cond.code y bytes mx rt).before a s = true := by
  simp only [Bool.and_eq_true, beq_iff_eq, Bool.not_eq_true', decide_eq_true_eq] at h5
  obtain ⟨⟨⟨⟨⟨g1, g2⟩, g3⟩, g4⟩, g5⟩, g6⟩ := h5
  simp [Cond.before, Cond.holds, Cond.value, h1, h2, h3, h4, g1, g2, g3, g4, g5, g6]
def isCode : Jvm.Cond → Bool
  | .code _ _ _ _ => true
  | _ => false
theorem all_split {L : List Jvm.Cond} {P : Jvm.Cond → Bool} (h1 : L.all (fun c => isCode c || P c) = true) (h2 : ∀ c ∈ L.filter isCode, P c = true) : L.all P = true := by
  refine List.all_eq_true.mpr fun c hc => ?_
  have h := List.all_eq_true.mp h1 c hc
  rcases Bool.eq_false_or_eq_true (isCode c) with hi | hi
  · exact h2 c (List.mem_filter.mpr ⟨hc, hi⟩)
  · simpa [hi] using h
set_option maxRecDepth 65536 in
theorem w_c0 : (Jvm.Cond.code x code maxLocals ret).before args0 about1 = true := code_word (m := ⟨1, 2⟩) (meth := k1m2) (c := k1c2) (by decide +kernel) rfl rfl rfl (by decide +kernel)
set_option maxRecDepth 65536 in
theorem w_c1 : (Jvm.Cond.code ({ cls := "com/example/terseform/terseform/Grammar", name := "isWhitespace", desc := "(I)Z" } : Jvm.MethodName) prog_7_method_19_code (1 : Nat) (Option.some Jvm.ClassFile.FieldType.boolean)).before args0 about1 = true := code_word (m := ⟨2, 1⟩) (meth := k2m1) (c := k2c1) (by decide +kernel) rfl rfl rfl (by decide +kernel)
set_option maxRecDepth 65536 in
theorem w_c2 : (Jvm.Cond.code ({ cls := "com/example/terseform/terseform/GrammarIsWhitespacePinLaw", name := "ref", desc := "(I)Z" } : Jvm.MethodName) method_2_code (3 : Nat) (Option.some Jvm.ClassFile.FieldType.boolean)).before args0 about1 = true := code_word (m := ⟨1, 1⟩) (meth := k1m1) (c := k1c1) (by decide +kernel) rfl rfl rfl (by decide +kernel)
def codes1 : List Jvm.Cond := [Jvm.Cond.code x code maxLocals ret, Jvm.Cond.code ({ cls := "com/example/terseform/terseform/Grammar", name := "isWhitespace", desc := "(I)Z" } : Jvm.MethodName) prog_7_method_19_code (1 : Nat) (Option.some Jvm.ClassFile.FieldType.boolean), Jvm.Cond.code ({ cls := "com/example/terseform/terseform/GrammarIsWhitespacePinLaw", name := "ref", desc := "(I)Z" } : Jvm.MethodName) method_2_code (3 : Nat) (Option.some Jvm.ClassFile.FieldType.boolean)]
set_option maxRecDepth 65536 in
theorem codes_eq : words1.filter isCode = codes1 := rfl
theorem w_codes : ∀ c ∈ words1.filter isCode, c.before args0 about1 = true := by
  rw [codes_eq]
  intro c hc
  simp only [codes1, List.mem_cons, List.not_mem_nil, or_false] at hc
  rcases hc with rfl | rfl | rfl
  · exact w_c0
  · exact w_c1
  · exact w_c2
set_option maxRecDepth 65536 in
theorem w_t1 : words1.all (fun c => isCode c || c.before args0 about1) = true := by decide +kernel
theorem w_tables : (allAtoms (Jvm.Cond.code x code maxLocals ret :: tables_1)).before args0 about1 = true := by
  rw [allAtoms_all]
  show words1.all (fun c => c.before args0 about1) = true
  refine all_split ?_ w_codes
  rw [w_t1]
set_option maxRecDepth 65536 in
theorem w_case : (Jvm.Cond.and given_1 narrow_1).before args0 about1 = true := by decide +kernel
theorem w_applies : (headSpec (Jvm.Cond.code x code maxLocals ret :: tables_1) room_1).applies x e0.platform about1 = true :=
  (Spec.applies_iff w_frames).mpr ⟨w_running, w_runnable, w_alone, w_named, w_hears, w_ripe, w_room, w_tables⟩
theorem atStart : AtStart classFile x code maxLocals ret World_1 tables_1 room_1 Calls_1 rest_1 Pre_1 launch0 p0 e0 about1 theMethod args0 below0 :=
  ⟨lists_1, trivial, launch0.admits_env _ _ _, launch0.least_env, fairChoices_fair.cas, fairChoices_fair.clock, w_frames, w_args, w_heap, w_applies, trivial, trivial, w_case⟩
end start1
theorem witness_1 : WitnessClaimed_1 := ⟨start1.p0, start1.e0, start1.about1, start1.theMethod, start1.args0, start1.below0, start1.atStart⟩
end Jvm.Pilot.@@N@@
