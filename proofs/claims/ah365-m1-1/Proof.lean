import JvmDerived
import JvmDerived.Pilot.@@N@@Statement
import JvmDerived.Pilot.@@N@@Code
set_option linter.unusedVariables false
set_option linter.unusedSimpArgs false
namespace Jvm.RoadKit
open Sem ClassFile Op Lib Jvm.Stand Jvm.Free Jvm.LawKit
section Own
variable {p : Program} {l : Launch} {e : Env} {R : Room} {s : State} {m : MethodId} {args : Array Value} {below : List Frame} {meth : Method} {c : Code} {T : State} {locs : List Loc} {cells slots : Nat}
theorem retI (X : Stand p l e R s m args below meth c T locs cells slots) (hx : p.tables.exec = Jvm.exec) {pc : Nat} {Ls : Array Slot} {z : Int32} {rest : List Value} (hret : meth.sig.returnType = some .int) (hd : decode c.code pc = .ok (.ireturn, 1)) {fs : List Frame}
    (hl : ∀ (f : JFrame) (acts : List Action), f.method = m → f.locked = none → f.entered = [] → (doReturn e (T.setTop f) acts (some (.int z))).1 = T.setFrames fs) : Steps p.tables e below (T.setTop (mkF m pc Ls (.int z :: rest))) (T.setFrames fs) := by
  have hm' : T.vm.method? m = some meth := X.method'
  have hn : narrow .int (.int z) = .int z := rfl
  show Steps p.tables e below (T.setTop { method := m, pc := pc, locals := Ls, stack := _ :: rest, locked := none }) _
  jvm_step X.here [X.here.top, hx, hd, hm', hret, hn]
  first | (intro acts; rw [hl _ acts rfl rfl rfl]) | rw [hl _ _ rfl rfl rfl]
  exact Steps.refl _
/-- the run comes from the state A to its end, and the end is as QQ says -/
def GoW (p : Program) (e : Env) (below : List Frame) (QQ : Outcome → State → Prop) (A : State) : Prop :=
  ∃ s₂ o, Steps p.tables e below A s₂ ∧ s₂.status = .running ∧ Ended s₂ below o ∧ QQ o s₂
theorem GoW.st {QQ : Outcome → State → Prop} {A B : State} (h : ∀ t, Steps p.tables e below B t → Steps p.tables e below A t) (g : GoW p e below QQ B) : GoW p e below QQ A := by
  obtain ⟨s₂, o, h1, h2⟩ := g
  exact ⟨s₂, o, h _ h1, h2⟩
/-- what an end with the value v, the heap and the written places must say -/
def EndsW (s : State) (Q : Option Value → Heap → List Loc → Prop) (cl sl : Nat) (QQ : Outcome → State → Prop) : Prop :=
  ∀ (v : Option Value) (L : List Loc) (T : State), Q v T.heap L → FrameEnd s (.returned v) T L cl sl → QQ (.returned v) T
theorem GoW.fin {Q : Option Value → Heap → List Loc → Prop} {cl sl : Nat} {QQ : Outcome → State → Prop} {A : State} (X : Stand p l e R s m args below meth c T locs cells slots) (v : Option Value) (hv : meth.sig.returnType = none → v = none) (hlk : meth.locks = false) (hQ : EndsW s Q cl sl QQ) {h : Heap} (eT : T.heap = h)
    (q : Q v h locs) (hc : cells ≤ cl) (hs : slots ≤ sl)
    (st : ∀ fs, (∀ (f : JFrame) (acts : List Action), f.method = m → f.locked = none → f.entered = [] → (doReturn e (T.setTop f) acts v).1 = T.setFrames fs) → Steps p.tables e below A (T.setFrames fs)) : GoW p e below QQ A := by
  obtain ⟨fs, hr, hrun, hended, hW, hsame⟩ := X.leave (v := v) hv hlk
  subst eT
  exact ⟨_, _, st fs hr, hrun, hended, hQ _ _ _ q ⟨⟨_, rfl⟩, hW, hsame.mono hc hs⟩⟩
theorem met_of {y : MethodName} {bytes : ByteArray} {maxL : Nat} {ret : Option FieldType} {ws : List Cond} {as' : Array Value} {Z : State} {h0 : Heap} {Q : Option Value → Heap → List Loc → Prop} {cl sl : Nat} (hp : plainFor y = true) {Ls : Array Slot} (ef : ∀ m, entryFrame m as' maxL = mkF m 0 Ls [])
    (core : ∀ (p : Program) (e : Env) (s : State) (m : MethodId) (below : List Frame) (meth : Method) (c : Code) (T : State) (QQ : Outcome → State → Prop), p.tables.exec = Jvm.exec → Z.Warmed39 s.vm → c.code = bytes → c.maxLocals = maxL → s.vm.findClass y.cls = some m.cls → meth.name = y.name → meth.sig.returnType = ret → meth.locks = false →
      Stand p l e R s m as' below meth c T [] 0 0 → T.heap = h0 → EndsW s Q cl sl QQ → GoW p e below QQ (T.setTop (mkF m 0 Ls []))) :
    MetFree l y (head1 (Cond.code y bytes maxL ret :: ws) R) (fun a U => a = as' ∧ Z.Warmed39 U.vm ∧ U.heap = h0) (fun _ _ _ _ _ => True) (fun _ U o U' => ∃ v L, o = .returned v ∧ Q v U'.heap L ∧ FrameEnd U o U' L cl sl) := by
  refine MetFree.of_bodySF hp hisR ?_
  intro p e s m args below meth c s₁ Bd hml0 hP hK
  obtain ⟨rfl, hZ, hh⟩ := hP
  obtain ⟨s₂, o, g1, g2, g3, g4⟩ := core p e s m below meth c s₁ (fun o U' => ∃ v L, o = .returned v ∧ Q v U'.heap L ∧ FrameEnd s o U' L cl sl) Bd.exec hZ Bd.bytes hml0 (findClass_of_methodNamed Bd.named) (name_of_methodNamed Bd.named Bd.method).1 Bd.returns Bd.notSynchronized (Stand.of_body Bd) (by rw [← hh, Bd.state]; rfl) (fun v L T q f => ⟨v, L, rfl, q, f⟩)
  exact ⟨s₂, o, castTop (ef m) g1, g2, g3, g4⟩
theorem standUp (X : Stand p l e R s m args below meth c T locs cells slots) {cells' slots' : Nat} (hc : cells ≤ cells') (hs : slots ≤ slots') : Stand p l e R s m args below meth c T locs cells' slots' :=
  { X with same := X.same.mono hc hs }
theorem lremM {g : JFrame} {target : State} (X : Stand p l e R s m args below meth c T locs cells slots) (hx : p.tables.exec = Jvm.exec) (hg : g.method = m) {x y : Int64} {rest : List Value} (hd : decode c.code g.pc = .ok (.lrem, 1)) (hs : g.stack = .long y :: .long x :: rest) (hy : y ≠ 0)
    (hr : Steps p.tables e below (T.setTop { g with pc := g.pc + 1, stack := .long (x % y) :: rest }) target) : Steps p.tables e below (T.setTop g) target := by
  have q : x - x / y * y = x % y := lrem_mod x y
  exact XS.lrem X.here hx hg hd hs hy (by rw [q]; exact hr)
theorem ldVI {Z : State} {h : Heap} {a : Addr} {kc : ClassId} {z j : Int32} {vs : List Value} {dv v : Value} (X : Stand p l e R s m args below meth c T locs cells slots) (hx : p.tables.exec = Jvm.exec) (hZ : Z.Warmed39 s.vm) (eT : T.heap = h) (F : Arv Z h a kc .int z vs dv) (hj : ¬ j < 0 ∧ j < z) (hv : vs.getD j.toNatClampNeg dv = v)
    {g : JFrame} (hg : g.method = m) {rest : List Value} (hs : g.stack = .int j :: .ref a :: rest) (hd : decode c.code g.pc = .ok (.iaload, 1)) (t : State) (k : Steps p.tables e below (T.setTop { g with pc := g.pc + 1, stack := v :: rest }) t) : Steps p.tables e below (T.setTop g) t := by
  obtain ⟨c', A, -, S, -, H, -⟩ := F
  have i := inb_of S hj
  exact X.iaload hx (by rw [eT]; exact A.1) (State.isArrayOf_alike hZ.alike A.2.1) A.2.2 i (H.at i hv) hg hs hd t k
theorem ldVJ {Z : State} {h : Heap} {a : Addr} {kc : ClassId} {z j : Int32} {vs : List Value} {dv v : Value} (X : Stand p l e R s m args below meth c T locs cells slots) (hx : p.tables.exec = Jvm.exec) (hZ : Z.Warmed39 s.vm) (eT : T.heap = h) (F : Arv Z h a kc .long z vs dv) (hj : ¬ j < 0 ∧ j < z) (hv : vs.getD j.toNatClampNeg dv = v)
    {g : JFrame} (hg : g.method = m) {rest : List Value} (hs : g.stack = .int j :: .ref a :: rest) (hd : decode c.code g.pc = .ok (.laload, 1)) (t : State) (k : Steps p.tables e below (T.setTop { g with pc := g.pc + 1, stack := v :: rest }) t) : Steps p.tables e below (T.setTop g) t := by
  obtain ⟨c', A, -, S, -, H, -⟩ := F
  have i := inb_of S hj
  exact X.laload hx (by rw [eT]; exact A.1) (State.isArrayOf_alike hZ.alike A.2.1) A.2.2 i (H.at i hv) hg hs hd t k
theorem ldVB {Z : State} {h : Heap} {a : Addr} {kc : ClassId} {z j : Int32} {vs : List Value} {dv v : Value} (X : Stand p l e R s m args below meth c T locs cells slots) (hx : p.tables.exec = Jvm.exec) (hZ : Z.Warmed39 s.vm) (eT : T.heap = h) (F : Arv Z h a kc .byte z vs dv) (hj : ¬ j < 0 ∧ j < z) (hv : vs.getD j.toNatClampNeg dv = v)
    {g : JFrame} (hg : g.method = m) {rest : List Value} (hs : g.stack = .int j :: .ref a :: rest) (hd : decode c.code g.pc = .ok (.baload, 1)) (t : State) (k : Steps p.tables e below (T.setTop { g with pc := g.pc + 1, stack := v :: rest }) t) : Steps p.tables e below (T.setTop g) t := by
  obtain ⟨c', A, -, S, -, H, -⟩ := F
  have i := inb_of S hj
  exact X.baloadBytes hx (by rw [eT]; exact A.1) (State.isArrayOf_alike hZ.alike A.2.1) A.2.2 i (H.at i hv) hg hs hd t k
theorem stVI {Z : State} {h : Heap} {a : Addr} {kc : ClassId} {z j : Int32} {vs : List Value} {dv : Value} {x : Int32} (X : Stand p l e R s m args below meth c T locs cells slots) (hx : p.tables.exec = Jvm.exec) (hZ : Z.Warmed39 s.vm) (eT : T.heap = h) (F : Arv Z h a kc .int z vs dv) (hj : ¬ j < 0 ∧ j < z) (i : Nat) (hi : j.toNatClampNeg = i) (hl : i < vs.length)
    {g : JFrame} (hg : g.method = m) {rest : List Value} (hs : g.stack = (.int x) :: .int j :: .ref a :: rest) (hd : decode c.code g.pc = .ok (.iastore, 1)) :
    ∃ T' h', Stand p l e R s m args below meth c T' (locs ++ [⟨a, j.toNatClampNeg⟩]) cells slots ∧ T'.heap = h' ∧ Wr h h' a j.toNatClampNeg (.int x) ∧ Arv Z h' a kc .int z (vs.set i (.int x)) dv ∧ ∀ target, Steps p.tables e below (T'.setTop { g with pc := g.pc + 1, stack := rest }) target → Steps p.tables e below (T.setTop g) target := by
  obtain ⟨c', A, q, S, M, H, G⟩ := F
  obtain ⟨T', h', X', e', W', st⟩ := stI X hx hZ eT A (inb_of S hj) hg hs hd
  exact ⟨T', h', X', e', W', Arv.set A q S M H G rfl W' i hi hl, st⟩
theorem stVJ {Z : State} {h : Heap} {a : Addr} {kc : ClassId} {z j : Int32} {vs : List Value} {dv : Value} {x : Int64} (X : Stand p l e R s m args below meth c T locs cells slots) (hx : p.tables.exec = Jvm.exec) (hZ : Z.Warmed39 s.vm) (eT : T.heap = h) (F : Arv Z h a kc .long z vs dv) (hj : ¬ j < 0 ∧ j < z) (i : Nat) (hi : j.toNatClampNeg = i) (hl : i < vs.length)
    {g : JFrame} (hg : g.method = m) {rest : List Value} (hs : g.stack = (.long x) :: .int j :: .ref a :: rest) (hd : decode c.code g.pc = .ok (.lastore, 1)) :
    ∃ T' h', Stand p l e R s m args below meth c T' (locs ++ [⟨a, j.toNatClampNeg⟩]) cells slots ∧ T'.heap = h' ∧ Wr h h' a j.toNatClampNeg (.long x) ∧ Arv Z h' a kc .long z (vs.set i (.long x)) dv ∧ ∀ target, Steps p.tables e below (T'.setTop { g with pc := g.pc + 1, stack := rest }) target → Steps p.tables e below (T.setTop g) target := by
  obtain ⟨c', A, q, S, M, H, G⟩ := F
  obtain ⟨T', h', X', e', W', st⟩ := stJ X hx hZ eT A (inb_of S hj) hg hs hd
  exact ⟨T', h', X', e', W', Arv.set A q S M H G rfl W' i hi hl, st⟩
theorem stVB {Z : State} {h : Heap} {a : Addr} {kc : ClassId} {z j : Int32} {vs : List Value} {dv : Value} {x : Int32} (X : Stand p l e R s m args below meth c T locs cells slots) (hx : p.tables.exec = Jvm.exec) (hZ : Z.Warmed39 s.vm) (eT : T.heap = h) (F : Arv Z h a kc .byte z vs dv) (hj : ¬ j < 0 ∧ j < z) (i : Nat) (hi : j.toNatClampNeg = i) (hl : i < vs.length)
    {g : JFrame} (hg : g.method = m) {rest : List Value} (hs : g.stack = (.int x) :: .int j :: .ref a :: rest) (hd : decode c.code g.pc = .ok (.bastore, 1)) :
    ∃ T' h', Stand p l e R s m args below meth c T' (locs ++ [⟨a, j.toNatClampNeg⟩]) cells slots ∧ T'.heap = h' ∧ Wr h h' a j.toNatClampNeg (.int (nar .byte x)) ∧ Arv Z h' a kc .byte z (vs.set i (.int (nar .byte x))) dv ∧ ∀ target, Steps p.tables e below (T'.setTop { g with pc := g.pc + 1, stack := rest }) target → Steps p.tables e below (T.setTop g) target := by
  obtain ⟨c', A, q, S, M, H, G⟩ := F
  obtain ⟨T', h', X', e', W', st⟩ := stB X hx hZ eT A (inb_of S hj) hg hs hd
  exact ⟨T', h', X', e', W', Arv.set A q S M H G (fits_nar_byte _) W' i hi hl, st⟩
theorem lnV {Z : State} {h : Heap} {a : Addr} {kc : ClassId} {ty : FieldType} {z : Int32} {vs : List Value} {dv : Value} (X : Stand p l e R s m args below meth c T locs cells slots) (hx : p.tables.exec = Jvm.exec) (hZ : Z.Warmed39 s.vm) (eT : T.heap = h) (F : Arv Z h a kc ty z vs dv)
    {g : JFrame} (hg : g.method = m) {rest : List Value} (hs : g.stack = .ref a :: rest) (hd : decode c.code g.pc = .ok (.arraylength, 1)) (t : State) (k : Steps p.tables e below (T.setTop { g with pc := g.pc + 1, stack := .int z :: rest }) t) : Steps p.tables e below (T.setTop g) t := by
  obtain ⟨c', A, -, S, M, -, -⟩ := F
  refine X.arraylength hx (by rw [eT]; exact A.1) (State.isArrayOf_alike hZ.alike A.2.1) hg hs hd t ?_
  rw [len_of S M]; exact k
theorem gdI (vs : List Int32) (d : Int32) (i : Nat) : (vs.map Value.int).getD i (.int d) = .int (vs.getD i d) := by
  induction vs generalizing i with
  | nil => rfl
  | cons a t ih => cases i with
    | zero => rfl
    | succ i => simpa using ih i
theorem gdJ (vs : List Int64) (d : Int64) (i : Nat) : (vs.map Value.long).getD i (.long d) = .long (vs.getD i d) := by
  induction vs generalizing i with
  | nil => rfl
  | cons a t ih => cases i with
    | zero => rfl
    | succ i => simpa using ih i
end Own
end Jvm.RoadKit
namespace Jvm.Pilot.@@N@@
open Jvm Jvm.ClassFile Sem Op Lib Jvm.Free Jvm.Stand Jvm.LawKit Jvm.RoadKit Bundle Jvm.Pilot.@@N@@.Jvm.D
def own_fold (x : Int64) : Int32 := x.toInt32 ^^^ (x >>> ((32 : Int32) &&& 0x3f).toInt64).toInt32
def own_raw (a b c : Int64) : Int32 := (((a ^^^ b) ^^^ (c * (-7046029254386353131 : Int64))) ^^^ ((((a ^^^ b) ^^^ (c * (-7046029254386353131 : Int64))).toUInt64 >>> ((32 : Int32) &&& 0x3f).toInt64.toUInt64).toInt64)).toInt32
def own_tag (a b c : Int64) : Int32 := if own_raw a b c = 0 then 1 else own_raw a b c
theorem own_hi (x : Int64) : ((x.toUInt64 >>> ((32 : Int32) &&& 0x3f).toInt64.toUInt64).toInt64).toInt32 = (x >>> ((32 : Int32) &&& 0x3f).toInt64).toInt32 := by
  apply Int32.toInt_inj.mp
  have h1 := c_l2i ((x.toUInt64 >>> ((32 : Int32) &&& 0x3f).toInt64.toUInt64).toInt64)
  have h2 := c_l2i (x >>> ((32 : Int32) &&& 0x3f).toInt64)
  rw [c_lushr x 32 32 rfl (by decide)] at h1
  rw [c_lshr x 32 32 rfl] at h2
  have r1 := rng32 (((x.toUInt64 >>> ((32 : Int32) &&& 0x3f).toInt64.toUInt64).toInt64).toInt32)
  have r2 := rng32 ((x >>> ((32 : Int32) &&& 0x3f).toInt64).toInt32)
  have r3 := rng64 x
  omega
theorem own_l2i_xor (x y : Int64) : (x ^^^ y).toInt32 = x.toInt32 ^^^ y.toInt32 := by
  apply Int32.toBitVec_inj.mp
  simp [Int64.toBitVec_toInt32, BitVec.signExtend_eq_setWidth_of_le]
theorem own_shr_xor (x y : Int64) : (x ^^^ y) >>> ((32 : Int32) &&& 0x3f).toInt64 = (x >>> ((32 : Int32) &&& 0x3f).toInt64) ^^^ (y >>> ((32 : Int32) &&& 0x3f).toInt64) := by
  apply Int64.toBitVec_inj.mp
  rw [Int64.toBitVec_xor, Int64.toBitVec_shiftRight, Int64.toBitVec_shiftRight, Int64.toBitVec_shiftRight, Int64.toBitVec_xor]
  exact BitVec.sshiftRight_xor_distrib _ _ _
theorem own_fold_xor (x y : Int64) : own_fold (x ^^^ y) = own_fold x ^^^ own_fold y := by
  simp only [own_fold, own_shr_xor, own_l2i_xor]
  ac_rfl
theorem own_raw_eq (a b c : Int64) : own_raw a b c = (own_fold a ^^^ own_fold b) ^^^ own_fold (c * (-7046029254386353131 : Int64)) := by
  rw [own_raw, own_l2i_xor, own_hi, ← own_fold_xor, ← own_fold_xor]; rfl
theorem pn_0 : plainName "java/lang/Record" = true := by first | (simp [plainName, overriddenIn]; done) | decide +kernel
theorem d2_0 : decode jdk_30_method_1_code 0 = .ok (.aload_n 0, 1) := by decide +kernel
theorem d2_1 : decode jdk_30_method_1_code 1 = .ok (.invokespecial 1, 3) := by decide +kernel
theorem d2_4 : decode jdk_30_method_1_code 4 = .ok (.return_, 1) := by decide +kernel
def RM2 : Room := { frames := 1, cells := 0, slots := 0, locals := 12 }
def Q2 (Z : State) (a1 : Addr) (h0 : Heap) (n0 : Nat) (v : Option Value) (h : Heap) (L : List Loc) : Prop := v = none ∧ Fr n0 L ∧ h = h0
set_option maxRecDepth 65536 in
set_option maxHeartbeats 40000000 in
theorem rm2 (l : Launch) (Z : State) (a0 : Array Value) (hw : ∀ d ∈ tables_1, d.before a0 Z = true) (ws : List Jvm.Cond) (a1 : Addr) (h0 : Heap) (n0 : Nat) (Z0 : n0 ≤ h0.size)  :
    MetFree l (⟨"java/lang/Record", "<init>", "()V"⟩ : MethodName) (head1 (Jvm.Cond.code (⟨"java/lang/Record", "<init>", "()V"⟩ : MethodName) jdk_30_method_1_code 1 none :: ws) RM2) (fun a U => a = #[(.ref a1)] ∧ Z.Warmed39 U.vm ∧ U.heap = h0) (fun _ _ _ _ _ => True) (fun _ U o U' => ∃ v L, o = .returned v ∧ Q2 Z a1 h0 n0 v U'.heap L ∧ FrameEnd U o U' L RM2.cells RM2.slots) := by
  refine met_of (Q := fun v h L => Q2 Z a1 h0 n0 v h L) (plainFor_of_name pn_0) (fun m => by first | (simp [entryFrame, mkF, argsToLocals, Value.category]; done) | rfl) (Ls := #[.val (.ref a1)]) ?_
  intro p e s m below meth c T0 QQ hx hZ hby hml hown hnm hret hlk X0 e0 hQ
  have hml : c.maxLocals = 1 := hml
  have hown : s.vm.findClass "java/lang/Record" = some m.cls := hown
  have hnm : meth.name = "<init>" := hnm
  have hret : meth.sig.returnType = none := hret
  have N0 := Fr.nil n0
  have K0 : Keep h0 h0 [] := Keep.refl h0 _
  show GoW p e below QQ (T0.setTop (mkF m 0 #[.val (.ref a1)] []))
  refine GoW.st (fun t k => XS.aloadN X0.here hx rfl (hb hby d2_0) rfl rfl k) ?_
  show GoW p e below QQ (T0.setTop (mkF m 1 #[.val (.ref a1)] [(.ref a1)]))
  obtain ⟨T1, X1, e1, st1⟩ := initO X0 hx hZ hown (hw _ (List.mem_of_getElem? (i := 11) rfl)) (hw _ (List.mem_of_getElem? (i := 12) rfl)) (hw _ (List.mem_of_getElem? (i := 13) rfl)) e0 (g := (mkF m 1 #[.val (.ref a1)] [(.ref a1)])) rfl (by rw [hml]; rfl) rfl (hb hby d2_1) (by decide) (W := 0) (by show 2 * 0 + _ ≤ _; exact Nat.le_of_eq rfl) (by decide)
  refine GoW.st st1 ?_
  show GoW p e below QQ (T1.setTop (mkF m 4 #[.val (.ref a1)] []))
  exact GoW.fin X1 none (fun _ => rfl) hlk hQ e1 ⟨rfl, N0, rfl⟩ (by decide) (by decide) (fun fs hr => X1.returnOut hx hret (hb hby d2_4) hr)
theorem pn_1 : plainName "com/example/duostrata/duostrata/protocol/FileReference$Host" = true := by first | (simp [plainName, overriddenIn]; done) | decide +kernel
theorem d1_0 : decode prog_73_method_1_code 0 = .ok (.aload_n 0, 1) := by decide +kernel
theorem d1_1 : decode prog_73_method_1_code 1 = .ok (.invokespecial 1, 3) := by decide +kernel
theorem pd_0 : parseMethodDescriptor "()V" = some ⟨[], none⟩ := by decide +kernel
theorem d1_4 : decode prog_73_method_1_code 4 = .ok (.aload_n 0, 1) := by decide +kernel
theorem d1_5 : decode prog_73_method_1_code 5 = .ok (.lload_n 1, 1) := by decide +kernel
theorem d1_6 : decode prog_73_method_1_code 6 = .ok (.putfield 7, 3) := by decide +kernel
theorem d1_9 : decode prog_73_method_1_code 9 = .ok (.aload_n 0, 1) := by decide +kernel
theorem d1_10 : decode prog_73_method_1_code 10 = .ok (.lload_n 3, 1) := by decide +kernel
theorem d1_11 : decode prog_73_method_1_code 11 = .ok (.putfield 13, 3) := by decide +kernel
theorem d1_14 : decode prog_73_method_1_code 14 = .ok (.aload_n 0, 1) := by decide +kernel
theorem d1_15 : decode prog_73_method_1_code 15 = .ok (.lload 5, 2) := by decide +kernel
theorem d1_17 : decode prog_73_method_1_code 17 = .ok (.putfield 16, 3) := by decide +kernel
theorem d1_20 : decode prog_73_method_1_code 20 = .ok (.return_, 1) := by decide +kernel
def RM1 : Room := { frames := 2, cells := 0, slots := 0, locals := 24 }
def Q1 (Z : State) (a1 : Addr) (q1 : Int64) (q2 : Int64) (q3 : Int64) (h0 : Heap) (n0 : Nat) (v : Option Value) (h : Heap) (L : List Loc) : Prop := v = none ∧ Fr n0 L ∧ Keep h0 h [a1] ∧ (Exa Z h a1 "com/example/duostrata/duostrata/protocol/FileReference$Host") ∧ (Fld Z h a1 "com/example/duostrata/duostrata/protocol/FileReference$Host" "bootHigh" "J" (.long q1)) ∧ (Fld Z h a1 "com/example/duostrata/duostrata/protocol/FileReference$Host" "bootLow" "J" (.long q2)) ∧ (Fld Z h a1 "com/example/duostrata/duostrata/protocol/FileReference$Host" "pidNamespace" "J" (.long q3))
set_option maxRecDepth 65536 in
set_option maxHeartbeats 40000000 in
theorem rm1 (l : Launch) (Z : State) (a0 : Array Value) (hw : ∀ d ∈ tables_1, d.before a0 Z = true) (ws : List Jvm.Cond) (a1 : Addr) (q1 : Int64) (q2 : Int64) (q3 : Int64) (h0 : Heap) (n0 : Nat) (Z0 : n0 ≤ h0.size) (pre_E_a1 : Exa Z h0 a1 "com/example/duostrata/duostrata/protocol/FileReference$Host") (pre_g_a1 : n0 ≤ a1) (pre_F_a1_bootHigh : Fld Z h0 a1 "com/example/duostrata/duostrata/protocol/FileReference$Host" "bootHigh" "J" (.long (0 : Int64))) (pre_F_a1_bootLow : Fld Z h0 a1 "com/example/duostrata/duostrata/protocol/FileReference$Host" "bootLow" "J" (.long (0 : Int64))) (pre_F_a1_pidNamespace : Fld Z h0 a1 "com/example/duostrata/duostrata/protocol/FileReference$Host" "pidNamespace" "J" (.long (0 : Int64))) :
    MetFree l (⟨"com/example/duostrata/duostrata/protocol/FileReference$Host", "<init>", "(JJJ)V"⟩ : MethodName) (head1 (Jvm.Cond.code (⟨"com/example/duostrata/duostrata/protocol/FileReference$Host", "<init>", "(JJJ)V"⟩ : MethodName) prog_73_method_1_code 7 none :: ws) RM1) (fun a U => a = #[(.ref a1), (.long q1), (.long q2), (.long q3)] ∧ Z.Warmed39 U.vm ∧ U.heap = h0) (fun _ _ _ _ _ => True) (fun _ U o U' => ∃ v L, o = .returned v ∧ Q1 Z a1 q1 q2 q3 h0 n0 v U'.heap L ∧ FrameEnd U o U' L RM1.cells RM1.slots) := by
  refine met_of (Q := fun v h L => Q1 Z a1 q1 q2 q3 h0 n0 v h L) (plainFor_of_name pn_1) (fun m => by first | (simp [entryFrame, mkF, argsToLocals, Value.category]; done) | rfl) (Ls := #[.val (.ref a1), .val (.long q1), .second, .val (.long q2), .second, .val (.long q3), .second]) ?_
  intro p e s m below meth c T0 QQ hx hZ hby hml hown hnm hret hlk X0 e0 hQ
  have hml : c.maxLocals = 7 := hml
  have hown : s.vm.findClass "com/example/duostrata/duostrata/protocol/FileReference$Host" = some m.cls := hown
  have hnm : meth.name = "<init>" := hnm
  have hret : meth.sig.returnType = none := hret
  have N0 := Fr.nil n0
  have K0 : Keep h0 h0 [a1] := Keep.refl h0 _
  show GoW p e below QQ (T0.setTop (mkF m 0 #[.val (.ref a1), .val (.long q1), .second, .val (.long q2), .second, .val (.long q3), .second] []))
  refine GoW.st (fun t k => XS.aloadN X0.here hx rfl (hb hby d1_0) rfl rfl k) ?_
  show GoW p e below QQ (T0.setTop (mkF m 1 #[.val (.ref a1), .val (.long q1), .second, .val (.long q2), .second, .val (.long q3), .second] [(.ref a1)]))
  obtain ⟨_, _, ⟨T1, zL1, zk1, zn1⟩, -, X1, ⟨Lc1, hQ1, zl1, zy1, zz1⟩, st1⟩ := X0.specialBack hx (y := (⟨"java/lang/Record", "<init>", "()V"⟩ : MethodName)) rfl hown (mvT hZ (hw _ (List.mem_of_getElem? (i := 6) rfl))) (mvT hZ (hw _ (List.mem_of_getElem? (i := 7) rfl))) (mvT hZ (hw _ (List.mem_of_getElem? (i := 10) rfl))) (by decide) (backOf (W := 0) (rm2 l Z a0 hw [] a1 h0 n0 (Nat.le_trans Z0 K0.1) ) hZ (hw _ (List.mem_of_getElem? (i := 10) rfl)) (hw _ (List.mem_of_getElem? (i := 9) rfl)) (by decide) (by decide)) (g := (mkF m 1 #[.val (.ref a1), .val (.long q1), .second, .val (.long q2), .second, .val (.long q3), .second] [(.ref a1)])) rfl (by rw [hml]; rfl) (Steps.refl _) (a := a1) (argsL := []) (rest := []) (lenOf pd_0 rfl) rfl (by show 2 * 0 + _ ≤ _; exact Nat.le_of_eq rfl) (hb hby d1_1) (fun _ _ => ⟨rfl, e0, (by decide : 0 + 0 ≤ _), (by decide : 0 + 0 ≤ _)⟩)
  dsimp only [Pt.U, Pt.locs, Pt.cells, Pt.slots] at X1 zl1 zy1 zz1 st1 hQ1
  subst zl1 zy1 zz1
  obtain ⟨rfl, Nq1, hh1⟩ := hQ1
  have N1 := Fr.app N0 Nq1
  refine GoW.st (fun t k => st1.trans k) ?_
  show GoW p e below QQ (T1.setTop (mkF m 4 #[.val (.ref a1), .val (.long q1), .second, .val (.long q2), .second, .val (.long q3), .second] []))
  refine GoW.st (fun t k => XS.aloadN X1.here hx rfl (hb hby d1_4) rfl rfl (XS.lloadN X1.here hx rfl (hb hby d1_5) rfl k)) ?_
  show GoW p e below QQ (T1.setTop (mkF m 6 #[.val (.ref a1), .val (.long q1), .second, .val (.long q2), .second, .val (.long q3), .second] [(.long q1), (.ref a1)]))
  obtain ⟨T2, h2, X2, e2, W2, st2⟩ := putF X1 hx hZ hown (host := "") (Or.inl (hw _ (List.mem_of_getElem? (i := 14) rfl))) Via.refl hh1 pre_F_a1_bootHigh pre_E_a1 (Or.inr ⟨(hw _ (List.mem_of_getElem? (i := 15) rfl)), rfl, hnm⟩) (hw _ (List.mem_of_getElem? (i := 1) rfl)) (ty := .long) (by decide) rfl rfl (g := (mkF m 6 #[.val (.ref a1), .val (.long q1), .second, .val (.long q2), .second, .val (.long q3), .second] [(.long q1), (.ref a1)])) rfl rfl (hb hby d1_6)
  refine GoW.st st2 ?_
  have f3_E_a1 : Exa Z h2 a1 "com/example/duostrata/duostrata/protocol/FileReference$Host" := pre_E_a1.wr W2
  have f3_F_a1_bootHigh : Fld Z h2 a1 "com/example/duostrata/duostrata/protocol/FileReference$Host" "bootHigh" "J" (.long q1) := pre_F_a1_bootHigh.same W2
  have f3_F_a1_bootLow : Fld Z h2 a1 "com/example/duostrata/duostrata/protocol/FileReference$Host" "bootLow" "J" (.long (0 : Int64)) := pre_F_a1_bootLow.other W2 (Or.inr (slot_ne (Or.inr (hw _ (List.mem_of_getElem? (i := 17) rfl))) (Or.inr (hw _ (List.mem_of_getElem? (i := 15) rfl))) (by decide) (t := .long) (t' := .long) (by decide) (by decide)))
  have f3_F_a1_pidNamespace : Fld Z h2 a1 "com/example/duostrata/duostrata/protocol/FileReference$Host" "pidNamespace" "J" (.long (0 : Int64)) := pre_F_a1_pidNamespace.other W2 (Or.inr (slot_ne (Or.inr (hw _ (List.mem_of_getElem? (i := 19) rfl))) (Or.inr (hw _ (List.mem_of_getElem? (i := 15) rfl))) (by decide) (t := .long) (t' := .long) (by decide) (by decide)))
  have K2 : Keep h0 h2 [a1] := K0.wr W2 (Or.inl (List.mem_of_getElem? (i := 0) rfl))
  have N2 := Fr.snoc X2 N1 pre_g_a1
  show GoW p e below QQ (T2.setTop (mkF m 9 #[.val (.ref a1), .val (.long q1), .second, .val (.long q2), .second, .val (.long q3), .second] []))
  refine GoW.st (fun t k => XS.aloadN X2.here hx rfl (hb hby d1_9) rfl rfl (XS.lloadN X2.here hx rfl (hb hby d1_10) rfl k)) ?_
  show GoW p e below QQ (T2.setTop (mkF m 11 #[.val (.ref a1), .val (.long q1), .second, .val (.long q2), .second, .val (.long q3), .second] [(.long q2), (.ref a1)]))
  obtain ⟨T4, h4, X4, e4, W4, st4⟩ := putF X2 hx hZ hown (host := "") (Or.inl (hw _ (List.mem_of_getElem? (i := 16) rfl))) Via.refl e2 f3_F_a1_bootLow f3_E_a1 (Or.inr ⟨(hw _ (List.mem_of_getElem? (i := 17) rfl)), rfl, hnm⟩) (hw _ (List.mem_of_getElem? (i := 1) rfl)) (ty := .long) (by decide) rfl rfl (g := (mkF m 11 #[.val (.ref a1), .val (.long q1), .second, .val (.long q2), .second, .val (.long q3), .second] [(.long q2), (.ref a1)])) rfl rfl (hb hby d1_11)
  refine GoW.st st4 ?_
  have f5_E_a1 : Exa Z h4 a1 "com/example/duostrata/duostrata/protocol/FileReference$Host" := f3_E_a1.wr W4
  have f5_F_a1_bootHigh : Fld Z h4 a1 "com/example/duostrata/duostrata/protocol/FileReference$Host" "bootHigh" "J" (.long q1) := f3_F_a1_bootHigh.other W4 (Or.inr (slot_ne (Or.inr (hw _ (List.mem_of_getElem? (i := 15) rfl))) (Or.inr (hw _ (List.mem_of_getElem? (i := 17) rfl))) (by decide) (t := .long) (t' := .long) (by decide) (by decide)))
  have f5_F_a1_bootLow : Fld Z h4 a1 "com/example/duostrata/duostrata/protocol/FileReference$Host" "bootLow" "J" (.long q2) := f3_F_a1_bootLow.same W4
  have f5_F_a1_pidNamespace : Fld Z h4 a1 "com/example/duostrata/duostrata/protocol/FileReference$Host" "pidNamespace" "J" (.long (0 : Int64)) := f3_F_a1_pidNamespace.other W4 (Or.inr (slot_ne (Or.inr (hw _ (List.mem_of_getElem? (i := 19) rfl))) (Or.inr (hw _ (List.mem_of_getElem? (i := 17) rfl))) (by decide) (t := .long) (t' := .long) (by decide) (by decide)))
  have K4 : Keep h0 h4 [a1] := K2.wr W4 (Or.inl (List.mem_of_getElem? (i := 0) rfl))
  have N4 := Fr.snoc X4 N2 pre_g_a1
  show GoW p e below QQ (T4.setTop (mkF m 14 #[.val (.ref a1), .val (.long q1), .second, .val (.long q2), .second, .val (.long q3), .second] []))
  refine GoW.st (fun t k => XS.aloadN X4.here hx rfl (hb hby d1_14) rfl rfl (XS.lload X4.here hx rfl (hb hby d1_15) rfl k)) ?_
  show GoW p e below QQ (T4.setTop (mkF m 17 #[.val (.ref a1), .val (.long q1), .second, .val (.long q2), .second, .val (.long q3), .second] [(.long q3), (.ref a1)]))
  obtain ⟨T6, h6, X6, e6, W6, st6⟩ := putF X4 hx hZ hown (host := "") (Or.inl (hw _ (List.mem_of_getElem? (i := 18) rfl))) Via.refl e4 f5_F_a1_pidNamespace f5_E_a1 (Or.inr ⟨(hw _ (List.mem_of_getElem? (i := 19) rfl)), rfl, hnm⟩) (hw _ (List.mem_of_getElem? (i := 1) rfl)) (ty := .long) (by decide) rfl rfl (g := (mkF m 17 #[.val (.ref a1), .val (.long q1), .second, .val (.long q2), .second, .val (.long q3), .second] [(.long q3), (.ref a1)])) rfl rfl (hb hby d1_17)
  refine GoW.st st6 ?_
  have f7_E_a1 : Exa Z h6 a1 "com/example/duostrata/duostrata/protocol/FileReference$Host" := f5_E_a1.wr W6
  have f7_F_a1_bootHigh : Fld Z h6 a1 "com/example/duostrata/duostrata/protocol/FileReference$Host" "bootHigh" "J" (.long q1) := f5_F_a1_bootHigh.other W6 (Or.inr (slot_ne (Or.inr (hw _ (List.mem_of_getElem? (i := 15) rfl))) (Or.inr (hw _ (List.mem_of_getElem? (i := 19) rfl))) (by decide) (t := .long) (t' := .long) (by decide) (by decide)))
  have f7_F_a1_bootLow : Fld Z h6 a1 "com/example/duostrata/duostrata/protocol/FileReference$Host" "bootLow" "J" (.long q2) := f5_F_a1_bootLow.other W6 (Or.inr (slot_ne (Or.inr (hw _ (List.mem_of_getElem? (i := 17) rfl))) (Or.inr (hw _ (List.mem_of_getElem? (i := 19) rfl))) (by decide) (t := .long) (t' := .long) (by decide) (by decide)))
  have f7_F_a1_pidNamespace : Fld Z h6 a1 "com/example/duostrata/duostrata/protocol/FileReference$Host" "pidNamespace" "J" (.long q3) := f5_F_a1_pidNamespace.same W6
  have K6 : Keep h0 h6 [a1] := K4.wr W6 (Or.inl (List.mem_of_getElem? (i := 0) rfl))
  have N6 := Fr.snoc X6 N4 pre_g_a1
  show GoW p e below QQ (T6.setTop (mkF m 20 #[.val (.ref a1), .val (.long q1), .second, .val (.long q2), .second, .val (.long q3), .second] []))
  exact GoW.fin X6 none (fun _ => rfl) hlk hQ e6 ⟨rfl, N6, K6, f7_E_a1, f7_F_a1_bootHigh, f7_F_a1_bootLow, f7_F_a1_pidNamespace⟩ (by decide) (by decide) (fun fs hr => X6.returnOut hx hret (hb hby d1_20) hr)
theorem d4_0 : decode prog_73_method_2_code 0 = .ok (.aload_n 0, 1) := by decide +kernel
theorem d4_1 : decode prog_73_method_2_code 1 = .ok (.getfield 7, 3) := by decide +kernel
theorem d4_4 : decode prog_73_method_2_code 4 = .ok (.aload_n 0, 1) := by decide +kernel
theorem d4_5 : decode prog_73_method_2_code 5 = .ok (.getfield 13, 3) := by decide +kernel
theorem d4_8 : decode prog_73_method_2_code 8 = .ok (.lxor, 1) := by decide +kernel
theorem d4_9 : decode prog_73_method_2_code 9 = .ok (.aload_n 0, 1) := by decide +kernel
theorem d4_10 : decode prog_73_method_2_code 10 = .ok (.getfield 16, 3) := by decide +kernel
theorem d4_13 : decode prog_73_method_2_code 13 = .ok (.ldc2_w 19, 3) := by decide +kernel
theorem d4_16 : decode prog_73_method_2_code 16 = .ok (.lmul, 1) := by decide +kernel
theorem d4_17 : decode prog_73_method_2_code 17 = .ok (.lxor, 1) := by decide +kernel
theorem d4_18 : decode prog_73_method_2_code 18 = .ok (.lstore_n 1, 1) := by decide +kernel
theorem d4_19 : decode prog_73_method_2_code 19 = .ok (.lload_n 1, 1) := by decide +kernel
theorem d4_20 : decode prog_73_method_2_code 20 = .ok (.lload_n 1, 1) := by decide +kernel
theorem d4_21 : decode prog_73_method_2_code 21 = .ok (.bipush 32, 2) := by decide +kernel
theorem d4_23 : decode prog_73_method_2_code 23 = .ok (.lushr, 1) := by decide +kernel
theorem d4_24 : decode prog_73_method_2_code 24 = .ok (.lxor, 1) := by decide +kernel
theorem d4_25 : decode prog_73_method_2_code 25 = .ok (.l2i, 1) := by decide +kernel
theorem d4_26 : decode prog_73_method_2_code 26 = .ok (.istore_n 3, 1) := by decide +kernel
theorem d4_27 : decode prog_73_method_2_code 27 = .ok (.iload_n 3, 1) := by decide +kernel
theorem d4_28 : decode prog_73_method_2_code 28 = .ok (.ifCond .ne 7, 3) := by decide +kernel
theorem d4_31 : decode prog_73_method_2_code 31 = .ok (.iconst 1, 1) := by decide +kernel
theorem d4_32 : decode prog_73_method_2_code 32 = .ok (.goto 4, 3) := by decide +kernel
theorem d4_36 : decode prog_73_method_2_code 36 = .ok (.ireturn, 1) := by decide +kernel
theorem d4_35 : decode prog_73_method_2_code 35 = .ok (.iload_n 3, 1) := by decide +kernel
def RM4 : Room := { frames := 0, cells := 0, slots := 0, locals := 0 }
def Q4 (Z : State) (a1 : Addr) (w1 : Int64) (w2 : Int64) (w3 : Int64) (h0 : Heap) (n0 : Nat) (v : Option Value) (h : Heap) (L : List Loc) : Prop := v = some (.int (own_tag w1 w2 w3)) ∧ Fr n0 L ∧ h = h0
set_option maxRecDepth 65536 in
set_option maxHeartbeats 40000000 in
theorem rm4 (l : Launch) (Z : State) (a0 : Array Value) (hw : ∀ d ∈ tables_1, d.before a0 Z = true) (ws : List Jvm.Cond) (a1 : Addr) (w1 : Int64) (w2 : Int64) (w3 : Int64) (h0 : Heap) (n0 : Nat) (Z0 : n0 ≤ h0.size) (pre_F_a1_bootHigh : Fld Z h0 a1 "com/example/duostrata/duostrata/protocol/FileReference$Host" "bootHigh" "J" (.long w1)) (pre_F_a1_bootLow : Fld Z h0 a1 "com/example/duostrata/duostrata/protocol/FileReference$Host" "bootLow" "J" (.long w2)) (pre_F_a1_pidNamespace : Fld Z h0 a1 "com/example/duostrata/duostrata/protocol/FileReference$Host" "pidNamespace" "J" (.long w3)) :
    MetFree l (⟨"com/example/duostrata/duostrata/protocol/FileReference$Host", "tag", "()I"⟩ : MethodName) (head1 (Jvm.Cond.code (⟨"com/example/duostrata/duostrata/protocol/FileReference$Host", "tag", "()I"⟩ : MethodName) prog_73_method_2_code 4 (some .int) :: ws) RM4) (fun a U => a = #[(.ref a1)] ∧ Z.Warmed39 U.vm ∧ U.heap = h0) (fun _ _ _ _ _ => True) (fun _ U o U' => ∃ v L, o = .returned v ∧ Q4 Z a1 w1 w2 w3 h0 n0 v U'.heap L ∧ FrameEnd U o U' L RM4.cells RM4.slots) := by
  refine met_of (Q := fun v h L => Q4 Z a1 w1 w2 w3 h0 n0 v h L) (plainFor_of_name pn_1) (fun m => by first | (simp [entryFrame, mkF, argsToLocals, Value.category]; done) | rfl) (Ls := #[.val (.ref a1), .unset, .unset, .unset]) ?_
  intro p e s m below meth c T0 QQ hx hZ hby hml hown hnm hret hlk X0 e0 hQ
  have hml : c.maxLocals = 4 := hml
  have hown : s.vm.findClass "com/example/duostrata/duostrata/protocol/FileReference$Host" = some m.cls := hown
  have hnm : meth.name = "tag" := hnm
  have hret : meth.sig.returnType = some .int := hret
  have N0 := Fr.nil n0
  have K0 : Keep h0 h0 [] := Keep.refl h0 _
  show GoW p e below QQ (T0.setTop (mkF m 0 #[.val (.ref a1), .unset, .unset, .unset] []))
  refine GoW.st (fun t k => XS.aloadN X0.here hx rfl (hb hby d4_0) rfl rfl k) ?_
  show GoW p e below QQ (T0.setTop (mkF m 1 #[.val (.ref a1), .unset, .unset, .unset] [(.ref a1)]))
  obtain ⟨T1, X1, e1, st1⟩ := getF X0 hx hZ hown (host := "") (Or.inl (hw _ (List.mem_of_getElem? (i := 14) rfl))) Via.refl e0 pre_F_a1_bootHigh (g := (mkF m 1 #[.val (.ref a1), .unset, .unset, .unset] [(.ref a1)])) rfl rfl (hb hby d4_1)
  refine GoW.st st1 ?_
  show GoW p e below QQ (T1.setTop (mkF m 4 #[.val (.ref a1), .unset, .unset, .unset] [(.long w1)]))
  refine GoW.st (fun t k => XS.aloadN X1.here hx rfl (hb hby d4_4) rfl rfl k) ?_
  show GoW p e below QQ (T1.setTop (mkF m 5 #[.val (.ref a1), .unset, .unset, .unset] [(.ref a1), (.long w1)]))
  obtain ⟨T2, X2, e2, st2⟩ := getF X1 hx hZ hown (host := "") (Or.inl (hw _ (List.mem_of_getElem? (i := 16) rfl))) Via.refl e1 pre_F_a1_bootLow (g := (mkF m 5 #[.val (.ref a1), .unset, .unset, .unset] [(.ref a1), (.long w1)])) rfl rfl (hb hby d4_5)
  refine GoW.st st2 ?_
  show GoW p e below QQ (T2.setTop (mkF m 8 #[.val (.ref a1), .unset, .unset, .unset] [(.long w2), (.long w1)]))
  refine GoW.st (fun t k => XS.lxor X2.here hx rfl (hb hby d4_8) rfl (XS.aloadN X2.here hx rfl (hb hby d4_9) rfl rfl k)) ?_
  show GoW p e below QQ (T2.setTop (mkF m 10 #[.val (.ref a1), .unset, .unset, .unset] [(.ref a1), (.long (w1 ^^^ w2))]))
  obtain ⟨T3, X3, e3, st3⟩ := getF X2 hx hZ hown (host := "") (Or.inl (hw _ (List.mem_of_getElem? (i := 18) rfl))) Via.refl e2 pre_F_a1_pidNamespace (g := (mkF m 10 #[.val (.ref a1), .unset, .unset, .unset] [(.ref a1), (.long (w1 ^^^ w2))])) rfl rfl (hb hby d4_10)
  refine GoW.st st3 ?_
  show GoW p e below QQ (T3.setTop (mkF m 13 #[.val (.ref a1), .unset, .unset, .unset] [(.long w3), (.long (w1 ^^^ w2))]))
  refine GoW.st (fun t k => X3.ldc2Long hx hown (mvT hZ (hw _ (List.mem_of_getElem? (i := 25) rfl))) (g := (mkF m 13 #[.val (.ref a1), .unset, .unset, .unset] [(.long w3), (.long (w1 ^^^ w2))])) rfl (hb hby d4_13) t (XS.lmul X3.here hx rfl (hb hby d4_16) rfl (XS.lxor X3.here hx rfl (hb hby d4_17) rfl (XS.lstoreN X3.here hx rfl (hb hby d4_18) rfl (l' := #[.val (.ref a1), .val (.long ((w1 ^^^ w2) ^^^ (w3 * (-7046029254386353131 : Int64)))), .second, .unset]) rfl k)))) ?_
  show GoW p e below QQ (T3.setTop (mkF m 19 #[.val (.ref a1), .val (.long ((w1 ^^^ w2) ^^^ (w3 * (-7046029254386353131 : Int64)))), .second, .unset] []))
  generalize hv18 : ((w1 ^^^ w2) ^^^ (w3 * (-7046029254386353131 : Int64))) = v18
  refine GoW.st (fun t k => XS.lloadN X3.here hx rfl (hb hby d4_19) rfl (XS.lloadN X3.here hx rfl (hb hby d4_20) rfl (XS.bipush X3.here hx rfl (hb hby d4_21) (XS.lushr X3.here hx rfl (hb hby d4_23) rfl (XS.lxor X3.here hx rfl (hb hby d4_24) rfl (XS.l2i X3.here hx rfl (hb hby d4_25) rfl k)))))) ?_
  show GoW p e below QQ (T3.setTop (mkF m 26 #[.val (.ref a1), .val (.long v18), .second, .unset] [(.int ((v18 ^^^ ((v18.toUInt64 >>> ((32 : Int32) &&& 0x3f).toInt64.toUInt64).toInt64)).toInt32))]))
  refine GoW.st (fun t k => XS.istoreN X3.here hx rfl (hb hby d4_26) rfl (l' := #[.val (.ref a1), .val (.long v18), .second, .val (.int ((v18 ^^^ ((v18.toUInt64 >>> ((32 : Int32) &&& 0x3f).toInt64.toUInt64).toInt64)).toInt32))]) rfl k) ?_
  show GoW p e below QQ (T3.setTop (mkF m 27 #[.val (.ref a1), .val (.long v18), .second, .val (.int ((v18 ^^^ ((v18.toUInt64 >>> ((32 : Int32) &&& 0x3f).toInt64.toUInt64).toInt64)).toInt32))] []))
  generalize hv26 : ((v18 ^^^ ((v18.toUInt64 >>> ((32 : Int32) &&& 0x3f).toInt64.toUInt64).toInt64)).toInt32) = v26
  refine GoW.st (fun t k => XS.iloadN X3.here hx rfl (hb hby d4_27) rfl k) ?_
  show GoW p e below QQ (T3.setTop (mkF m 28 #[.val (.ref a1), .val (.long v18), .second, .val (.int v26)] [(.int v26)]))
  by_cases hc28 : v26 = (0 : Int32)
  · skip
    refine GoW.st (fun t k => XS.ifNo X3.here hx rfl (hb hby d4_28) rfl ((if0 _ _).trans (teq hc28).2) (XS.iconst X3.here hx rfl (hb hby d4_31) (XS.goto X3.here hx rfl (pc0 := 32) (pc' := 36) rfl (hb hby d4_32) (by decide) (by decide) k))) ?_
    show GoW p e below QQ (T3.setTop (mkF m 36 #[.val (.ref a1), .val (.long v18), .second, .val (.int v26)] [(.int (1 : Int32))]))
    have rv : ((some (.int (1 : Int32))) : Option Value) = some (.int (own_tag w1 w2 w3)) := by
      subst hv26 hv18
      first | exact congrArg (fun z => some (Value.int z)) (if_pos hc28).symm | exact congrArg (fun z => some (Value.int z)) (if_neg hc28).symm
    exact GoW.fin X3 (some (.int (1 : Int32))) (fun q => by rw [hret] at q; cases q) hlk hQ e3 ⟨rv, N0, rfl⟩ (by decide) (by decide) (fun fs hr => retI X3 hx hret (hb hby d4_36) hr)
  · skip
    refine GoW.st (fun t k => XS.ifYes X3.here hx rfl (pc0 := 28) (pc' := 35) rfl (hb hby d4_28) rfl ((if0 _ _).trans (feq hc28).2) (by decide) (by decide) (XS.iloadN X3.here hx rfl (hb hby d4_35) rfl k)) ?_
    show GoW p e below QQ (T3.setTop (mkF m 36 #[.val (.ref a1), .val (.long v18), .second, .val (.int v26)] [(.int v26)]))
    have rv : ((some (.int v26)) : Option Value) = some (.int (own_tag w1 w2 w3)) := by
      subst hv26 hv18
      first | exact congrArg (fun z => some (Value.int z)) (if_pos hc28).symm | exact congrArg (fun z => some (Value.int z)) (if_neg hc28).symm
    exact GoW.fin X3 (some (.int v26)) (fun q => by rw [hret] at q; cases q) hlk hQ e3 ⟨rv, N0, rfl⟩ (by decide) (by decide) (fun fs hr => retI X3 hx hret (hb hby d4_36) hr)
theorem pn_2 : plainName "com/example/duostrata/duostrata/protocol/HostTagPinLaw" = true := by first | (simp [plainName, overriddenIn]; done) | decide +kernel
theorem d5_0 : decode method_3_code 0 = .ok (.lload_n 0, 1) := by decide +kernel
theorem d5_1 : decode method_3_code 1 = .ok (.l2i, 1) := by decide +kernel
theorem d5_2 : decode method_3_code 2 = .ok (.istore_n 2, 1) := by decide +kernel
theorem d5_3 : decode method_3_code 3 = .ok (.lload_n 0, 1) := by decide +kernel
theorem d5_4 : decode method_3_code 4 = .ok (.bipush 32, 2) := by decide +kernel
theorem d5_6 : decode method_3_code 6 = .ok (.lshr, 1) := by decide +kernel
theorem d5_7 : decode method_3_code 7 = .ok (.l2i, 1) := by decide +kernel
theorem d5_8 : decode method_3_code 8 = .ok (.istore_n 3, 1) := by decide +kernel
theorem d5_9 : decode method_3_code 9 = .ok (.iload_n 2, 1) := by decide +kernel
theorem d5_10 : decode method_3_code 10 = .ok (.iload_n 3, 1) := by decide +kernel
theorem d5_11 : decode method_3_code 11 = .ok (.ixor, 1) := by decide +kernel
theorem d5_12 : decode method_3_code 12 = .ok (.ireturn, 1) := by decide +kernel
def RM5 : Room := { frames := 0, cells := 0, slots := 0, locals := 0 }
def Q5 (Z : State) (q1 : Int64) (h0 : Heap) (n0 : Nat) (v : Option Value) (h : Heap) (L : List Loc) : Prop := v = some (.int (own_fold q1)) ∧ Fr n0 L ∧ h = h0
set_option maxRecDepth 65536 in
set_option maxHeartbeats 40000000 in
theorem rm5 (l : Launch) (Z : State) (a0 : Array Value) (hw : ∀ d ∈ tables_1, d.before a0 Z = true) (ws : List Jvm.Cond) (q1 : Int64) (h0 : Heap) (n0 : Nat) (Z0 : n0 ≤ h0.size)  :
    MetFree l (⟨"com/example/duostrata/duostrata/protocol/HostTagPinLaw", "fold", "(J)I"⟩ : MethodName) (head1 (Jvm.Cond.code (⟨"com/example/duostrata/duostrata/protocol/HostTagPinLaw", "fold", "(J)I"⟩ : MethodName) method_3_code 4 (some .int) :: ws) RM5) (fun a U => a = #[(.long q1)] ∧ Z.Warmed39 U.vm ∧ U.heap = h0) (fun _ _ _ _ _ => True) (fun _ U o U' => ∃ v L, o = .returned v ∧ Q5 Z q1 h0 n0 v U'.heap L ∧ FrameEnd U o U' L RM5.cells RM5.slots) := by
  refine met_of (Q := fun v h L => Q5 Z q1 h0 n0 v h L) (plainFor_of_name pn_2) (fun m => by first | (simp [entryFrame, mkF, argsToLocals, Value.category]; done) | rfl) (Ls := #[.val (.long q1), .second, .unset, .unset]) ?_
  intro p e s m below meth c T0 QQ hx hZ hby hml hown hnm hret hlk X0 e0 hQ
  have hml : c.maxLocals = 4 := hml
  have hown : s.vm.findClass "com/example/duostrata/duostrata/protocol/HostTagPinLaw" = some m.cls := hown
  have hnm : meth.name = "fold" := hnm
  have hret : meth.sig.returnType = some .int := hret
  have N0 := Fr.nil n0
  have K0 : Keep h0 h0 [] := Keep.refl h0 _
  show GoW p e below QQ (T0.setTop (mkF m 0 #[.val (.long q1), .second, .unset, .unset] []))
  refine GoW.st (fun t k => XS.lloadN X0.here hx rfl (hb hby d5_0) rfl (XS.l2i X0.here hx rfl (hb hby d5_1) rfl (XS.istoreN X0.here hx rfl (hb hby d5_2) rfl (l' := #[.val (.long q1), .second, .val (.int (q1.toInt32)), .unset]) rfl k))) ?_
  show GoW p e below QQ (T0.setTop (mkF m 3 #[.val (.long q1), .second, .val (.int (q1.toInt32)), .unset] []))
  generalize hv2 : (q1.toInt32) = v2
  refine GoW.st (fun t k => XS.lloadN X0.here hx rfl (hb hby d5_3) rfl (XS.bipush X0.here hx rfl (hb hby d5_4) (XS.lshr X0.here hx rfl (hb hby d5_6) rfl (XS.l2i X0.here hx rfl (hb hby d5_7) rfl (XS.istoreN X0.here hx rfl (hb hby d5_8) rfl (l' := #[.val (.long q1), .second, .val (.int v2), .val (.int ((q1 >>> ((32 : Int32) &&& 0x3f).toInt64).toInt32))]) rfl k))))) ?_
  show GoW p e below QQ (T0.setTop (mkF m 9 #[.val (.long q1), .second, .val (.int v2), .val (.int ((q1 >>> ((32 : Int32) &&& 0x3f).toInt64).toInt32))] []))
  generalize hv8 : ((q1 >>> ((32 : Int32) &&& 0x3f).toInt64).toInt32) = v8
  refine GoW.st (fun t k => XS.iloadN X0.here hx rfl (hb hby d5_9) rfl (XS.iloadN X0.here hx rfl (hb hby d5_10) rfl (XS.ixor X0.here hx rfl (hb hby d5_11) rfl k))) ?_
  show GoW p e below QQ (T0.setTop (mkF m 12 #[.val (.long q1), .second, .val (.int v2), .val (.int v8)] [(.int (v2 ^^^ v8))]))
  have rv : ((some (.int (v2 ^^^ v8))) : Option Value) = some (.int (own_fold q1)) := by
    subst hv2 hv8; rfl
  exact GoW.fin X0 (some (.int (v2 ^^^ v8))) (fun q => by rw [hret] at q; cases q) hlk hQ e0 ⟨rv, N0, rfl⟩ (by decide) (by decide) (fun fs hr => retI X0 hx hret (hb hby d5_12) hr)
theorem pd_1 : parseMethodDescriptor "(JJJ)V" = some ⟨[.long, .long, .long], none⟩ := by decide +kernel
theorem pd_2 : parseMethodDescriptor "()I" = some ⟨[], some .int⟩ := by decide +kernel
theorem pd_3 : parseMethodDescriptor "(J)I" = some ⟨[.long], some .int⟩ := by decide +kernel
def Q0 (Z : State) (q1 : Int64) (q2 : Int64) (q3 : Int64) (h0 : Heap) (n0 : Nat) (v : Option Value) (h : Heap) (L : List Loc) : Prop := v = some (.int (1 : Int32)) ∧ Fr n0 L
set_option maxRecDepth 65536 in
set_option maxHeartbeats 40000000 in
theorem rm0 (l : Launch) (Z : State) (a0 : Array Value) (hw : ∀ d ∈ tables_1, d.before a0 Z = true) (ws : List Jvm.Cond) (q1 : Int64) (q2 : Int64) (q3 : Int64) (h0 : Heap) (n0 : Nat) (Z0 : n0 ≤ h0.size) (Z1 : h0.size ≤ n0)  :
    MetFree l x (head1 (Jvm.Cond.code x code maxLocals ret :: ws) room_1) (fun a U => a = #[(.long q1), (.long q2), (.long q3)] ∧ Z.Warmed39 U.vm ∧ U.heap = h0) (fun _ _ _ _ _ => True) (fun _ U o U' => ∃ v L, o = .returned v ∧ Q0 Z q1 q2 q3 h0 n0 v U'.heap L ∧ FrameEnd U o U' L 16 128) := by
  refine met_of (Q := fun v h L => Q0 Z q1 q2 q3 h0 n0 v h L) (plainFor_of_name pn_2) (fun m => by first | (simp [entryFrame, mkF, argsToLocals, Value.category, maxLocals]; done) | rfl) (Ls := #[.val (.long q1), .second, .val (.long q2), .second, .val (.long q3), .second, .unset, .unset, .unset, .unset]) ?_
  intro p e s m below meth c T0 QQ hx hZ hby hml hown hnm hret hlk X0 e0 hQ
  have hml : c.maxLocals = 10 := hml
  have hown : s.vm.findClass "com/example/duostrata/duostrata/protocol/HostTagPinLaw" = some m.cls := hown
  have hnm : meth.name = "law" := hnm
  have hret : meth.sig.returnType = some .boolean := hret
  have N0 := Fr.nil n0
  have K0 : Keep h0 h0 [] := Keep.refl h0 _
  show GoW p e below QQ (T0.setTop (mkF m 0 #[.val (.long q1), .second, .val (.long q2), .second, .val (.long q3), .second, .unset, .unset, .unset, .unset] []))
  obtain ⟨T1, h1, X1, e1, E1, A1, D1, -, st1⟩ := newO X0 hx hZ hown (hw _ (List.mem_of_getElem? (i := 0) rfl)) (hw _ (List.mem_of_getElem? (i := 1) rfl)) (hw _ (List.mem_of_getElem? (i := 2) rfl)) e0 (g := (mkF m 0 #[.val (.long q1), .second, .val (.long q2), .second, .val (.long q3), .second, .unset, .unset, .unset, .unset] [])) rfl (hb hby at_0) (by decide) (by decide)
  obtain ⟨b1, g1⟩ : ∃ z, z = h0.size := ⟨_, rfl⟩
  rw [← g1] at A1 D1 st1
  refine GoW.st st1 ?_
  have gg1 : n0 ≤ b1 := Nat.le_trans (Nat.le_trans Z0 K0.1) (Nat.le_of_eq g1.symm)
  have sz1 : h0.size ≤ b1 := Nat.le_trans K0.1 (Nat.le_of_eq g1.symm)
  have K1 : Keep h0 h1 [] := K0.ext E1
  have F1_bootHigh : Fld Z h1 b1 "com/example/duostrata/duostrata/protocol/FileReference$Host" "bootHigh" "J" (.long (0 : Int64)) := D1 (Or.inr (hw _ (List.mem_of_getElem? (i := 15) rfl))) (ty := .long) (by decide)
  have F1_bootLow : Fld Z h1 b1 "com/example/duostrata/duostrata/protocol/FileReference$Host" "bootLow" "J" (.long (0 : Int64)) := D1 (Or.inr (hw _ (List.mem_of_getElem? (i := 17) rfl))) (ty := .long) (by decide)
  have F1_pidNamespace : Fld Z h1 b1 "com/example/duostrata/duostrata/protocol/FileReference$Host" "pidNamespace" "J" (.long (0 : Int64)) := D1 (Or.inr (hw _ (List.mem_of_getElem? (i := 19) rfl))) (ty := .long) (by decide)
  show GoW p e below QQ (T1.setTop (mkF m 3 #[.val (.long q1), .second, .val (.long q2), .second, .val (.long q3), .second, .unset, .unset, .unset, .unset] [(.ref b1)]))
  refine GoW.st (fun t k => XS.dup X1.here hx rfl (hb hby at_3) rfl rfl (XS.lloadN X1.here hx rfl (hb hby at_4) rfl (XS.lloadN X1.here hx rfl (hb hby at_5) rfl (XS.lload X1.here hx rfl (hb hby at_6) rfl k)))) ?_
  show GoW p e below QQ (T1.setTop (mkF m 8 #[.val (.long q1), .second, .val (.long q2), .second, .val (.long q3), .second, .unset, .unset, .unset, .unset] [(.long q3), (.long q2), (.long q1), (.ref b1), (.ref b1)]))
  obtain ⟨_, _, ⟨T3, zL3, zk3, zn3⟩, -, X3, ⟨Lc3, hQ3, zl3, zy3, zz3⟩, st3⟩ := X1.specialBack hx (y := (⟨"com/example/duostrata/duostrata/protocol/FileReference$Host", "<init>", "(JJJ)V"⟩ : MethodName)) rfl hown (mvT hZ (hw _ (List.mem_of_getElem? (i := 3) rfl))) (mvT hZ (hw _ (List.mem_of_getElem? (i := 4) rfl))) (mvT hZ (hw _ (List.mem_of_getElem? (i := 5) rfl))) (by decide) (backOf (W := 1) (rm1 l Z a0 hw [] b1 q1 q2 q3 h1 n0 (Nat.le_trans Z0 K1.1) A1 gg1 F1_bootHigh F1_bootLow F1_pidNamespace) hZ (hw _ (List.mem_of_getElem? (i := 5) rfl)) (hw _ (List.mem_of_getElem? (i := 2) rfl)) (by decide) (by decide)) (g := (mkF m 8 #[.val (.long q1), .second, .val (.long q2), .second, .val (.long q3), .second, .unset, .unset, .unset, .unset] [(.long q3), (.long q2), (.long q1), (.ref b1), (.ref b1)])) rfl (by rw [hml]; rfl) (Steps.refl _) (a := b1) (argsL := [(.long q1), (.long q2), (.long q3)]) (rest := [(.ref b1)]) (lenOf pd_1 rfl) rfl (by show 2 * 0 + _ ≤ _; exact Nat.le_of_eq rfl) (hb hby at_8) (fun _ _ => ⟨rfl, e1, (by decide : 1 + 0 ≤ _), (by decide : 3 + 0 ≤ _)⟩)
  dsimp only [Pt.U, Pt.locs, Pt.cells, Pt.slots] at X3 zl3 zy3 zz3 st3 hQ3
  subst zl3 zy3 zz3
  obtain ⟨rfl, Nq3, Kq3, p3_0, p3_1, p3_2, p3_3⟩ := hQ3
  have N3 := Fr.app N0 Nq3
  refine GoW.st (fun t k => st3.trans k) ?_
  have K3 : Keep h0 T3.heap [] := K1.trans Kq3 (allS (Or.inr sz1) all0)
  show GoW p e below QQ (T3.setTop (mkF m 11 #[.val (.long q1), .second, .val (.long q2), .second, .val (.long q3), .second, .unset, .unset, .unset, .unset] [(.ref b1)]))
  refine GoW.st (fun t k => XS.astore X3.here hx rfl (hb hby at_11) rfl rfl (l' := #[.val (.long q1), .second, .val (.long q2), .second, .val (.long q3), .second, .val (.ref b1), .unset, .unset, .unset]) rfl (XS.aload X3.here hx rfl (hb hby at_13) rfl rfl k)) ?_
  show GoW p e below QQ (T3.setTop (mkF m 15 #[.val (.long q1), .second, .val (.long q2), .second, .val (.long q3), .second, .val (.ref b1), .unset, .unset, .unset] [(.ref b1)]))
  obtain ⟨cq5, kq5, qa5, qb5, qc5⟩ := isOf hZ rfl p3_0
  obtain ⟨_, _, ⟨T5, zL5, zk5, zn5⟩, -, X5, ⟨Lc5, hQ5, zl5, zy5, zz5⟩, st5⟩ := X3.virtualBack hx (y := (⟨"com/example/duostrata/duostrata/protocol/FileReference$Host", "tag", "()I"⟩ : MethodName)) (z := (⟨"com/example/duostrata/duostrata/protocol/FileReference$Host", "tag", "()I"⟩ : MethodName)) hown (mvT hZ (hw _ (List.mem_of_getElem? (i := 20) rfl))) (mvT hZ (hw _ (List.mem_of_getElem? (i := 21) rfl))) (notFace_of_selects (args := #[]) (mvT hZ (hw _ (List.mem_of_getElem? (i := 23) rfl)))) (mvT hZ (hw _ (List.mem_of_getElem? (i := 23) rfl))) (mvT hZ (hw _ (List.mem_of_getElem? (i := 22) rfl))) (by decide) (backOf (W := 0) (rm4 l Z a0 hw [] b1 q1 q2 q3 T3.heap n0 (Nat.le_trans Z0 K3.1) p3_1 p3_2 p3_3) hZ (hw _ (List.mem_of_getElem? (i := 24) rfl)) (hw _ (List.mem_of_getElem? (i := 2) rfl)) (by decide) (by decide)) qa5 qc5 (g := (mkF m 15 #[.val (.long q1), .second, .val (.long q2), .second, .val (.long q3), .second, .val (.ref b1), .unset, .unset, .unset] [(.ref b1)])) rfl (by rw [hml]; rfl) (Steps.refl _) (argsL := []) (rest := []) (lenOf pd_2 rfl) rfl (by show 2 * 0 + _ ≤ _; exact Nat.le_of_eq rfl) (hb hby at_15) (fun _ _ => ⟨rfl, rfl, (by decide : 1 + 0 ≤ _), (by decide : 3 + 0 ≤ _)⟩)
  dsimp only [Pt.U, Pt.locs, Pt.cells, Pt.slots] at X5 zl5 zy5 zz5 st5 hQ5
  subst zl5 zy5 zz5
  obtain ⟨rfl, Nq5, hh5⟩ := hQ5
  have N5 := Fr.app N3 Nq5
  refine GoW.st (fun t k => st5.trans k) ?_
  show GoW p e below QQ (T5.setTop (mkF m 18 #[.val (.long q1), .second, .val (.long q2), .second, .val (.long q3), .second, .val (.ref b1), .unset, .unset, .unset] [(.int (own_tag q1 q2 q3))]))
  refine GoW.st (fun t k => XS.istore X5.here hx rfl (hb hby at_18) rfl (l' := #[.val (.long q1), .second, .val (.long q2), .second, .val (.long q3), .second, .val (.ref b1), .val (.int (own_tag q1 q2 q3)), .unset, .unset]) rfl k) ?_
  show GoW p e below QQ (T5.setTop (mkF m 20 #[.val (.long q1), .second, .val (.long q2), .second, .val (.long q3), .second, .val (.ref b1), .val (.int (own_tag q1 q2 q3)), .unset, .unset] []))
  generalize hv18 : (own_tag q1 q2 q3) = v18
  refine GoW.st (fun t k => XS.lloadN X5.here hx rfl (hb hby at_20) rfl k) ?_
  show GoW p e below QQ (T5.setTop (mkF m 21 #[.val (.long q1), .second, .val (.long q2), .second, .val (.long q3), .second, .val (.ref b1), .val (.int v18), .unset, .unset] [(.long q1)]))
  obtain ⟨_, _, ⟨T6, zL6, zk6, zn6⟩, -, X6, ⟨Lc6, hQ6, zl6, zy6, zz6⟩, st6⟩ := Jvm.LawKit.callS X5 hx (y := (⟨"com/example/duostrata/duostrata/protocol/HostTagPinLaw", "fold", "(J)I"⟩ : MethodName)) hown (mvT hZ (hw _ (List.mem_of_getElem? (i := 26) rfl))) (mvT hZ (hw _ (List.mem_of_getElem? (i := 27) rfl))) (mvT hZ (hw _ (List.mem_of_getElem? (i := 28) rfl))) (mvT hZ (hw _ (List.mem_of_getElem? (i := 29) rfl))) (by decide) (backOf (W := 0) (rm5 l Z a0 hw [] q1 T3.heap n0 (Nat.le_trans Z0 K3.1) ) hZ (hw _ (List.mem_of_getElem? (i := 29) rfl)) (hw _ (List.mem_of_getElem? (i := 28) rfl)) (by decide) (by decide)) (g := (mkF m 21 #[.val (.long q1), .second, .val (.long q2), .second, .val (.long q3), .second, .val (.ref b1), .val (.int v18), .unset, .unset] [(.long q1)])) rfl (by rw [hml]; rfl) (argsL := [(.long q1)]) (rest := []) (lenOf pd_3 rfl) rfl (by show 2 * 0 + _ ≤ _; exact Nat.le_of_eq rfl) (hb hby at_21) (fun _ _ => ⟨rfl, hh5, (by decide : 1 + 0 ≤ _), (by decide : 3 + 0 ≤ _)⟩)
  dsimp only [Pt.U, Pt.locs, Pt.cells, Pt.slots] at X6 zl6 zy6 zz6 st6 hQ6
  subst zl6 zy6 zz6
  obtain ⟨rfl, Nq6, hh6⟩ := hQ6
  have N6 := Fr.app N5 Nq6
  refine GoW.st st6 ?_
  show GoW p e below QQ (T6.setTop (mkF m 24 #[.val (.long q1), .second, .val (.long q2), .second, .val (.long q3), .second, .val (.ref b1), .val (.int v18), .unset, .unset] [(.int (own_fold q1))]))
  refine GoW.st (fun t k => XS.lloadN X6.here hx rfl (hb hby at_24) rfl k) ?_
  show GoW p e below QQ (T6.setTop (mkF m 25 #[.val (.long q1), .second, .val (.long q2), .second, .val (.long q3), .second, .val (.ref b1), .val (.int v18), .unset, .unset] [(.long q2), (.int (own_fold q1))]))
  obtain ⟨_, _, ⟨T7, zL7, zk7, zn7⟩, -, X7, ⟨Lc7, hQ7, zl7, zy7, zz7⟩, st7⟩ := Jvm.LawKit.callS X6 hx (y := (⟨"com/example/duostrata/duostrata/protocol/HostTagPinLaw", "fold", "(J)I"⟩ : MethodName)) hown (mvT hZ (hw _ (List.mem_of_getElem? (i := 26) rfl))) (mvT hZ (hw _ (List.mem_of_getElem? (i := 27) rfl))) (mvT hZ (hw _ (List.mem_of_getElem? (i := 28) rfl))) (mvT hZ (hw _ (List.mem_of_getElem? (i := 29) rfl))) (by decide) (backOf (W := 1) (rm5 l Z a0 hw [] q2 T3.heap n0 (Nat.le_trans Z0 K3.1) ) hZ (hw _ (List.mem_of_getElem? (i := 29) rfl)) (hw _ (List.mem_of_getElem? (i := 28) rfl)) (by decide) (by decide)) (g := (mkF m 25 #[.val (.long q1), .second, .val (.long q2), .second, .val (.long q3), .second, .val (.ref b1), .val (.int v18), .unset, .unset] [(.long q2), (.int (own_fold q1))])) rfl (by rw [hml]; rfl) (argsL := [(.long q2)]) (rest := [(.int (own_fold q1))]) (lenOf pd_3 rfl) rfl (by show 2 * 0 + _ ≤ _; exact Nat.le_of_eq rfl) (hb hby at_25) (fun _ _ => ⟨rfl, hh6, (by decide : 1 + 0 ≤ _), (by decide : 3 + 0 ≤ _)⟩)
  dsimp only [Pt.U, Pt.locs, Pt.cells, Pt.slots] at X7 zl7 zy7 zz7 st7 hQ7
  subst zl7 zy7 zz7
  obtain ⟨rfl, Nq7, hh7⟩ := hQ7
  have N7 := Fr.app N6 Nq7
  refine GoW.st st7 ?_
  show GoW p e below QQ (T7.setTop (mkF m 28 #[.val (.long q1), .second, .val (.long q2), .second, .val (.long q3), .second, .val (.ref b1), .val (.int v18), .unset, .unset] [(.int (own_fold q2)), (.int (own_fold q1))]))
  refine GoW.st (fun t k => XS.ixor X7.here hx rfl (hb hby at_28) rfl (XS.lload X7.here hx rfl (hb hby at_29) rfl (X7.ldc2Long hx hown (mvT hZ (hw _ (List.mem_of_getElem? (i := 30) rfl))) (g := (mkF m 31 #[.val (.long q1), .second, .val (.long q2), .second, .val (.long q3), .second, .val (.ref b1), .val (.int v18), .unset, .unset] [(.long q3), (.int ((own_fold q1) ^^^ (own_fold q2)))])) rfl (hb hby at_31) t (XS.lmul X7.here hx rfl (hb hby at_34) rfl k)))) ?_
  show GoW p e below QQ (T7.setTop (mkF m 35 #[.val (.long q1), .second, .val (.long q2), .second, .val (.long q3), .second, .val (.ref b1), .val (.int v18), .unset, .unset] [(.long (q3 * (-7046029254386353131 : Int64))), (.int ((own_fold q1) ^^^ (own_fold q2)))]))
  obtain ⟨_, _, ⟨T8, zL8, zk8, zn8⟩, -, X8, ⟨Lc8, hQ8, zl8, zy8, zz8⟩, st8⟩ := Jvm.LawKit.callS X7 hx (y := (⟨"com/example/duostrata/duostrata/protocol/HostTagPinLaw", "fold", "(J)I"⟩ : MethodName)) hown (mvT hZ (hw _ (List.mem_of_getElem? (i := 26) rfl))) (mvT hZ (hw _ (List.mem_of_getElem? (i := 27) rfl))) (mvT hZ (hw _ (List.mem_of_getElem? (i := 28) rfl))) (mvT hZ (hw _ (List.mem_of_getElem? (i := 29) rfl))) (by decide) (backOf (W := 1) (rm5 l Z a0 hw [] (q3 * (-7046029254386353131 : Int64)) T3.heap n0 (Nat.le_trans Z0 K3.1) ) hZ (hw _ (List.mem_of_getElem? (i := 29) rfl)) (hw _ (List.mem_of_getElem? (i := 28) rfl)) (by decide) (by decide)) (g := (mkF m 35 #[.val (.long q1), .second, .val (.long q2), .second, .val (.long q3), .second, .val (.ref b1), .val (.int v18), .unset, .unset] [(.long (q3 * (-7046029254386353131 : Int64))), (.int ((own_fold q1) ^^^ (own_fold q2)))])) rfl (by rw [hml]; rfl) (argsL := [(.long (q3 * (-7046029254386353131 : Int64)))]) (rest := [(.int ((own_fold q1) ^^^ (own_fold q2)))]) (lenOf pd_3 rfl) rfl (by show 2 * 0 + _ ≤ _; exact Nat.le_of_eq rfl) (hb hby at_35) (fun _ _ => ⟨rfl, hh7, (by decide : 1 + 0 ≤ _), (by decide : 3 + 0 ≤ _)⟩)
  dsimp only [Pt.U, Pt.locs, Pt.cells, Pt.slots] at X8 zl8 zy8 zz8 st8 hQ8
  subst zl8 zy8 zz8
  obtain ⟨rfl, Nq8, hh8⟩ := hQ8
  have N8 := Fr.app N7 Nq8
  refine GoW.st st8 ?_
  show GoW p e below QQ (T8.setTop (mkF m 38 #[.val (.long q1), .second, .val (.long q2), .second, .val (.long q3), .second, .val (.ref b1), .val (.int v18), .unset, .unset] [(.int (own_fold (q3 * (-7046029254386353131 : Int64)))), (.int ((own_fold q1) ^^^ (own_fold q2)))]))
  refine GoW.st (fun t k => XS.ixor X8.here hx rfl (hb hby at_38) rfl (XS.istore X8.here hx rfl (hb hby at_39) rfl (l' := #[.val (.long q1), .second, .val (.long q2), .second, .val (.long q3), .second, .val (.ref b1), .val (.int v18), .val (.int (((own_fold q1) ^^^ (own_fold q2)) ^^^ (own_fold (q3 * (-7046029254386353131 : Int64))))), .unset]) rfl k)) ?_
  show GoW p e below QQ (T8.setTop (mkF m 41 #[.val (.long q1), .second, .val (.long q2), .second, .val (.long q3), .second, .val (.ref b1), .val (.int v18), .val (.int (((own_fold q1) ^^^ (own_fold q2)) ^^^ (own_fold (q3 * (-7046029254386353131 : Int64))))), .unset] []))
  generalize hv39 : (((own_fold q1) ^^^ (own_fold q2)) ^^^ (own_fold (q3 * (-7046029254386353131 : Int64)))) = v39
  refine GoW.st (fun t k => XS.iload X8.here hx rfl (hb hby at_41) rfl k) ?_
  show GoW p e below QQ (T8.setTop (mkF m 43 #[.val (.long q1), .second, .val (.long q2), .second, .val (.long q3), .second, .val (.ref b1), .val (.int v18), .val (.int v39), .unset] [(.int v39)]))
  by_cases hc43 : v39 = (0 : Int32)
  · skip
    refine GoW.st (fun t k => XS.ifNo X8.here hx rfl (hb hby at_43) rfl ((if0 _ _).trans (teq hc43).2) (XS.iconst X8.here hx rfl (hb hby at_46) (XS.goto X8.here hx rfl (pc0 := 47) (pc' := 52) rfl (hb hby at_47) (by decide) (by decide) (XS.istore X8.here hx rfl (hb hby at_52) rfl (l' := #[.val (.long q1), .second, .val (.long q2), .second, .val (.long q3), .second, .val (.ref b1), .val (.int v18), .val (.int v39), .val (.int (1 : Int32))]) rfl (XS.iload X8.here hx rfl (hb hby at_54) rfl k))))) ?_
    show GoW p e below QQ (T8.setTop (mkF m 56 #[.val (.long q1), .second, .val (.long q2), .second, .val (.long q3), .second, .val (.ref b1), .val (.int v18), .val (.int v39), .val (.int (1 : Int32))] [(.int v18)]))
    have hc56 : ¬ (v18 = (0 : Int32)) := by
      subst hv18
      rw [own_tag, own_raw_eq, hv39]
      first | (rw [if_pos hc43]; decide) | (rw [if_neg hc43]; exact hc43)
    refine GoW.st (fun t k => XS.ifNo X8.here hx rfl (hb hby at_56) rfl ((if0 _ _).trans (feq hc56).1) (XS.iload X8.here hx rfl (hb hby at_59) rfl (XS.iload X8.here hx rfl (hb hby at_61) rfl k))) ?_
    show GoW p e below QQ (T8.setTop (mkF m 63 #[.val (.long q1), .second, .val (.long q2), .second, .val (.long q3), .second, .val (.ref b1), .val (.int v18), .val (.int v39), .val (.int (1 : Int32))] [(.int (1 : Int32)), (.int v18)]))
    have hc63 : v18 = (1 : Int32) := by
      subst hv18
      rw [own_tag, own_raw_eq, hv39]
      first | rw [if_pos hc43] | rw [if_neg hc43]
    refine GoW.st (fun t k => XS.icmpNo X8.here hx rfl (hb hby at_63) rfl (teq hc63).2 (XS.iconst X8.here hx rfl (hb hby at_66) (XS.goto X8.here hx rfl (pc0 := 67) (pc' := 71) rfl (hb hby at_67) (by decide) (by decide) k))) ?_
    show GoW p e below QQ (T8.setTop (mkF m 71 #[.val (.long q1), .second, .val (.long q2), .second, .val (.long q3), .second, .val (.ref b1), .val (.int v18), .val (.int v39), .val (.int (1 : Int32))] [(.int (1 : Int32))]))
    exact GoW.fin X8 (some (.int (nar .boolean (1 : Int32)))) (fun q => by rw [hret] at q; cases q) hlk hQ hh8 ⟨rfl, N8⟩ (by decide) (by decide) (fun fs hr => retN X8 hx (t := .boolean) hret (by simp) (hb hby at_71) hr)
  · skip
    refine GoW.st (fun t k => XS.ifYes X8.here hx rfl (pc0 := 43) (pc' := 50) rfl (hb hby at_43) rfl ((if0 _ _).trans (feq hc43).2) (by decide) (by decide) (XS.iload X8.here hx rfl (hb hby at_50) rfl (XS.istore X8.here hx rfl (hb hby at_52) rfl (l' := #[.val (.long q1), .second, .val (.long q2), .second, .val (.long q3), .second, .val (.ref b1), .val (.int v18), .val (.int v39), .val (.int v39)]) rfl (XS.iload X8.here hx rfl (hb hby at_54) rfl k)))) ?_
    show GoW p e below QQ (T8.setTop (mkF m 56 #[.val (.long q1), .second, .val (.long q2), .second, .val (.long q3), .second, .val (.ref b1), .val (.int v18), .val (.int v39), .val (.int v39)] [(.int v18)]))
    have hc56 : ¬ (v18 = (0 : Int32)) := by
      subst hv18
      rw [own_tag, own_raw_eq, hv39]
      first | (rw [if_pos hc43]; decide) | (rw [if_neg hc43]; exact hc43)
    refine GoW.st (fun t k => XS.ifNo X8.here hx rfl (hb hby at_56) rfl ((if0 _ _).trans (feq hc56).1) (XS.iload X8.here hx rfl (hb hby at_59) rfl (XS.iload X8.here hx rfl (hb hby at_61) rfl k))) ?_
    show GoW p e below QQ (T8.setTop (mkF m 63 #[.val (.long q1), .second, .val (.long q2), .second, .val (.long q3), .second, .val (.ref b1), .val (.int v18), .val (.int v39), .val (.int v39)] [(.int v39), (.int v18)]))
    have hc63 : v18 = v39 := by
      subst hv18
      rw [own_tag, own_raw_eq, hv39]
      first | rw [if_pos hc43] | rw [if_neg hc43]
    refine GoW.st (fun t k => XS.icmpNo X8.here hx rfl (hb hby at_63) rfl (teq hc63).2 (XS.iconst X8.here hx rfl (hb hby at_66) (XS.goto X8.here hx rfl (pc0 := 67) (pc' := 71) rfl (hb hby at_67) (by decide) (by decide) k))) ?_
    show GoW p e below QQ (T8.setTop (mkF m 71 #[.val (.long q1), .second, .val (.long q2), .second, .val (.long q3), .second, .val (.ref b1), .val (.int v18), .val (.int v39), .val (.int v39)] [(.int (1 : Int32))]))
    exact GoW.fin X8 (some (.int (nar .boolean (1 : Int32)))) (fun q => by rw [hret] at q; cases q) hlk hQ hh8 ⟨rfl, N8⟩ (by decide) (by decide) (fun fs hr => retN X8 hx (t := .boolean) hret (by simp) (hb hby at_71) hr)
set_option maxRecDepth 65536 in
set_option maxHeartbeats 40000000 in
theorem comes_1 {Post : Tables → Env → Array Value → State → Outcome → State → Prop} (hpost : ∀ tb e args s v u, (limb_1_1.after args s (.returned v) u = true ∧ limb_1_2.after args s (.returned v) u = true ∧ True) → FrameEnd s (.returned v) u (Jvm.fieldLocs frame_1_writes args s ++ Jvm.arrayLocs frame_1_arrays args s ++ Jvm.staticLocs frame_1_statics s) 16 128 → Post tb e args s (.returned v) u) :
    ArmFor flags0 classFile x code maxLocals ret World_1 tables_1 room_1 Calls_1 rest_1 Pre_1 Post := by
  intro l hfl _ _ p e ha hc hk s m args below hf hA hF happ hP
  obtain ⟨hcalls, hrest, hpre⟩ := hP
  obtain ⟨-, -, -, hnamed, -, -, -, hat⟩ := (Spec.applies_iff hf).mp happ
  obtain ⟨hg, hn⟩ := and_e (Cond.before_iff.mp (show (Jvm.Cond.and given_1 narrow_1).before args s = true from hpre))
  obtain ⟨gcount, gr0⟩ := and_e hg
  obtain ⟨ga0, gr1⟩ := and_e gr0
  obtain ⟨ga1, gr2⟩ := and_e gr1
  obtain ⟨w0, w1, w2, rfl⟩ : ∃ w0 w1 w2 : Value, args = #[w0, w1, w2] := by
    have hs : args.size = 3 := by simpa [Cond.value, given_1] using gcount
    obtain ⟨L⟩ := args
    match L, hs with
    | [w0, w1, w2], _ => exact ⟨w0, w1, w2, rfl⟩
  have hw := fun d (hd : d ∈ tables_1) => atoms_spec (ws := Jvm.Cond.code x code maxLocals ret :: tables_1) hat d (List.mem_cons_of_mem _ hd)
  obtain ⟨i0, ei0⟩ := isL_v ga0
  obtain rfl : w0 = (.long i0) := Option.some.inj ei0
  obtain ⟨i1, ei1⟩ := isL_v ga1
  obtain rfl : w1 = (.long i1) := Option.some.inj ei1
  obtain ⟨i2, ei2⟩ := isL_v gr2
  obtain rfl : w2 = (.long i2) := Option.some.inj ei2
  obtain ⟨n, o, h1, h2, h3, _, L, rfl, ⟨rfl, N⟩, hq⟩ := rm0 l s _ hw tables_1 i0 i1 i2 s.heap s.heap.size (Nat.le_refl _) (Nat.le_refl _) p e ha hc hk s m _ below hf ((Spec.applies_iff_loose hf).mp happ).1 ⟨rfl, State.Warmed39.refl s, rfl⟩ trivial
  refine ⟨n, _, h1, h2, h3, hpost _ _ _ _ _ _ ⟨Cond.after_iff.mpr rfl, Cond.after_iff.mpr (eq_i res_at (Term.int_eval (1)) rfl), trivial⟩ ⟨hq.1, hq.2.1, (hq.2.2.sift fun y hy => Or.inr (N y hy)).mono (by decide) (by decide)⟩⟩
theorem main_1_1 : Claimed_1_1 := comes_1 fun _ _ _ _ _ _ h hF => ⟨h.1, hF⟩
theorem main_1_2 : Claimed_1_2 := comes_1 fun _ _ _ _ _ _ h hF => ⟨h.2.1, hF⟩
end Jvm.Pilot.@@N@@
namespace Jvm.Pilot.@@N@@
open Jvm Jvm.ClassFile Sem Op Lib Jvm.Free Jvm.Stand Jvm.Pilot.@@N@@.Jvm.D
/-! MADE BY PROGRAM (witnessworld.py) out of the Statement's table words and the real class files: 10 classes; the members and pool entries that the words name. The judged class is class 1, her method 1. -/
namespace start1
open Jvm.ClassFile
def u (s : String) : CpInfo := .utf8 (stringToUtf16 s)
/-- a pool by its gaps: so many unusable entries, then the entry; so many at the end -/
def gap : Nat → List CpInfo → List CpInfo
  | 0, r => r
  | n + 1, r => .unusable :: gap n r
def poolList (es : List (Nat × CpInfo)) (last : Nat) : List CpInfo := es.foldr (fun e r => gap e.1 (e.2 :: r)) (gap last [])
def pool (es : List (Nat × CpInfo)) (last : Nat) : Array CpInfo := ⟨poolList es last⟩
def fileOf (pool : Array CpInfo) (this : Nat) (attrs : Array Attribute := #[]) (ms : Array MethodInfo := #[]) (fl : Nat := 33) (sup : Nat := 0) (ifs : Array Nat := #[]) (fds : Array FieldInfo := #[]) : ClassFile where
  minorVersion := 0
  majorVersion := 65
  constantPool := pool
  accessFlags := fl
  thisClass := this
  superClass := sup
  interfaces := ifs
  fields := fds
  methods := ms
  attributes := attrs
def plain (name : String) (sup : Option ClassId) : Class where
  name := name
  kind := .ordinary
  loader := none
  accessFlags := 33
  super := sup
  interfaces := #[]
  cf := none
  fields := #[]
  methods := #[]
  instanceTypes := #[]
  staticTypes := #[]
  resolved := #[]
  callSites := []
  init := .initialized
  statics := none
  mirror := none

def pool0 : Array CpInfo := pool [(5, u "<init>"), (0, u "()V"), (1, .class_ 10), (1, u "java/lang/Object")] 113

def k0c0 : Code := { maxStack := 0, maxLocals := 1, code := object_method_1_code, exceptionTable := #[], attributes := #[] }
def k0m0 : Method := { name := "<init>", desc := "()V", sig := { parameters := [], returnType := none }, accessFlags := 1, code := some k0c0 }
/-- java/lang/Object -/
def k0 : Class := { plain "java/lang/Object" none with
  accessFlags := 33
  interfaces := #[]
  cf := some (fileOf pool0 8 #[] #[{ accessFlags := 1, nameIndex := 5, descriptorIndex := 6, attributes := #[] }] 33 0 #[] #[])
  fields := #[]
  methods := #[k0m0]
  instanceTypes := #[]
  staticTypes := #[]
  resolved := Array.replicate 124 none
  statics := none }

def pool1 : Array CpInfo := pool [(2, .class_ 4), (1, u "java/lang/Object"), (0, u "<init>"), (0, u "()V"), (0, .class_ 8), (0, u "com/example/duostrata/duostrata/protocol/FileReference$Host"), (0, .methodref 7 10), (0, .nameAndType 5 11), (0, u "(JJJ)V"), (0, .methodref 7 13), (0, .nameAndType 14 15), (0, u "tag"), (0, u "()I"), (0, .methodref 17 18), (0, .class_ 19), (0, .nameAndType 20 21), (0, u "com/example/duostrata/duostrata/protocol/HostTagPinLaw"), (0, u "fold"), (0, u "(J)I"), (0, .long 11400714819323198485), (3, u "law"), (0, u "(JJJ)Z")] 7

def k1m0 : Method := { name := "<init>", desc := "()V", sig := { parameters := [], returnType := none }, accessFlags := 2, code := none }
def k1c1 : Code := { maxStack := 8, maxLocals := 10, code := code, exceptionTable := #[], attributes := #[] }
def k1m1 : Method := { name := "law", desc := "(JJJ)Z", sig := { parameters := [.long, .long, .long], returnType := some .boolean }, accessFlags := 9, code := some k1c1 }
def k1c2 : Code := { maxStack := 3, maxLocals := 4, code := method_3_code, exceptionTable := #[], attributes := #[] }
def k1m2 : Method := { name := "fold", desc := "(J)I", sig := { parameters := [.long], returnType := some .int }, accessFlags := 10, code := some k1c2 }
/-- com/example/duostrata/duostrata/protocol/HostTagPinLaw -/
def k1 : Class := { plain "com/example/duostrata/duostrata/protocol/HostTagPinLaw" (some 0) with
  accessFlags := 49
  interfaces := #[]
  cf := some (fileOf pool1 17 #[] #[{ accessFlags := 2, nameIndex := 5, descriptorIndex := 6, attributes := #[] }, { accessFlags := 9, nameIndex := 26, descriptorIndex := 27, attributes := #[] }, { accessFlags := 10, nameIndex := 20, descriptorIndex := 21, attributes := #[] }] 49 2 #[] #[])
  fields := #[]
  methods := #[k1m0, k1m1, k1m2]
  instanceTypes := #[]
  staticTypes := #[]
  resolved := Array.replicate 35 none
  statics := none }

def pool2 : Array CpInfo := pool [(1, .methodref 2 3), (0, .class_ 4), (0, .nameAndType 5 6), (0, u "java/lang/Object"), (0, u "<init>"), (0, u "()V"), (0, .class_ 8), (0, u "java/lang/Record")] 13

def k2c0 : Code := { maxStack := 1, maxLocals := 1, code := jdk_30_method_1_code, exceptionTable := #[], attributes := #[] }
def k2m0 : Method := { name := "<init>", desc := "()V", sig := { parameters := [], returnType := none }, accessFlags := 4, code := some k2c0 }
/-- java/lang/Record -/
def k2 : Class := { plain "java/lang/Record" (some 0) with
  accessFlags := 1057
  interfaces := #[]
  cf := some (fileOf pool2 7 #[] #[{ accessFlags := 4, nameIndex := 5, descriptorIndex := 6, attributes := #[] }] 1057 2 #[] #[])
  fields := #[]
  methods := #[k2m0]
  instanceTypes := #[]
  staticTypes := #[]
  resolved := Array.replicate 22 none
  statics := none }

def pool3 : Array CpInfo := pool [(1, .methodref 2 3), (0, .class_ 4), (0, .nameAndType 5 6), (0, u "java/lang/Record"), (0, u "<init>"), (0, u "()V"), (0, .fieldref 8 9), (0, .class_ 10), (0, .nameAndType 11 12), (0, u "com/example/duostrata/duostrata/protocol/FileReference$Host"), (0, u "bootHigh"), (0, u "J"), (0, .fieldref 8 14), (0, .nameAndType 15 12), (0, u "bootLow"), (0, .fieldref 8 17), (0, .nameAndType 18 12), (0, u "pidNamespace"), (0, .long 11400714819323198485), (13, u "(JJJ)V"), (3, u "tag"), (0, u "()I"), (7, .class_ 47), (0, u "com/example/duostrata/duostrata/protocol/FileReference")] 21

def k3c0 : Code := { maxStack := 3, maxLocals := 7, code := prog_73_method_1_code, exceptionTable := #[], attributes := #[] }
def k3m0 : Method := { name := "<init>", desc := "(JJJ)V", sig := { parameters := [.long, .long, .long], returnType := none }, accessFlags := 1, code := some k3c0 }
def k3c1 : Code := { maxStack := 6, maxLocals := 4, code := prog_73_method_2_code, exceptionTable := #[], attributes := #[] }
def k3m1 : Method := { name := "tag", desc := "()I", sig := { parameters := [], returnType := some .int }, accessFlags := 0, code := some k3c1 }
/-- com/example/duostrata/duostrata/protocol/FileReference$Host -/
def k3 : Class := { plain "com/example/duostrata/duostrata/protocol/FileReference$Host" (some 2) with
  accessFlags := 49
  interfaces := #[]
  cf := some (fileOf pool3 8 #[.nestHost 46] #[{ accessFlags := 1, nameIndex := 5, descriptorIndex := 33, attributes := #[] }, { accessFlags := 0, nameIndex := 37, descriptorIndex := 38, attributes := #[] }] 49 2 #[] #[{ accessFlags := 18, nameIndex := 11, descriptorIndex := 12, attributes := #[] }, { accessFlags := 18, nameIndex := 15, descriptorIndex := 12, attributes := #[] }, { accessFlags := 18, nameIndex := 18, descriptorIndex := 12, attributes := #[] }])
  fields := #[{ name := "bootHigh", type := .long, accessFlags := 18, slot := 0, constantValue := 0 }, { name := "bootLow", type := .long, accessFlags := 18, slot := 1, constantValue := 0 }, { name := "pidNamespace", type := .long, accessFlags := 18, slot := 2, constantValue := 0 }]
  methods := #[k3m0, k3m1]
  instanceTypes := #[.long, .long, .long]
  staticTypes := #[]
  resolved := Array.replicate 69 none
  statics := none }

def pool4 : Array CpInfo := pool [(1, u "java/lang/Cloneable"), (0, .class_ 1), (0, u "java/lang/Object"), (0, .class_ 3)] 3

/-- java/lang/Cloneable -/
def k4 : Class := { plain "java/lang/Cloneable" (some 0) with
  accessFlags := 1537
  interfaces := #[]
  cf := some (fileOf pool4 2 #[] #[] 1537 4 #[] #[])
  fields := #[]
  methods := #[]
  instanceTypes := #[]
  staticTypes := #[]
  resolved := Array.replicate 8 none
  statics := none }

def pool5 : Array CpInfo := pool [(1, u "java/io/Serializable"), (0, .class_ 1), (0, u "java/lang/Object"), (0, .class_ 3)] 3

/-- java/io/Serializable -/
def k5 : Class := { plain "java/io/Serializable" (some 0) with
  accessFlags := 1537
  interfaces := #[]
  cf := some (fileOf pool5 2 #[] #[] 1537 4 #[] #[])
  fields := #[]
  methods := #[]
  instanceTypes := #[]
  staticTypes := #[]
  resolved := Array.replicate 8 none
  statics := none }

/-- the primitive byte -/
def k6 : Class := { plain "byte" none with kind := .primitive 'B', accessFlags := 0x411 }
/-- [B -/
def k7 : Class := { plain "[B" (some 0) with kind := .array 6 .byte, interfaces := #[4, 5], accessFlags := 1041 }

/-- the primitive int -/
def k8 : Class := { plain "int" none with kind := .primitive 'I', accessFlags := 0x411 }
/-- [I -/
def k9 : Class := { plain "[I" (some 0) with kind := .array 8 .int, interfaces := #[4, 5], accessFlags := 1041 }

def heap : Heap := #[]
def classes : Array Class := #[k0, k1, k2, k3, k4, k5, k6, k7, k8, k9]
def interned : List (Array UInt16 × Addr) := []
def slotsUsed : Nat := 0
def theMethod : MethodId := ⟨1, 1⟩
def args0 : Array Value := #[.long 5, .long 6, .long 7]
def aboutOver (below : List Frame) : State where
  vm := { classes := classes, interned := interned.toArray }
  heap := heap
  slotsUsed := slotsUsed
  threads := #[{ frames := .invoking theMethod args0 :: below }]
def below0 : List Frame := [.native { method := ⟨0, 0⟩, args := #[] }]
def about1 : State := aboutOver below0
def p0 : Program := .bare "" "" ""
def e0 : Env := launch0.env 0 0 0
theorem w_frames : about1.frames = Frame.invoking theMethod args0 :: below0 := rfl
set_option maxRecDepth 65536 in
theorem w_args : argsFit about1.vm theMethod args0 = true := by decide +kernel
set_option maxRecDepth 65536 in
theorem w_heap : heapFits about1 = true := by decide +kernel
set_option maxRecDepth 65536 in
theorem w_runnable : about1.curStatus? = some .runnable := by decide +kernel
set_option maxRecDepth 65536 in
theorem w_alone : about1.alone = true := by decide +kernel
set_option maxRecDepth 65536 in
theorem w_named : about1.methodNamed? x = some theMethod := by decide +kernel
set_option maxRecDepth 65536 in
theorem w_hears : about1.hears theMethod below0 = true := by decide +kernel
set_option maxRecDepth 65536 in
theorem w_ripe : about1.ripe theMethod args0 below0 = true := by decide +kernel
theorem w_running : about1.status = .running := rfl
set_option maxRecDepth 65536 in
theorem w_room : about1.hasRoom e0.platform room_1 = true :=
  launch0.hasRoom_least _ room_1 (by decide +kernel) (by decide +kernel) (by decide +kernel) (by decide +kernel) (by decide +kernel) (by decide +kernel)
theorem allAtoms_all (ts : List Jvm.Cond) (a : Array Jvm.Value) (st : Jvm.State) : (allAtoms ts).before a st = ts.all (fun c => c.before a st) := by
  induction ts with
  | nil => rfl
  | cons c t ih =>
    show (Jvm.Cond.and c (allAtoms t)).before a st = _
    rw [Jvm.Cond.before_and, ih, List.all_cons]
def words1 : List Jvm.Cond := Jvm.Cond.code x code maxLocals ret :: tables_1
/-- a 'code' word, met by the world's own term for the bytes: nothing is compared byte by byte -/
theorem code_word {y : MethodName} {bytes : ByteArray} {mx : Nat} {rt : Option FieldType} {a : Array Value} {s : State} {m : MethodId} {meth : Method} {c : Code} (h1 : s.methodNamed? y = some m) (h2 : s.vm.method? m = some meth) (h3 : meth.code = some c) (h4 : c.code = bytes)
    (h5 : (c.maxLocals == mx && c.exceptionTable.isEmpty && decide (c.maxStack ≤ mostOperands) && decide (meth.sig.returnType = rt) && !meth.locks && decide (parseMethodDescriptor y.desc = some meth.sig)) = true) : (Jvm.Cond.code y bytes mx rt).before a s = true := by
  simp only [Bool.and_eq_true, beq_iff_eq, Bool.not_eq_true', decide_eq_true_eq] at h5
  obtain ⟨⟨⟨⟨⟨g1, g2⟩, g3⟩, g4⟩, g5⟩, g6⟩ := h5
  simp [Cond.before, Cond.holds, Cond.value, h1, h2, h3, h4, g1, g2, g3, g4, g5, g6]
def isCode : Jvm.Cond → Bool
  | .code _ _ _ _ => true
  | _ => false
theorem all_split {L : List Jvm.Cond} {P : Jvm.Cond → Bool} (h1 : L.all (fun c => isCode c || P c) = true) (h2 : ∀ c ∈ L.filter isCode, P c = true) : L.all P = true := by
  refine List.all_eq_true.mpr fun c hc => ?_
  have h := List.all_eq_true.mp h1 c hc
  rcases Bool.eq_false_or_eq_true (isCode c) with hi | hi
  · exact h2 c (List.mem_filter.mpr ⟨hc, hi⟩)
  · simpa [hi] using h
set_option maxRecDepth 65536 in
theorem w_c0 : (Jvm.Cond.code x code maxLocals ret).before args0 about1 = true := code_word (m := ⟨1, 1⟩) (meth := k1m1) (c := k1c1) (by decide +kernel) rfl rfl rfl (by decide +kernel)
set_option maxRecDepth 65536 in
theorem w_c1 : (Jvm.Cond.code ({ cls := "com/example/duostrata/duostrata/protocol/FileReference$Host", name := "<init>", desc := "(JJJ)V" } : Jvm.MethodName) prog_73_method_1_code (7 : Nat) (Option.none : Option Jvm.ClassFile.FieldType)).before args0 about1 = true := code_word (m := ⟨3, 0⟩) (meth := k3m0) (c := k3c0) (by decide +kernel) rfl rfl rfl (by decide +kernel)
set_option maxRecDepth 65536 in
theorem w_c2 : (Jvm.Cond.code ({ cls := "java/lang/Record", name := "<init>", desc := "()V" } : Jvm.MethodName) jdk_30_method_1_code (1 : Nat) (Option.none : Option Jvm.ClassFile.FieldType)).before args0 about1 = true := code_word (m := ⟨2, 0⟩) (meth := k2m0) (c := k2c0) (by decide +kernel) rfl rfl rfl (by decide +kernel)
set_option maxRecDepth 65536 in
theorem w_c3 : (Jvm.Cond.code ({ cls := "java/lang/Object", name := "<init>", desc := "()V" } : Jvm.MethodName) object_method_1_code (1 : Nat) (Option.none : Option Jvm.ClassFile.FieldType)).before args0 about1 = true := code_word (m := ⟨0, 0⟩) (meth := k0m0) (c := k0c0) (by decide +kernel) rfl rfl rfl (by decide +kernel)
set_option maxRecDepth 65536 in
theorem w_c4 : (Jvm.Cond.code ({ cls := "com/example/duostrata/duostrata/protocol/FileReference$Host", name := "tag", desc := "()I" } : Jvm.MethodName) prog_73_method_2_code (4 : Nat) (Option.some Jvm.ClassFile.FieldType.int)).before args0 about1 = true := code_word (m := ⟨3, 1⟩) (meth := k3m1) (c := k3c1) (by decide +kernel) rfl rfl rfl (by decide +kernel)
set_option maxRecDepth 65536 in
theorem w_c5 : (Jvm.Cond.code ({ cls := "com/example/duostrata/duostrata/protocol/HostTagPinLaw", name := "fold", desc := "(J)I" } : Jvm.MethodName) method_3_code (4 : Nat) (Option.some Jvm.ClassFile.FieldType.int)).before args0 about1 = true := code_word (m := ⟨1, 2⟩) (meth := k1m2) (c := k1c2) (by decide +kernel) rfl rfl rfl (by decide +kernel)
def codes1 : List Jvm.Cond := [Jvm.Cond.code x code maxLocals ret, Jvm.Cond.code ({ cls := "com/example/duostrata/duostrata/protocol/FileReference$Host", name := "<init>", desc := "(JJJ)V" } : Jvm.MethodName) prog_73_method_1_code (7 : Nat) (Option.none : Option Jvm.ClassFile.FieldType), Jvm.Cond.code ({ cls := "java/lang/Record", name := "<init>", desc := "()V" } : Jvm.MethodName) jdk_30_method_1_code (1 : Nat) (Option.none : Option Jvm.ClassFile.FieldType), Jvm.Cond.code ({ cls := "java/lang/Object", name := "<init>", desc := "()V" } : Jvm.MethodName) object_method_1_code (1 : Nat) (Option.none : Option Jvm.ClassFile.FieldType), Jvm.Cond.code ({ cls := "com/example/duostrata/duostrata/protocol/FileReference$Host", name := "tag", desc := "()I" } : Jvm.MethodName) prog_73_method_2_code (4 : Nat) (Option.some Jvm.ClassFile.FieldType.int), Jvm.Cond.code ({ cls := "com/example/duostrata/duostrata/protocol/HostTagPinLaw", name := "fold", desc := "(J)I" } : Jvm.MethodName) method_3_code (4 : Nat) (Option.some Jvm.ClassFile.FieldType.int)]
set_option maxRecDepth 65536 in
theorem codes_eq : words1.filter isCode = codes1 := rfl
theorem w_codes : ∀ c ∈ words1.filter isCode, c.before args0 about1 = true := by
  rw [codes_eq]
  intro c hc
  simp only [codes1, List.mem_cons, List.not_mem_nil, or_false] at hc
  rcases hc with rfl | rfl | rfl | rfl | rfl | rfl
  · exact w_c0
  · exact w_c1
  · exact w_c2
  · exact w_c3
  · exact w_c4
  · exact w_c5
set_option maxRecDepth 65536 in
theorem w_t1 : (words1.take 24).all (fun c => isCode c || c.before args0 about1) = true := by decide +kernel
set_option maxRecDepth 65536 in
theorem w_t2 : (words1.drop 24).all (fun c => isCode c || c.before args0 about1) = true := by decide +kernel
theorem w_tables : (allAtoms (Jvm.Cond.code x code maxLocals ret :: tables_1)).before args0 about1 = true := by
  rw [allAtoms_all]
  show words1.all (fun c => c.before args0 about1) = true
  refine all_split ?_ w_codes
  rw [← List.take_append_drop 24 words1, List.all_append, w_t1, w_t2]
  rfl
set_option maxRecDepth 65536 in
theorem w_case : (Jvm.Cond.and given_1 narrow_1).before args0 about1 = true := by decide +kernel
theorem w_applies : (headSpec (Jvm.Cond.code x code maxLocals ret :: tables_1) room_1).applies x e0.platform about1 = true :=
  (Spec.applies_iff w_frames).mpr ⟨w_running, w_runnable, w_alone, w_named, w_hears, w_ripe, w_room, w_tables⟩
theorem atStart : AtStart classFile x code maxLocals ret World_1 tables_1 room_1 Calls_1 rest_1 Pre_1 launch0 p0 e0 about1 theMethod args0 below0 :=
  ⟨lists_1, trivial, launch0.admits_env _ _ _, launch0.least_env, fairChoices_fair.cas, fairChoices_fair.clock, w_frames, w_args, w_heap, w_applies, trivial, trivial, w_case⟩
end start1
theorem witness_1 : WitnessClaimed_1 := ⟨start1.p0, start1.e0, start1.about1, start1.theMethod, start1.args0, start1.below0, start1.atStart⟩
end Jvm.Pilot.@@N@@
