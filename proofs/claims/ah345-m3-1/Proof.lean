import JvmDerived
import JvmDerived.Pilot.@@N@@Statement
import JvmDerived.Pilot.@@N@@Code
set_option linter.unusedVariables false
set_option linter.unusedSimpArgs false
namespace Jvm.RoadKit
open Sem ClassFile Op Lib Jvm.Stand Jvm.Free Jvm.LawKit
section Own
variable {p : Program} {l : Launch} {e : Env} {R : Room} {s : State} {m : MethodId} {args : Array Value} {below : List Frame} {meth : Method} {c : Code} {T : State} {locs : List Loc} {cells slots : Nat}
theorem retI (X : Stand p l e R s m args below meth c T locs cells slots) (hx : p.tables.exec = Jvm.exec) {pc : Nat} {Ls : Array Slot} {z : Int32} {rest : List Value} (hret : meth.sig.returnType = some .int) (hd : decode c.code pc = .ok (.ireturn, 1)) {fs : List Frame}
    (hl : ∀ (f : JFrame) (acts : List Action), f.method = m → f.locked = none → f.entered = [] → (doReturn e (T.setTop f) acts (some (.int z))).1 = T.setFrames fs) : Steps p.tables e below (T.setTop (mkF m pc Ls (.int z :: rest))) (T.setFrames fs) := by
  have hm' : T.vm.method? m = some meth := X.method'
  have hn : narrow .int (.int z) = .int z := rfl
  show Steps p.tables e below (T.setTop { method := m, pc := pc, locals := Ls, stack := _ :: rest, locked := none }) _
  jvm_step X.here [X.here.top, hx, hd, hm', hret, hn]
  first | (intro acts; rw [hl _ acts rfl rfl rfl]) | rw [hl _ _ rfl rfl rfl]
  exact Steps.refl _
/-- the run comes from the state A to its end, and the end is as QQ says -/
def GoW (p : Program) (e : Env) (below : List Frame) (QQ : Outcome → State → Prop) (A : State) : Prop :=
  ∃ s₂ o, Steps p.tables e below A s₂ ∧ s₂.status = .running ∧ Ended s₂ below o ∧ QQ o s₂
theorem GoW.st {QQ : Outcome → State → Prop} {A B : State} (h : ∀ t, Steps p.tables e below B t → Steps p.tables e below A t) (g : GoW p e below QQ B) : GoW p e below QQ A := by
  obtain ⟨s₂, o, h1, h2⟩ := g
  exact ⟨s₂, o, h _ h1, h2⟩
/-- what an end with the value v, the heap and the written places must say -/
def EndsW (s : State) (Q : Option Value → Heap → List Loc → Prop) (cl sl : Nat) (QQ : Outcome → State → Prop) : Prop :=
  ∀ (v : Option Value) (L : List Loc) (T : State), Q v T.heap L → FrameEnd s (.returned v) T L cl sl → QQ (.returned v) T
theorem GoW.fin {Q : Option Value → Heap → List Loc → Prop} {cl sl : Nat} {QQ : Outcome → State → Prop} {A : State} (X : Stand p l e R s m args below meth c T locs cells slots) (v : Option Value) (hv : meth.sig.returnType = none → v = none) (hlk : meth.locks = false) (hQ : EndsW s Q cl sl QQ) {h : Heap} (eT : T.heap = h)
    (q : Q v h locs) (hc : cells ≤ cl) (hs : slots ≤ sl)
    (st : ∀ fs, (∀ (f : JFrame) (acts : List Action), f.method = m → f.locked = none → f.entered = [] → (doReturn e (T.setTop f) acts v).1 = T.setFrames fs) → Steps p.tables e below A (T.setFrames fs)) : GoW p e below QQ A := by
  obtain ⟨fs, hr, hrun, hended, hW, hsame⟩ := X.leave (v := v) hv hlk
  subst eT
  exact ⟨_, _, st fs hr, hrun, hended, hQ _ _ _ q ⟨⟨_, rfl⟩, hW, hsame.mono hc hs⟩⟩
theorem met_of {y : MethodName} {bytes : ByteArray} {maxL : Nat} {ret : Option FieldType} {ws : List Cond} {as' : Array Value} {Z : State} {h0 : Heap} {Q : Option Value → Heap → List Loc → Prop} {cl sl : Nat} (hp : plainFor y = true) {Ls : Array Slot} (ef : ∀ m, entryFrame m as' maxL = mkF m 0 Ls [])
    (core : ∀ (p : Program) (e : Env) (s : State) (m : MethodId) (below : List Frame) (meth : Method) (c : Code) (T : State) (QQ : Outcome → State → Prop), p.tables.exec = Jvm.exec → Z.Warmed39 s.vm → c.code = bytes → c.maxLocals = maxL → s.vm.findClass y.cls = some m.cls → meth.name = y.name → meth.sig.returnType = ret → meth.locks = false →
      Stand p l e R s m as' below meth c T [] 0 0 → T.heap = h0 → EndsW s Q cl sl QQ → GoW p e below QQ (T.setTop (mkF m 0 Ls []))) :
    MetFree l y (head1 (Cond.code y bytes maxL ret :: ws) R) (fun a U => a = as' ∧ Z.Warmed39 U.vm ∧ U.heap = h0) (fun _ _ _ _ _ => True) (fun _ U o U' => ∃ v L, o = .returned v ∧ Q v U'.heap L ∧ FrameEnd U o U' L cl sl) := by
  refine MetFree.of_bodySF hp hisR ?_
  intro p e s m args below meth c s₁ Bd hml0 hP hK
  obtain ⟨rfl, hZ, hh⟩ := hP
  obtain ⟨s₂, o, g1, g2, g3, g4⟩ := core p e s m below meth c s₁ (fun o U' => ∃ v L, o = .returned v ∧ Q v U'.heap L ∧ FrameEnd s o U' L cl sl) Bd.exec hZ Bd.bytes hml0 (findClass_of_methodNamed Bd.named) (name_of_methodNamed Bd.named Bd.method).1 Bd.returns Bd.notSynchronized (Stand.of_body Bd) (by rw [← hh, Bd.state]; rfl) (fun v L T q f => ⟨v, L, rfl, q, f⟩)
  exact ⟨s₂, o, castTop (ef m) g1, g2, g3, g4⟩
theorem standUp (X : Stand p l e R s m args below meth c T locs cells slots) {cells' slots' : Nat} (hc : cells ≤ cells') (hs : slots ≤ slots') : Stand p l e R s m args below meth c T locs cells' slots' :=
  { X with same := X.same.mono hc hs }
theorem lremM {g : JFrame} {target : State} (X : Stand p l e R s m args below meth c T locs cells slots) (hx : p.tables.exec = Jvm.exec) (hg : g.method = m) {x y : Int64} {rest : List Value} (hd : decode c.code g.pc = .ok (.lrem, 1)) (hs : g.stack = .long y :: .long x :: rest) (hy : y ≠ 0)
    (hr : Steps p.tables e below (T.setTop { g with pc := g.pc + 1, stack := .long (x % y) :: rest }) target) : Steps p.tables e below (T.setTop g) target := by
  have q : x - x / y * y = x % y := lrem_mod x y
  exact XS.lrem X.here hx hg hd hs hy (by rw [q]; exact hr)
theorem ldVI {Z : State} {h : Heap} {a : Addr} {kc : ClassId} {z j : Int32} {vs : List Value} {dv v : Value} (X : Stand p l e R s m args below meth c T locs cells slots) (hx : p.tables.exec = Jvm.exec) (hZ : Z.Warmed39 s.vm) (eT : T.heap = h) (F : Arv Z h a kc .int z vs dv) (hj : ¬ j < 0 ∧ j < z) (hv : vs.getD j.toNatClampNeg dv = v)
    {g : JFrame} (hg : g.method = m) {rest : List Value} (hs : g.stack = .int j :: .ref a :: rest) (hd : decode c.code g.pc = .ok (.iaload, 1)) (t : State) (k : Steps p.tables e below (T.setTop { g with pc := g.pc + 1, stack := v :: rest }) t) : Steps p.tables e below (T.setTop g) t := by
  obtain ⟨c', A, -, S, -, H, -⟩ := F
  have i := inb_of S hj
  exact X.iaload hx (by rw [eT]; exact A.1) (State.isArrayOf_alike hZ.alike A.2.1) A.2.2 i (H.at i hv) hg hs hd t k
theorem ldVJ {Z : State} {h : Heap} {a : Addr} {kc : ClassId} {z j : Int32} {vs : List Value} {dv v : Value} (X : Stand p l e R s m args below meth c T locs cells slots) (hx : p.tables.exec = Jvm.exec) (hZ : Z.Warmed39 s.vm) (eT : T.heap = h) (F : Arv Z h a kc .long z vs dv) (hj : ¬ j < 0 ∧ j < z) (hv : vs.getD j.toNatClampNeg dv = v)
    {g : JFrame} (hg : g.method = m) {rest : List Value} (hs : g.stack = .int j :: .ref a :: rest) (hd : decode c.code g.pc = .ok (.laload, 1)) (t : State) (k : Steps p.tables e below (T.setTop { g with pc := g.pc + 1, stack := v :: rest }) t) : Steps p.tables e below (T.setTop g) t := by
  obtain ⟨c', A, -, S, -, H, -⟩ := F
  have i := inb_of S hj
  exact X.laload hx (by rw [eT]; exact A.1) (State.isArrayOf_alike hZ.alike A.2.1) A.2.2 i (H.at i hv) hg hs hd t k
theorem ldVB {Z : State} {h : Heap} {a : Addr} {kc : ClassId} {z j : Int32} {vs : List Value} {dv v : Value} (X : Stand p l e R s m args below meth c T locs cells slots) (hx : p.tables.exec = Jvm.exec) (hZ : Z.Warmed39 s.vm) (eT : T.heap = h) (F : Arv Z h a kc .byte z vs dv) (hj : ¬ j < 0 ∧ j < z) (hv : vs.getD j.toNatClampNeg dv = v)
    {g : JFrame} (hg : g.method = m) {rest : List Value} (hs : g.stack = .int j :: .ref a :: rest) (hd : decode c.code g.pc = .ok (.baload, 1)) (t : State) (k : Steps p.tables e below (T.setTop { g with pc := g.pc + 1, stack := v :: rest }) t) : Steps p.tables e below (T.setTop g) t := by
  obtain ⟨c', A, -, S, -, H, -⟩ := F
  have i := inb_of S hj
  exact X.baloadBytes hx (by rw [eT]; exact A.1) (State.isArrayOf_alike hZ.alike A.2.1) A.2.2 i (H.at i hv) hg hs hd t k
theorem stVI {Z : State} {h : Heap} {a : Addr} {kc : ClassId} {z j : Int32} {vs : List Value} {dv : Value} {x : Int32} (X : Stand p l e R s m args below meth c T locs cells slots) (hx : p.tables.exec = Jvm.exec) (hZ : Z.Warmed39 s.vm) (eT : T.heap = h) (F : Arv Z h a kc .int z vs dv) (hj : ¬ j < 0 ∧ j < z) (i : Nat) (hi : j.toNatClampNeg = i) (hl : i < vs.length)
    {g : JFrame} (hg : g.method = m) {rest : List Value} (hs : g.stack = (.int x) :: .int j :: .ref a :: rest) (hd : decode c.code g.pc = .ok (.iastore, 1)) :
    ∃ T' h', Stand p l e R s m args below meth c T' (locs ++ [⟨a, j.toNatClampNeg⟩]) cells slots ∧ T'.heap = h' ∧ Wr h h' a j.toNatClampNeg (.int x) ∧ Arv Z h' a kc .int z (vs.set i (.int x)) dv ∧ ∀ target, Steps p.tables e below (T'.setTop { g with pc := g.pc + 1, stack := rest }) target → Steps p.tables e below (T.setTop g) target := by
  obtain ⟨c', A, q, S, M, H, G⟩ := F
  obtain ⟨T', h', X', e', W', st⟩ := stI X hx hZ eT A (inb_of S hj) hg hs hd
  exact ⟨T', h', X', e', W', Arv.set A q S M H G rfl W' i hi hl, st⟩
theorem stVJ {Z : State} {h : Heap} {a : Addr} {kc : ClassId} {z j : Int32} {vs : List Value} {dv : Value} {x : Int64} (X : Stand p l e R s m args below meth c T locs cells slots) (hx : p.tables.exec = Jvm.exec) (hZ : Z.Warmed39 s.vm) (eT : T.heap = h) (F : Arv Z h a kc .long z vs dv) (hj : ¬ j < 0 ∧ j < z) (i : Nat) (hi : j.toNatClampNeg = i) (hl : i < vs.length)
    {g : JFrame} (hg : g.method = m) {rest : List Value} (hs : g.stack = (.long x) :: .int j :: .ref a :: rest) (hd : decode c.code g.pc = .ok (.lastore, 1)) :
    ∃ T' h', Stand p l e R s m args below meth c T' (locs ++ [⟨a, j.toNatClampNeg⟩]) cells slots ∧ T'.heap = h' ∧ Wr h h' a j.toNatClampNeg (.long x) ∧ Arv Z h' a kc .long z (vs.set i (.long x)) dv ∧ ∀ target, Steps p.tables e below (T'.setTop { g with pc := g.pc + 1, stack := rest }) target → Steps p.tables e below (T.setTop g) target := by
  obtain ⟨c', A, q, S, M, H, G⟩ := F
  obtain ⟨T', h', X', e', W', st⟩ := stJ X hx hZ eT A (inb_of S hj) hg hs hd
  exact ⟨T', h', X', e', W', Arv.set A q S M H G rfl W' i hi hl, st⟩
theorem stVB {Z : State} {h : Heap} {a : Addr} {kc : ClassId} {z j : Int32} {vs : List Value} {dv : Value} {x : Int32} (X : Stand p l e R s m args below meth c T locs cells slots) (hx : p.tables.exec = Jvm.exec) (hZ : Z.Warmed39 s.vm) (eT : T.heap = h) (F : Arv Z h a kc .byte z vs dv) (hj : ¬ j < 0 ∧ j < z) (i : Nat) (hi : j.toNatClampNeg = i) (hl : i < vs.length)
    {g : JFrame} (hg : g.method = m) {rest : List Value} (hs : g.stack = (.int x) :: .int j :: .ref a :: rest) (hd : decode c.code g.pc = .ok (.bastore, 1)) :
    ∃ T' h', Stand p l e R s m args below meth c T' (locs ++ [⟨a, j.toNatClampNeg⟩]) cells slots ∧ T'.heap = h' ∧ Wr h h' a j.toNatClampNeg (.int (nar .byte x)) ∧ Arv Z h' a kc .byte z (vs.set i (.int (nar .byte x))) dv ∧ ∀ target, Steps p.tables e below (T'.setTop { g with pc := g.pc + 1, stack := rest }) target → Steps p.tables e below (T.setTop g) target := by
  obtain ⟨c', A, q, S, M, H, G⟩ := F
  obtain ⟨T', h', X', e', W', st⟩ := stB X hx hZ eT A (inb_of S hj) hg hs hd
  exact ⟨T', h', X', e', W', Arv.set A q S M H G (fits_nar_byte _) W' i hi hl, st⟩
theorem lnV {Z : State} {h : Heap} {a : Addr} {kc : ClassId} {ty : FieldType} {z : Int32} {vs : List Value} {dv : Value} (X : Stand p l e R s m args below meth c T locs cells slots) (hx : p.tables.exec = Jvm.exec) (hZ : Z.Warmed39 s.vm) (eT : T.heap = h) (F : Arv Z h a kc ty z vs dv)
    {g : JFrame} (hg : g.method = m) {rest : List Value} (hs : g.stack = .ref a :: rest) (hd : decode c.code g.pc = .ok (.arraylength, 1)) (t : State) (k : Steps p.tables e below (T.setTop { g with pc := g.pc + 1, stack := .int z :: rest }) t) : Steps p.tables e below (T.setTop g) t := by
  obtain ⟨c', A, -, S, M, -, -⟩ := F
  refine X.arraylength hx (by rw [eT]; exact A.1) (State.isArrayOf_alike hZ.alike A.2.1) hg hs hd t ?_
  rw [len_of S M]; exact k
theorem gdI (vs : List Int32) (d : Int32) (i : Nat) : (vs.map Value.int).getD i (.int d) = .int (vs.getD i d) := by
  induction vs generalizing i with
  | nil => rfl
  | cons a t ih => cases i with
    | zero => rfl
    | succ i => simpa using ih i
theorem gdJ (vs : List Int64) (d : Int64) (i : Nat) : (vs.map Value.long).getD i (.long d) = .long (vs.getD i d) := by
  induction vs generalizing i with
  | nil => rfl
  | cons a t ih => cases i with
    | zero => rfl
    | succ i => simpa using ih i
end Own
end Jvm.RoadKit
namespace Jvm.Pilot.@@N@@
open Jvm Jvm.ClassFile Sem Op Lib Jvm.Free Jvm.Stand Jvm.LawKit Jvm.RoadKit Bundle Jvm.Pilot.@@N@@.Jvm.D
abbrev own_P (a b : Int) : Prop := (32 ≤ a ∧ a ≠ 92) ∨ a < -19 ∨ (a = -19 ∧ b < -96)
def own_plain (x y : Int32) : Int32 := if own_P x.toInt y.toInt then (1 : Int32) else (0 : Int32)
theorem own_nb (x : Int32) : ((nar .byte (x.toInt8.toInt32)).toInt - x.toInt) % 256 = 0 ∧ -128 ≤ (nar .byte (x.toInt8.toInt32)).toInt ∧ (nar .byte (x.toInt8.toInt32)).toInt < 128 := by
  have a1 := c_i2b x
  have a2 := c_i2b x.toInt8.toInt32
  have e : (nar .byte (x.toInt8.toInt32)).toInt = x.toInt8.toInt32.toInt8.toInt32.toInt := rfl
  rw [e]; omega
theorem own_i2 (x : Int32) : (x &&& (1 : Int32)) = 0 ∨ (x &&& (1 : Int32)) = 1 := by
  have h := c_and x 1 (by decide)
  have z : (1 : Int32).toInt = 1 := rfl
  have g : (x &&& (1 : Int32)).toInt = 0 ∨ (x &&& (1 : Int32)).toInt = 1 := by omega
  rcases g with g | g
  · exact Or.inl (Int32.toInt_inj.mp g)
  · exact Or.inr (Int32.toInt_inj.mp g)
theorem own_or80 (x : Int32) : ((128 : Int32) ||| (x &&& (63 : Int32))).toInt = 128 + x.toInt % 64 := by
  have m := c_mask x 63 6 (by decide) rfl
  have z : (128 : Int32).toInt = 128 := rfl
  have h := c_or 128 (x &&& 63) 6 (by decide) 64 rfl (by decide) (by omega) (by omega)
  have r := rng32 (128 ||| (x &&& 63))
  omega
theorem own_cp (u n t : Int32) (h0 : 0 ≤ u.toInt) : ((((u &&& (15 : Int32)) <<< ((12 : Int32) &&& 31)) ||| ((n &&& (63 : Int32)) <<< ((6 : Int32) &&& 31))) ||| (t &&& (63 : Int32))).toInt = (u.toInt % 16) * 4096 + (n.toInt % 64) * 64 + t.toInt % 64 := by
  have m1 := c_mask u 15 4 (by decide) rfl
  have m2 := c_mask n 63 6 (by decide) rfl
  have m3 := c_mask t 63 6 (by decide) rfl
  have s1 := c_ishl (u &&& 15) 12 12 rfl
  have s2 := c_ishl (n &&& 63) 6 6 rfl
  have r1 := rng32 ((u &&& 15) <<< ((12 : Int32) &&& 31))
  have r2 := rng32 ((n &&& 63) <<< ((6 : Int32) &&& 31))
  have e1 : ((u &&& 15) <<< ((12 : Int32) &&& 31)).toInt = (u.toInt % 16) * 4096 := by omega
  have e2 : ((n &&& 63) <<< ((6 : Int32) &&& 31)).toInt = (n.toInt % 64) * 64 := by omega
  have o1 := c_or ((u &&& 15) <<< ((12 : Int32) &&& 31)) ((n &&& 63) <<< ((6 : Int32) &&& 31)) 12 (by decide) 4096 rfl (by omega) (by omega) (by omega)
  have r3 := rng32 (((u &&& 15) <<< ((12 : Int32) &&& 31)) ||| ((n &&& 63) <<< ((6 : Int32) &&& 31)))
  have e3 : (((u &&& 15) <<< ((12 : Int32) &&& 31)) ||| ((n &&& 63) <<< ((6 : Int32) &&& 31))).toInt = (u.toInt % 16) * 4096 + (n.toInt % 64) * 64 := by omega
  have o2 := c_or (((u &&& 15) <<< ((12 : Int32) &&& 31)) ||| ((n &&& 63) <<< ((6 : Int32) &&& 31))) (t &&& 63) 6 (by decide) 64 rfl (by omega) (by omega) (by omega)
  have r4 := rng32 ((((u &&& 15) <<< ((12 : Int32) &&& 31)) ||| ((n &&& 63) <<< ((6 : Int32) &&& 31))) ||| (t &&& 63))
  omega
def own_maxI (x y : Int32) : Int32 := if x < y then y else x
theorem d5_0 : decode jdk_29_method_65_code 0 = .ok (.iload_n 0, 1) := by decide +kernel
theorem d5_1 : decode jdk_29_method_65_code 1 = .ok (.iload_n 1, 1) := by decide +kernel
theorem d5_2 : decode jdk_29_method_65_code 2 = .ok (.if_icmp .lt 7, 3) := by decide +kernel
theorem d5_9 : decode jdk_29_method_65_code 9 = .ok (.iload_n 1, 1) := by decide +kernel
theorem d5_10 : decode jdk_29_method_65_code 10 = .ok (.ireturn, 1) := by decide +kernel
theorem d5_5 : decode jdk_29_method_65_code 5 = .ok (.iload_n 0, 1) := by decide +kernel
theorem d5_6 : decode jdk_29_method_65_code 6 = .ok (.goto 4, 3) := by decide +kernel
def RM5 : Room := { frames := 0, cells := 0, slots := 0, locals := 0 }
def Q5 (Z : State) (p1 : Int32) (p2 : Int32) (h0 : Heap) (n0 : Nat) (v : Option Value) (h : Heap) (L : List Loc) : Prop := v = some (.int (own_maxI p1 p2)) ∧ Fr n0 L ∧ h = h0
set_option maxRecDepth 65536 in
set_option maxHeartbeats 40000000 in
theorem rm5 (l : Launch) (Z : State) (a0 : Array Value) (hw : ∀ d ∈ tables_1, d.before a0 Z = true) (ws : List Jvm.Cond) (p1 : Int32) (p2 : Int32) (h0 : Heap) (n0 : Nat) (Z0 : n0 ≤ h0.size)  :
    MetFree l (⟨"java/lang/Math", "max", "(II)I"⟩ : MethodName) (head1 (Jvm.Cond.code (⟨"java/lang/Math", "max", "(II)I"⟩ : MethodName) jdk_29_method_65_code 2 (some .int) :: ws) RM5) (fun a U => a = #[(.int p1), (.int p2)] ∧ Z.Warmed39 U.vm ∧ U.heap = h0) (fun _ _ _ _ _ => True) (fun _ U o U' => ∃ v L, o = .returned v ∧ Q5 Z p1 p2 h0 n0 v U'.heap L ∧ FrameEnd U o U' L RM5.cells RM5.slots) := by
  refine met_of (Q := fun v h L => Q5 Z p1 p2 h0 n0 v h L) (Jvm.Free.JP.mathPlain rfl (by decide +kernel)) (fun m => by first | (simp [entryFrame, mkF, argsToLocals, Value.category]; done) | rfl) (Ls := #[.val (.int p1), .val (.int p2)]) ?_
  intro p e s m below meth c T0 QQ hx hZ hby hml hown hnm hret hlk X0 e0 hQ
  have hml : c.maxLocals = 2 := hml
  have hown : s.vm.findClass "java/lang/Math" = some m.cls := hown
  have hnm : meth.name = "max" := hnm
  have hret : meth.sig.returnType = some .int := hret
  have N0 := Fr.nil n0
  have K0 : Keep h0 h0 [] := Keep.refl h0 _
  show GoW p e below QQ (T0.setTop (mkF m 0 #[.val (.int p1), .val (.int p2)] []))
  refine GoW.st (fun t k => XS.iloadN X0.here hx rfl (hb hby d5_0) rfl (XS.iloadN X0.here hx rfl (hb hby d5_1) rfl k)) ?_
  show GoW p e below QQ (T0.setTop (mkF m 2 #[.val (.int p1), .val (.int p2)] [(.int p2), (.int p1)]))
  by_cases hc2 : p1 < p2
  · skip
    refine GoW.st (fun t k => XS.icmpYes X0.here hx rfl (pc0 := 2) (pc' := 9) rfl (hb hby d5_2) rfl (tlt hc2).1 (by decide) (by decide) (XS.iloadN X0.here hx rfl (hb hby d5_9) rfl k)) ?_
    show GoW p e below QQ (T0.setTop (mkF m 10 #[.val (.int p1), .val (.int p2)] [(.int p2)]))
    have rv : ((some (.int p2)) : Option Value) = some (.int (own_maxI p1 p2)) := by
      rw [own_maxI, if_pos hc2]
      all_goals first | rfl | (simp; done)
    exact GoW.fin X0 (some (.int p2)) (fun q => by rw [hret] at q; cases q) hlk hQ e0 ⟨rv, N0, rfl⟩ (by decide) (by decide) (fun fs hr => retI X0 hx hret (hb hby d5_10) hr)
  · skip
    refine GoW.st (fun t k => XS.icmpNo X0.here hx rfl (hb hby d5_2) rfl (flt hc2).1 (XS.iloadN X0.here hx rfl (hb hby d5_5) rfl (XS.goto X0.here hx rfl (pc0 := 6) (pc' := 10) rfl (hb hby d5_6) (by decide) (by decide) k))) ?_
    show GoW p e below QQ (T0.setTop (mkF m 10 #[.val (.int p1), .val (.int p2)] [(.int p1)]))
    have rv : ((some (.int p1)) : Option Value) = some (.int (own_maxI p1 p2)) := by
      rw [own_maxI, if_neg hc2]
      all_goals first | rfl | (simp; done)
    exact GoW.fin X0 (some (.int p1)) (fun q => by rw [hret] at q; cases q) hlk hQ e0 ⟨rv, N0, rfl⟩ (by decide) (by decide) (fun fs hr => retI X0 hx hret (hb hby d5_10) hr)
theorem pn_0 : plainName "com/example/terseform/terseform/ByteBuilder" = true := by first | (simp [plainName, overriddenIn]; done) | decide +kernel
theorem d6_0 : decode prog_1_method_1_code 0 = .ok (.aload_n 0, 1) := by decide +kernel
theorem d6_1 : decode prog_1_method_1_code 1 = .ok (.invokespecial 1, 3) := by decide +kernel
theorem d6_4 : decode prog_1_method_1_code 4 = .ok (.aload_n 0, 1) := by decide +kernel
theorem d6_5 : decode prog_1_method_1_code 5 = .ok (.iload_n 1, 1) := by decide +kernel
theorem d6_6 : decode prog_1_method_1_code 6 = .ok (.bipush 16, 2) := by decide +kernel
theorem d6_8 : decode prog_1_method_1_code 8 = .ok (.invokestatic 7, 3) := by decide +kernel
theorem pd_0 : parseMethodDescriptor "(II)I" = some ⟨[.int, .int], some .int⟩ := by decide +kernel
theorem d6_11 : decode prog_1_method_1_code 11 = .ok (.newarray .byte, 2) := by decide +kernel
theorem d6_13 : decode prog_1_method_1_code 13 = .ok (.putfield 13, 3) := by decide +kernel
theorem d6_16 : decode prog_1_method_1_code 16 = .ok (.return_, 1) := by decide +kernel
def RM6 : Room := { frames := 1, cells := 1, slots := 64, locals := 14 }
def Q6 (Z : State) (a1 : Addr) (h0 : Heap) (n0 : Nat) (v : Option Value) (h : Heap) (L : List Loc) : Prop := v = none ∧ Fr n0 L ∧ Keep h0 h [a1] ∧ (Exa Z h a1 "com/example/terseform/terseform/ByteBuilder")
set_option maxRecDepth 65536 in
set_option maxHeartbeats 40000000 in
theorem rm6 (l : Launch) (Z : State) (a0 : Array Value) (hw : ∀ d ∈ tables_1, d.before a0 Z = true) (ws : List Jvm.Cond) (a1 : Addr) (h0 : Heap) (n0 : Nat) (Z0 : n0 ≤ h0.size) (pre_E_a1 : Exa Z h0 a1 "com/example/terseform/terseform/ByteBuilder") (pre_F_a1_bytes : Fld Z h0 a1 "com/example/terseform/terseform/ByteBuilder" "bytes" "[B" .null) (pre_g_a1 : n0 ≤ a1) :
    MetFree l (⟨"com/example/terseform/terseform/ByteBuilder", "<init>", "(I)V"⟩ : MethodName) (head1 (Jvm.Cond.code (⟨"com/example/terseform/terseform/ByteBuilder", "<init>", "(I)V"⟩ : MethodName) prog_1_method_1_code 2 none :: ws) RM6) (fun a U => a = #[(.ref a1), (.int (64 : Int32))] ∧ Z.Warmed39 U.vm ∧ U.heap = h0) (fun _ _ _ _ _ => True) (fun _ U o U' => ∃ v L, o = .returned v ∧ Q6 Z a1 h0 n0 v U'.heap L ∧ FrameEnd U o U' L RM6.cells RM6.slots) := by
  refine met_of (Q := fun v h L => Q6 Z a1 h0 n0 v h L) (plainFor_of_name pn_0) (fun m => by first | (simp [entryFrame, mkF, argsToLocals, Value.category]; done) | rfl) (Ls := #[.val (.ref a1), .val (.int (64 : Int32))]) ?_
  intro p e s m below meth c T0 QQ hx hZ hby hml hown hnm hret hlk X0 e0 hQ
  have hml : c.maxLocals = 2 := hml
  have hown : s.vm.findClass "com/example/terseform/terseform/ByteBuilder" = some m.cls := hown
  have hnm : meth.name = "<init>" := hnm
  have hret : meth.sig.returnType = none := hret
  have N0 := Fr.nil n0
  have K0 : Keep h0 h0 [a1] := Keep.refl h0 _
  show GoW p e below QQ (T0.setTop (mkF m 0 #[.val (.ref a1), .val (.int (64 : Int32))] []))
  refine GoW.st (fun t k => XS.aloadN X0.here hx rfl (hb hby d6_0) rfl rfl k) ?_
  show GoW p e below QQ (T0.setTop (mkF m 1 #[.val (.ref a1), .val (.int (64 : Int32))] [(.ref a1)]))
  obtain ⟨T1, X1, e1, st1⟩ := initO X0 hx hZ hown (hw _ (List.mem_of_getElem? (i := 54) rfl)) (hw _ (List.mem_of_getElem? (i := 13) rfl)) (hw _ (List.mem_of_getElem? (i := 14) rfl)) e0 (g := (mkF m 1 #[.val (.ref a1), .val (.int (64 : Int32))] [(.ref a1)])) rfl (by rw [hml]; rfl) rfl (hb hby d6_1) (by decide) (W := 0) (by show 2 * 0 + _ ≤ _; exact Nat.le_of_eq rfl) (by decide)
  refine GoW.st st1 ?_
  show GoW p e below QQ (T1.setTop (mkF m 4 #[.val (.ref a1), .val (.int (64 : Int32))] []))
  refine GoW.st (fun t k => XS.aloadN X1.here hx rfl (hb hby d6_4) rfl rfl (XS.iloadN X1.here hx rfl (hb hby d6_5) rfl (XS.bipush X1.here hx rfl (hb hby d6_6) k))) ?_
  show GoW p e below QQ (T1.setTop (mkF m 8 #[.val (.ref a1), .val (.int (64 : Int32))] [(.int (16 : Int32)), (.int (64 : Int32)), (.ref a1)]))
  obtain ⟨_, _, ⟨T2, zL2, zk2, zn2⟩, -, X2, ⟨Lc2, hQ2, zl2, zy2, zz2⟩, st2⟩ := Jvm.LawKit.callS X1 hx (y := (⟨"java/lang/Math", "max", "(II)I"⟩ : MethodName)) hown (mvT hZ (hw _ (List.mem_of_getElem? (i := 55) rfl))) (mvT hZ (hw _ (List.mem_of_getElem? (i := 39) rfl))) (mvT hZ (hw _ (List.mem_of_getElem? (i := 40) rfl))) (mvT hZ (hw _ (List.mem_of_getElem? (i := 41) rfl))) (by decide) (backOf (W := 1) (rm5 l Z a0 hw [] (64 : Int32) (16 : Int32) h0 n0 (Nat.le_trans Z0 K0.1) ) hZ (hw _ (List.mem_of_getElem? (i := 41) rfl)) (hw _ (List.mem_of_getElem? (i := 40) rfl)) (by decide) (by decide)) (g := (mkF m 8 #[.val (.ref a1), .val (.int (64 : Int32))] [(.int (16 : Int32)), (.int (64 : Int32)), (.ref a1)])) rfl (by rw [hml]; rfl) (argsL := [(.int (64 : Int32)), (.int (16 : Int32))]) (rest := [(.ref a1)]) (lenOf pd_0 rfl) rfl (by show 2 * 0 + _ ≤ _; exact Nat.le_of_eq rfl) (hb hby d6_8) (fun _ _ => ⟨rfl, e1, (by decide : 0 + 0 ≤ _), (by decide : 0 + 0 ≤ _)⟩)
  dsimp only [Pt.U, Pt.locs, Pt.cells, Pt.slots] at X2 zl2 zy2 zz2 st2 hQ2
  subst zl2 zy2 zz2
  obtain ⟨rfl, Nq2, hh2⟩ := hQ2
  have N2 := Fr.app N0 Nq2
  refine GoW.st st2 ?_
  show GoW p e below QQ (T2.setTop (mkF m 11 #[.val (.ref a1), .val (.int (64 : Int32))] [(.int (own_maxI (64 : Int32) (16 : Int32))), (.ref a1)]))
  have e11 : own_maxI (64 : Int32) (16 : Int32) = 64 := by decide
  rw [e11]
  show GoW p e below QQ (T2.setTop (mkF m 11 #[.val (.ref a1), .val (.int (64 : Int32))] [(.int (64 : Int32)), (.ref a1)]))
  obtain ⟨T3, h3, k3, X3, e3, E3, A3, st3⟩ := newP X2 hx hZ (hw _ (List.mem_of_getElem? (i := 0) rfl)) hh2 (g := (mkF m 11 #[.val (.ref a1), .val (.int (64 : Int32))] [(.int (64 : Int32)), (.ref a1)])) rfl (hb hby d6_11) rfl (by decide) (cap := 64) (by decide) (by decide) (by decide) (by decide)
  obtain ⟨b3, g3⟩ : ∃ z, z = h0.size := ⟨_, rfl⟩
  rw [← g3] at A3 st3
  refine GoW.st st3 ?_
  have gg3 : n0 ≤ b3 := Nat.le_trans (Nat.le_trans Z0 K0.1) (Nat.le_of_eq g3.symm)
  have sz3 : h0.size ≤ b3 := Nat.le_trans K0.1 (Nat.le_of_eq g3.symm)
  have ne3_a1 : a1 ≠ b3 := Nat.ne_of_lt (Nat.lt_of_lt_of_le pre_E_a1.lt (Nat.le_of_eq g3.symm))
  have f4_E_a1 : Exa Z h3 a1 "com/example/terseform/terseform/ByteBuilder" := pre_E_a1.ext E3
  have f4_F_a1_bytes : Fld Z h3 a1 "com/example/terseform/terseform/ByteBuilder" "bytes" "[B" .null := pre_F_a1_bytes.ext E3
  have K3 : Keep h0 h3 [a1] := K0.ext E3
  have V3 : Arv Z h3 b3 k3 .byte (64 : Int32) [(.int (0 : Int32)), (.int (0 : Int32)), (.int (0 : Int32)), (.int (0 : Int32)), (.int (0 : Int32)), (.int (0 : Int32)), (.int (0 : Int32)), (.int (0 : Int32)), (.int (0 : Int32)), (.int (0 : Int32)), (.int (0 : Int32)), (.int (0 : Int32)), (.int (0 : Int32)), (.int (0 : Int32)), (.int (0 : Int32)), (.int (0 : Int32)), (.int (0 : Int32)), (.int (0 : Int32)), (.int (0 : Int32)), (.int (0 : Int32)), (.int (0 : Int32)), (.int (0 : Int32)), (.int (0 : Int32)), (.int (0 : Int32)), (.int (0 : Int32)), (.int (0 : Int32)), (.int (0 : Int32)), (.int (0 : Int32)), (.int (0 : Int32)), (.int (0 : Int32)), (.int (0 : Int32)), (.int (0 : Int32)), (.int (0 : Int32)), (.int (0 : Int32)), (.int (0 : Int32)), (.int (0 : Int32)), (.int (0 : Int32)), (.int (0 : Int32)), (.int (0 : Int32)), (.int (0 : Int32)), (.int (0 : Int32)), (.int (0 : Int32)), (.int (0 : Int32)), (.int (0 : Int32)), (.int (0 : Int32)), (.int (0 : Int32)), (.int (0 : Int32)), (.int (0 : Int32)), (.int (0 : Int32)), (.int (0 : Int32)), (.int (0 : Int32)), (.int (0 : Int32)), (.int (0 : Int32)), (.int (0 : Int32)), (.int (0 : Int32)), (.int (0 : Int32)), (.int (0 : Int32)), (.int (0 : Int32)), (.int (0 : Int32)), (.int (0 : Int32)), (.int (0 : Int32)), (.int (0 : Int32)), (.int (0 : Int32)), (.int (0 : Int32))] (.int (0 : Int32)) := (Arv.new A3 (by decide)).pad (pad_rep [] (.int (0 : Int32)) 64)
  show GoW p e below QQ (T3.setTop (mkF m 13 #[.val (.ref a1), .val (.int (64 : Int32))] [(.ref b3), (.ref a1)]))
  obtain ⟨T5, h5, X5, e5, W5, st5⟩ := putF X3 hx hZ hown (host := "") (Or.inl (hw _ (List.mem_of_getElem? (i := 56) rfl))) Via.refl e3 f4_F_a1_bytes f4_E_a1 (Or.inl (hw _ (List.mem_of_getElem? (i := 57) rfl))) (hw _ (List.mem_of_getElem? (i := 49) rfl)) (ty := (.array .byte)) (by decide) rfl rfl (g := (mkF m 13 #[.val (.ref a1), .val (.int (64 : Int32))] [(.ref b3), (.ref a1)])) rfl rfl (hb hby d6_13)
  refine GoW.st st5 ?_
  have f6_E_a1 : Exa Z h5 a1 "com/example/terseform/terseform/ByteBuilder" := f4_E_a1.wr W5
  have f6_F_a1_bytes : Fld Z h5 a1 "com/example/terseform/terseform/ByteBuilder" "bytes" "[B" (.ref b3) := f4_F_a1_bytes.same W5
  have f6_V_b3 : Arv Z h5 b3 k3 .byte (64 : Int32) [(.int (0 : Int32)), (.int (0 : Int32)), (.int (0 : Int32)), (.int (0 : Int32)), (.int (0 : Int32)), (.int (0 : Int32)), (.int (0 : Int32)), (.int (0 : Int32)), (.int (0 : Int32)), (.int (0 : Int32)), (.int (0 : Int32)), (.int (0 : Int32)), (.int (0 : Int32)), (.int (0 : Int32)), (.int (0 : Int32)), (.int (0 : Int32)), (.int (0 : Int32)), (.int (0 : Int32)), (.int (0 : Int32)), (.int (0 : Int32)), (.int (0 : Int32)), (.int (0 : Int32)), (.int (0 : Int32)), (.int (0 : Int32)), (.int (0 : Int32)), (.int (0 : Int32)), (.int (0 : Int32)), (.int (0 : Int32)), (.int (0 : Int32)), (.int (0 : Int32)), (.int (0 : Int32)), (.int (0 : Int32)), (.int (0 : Int32)), (.int (0 : Int32)), (.int (0 : Int32)), (.int (0 : Int32)), (.int (0 : Int32)), (.int (0 : Int32)), (.int (0 : Int32)), (.int (0 : Int32)), (.int (0 : Int32)), (.int (0 : Int32)), (.int (0 : Int32)), (.int (0 : Int32)), (.int (0 : Int32)), (.int (0 : Int32)), (.int (0 : Int32)), (.int (0 : Int32)), (.int (0 : Int32)), (.int (0 : Int32)), (.int (0 : Int32)), (.int (0 : Int32)), (.int (0 : Int32)), (.int (0 : Int32)), (.int (0 : Int32)), (.int (0 : Int32)), (.int (0 : Int32)), (.int (0 : Int32)), (.int (0 : Int32)), (.int (0 : Int32)), (.int (0 : Int32)), (.int (0 : Int32)), (.int (0 : Int32)), (.int (0 : Int32))] (.int (0 : Int32)) := V3.other W5 (Ne.symm ne3_a1)
  have K5 : Keep h0 h5 [a1] := K3.wr W5 (Or.inl (List.mem_of_getElem? (i := 0) rfl))
  have N5 := Fr.snoc X5 N2 pre_g_a1
  show GoW p e below QQ (T5.setTop (mkF m 16 #[.val (.ref a1), .val (.int (64 : Int32))] []))
  exact GoW.fin X5 none (fun _ => rfl) hlk hQ e5 ⟨rfl, N5, K5, f6_E_a1⟩ (by decide) (by decide) (fun fs hr => X5.returnOut hx hret (hb hby d6_16) hr)
theorem pn_1 : plainName "com/example/terseform/terseform/Tape" = true := by first | (simp [plainName, overriddenIn]; done) | decide +kernel
theorem d4_0 : decode prog_23_method_1_code 0 = .ok (.aload_n 0, 1) := by decide +kernel
theorem d4_1 : decode prog_23_method_1_code 1 = .ok (.invokespecial 1, 3) := by decide +kernel
theorem d4_4 : decode prog_23_method_1_code 4 = .ok (.aload_n 0, 1) := by decide +kernel
theorem d4_5 : decode prog_23_method_1_code 5 = .ok (.aload_n 1, 1) := by decide +kernel
theorem d4_6 : decode prog_23_method_1_code 6 = .ok (.putfield 7, 3) := by decide +kernel
theorem d4_9 : decode prog_23_method_1_code 9 = .ok (.bipush 16, 2) := by decide +kernel
theorem d4_11 : decode prog_23_method_1_code 11 = .ok (.aload_n 1, 1) := by decide +kernel
theorem d4_12 : decode prog_23_method_1_code 12 = .ok (.arraylength, 1) := by decide +kernel
theorem d4_13 : decode prog_23_method_1_code 13 = .ok (.bipush 8, 2) := by decide +kernel
theorem d4_15 : decode prog_23_method_1_code 15 = .ok (.idiv, 1) := by decide +kernel
theorem d4_16 : decode prog_23_method_1_code 16 = .ok (.invokestatic 13, 3) := by decide +kernel
theorem d4_19 : decode prog_23_method_1_code 19 = .ok (.istore_n 2, 1) := by decide +kernel
theorem d4_20 : decode prog_23_method_1_code 20 = .ok (.aload_n 0, 1) := by decide +kernel
theorem d4_21 : decode prog_23_method_1_code 21 = .ok (.iload_n 2, 1) := by decide +kernel
theorem d4_22 : decode prog_23_method_1_code 22 = .ok (.newarray .byte, 2) := by decide +kernel
theorem d4_24 : decode prog_23_method_1_code 24 = .ok (.putfield 19, 3) := by decide +kernel
theorem d4_27 : decode prog_23_method_1_code 27 = .ok (.aload_n 0, 1) := by decide +kernel
theorem d4_28 : decode prog_23_method_1_code 28 = .ok (.iload_n 2, 1) := by decide +kernel
theorem d4_29 : decode prog_23_method_1_code 29 = .ok (.newarray .int, 2) := by decide +kernel
theorem d4_31 : decode prog_23_method_1_code 31 = .ok (.putfield 22, 3) := by decide +kernel
theorem d4_34 : decode prog_23_method_1_code 34 = .ok (.aload_n 0, 1) := by decide +kernel
theorem d4_35 : decode prog_23_method_1_code 35 = .ok (.iload_n 2, 1) := by decide +kernel
theorem d4_36 : decode prog_23_method_1_code 36 = .ok (.newarray .int, 2) := by decide +kernel
theorem d4_38 : decode prog_23_method_1_code 38 = .ok (.putfield 26, 3) := by decide +kernel
theorem d4_41 : decode prog_23_method_1_code 41 = .ok (.aload_n 0, 1) := by decide +kernel
theorem d4_42 : decode prog_23_method_1_code 42 = .ok (.new 29, 3) := by decide +kernel
theorem d4_45 : decode prog_23_method_1_code 45 = .ok (.dup, 1) := by decide +kernel
theorem d4_46 : decode prog_23_method_1_code 46 = .ok (.bipush 64, 2) := by decide +kernel
theorem d4_48 : decode prog_23_method_1_code 48 = .ok (.invokespecial 31, 3) := by decide +kernel
theorem pd_1 : parseMethodDescriptor "(I)V" = some ⟨[.int], none⟩ := by decide +kernel
theorem d4_51 : decode prog_23_method_1_code 51 = .ok (.putfield 34, 3) := by decide +kernel
theorem d4_54 : decode prog_23_method_1_code 54 = .ok (.return_, 1) := by decide +kernel
def RM4 : Room := { frames := 2, cells := 5, slots := 114, locals := 29 }
def Q4 (Z : State) (a1 : Addr) (a2 : Addr) (ka : ClassId) (u0 : Int32) (u1 : Int32) (u2 : Int32) (u3 : Int32) (h0 : Heap) (n0 : Nat) (v : Option Value) (h : Heap) (L : List Loc) : Prop := v = none ∧ Fr n0 L ∧ Keep h0 h [a1] ∧ (Exa Z h a1 "com/example/terseform/terseform/Tape")
set_option maxRecDepth 65536 in
set_option maxHeartbeats 40000000 in
theorem rm4 (l : Launch) (Z : State) (a0 : Array Value) (hw : ∀ d ∈ tables_1, d.before a0 Z = true) (ws : List Jvm.Cond) (a1 : Addr) (a2 : Addr) (ka : ClassId) (u0 : Int32) (u1 : Int32) (u2 : Int32) (u3 : Int32) (h0 : Heap) (n0 : Nat) (Z0 : n0 ≤ h0.size) (pre_E_a1 : Exa Z h0 a1 "com/example/terseform/terseform/Tape") (pre_F_a1_source : Fld Z h0 a1 "com/example/terseform/terseform/Tape" "source" "[B" .null) (pre_F_a1_kinds : Fld Z h0 a1 "com/example/terseform/terseform/Tape" "kinds" "[B" .null) (pre_F_a1_firsts : Fld Z h0 a1 "com/example/terseform/terseform/Tape" "firsts" "[I" .null) (pre_F_a1_seconds : Fld Z h0 a1 "com/example/terseform/terseform/Tape" "seconds" "[I" .null) (pre_F_a1_decoded : Fld Z h0 a1 "com/example/terseform/terseform/Tape" "decoded" "Lcom/example/terseform/terseform/ByteBuilder;" .null) (pre_g_a1 : n0 ≤ a1) (pre_V_a2 : Arv Z h0 a2 ka .byte (4 : Int32) [(.int u0), (.int u1), (.int u2), (.int u3)] (.int (0 : Int32))) (pre_a2_a1 : a2 ≠ a1) :
    MetFree l (⟨"com/example/terseform/terseform/Tape", "<init>", "([B)V"⟩ : MethodName) (head1 (Jvm.Cond.code (⟨"com/example/terseform/terseform/Tape", "<init>", "([B)V"⟩ : MethodName) prog_23_method_1_code 3 none :: ws) RM4) (fun a U => a = #[(.ref a1), (.ref a2)] ∧ Z.Warmed39 U.vm ∧ U.heap = h0) (fun _ _ _ _ _ => True) (fun _ U o U' => ∃ v L, o = .returned v ∧ Q4 Z a1 a2 ka u0 u1 u2 u3 h0 n0 v U'.heap L ∧ FrameEnd U o U' L RM4.cells RM4.slots) := by
  refine met_of (Q := fun v h L => Q4 Z a1 a2 ka u0 u1 u2 u3 h0 n0 v h L) (plainFor_of_name pn_1) (fun m => by first | (simp [entryFrame, mkF, argsToLocals, Value.category]; done) | rfl) (Ls := #[.val (.ref a1), .val (.ref a2), .unset]) ?_
  intro p e s m below meth c T0 QQ hx hZ hby hml hown hnm hret hlk X0 e0 hQ
  have hml : c.maxLocals = 3 := hml
  have hown : s.vm.findClass "com/example/terseform/terseform/Tape" = some m.cls := hown
  have hnm : meth.name = "<init>" := hnm
  have hret : meth.sig.returnType = none := hret
  have N0 := Fr.nil n0
  have K0 : Keep h0 h0 [a1] := Keep.refl h0 _
  show GoW p e below QQ (T0.setTop (mkF m 0 #[.val (.ref a1), .val (.ref a2), .unset] []))
  refine GoW.st (fun t k => XS.aloadN X0.here hx rfl (hb hby d4_0) rfl rfl k) ?_
  show GoW p e below QQ (T0.setTop (mkF m 1 #[.val (.ref a1), .val (.ref a2), .unset] [(.ref a1)]))
  obtain ⟨T1, X1, e1, st1⟩ := initO X0 hx hZ hown (hw _ (List.mem_of_getElem? (i := 35) rfl)) (hw _ (List.mem_of_getElem? (i := 13) rfl)) (hw _ (List.mem_of_getElem? (i := 14) rfl)) e0 (g := (mkF m 1 #[.val (.ref a1), .val (.ref a2), .unset] [(.ref a1)])) rfl (by rw [hml]; rfl) rfl (hb hby d4_1) (by decide) (W := 0) (by show 2 * 0 + _ ≤ _; exact Nat.le_of_eq rfl) (by decide)
  refine GoW.st st1 ?_
  show GoW p e below QQ (T1.setTop (mkF m 4 #[.val (.ref a1), .val (.ref a2), .unset] []))
  refine GoW.st (fun t k => XS.aloadN X1.here hx rfl (hb hby d4_4) rfl rfl (XS.aloadN X1.here hx rfl (hb hby d4_5) rfl rfl k)) ?_
  show GoW p e below QQ (T1.setTop (mkF m 6 #[.val (.ref a1), .val (.ref a2), .unset] [(.ref a2), (.ref a1)]))
  obtain ⟨T2, h2, X2, e2, W2, st2⟩ := putF X1 hx hZ hown (host := "") (Or.inl (hw _ (List.mem_of_getElem? (i := 36) rfl))) Via.refl e1 pre_F_a1_source pre_E_a1 (Or.inr ⟨(hw _ (List.mem_of_getElem? (i := 37) rfl)), rfl, hnm⟩) (hw _ (List.mem_of_getElem? (i := 30) rfl)) (ty := (.array .byte)) (by decide) rfl rfl (g := (mkF m 6 #[.val (.ref a1), .val (.ref a2), .unset] [(.ref a2), (.ref a1)])) rfl rfl (hb hby d4_6)
  refine GoW.st st2 ?_
  have f3_E_a1 : Exa Z h2 a1 "com/example/terseform/terseform/Tape" := pre_E_a1.wr W2
  have f3_F_a1_source : Fld Z h2 a1 "com/example/terseform/terseform/Tape" "source" "[B" (.ref a2) := pre_F_a1_source.same W2
  have f3_F_a1_kinds : Fld Z h2 a1 "com/example/terseform/terseform/Tape" "kinds" "[B" .null := pre_F_a1_kinds.other W2 (Or.inr (slot_ne (Or.inl (hw _ (List.mem_of_getElem? (i := 43) rfl))) (Or.inr (hw _ (List.mem_of_getElem? (i := 37) rfl))) (by decide) (t := (.array .byte)) (t' := (.array .byte)) (by decide) (by decide)))
  have f3_F_a1_firsts : Fld Z h2 a1 "com/example/terseform/terseform/Tape" "firsts" "[I" .null := pre_F_a1_firsts.other W2 (Or.inr (slot_ne (Or.inl (hw _ (List.mem_of_getElem? (i := 45) rfl))) (Or.inr (hw _ (List.mem_of_getElem? (i := 37) rfl))) (by decide) (t := (.array .int)) (t' := (.array .byte)) (by decide) (by decide)))
  have f3_F_a1_seconds : Fld Z h2 a1 "com/example/terseform/terseform/Tape" "seconds" "[I" .null := pre_F_a1_seconds.other W2 (Or.inr (slot_ne (Or.inl (hw _ (List.mem_of_getElem? (i := 47) rfl))) (Or.inr (hw _ (List.mem_of_getElem? (i := 37) rfl))) (by decide) (t := (.array .int)) (t' := (.array .byte)) (by decide) (by decide)))
  have f3_F_a1_decoded : Fld Z h2 a1 "com/example/terseform/terseform/Tape" "decoded" "Lcom/example/terseform/terseform/ByteBuilder;" .null := pre_F_a1_decoded.other W2 (Or.inr (slot_ne (Or.inr (hw _ (List.mem_of_getElem? (i := 59) rfl))) (Or.inr (hw _ (List.mem_of_getElem? (i := 37) rfl))) (by decide) (t := (.object "com/example/terseform/terseform/ByteBuilder")) (t' := (.array .byte)) (by decide) (by decide)))
  have f3_V_a2 : Arv Z h2 a2 ka .byte (4 : Int32) [(.int u0), (.int u1), (.int u2), (.int u3)] (.int (0 : Int32)) := pre_V_a2.other W2 pre_a2_a1
  have K2 : Keep h0 h2 [a1] := K0.wr W2 (Or.inl (List.mem_of_getElem? (i := 0) rfl))
  have N2 := Fr.snoc X2 N0 pre_g_a1
  show GoW p e below QQ (T2.setTop (mkF m 9 #[.val (.ref a1), .val (.ref a2), .unset] []))
  refine GoW.st (fun t k => XS.bipush X2.here hx rfl (hb hby d4_9) (XS.aloadN X2.here hx rfl (hb hby d4_11) rfl rfl (lnV X2 hx hZ e2 f3_V_a2 (g := (mkF m 12 #[.val (.ref a1), .val (.ref a2), .unset] [(.ref a2), (.int (16 : Int32))])) rfl rfl (hb hby d4_12) t (XS.bipush X2.here hx rfl (hb hby d4_13) (XS.idiv X2.here hx rfl (hb hby d4_15) rfl (by decide) k))))) ?_
  show GoW p e below QQ (T2.setTop (mkF m 16 #[.val (.ref a1), .val (.ref a2), .unset] [(.int (0 : Int32)), (.int (16 : Int32))]))
  obtain ⟨_, _, ⟨T4, zL4, zk4, zn4⟩, -, X4, ⟨Lc4, hQ4, zl4, zy4, zz4⟩, st4⟩ := Jvm.LawKit.callS X2 hx (y := (⟨"java/lang/Math", "max", "(II)I"⟩ : MethodName)) hown (mvT hZ (hw _ (List.mem_of_getElem? (i := 38) rfl))) (mvT hZ (hw _ (List.mem_of_getElem? (i := 39) rfl))) (mvT hZ (hw _ (List.mem_of_getElem? (i := 40) rfl))) (mvT hZ (hw _ (List.mem_of_getElem? (i := 41) rfl))) (by decide) (backOf (W := 0) (rm5 l Z a0 hw [] (16 : Int32) (0 : Int32) h2 n0 (Nat.le_trans Z0 K2.1) ) hZ (hw _ (List.mem_of_getElem? (i := 41) rfl)) (hw _ (List.mem_of_getElem? (i := 40) rfl)) (by decide) (by decide)) (g := (mkF m 16 #[.val (.ref a1), .val (.ref a2), .unset] [(.int (0 : Int32)), (.int (16 : Int32))])) rfl (by rw [hml]; rfl) (argsL := [(.int (16 : Int32)), (.int (0 : Int32))]) (rest := []) (lenOf pd_0 rfl) rfl (by show 2 * 0 + _ ≤ _; exact Nat.le_of_eq rfl) (hb hby d4_16) (fun _ _ => ⟨rfl, e2, (by decide : 0 + 0 ≤ _), (by decide : 0 + 0 ≤ _)⟩)
  dsimp only [Pt.U, Pt.locs, Pt.cells, Pt.slots] at X4 zl4 zy4 zz4 st4 hQ4
  subst zl4 zy4 zz4
  obtain ⟨rfl, Nq4, hh4⟩ := hQ4
  have N4 := Fr.app N2 Nq4
  refine GoW.st st4 ?_
  show GoW p e below QQ (T4.setTop (mkF m 19 #[.val (.ref a1), .val (.ref a2), .unset] [(.int (own_maxI (16 : Int32) (0 : Int32)))]))
  refine GoW.st (fun t k => XS.istoreN X4.here hx rfl (hb hby d4_19) rfl (l' := #[.val (.ref a1), .val (.ref a2), .val (.int (own_maxI (16 : Int32) (0 : Int32)))]) rfl k) ?_
  show GoW p e below QQ (T4.setTop (mkF m 20 #[.val (.ref a1), .val (.ref a2), .val (.int (own_maxI (16 : Int32) (0 : Int32)))] []))
  generalize hv19 : (own_maxI (16 : Int32) (0 : Int32)) = v19
  obtain rfl : v19 = (16 : Int32) := by rw [← hv19]; decide
  show GoW p e below QQ (T4.setTop (mkF m 20 #[.val (.ref a1), .val (.ref a2), .val (.int (16 : Int32))] []))
  refine GoW.st (fun t k => XS.aloadN X4.here hx rfl (hb hby d4_20) rfl rfl (XS.iloadN X4.here hx rfl (hb hby d4_21) rfl k)) ?_
  show GoW p e below QQ (T4.setTop (mkF m 22 #[.val (.ref a1), .val (.ref a2), .val (.int (16 : Int32))] [(.int (16 : Int32)), (.ref a1)]))
  obtain ⟨T5, h5, k5, X5, e5, E5, A5, st5⟩ := newP X4 hx hZ (hw _ (List.mem_of_getElem? (i := 0) rfl)) hh4 (g := (mkF m 22 #[.val (.ref a1), .val (.ref a2), .val (.int (16 : Int32))] [(.int (16 : Int32)), (.ref a1)])) rfl (hb hby d4_22) rfl (by decide) (cap := 16) (by decide) (by decide) (by decide) (by decide)
  obtain ⟨b5, g5⟩ : ∃ z, z = h2.size := ⟨_, rfl⟩
  rw [← g5] at A5 st5
  refine GoW.st st5 ?_
  have gg5 : n0 ≤ b5 := Nat.le_trans (Nat.le_trans Z0 K2.1) (Nat.le_of_eq g5.symm)
  have sz5 : h0.size ≤ b5 := Nat.le_trans K2.1 (Nat.le_of_eq g5.symm)
  have ne5_a1 : a1 ≠ b5 := Nat.ne_of_lt (Nat.lt_of_lt_of_le f3_E_a1.lt (Nat.le_of_eq g5.symm))
  have ne5_a2 : a2 ≠ b5 := Nat.ne_of_lt (Nat.lt_of_lt_of_le f3_V_a2.lt (Nat.le_of_eq g5.symm))
  have f6_E_a1 : Exa Z h5 a1 "com/example/terseform/terseform/Tape" := f3_E_a1.ext E5
  have f6_F_a1_kinds : Fld Z h5 a1 "com/example/terseform/terseform/Tape" "kinds" "[B" .null := f3_F_a1_kinds.ext E5
  have f6_F_a1_firsts : Fld Z h5 a1 "com/example/terseform/terseform/Tape" "firsts" "[I" .null := f3_F_a1_firsts.ext E5
  have f6_F_a1_seconds : Fld Z h5 a1 "com/example/terseform/terseform/Tape" "seconds" "[I" .null := f3_F_a1_seconds.ext E5
  have f6_F_a1_decoded : Fld Z h5 a1 "com/example/terseform/terseform/Tape" "decoded" "Lcom/example/terseform/terseform/ByteBuilder;" .null := f3_F_a1_decoded.ext E5
  have f6_V_a2 : Arv Z h5 a2 ka .byte (4 : Int32) [(.int u0), (.int u1), (.int u2), (.int u3)] (.int (0 : Int32)) := f3_V_a2.ext E5
  have K5 : Keep h0 h5 [a1] := K2.ext E5
  have V5 : Arv Z h5 b5 k5 .byte (16 : Int32) [(.int (0 : Int32)), (.int (0 : Int32)), (.int (0 : Int32)), (.int (0 : Int32)), (.int (0 : Int32)), (.int (0 : Int32)), (.int (0 : Int32)), (.int (0 : Int32)), (.int (0 : Int32)), (.int (0 : Int32)), (.int (0 : Int32)), (.int (0 : Int32)), (.int (0 : Int32)), (.int (0 : Int32)), (.int (0 : Int32)), (.int (0 : Int32))] (.int (0 : Int32)) := (Arv.new A5 (by decide)).pad (pad_rep [] (.int (0 : Int32)) 16)
  show GoW p e below QQ (T5.setTop (mkF m 24 #[.val (.ref a1), .val (.ref a2), .val (.int (16 : Int32))] [(.ref b5), (.ref a1)]))
  obtain ⟨T7, h7, X7, e7, W7, st7⟩ := putF X5 hx hZ hown (host := "") (Or.inl (hw _ (List.mem_of_getElem? (i := 42) rfl))) Via.refl e5 f6_F_a1_kinds f6_E_a1 (Or.inl (hw _ (List.mem_of_getElem? (i := 43) rfl))) (hw _ (List.mem_of_getElem? (i := 30) rfl)) (ty := (.array .byte)) (by decide) rfl rfl (g := (mkF m 24 #[.val (.ref a1), .val (.ref a2), .val (.int (16 : Int32))] [(.ref b5), (.ref a1)])) rfl rfl (hb hby d4_24)
  refine GoW.st st7 ?_
  have f8_E_a1 : Exa Z h7 a1 "com/example/terseform/terseform/Tape" := f6_E_a1.wr W7
  have f8_F_a1_kinds : Fld Z h7 a1 "com/example/terseform/terseform/Tape" "kinds" "[B" (.ref b5) := f6_F_a1_kinds.same W7
  have f8_F_a1_firsts : Fld Z h7 a1 "com/example/terseform/terseform/Tape" "firsts" "[I" .null := f6_F_a1_firsts.other W7 (Or.inr (slot_ne (Or.inl (hw _ (List.mem_of_getElem? (i := 45) rfl))) (Or.inl (hw _ (List.mem_of_getElem? (i := 43) rfl))) (by decide) (t := (.array .int)) (t' := (.array .byte)) (by decide) (by decide)))
  have f8_F_a1_seconds : Fld Z h7 a1 "com/example/terseform/terseform/Tape" "seconds" "[I" .null := f6_F_a1_seconds.other W7 (Or.inr (slot_ne (Or.inl (hw _ (List.mem_of_getElem? (i := 47) rfl))) (Or.inl (hw _ (List.mem_of_getElem? (i := 43) rfl))) (by decide) (t := (.array .int)) (t' := (.array .byte)) (by decide) (by decide)))
  have f8_F_a1_decoded : Fld Z h7 a1 "com/example/terseform/terseform/Tape" "decoded" "Lcom/example/terseform/terseform/ByteBuilder;" .null := f6_F_a1_decoded.other W7 (Or.inr (slot_ne (Or.inr (hw _ (List.mem_of_getElem? (i := 59) rfl))) (Or.inl (hw _ (List.mem_of_getElem? (i := 43) rfl))) (by decide) (t := (.object "com/example/terseform/terseform/ByteBuilder")) (t' := (.array .byte)) (by decide) (by decide)))
  have f8_V_a2 : Arv Z h7 a2 ka .byte (4 : Int32) [(.int u0), (.int u1), (.int u2), (.int u3)] (.int (0 : Int32)) := f6_V_a2.other W7 pre_a2_a1
  have f8_V_b5 : Arv Z h7 b5 k5 .byte (16 : Int32) [(.int (0 : Int32)), (.int (0 : Int32)), (.int (0 : Int32)), (.int (0 : Int32)), (.int (0 : Int32)), (.int (0 : Int32)), (.int (0 : Int32)), (.int (0 : Int32)), (.int (0 : Int32)), (.int (0 : Int32)), (.int (0 : Int32)), (.int (0 : Int32)), (.int (0 : Int32)), (.int (0 : Int32)), (.int (0 : Int32)), (.int (0 : Int32))] (.int (0 : Int32)) := V5.other W7 (Ne.symm ne5_a1)
  have K7 : Keep h0 h7 [a1] := K5.wr W7 (Or.inl (List.mem_of_getElem? (i := 0) rfl))
  have N7 := Fr.snoc X7 N4 pre_g_a1
  show GoW p e below QQ (T7.setTop (mkF m 27 #[.val (.ref a1), .val (.ref a2), .val (.int (16 : Int32))] []))
  refine GoW.st (fun t k => XS.aloadN X7.here hx rfl (hb hby d4_27) rfl rfl (XS.iloadN X7.here hx rfl (hb hby d4_28) rfl k)) ?_
  show GoW p e below QQ (T7.setTop (mkF m 29 #[.val (.ref a1), .val (.ref a2), .val (.int (16 : Int32))] [(.int (16 : Int32)), (.ref a1)]))
  obtain ⟨T9, h9, k9, X9, e9, E9, A9, st9⟩ := newP X7 hx hZ (hw _ (List.mem_of_getElem? (i := 15) rfl)) e7 (g := (mkF m 29 #[.val (.ref a1), .val (.ref a2), .val (.int (16 : Int32))] [(.int (16 : Int32)), (.ref a1)])) rfl (hb hby d4_29) rfl (by decide) (cap := 16) (by decide) (by decide) (by decide) (by decide)
  obtain ⟨b9, g9⟩ : ∃ z, z = h7.size := ⟨_, rfl⟩
  rw [← g9] at A9 st9
  refine GoW.st st9 ?_
  have gg9 : n0 ≤ b9 := Nat.le_trans (Nat.le_trans Z0 K7.1) (Nat.le_of_eq g9.symm)
  have sz9 : h0.size ≤ b9 := Nat.le_trans K7.1 (Nat.le_of_eq g9.symm)
  have ne9_a1 : a1 ≠ b9 := Nat.ne_of_lt (Nat.lt_of_lt_of_le f8_E_a1.lt (Nat.le_of_eq g9.symm))
  have f10_E_a1 : Exa Z h9 a1 "com/example/terseform/terseform/Tape" := f8_E_a1.ext E9
  have f10_F_a1_firsts : Fld Z h9 a1 "com/example/terseform/terseform/Tape" "firsts" "[I" .null := f8_F_a1_firsts.ext E9
  have f10_F_a1_seconds : Fld Z h9 a1 "com/example/terseform/terseform/Tape" "seconds" "[I" .null := f8_F_a1_seconds.ext E9
  have f10_F_a1_decoded : Fld Z h9 a1 "com/example/terseform/terseform/Tape" "decoded" "Lcom/example/terseform/terseform/ByteBuilder;" .null := f8_F_a1_decoded.ext E9
  have K9 : Keep h0 h9 [a1] := K7.ext E9
  have V9 : Arv Z h9 b9 k9 .int (16 : Int32) [(.int (0 : Int32)), (.int (0 : Int32)), (.int (0 : Int32)), (.int (0 : Int32)), (.int (0 : Int32)), (.int (0 : Int32)), (.int (0 : Int32)), (.int (0 : Int32)), (.int (0 : Int32)), (.int (0 : Int32)), (.int (0 : Int32)), (.int (0 : Int32)), (.int (0 : Int32)), (.int (0 : Int32)), (.int (0 : Int32)), (.int (0 : Int32))] (.int (0 : Int32)) := (Arv.new A9 (by decide)).pad (pad_rep [] (.int (0 : Int32)) 16)
  show GoW p e below QQ (T9.setTop (mkF m 31 #[.val (.ref a1), .val (.ref a2), .val (.int (16 : Int32))] [(.ref b9), (.ref a1)]))
  obtain ⟨T11, h11, X11, e11, W11, st11⟩ := putF X9 hx hZ hown (host := "") (Or.inl (hw _ (List.mem_of_getElem? (i := 44) rfl))) Via.refl e9 f10_F_a1_firsts f10_E_a1 (Or.inl (hw _ (List.mem_of_getElem? (i := 45) rfl))) (hw _ (List.mem_of_getElem? (i := 30) rfl)) (ty := (.array .int)) (by decide) rfl rfl (g := (mkF m 31 #[.val (.ref a1), .val (.ref a2), .val (.int (16 : Int32))] [(.ref b9), (.ref a1)])) rfl rfl (hb hby d4_31)
  refine GoW.st st11 ?_
  have f12_E_a1 : Exa Z h11 a1 "com/example/terseform/terseform/Tape" := f10_E_a1.wr W11
  have f12_F_a1_firsts : Fld Z h11 a1 "com/example/terseform/terseform/Tape" "firsts" "[I" (.ref b9) := f10_F_a1_firsts.same W11
  have f12_F_a1_seconds : Fld Z h11 a1 "com/example/terseform/terseform/Tape" "seconds" "[I" .null := f10_F_a1_seconds.other W11 (Or.inr (slot_ne (Or.inl (hw _ (List.mem_of_getElem? (i := 47) rfl))) (Or.inl (hw _ (List.mem_of_getElem? (i := 45) rfl))) (by decide) (t := (.array .int)) (t' := (.array .int)) (by decide) (by decide)))
  have f12_F_a1_decoded : Fld Z h11 a1 "com/example/terseform/terseform/Tape" "decoded" "Lcom/example/terseform/terseform/ByteBuilder;" .null := f10_F_a1_decoded.other W11 (Or.inr (slot_ne (Or.inr (hw _ (List.mem_of_getElem? (i := 59) rfl))) (Or.inl (hw _ (List.mem_of_getElem? (i := 45) rfl))) (by decide) (t := (.object "com/example/terseform/terseform/ByteBuilder")) (t' := (.array .int)) (by decide) (by decide)))
  have f12_V_b9 : Arv Z h11 b9 k9 .int (16 : Int32) [(.int (0 : Int32)), (.int (0 : Int32)), (.int (0 : Int32)), (.int (0 : Int32)), (.int (0 : Int32)), (.int (0 : Int32)), (.int (0 : Int32)), (.int (0 : Int32)), (.int (0 : Int32)), (.int (0 : Int32)), (.int (0 : Int32)), (.int (0 : Int32)), (.int (0 : Int32)), (.int (0 : Int32)), (.int (0 : Int32)), (.int (0 : Int32))] (.int (0 : Int32)) := V9.other W11 (Ne.symm ne9_a1)
  have K11 : Keep h0 h11 [a1] := K9.wr W11 (Or.inl (List.mem_of_getElem? (i := 0) rfl))
  have N11 := Fr.snoc X11 N7 pre_g_a1
  show GoW p e below QQ (T11.setTop (mkF m 34 #[.val (.ref a1), .val (.ref a2), .val (.int (16 : Int32))] []))
  refine GoW.st (fun t k => XS.aloadN X11.here hx rfl (hb hby d4_34) rfl rfl (XS.iloadN X11.here hx rfl (hb hby d4_35) rfl k)) ?_
  show GoW p e below QQ (T11.setTop (mkF m 36 #[.val (.ref a1), .val (.ref a2), .val (.int (16 : Int32))] [(.int (16 : Int32)), (.ref a1)]))
  obtain ⟨T13, h13, k13, X13, e13, E13, A13, st13⟩ := newP X11 hx hZ (hw _ (List.mem_of_getElem? (i := 15) rfl)) e11 (g := (mkF m 36 #[.val (.ref a1), .val (.ref a2), .val (.int (16 : Int32))] [(.int (16 : Int32)), (.ref a1)])) rfl (hb hby d4_36) rfl (by decide) (cap := 16) (by decide) (by decide) (by decide) (by decide)
  obtain ⟨b13, g13⟩ : ∃ z, z = h11.size := ⟨_, rfl⟩
  rw [← g13] at A13 st13
  refine GoW.st st13 ?_
  have gg13 : n0 ≤ b13 := Nat.le_trans (Nat.le_trans Z0 K11.1) (Nat.le_of_eq g13.symm)
  have sz13 : h0.size ≤ b13 := Nat.le_trans K11.1 (Nat.le_of_eq g13.symm)
  have ne13_a1 : a1 ≠ b13 := Nat.ne_of_lt (Nat.lt_of_lt_of_le f12_E_a1.lt (Nat.le_of_eq g13.symm))
  have f14_E_a1 : Exa Z h13 a1 "com/example/terseform/terseform/Tape" := f12_E_a1.ext E13
  have f14_F_a1_seconds : Fld Z h13 a1 "com/example/terseform/terseform/Tape" "seconds" "[I" .null := f12_F_a1_seconds.ext E13
  have f14_F_a1_decoded : Fld Z h13 a1 "com/example/terseform/terseform/Tape" "decoded" "Lcom/example/terseform/terseform/ByteBuilder;" .null := f12_F_a1_decoded.ext E13
  have K13 : Keep h0 h13 [a1] := K11.ext E13
  have V13 : Arv Z h13 b13 k13 .int (16 : Int32) [(.int (0 : Int32)), (.int (0 : Int32)), (.int (0 : Int32)), (.int (0 : Int32)), (.int (0 : Int32)), (.int (0 : Int32)), (.int (0 : Int32)), (.int (0 : Int32)), (.int (0 : Int32)), (.int (0 : Int32)), (.int (0 : Int32)), (.int (0 : Int32)), (.int (0 : Int32)), (.int (0 : Int32)), (.int (0 : Int32)), (.int (0 : Int32))] (.int (0 : Int32)) := (Arv.new A13 (by decide)).pad (pad_rep [] (.int (0 : Int32)) 16)
  show GoW p e below QQ (T13.setTop (mkF m 38 #[.val (.ref a1), .val (.ref a2), .val (.int (16 : Int32))] [(.ref b13), (.ref a1)]))
  obtain ⟨T15, h15, X15, e15, W15, st15⟩ := putF X13 hx hZ hown (host := "") (Or.inl (hw _ (List.mem_of_getElem? (i := 46) rfl))) Via.refl e13 f14_F_a1_seconds f14_E_a1 (Or.inl (hw _ (List.mem_of_getElem? (i := 47) rfl))) (hw _ (List.mem_of_getElem? (i := 30) rfl)) (ty := (.array .int)) (by decide) rfl rfl (g := (mkF m 38 #[.val (.ref a1), .val (.ref a2), .val (.int (16 : Int32))] [(.ref b13), (.ref a1)])) rfl rfl (hb hby d4_38)
  refine GoW.st st15 ?_
  have f16_E_a1 : Exa Z h15 a1 "com/example/terseform/terseform/Tape" := f14_E_a1.wr W15
  have f16_F_a1_seconds : Fld Z h15 a1 "com/example/terseform/terseform/Tape" "seconds" "[I" (.ref b13) := f14_F_a1_seconds.same W15
  have f16_F_a1_decoded : Fld Z h15 a1 "com/example/terseform/terseform/Tape" "decoded" "Lcom/example/terseform/terseform/ByteBuilder;" .null := f14_F_a1_decoded.other W15 (Or.inr (slot_ne (Or.inr (hw _ (List.mem_of_getElem? (i := 59) rfl))) (Or.inl (hw _ (List.mem_of_getElem? (i := 47) rfl))) (by decide) (t := (.object "com/example/terseform/terseform/ByteBuilder")) (t' := (.array .int)) (by decide) (by decide)))
  have f16_V_b13 : Arv Z h15 b13 k13 .int (16 : Int32) [(.int (0 : Int32)), (.int (0 : Int32)), (.int (0 : Int32)), (.int (0 : Int32)), (.int (0 : Int32)), (.int (0 : Int32)), (.int (0 : Int32)), (.int (0 : Int32)), (.int (0 : Int32)), (.int (0 : Int32)), (.int (0 : Int32)), (.int (0 : Int32)), (.int (0 : Int32)), (.int (0 : Int32)), (.int (0 : Int32)), (.int (0 : Int32))] (.int (0 : Int32)) := V13.other W15 (Ne.symm ne13_a1)
  have K15 : Keep h0 h15 [a1] := K13.wr W15 (Or.inl (List.mem_of_getElem? (i := 0) rfl))
  have N15 := Fr.snoc X15 N11 pre_g_a1
  show GoW p e below QQ (T15.setTop (mkF m 41 #[.val (.ref a1), .val (.ref a2), .val (.int (16 : Int32))] []))
  refine GoW.st (fun t k => XS.aloadN X15.here hx rfl (hb hby d4_41) rfl rfl k) ?_
  show GoW p e below QQ (T15.setTop (mkF m 42 #[.val (.ref a1), .val (.ref a2), .val (.int (16 : Int32))] [(.ref a1)]))
  obtain ⟨T17, h17, X17, e17, E17, A17, D17, -, st17⟩ := newO X15 hx hZ hown (hw _ (List.mem_of_getElem? (i := 48) rfl)) (hw _ (List.mem_of_getElem? (i := 49) rfl)) (hw _ (List.mem_of_getElem? (i := 50) rfl)) e15 (g := (mkF m 42 #[.val (.ref a1), .val (.ref a2), .val (.int (16 : Int32))] [(.ref a1)])) rfl (hb hby d4_42) (by decide) (by decide)
  obtain ⟨b17, g17⟩ : ∃ z, z = h15.size := ⟨_, rfl⟩
  rw [← g17] at A17 D17 st17
  refine GoW.st st17 ?_
  have gg17 : n0 ≤ b17 := Nat.le_trans (Nat.le_trans Z0 K15.1) (Nat.le_of_eq g17.symm)
  have sz17 : h0.size ≤ b17 := Nat.le_trans K15.1 (Nat.le_of_eq g17.symm)
  have ne17_a1 : a1 ≠ b17 := Nat.ne_of_lt (Nat.lt_of_lt_of_le f16_E_a1.lt (Nat.le_of_eq g17.symm))
  have f18_E_a1 : Exa Z h17 a1 "com/example/terseform/terseform/Tape" := f16_E_a1.ext E17
  have f18_F_a1_decoded : Fld Z h17 a1 "com/example/terseform/terseform/Tape" "decoded" "Lcom/example/terseform/terseform/ByteBuilder;" .null := f16_F_a1_decoded.ext E17
  have K17 : Keep h0 h17 [a1] := K15.ext E17
  have F17_bytes : Fld Z h17 b17 "com/example/terseform/terseform/ByteBuilder" "bytes" "[B" .null := D17 (Or.inl (hw _ (List.mem_of_getElem? (i := 57) rfl))) (ty := (.array .byte)) (by decide)
  show GoW p e below QQ (T17.setTop (mkF m 45 #[.val (.ref a1), .val (.ref a2), .val (.int (16 : Int32))] [(.ref b17), (.ref a1)]))
  refine GoW.st (fun t k => XS.dup X17.here hx rfl (hb hby d4_45) rfl rfl (XS.bipush X17.here hx rfl (hb hby d4_46) k)) ?_
  show GoW p e below QQ (T17.setTop (mkF m 48 #[.val (.ref a1), .val (.ref a2), .val (.int (16 : Int32))] [(.int (64 : Int32)), (.ref b17), (.ref b17), (.ref a1)]))
  obtain ⟨_, _, ⟨T19, zL19, zk19, zn19⟩, -, X19, ⟨Lc19, hQ19, zl19, zy19, zz19⟩, st19⟩ := X17.specialBack hx (y := (⟨"com/example/terseform/terseform/ByteBuilder", "<init>", "(I)V"⟩ : MethodName)) rfl hown (mvT hZ (hw _ (List.mem_of_getElem? (i := 51) rfl))) (mvT hZ (hw _ (List.mem_of_getElem? (i := 52) rfl))) (mvT hZ (hw _ (List.mem_of_getElem? (i := 53) rfl))) (by decide) (backOf (W := 2) (rm6 l Z a0 hw [] b17 h17 n0 (Nat.le_trans Z0 K17.1) A17 F17_bytes gg17) hZ (hw _ (List.mem_of_getElem? (i := 53) rfl)) (hw _ (List.mem_of_getElem? (i := 50) rfl)) (by decide) (by decide)) (g := (mkF m 48 #[.val (.ref a1), .val (.ref a2), .val (.int (16 : Int32))] [(.int (64 : Int32)), (.ref b17), (.ref b17), (.ref a1)])) rfl (by rw [hml]; rfl) (Steps.refl _) (a := b17) (argsL := [(.int (64 : Int32))]) (rest := [(.ref b17), (.ref a1)]) (lenOf pd_1 rfl) rfl (by show 2 * 0 + _ ≤ _; exact Nat.le_of_eq rfl) (hb hby d4_48) (fun _ _ => ⟨rfl, e17, (by decide : 4 + 1 ≤ _), (by decide : 50 + 64 ≤ _)⟩)
  dsimp only [Pt.U, Pt.locs, Pt.cells, Pt.slots] at X19 zl19 zy19 zz19 st19 hQ19
  subst zl19 zy19 zz19
  obtain ⟨rfl, Nq19, Kq19, p19_0⟩ := hQ19
  have N19 := Fr.app N15 Nq19
  refine GoW.st (fun t k => st19.trans k) ?_
  have f20_E_a1 : Exa Z T19.heap a1 "com/example/terseform/terseform/Tape" := f18_E_a1.keep Kq19
  have f20_F_a1_decoded : Fld Z T19.heap a1 "com/example/terseform/terseform/Tape" "decoded" "Lcom/example/terseform/terseform/ByteBuilder;" .null := f18_F_a1_decoded.keep Kq19 (ninS ne17_a1 nin0)
  have K19 : Keep h0 T19.heap [a1] := K17.trans Kq19 (allS (Or.inr sz17) all0)
  show GoW p e below QQ (T19.setTop (mkF m 51 #[.val (.ref a1), .val (.ref a2), .val (.int (16 : Int32))] [(.ref b17), (.ref a1)]))
  obtain ⟨T21, h21, X21, e21, W21, st21⟩ := putF X19 hx hZ hown (host := "") (Or.inl (hw _ (List.mem_of_getElem? (i := 58) rfl))) Via.refl rfl f20_F_a1_decoded f20_E_a1 (Or.inr ⟨(hw _ (List.mem_of_getElem? (i := 59) rfl)), rfl, hnm⟩) (hw _ (List.mem_of_getElem? (i := 30) rfl)) (ty := (.object "com/example/terseform/terseform/ByteBuilder")) (by decide) rfl rfl (g := (mkF m 51 #[.val (.ref a1), .val (.ref a2), .val (.int (16 : Int32))] [(.ref b17), (.ref a1)])) rfl rfl (hb hby d4_51)
  refine GoW.st st21 ?_
  have f22_E_a1 : Exa Z h21 a1 "com/example/terseform/terseform/Tape" := f20_E_a1.wr W21
  have f22_F_a1_decoded : Fld Z h21 a1 "com/example/terseform/terseform/Tape" "decoded" "Lcom/example/terseform/terseform/ByteBuilder;" (.ref b17) := f20_F_a1_decoded.same W21
  have f22_E_b17 : Exa Z h21 b17 "com/example/terseform/terseform/ByteBuilder" := p19_0.wr W21
  have K21 : Keep h0 h21 [a1] := K19.wr W21 (Or.inl (List.mem_of_getElem? (i := 0) rfl))
  have N21 := Fr.snoc X21 N19 pre_g_a1
  show GoW p e below QQ (T21.setTop (mkF m 54 #[.val (.ref a1), .val (.ref a2), .val (.int (16 : Int32))] []))
  exact GoW.fin X21 none (fun _ => rfl) hlk hQ e21 ⟨rfl, N21, K21, f22_E_a1⟩ (by decide) (by decide) (fun fs hr => X21.returnOut hx hret (hb hby d4_54) hr)
theorem pn_2 : plainName "com/example/terseform/terseform/TextCursor" = true := by first | (simp [plainName, overriddenIn]; done) | decide +kernel
theorem d2_0 : decode prog_33_method_1_code 0 = .ok (.aload_n 0, 1) := by decide +kernel
theorem d2_1 : decode prog_33_method_1_code 1 = .ok (.invokespecial 1, 3) := by decide +kernel
theorem d2_4 : decode prog_33_method_1_code 4 = .ok (.aload_n 0, 1) := by decide +kernel
theorem d2_5 : decode prog_33_method_1_code 5 = .ok (.bipush 16, 2) := by decide +kernel
theorem d2_7 : decode prog_33_method_1_code 7 = .ok (.newarray .int, 2) := by decide +kernel
theorem d2_9 : decode prog_33_method_1_code 9 = .ok (.putfield 7, 3) := by decide +kernel
theorem d2_12 : decode prog_33_method_1_code 12 = .ok (.aload_n 0, 1) := by decide +kernel
theorem d2_13 : decode prog_33_method_1_code 13 = .ok (.bipush 16, 2) := by decide +kernel
theorem d2_15 : decode prog_33_method_1_code 15 = .ok (.anewarray 13, 3) := by decide +kernel
theorem d2_18 : decode prog_33_method_1_code 18 = .ok (.putfield 15, 3) := by decide +kernel
theorem d2_21 : decode prog_33_method_1_code 21 = .ok (.aload_n 0, 1) := by decide +kernel
theorem d2_22 : decode prog_33_method_1_code 22 = .ok (.bipush 16, 2) := by decide +kernel
theorem d2_24 : decode prog_33_method_1_code 24 = .ok (.newarray .long, 2) := by decide +kernel
theorem d2_26 : decode prog_33_method_1_code 26 = .ok (.putfield 19, 3) := by decide +kernel
theorem d2_29 : decode prog_33_method_1_code 29 = .ok (.aload_n 0, 1) := by decide +kernel
theorem d2_30 : decode prog_33_method_1_code 30 = .ok (.aload_n 1, 1) := by decide +kernel
theorem d2_31 : decode prog_33_method_1_code 31 = .ok (.putfield 23, 3) := by decide +kernel
theorem d2_34 : decode prog_33_method_1_code 34 = .ok (.aload_n 0, 1) := by decide +kernel
theorem d2_35 : decode prog_33_method_1_code 35 = .ok (.iload_n 2, 1) := by decide +kernel
theorem d2_36 : decode prog_33_method_1_code 36 = .ok (.putfield 27, 3) := by decide +kernel
theorem d2_39 : decode prog_33_method_1_code 39 = .ok (.aload_n 0, 1) := by decide +kernel
theorem d2_40 : decode prog_33_method_1_code 40 = .ok (.new 31, 3) := by decide +kernel
theorem d2_43 : decode prog_33_method_1_code 43 = .ok (.dup, 1) := by decide +kernel
theorem d2_44 : decode prog_33_method_1_code 44 = .ok (.aload_n 1, 1) := by decide +kernel
theorem d2_45 : decode prog_33_method_1_code 45 = .ok (.invokespecial 33, 3) := by decide +kernel
theorem pd_2 : parseMethodDescriptor "([B)V" = some ⟨[(.array .byte)], none⟩ := by decide +kernel
theorem d2_48 : decode prog_33_method_1_code 48 = .ok (.putfield 36, 3) := by decide +kernel
theorem d2_51 : decode prog_33_method_1_code 51 = .ok (.return_, 1) := by decide +kernel
def RM2 : Room := { frames := 3, cells := 9, slots := 168, locals := 45 }
def Q2 (Z : State) (a1 : Addr) (a2 : Addr) (p3 : Int32) (ka : ClassId) (u0 : Int32) (u1 : Int32) (u2 : Int32) (u3 : Int32) (h0 : Heap) (n0 : Nat) (v : Option Value) (h : Heap) (L : List Loc) : Prop := v = none ∧ Fr n0 L ∧ Keep h0 h [a1] ∧ (Exa Z h a1 "com/example/terseform/terseform/TextCursorIsPlainAtPinLaw") ∧ (Fld Z h a1 "com/example/terseform/terseform/TextCursor" "text" "[B" (.ref a2))
set_option maxRecDepth 65536 in
set_option maxHeartbeats 40000000 in
theorem rm2 (l : Launch) (Z : State) (a0 : Array Value) (hw : ∀ d ∈ tables_1, d.before a0 Z = true) (ws : List Jvm.Cond) (a1 : Addr) (a2 : Addr) (p3 : Int32) (ka : ClassId) (u0 : Int32) (u1 : Int32) (u2 : Int32) (u3 : Int32) (h0 : Heap) (n0 : Nat) (Z0 : n0 ≤ h0.size) (pre_E_a1 : Exa Z h0 a1 "com/example/terseform/terseform/TextCursorIsPlainAtPinLaw") (pre_g_a1 : n0 ≤ a1) (pre_F_a1_open : Fld Z h0 a1 "com/example/terseform/terseform/TextCursor" "open" "[I" .null) (pre_F_a1_names : Fld Z h0 a1 "com/example/terseform/terseform/TextCursor" "names" "[Lcom/example/terseform/terseform/TextCursor$MemberNames;" .null) (pre_F_a1_keySignatures : Fld Z h0 a1 "com/example/terseform/terseform/TextCursor" "keySignatures" "[J" .null) (pre_F_a1_text : Fld Z h0 a1 "com/example/terseform/terseform/TextCursor" "text" "[B" .null) (pre_F_a1_canonical : Fld Z h0 a1 "com/example/terseform/terseform/TextCursor" "canonical" "Z" (.int (0 : Int32))) (pre_F_a1_tape : Fld Z h0 a1 "com/example/terseform/terseform/TextCursor" "tape" "Lcom/example/terseform/terseform/Tape;" .null) (pre_V_a2 : Arv Z h0 a2 ka .byte (4 : Int32) [(.int u0), (.int u1), (.int u2), (.int u3)] (.int (0 : Int32))) (pre_a2_a1 : a2 ≠ a1) :
    MetFree l (⟨"com/example/terseform/terseform/TextCursor", "<init>", "([BZ)V"⟩ : MethodName) (head1 (Jvm.Cond.code (⟨"com/example/terseform/terseform/TextCursor", "<init>", "([BZ)V"⟩ : MethodName) prog_33_method_1_code 3 none :: ws) RM2) (fun a U => a = #[(.ref a1), (.ref a2), (.int p3)] ∧ Z.Warmed39 U.vm ∧ U.heap = h0) (fun _ _ _ _ _ => True) (fun _ U o U' => ∃ v L, o = .returned v ∧ Q2 Z a1 a2 p3 ka u0 u1 u2 u3 h0 n0 v U'.heap L ∧ FrameEnd U o U' L RM2.cells RM2.slots) := by
  refine met_of (Q := fun v h L => Q2 Z a1 a2 p3 ka u0 u1 u2 u3 h0 n0 v h L) (plainFor_of_name pn_2) (fun m => by first | (simp [entryFrame, mkF, argsToLocals, Value.category]; done) | rfl) (Ls := #[.val (.ref a1), .val (.ref a2), .val (.int p3)]) ?_
  intro p e s m below meth c T0 QQ hx hZ hby hml hown hnm hret hlk X0 e0 hQ
  have hml : c.maxLocals = 3 := hml
  have hown : s.vm.findClass "com/example/terseform/terseform/TextCursor" = some m.cls := hown
  have hnm : meth.name = "<init>" := hnm
  have hret : meth.sig.returnType = none := hret
  have N0 := Fr.nil n0
  have K0 : Keep h0 h0 [a1] := Keep.refl h0 _
  show GoW p e below QQ (T0.setTop (mkF m 0 #[.val (.ref a1), .val (.ref a2), .val (.int p3)] []))
  refine GoW.st (fun t k => XS.aloadN X0.here hx rfl (hb hby d2_0) rfl rfl k) ?_
  show GoW p e below QQ (T0.setTop (mkF m 1 #[.val (.ref a1), .val (.ref a2), .val (.int p3)] [(.ref a1)]))
  obtain ⟨T1, X1, e1, st1⟩ := initO X0 hx hZ hown (hw _ (List.mem_of_getElem? (i := 12) rfl)) (hw _ (List.mem_of_getElem? (i := 13) rfl)) (hw _ (List.mem_of_getElem? (i := 14) rfl)) e0 (g := (mkF m 1 #[.val (.ref a1), .val (.ref a2), .val (.int p3)] [(.ref a1)])) rfl (by rw [hml]; rfl) rfl (hb hby d2_1) (by decide) (W := 0) (by show 2 * 0 + _ ≤ _; exact Nat.le_of_eq rfl) (by decide)
  refine GoW.st st1 ?_
  show GoW p e below QQ (T1.setTop (mkF m 4 #[.val (.ref a1), .val (.ref a2), .val (.int p3)] []))
  refine GoW.st (fun t k => XS.aloadN X1.here hx rfl (hb hby d2_4) rfl rfl (XS.bipush X1.here hx rfl (hb hby d2_5) k)) ?_
  show GoW p e below QQ (T1.setTop (mkF m 7 #[.val (.ref a1), .val (.ref a2), .val (.int p3)] [(.int (16 : Int32)), (.ref a1)]))
  obtain ⟨T2, h2, k2, X2, e2, E2, A2, st2⟩ := newP X1 hx hZ (hw _ (List.mem_of_getElem? (i := 15) rfl)) e1 (g := (mkF m 7 #[.val (.ref a1), .val (.ref a2), .val (.int p3)] [(.int (16 : Int32)), (.ref a1)])) rfl (hb hby d2_7) rfl (by decide) (cap := 16) (by decide) (by decide) (by decide) (by decide)
  obtain ⟨b2, g2⟩ : ∃ z, z = h0.size := ⟨_, rfl⟩
  rw [← g2] at A2 st2
  refine GoW.st st2 ?_
  have gg2 : n0 ≤ b2 := Nat.le_trans (Nat.le_trans Z0 K0.1) (Nat.le_of_eq g2.symm)
  have sz2 : h0.size ≤ b2 := Nat.le_trans K0.1 (Nat.le_of_eq g2.symm)
  have ne2_a1 : a1 ≠ b2 := Nat.ne_of_lt (Nat.lt_of_lt_of_le pre_E_a1.lt (Nat.le_of_eq g2.symm))
  have ne2_a2 : a2 ≠ b2 := Nat.ne_of_lt (Nat.lt_of_lt_of_le pre_V_a2.lt (Nat.le_of_eq g2.symm))
  have f3_E_a1 : Exa Z h2 a1 "com/example/terseform/terseform/TextCursorIsPlainAtPinLaw" := pre_E_a1.ext E2
  have f3_F_a1_open : Fld Z h2 a1 "com/example/terseform/terseform/TextCursor" "open" "[I" .null := pre_F_a1_open.ext E2
  have f3_F_a1_names : Fld Z h2 a1 "com/example/terseform/terseform/TextCursor" "names" "[Lcom/example/terseform/terseform/TextCursor$MemberNames;" .null := pre_F_a1_names.ext E2
  have f3_F_a1_keySignatures : Fld Z h2 a1 "com/example/terseform/terseform/TextCursor" "keySignatures" "[J" .null := pre_F_a1_keySignatures.ext E2
  have f3_F_a1_text : Fld Z h2 a1 "com/example/terseform/terseform/TextCursor" "text" "[B" .null := pre_F_a1_text.ext E2
  have f3_F_a1_canonical : Fld Z h2 a1 "com/example/terseform/terseform/TextCursor" "canonical" "Z" (.int (0 : Int32)) := pre_F_a1_canonical.ext E2
  have f3_F_a1_tape : Fld Z h2 a1 "com/example/terseform/terseform/TextCursor" "tape" "Lcom/example/terseform/terseform/Tape;" .null := pre_F_a1_tape.ext E2
  have f3_V_a2 : Arv Z h2 a2 ka .byte (4 : Int32) [(.int u0), (.int u1), (.int u2), (.int u3)] (.int (0 : Int32)) := pre_V_a2.ext E2
  have K2 : Keep h0 h2 [a1] := K0.ext E2
  have V2 : Arv Z h2 b2 k2 .int (16 : Int32) [(.int (0 : Int32)), (.int (0 : Int32)), (.int (0 : Int32)), (.int (0 : Int32)), (.int (0 : Int32)), (.int (0 : Int32)), (.int (0 : Int32)), (.int (0 : Int32)), (.int (0 : Int32)), (.int (0 : Int32)), (.int (0 : Int32)), (.int (0 : Int32)), (.int (0 : Int32)), (.int (0 : Int32)), (.int (0 : Int32)), (.int (0 : Int32))] (.int (0 : Int32)) := (Arv.new A2 (by decide)).pad (pad_rep [] (.int (0 : Int32)) 16)
  show GoW p e below QQ (T2.setTop (mkF m 9 #[.val (.ref a1), .val (.ref a2), .val (.int p3)] [(.ref b2), (.ref a1)]))
  obtain ⟨T4, h4, X4, e4, W4, st4⟩ := putF X2 hx hZ hown (host := "") (Or.inl (hw _ (List.mem_of_getElem? (i := 16) rfl))) Via.refl e2 f3_F_a1_open f3_E_a1 (Or.inl (hw _ (List.mem_of_getElem? (i := 17) rfl))) (hw _ (List.mem_of_getElem? (i := 2) rfl)) (ty := (.array .int)) (by decide) rfl rfl (g := (mkF m 9 #[.val (.ref a1), .val (.ref a2), .val (.int p3)] [(.ref b2), (.ref a1)])) rfl rfl (hb hby d2_9)
  refine GoW.st st4 ?_
  have f5_E_a1 : Exa Z h4 a1 "com/example/terseform/terseform/TextCursorIsPlainAtPinLaw" := f3_E_a1.wr W4
  have f5_F_a1_open : Fld Z h4 a1 "com/example/terseform/terseform/TextCursor" "open" "[I" (.ref b2) := f3_F_a1_open.same W4
  have f5_F_a1_names : Fld Z h4 a1 "com/example/terseform/terseform/TextCursor" "names" "[Lcom/example/terseform/terseform/TextCursor$MemberNames;" .null := f3_F_a1_names.other W4 (Or.inr (slot_ne (Or.inl (hw _ (List.mem_of_getElem? (i := 21) rfl))) (Or.inl (hw _ (List.mem_of_getElem? (i := 17) rfl))) (by decide) (t := (.array (.object "com/example/terseform/terseform/TextCursor$MemberNames"))) (t' := (.array .int)) (by decide) (by decide)))
  have f5_F_a1_keySignatures : Fld Z h4 a1 "com/example/terseform/terseform/TextCursor" "keySignatures" "[J" .null := f3_F_a1_keySignatures.other W4 (Or.inr (slot_ne (Or.inl (hw _ (List.mem_of_getElem? (i := 24) rfl))) (Or.inl (hw _ (List.mem_of_getElem? (i := 17) rfl))) (by decide) (t := (.array .long)) (t' := (.array .int)) (by decide) (by decide)))
  have f5_F_a1_text : Fld Z h4 a1 "com/example/terseform/terseform/TextCursor" "text" "[B" .null := f3_F_a1_text.other W4 (Or.inr (slot_ne (Or.inr (hw _ (List.mem_of_getElem? (i := 26) rfl))) (Or.inl (hw _ (List.mem_of_getElem? (i := 17) rfl))) (by decide) (t := (.array .byte)) (t' := (.array .int)) (by decide) (by decide)))
  have f5_F_a1_canonical : Fld Z h4 a1 "com/example/terseform/terseform/TextCursor" "canonical" "Z" (.int (0 : Int32)) := f3_F_a1_canonical.other W4 (Or.inr (slot_ne (Or.inr (hw _ (List.mem_of_getElem? (i := 28) rfl))) (Or.inl (hw _ (List.mem_of_getElem? (i := 17) rfl))) (by decide) (t := .boolean) (t' := (.array .int)) (by decide) (by decide)))
  have f5_F_a1_tape : Fld Z h4 a1 "com/example/terseform/terseform/TextCursor" "tape" "Lcom/example/terseform/terseform/Tape;" .null := f3_F_a1_tape.other W4 (Or.inr (slot_ne (Or.inr (hw _ (List.mem_of_getElem? (i := 61) rfl))) (Or.inl (hw _ (List.mem_of_getElem? (i := 17) rfl))) (by decide) (t := (.object "com/example/terseform/terseform/Tape")) (t' := (.array .int)) (by decide) (by decide)))
  have f5_V_a2 : Arv Z h4 a2 ka .byte (4 : Int32) [(.int u0), (.int u1), (.int u2), (.int u3)] (.int (0 : Int32)) := f3_V_a2.other W4 pre_a2_a1
  have f5_V_b2 : Arv Z h4 b2 k2 .int (16 : Int32) [(.int (0 : Int32)), (.int (0 : Int32)), (.int (0 : Int32)), (.int (0 : Int32)), (.int (0 : Int32)), (.int (0 : Int32)), (.int (0 : Int32)), (.int (0 : Int32)), (.int (0 : Int32)), (.int (0 : Int32)), (.int (0 : Int32)), (.int (0 : Int32)), (.int (0 : Int32)), (.int (0 : Int32)), (.int (0 : Int32)), (.int (0 : Int32))] (.int (0 : Int32)) := V2.other W4 (Ne.symm ne2_a1)
  have K4 : Keep h0 h4 [a1] := K2.wr W4 (Or.inl (List.mem_of_getElem? (i := 0) rfl))
  have N4 := Fr.snoc X4 N0 pre_g_a1
  show GoW p e below QQ (T4.setTop (mkF m 12 #[.val (.ref a1), .val (.ref a2), .val (.int p3)] []))
  refine GoW.st (fun t k => XS.aloadN X4.here hx rfl (hb hby d2_12) rfl rfl (XS.bipush X4.here hx rfl (hb hby d2_13) k)) ?_
  show GoW p e below QQ (T4.setTop (mkF m 15 #[.val (.ref a1), .val (.ref a2), .val (.int p3)] [(.int (16 : Int32)), (.ref a1)]))
  obtain ⟨T6, h6, k6, X6, e6, E6, A6, O6, st6⟩ := newR X4 hx hZ hown (hw _ (List.mem_of_getElem? (i := 18) rfl)) (hw _ (List.mem_of_getElem? (i := 19) rfl)) e4 (g := (mkF m 15 #[.val (.ref a1), .val (.ref a2), .val (.int p3)] [(.int (16 : Int32)), (.ref a1)])) rfl (hb hby d2_15) rfl (by decide) (cap := 16) (by decide) (by decide) (by decide) (by decide)
  obtain ⟨b6, g6⟩ : ∃ z, z = h4.size := ⟨_, rfl⟩
  rw [← g6] at A6 st6
  refine GoW.st st6 ?_
  have gg6 : n0 ≤ b6 := Nat.le_trans (Nat.le_trans Z0 K4.1) (Nat.le_of_eq g6.symm)
  have sz6 : h0.size ≤ b6 := Nat.le_trans K4.1 (Nat.le_of_eq g6.symm)
  have ne6_a1 : a1 ≠ b6 := Nat.ne_of_lt (Nat.lt_of_lt_of_le f5_E_a1.lt (Nat.le_of_eq g6.symm))
  have ne6_a2 : a2 ≠ b6 := Nat.ne_of_lt (Nat.lt_of_lt_of_le f5_V_a2.lt (Nat.le_of_eq g6.symm))
  have f7_E_a1 : Exa Z h6 a1 "com/example/terseform/terseform/TextCursorIsPlainAtPinLaw" := f5_E_a1.ext E6
  have f7_F_a1_names : Fld Z h6 a1 "com/example/terseform/terseform/TextCursor" "names" "[Lcom/example/terseform/terseform/TextCursor$MemberNames;" .null := f5_F_a1_names.ext E6
  have f7_F_a1_keySignatures : Fld Z h6 a1 "com/example/terseform/terseform/TextCursor" "keySignatures" "[J" .null := f5_F_a1_keySignatures.ext E6
  have f7_F_a1_text : Fld Z h6 a1 "com/example/terseform/terseform/TextCursor" "text" "[B" .null := f5_F_a1_text.ext E6
  have f7_F_a1_canonical : Fld Z h6 a1 "com/example/terseform/terseform/TextCursor" "canonical" "Z" (.int (0 : Int32)) := f5_F_a1_canonical.ext E6
  have f7_F_a1_tape : Fld Z h6 a1 "com/example/terseform/terseform/TextCursor" "tape" "Lcom/example/terseform/terseform/Tape;" .null := f5_F_a1_tape.ext E6
  have f7_V_a2 : Arv Z h6 a2 ka .byte (4 : Int32) [(.int u0), (.int u1), (.int u2), (.int u3)] (.int (0 : Int32)) := f5_V_a2.ext E6
  have K6 : Keep h0 h6 [a1] := K4.ext E6
  have V6 : Arv Z h6 b6 k6 (.object "com/example/terseform/terseform/TextCursor$MemberNames") (16 : Int32) [] .null := Arv.new A6 (by decide)
  show GoW p e below QQ (T6.setTop (mkF m 18 #[.val (.ref a1), .val (.ref a2), .val (.int p3)] [(.ref b6), (.ref a1)]))
  obtain ⟨T8, h8, X8, e8, W8, st8⟩ := putF X6 hx hZ hown (host := "") (Or.inl (hw _ (List.mem_of_getElem? (i := 20) rfl))) Via.refl e6 f7_F_a1_names f7_E_a1 (Or.inl (hw _ (List.mem_of_getElem? (i := 21) rfl))) (hw _ (List.mem_of_getElem? (i := 2) rfl)) (ty := (.array (.object "com/example/terseform/terseform/TextCursor$MemberNames"))) (by decide) rfl rfl (g := (mkF m 18 #[.val (.ref a1), .val (.ref a2), .val (.int p3)] [(.ref b6), (.ref a1)])) rfl rfl (hb hby d2_18)
  refine GoW.st st8 ?_
  have f9_E_a1 : Exa Z h8 a1 "com/example/terseform/terseform/TextCursorIsPlainAtPinLaw" := f7_E_a1.wr W8
  have f9_F_a1_names : Fld Z h8 a1 "com/example/terseform/terseform/TextCursor" "names" "[Lcom/example/terseform/terseform/TextCursor$MemberNames;" (.ref b6) := f7_F_a1_names.same W8
  have f9_F_a1_keySignatures : Fld Z h8 a1 "com/example/terseform/terseform/TextCursor" "keySignatures" "[J" .null := f7_F_a1_keySignatures.other W8 (Or.inr (slot_ne (Or.inl (hw _ (List.mem_of_getElem? (i := 24) rfl))) (Or.inl (hw _ (List.mem_of_getElem? (i := 21) rfl))) (by decide) (t := (.array .long)) (t' := (.array (.object "com/example/terseform/terseform/TextCursor$MemberNames"))) (by decide) (by decide)))
  have f9_F_a1_text : Fld Z h8 a1 "com/example/terseform/terseform/TextCursor" "text" "[B" .null := f7_F_a1_text.other W8 (Or.inr (slot_ne (Or.inr (hw _ (List.mem_of_getElem? (i := 26) rfl))) (Or.inl (hw _ (List.mem_of_getElem? (i := 21) rfl))) (by decide) (t := (.array .byte)) (t' := (.array (.object "com/example/terseform/terseform/TextCursor$MemberNames"))) (by decide) (by decide)))
  have f9_F_a1_canonical : Fld Z h8 a1 "com/example/terseform/terseform/TextCursor" "canonical" "Z" (.int (0 : Int32)) := f7_F_a1_canonical.other W8 (Or.inr (slot_ne (Or.inr (hw _ (List.mem_of_getElem? (i := 28) rfl))) (Or.inl (hw _ (List.mem_of_getElem? (i := 21) rfl))) (by decide) (t := .boolean) (t' := (.array (.object "com/example/terseform/terseform/TextCursor$MemberNames"))) (by decide) (by decide)))
  have f9_F_a1_tape : Fld Z h8 a1 "com/example/terseform/terseform/TextCursor" "tape" "Lcom/example/terseform/terseform/Tape;" .null := f7_F_a1_tape.other W8 (Or.inr (slot_ne (Or.inr (hw _ (List.mem_of_getElem? (i := 61) rfl))) (Or.inl (hw _ (List.mem_of_getElem? (i := 21) rfl))) (by decide) (t := (.object "com/example/terseform/terseform/Tape")) (t' := (.array (.object "com/example/terseform/terseform/TextCursor$MemberNames"))) (by decide) (by decide)))
  have f9_V_a2 : Arv Z h8 a2 ka .byte (4 : Int32) [(.int u0), (.int u1), (.int u2), (.int u3)] (.int (0 : Int32)) := f7_V_a2.other W8 pre_a2_a1
  have f9_V_b6 : Arv Z h8 b6 k6 (.object "com/example/terseform/terseform/TextCursor$MemberNames") (16 : Int32) [] .null := V6.other W8 (Ne.symm ne6_a1)
  have K8 : Keep h0 h8 [a1] := K6.wr W8 (Or.inl (List.mem_of_getElem? (i := 0) rfl))
  have N8 := Fr.snoc X8 N4 pre_g_a1
  show GoW p e below QQ (T8.setTop (mkF m 21 #[.val (.ref a1), .val (.ref a2), .val (.int p3)] []))
  refine GoW.st (fun t k => XS.aloadN X8.here hx rfl (hb hby d2_21) rfl rfl (XS.bipush X8.here hx rfl (hb hby d2_22) k)) ?_
  show GoW p e below QQ (T8.setTop (mkF m 24 #[.val (.ref a1), .val (.ref a2), .val (.int p3)] [(.int (16 : Int32)), (.ref a1)]))
  obtain ⟨T10, h10, k10, X10, e10, E10, A10, st10⟩ := newP X8 hx hZ (hw _ (List.mem_of_getElem? (i := 22) rfl)) e8 (g := (mkF m 24 #[.val (.ref a1), .val (.ref a2), .val (.int p3)] [(.int (16 : Int32)), (.ref a1)])) rfl (hb hby d2_24) rfl (by decide) (cap := 16) (by decide) (by decide) (by decide) (by decide)
  obtain ⟨b10, g10⟩ : ∃ z, z = h8.size := ⟨_, rfl⟩
  rw [← g10] at A10 st10
  refine GoW.st st10 ?_
  have gg10 : n0 ≤ b10 := Nat.le_trans (Nat.le_trans Z0 K8.1) (Nat.le_of_eq g10.symm)
  have sz10 : h0.size ≤ b10 := Nat.le_trans K8.1 (Nat.le_of_eq g10.symm)
  have ne10_a1 : a1 ≠ b10 := Nat.ne_of_lt (Nat.lt_of_lt_of_le f9_E_a1.lt (Nat.le_of_eq g10.symm))
  have ne10_a2 : a2 ≠ b10 := Nat.ne_of_lt (Nat.lt_of_lt_of_le f9_V_a2.lt (Nat.le_of_eq g10.symm))
  have f11_E_a1 : Exa Z h10 a1 "com/example/terseform/terseform/TextCursorIsPlainAtPinLaw" := f9_E_a1.ext E10
  have f11_F_a1_keySignatures : Fld Z h10 a1 "com/example/terseform/terseform/TextCursor" "keySignatures" "[J" .null := f9_F_a1_keySignatures.ext E10
  have f11_F_a1_text : Fld Z h10 a1 "com/example/terseform/terseform/TextCursor" "text" "[B" .null := f9_F_a1_text.ext E10
  have f11_F_a1_canonical : Fld Z h10 a1 "com/example/terseform/terseform/TextCursor" "canonical" "Z" (.int (0 : Int32)) := f9_F_a1_canonical.ext E10
  have f11_F_a1_tape : Fld Z h10 a1 "com/example/terseform/terseform/TextCursor" "tape" "Lcom/example/terseform/terseform/Tape;" .null := f9_F_a1_tape.ext E10
  have f11_V_a2 : Arv Z h10 a2 ka .byte (4 : Int32) [(.int u0), (.int u1), (.int u2), (.int u3)] (.int (0 : Int32)) := f9_V_a2.ext E10
  have K10 : Keep h0 h10 [a1] := K8.ext E10
  have V10 : Arv Z h10 b10 k10 .long (16 : Int32) [(.long (0 : Int64)), (.long (0 : Int64)), (.long (0 : Int64)), (.long (0 : Int64)), (.long (0 : Int64)), (.long (0 : Int64)), (.long (0 : Int64)), (.long (0 : Int64)), (.long (0 : Int64)), (.long (0 : Int64)), (.long (0 : Int64)), (.long (0 : Int64)), (.long (0 : Int64)), (.long (0 : Int64)), (.long (0 : Int64)), (.long (0 : Int64))] (.long (0 : Int64)) := (Arv.new A10 (by decide)).pad (pad_rep [] (.long (0 : Int64)) 16)
  show GoW p e below QQ (T10.setTop (mkF m 26 #[.val (.ref a1), .val (.ref a2), .val (.int p3)] [(.ref b10), (.ref a1)]))
  obtain ⟨T12, h12, X12, e12, W12, st12⟩ := putF X10 hx hZ hown (host := "") (Or.inl (hw _ (List.mem_of_getElem? (i := 23) rfl))) Via.refl e10 f11_F_a1_keySignatures f11_E_a1 (Or.inl (hw _ (List.mem_of_getElem? (i := 24) rfl))) (hw _ (List.mem_of_getElem? (i := 2) rfl)) (ty := (.array .long)) (by decide) rfl rfl (g := (mkF m 26 #[.val (.ref a1), .val (.ref a2), .val (.int p3)] [(.ref b10), (.ref a1)])) rfl rfl (hb hby d2_26)
  refine GoW.st st12 ?_
  have f13_E_a1 : Exa Z h12 a1 "com/example/terseform/terseform/TextCursorIsPlainAtPinLaw" := f11_E_a1.wr W12
  have f13_F_a1_keySignatures : Fld Z h12 a1 "com/example/terseform/terseform/TextCursor" "keySignatures" "[J" (.ref b10) := f11_F_a1_keySignatures.same W12
  have f13_F_a1_text : Fld Z h12 a1 "com/example/terseform/terseform/TextCursor" "text" "[B" .null := f11_F_a1_text.other W12 (Or.inr (slot_ne (Or.inr (hw _ (List.mem_of_getElem? (i := 26) rfl))) (Or.inl (hw _ (List.mem_of_getElem? (i := 24) rfl))) (by decide) (t := (.array .byte)) (t' := (.array .long)) (by decide) (by decide)))
  have f13_F_a1_canonical : Fld Z h12 a1 "com/example/terseform/terseform/TextCursor" "canonical" "Z" (.int (0 : Int32)) := f11_F_a1_canonical.other W12 (Or.inr (slot_ne (Or.inr (hw _ (List.mem_of_getElem? (i := 28) rfl))) (Or.inl (hw _ (List.mem_of_getElem? (i := 24) rfl))) (by decide) (t := .boolean) (t' := (.array .long)) (by decide) (by decide)))
  have f13_F_a1_tape : Fld Z h12 a1 "com/example/terseform/terseform/TextCursor" "tape" "Lcom/example/terseform/terseform/Tape;" .null := f11_F_a1_tape.other W12 (Or.inr (slot_ne (Or.inr (hw _ (List.mem_of_getElem? (i := 61) rfl))) (Or.inl (hw _ (List.mem_of_getElem? (i := 24) rfl))) (by decide) (t := (.object "com/example/terseform/terseform/Tape")) (t' := (.array .long)) (by decide) (by decide)))
  have f13_V_a2 : Arv Z h12 a2 ka .byte (4 : Int32) [(.int u0), (.int u1), (.int u2), (.int u3)] (.int (0 : Int32)) := f11_V_a2.other W12 pre_a2_a1
  have f13_V_b10 : Arv Z h12 b10 k10 .long (16 : Int32) [(.long (0 : Int64)), (.long (0 : Int64)), (.long (0 : Int64)), (.long (0 : Int64)), (.long (0 : Int64)), (.long (0 : Int64)), (.long (0 : Int64)), (.long (0 : Int64)), (.long (0 : Int64)), (.long (0 : Int64)), (.long (0 : Int64)), (.long (0 : Int64)), (.long (0 : Int64)), (.long (0 : Int64)), (.long (0 : Int64)), (.long (0 : Int64))] (.long (0 : Int64)) := V10.other W12 (Ne.symm ne10_a1)
  have K12 : Keep h0 h12 [a1] := K10.wr W12 (Or.inl (List.mem_of_getElem? (i := 0) rfl))
  have N12 := Fr.snoc X12 N8 pre_g_a1
  show GoW p e below QQ (T12.setTop (mkF m 29 #[.val (.ref a1), .val (.ref a2), .val (.int p3)] []))
  refine GoW.st (fun t k => XS.aloadN X12.here hx rfl (hb hby d2_29) rfl rfl (XS.aloadN X12.here hx rfl (hb hby d2_30) rfl rfl k)) ?_
  show GoW p e below QQ (T12.setTop (mkF m 31 #[.val (.ref a1), .val (.ref a2), .val (.int p3)] [(.ref a2), (.ref a1)]))
  obtain ⟨T14, h14, X14, e14, W14, st14⟩ := putF X12 hx hZ hown (host := "") (Or.inl (hw _ (List.mem_of_getElem? (i := 25) rfl))) Via.refl e12 f13_F_a1_text f13_E_a1 (Or.inr ⟨(hw _ (List.mem_of_getElem? (i := 26) rfl)), rfl, hnm⟩) (hw _ (List.mem_of_getElem? (i := 2) rfl)) (ty := (.array .byte)) (by decide) rfl rfl (g := (mkF m 31 #[.val (.ref a1), .val (.ref a2), .val (.int p3)] [(.ref a2), (.ref a1)])) rfl rfl (hb hby d2_31)
  refine GoW.st st14 ?_
  have f15_E_a1 : Exa Z h14 a1 "com/example/terseform/terseform/TextCursorIsPlainAtPinLaw" := f13_E_a1.wr W14
  have f15_F_a1_text : Fld Z h14 a1 "com/example/terseform/terseform/TextCursor" "text" "[B" (.ref a2) := f13_F_a1_text.same W14
  have f15_F_a1_canonical : Fld Z h14 a1 "com/example/terseform/terseform/TextCursor" "canonical" "Z" (.int (0 : Int32)) := f13_F_a1_canonical.other W14 (Or.inr (slot_ne (Or.inr (hw _ (List.mem_of_getElem? (i := 28) rfl))) (Or.inr (hw _ (List.mem_of_getElem? (i := 26) rfl))) (by decide) (t := .boolean) (t' := (.array .byte)) (by decide) (by decide)))
  have f15_F_a1_tape : Fld Z h14 a1 "com/example/terseform/terseform/TextCursor" "tape" "Lcom/example/terseform/terseform/Tape;" .null := f13_F_a1_tape.other W14 (Or.inr (slot_ne (Or.inr (hw _ (List.mem_of_getElem? (i := 61) rfl))) (Or.inr (hw _ (List.mem_of_getElem? (i := 26) rfl))) (by decide) (t := (.object "com/example/terseform/terseform/Tape")) (t' := (.array .byte)) (by decide) (by decide)))
  have f15_V_a2 : Arv Z h14 a2 ka .byte (4 : Int32) [(.int u0), (.int u1), (.int u2), (.int u3)] (.int (0 : Int32)) := f13_V_a2.other W14 pre_a2_a1
  have K14 : Keep h0 h14 [a1] := K12.wr W14 (Or.inl (List.mem_of_getElem? (i := 0) rfl))
  have N14 := Fr.snoc X14 N12 pre_g_a1
  show GoW p e below QQ (T14.setTop (mkF m 34 #[.val (.ref a1), .val (.ref a2), .val (.int p3)] []))
  refine GoW.st (fun t k => XS.aloadN X14.here hx rfl (hb hby d2_34) rfl rfl (XS.iloadN X14.here hx rfl (hb hby d2_35) rfl k)) ?_
  show GoW p e below QQ (T14.setTop (mkF m 36 #[.val (.ref a1), .val (.ref a2), .val (.int p3)] [(.int p3), (.ref a1)]))
  obtain ⟨T16, h16, X16, e16, W16, st16⟩ := putFN X14 hx hZ hown (hw _ (List.mem_of_getElem? (i := 27) rfl)) Via.refl e14 f15_F_a1_canonical f15_E_a1 (Or.inr ⟨(hw _ (List.mem_of_getElem? (i := 28) rfl)), rfl, hnm⟩) (hw _ (List.mem_of_getElem? (i := 2) rfl)) (ty := .boolean) (v' := (.int (nar .boolean p3))) (by decide) rfl (fits_nar_bool _) (g := (mkF m 36 #[.val (.ref a1), .val (.ref a2), .val (.int p3)] [(.int p3), (.ref a1)])) rfl rfl (hb hby d2_36)
  refine GoW.st st16 ?_
  have f17_E_a1 : Exa Z h16 a1 "com/example/terseform/terseform/TextCursorIsPlainAtPinLaw" := f15_E_a1.wr W16
  have f17_F_a1_text : Fld Z h16 a1 "com/example/terseform/terseform/TextCursor" "text" "[B" (.ref a2) := f15_F_a1_text.other W16 (Or.inr (slot_ne (Or.inr (hw _ (List.mem_of_getElem? (i := 26) rfl))) (Or.inr (hw _ (List.mem_of_getElem? (i := 28) rfl))) (by decide) (t := (.array .byte)) (t' := .boolean) (by decide) (by decide)))
  have f17_F_a1_canonical : Fld Z h16 a1 "com/example/terseform/terseform/TextCursor" "canonical" "Z" (.int (nar .boolean p3)) := f15_F_a1_canonical.same W16
  have f17_F_a1_tape : Fld Z h16 a1 "com/example/terseform/terseform/TextCursor" "tape" "Lcom/example/terseform/terseform/Tape;" .null := f15_F_a1_tape.other W16 (Or.inr (slot_ne (Or.inr (hw _ (List.mem_of_getElem? (i := 61) rfl))) (Or.inr (hw _ (List.mem_of_getElem? (i := 28) rfl))) (by decide) (t := (.object "com/example/terseform/terseform/Tape")) (t' := .boolean) (by decide) (by decide)))
  have f17_V_a2 : Arv Z h16 a2 ka .byte (4 : Int32) [(.int u0), (.int u1), (.int u2), (.int u3)] (.int (0 : Int32)) := f15_V_a2.other W16 pre_a2_a1
  have K16 : Keep h0 h16 [a1] := K14.wr W16 (Or.inl (List.mem_of_getElem? (i := 0) rfl))
  have N16 := Fr.snoc X16 N14 pre_g_a1
  show GoW p e below QQ (T16.setTop (mkF m 39 #[.val (.ref a1), .val (.ref a2), .val (.int p3)] []))
  refine GoW.st (fun t k => XS.aloadN X16.here hx rfl (hb hby d2_39) rfl rfl k) ?_
  show GoW p e below QQ (T16.setTop (mkF m 40 #[.val (.ref a1), .val (.ref a2), .val (.int p3)] [(.ref a1)]))
  obtain ⟨T18, h18, X18, e18, E18, A18, D18, -, st18⟩ := newO X16 hx hZ hown (hw _ (List.mem_of_getElem? (i := 29) rfl)) (hw _ (List.mem_of_getElem? (i := 30) rfl)) (hw _ (List.mem_of_getElem? (i := 31) rfl)) e16 (g := (mkF m 40 #[.val (.ref a1), .val (.ref a2), .val (.int p3)] [(.ref a1)])) rfl (hb hby d2_40) (by decide) (by decide)
  obtain ⟨b18, g18⟩ : ∃ z, z = h16.size := ⟨_, rfl⟩
  rw [← g18] at A18 D18 st18
  refine GoW.st st18 ?_
  have gg18 : n0 ≤ b18 := Nat.le_trans (Nat.le_trans Z0 K16.1) (Nat.le_of_eq g18.symm)
  have sz18 : h0.size ≤ b18 := Nat.le_trans K16.1 (Nat.le_of_eq g18.symm)
  have ne18_a1 : a1 ≠ b18 := Nat.ne_of_lt (Nat.lt_of_lt_of_le f17_E_a1.lt (Nat.le_of_eq g18.symm))
  have ne18_a2 : a2 ≠ b18 := Nat.ne_of_lt (Nat.lt_of_lt_of_le f17_V_a2.lt (Nat.le_of_eq g18.symm))
  have f19_E_a1 : Exa Z h18 a1 "com/example/terseform/terseform/TextCursorIsPlainAtPinLaw" := f17_E_a1.ext E18
  have f19_F_a1_text : Fld Z h18 a1 "com/example/terseform/terseform/TextCursor" "text" "[B" (.ref a2) := f17_F_a1_text.ext E18
  have f19_F_a1_tape : Fld Z h18 a1 "com/example/terseform/terseform/TextCursor" "tape" "Lcom/example/terseform/terseform/Tape;" .null := f17_F_a1_tape.ext E18
  have f19_V_a2 : Arv Z h18 a2 ka .byte (4 : Int32) [(.int u0), (.int u1), (.int u2), (.int u3)] (.int (0 : Int32)) := f17_V_a2.ext E18
  have K18 : Keep h0 h18 [a1] := K16.ext E18
  have F18_source : Fld Z h18 b18 "com/example/terseform/terseform/Tape" "source" "[B" .null := D18 (Or.inr (hw _ (List.mem_of_getElem? (i := 37) rfl))) (ty := (.array .byte)) (by decide)
  have F18_kinds : Fld Z h18 b18 "com/example/terseform/terseform/Tape" "kinds" "[B" .null := D18 (Or.inl (hw _ (List.mem_of_getElem? (i := 43) rfl))) (ty := (.array .byte)) (by decide)
  have F18_firsts : Fld Z h18 b18 "com/example/terseform/terseform/Tape" "firsts" "[I" .null := D18 (Or.inl (hw _ (List.mem_of_getElem? (i := 45) rfl))) (ty := (.array .int)) (by decide)
  have F18_seconds : Fld Z h18 b18 "com/example/terseform/terseform/Tape" "seconds" "[I" .null := D18 (Or.inl (hw _ (List.mem_of_getElem? (i := 47) rfl))) (ty := (.array .int)) (by decide)
  have F18_decoded : Fld Z h18 b18 "com/example/terseform/terseform/Tape" "decoded" "Lcom/example/terseform/terseform/ByteBuilder;" .null := D18 (Or.inr (hw _ (List.mem_of_getElem? (i := 59) rfl))) (ty := (.object "com/example/terseform/terseform/ByteBuilder")) (by decide)
  show GoW p e below QQ (T18.setTop (mkF m 43 #[.val (.ref a1), .val (.ref a2), .val (.int p3)] [(.ref b18), (.ref a1)]))
  refine GoW.st (fun t k => XS.dup X18.here hx rfl (hb hby d2_43) rfl rfl (XS.aloadN X18.here hx rfl (hb hby d2_44) rfl rfl k)) ?_
  show GoW p e below QQ (T18.setTop (mkF m 45 #[.val (.ref a1), .val (.ref a2), .val (.int p3)] [(.ref a2), (.ref b18), (.ref b18), (.ref a1)]))
  obtain ⟨_, _, ⟨T20, zL20, zk20, zn20⟩, -, X20, ⟨Lc20, hQ20, zl20, zy20, zz20⟩, st20⟩ := X18.specialBack hx (y := (⟨"com/example/terseform/terseform/Tape", "<init>", "([B)V"⟩ : MethodName)) rfl hown (mvT hZ (hw _ (List.mem_of_getElem? (i := 32) rfl))) (mvT hZ (hw _ (List.mem_of_getElem? (i := 33) rfl))) (mvT hZ (hw _ (List.mem_of_getElem? (i := 34) rfl))) (by decide) (backOf (W := 2) (rm4 l Z a0 hw [] b18 a2 ka u0 u1 u2 u3 h18 n0 (Nat.le_trans Z0 K18.1) A18 F18_source F18_kinds F18_firsts F18_seconds F18_decoded gg18 f19_V_a2 ne18_a2) hZ (hw _ (List.mem_of_getElem? (i := 34) rfl)) (hw _ (List.mem_of_getElem? (i := 31) rfl)) (by decide) (by decide)) (g := (mkF m 45 #[.val (.ref a1), .val (.ref a2), .val (.int p3)] [(.ref a2), (.ref b18), (.ref b18), (.ref a1)])) rfl (by rw [hml]; rfl) (Steps.refl _) (a := b18) (argsL := [(.ref a2)]) (rest := [(.ref b18), (.ref a1)]) (lenOf pd_2 rfl) rfl (by show 2 * 0 + _ ≤ _; exact Nat.le_of_eq rfl) (hb hby d2_45) (fun _ _ => ⟨rfl, e18, (by decide : 4 + 5 ≤ _), (by decide : 54 + 114 ≤ _)⟩)
  dsimp only [Pt.U, Pt.locs, Pt.cells, Pt.slots] at X20 zl20 zy20 zz20 st20 hQ20
  subst zl20 zy20 zz20
  obtain ⟨rfl, Nq20, Kq20, p20_0⟩ := hQ20
  have N20 := Fr.app N16 Nq20
  refine GoW.st (fun t k => st20.trans k) ?_
  have f21_E_a1 : Exa Z T20.heap a1 "com/example/terseform/terseform/TextCursorIsPlainAtPinLaw" := f19_E_a1.keep Kq20
  have f21_F_a1_text : Fld Z T20.heap a1 "com/example/terseform/terseform/TextCursor" "text" "[B" (.ref a2) := f19_F_a1_text.keep Kq20 (ninS ne18_a1 nin0)
  have f21_F_a1_tape : Fld Z T20.heap a1 "com/example/terseform/terseform/TextCursor" "tape" "Lcom/example/terseform/terseform/Tape;" .null := f19_F_a1_tape.keep Kq20 (ninS ne18_a1 nin0)
  have f21_V_a2 : Arv Z T20.heap a2 ka .byte (4 : Int32) [(.int u0), (.int u1), (.int u2), (.int u3)] (.int (0 : Int32)) := f19_V_a2.keep Kq20 (ninS ne18_a2 nin0)
  have K20 : Keep h0 T20.heap [a1] := K18.trans Kq20 (allS (Or.inr sz18) all0)
  show GoW p e below QQ (T20.setTop (mkF m 48 #[.val (.ref a1), .val (.ref a2), .val (.int p3)] [(.ref b18), (.ref a1)]))
  obtain ⟨T22, h22, X22, e22, W22, st22⟩ := putF X20 hx hZ hown (host := "") (Or.inl (hw _ (List.mem_of_getElem? (i := 60) rfl))) Via.refl rfl f21_F_a1_tape f21_E_a1 (Or.inr ⟨(hw _ (List.mem_of_getElem? (i := 61) rfl)), rfl, hnm⟩) (hw _ (List.mem_of_getElem? (i := 2) rfl)) (ty := (.object "com/example/terseform/terseform/Tape")) (by decide) rfl rfl (g := (mkF m 48 #[.val (.ref a1), .val (.ref a2), .val (.int p3)] [(.ref b18), (.ref a1)])) rfl rfl (hb hby d2_48)
  refine GoW.st st22 ?_
  have f23_E_a1 : Exa Z h22 a1 "com/example/terseform/terseform/TextCursorIsPlainAtPinLaw" := f21_E_a1.wr W22
  have f23_F_a1_text : Fld Z h22 a1 "com/example/terseform/terseform/TextCursor" "text" "[B" (.ref a2) := f21_F_a1_text.other W22 (Or.inr (slot_ne (Or.inr (hw _ (List.mem_of_getElem? (i := 26) rfl))) (Or.inr (hw _ (List.mem_of_getElem? (i := 61) rfl))) (by decide) (t := (.array .byte)) (t' := (.object "com/example/terseform/terseform/Tape")) (by decide) (by decide)))
  have f23_F_a1_tape : Fld Z h22 a1 "com/example/terseform/terseform/TextCursor" "tape" "Lcom/example/terseform/terseform/Tape;" (.ref b18) := f21_F_a1_tape.same W22
  have f23_V_a2 : Arv Z h22 a2 ka .byte (4 : Int32) [(.int u0), (.int u1), (.int u2), (.int u3)] (.int (0 : Int32)) := f21_V_a2.other W22 pre_a2_a1
  have f23_E_b18 : Exa Z h22 b18 "com/example/terseform/terseform/Tape" := p20_0.wr W22
  have K22 : Keep h0 h22 [a1] := K20.wr W22 (Or.inl (List.mem_of_getElem? (i := 0) rfl))
  have N22 := Fr.snoc X22 N20 pre_g_a1
  show GoW p e below QQ (T22.setTop (mkF m 51 #[.val (.ref a1), .val (.ref a2), .val (.int p3)] []))
  exact GoW.fin X22 none (fun _ => rfl) hlk hQ e22 ⟨rfl, N22, K22, f23_E_a1, f23_F_a1_text⟩ (by decide) (by decide) (fun fs hr => X22.returnOut hx hret (hb hby d2_51) hr)
theorem pn_3 : plainName "com/example/terseform/terseform/TextCursorIsPlainAtPinLaw" = true := by first | (simp [plainName, overriddenIn]; done) | decide +kernel
theorem d1_0 : decode method_1_code 0 = .ok (.aload_n 0, 1) := by decide +kernel
theorem d1_1 : decode method_1_code 1 = .ok (.aload_n 1, 1) := by decide +kernel
theorem d1_2 : decode method_1_code 2 = .ok (.iload_n 2, 1) := by decide +kernel
theorem d1_3 : decode method_1_code 3 = .ok (.invokespecial 1, 3) := by decide +kernel
theorem pd_3 : parseMethodDescriptor "([BZ)V" = some ⟨[(.array .byte), .boolean], none⟩ := by decide +kernel
theorem d1_6 : decode method_1_code 6 = .ok (.return_, 1) := by decide +kernel
def RM1 : Room := { frames := 4, cells := 9, slots := 168, locals := 59 }
def Q1 (Z : State) (a1 : Addr) (a2 : Addr) (p3 : Int32) (ka : ClassId) (u0 : Int32) (u1 : Int32) (u2 : Int32) (u3 : Int32) (h0 : Heap) (n0 : Nat) (v : Option Value) (h : Heap) (L : List Loc) : Prop := v = none ∧ Fr n0 L ∧ Keep h0 h [a1] ∧ (Exa Z h a1 "com/example/terseform/terseform/TextCursorIsPlainAtPinLaw") ∧ (Fld Z h a1 "com/example/terseform/terseform/TextCursor" "text" "[B" (.ref a2))
set_option maxRecDepth 65536 in
set_option maxHeartbeats 40000000 in
theorem rm1 (l : Launch) (Z : State) (a0 : Array Value) (hw : ∀ d ∈ tables_1, d.before a0 Z = true) (ws : List Jvm.Cond) (a1 : Addr) (a2 : Addr) (p3 : Int32) (ka : ClassId) (u0 : Int32) (u1 : Int32) (u2 : Int32) (u3 : Int32) (h0 : Heap) (n0 : Nat) (Z0 : n0 ≤ h0.size) (pre_E_a1 : Exa Z h0 a1 "com/example/terseform/terseform/TextCursorIsPlainAtPinLaw") (pre_g_a1 : n0 ≤ a1) (pre_F_a1_open : Fld Z h0 a1 "com/example/terseform/terseform/TextCursor" "open" "[I" .null) (pre_F_a1_names : Fld Z h0 a1 "com/example/terseform/terseform/TextCursor" "names" "[Lcom/example/terseform/terseform/TextCursor$MemberNames;" .null) (pre_F_a1_keySignatures : Fld Z h0 a1 "com/example/terseform/terseform/TextCursor" "keySignatures" "[J" .null) (pre_F_a1_text : Fld Z h0 a1 "com/example/terseform/terseform/TextCursor" "text" "[B" .null) (pre_F_a1_canonical : Fld Z h0 a1 "com/example/terseform/terseform/TextCursor" "canonical" "Z" (.int (0 : Int32))) (pre_F_a1_tape : Fld Z h0 a1 "com/example/terseform/terseform/TextCursor" "tape" "Lcom/example/terseform/terseform/Tape;" .null) (pre_V_a2 : Arv Z h0 a2 ka .byte (4 : Int32) [(.int u0), (.int u1), (.int u2), (.int u3)] (.int (0 : Int32))) (pre_a2_a1 : a2 ≠ a1) :
    MetFree l (⟨"com/example/terseform/terseform/TextCursorIsPlainAtPinLaw", "<init>", "([BZ)V"⟩ : MethodName) (head1 (Jvm.Cond.code (⟨"com/example/terseform/terseform/TextCursorIsPlainAtPinLaw", "<init>", "([BZ)V"⟩ : MethodName) method_1_code 3 none :: ws) RM1) (fun a U => a = #[(.ref a1), (.ref a2), (.int p3)] ∧ Z.Warmed39 U.vm ∧ U.heap = h0) (fun _ _ _ _ _ => True) (fun _ U o U' => ∃ v L, o = .returned v ∧ Q1 Z a1 a2 p3 ka u0 u1 u2 u3 h0 n0 v U'.heap L ∧ FrameEnd U o U' L RM1.cells RM1.slots) := by
  refine met_of (Q := fun v h L => Q1 Z a1 a2 p3 ka u0 u1 u2 u3 h0 n0 v h L) (plainFor_of_name pn_3) (fun m => by first | (simp [entryFrame, mkF, argsToLocals, Value.category]; done) | rfl) (Ls := #[.val (.ref a1), .val (.ref a2), .val (.int p3)]) ?_
  intro p e s m below meth c T0 QQ hx hZ hby hml hown hnm hret hlk X0 e0 hQ
  have hml : c.maxLocals = 3 := hml
  have hown : s.vm.findClass "com/example/terseform/terseform/TextCursorIsPlainAtPinLaw" = some m.cls := hown
  have hnm : meth.name = "<init>" := hnm
  have hret : meth.sig.returnType = none := hret
  have N0 := Fr.nil n0
  have K0 : Keep h0 h0 [a1] := Keep.refl h0 _
  show GoW p e below QQ (T0.setTop (mkF m 0 #[.val (.ref a1), .val (.ref a2), .val (.int p3)] []))
  refine GoW.st (fun t k => XS.aloadN X0.here hx rfl (hb hby d1_0) rfl rfl (XS.aloadN X0.here hx rfl (hb hby d1_1) rfl rfl (XS.iloadN X0.here hx rfl (hb hby d1_2) rfl k))) ?_
  show GoW p e below QQ (T0.setTop (mkF m 3 #[.val (.ref a1), .val (.ref a2), .val (.int p3)] [(.int p3), (.ref a2), (.ref a1)]))
  obtain ⟨_, _, ⟨T1, zL1, zk1, zn1⟩, -, X1, ⟨Lc1, hQ1, zl1, zy1, zz1⟩, st1⟩ := X0.specialBack hx (y := (⟨"com/example/terseform/terseform/TextCursor", "<init>", "([BZ)V"⟩ : MethodName)) rfl hown (mvT hZ (hw _ (List.mem_of_getElem? (i := 7) rfl))) (mvT hZ (hw _ (List.mem_of_getElem? (i := 8) rfl))) (mvT hZ (hw _ (List.mem_of_getElem? (i := 11) rfl))) (by decide) (backOf (W := 0) (rm2 l Z a0 hw [] a1 a2 p3 ka u0 u1 u2 u3 h0 n0 (Nat.le_trans Z0 K0.1) pre_E_a1 pre_g_a1 pre_F_a1_open pre_F_a1_names pre_F_a1_keySignatures pre_F_a1_text pre_F_a1_canonical pre_F_a1_tape pre_V_a2 pre_a2_a1) hZ (hw _ (List.mem_of_getElem? (i := 11) rfl)) (hw _ (List.mem_of_getElem? (i := 10) rfl)) (by decide) (by decide)) (g := (mkF m 3 #[.val (.ref a1), .val (.ref a2), .val (.int p3)] [(.int p3), (.ref a2), (.ref a1)])) rfl (by rw [hml]; rfl) (Steps.refl _) (a := a1) (argsL := [(.ref a2), (.int p3)]) (rest := []) (lenOf pd_3 rfl) rfl (by show 2 * 0 + _ ≤ _; exact Nat.le_of_eq rfl) (hb hby d1_3) (fun _ _ => ⟨rfl, e0, (by decide : 0 + 9 ≤ _), (by decide : 0 + 168 ≤ _)⟩)
  dsimp only [Pt.U, Pt.locs, Pt.cells, Pt.slots] at X1 zl1 zy1 zz1 st1 hQ1
  subst zl1 zy1 zz1
  obtain ⟨rfl, Nq1, Kq1, p1_0, p1_1⟩ := hQ1
  have N1 := Fr.app N0 Nq1
  refine GoW.st (fun t k => st1.trans k) ?_
  have f2_V_a2 : Arv Z T1.heap a2 ka .byte (4 : Int32) [(.int u0), (.int u1), (.int u2), (.int u3)] (.int (0 : Int32)) := pre_V_a2.keep Kq1 (ninS pre_a2_a1 nin0)
  have K1 : Keep h0 T1.heap [a1] := K0.trans Kq1 (allS (Or.inl (List.mem_of_getElem? (i := 0) rfl)) all0)
  show GoW p e below QQ (T1.setTop (mkF m 6 #[.val (.ref a1), .val (.ref a2), .val (.int p3)] []))
  exact GoW.fin X1 none (fun _ => rfl) hlk hQ rfl ⟨rfl, N1, K1, p1_0, p1_1⟩ (by decide) (by decide) (fun fs hr => X1.returnOut hx hret (hb hby d1_6) hr)
theorem d7_0 : decode prog_33_method_5_code 0 = .ok (.aload_n 0, 1) := by decide +kernel
theorem d7_1 : decode prog_33_method_5_code 1 = .ok (.getfield 23, 3) := by decide +kernel
theorem d7_4 : decode prog_33_method_5_code 4 = .ok (.iload_n 1, 1) := by decide +kernel
theorem d7_5 : decode prog_33_method_5_code 5 = .ok (.baload, 1) := by decide +kernel
theorem d7_6 : decode prog_33_method_5_code 6 = .ok (.istore_n 2, 1) := by decide +kernel
theorem d7_7 : decode prog_33_method_5_code 7 = .ok (.iload_n 2, 1) := by decide +kernel
theorem d7_8 : decode prog_33_method_5_code 8 = .ok (.bipush 32, 2) := by decide +kernel
theorem d7_10 : decode prog_33_method_5_code 10 = .ok (.if_icmp .lt 17, 3) := by decide +kernel
theorem d7_27 : decode prog_33_method_5_code 27 = .ok (.iload_n 2, 1) := by decide +kernel
theorem d7_28 : decode prog_33_method_5_code 28 = .ok (.bipush (-19), 2) := by decide +kernel
theorem d7_30 : decode prog_33_method_5_code 30 = .ok (.if_icmp .lt 22, 3) := by decide +kernel
theorem d7_52 : decode prog_33_method_5_code 52 = .ok (.iconst 1, 1) := by decide +kernel
theorem d7_53 : decode prog_33_method_5_code 53 = .ok (.goto 4, 3) := by decide +kernel
theorem d7_57 : decode prog_33_method_5_code 57 = .ok (.ireturn, 1) := by decide +kernel
theorem d7_33 : decode prog_33_method_5_code 33 = .ok (.iload_n 2, 1) := by decide +kernel
theorem d7_34 : decode prog_33_method_5_code 34 = .ok (.bipush (-19), 2) := by decide +kernel
theorem d7_36 : decode prog_33_method_5_code 36 = .ok (.if_icmp .ne 20, 3) := by decide +kernel
theorem d7_39 : decode prog_33_method_5_code 39 = .ok (.aload_n 0, 1) := by decide +kernel
theorem d7_40 : decode prog_33_method_5_code 40 = .ok (.getfield 23, 3) := by decide +kernel
theorem d7_43 : decode prog_33_method_5_code 43 = .ok (.iload_n 1, 1) := by decide +kernel
theorem d7_44 : decode prog_33_method_5_code 44 = .ok (.iconst 1, 1) := by decide +kernel
theorem d7_45 : decode prog_33_method_5_code 45 = .ok (.iadd, 1) := by decide +kernel
theorem d7_46 : decode prog_33_method_5_code 46 = .ok (.baload, 1) := by decide +kernel
theorem d7_47 : decode prog_33_method_5_code 47 = .ok (.bipush (-96), 2) := by decide +kernel
theorem d7_49 : decode prog_33_method_5_code 49 = .ok (.if_icmp .ge 7, 3) := by decide +kernel
theorem d7_56 : decode prog_33_method_5_code 56 = .ok (.iconst 0, 1) := by decide +kernel
theorem d7_13 : decode prog_33_method_5_code 13 = .ok (.iload_n 2, 1) := by decide +kernel
theorem d7_14 : decode prog_33_method_5_code 14 = .ok (.bipush 92, 2) := by decide +kernel
theorem d7_16 : decode prog_33_method_5_code 16 = .ok (.if_icmp .eq 7, 3) := by decide +kernel
theorem d7_23 : decode prog_33_method_5_code 23 = .ok (.iconst 0, 1) := by decide +kernel
theorem d7_24 : decode prog_33_method_5_code 24 = .ok (.goto 33, 3) := by decide +kernel
theorem d7_19 : decode prog_33_method_5_code 19 = .ok (.iconst 1, 1) := by decide +kernel
theorem d7_20 : decode prog_33_method_5_code 20 = .ok (.goto 37, 3) := by decide +kernel
def RM7_0 : Room := { frames := 0, cells := 0, slots := 0, locals := 0 }
def Q7_0 (Z : State) (a1 : Addr) (a2 : Addr) (ka : ClassId) (u0 : Int32) (u1 : Int32) (u2 : Int32) (u3 : Int32) (h0 : Heap) (n0 : Nat) (v : Option Value) (h : Heap) (L : List Loc) : Prop := v = some (.int (own_plain u0 u1)) ∧ Fr n0 L ∧ h = h0
set_option maxRecDepth 65536 in
set_option maxHeartbeats 40000000 in
theorem rm7_0 (l : Launch) (Z : State) (a0 : Array Value) (hw : ∀ d ∈ tables_1, d.before a0 Z = true) (ws : List Jvm.Cond) (a1 : Addr) (a2 : Addr) (ka : ClassId) (u0 : Int32) (u1 : Int32) (u2 : Int32) (u3 : Int32) (h0 : Heap) (n0 : Nat) (Z0 : n0 ≤ h0.size) (pre_F_a1_text : Fld Z h0 a1 "com/example/terseform/terseform/TextCursor" "text" "[B" (.ref a2)) (pre_V_a2 : Arv Z h0 a2 ka .byte (4 : Int32) [(.int u0), (.int u1), (.int u2), (.int u3)] (.int (0 : Int32))) :
    MetFree l (⟨"com/example/terseform/terseform/TextCursor", "isPlainAt", "(I)Z"⟩ : MethodName) (head1 (Jvm.Cond.code (⟨"com/example/terseform/terseform/TextCursor", "isPlainAt", "(I)Z"⟩ : MethodName) prog_33_method_5_code 3 (some .boolean) :: ws) RM7_0) (fun a U => a = #[(.ref a1), (.int (0 : Int32))] ∧ Z.Warmed39 U.vm ∧ U.heap = h0) (fun _ _ _ _ _ => True) (fun _ U o U' => ∃ v L, o = .returned v ∧ Q7_0 Z a1 a2 ka u0 u1 u2 u3 h0 n0 v U'.heap L ∧ FrameEnd U o U' L RM7_0.cells RM7_0.slots) := by
  refine met_of (Q := fun v h L => Q7_0 Z a1 a2 ka u0 u1 u2 u3 h0 n0 v h L) (plainFor_of_name pn_2) (fun m => by first | (simp [entryFrame, mkF, argsToLocals, Value.category]; done) | rfl) (Ls := #[.val (.ref a1), .val (.int (0 : Int32)), .unset]) ?_
  intro p e s m below meth c T0 QQ hx hZ hby hml hown hnm hret hlk X0 e0 hQ
  have hml : c.maxLocals = 3 := hml
  have hown : s.vm.findClass "com/example/terseform/terseform/TextCursor" = some m.cls := hown
  have hnm : meth.name = "isPlainAt" := hnm
  have hret : meth.sig.returnType = some .boolean := hret
  have N0 := Fr.nil n0
  have K0 : Keep h0 h0 [] := Keep.refl h0 _
  show GoW p e below QQ (T0.setTop (mkF m 0 #[.val (.ref a1), .val (.int (0 : Int32)), .unset] []))
  refine GoW.st (fun t k => XS.aloadN X0.here hx rfl (hb hby d7_0) rfl rfl k) ?_
  show GoW p e below QQ (T0.setTop (mkF m 1 #[.val (.ref a1), .val (.int (0 : Int32)), .unset] [(.ref a1)]))
  obtain ⟨T1, X1, e1, st1⟩ := getF X0 hx hZ hown (host := "") (Or.inl (hw _ (List.mem_of_getElem? (i := 25) rfl))) Via.refl e0 pre_F_a1_text (g := (mkF m 1 #[.val (.ref a1), .val (.int (0 : Int32)), .unset] [(.ref a1)])) rfl rfl (hb hby d7_1)
  refine GoW.st st1 ?_
  show GoW p e below QQ (T1.setTop (mkF m 4 #[.val (.ref a1), .val (.int (0 : Int32)), .unset] [(.ref a2)]))
  refine GoW.st (fun t k => XS.iloadN X1.here hx rfl (hb hby d7_4) rfl (ldVB X1 hx hZ e1 pre_V_a2 (v := (.int u0)) ⟨by decide, by decide⟩ rfl (g := (mkF m 5 #[.val (.ref a1), .val (.int (0 : Int32)), .unset] [(.int (0 : Int32)), (.ref a2)])) rfl rfl (hb hby d7_5) t (XS.istoreN X1.here hx rfl (hb hby d7_6) rfl (l' := #[.val (.ref a1), .val (.int (0 : Int32)), .val (.int u0)]) rfl (XS.iloadN X1.here hx rfl (hb hby d7_7) rfl (XS.bipush X1.here hx rfl (hb hby d7_8) k))))) ?_
  show GoW p e below QQ (T1.setTop (mkF m 10 #[.val (.ref a1), .val (.int (0 : Int32)), .val (.int u0)] [(.int (32 : Int32)), (.int u0)]))
  by_cases hc10 : u0 < (32 : Int32)
  · skip
    refine GoW.st (fun t k => XS.icmpYes X1.here hx rfl (pc0 := 10) (pc' := 27) rfl (hb hby d7_10) rfl (tlt hc10).1 (by decide) (by decide) k) ?_
    show GoW p e below QQ (T1.setTop (mkF m 27 #[.val (.ref a1), .val (.int (0 : Int32)), .val (.int u0)] []))
    have hi10 : u0.toInt < 32 := (Int32.lt_iff_toInt_lt.mp hc10)
    refine GoW.st (fun t k => XS.iloadN X1.here hx rfl (hb hby d7_27) rfl (XS.bipush X1.here hx rfl (hb hby d7_28) k)) ?_
    show GoW p e below QQ (T1.setTop (mkF m 30 #[.val (.ref a1), .val (.int (0 : Int32)), .val (.int u0)] [(.int (-19 : Int32)), (.int u0)]))
    by_cases hc30 : u0 < (-19 : Int32)
    · skip
      refine GoW.st (fun t k => XS.icmpYes X1.here hx rfl (pc0 := 30) (pc' := 52) rfl (hb hby d7_30) rfl (tlt hc30).1 (by decide) (by decide) k) ?_
      show GoW p e below QQ (T1.setTop (mkF m 52 #[.val (.ref a1), .val (.int (0 : Int32)), .val (.int u0)] []))
      have hi30 : u0.toInt < -19 := (Int32.lt_iff_toInt_lt.mp hc30)
      refine GoW.st (fun t k => XS.iconst X1.here hx rfl (hb hby d7_52) (XS.goto X1.here hx rfl (pc0 := 53) (pc' := 57) rfl (hb hby d7_53) (by decide) (by decide) k)) ?_
      show GoW p e below QQ (T1.setTop (mkF m 57 #[.val (.ref a1), .val (.int (0 : Int32)), .val (.int u0)] [(.int (1 : Int32))]))
      have rv : ((some (.int (nar .boolean (1 : Int32)))) : Option Value) = some (.int (own_plain u0 u1)) := by
        rw [own_plain, if_pos (by unfold own_P; omega)]
        all_goals rfl
      exact GoW.fin X1 (some (.int (nar .boolean (1 : Int32)))) (fun q => by rw [hret] at q; cases q) hlk hQ e1 ⟨rv, N0, rfl⟩ (by decide) (by decide) (fun fs hr => retN X1 hx (t := .boolean) hret (by simp) (hb hby d7_57) hr)
    · skip
      refine GoW.st (fun t k => XS.icmpNo X1.here hx rfl (hb hby d7_30) rfl (flt hc30).1 k) ?_
      show GoW p e below QQ (T1.setTop (mkF m 33 #[.val (.ref a1), .val (.int (0 : Int32)), .val (.int u0)] []))
      have hi30 : ¬ (u0.toInt < -19) := (fun q => hc30 (Int32.lt_iff_toInt_lt.mpr q))
      refine GoW.st (fun t k => XS.iloadN X1.here hx rfl (hb hby d7_33) rfl (XS.bipush X1.here hx rfl (hb hby d7_34) k)) ?_
      show GoW p e below QQ (T1.setTop (mkF m 36 #[.val (.ref a1), .val (.int (0 : Int32)), .val (.int u0)] [(.int (-19 : Int32)), (.int u0)]))
      by_cases hc36 : u0 = (-19 : Int32)
      · skip
        refine GoW.st (fun t k => XS.icmpNo X1.here hx rfl (hb hby d7_36) rfl (teq hc36).2 k) ?_
        show GoW p e below QQ (T1.setTop (mkF m 39 #[.val (.ref a1), .val (.int (0 : Int32)), .val (.int u0)] []))
        have hi36 : u0.toInt = -19 := (congrArg Int32.toInt hc36)
        refine GoW.st (fun t k => XS.aloadN X1.here hx rfl (hb hby d7_39) rfl rfl k) ?_
        show GoW p e below QQ (T1.setTop (mkF m 40 #[.val (.ref a1), .val (.int (0 : Int32)), .val (.int u0)] [(.ref a1)]))
        obtain ⟨T2, X2, e2, st2⟩ := getF X1 hx hZ hown (host := "") (Or.inl (hw _ (List.mem_of_getElem? (i := 25) rfl))) Via.refl e1 pre_F_a1_text (g := (mkF m 40 #[.val (.ref a1), .val (.int (0 : Int32)), .val (.int u0)] [(.ref a1)])) rfl rfl (hb hby d7_40)
        refine GoW.st st2 ?_
        show GoW p e below QQ (T2.setTop (mkF m 43 #[.val (.ref a1), .val (.int (0 : Int32)), .val (.int u0)] [(.ref a2)]))
        refine GoW.st (fun t k => XS.iloadN X2.here hx rfl (hb hby d7_43) rfl (XS.iconst X2.here hx rfl (hb hby d7_44) (XS.iadd X2.here hx rfl (hb hby d7_45) rfl (ldVB X2 hx hZ e2 pre_V_a2 (v := (.int u1)) ⟨by decide, by decide⟩ rfl (g := (mkF m 46 #[.val (.ref a1), .val (.int (0 : Int32)), .val (.int u0)] [(.int (1 : Int32)), (.ref a2)])) rfl rfl (hb hby d7_46) t (XS.bipush X2.here hx rfl (hb hby d7_47) k))))) ?_
        show GoW p e below QQ (T2.setTop (mkF m 49 #[.val (.ref a1), .val (.int (0 : Int32)), .val (.int u0)] [(.int (-96 : Int32)), (.int u1)]))
        by_cases hc49 : u1 < (-96 : Int32)
        · skip
          refine GoW.st (fun t k => XS.icmpNo X2.here hx rfl (hb hby d7_49) rfl (tlt hc49).2.1 k) ?_
          show GoW p e below QQ (T2.setTop (mkF m 52 #[.val (.ref a1), .val (.int (0 : Int32)), .val (.int u0)] []))
          have hi49 : u1.toInt < -96 := (Int32.lt_iff_toInt_lt.mp hc49)
          refine GoW.st (fun t k => XS.iconst X2.here hx rfl (hb hby d7_52) (XS.goto X2.here hx rfl (pc0 := 53) (pc' := 57) rfl (hb hby d7_53) (by decide) (by decide) k)) ?_
          show GoW p e below QQ (T2.setTop (mkF m 57 #[.val (.ref a1), .val (.int (0 : Int32)), .val (.int u0)] [(.int (1 : Int32))]))
          have rv : ((some (.int (nar .boolean (1 : Int32)))) : Option Value) = some (.int (own_plain u0 u1)) := by
            rw [own_plain, if_pos (by unfold own_P; omega)]
            all_goals rfl
          exact GoW.fin X2 (some (.int (nar .boolean (1 : Int32)))) (fun q => by rw [hret] at q; cases q) hlk hQ e2 ⟨rv, N0, rfl⟩ (by decide) (by decide) (fun fs hr => retN X2 hx (t := .boolean) hret (by simp) (hb hby d7_57) hr)
        · skip
          refine GoW.st (fun t k => XS.icmpYes X2.here hx rfl (pc0 := 49) (pc' := 56) rfl (hb hby d7_49) rfl (flt hc49).2.1 (by decide) (by decide) k) ?_
          show GoW p e below QQ (T2.setTop (mkF m 56 #[.val (.ref a1), .val (.int (0 : Int32)), .val (.int u0)] []))
          have hi49 : ¬ (u1.toInt < -96) := (fun q => hc49 (Int32.lt_iff_toInt_lt.mpr q))
          refine GoW.st (fun t k => XS.iconst X2.here hx rfl (hb hby d7_56) k) ?_
          show GoW p e below QQ (T2.setTop (mkF m 57 #[.val (.ref a1), .val (.int (0 : Int32)), .val (.int u0)] [(.int (0 : Int32))]))
          have rv : ((some (.int (nar .boolean (0 : Int32)))) : Option Value) = some (.int (own_plain u0 u1)) := by
            rw [own_plain, if_neg (by unfold own_P; omega)]
            all_goals rfl
          exact GoW.fin X2 (some (.int (nar .boolean (0 : Int32)))) (fun q => by rw [hret] at q; cases q) hlk hQ e2 ⟨rv, N0, rfl⟩ (by decide) (by decide) (fun fs hr => retN X2 hx (t := .boolean) hret (by simp) (hb hby d7_57) hr)
      · skip
        refine GoW.st (fun t k => XS.icmpYes X1.here hx rfl (pc0 := 36) (pc' := 56) rfl (hb hby d7_36) rfl (feq hc36).2 (by decide) (by decide) k) ?_
        show GoW p e below QQ (T1.setTop (mkF m 56 #[.val (.ref a1), .val (.int (0 : Int32)), .val (.int u0)] []))
        have hi36 : ¬ (u0.toInt = -19) := (fun q => hc36 (Int32.toInt_inj.mp q))
        refine GoW.st (fun t k => XS.iconst X1.here hx rfl (hb hby d7_56) k) ?_
        show GoW p e below QQ (T1.setTop (mkF m 57 #[.val (.ref a1), .val (.int (0 : Int32)), .val (.int u0)] [(.int (0 : Int32))]))
        have rv : ((some (.int (nar .boolean (0 : Int32)))) : Option Value) = some (.int (own_plain u0 u1)) := by
          rw [own_plain, if_neg (by unfold own_P; omega)]
          all_goals rfl
        exact GoW.fin X1 (some (.int (nar .boolean (0 : Int32)))) (fun q => by rw [hret] at q; cases q) hlk hQ e1 ⟨rv, N0, rfl⟩ (by decide) (by decide) (fun fs hr => retN X1 hx (t := .boolean) hret (by simp) (hb hby d7_57) hr)
  · skip
    refine GoW.st (fun t k => XS.icmpNo X1.here hx rfl (hb hby d7_10) rfl (flt hc10).1 k) ?_
    show GoW p e below QQ (T1.setTop (mkF m 13 #[.val (.ref a1), .val (.int (0 : Int32)), .val (.int u0)] []))
    have hi10 : ¬ (u0.toInt < 32) := (fun q => hc10 (Int32.lt_iff_toInt_lt.mpr q))
    refine GoW.st (fun t k => XS.iloadN X1.here hx rfl (hb hby d7_13) rfl (XS.bipush X1.here hx rfl (hb hby d7_14) k)) ?_
    show GoW p e below QQ (T1.setTop (mkF m 16 #[.val (.ref a1), .val (.int (0 : Int32)), .val (.int u0)] [(.int (92 : Int32)), (.int u0)]))
    by_cases hc16 : u0 = (92 : Int32)
    · skip
      refine GoW.st (fun t k => XS.icmpYes X1.here hx rfl (pc0 := 16) (pc' := 23) rfl (hb hby d7_16) rfl (teq hc16).1 (by decide) (by decide) k) ?_
      show GoW p e below QQ (T1.setTop (mkF m 23 #[.val (.ref a1), .val (.int (0 : Int32)), .val (.int u0)] []))
      have hi16 : u0.toInt = 92 := (congrArg Int32.toInt hc16)
      refine GoW.st (fun t k => XS.iconst X1.here hx rfl (hb hby d7_23) (XS.goto X1.here hx rfl (pc0 := 24) (pc' := 57) rfl (hb hby d7_24) (by decide) (by decide) k)) ?_
      show GoW p e below QQ (T1.setTop (mkF m 57 #[.val (.ref a1), .val (.int (0 : Int32)), .val (.int u0)] [(.int (0 : Int32))]))
      have rv : ((some (.int (nar .boolean (0 : Int32)))) : Option Value) = some (.int (own_plain u0 u1)) := by
        rw [own_plain, if_neg (by unfold own_P; omega)]
        all_goals rfl
      exact GoW.fin X1 (some (.int (nar .boolean (0 : Int32)))) (fun q => by rw [hret] at q; cases q) hlk hQ e1 ⟨rv, N0, rfl⟩ (by decide) (by decide) (fun fs hr => retN X1 hx (t := .boolean) hret (by simp) (hb hby d7_57) hr)
    · skip
      refine GoW.st (fun t k => XS.icmpNo X1.here hx rfl (hb hby d7_16) rfl (feq hc16).1 k) ?_
      show GoW p e below QQ (T1.setTop (mkF m 19 #[.val (.ref a1), .val (.int (0 : Int32)), .val (.int u0)] []))
      have hi16 : ¬ (u0.toInt = 92) := (fun q => hc16 (Int32.toInt_inj.mp q))
      refine GoW.st (fun t k => XS.iconst X1.here hx rfl (hb hby d7_19) (XS.goto X1.here hx rfl (pc0 := 20) (pc' := 57) rfl (hb hby d7_20) (by decide) (by decide) k)) ?_
      show GoW p e below QQ (T1.setTop (mkF m 57 #[.val (.ref a1), .val (.int (0 : Int32)), .val (.int u0)] [(.int (1 : Int32))]))
      have rv : ((some (.int (nar .boolean (1 : Int32)))) : Option Value) = some (.int (own_plain u0 u1)) := by
        rw [own_plain, if_pos (by unfold own_P; omega)]
        all_goals rfl
      exact GoW.fin X1 (some (.int (nar .boolean (1 : Int32)))) (fun q => by rw [hret] at q; cases q) hlk hQ e1 ⟨rv, N0, rfl⟩ (by decide) (by decide) (fun fs hr => retN X1 hx (t := .boolean) hret (by simp) (hb hby d7_57) hr)
def RM7_1 : Room := { frames := 0, cells := 0, slots := 0, locals := 0 }
def Q7_1 (Z : State) (a1 : Addr) (a2 : Addr) (ka : ClassId) (u0 : Int32) (u1 : Int32) (u2 : Int32) (u3 : Int32) (h0 : Heap) (n0 : Nat) (v : Option Value) (h : Heap) (L : List Loc) : Prop := v = some (.int (own_plain u1 u2)) ∧ Fr n0 L ∧ h = h0
set_option maxRecDepth 65536 in
set_option maxHeartbeats 40000000 in
theorem rm7_1 (l : Launch) (Z : State) (a0 : Array Value) (hw : ∀ d ∈ tables_1, d.before a0 Z = true) (ws : List Jvm.Cond) (a1 : Addr) (a2 : Addr) (ka : ClassId) (u0 : Int32) (u1 : Int32) (u2 : Int32) (u3 : Int32) (h0 : Heap) (n0 : Nat) (Z0 : n0 ≤ h0.size) (pre_F_a1_text : Fld Z h0 a1 "com/example/terseform/terseform/TextCursor" "text" "[B" (.ref a2)) (pre_V_a2 : Arv Z h0 a2 ka .byte (4 : Int32) [(.int u0), (.int u1), (.int u2), (.int u3)] (.int (0 : Int32))) :
    MetFree l (⟨"com/example/terseform/terseform/TextCursor", "isPlainAt", "(I)Z"⟩ : MethodName) (head1 (Jvm.Cond.code (⟨"com/example/terseform/terseform/TextCursor", "isPlainAt", "(I)Z"⟩ : MethodName) prog_33_method_5_code 3 (some .boolean) :: ws) RM7_1) (fun a U => a = #[(.ref a1), (.int (1 : Int32))] ∧ Z.Warmed39 U.vm ∧ U.heap = h0) (fun _ _ _ _ _ => True) (fun _ U o U' => ∃ v L, o = .returned v ∧ Q7_1 Z a1 a2 ka u0 u1 u2 u3 h0 n0 v U'.heap L ∧ FrameEnd U o U' L RM7_1.cells RM7_1.slots) := by
  refine met_of (Q := fun v h L => Q7_1 Z a1 a2 ka u0 u1 u2 u3 h0 n0 v h L) (plainFor_of_name pn_2) (fun m => by first | (simp [entryFrame, mkF, argsToLocals, Value.category]; done) | rfl) (Ls := #[.val (.ref a1), .val (.int (1 : Int32)), .unset]) ?_
  intro p e s m below meth c T0 QQ hx hZ hby hml hown hnm hret hlk X0 e0 hQ
  have hml : c.maxLocals = 3 := hml
  have hown : s.vm.findClass "com/example/terseform/terseform/TextCursor" = some m.cls := hown
  have hnm : meth.name = "isPlainAt" := hnm
  have hret : meth.sig.returnType = some .boolean := hret
  have N0 := Fr.nil n0
  have K0 : Keep h0 h0 [] := Keep.refl h0 _
  show GoW p e below QQ (T0.setTop (mkF m 0 #[.val (.ref a1), .val (.int (1 : Int32)), .unset] []))
  refine GoW.st (fun t k => XS.aloadN X0.here hx rfl (hb hby d7_0) rfl rfl k) ?_
  show GoW p e below QQ (T0.setTop (mkF m 1 #[.val (.ref a1), .val (.int (1 : Int32)), .unset] [(.ref a1)]))
  obtain ⟨T1, X1, e1, st1⟩ := getF X0 hx hZ hown (host := "") (Or.inl (hw _ (List.mem_of_getElem? (i := 25) rfl))) Via.refl e0 pre_F_a1_text (g := (mkF m 1 #[.val (.ref a1), .val (.int (1 : Int32)), .unset] [(.ref a1)])) rfl rfl (hb hby d7_1)
  refine GoW.st st1 ?_
  show GoW p e below QQ (T1.setTop (mkF m 4 #[.val (.ref a1), .val (.int (1 : Int32)), .unset] [(.ref a2)]))
  refine GoW.st (fun t k => XS.iloadN X1.here hx rfl (hb hby d7_4) rfl (ldVB X1 hx hZ e1 pre_V_a2 (v := (.int u1)) ⟨by decide, by decide⟩ rfl (g := (mkF m 5 #[.val (.ref a1), .val (.int (1 : Int32)), .unset] [(.int (1 : Int32)), (.ref a2)])) rfl rfl (hb hby d7_5) t (XS.istoreN X1.here hx rfl (hb hby d7_6) rfl (l' := #[.val (.ref a1), .val (.int (1 : Int32)), .val (.int u1)]) rfl (XS.iloadN X1.here hx rfl (hb hby d7_7) rfl (XS.bipush X1.here hx rfl (hb hby d7_8) k))))) ?_
  show GoW p e below QQ (T1.setTop (mkF m 10 #[.val (.ref a1), .val (.int (1 : Int32)), .val (.int u1)] [(.int (32 : Int32)), (.int u1)]))
  by_cases hc10 : u1 < (32 : Int32)
  · skip
    refine GoW.st (fun t k => XS.icmpYes X1.here hx rfl (pc0 := 10) (pc' := 27) rfl (hb hby d7_10) rfl (tlt hc10).1 (by decide) (by decide) k) ?_
    show GoW p e below QQ (T1.setTop (mkF m 27 #[.val (.ref a1), .val (.int (1 : Int32)), .val (.int u1)] []))
    have hi10 : u1.toInt < 32 := (Int32.lt_iff_toInt_lt.mp hc10)
    refine GoW.st (fun t k => XS.iloadN X1.here hx rfl (hb hby d7_27) rfl (XS.bipush X1.here hx rfl (hb hby d7_28) k)) ?_
    show GoW p e below QQ (T1.setTop (mkF m 30 #[.val (.ref a1), .val (.int (1 : Int32)), .val (.int u1)] [(.int (-19 : Int32)), (.int u1)]))
    by_cases hc30 : u1 < (-19 : Int32)
    · skip
      refine GoW.st (fun t k => XS.icmpYes X1.here hx rfl (pc0 := 30) (pc' := 52) rfl (hb hby d7_30) rfl (tlt hc30).1 (by decide) (by decide) k) ?_
      show GoW p e below QQ (T1.setTop (mkF m 52 #[.val (.ref a1), .val (.int (1 : Int32)), .val (.int u1)] []))
      have hi30 : u1.toInt < -19 := (Int32.lt_iff_toInt_lt.mp hc30)
      refine GoW.st (fun t k => XS.iconst X1.here hx rfl (hb hby d7_52) (XS.goto X1.here hx rfl (pc0 := 53) (pc' := 57) rfl (hb hby d7_53) (by decide) (by decide) k)) ?_
      show GoW p e below QQ (T1.setTop (mkF m 57 #[.val (.ref a1), .val (.int (1 : Int32)), .val (.int u1)] [(.int (1 : Int32))]))
      have rv : ((some (.int (nar .boolean (1 : Int32)))) : Option Value) = some (.int (own_plain u1 u2)) := by
        rw [own_plain, if_pos (by unfold own_P; omega)]
        all_goals rfl
      exact GoW.fin X1 (some (.int (nar .boolean (1 : Int32)))) (fun q => by rw [hret] at q; cases q) hlk hQ e1 ⟨rv, N0, rfl⟩ (by decide) (by decide) (fun fs hr => retN X1 hx (t := .boolean) hret (by simp) (hb hby d7_57) hr)
    · skip
      refine GoW.st (fun t k => XS.icmpNo X1.here hx rfl (hb hby d7_30) rfl (flt hc30).1 k) ?_
      show GoW p e below QQ (T1.setTop (mkF m 33 #[.val (.ref a1), .val (.int (1 : Int32)), .val (.int u1)] []))
      have hi30 : ¬ (u1.toInt < -19) := (fun q => hc30 (Int32.lt_iff_toInt_lt.mpr q))
      refine GoW.st (fun t k => XS.iloadN X1.here hx rfl (hb hby d7_33) rfl (XS.bipush X1.here hx rfl (hb hby d7_34) k)) ?_
      show GoW p e below QQ (T1.setTop (mkF m 36 #[.val (.ref a1), .val (.int (1 : Int32)), .val (.int u1)] [(.int (-19 : Int32)), (.int u1)]))
      by_cases hc36 : u1 = (-19 : Int32)
      · skip
        refine GoW.st (fun t k => XS.icmpNo X1.here hx rfl (hb hby d7_36) rfl (teq hc36).2 k) ?_
        show GoW p e below QQ (T1.setTop (mkF m 39 #[.val (.ref a1), .val (.int (1 : Int32)), .val (.int u1)] []))
        have hi36 : u1.toInt = -19 := (congrArg Int32.toInt hc36)
        refine GoW.st (fun t k => XS.aloadN X1.here hx rfl (hb hby d7_39) rfl rfl k) ?_
        show GoW p e below QQ (T1.setTop (mkF m 40 #[.val (.ref a1), .val (.int (1 : Int32)), .val (.int u1)] [(.ref a1)]))
        obtain ⟨T2, X2, e2, st2⟩ := getF X1 hx hZ hown (host := "") (Or.inl (hw _ (List.mem_of_getElem? (i := 25) rfl))) Via.refl e1 pre_F_a1_text (g := (mkF m 40 #[.val (.ref a1), .val (.int (1 : Int32)), .val (.int u1)] [(.ref a1)])) rfl rfl (hb hby d7_40)
        refine GoW.st st2 ?_
        show GoW p e below QQ (T2.setTop (mkF m 43 #[.val (.ref a1), .val (.int (1 : Int32)), .val (.int u1)] [(.ref a2)]))
        refine GoW.st (fun t k => XS.iloadN X2.here hx rfl (hb hby d7_43) rfl (XS.iconst X2.here hx rfl (hb hby d7_44) (XS.iadd X2.here hx rfl (hb hby d7_45) rfl (ldVB X2 hx hZ e2 pre_V_a2 (v := (.int u2)) ⟨by decide, by decide⟩ rfl (g := (mkF m 46 #[.val (.ref a1), .val (.int (1 : Int32)), .val (.int u1)] [(.int (2 : Int32)), (.ref a2)])) rfl rfl (hb hby d7_46) t (XS.bipush X2.here hx rfl (hb hby d7_47) k))))) ?_
        show GoW p e below QQ (T2.setTop (mkF m 49 #[.val (.ref a1), .val (.int (1 : Int32)), .val (.int u1)] [(.int (-96 : Int32)), (.int u2)]))
        by_cases hc49 : u2 < (-96 : Int32)
        · skip
          refine GoW.st (fun t k => XS.icmpNo X2.here hx rfl (hb hby d7_49) rfl (tlt hc49).2.1 k) ?_
          show GoW p e below QQ (T2.setTop (mkF m 52 #[.val (.ref a1), .val (.int (1 : Int32)), .val (.int u1)] []))
          have hi49 : u2.toInt < -96 := (Int32.lt_iff_toInt_lt.mp hc49)
          refine GoW.st (fun t k => XS.iconst X2.here hx rfl (hb hby d7_52) (XS.goto X2.here hx rfl (pc0 := 53) (pc' := 57) rfl (hb hby d7_53) (by decide) (by decide) k)) ?_
          show GoW p e below QQ (T2.setTop (mkF m 57 #[.val (.ref a1), .val (.int (1 : Int32)), .val (.int u1)] [(.int (1 : Int32))]))
          have rv : ((some (.int (nar .boolean (1 : Int32)))) : Option Value) = some (.int (own_plain u1 u2)) := by
            rw [own_plain, if_pos (by unfold own_P; omega)]
            all_goals rfl
          exact GoW.fin X2 (some (.int (nar .boolean (1 : Int32)))) (fun q => by rw [hret] at q; cases q) hlk hQ e2 ⟨rv, N0, rfl⟩ (by decide) (by decide) (fun fs hr => retN X2 hx (t := .boolean) hret (by simp) (hb hby d7_57) hr)
        · skip
          refine GoW.st (fun t k => XS.icmpYes X2.here hx rfl (pc0 := 49) (pc' := 56) rfl (hb hby d7_49) rfl (flt hc49).2.1 (by decide) (by decide) k) ?_
          show GoW p e below QQ (T2.setTop (mkF m 56 #[.val (.ref a1), .val (.int (1 : Int32)), .val (.int u1)] []))
          have hi49 : ¬ (u2.toInt < -96) := (fun q => hc49 (Int32.lt_iff_toInt_lt.mpr q))
          refine GoW.st (fun t k => XS.iconst X2.here hx rfl (hb hby d7_56) k) ?_
          show GoW p e below QQ (T2.setTop (mkF m 57 #[.val (.ref a1), .val (.int (1 : Int32)), .val (.int u1)] [(.int (0 : Int32))]))
          have rv : ((some (.int (nar .boolean (0 : Int32)))) : Option Value) = some (.int (own_plain u1 u2)) := by
            rw [own_plain, if_neg (by unfold own_P; omega)]
            all_goals rfl
          exact GoW.fin X2 (some (.int (nar .boolean (0 : Int32)))) (fun q => by rw [hret] at q; cases q) hlk hQ e2 ⟨rv, N0, rfl⟩ (by decide) (by decide) (fun fs hr => retN X2 hx (t := .boolean) hret (by simp) (hb hby d7_57) hr)
      · skip
        refine GoW.st (fun t k => XS.icmpYes X1.here hx rfl (pc0 := 36) (pc' := 56) rfl (hb hby d7_36) rfl (feq hc36).2 (by decide) (by decide) k) ?_
        show GoW p e below QQ (T1.setTop (mkF m 56 #[.val (.ref a1), .val (.int (1 : Int32)), .val (.int u1)] []))
        have hi36 : ¬ (u1.toInt = -19) := (fun q => hc36 (Int32.toInt_inj.mp q))
        refine GoW.st (fun t k => XS.iconst X1.here hx rfl (hb hby d7_56) k) ?_
        show GoW p e below QQ (T1.setTop (mkF m 57 #[.val (.ref a1), .val (.int (1 : Int32)), .val (.int u1)] [(.int (0 : Int32))]))
        have rv : ((some (.int (nar .boolean (0 : Int32)))) : Option Value) = some (.int (own_plain u1 u2)) := by
          rw [own_plain, if_neg (by unfold own_P; omega)]
          all_goals rfl
        exact GoW.fin X1 (some (.int (nar .boolean (0 : Int32)))) (fun q => by rw [hret] at q; cases q) hlk hQ e1 ⟨rv, N0, rfl⟩ (by decide) (by decide) (fun fs hr => retN X1 hx (t := .boolean) hret (by simp) (hb hby d7_57) hr)
  · skip
    refine GoW.st (fun t k => XS.icmpNo X1.here hx rfl (hb hby d7_10) rfl (flt hc10).1 k) ?_
    show GoW p e below QQ (T1.setTop (mkF m 13 #[.val (.ref a1), .val (.int (1 : Int32)), .val (.int u1)] []))
    have hi10 : ¬ (u1.toInt < 32) := (fun q => hc10 (Int32.lt_iff_toInt_lt.mpr q))
    refine GoW.st (fun t k => XS.iloadN X1.here hx rfl (hb hby d7_13) rfl (XS.bipush X1.here hx rfl (hb hby d7_14) k)) ?_
    show GoW p e below QQ (T1.setTop (mkF m 16 #[.val (.ref a1), .val (.int (1 : Int32)), .val (.int u1)] [(.int (92 : Int32)), (.int u1)]))
    by_cases hc16 : u1 = (92 : Int32)
    · skip
      refine GoW.st (fun t k => XS.icmpYes X1.here hx rfl (pc0 := 16) (pc' := 23) rfl (hb hby d7_16) rfl (teq hc16).1 (by decide) (by decide) k) ?_
      show GoW p e below QQ (T1.setTop (mkF m 23 #[.val (.ref a1), .val (.int (1 : Int32)), .val (.int u1)] []))
      have hi16 : u1.toInt = 92 := (congrArg Int32.toInt hc16)
      refine GoW.st (fun t k => XS.iconst X1.here hx rfl (hb hby d7_23) (XS.goto X1.here hx rfl (pc0 := 24) (pc' := 57) rfl (hb hby d7_24) (by decide) (by decide) k)) ?_
      show GoW p e below QQ (T1.setTop (mkF m 57 #[.val (.ref a1), .val (.int (1 : Int32)), .val (.int u1)] [(.int (0 : Int32))]))
      have rv : ((some (.int (nar .boolean (0 : Int32)))) : Option Value) = some (.int (own_plain u1 u2)) := by
        rw [own_plain, if_neg (by unfold own_P; omega)]
        all_goals rfl
      exact GoW.fin X1 (some (.int (nar .boolean (0 : Int32)))) (fun q => by rw [hret] at q; cases q) hlk hQ e1 ⟨rv, N0, rfl⟩ (by decide) (by decide) (fun fs hr => retN X1 hx (t := .boolean) hret (by simp) (hb hby d7_57) hr)
    · skip
      refine GoW.st (fun t k => XS.icmpNo X1.here hx rfl (hb hby d7_16) rfl (feq hc16).1 k) ?_
      show GoW p e below QQ (T1.setTop (mkF m 19 #[.val (.ref a1), .val (.int (1 : Int32)), .val (.int u1)] []))
      have hi16 : ¬ (u1.toInt = 92) := (fun q => hc16 (Int32.toInt_inj.mp q))
      refine GoW.st (fun t k => XS.iconst X1.here hx rfl (hb hby d7_19) (XS.goto X1.here hx rfl (pc0 := 20) (pc' := 57) rfl (hb hby d7_20) (by decide) (by decide) k)) ?_
      show GoW p e below QQ (T1.setTop (mkF m 57 #[.val (.ref a1), .val (.int (1 : Int32)), .val (.int u1)] [(.int (1 : Int32))]))
      have rv : ((some (.int (nar .boolean (1 : Int32)))) : Option Value) = some (.int (own_plain u1 u2)) := by
        rw [own_plain, if_pos (by unfold own_P; omega)]
        all_goals rfl
      exact GoW.fin X1 (some (.int (nar .boolean (1 : Int32)))) (fun q => by rw [hret] at q; cases q) hlk hQ e1 ⟨rv, N0, rfl⟩ (by decide) (by decide) (fun fs hr => retN X1 hx (t := .boolean) hret (by simp) (hb hby d7_57) hr)
theorem pd_4 : parseMethodDescriptor "(I)Z" = some ⟨[.int], some .boolean⟩ := by decide +kernel
def Q0 (Z : State) (p1 : Int32) (p2 : Int32) (p3 : Int32) (p4 : Int32) (h0 : Heap) (n0 : Nat) (v : Option Value) (h : Heap) (L : List Loc) : Prop := v = some (.int (1 : Int32)) ∧ Fr n0 L
set_option maxRecDepth 65536 in
set_option maxHeartbeats 40000000 in
theorem rm0 (l : Launch) (Z : State) (a0 : Array Value) (hw : ∀ d ∈ tables_1, d.before a0 Z = true) (ws : List Jvm.Cond) (p1 : Int32) (p2 : Int32) (p3 : Int32) (p4 : Int32) (h0 : Heap) (n0 : Nat) (Z0 : n0 ≤ h0.size) (Z1 : h0.size ≤ n0)  :
    MetFree l x (head1 (Jvm.Cond.code x code maxLocals ret :: ws) room_1) (fun a U => a = #[(.int p1), (.int p2), (.int p3), (.int p4)] ∧ Z.Warmed39 U.vm ∧ U.heap = h0) (fun _ _ _ _ _ => True) (fun _ U o U' => ∃ v L, o = .returned v ∧ Q0 Z p1 p2 p3 p4 h0 n0 v U'.heap L ∧ FrameEnd U o U' L 32 448) := by
  refine met_of (Q := fun v h L => Q0 Z p1 p2 p3 p4 h0 n0 v h L) (plainFor_of_name pn_3) (fun m => by first | (simp [entryFrame, mkF, argsToLocals, Value.category, maxLocals]; done) | rfl) (Ls := #[.val (.int p1), .val (.int p2), .val (.int p3), .val (.int p4), .unset, .unset, .unset, .unset, .unset, .unset, .unset, .unset, .unset, .unset]) ?_
  intro p e s m below meth c T0 QQ hx hZ hby hml hown hnm hret hlk X0 e0 hQ
  have hml : c.maxLocals = 14 := hml
  have hown : s.vm.findClass "com/example/terseform/terseform/TextCursorIsPlainAtPinLaw" = some m.cls := hown
  have hnm : meth.name = "law" := hnm
  have hret : meth.sig.returnType = some .boolean := hret
  have N0 := Fr.nil n0
  have K0 : Keep h0 h0 [] := Keep.refl h0 _
  show GoW p e below QQ (T0.setTop (mkF m 0 #[.val (.int p1), .val (.int p2), .val (.int p3), .val (.int p4), .unset, .unset, .unset, .unset, .unset, .unset, .unset, .unset, .unset, .unset] []))
  refine GoW.st (fun t k => XS.iloadN X0.here hx rfl (hb hby at_0) rfl (XS.sipush X0.here hx rfl (hb hby at_1) (XS.iand X0.here hx rfl (hb hby at_4) rfl (XS.istore X0.here hx rfl (hb hby at_5) rfl (l' := #[.val (.int p1), .val (.int p2), .val (.int p3), .val (.int p4), .val (.int (p1 &&& (255 : Int32))), .unset, .unset, .unset, .unset, .unset, .unset, .unset, .unset, .unset]) rfl k)))) ?_
  show GoW p e below QQ (T0.setTop (mkF m 7 #[.val (.int p1), .val (.int p2), .val (.int p3), .val (.int p4), .val (.int (p1 &&& (255 : Int32))), .unset, .unset, .unset, .unset, .unset, .unset, .unset, .unset, .unset] []))
  generalize hv5 : (p1 &&& (255 : Int32)) = v5
  refine GoW.st (fun t k => XS.iloadN X0.here hx rfl (hb hby at_7) rfl (XS.sipush X0.here hx rfl (hb hby at_8) (XS.iand X0.here hx rfl (hb hby at_11) rfl (XS.istore X0.here hx rfl (hb hby at_12) rfl (l' := #[.val (.int p1), .val (.int p2), .val (.int p3), .val (.int p4), .val (.int v5), .val (.int (p2 &&& (255 : Int32))), .unset, .unset, .unset, .unset, .unset, .unset, .unset, .unset]) rfl k)))) ?_
  show GoW p e below QQ (T0.setTop (mkF m 14 #[.val (.int p1), .val (.int p2), .val (.int p3), .val (.int p4), .val (.int v5), .val (.int (p2 &&& (255 : Int32))), .unset, .unset, .unset, .unset, .unset, .unset, .unset, .unset] []))
  generalize hv12 : (p2 &&& (255 : Int32)) = v12
  have m5 := c_mask p1 255 8 (by decide) rfl
  rw [hv5] at m5
  have m12 := c_mask p2 255 8 (by decide) rfl
  rw [hv12] at m12
  have J33_1 : ∀ (TJ1 : State) (LJ1 : List Loc) (nn : Int32) (XJ1 : Stand p l e room_1 s m #[(.int p1), (.int p2), (.int p3), (.int p4)] below meth c TJ1 LJ1 0 0) (eJ1 : TJ1.heap = h0) (NJ1 : Fr n0 LJ1)  (hn0 : 0 ≤ nn.toInt ∧ nn.toInt ≤ 255) (hn1 : v5.toInt = 237 → (128 ≤ nn.toInt ∧ nn.toInt ≤ 191)), GoW p e below QQ (TJ1.setTop (mkF m 33 #[.val (.int p1), .val (.int p2), .val (.int p3), .val (.int p4), .val (.int v5), .val (.int nn), .unset, .unset, .unset, .unset, .unset, .unset, .unset, .unset] [])) := by
    intro TJ1 LJ1  nn XJ1 eJ1 NJ1   hn0 hn1
    refine GoW.st (fun t k => XS.iloadN XJ1.here hx rfl (hb hby at_33) rfl (XS.sipush XJ1.here hx rfl (hb hby at_34) (XS.iand XJ1.here hx rfl (hb hby at_37) rfl (XS.istore XJ1.here hx rfl (hb hby at_38) rfl (l' := #[.val (.int p1), .val (.int p2), .val (.int p3), .val (.int p4), .val (.int v5), .val (.int nn), .val (.int (p3 &&& (255 : Int32))), .unset, .unset, .unset, .unset, .unset, .unset, .unset]) rfl k)))) ?_
    show GoW p e below QQ (TJ1.setTop (mkF m 40 #[.val (.int p1), .val (.int p2), .val (.int p3), .val (.int p4), .val (.int v5), .val (.int nn), .val (.int (p3 &&& (255 : Int32))), .unset, .unset, .unset, .unset, .unset, .unset, .unset] []))
    generalize hv38 : (p3 &&& (255 : Int32)) = v38
    refine GoW.st (fun t k => XS.iloadN XJ1.here hx rfl (hb hby at_40) rfl (XS.iconst XJ1.here hx rfl (hb hby at_41) (XS.iand XJ1.here hx rfl (hb hby at_42) rfl (XS.istore XJ1.here hx rfl (hb hby at_43) rfl (l' := #[.val (.int p1), .val (.int p2), .val (.int p3), .val (.int p4), .val (.int v5), .val (.int nn), .val (.int v38), .val (.int (p4 &&& (1 : Int32))), .unset, .unset, .unset, .unset, .unset, .unset]) rfl k)))) ?_
    show GoW p e below QQ (TJ1.setTop (mkF m 45 #[.val (.int p1), .val (.int p2), .val (.int p3), .val (.int p4), .val (.int v5), .val (.int nn), .val (.int v38), .val (.int (p4 &&& (1 : Int32))), .unset, .unset, .unset, .unset, .unset, .unset] []))
    generalize hv43 : (p4 &&& (1 : Int32)) = v43
    have J58_2 : ∀ (TJ2 : State) (LJ2 : List Loc) (cb : Int32) (XJ2 : Stand p l e room_1 s m #[(.int p1), (.int p2), (.int p3), (.int p4)] below meth c TJ2 LJ2 0 0) (eJ2 : TJ2.heap = h0) (NJ2 : Fr n0 LJ2)  , GoW p e below QQ (TJ2.setTop (mkF m 58 #[.val (.int p1), .val (.int p2), .val (.int p3), .val (.int p4), .val (.int v5), .val (.int nn), .val (.int v38), .val (.int v43), .unset, .unset, .unset, .unset, .unset, .unset] [(.int cb)])) := by
      intro TJ2 LJ2  cb XJ2 eJ2 NJ2   
      refine GoW.st (fun t k => XS.istore XJ2.here hx rfl (hb hby at_58) rfl (l' := #[.val (.int p1), .val (.int p2), .val (.int p3), .val (.int p4), .val (.int v5), .val (.int nn), .val (.int v38), .val (.int v43), .val (.int cb), .unset, .unset, .unset, .unset, .unset]) rfl (XS.iloadN XJ2.here hx rfl (hb hby at_60) rfl (XS.bipush XJ2.here hx rfl (hb hby at_61) (XS.iushr XJ2.here hx rfl (hb hby at_63) rfl (XS.i2b XJ2.here hx rfl (hb hby at_64) rfl (XS.istore XJ2.here hx rfl (hb hby at_65) rfl (l' := #[.val (.int p1), .val (.int p2), .val (.int p3), .val (.int p4), .val (.int v5), .val (.int nn), .val (.int v38), .val (.int v43), .val (.int cb), .val (.int (((p4.toUInt32 >>> ((8 : Int32) &&& 31).toUInt32).toInt32).toInt8.toInt32)), .unset, .unset, .unset, .unset]) rfl k)))))) ?_
      show GoW p e below QQ (TJ2.setTop (mkF m 67 #[.val (.int p1), .val (.int p2), .val (.int p3), .val (.int p4), .val (.int v5), .val (.int nn), .val (.int v38), .val (.int v43), .val (.int cb), .val (.int (((p4.toUInt32 >>> ((8 : Int32) &&& 31).toUInt32).toInt32).toInt8.toInt32)), .unset, .unset, .unset, .unset] []))
      generalize hv65 : (((p4.toUInt32 >>> ((8 : Int32) &&& 31).toUInt32).toInt32).toInt8.toInt32) = v65
      refine GoW.st (fun t k => XS.iconst XJ2.here hx rfl (hb hby at_67) k) ?_
      show GoW p e below QQ (TJ2.setTop (mkF m 68 #[.val (.int p1), .val (.int p2), .val (.int p3), .val (.int p4), .val (.int v5), .val (.int nn), .val (.int v38), .val (.int v43), .val (.int cb), .val (.int v65), .unset, .unset, .unset, .unset] [(.int (4 : Int32))]))
      obtain ⟨T3, h3, k3, X3, e3, E3, A3, st3⟩ := newP XJ2 hx hZ (hw _ (List.mem_of_getElem? (i := 0) rfl)) eJ2 (g := (mkF m 68 #[.val (.int p1), .val (.int p2), .val (.int p3), .val (.int p4), .val (.int v5), .val (.int nn), .val (.int v38), .val (.int v43), .val (.int cb), .val (.int v65), .unset, .unset, .unset, .unset] [(.int (4 : Int32))])) rfl (hb hby at_68) rfl (by decide) (cap := 4) (by decide) (by decide) (by decide) (by decide)
      obtain ⟨b3, g3⟩ : ∃ z, z = h0.size := ⟨_, rfl⟩
      rw [← g3] at A3 st3
      refine GoW.st st3 ?_
      have gg3 : n0 ≤ b3 := Nat.le_trans (Nat.le_trans Z0 K0.1) (Nat.le_of_eq g3.symm)
      have sz3 : h0.size ≤ b3 := Nat.le_trans K0.1 (Nat.le_of_eq g3.symm)
      have K3 : Keep h0 h3 [] := K0.ext E3
      have V3 : Arv Z h3 b3 k3 .byte (4 : Int32) [(.int (0 : Int32)), (.int (0 : Int32)), (.int (0 : Int32)), (.int (0 : Int32))] (.int (0 : Int32)) := (Arv.new A3 (by decide)).pad (pad_rep [] (.int (0 : Int32)) 4)
      show GoW p e below QQ (T3.setTop (mkF m 70 #[.val (.int p1), .val (.int p2), .val (.int p3), .val (.int p4), .val (.int v5), .val (.int nn), .val (.int v38), .val (.int v43), .val (.int cb), .val (.int v65), .unset, .unset, .unset, .unset] [(.ref b3)]))
      refine GoW.st (fun t k => XS.astore X3.here hx rfl (hb hby at_70) rfl rfl (l' := #[.val (.int p1), .val (.int p2), .val (.int p3), .val (.int p4), .val (.int v5), .val (.int nn), .val (.int v38), .val (.int v43), .val (.int cb), .val (.int v65), .val (.ref b3), .unset, .unset, .unset]) rfl k) ?_
      show GoW p e below QQ (T3.setTop (mkF m 72 #[.val (.int p1), .val (.int p2), .val (.int p3), .val (.int p4), .val (.int v5), .val (.int nn), .val (.int v38), .val (.int v43), .val (.int cb), .val (.int v65), .val (.ref b3), .unset, .unset, .unset] []))
      have i2 := own_i2 p4
      rw [hv43] at i2
      rcases i2 with rfl | rfl
      · skip
        show GoW p e below QQ (T3.setTop (mkF m 72 #[.val (.int p1), .val (.int p2), .val (.int p3), .val (.int p4), .val (.int v5), .val (.int nn), .val (.int v38), .val (.int (0 : Int32)), .val (.int cb), .val (.int v65), .val (.ref b3), .unset, .unset, .unset] []))
        refine GoW.st (fun t k => XS.aload X3.here hx rfl (hb hby at_72) rfl rfl (XS.iconst X3.here hx rfl (hb hby at_74) (XS.iload X3.here hx rfl (hb hby at_75) rfl k))) ?_
        show GoW p e below QQ (T3.setTop (mkF m 77 #[.val (.int p1), .val (.int p2), .val (.int p3), .val (.int p4), .val (.int v5), .val (.int nn), .val (.int v38), .val (.int (0 : Int32)), .val (.int cb), .val (.int v65), .val (.ref b3), .unset, .unset, .unset] [(.int v65), (.int (0 : Int32)), (.ref b3)]))
        obtain ⟨T5, h5, X5, e5, W5, V5, st5⟩ := stVB X3 hx hZ e3 V3 ⟨by decide, by decide⟩ 0 rfl (Nat.le_of_ble_eq_true rfl) (g := (mkF m 77 #[.val (.int p1), .val (.int p2), .val (.int p3), .val (.int p4), .val (.int v5), .val (.int nn), .val (.int v38), .val (.int (0 : Int32)), .val (.int cb), .val (.int v65), .val (.ref b3), .unset, .unset, .unset] [(.int v65), (.int (0 : Int32)), (.ref b3)])) rfl rfl (hb hby at_77)
        refine GoW.st st5 ?_
        have f6_V_b3 : Arv Z h5 b3 k3 .byte (4 : Int32) [(.int (nar .byte v65)), (.int (0 : Int32)), (.int (0 : Int32)), (.int (0 : Int32))] (.int (0 : Int32)) := V5
        have K5 : Keep h0 h5 [] := K3.wr W5 (Or.inr sz3)
        have N5 := Fr.snoc X5 NJ2 gg3
        show GoW p e below QQ (T5.setTop (mkF m 78 #[.val (.int p1), .val (.int p2), .val (.int p3), .val (.int p4), .val (.int v5), .val (.int nn), .val (.int v38), .val (.int (0 : Int32)), .val (.int cb), .val (.int v65), .val (.ref b3), .unset, .unset, .unset] []))
        refine GoW.st (fun t k => XS.aload X5.here hx rfl (hb hby at_78) rfl rfl (XS.iconst X5.here hx rfl (hb hby at_80) (XS.iload X5.here hx rfl (hb hby at_81) rfl k))) ?_
        show GoW p e below QQ (T5.setTop (mkF m 83 #[.val (.int p1), .val (.int p2), .val (.int p3), .val (.int p4), .val (.int v5), .val (.int nn), .val (.int v38), .val (.int (0 : Int32)), .val (.int cb), .val (.int v65), .val (.ref b3), .unset, .unset, .unset] [(.int v65), (.int (1 : Int32)), (.ref b3)]))
        obtain ⟨T7, h7, X7, e7, W7, V7, st7⟩ := stVB X5 hx hZ e5 f6_V_b3 ⟨by decide, by decide⟩ 1 rfl (Nat.le_of_ble_eq_true rfl) (g := (mkF m 83 #[.val (.int p1), .val (.int p2), .val (.int p3), .val (.int p4), .val (.int v5), .val (.int nn), .val (.int v38), .val (.int (0 : Int32)), .val (.int cb), .val (.int v65), .val (.ref b3), .unset, .unset, .unset] [(.int v65), (.int (1 : Int32)), (.ref b3)])) rfl rfl (hb hby at_83)
        refine GoW.st st7 ?_
        have f8_V_b3 : Arv Z h7 b3 k3 .byte (4 : Int32) [(.int (nar .byte v65)), (.int (nar .byte v65)), (.int (0 : Int32)), (.int (0 : Int32))] (.int (0 : Int32)) := V7
        have K7 : Keep h0 h7 [] := K5.wr W7 (Or.inr sz3)
        have N7 := Fr.snoc X7 N5 gg3
        show GoW p e below QQ (T7.setTop (mkF m 84 #[.val (.int p1), .val (.int p2), .val (.int p3), .val (.int p4), .val (.int v5), .val (.int nn), .val (.int v38), .val (.int (0 : Int32)), .val (.int cb), .val (.int v65), .val (.ref b3), .unset, .unset, .unset] []))
        refine GoW.st (fun t k => XS.aload X7.here hx rfl (hb hby at_84) rfl rfl (XS.iconst X7.here hx rfl (hb hby at_86) (XS.iload X7.here hx rfl (hb hby at_87) rfl k))) ?_
        show GoW p e below QQ (T7.setTop (mkF m 89 #[.val (.int p1), .val (.int p2), .val (.int p3), .val (.int p4), .val (.int v5), .val (.int nn), .val (.int v38), .val (.int (0 : Int32)), .val (.int cb), .val (.int v65), .val (.ref b3), .unset, .unset, .unset] [(.int v65), (.int (2 : Int32)), (.ref b3)]))
        obtain ⟨T9, h9, X9, e9, W9, V9, st9⟩ := stVB X7 hx hZ e7 f8_V_b3 ⟨by decide, by decide⟩ 2 rfl (Nat.le_of_ble_eq_true rfl) (g := (mkF m 89 #[.val (.int p1), .val (.int p2), .val (.int p3), .val (.int p4), .val (.int v5), .val (.int nn), .val (.int v38), .val (.int (0 : Int32)), .val (.int cb), .val (.int v65), .val (.ref b3), .unset, .unset, .unset] [(.int v65), (.int (2 : Int32)), (.ref b3)])) rfl rfl (hb hby at_89)
        refine GoW.st st9 ?_
        have f10_V_b3 : Arv Z h9 b3 k3 .byte (4 : Int32) [(.int (nar .byte v65)), (.int (nar .byte v65)), (.int (nar .byte v65)), (.int (0 : Int32))] (.int (0 : Int32)) := V9
        have K9 : Keep h0 h9 [] := K7.wr W9 (Or.inr sz3)
        have N9 := Fr.snoc X9 N7 gg3
        show GoW p e below QQ (T9.setTop (mkF m 90 #[.val (.int p1), .val (.int p2), .val (.int p3), .val (.int p4), .val (.int v5), .val (.int nn), .val (.int v38), .val (.int (0 : Int32)), .val (.int cb), .val (.int v65), .val (.ref b3), .unset, .unset, .unset] []))
        refine GoW.st (fun t k => XS.aload X9.here hx rfl (hb hby at_90) rfl rfl (XS.iconst X9.here hx rfl (hb hby at_92) (XS.iload X9.here hx rfl (hb hby at_93) rfl k))) ?_
        show GoW p e below QQ (T9.setTop (mkF m 95 #[.val (.int p1), .val (.int p2), .val (.int p3), .val (.int p4), .val (.int v5), .val (.int nn), .val (.int v38), .val (.int (0 : Int32)), .val (.int cb), .val (.int v65), .val (.ref b3), .unset, .unset, .unset] [(.int v65), (.int (3 : Int32)), (.ref b3)]))
        obtain ⟨T11, h11, X11, e11, W11, V11, st11⟩ := stVB X9 hx hZ e9 f10_V_b3 ⟨by decide, by decide⟩ 3 rfl (Nat.le_of_ble_eq_true rfl) (g := (mkF m 95 #[.val (.int p1), .val (.int p2), .val (.int p3), .val (.int p4), .val (.int v5), .val (.int nn), .val (.int v38), .val (.int (0 : Int32)), .val (.int cb), .val (.int v65), .val (.ref b3), .unset, .unset, .unset] [(.int v65), (.int (3 : Int32)), (.ref b3)])) rfl rfl (hb hby at_95)
        refine GoW.st st11 ?_
        have f12_V_b3 : Arv Z h11 b3 k3 .byte (4 : Int32) [(.int (nar .byte v65)), (.int (nar .byte v65)), (.int (nar .byte v65)), (.int (nar .byte v65))] (.int (0 : Int32)) := V11
        have K11 : Keep h0 h11 [] := K9.wr W11 (Or.inr sz3)
        have N11 := Fr.snoc X11 N9 gg3
        show GoW p e below QQ (T11.setTop (mkF m 96 #[.val (.int p1), .val (.int p2), .val (.int p3), .val (.int p4), .val (.int v5), .val (.int nn), .val (.int v38), .val (.int (0 : Int32)), .val (.int cb), .val (.int v65), .val (.ref b3), .unset, .unset, .unset] []))
        refine GoW.st (fun t k => XS.aload X11.here hx rfl (hb hby at_96) rfl rfl (XS.iload X11.here hx rfl (hb hby at_98) rfl (XS.iload X11.here hx rfl (hb hby at_100) rfl (XS.i2b X11.here hx rfl (hb hby at_102) rfl k)))) ?_
        show GoW p e below QQ (T11.setTop (mkF m 103 #[.val (.int p1), .val (.int p2), .val (.int p3), .val (.int p4), .val (.int v5), .val (.int nn), .val (.int v38), .val (.int (0 : Int32)), .val (.int cb), .val (.int v65), .val (.ref b3), .unset, .unset, .unset] [(.int (v5.toInt8.toInt32)), (.int (0 : Int32)), (.ref b3)]))
        obtain ⟨T13, h13, X13, e13, W13, V13, st13⟩ := stVB X11 hx hZ e11 f12_V_b3 ⟨by decide, by decide⟩ 0 rfl (Nat.le_of_ble_eq_true rfl) (g := (mkF m 103 #[.val (.int p1), .val (.int p2), .val (.int p3), .val (.int p4), .val (.int v5), .val (.int nn), .val (.int v38), .val (.int (0 : Int32)), .val (.int cb), .val (.int v65), .val (.ref b3), .unset, .unset, .unset] [(.int (v5.toInt8.toInt32)), (.int (0 : Int32)), (.ref b3)])) rfl rfl (hb hby at_103)
        refine GoW.st st13 ?_
        have f14_V_b3 : Arv Z h13 b3 k3 .byte (4 : Int32) [(.int (nar .byte (v5.toInt8.toInt32))), (.int (nar .byte v65)), (.int (nar .byte v65)), (.int (nar .byte v65))] (.int (0 : Int32)) := V13
        have K13 : Keep h0 h13 [] := K11.wr W13 (Or.inr sz3)
        have N13 := Fr.snoc X13 N11 gg3
        show GoW p e below QQ (T13.setTop (mkF m 104 #[.val (.int p1), .val (.int p2), .val (.int p3), .val (.int p4), .val (.int v5), .val (.int nn), .val (.int v38), .val (.int (0 : Int32)), .val (.int cb), .val (.int v65), .val (.ref b3), .unset, .unset, .unset] []))
        refine GoW.st (fun t k => XS.aload X13.here hx rfl (hb hby at_104) rfl rfl (XS.iload X13.here hx rfl (hb hby at_106) rfl (XS.iconst X13.here hx rfl (hb hby at_108) (XS.iadd X13.here hx rfl (hb hby at_109) rfl (XS.iload X13.here hx rfl (hb hby at_110) rfl (XS.i2b X13.here hx rfl (hb hby at_112) rfl k)))))) ?_
        show GoW p e below QQ (T13.setTop (mkF m 113 #[.val (.int p1), .val (.int p2), .val (.int p3), .val (.int p4), .val (.int v5), .val (.int nn), .val (.int v38), .val (.int (0 : Int32)), .val (.int cb), .val (.int v65), .val (.ref b3), .unset, .unset, .unset] [(.int (nn.toInt8.toInt32)), (.int (1 : Int32)), (.ref b3)]))
        obtain ⟨T15, h15, X15, e15, W15, V15, st15⟩ := stVB X13 hx hZ e13 f14_V_b3 ⟨by decide, by decide⟩ 1 rfl (Nat.le_of_ble_eq_true rfl) (g := (mkF m 113 #[.val (.int p1), .val (.int p2), .val (.int p3), .val (.int p4), .val (.int v5), .val (.int nn), .val (.int v38), .val (.int (0 : Int32)), .val (.int cb), .val (.int v65), .val (.ref b3), .unset, .unset, .unset] [(.int (nn.toInt8.toInt32)), (.int (1 : Int32)), (.ref b3)])) rfl rfl (hb hby at_113)
        refine GoW.st st15 ?_
        have f16_V_b3 : Arv Z h15 b3 k3 .byte (4 : Int32) [(.int (nar .byte (v5.toInt8.toInt32))), (.int (nar .byte (nn.toInt8.toInt32))), (.int (nar .byte v65)), (.int (nar .byte v65))] (.int (0 : Int32)) := V15
        have K15 : Keep h0 h15 [] := K13.wr W15 (Or.inr sz3)
        have N15 := Fr.snoc X15 N13 gg3
        show GoW p e below QQ (T15.setTop (mkF m 114 #[.val (.int p1), .val (.int p2), .val (.int p3), .val (.int p4), .val (.int v5), .val (.int nn), .val (.int v38), .val (.int (0 : Int32)), .val (.int cb), .val (.int v65), .val (.ref b3), .unset, .unset, .unset] []))
        refine GoW.st (fun t k => XS.aload X15.here hx rfl (hb hby at_114) rfl rfl (XS.iload X15.here hx rfl (hb hby at_116) rfl (XS.iconst X15.here hx rfl (hb hby at_118) (XS.iadd X15.here hx rfl (hb hby at_119) rfl (XS.iload X15.here hx rfl (hb hby at_120) rfl (XS.i2b X15.here hx rfl (hb hby at_122) rfl k)))))) ?_
        show GoW p e below QQ (T15.setTop (mkF m 123 #[.val (.int p1), .val (.int p2), .val (.int p3), .val (.int p4), .val (.int v5), .val (.int nn), .val (.int v38), .val (.int (0 : Int32)), .val (.int cb), .val (.int v65), .val (.ref b3), .unset, .unset, .unset] [(.int (v38.toInt8.toInt32)), (.int (2 : Int32)), (.ref b3)]))
        obtain ⟨T17, h17, X17, e17, W17, V17, st17⟩ := stVB X15 hx hZ e15 f16_V_b3 ⟨by decide, by decide⟩ 2 rfl (Nat.le_of_ble_eq_true rfl) (g := (mkF m 123 #[.val (.int p1), .val (.int p2), .val (.int p3), .val (.int p4), .val (.int v5), .val (.int nn), .val (.int v38), .val (.int (0 : Int32)), .val (.int cb), .val (.int v65), .val (.ref b3), .unset, .unset, .unset] [(.int (v38.toInt8.toInt32)), (.int (2 : Int32)), (.ref b3)])) rfl rfl (hb hby at_123)
        refine GoW.st st17 ?_
        have f18_V_b3 : Arv Z h17 b3 k3 .byte (4 : Int32) [(.int (nar .byte (v5.toInt8.toInt32))), (.int (nar .byte (nn.toInt8.toInt32))), (.int (nar .byte (v38.toInt8.toInt32))), (.int (nar .byte v65))] (.int (0 : Int32)) := V17
        have K17 : Keep h0 h17 [] := K15.wr W17 (Or.inr sz3)
        have N17 := Fr.snoc X17 N15 gg3
        show GoW p e below QQ (T17.setTop (mkF m 124 #[.val (.int p1), .val (.int p2), .val (.int p3), .val (.int p4), .val (.int v5), .val (.int nn), .val (.int v38), .val (.int (0 : Int32)), .val (.int cb), .val (.int v65), .val (.ref b3), .unset, .unset, .unset] []))
        obtain ⟨T19, h19, X19, e19, E19, A19, D19, -, st19⟩ := newO X17 hx hZ hown (hw _ (List.mem_of_getElem? (i := 1) rfl)) (hw _ (List.mem_of_getElem? (i := 2) rfl)) (hw _ (List.mem_of_getElem? (i := 3) rfl)) e17 (g := (mkF m 124 #[.val (.int p1), .val (.int p2), .val (.int p3), .val (.int p4), .val (.int v5), .val (.int nn), .val (.int v38), .val (.int (0 : Int32)), .val (.int cb), .val (.int v65), .val (.ref b3), .unset, .unset, .unset] [])) rfl (hb hby at_124) (by decide) (by decide)
        obtain ⟨b19, g19⟩ : ∃ z, z = h17.size := ⟨_, rfl⟩
        rw [← g19] at A19 D19 st19
        refine GoW.st st19 ?_
        have gg19 : n0 ≤ b19 := Nat.le_trans (Nat.le_trans Z0 K17.1) (Nat.le_of_eq g19.symm)
        have sz19 : h0.size ≤ b19 := Nat.le_trans K17.1 (Nat.le_of_eq g19.symm)
        have ne19_b3 : b3 ≠ b19 := Nat.ne_of_lt (Nat.lt_of_lt_of_le f18_V_b3.lt (Nat.le_of_eq g19.symm))
        have f20_V_b3 : Arv Z h19 b3 k3 .byte (4 : Int32) [(.int (nar .byte (v5.toInt8.toInt32))), (.int (nar .byte (nn.toInt8.toInt32))), (.int (nar .byte (v38.toInt8.toInt32))), (.int (nar .byte v65))] (.int (0 : Int32)) := f18_V_b3.ext E19
        have K19 : Keep h0 h19 [] := K17.ext E19
        have F19_open : Fld Z h19 b19 "com/example/terseform/terseform/TextCursor" "open" "[I" .null := D19 (Or.inl (hw _ (List.mem_of_getElem? (i := 17) rfl))) (ty := (.array .int)) (by decide)
        have F19_names : Fld Z h19 b19 "com/example/terseform/terseform/TextCursor" "names" "[Lcom/example/terseform/terseform/TextCursor$MemberNames;" .null := D19 (Or.inl (hw _ (List.mem_of_getElem? (i := 21) rfl))) (ty := (.array (.object "com/example/terseform/terseform/TextCursor$MemberNames"))) (by decide)
        have F19_keySignatures : Fld Z h19 b19 "com/example/terseform/terseform/TextCursor" "keySignatures" "[J" .null := D19 (Or.inl (hw _ (List.mem_of_getElem? (i := 24) rfl))) (ty := (.array .long)) (by decide)
        have F19_text : Fld Z h19 b19 "com/example/terseform/terseform/TextCursor" "text" "[B" .null := D19 (Or.inr (hw _ (List.mem_of_getElem? (i := 26) rfl))) (ty := (.array .byte)) (by decide)
        have F19_canonical : Fld Z h19 b19 "com/example/terseform/terseform/TextCursor" "canonical" "Z" (.int (0 : Int32)) := D19 (Or.inr (hw _ (List.mem_of_getElem? (i := 28) rfl))) (ty := .boolean) (by decide)
        have F19_tape : Fld Z h19 b19 "com/example/terseform/terseform/TextCursor" "tape" "Lcom/example/terseform/terseform/Tape;" .null := D19 (Or.inr (hw _ (List.mem_of_getElem? (i := 61) rfl))) (ty := (.object "com/example/terseform/terseform/Tape")) (by decide)
        show GoW p e below QQ (T19.setTop (mkF m 127 #[.val (.int p1), .val (.int p2), .val (.int p3), .val (.int p4), .val (.int v5), .val (.int nn), .val (.int v38), .val (.int (0 : Int32)), .val (.int cb), .val (.int v65), .val (.ref b3), .unset, .unset, .unset] [(.ref b19)]))
        refine GoW.st (fun t k => XS.dup X19.here hx rfl (hb hby at_127) rfl rfl (XS.aload X19.here hx rfl (hb hby at_128) rfl rfl (XS.iload X19.here hx rfl (hb hby at_130) rfl k))) ?_
        show GoW p e below QQ (T19.setTop (mkF m 132 #[.val (.int p1), .val (.int p2), .val (.int p3), .val (.int p4), .val (.int v5), .val (.int nn), .val (.int v38), .val (.int (0 : Int32)), .val (.int cb), .val (.int v65), .val (.ref b3), .unset, .unset, .unset] [(.int cb), (.ref b3), (.ref b19), (.ref b19)]))
        obtain ⟨_, _, ⟨T21, zL21, zk21, zn21⟩, -, X21, ⟨Lc21, hQ21, zl21, zy21, zz21⟩, st21⟩ := X19.specialBack hx (y := (⟨"com/example/terseform/terseform/TextCursorIsPlainAtPinLaw", "<init>", "([BZ)V"⟩ : MethodName)) rfl hown (mvT hZ (hw _ (List.mem_of_getElem? (i := 4) rfl))) (mvT hZ (hw _ (List.mem_of_getElem? (i := 5) rfl))) (mvT hZ (hw _ (List.mem_of_getElem? (i := 6) rfl))) (by decide) (backOf (W := 1) (rm1 l Z a0 hw [] b19 b3 cb k3 (nar .byte (v5.toInt8.toInt32)) (nar .byte (nn.toInt8.toInt32)) (nar .byte (v38.toInt8.toInt32)) (nar .byte v65) h19 n0 (Nat.le_trans Z0 K19.1) A19 gg19 F19_open F19_names F19_keySignatures F19_text F19_canonical F19_tape f20_V_b3 ne19_b3) hZ (hw _ (List.mem_of_getElem? (i := 6) rfl)) (hw _ (List.mem_of_getElem? (i := 3) rfl)) (by decide) (by decide)) (g := (mkF m 132 #[.val (.int p1), .val (.int p2), .val (.int p3), .val (.int p4), .val (.int v5), .val (.int nn), .val (.int v38), .val (.int (0 : Int32)), .val (.int cb), .val (.int v65), .val (.ref b3), .unset, .unset, .unset] [(.int cb), (.ref b3), (.ref b19), (.ref b19)])) rfl (by rw [hml]; rfl) (Steps.refl _) (a := b19) (argsL := [(.ref b3), (.int cb)]) (rest := [(.ref b19)]) (lenOf pd_3 rfl) rfl (by show 2 * 0 + _ ≤ _; exact Nat.le_of_eq rfl) (hb hby at_132) (fun _ _ => ⟨rfl, e19, (by decide : 2 + 9 ≤ _), (by decide : 12 + 168 ≤ _)⟩)
        dsimp only [Pt.U, Pt.locs, Pt.cells, Pt.slots] at X21 zl21 zy21 zz21 st21 hQ21
        subst zl21 zy21 zz21
        obtain ⟨rfl, Nq21, Kq21, p21_0, p21_1⟩ := hQ21
        have N21 := Fr.app N17 Nq21
        refine GoW.st (fun t k => st21.trans k) ?_
        have f22_V_b3 : Arv Z T21.heap b3 k3 .byte (4 : Int32) [(.int (nar .byte (v5.toInt8.toInt32))), (.int (nar .byte (nn.toInt8.toInt32))), (.int (nar .byte (v38.toInt8.toInt32))), (.int (nar .byte v65))] (.int (0 : Int32)) := f20_V_b3.keep Kq21 (ninS ne19_b3 nin0)
        have K21 : Keep h0 T21.heap [] := K19.trans Kq21 (allS (Or.inr sz19) all0)
        show GoW p e below QQ (T21.setTop (mkF m 135 #[.val (.int p1), .val (.int p2), .val (.int p3), .val (.int p4), .val (.int v5), .val (.int nn), .val (.int v38), .val (.int (0 : Int32)), .val (.int cb), .val (.int v65), .val (.ref b3), .unset, .unset, .unset] [(.ref b19)]))
        refine GoW.st (fun t k => XS.astore X21.here hx rfl (hb hby at_135) rfl rfl (l' := #[.val (.int p1), .val (.int p2), .val (.int p3), .val (.int p4), .val (.int v5), .val (.int nn), .val (.int v38), .val (.int (0 : Int32)), .val (.int cb), .val (.int v65), .val (.ref b3), .val (.ref b19), .unset, .unset]) rfl (XS.iload X21.here hx rfl (hb hby at_137) rfl (XS.bipush X21.here hx rfl (hb hby at_139) k))) ?_
        show GoW p e below QQ (T21.setTop (mkF m 141 #[.val (.int p1), .val (.int p2), .val (.int p3), .val (.int p4), .val (.int v5), .val (.int nn), .val (.int v38), .val (.int (0 : Int32)), .val (.int cb), .val (.int v65), .val (.ref b3), .val (.ref b19), .unset, .unset] [(.int (32 : Int32)), (.int v5)]))
        by_cases hc141 : v5 < (32 : Int32)
        · skip
          refine GoW.st (fun t k => XS.icmpNo X21.here hx rfl (hb hby at_141) rfl (tlt hc141).2.1 k) ?_
          show GoW p e below QQ (T21.setTop (mkF m 144 #[.val (.int p1), .val (.int p2), .val (.int p3), .val (.int p4), .val (.int v5), .val (.int nn), .val (.int v38), .val (.int (0 : Int32)), .val (.int cb), .val (.int v65), .val (.ref b3), .val (.ref b19), .unset, .unset] []))
          have hi141 : v5.toInt < 32 := (Int32.lt_iff_toInt_lt.mp hc141)
          refine GoW.st (fun t k => XS.iconst X21.here hx rfl (hb hby at_144) (XS.istore X21.here hx rfl (hb hby at_145) rfl (l' := #[.val (.int p1), .val (.int p2), .val (.int p3), .val (.int p4), .val (.int v5), .val (.int nn), .val (.int v38), .val (.int (0 : Int32)), .val (.int cb), .val (.int v65), .val (.ref b3), .val (.ref b19), .val (.int (0 : Int32)), .unset]) rfl (XS.goto X21.here hx rfl (pc0 := 147) (pc' := 244) rfl (hb hby at_147) (by decide) (by decide) (XS.aload X21.here hx rfl (hb hby at_244) rfl rfl (XS.iload X21.here hx rfl (hb hby at_246) rfl k))))) ?_
          show GoW p e below QQ (T21.setTop (mkF m 248 #[.val (.int p1), .val (.int p2), .val (.int p3), .val (.int p4), .val (.int v5), .val (.int nn), .val (.int v38), .val (.int (0 : Int32)), .val (.int cb), .val (.int v65), .val (.ref b3), .val (.ref b19), .val (.int (0 : Int32)), .unset] [(.int (0 : Int32)), (.ref b19)]))
          obtain ⟨cq23, kq23, qa23, qb23, qc23⟩ := isOf hZ rfl p21_0
          obtain ⟨_, _, ⟨T23, zL23, zk23, zn23⟩, -, X23, ⟨Lc23, hQ23, zl23, zy23, zz23⟩, st23⟩ := X21.virtualBackUp hx (owner := "com/example/terseform/terseform/TextCursor") (x := (⟨"com/example/terseform/terseform/TextCursorIsPlainAtPinLaw", "isPlainAt", "(I)Z"⟩ : MethodName)) (y := (⟨"com/example/terseform/terseform/TextCursor", "isPlainAt", "(I)Z"⟩ : MethodName)) hown (mvT hZ (hw _ (List.mem_of_getElem? (i := 62) rfl))) (mvT hZ (hw _ (List.mem_of_getElem? (i := 63) rfl))) (mvT hZ (hw _ (List.mem_of_getElem? (i := 64) rfl))) (by decide) (mvT hZ (hw _ (List.mem_of_getElem? (i := 66) rfl))) (mvT hZ (hw _ (List.mem_of_getElem? (i := 65) rfl))) (backOf (W := 0) (rm7_0 l Z a0 hw [] b19 b3 k3 (nar .byte (v5.toInt8.toInt32)) (nar .byte (nn.toInt8.toInt32)) (nar .byte (v38.toInt8.toInt32)) (nar .byte v65) T21.heap n0 (Nat.le_trans Z0 K21.1) p21_1 f22_V_b3) hZ (hw _ (List.mem_of_getElem? (i := 67) rfl)) (hw _ (List.mem_of_getElem? (i := 10) rfl)) (by decide) (by decide)) qa23 qc23 (g := (mkF m 248 #[.val (.int p1), .val (.int p2), .val (.int p3), .val (.int p4), .val (.int v5), .val (.int nn), .val (.int v38), .val (.int (0 : Int32)), .val (.int cb), .val (.int v65), .val (.ref b3), .val (.ref b19), .val (.int (0 : Int32)), .unset] [(.int (0 : Int32)), (.ref b19)])) rfl (by rw [hml]; rfl) (Steps.refl _) (argsL := [(.int (0 : Int32))]) (rest := []) (lenOf pd_4 rfl) rfl (by show 2 * 0 + _ ≤ _; exact Nat.le_of_eq rfl) (hb hby at_248) (fun _ _ => ⟨rfl, rfl, (by decide : 11 + 0 ≤ _), (by decide : 180 + 0 ≤ _)⟩)
          dsimp only [Pt.U, Pt.locs, Pt.cells, Pt.slots] at X23 zl23 zy23 zz23 st23 hQ23
          subst zl23 zy23 zz23
          obtain ⟨rfl, Nq23, hh23⟩ := hQ23
          have N23 := Fr.app N21 Nq23
          refine GoW.st (fun t k => st23.trans k) ?_
          show GoW p e below QQ (T23.setTop (mkF m 251 #[.val (.int p1), .val (.int p2), .val (.int p3), .val (.int p4), .val (.int v5), .val (.int nn), .val (.int v38), .val (.int (0 : Int32)), .val (.int cb), .val (.int v65), .val (.ref b3), .val (.ref b19), .val (.int (0 : Int32)), .unset] [(.int (own_plain (nar .byte (v5.toInt8.toInt32)) (nar .byte (nn.toInt8.toInt32))))]))
          refine GoW.st (fun t k => XS.iload X23.here hx rfl (hb hby at_251) rfl k) ?_
          show GoW p e below QQ (T23.setTop (mkF m 253 #[.val (.int p1), .val (.int p2), .val (.int p3), .val (.int p4), .val (.int v5), .val (.int nn), .val (.int v38), .val (.int (0 : Int32)), .val (.int cb), .val (.int v65), .val (.ref b3), .val (.ref b19), .val (.int (0 : Int32)), .unset] [(.int (0 : Int32)), (.int (own_plain (nar .byte (v5.toInt8.toInt32)) (nar .byte (nn.toInt8.toInt32))))]))
          have hc253 : (own_plain (nar .byte (v5.toInt8.toInt32)) (nar .byte (nn.toInt8.toInt32))) = (0 : Int32) := by
            have f0 := own_nb v5
            have f1 := own_nb nn
            rw [own_plain, if_neg (by unfold own_P; omega)]
          refine GoW.st (fun t k => XS.icmpNo X23.here hx rfl (hb hby at_253) rfl (teq hc253).2 k) ?_
          show GoW p e below QQ (T23.setTop (mkF m 256 #[.val (.int p1), .val (.int p2), .val (.int p3), .val (.int p4), .val (.int v5), .val (.int nn), .val (.int v38), .val (.int (0 : Int32)), .val (.int cb), .val (.int v65), .val (.ref b3), .val (.ref b19), .val (.int (0 : Int32)), .unset] []))
          have hi253 : ((own_plain (nar .byte (v5.toInt8.toInt32)) (nar .byte (nn.toInt8.toInt32)))).toInt = 0 := (congrArg Int32.toInt hc253)
          refine GoW.st (fun t k => XS.iconst X23.here hx rfl (hb hby at_256) (XS.goto X23.here hx rfl (pc0 := 257) (pc' := 261) rfl (hb hby at_257) (by decide) (by decide) k)) ?_
          show GoW p e below QQ (T23.setTop (mkF m 261 #[.val (.int p1), .val (.int p2), .val (.int p3), .val (.int p4), .val (.int v5), .val (.int nn), .val (.int v38), .val (.int (0 : Int32)), .val (.int cb), .val (.int v65), .val (.ref b3), .val (.ref b19), .val (.int (0 : Int32)), .unset] [(.int (1 : Int32))]))
          exact GoW.fin X23 (some (.int (nar .boolean (1 : Int32)))) (fun q => by rw [hret] at q; cases q) hlk hQ hh23 ⟨rfl, N23⟩ (by decide) (by decide) (fun fs hr => retN X23 hx (t := .boolean) hret (by simp) (hb hby at_261) hr)
        · skip
          refine GoW.st (fun t k => XS.icmpYes X21.here hx rfl (pc0 := 141) (pc' := 150) rfl (hb hby at_141) rfl (flt hc141).2.1 (by decide) (by decide) k) ?_
          show GoW p e below QQ (T21.setTop (mkF m 150 #[.val (.int p1), .val (.int p2), .val (.int p3), .val (.int p4), .val (.int v5), .val (.int nn), .val (.int v38), .val (.int (0 : Int32)), .val (.int cb), .val (.int v65), .val (.ref b3), .val (.ref b19), .unset, .unset] []))
          have hi141 : ¬ (v5.toInt < 32) := (fun q => hc141 (Int32.lt_iff_toInt_lt.mpr q))
          refine GoW.st (fun t k => XS.iload X21.here hx rfl (hb hby at_150) rfl (XS.bipush X21.here hx rfl (hb hby at_152) k)) ?_
          show GoW p e below QQ (T21.setTop (mkF m 154 #[.val (.int p1), .val (.int p2), .val (.int p3), .val (.int p4), .val (.int v5), .val (.int nn), .val (.int v38), .val (.int (0 : Int32)), .val (.int cb), .val (.int v65), .val (.ref b3), .val (.ref b19), .unset, .unset] [(.int (92 : Int32)), (.int v5)]))
          by_cases hc154 : v5 = (92 : Int32)
          · skip
            refine GoW.st (fun t k => XS.icmpNo X21.here hx rfl (hb hby at_154) rfl (teq hc154).2 k) ?_
            show GoW p e below QQ (T21.setTop (mkF m 157 #[.val (.int p1), .val (.int p2), .val (.int p3), .val (.int p4), .val (.int v5), .val (.int nn), .val (.int v38), .val (.int (0 : Int32)), .val (.int cb), .val (.int v65), .val (.ref b3), .val (.ref b19), .unset, .unset] []))
            have hi154 : v5.toInt = 92 := (congrArg Int32.toInt hc154)
            refine GoW.st (fun t k => XS.iconst X21.here hx rfl (hb hby at_157) (XS.istore X21.here hx rfl (hb hby at_158) rfl (l' := #[.val (.int p1), .val (.int p2), .val (.int p3), .val (.int p4), .val (.int v5), .val (.int nn), .val (.int v38), .val (.int (0 : Int32)), .val (.int cb), .val (.int v65), .val (.ref b3), .val (.ref b19), .val (.int (0 : Int32)), .unset]) rfl (XS.goto X21.here hx rfl (pc0 := 160) (pc' := 244) rfl (hb hby at_160) (by decide) (by decide) (XS.aload X21.here hx rfl (hb hby at_244) rfl rfl (XS.iload X21.here hx rfl (hb hby at_246) rfl k))))) ?_
            show GoW p e below QQ (T21.setTop (mkF m 248 #[.val (.int p1), .val (.int p2), .val (.int p3), .val (.int p4), .val (.int v5), .val (.int nn), .val (.int v38), .val (.int (0 : Int32)), .val (.int cb), .val (.int v65), .val (.ref b3), .val (.ref b19), .val (.int (0 : Int32)), .unset] [(.int (0 : Int32)), (.ref b19)]))
            obtain ⟨cq24, kq24, qa24, qb24, qc24⟩ := isOf hZ rfl p21_0
            obtain ⟨_, _, ⟨T24, zL24, zk24, zn24⟩, -, X24, ⟨Lc24, hQ24, zl24, zy24, zz24⟩, st24⟩ := X21.virtualBackUp hx (owner := "com/example/terseform/terseform/TextCursor") (x := (⟨"com/example/terseform/terseform/TextCursorIsPlainAtPinLaw", "isPlainAt", "(I)Z"⟩ : MethodName)) (y := (⟨"com/example/terseform/terseform/TextCursor", "isPlainAt", "(I)Z"⟩ : MethodName)) hown (mvT hZ (hw _ (List.mem_of_getElem? (i := 62) rfl))) (mvT hZ (hw _ (List.mem_of_getElem? (i := 63) rfl))) (mvT hZ (hw _ (List.mem_of_getElem? (i := 64) rfl))) (by decide) (mvT hZ (hw _ (List.mem_of_getElem? (i := 66) rfl))) (mvT hZ (hw _ (List.mem_of_getElem? (i := 65) rfl))) (backOf (W := 0) (rm7_0 l Z a0 hw [] b19 b3 k3 (nar .byte (v5.toInt8.toInt32)) (nar .byte (nn.toInt8.toInt32)) (nar .byte (v38.toInt8.toInt32)) (nar .byte v65) T21.heap n0 (Nat.le_trans Z0 K21.1) p21_1 f22_V_b3) hZ (hw _ (List.mem_of_getElem? (i := 67) rfl)) (hw _ (List.mem_of_getElem? (i := 10) rfl)) (by decide) (by decide)) qa24 qc24 (g := (mkF m 248 #[.val (.int p1), .val (.int p2), .val (.int p3), .val (.int p4), .val (.int v5), .val (.int nn), .val (.int v38), .val (.int (0 : Int32)), .val (.int cb), .val (.int v65), .val (.ref b3), .val (.ref b19), .val (.int (0 : Int32)), .unset] [(.int (0 : Int32)), (.ref b19)])) rfl (by rw [hml]; rfl) (Steps.refl _) (argsL := [(.int (0 : Int32))]) (rest := []) (lenOf pd_4 rfl) rfl (by show 2 * 0 + _ ≤ _; exact Nat.le_of_eq rfl) (hb hby at_248) (fun _ _ => ⟨rfl, rfl, (by decide : 11 + 0 ≤ _), (by decide : 180 + 0 ≤ _)⟩)
            dsimp only [Pt.U, Pt.locs, Pt.cells, Pt.slots] at X24 zl24 zy24 zz24 st24 hQ24
            subst zl24 zy24 zz24
            obtain ⟨rfl, Nq24, hh24⟩ := hQ24
            have N24 := Fr.app N21 Nq24
            refine GoW.st (fun t k => st24.trans k) ?_
            show GoW p e below QQ (T24.setTop (mkF m 251 #[.val (.int p1), .val (.int p2), .val (.int p3), .val (.int p4), .val (.int v5), .val (.int nn), .val (.int v38), .val (.int (0 : Int32)), .val (.int cb), .val (.int v65), .val (.ref b3), .val (.ref b19), .val (.int (0 : Int32)), .unset] [(.int (own_plain (nar .byte (v5.toInt8.toInt32)) (nar .byte (nn.toInt8.toInt32))))]))
            refine GoW.st (fun t k => XS.iload X24.here hx rfl (hb hby at_251) rfl k) ?_
            show GoW p e below QQ (T24.setTop (mkF m 253 #[.val (.int p1), .val (.int p2), .val (.int p3), .val (.int p4), .val (.int v5), .val (.int nn), .val (.int v38), .val (.int (0 : Int32)), .val (.int cb), .val (.int v65), .val (.ref b3), .val (.ref b19), .val (.int (0 : Int32)), .unset] [(.int (0 : Int32)), (.int (own_plain (nar .byte (v5.toInt8.toInt32)) (nar .byte (nn.toInt8.toInt32))))]))
            have hc253 : (own_plain (nar .byte (v5.toInt8.toInt32)) (nar .byte (nn.toInt8.toInt32))) = (0 : Int32) := by
              have f0 := own_nb v5
              have f1 := own_nb nn
              rw [own_plain, if_neg (by unfold own_P; omega)]
            refine GoW.st (fun t k => XS.icmpNo X24.here hx rfl (hb hby at_253) rfl (teq hc253).2 k) ?_
            show GoW p e below QQ (T24.setTop (mkF m 256 #[.val (.int p1), .val (.int p2), .val (.int p3), .val (.int p4), .val (.int v5), .val (.int nn), .val (.int v38), .val (.int (0 : Int32)), .val (.int cb), .val (.int v65), .val (.ref b3), .val (.ref b19), .val (.int (0 : Int32)), .unset] []))
            have hi253 : ((own_plain (nar .byte (v5.toInt8.toInt32)) (nar .byte (nn.toInt8.toInt32)))).toInt = 0 := (congrArg Int32.toInt hc253)
            refine GoW.st (fun t k => XS.iconst X24.here hx rfl (hb hby at_256) (XS.goto X24.here hx rfl (pc0 := 257) (pc' := 261) rfl (hb hby at_257) (by decide) (by decide) k)) ?_
            show GoW p e below QQ (T24.setTop (mkF m 261 #[.val (.int p1), .val (.int p2), .val (.int p3), .val (.int p4), .val (.int v5), .val (.int nn), .val (.int v38), .val (.int (0 : Int32)), .val (.int cb), .val (.int v65), .val (.ref b3), .val (.ref b19), .val (.int (0 : Int32)), .unset] [(.int (1 : Int32))]))
            exact GoW.fin X24 (some (.int (nar .boolean (1 : Int32)))) (fun q => by rw [hret] at q; cases q) hlk hQ hh24 ⟨rfl, N24⟩ (by decide) (by decide) (fun fs hr => retN X24 hx (t := .boolean) hret (by simp) (hb hby at_261) hr)
          · skip
            refine GoW.st (fun t k => XS.icmpYes X21.here hx rfl (pc0 := 154) (pc' := 163) rfl (hb hby at_154) rfl (feq hc154).2 (by decide) (by decide) k) ?_
            show GoW p e below QQ (T21.setTop (mkF m 163 #[.val (.int p1), .val (.int p2), .val (.int p3), .val (.int p4), .val (.int v5), .val (.int nn), .val (.int v38), .val (.int (0 : Int32)), .val (.int cb), .val (.int v65), .val (.ref b3), .val (.ref b19), .unset, .unset] []))
            have hi154 : ¬ (v5.toInt = 92) := (fun q => hc154 (Int32.toInt_inj.mp q))
            refine GoW.st (fun t k => XS.iload X21.here hx rfl (hb hby at_163) rfl (XS.sipush X21.here hx rfl (hb hby at_165) k)) ?_
            show GoW p e below QQ (T21.setTop (mkF m 168 #[.val (.int p1), .val (.int p2), .val (.int p3), .val (.int p4), .val (.int v5), .val (.int nn), .val (.int v38), .val (.int (0 : Int32)), .val (.int cb), .val (.int v65), .val (.ref b3), .val (.ref b19), .unset, .unset] [(.int (128 : Int32)), (.int v5)]))
            by_cases hc168 : v5 < (128 : Int32)
            · skip
              refine GoW.st (fun t k => XS.icmpNo X21.here hx rfl (hb hby at_168) rfl (tlt hc168).2.1 k) ?_
              show GoW p e below QQ (T21.setTop (mkF m 171 #[.val (.int p1), .val (.int p2), .val (.int p3), .val (.int p4), .val (.int v5), .val (.int nn), .val (.int v38), .val (.int (0 : Int32)), .val (.int cb), .val (.int v65), .val (.ref b3), .val (.ref b19), .unset, .unset] []))
              have hi168 : v5.toInt < 128 := (Int32.lt_iff_toInt_lt.mp hc168)
              refine GoW.st (fun t k => XS.iconst X21.here hx rfl (hb hby at_171) (XS.istore X21.here hx rfl (hb hby at_172) rfl (l' := #[.val (.int p1), .val (.int p2), .val (.int p3), .val (.int p4), .val (.int v5), .val (.int nn), .val (.int v38), .val (.int (0 : Int32)), .val (.int cb), .val (.int v65), .val (.ref b3), .val (.ref b19), .val (.int (1 : Int32)), .unset]) rfl (XS.goto X21.here hx rfl (pc0 := 174) (pc' := 244) rfl (hb hby at_174) (by decide) (by decide) (XS.aload X21.here hx rfl (hb hby at_244) rfl rfl (XS.iload X21.here hx rfl (hb hby at_246) rfl k))))) ?_
              show GoW p e below QQ (T21.setTop (mkF m 248 #[.val (.int p1), .val (.int p2), .val (.int p3), .val (.int p4), .val (.int v5), .val (.int nn), .val (.int v38), .val (.int (0 : Int32)), .val (.int cb), .val (.int v65), .val (.ref b3), .val (.ref b19), .val (.int (1 : Int32)), .unset] [(.int (0 : Int32)), (.ref b19)]))
              obtain ⟨cq25, kq25, qa25, qb25, qc25⟩ := isOf hZ rfl p21_0
              obtain ⟨_, _, ⟨T25, zL25, zk25, zn25⟩, -, X25, ⟨Lc25, hQ25, zl25, zy25, zz25⟩, st25⟩ := X21.virtualBackUp hx (owner := "com/example/terseform/terseform/TextCursor") (x := (⟨"com/example/terseform/terseform/TextCursorIsPlainAtPinLaw", "isPlainAt", "(I)Z"⟩ : MethodName)) (y := (⟨"com/example/terseform/terseform/TextCursor", "isPlainAt", "(I)Z"⟩ : MethodName)) hown (mvT hZ (hw _ (List.mem_of_getElem? (i := 62) rfl))) (mvT hZ (hw _ (List.mem_of_getElem? (i := 63) rfl))) (mvT hZ (hw _ (List.mem_of_getElem? (i := 64) rfl))) (by decide) (mvT hZ (hw _ (List.mem_of_getElem? (i := 66) rfl))) (mvT hZ (hw _ (List.mem_of_getElem? (i := 65) rfl))) (backOf (W := 0) (rm7_0 l Z a0 hw [] b19 b3 k3 (nar .byte (v5.toInt8.toInt32)) (nar .byte (nn.toInt8.toInt32)) (nar .byte (v38.toInt8.toInt32)) (nar .byte v65) T21.heap n0 (Nat.le_trans Z0 K21.1) p21_1 f22_V_b3) hZ (hw _ (List.mem_of_getElem? (i := 67) rfl)) (hw _ (List.mem_of_getElem? (i := 10) rfl)) (by decide) (by decide)) qa25 qc25 (g := (mkF m 248 #[.val (.int p1), .val (.int p2), .val (.int p3), .val (.int p4), .val (.int v5), .val (.int nn), .val (.int v38), .val (.int (0 : Int32)), .val (.int cb), .val (.int v65), .val (.ref b3), .val (.ref b19), .val (.int (1 : Int32)), .unset] [(.int (0 : Int32)), (.ref b19)])) rfl (by rw [hml]; rfl) (Steps.refl _) (argsL := [(.int (0 : Int32))]) (rest := []) (lenOf pd_4 rfl) rfl (by show 2 * 0 + _ ≤ _; exact Nat.le_of_eq rfl) (hb hby at_248) (fun _ _ => ⟨rfl, rfl, (by decide : 11 + 0 ≤ _), (by decide : 180 + 0 ≤ _)⟩)
              dsimp only [Pt.U, Pt.locs, Pt.cells, Pt.slots] at X25 zl25 zy25 zz25 st25 hQ25
              subst zl25 zy25 zz25
              obtain ⟨rfl, Nq25, hh25⟩ := hQ25
              have N25 := Fr.app N21 Nq25
              refine GoW.st (fun t k => st25.trans k) ?_
              show GoW p e below QQ (T25.setTop (mkF m 251 #[.val (.int p1), .val (.int p2), .val (.int p3), .val (.int p4), .val (.int v5), .val (.int nn), .val (.int v38), .val (.int (0 : Int32)), .val (.int cb), .val (.int v65), .val (.ref b3), .val (.ref b19), .val (.int (1 : Int32)), .unset] [(.int (own_plain (nar .byte (v5.toInt8.toInt32)) (nar .byte (nn.toInt8.toInt32))))]))
              refine GoW.st (fun t k => XS.iload X25.here hx rfl (hb hby at_251) rfl k) ?_
              show GoW p e below QQ (T25.setTop (mkF m 253 #[.val (.int p1), .val (.int p2), .val (.int p3), .val (.int p4), .val (.int v5), .val (.int nn), .val (.int v38), .val (.int (0 : Int32)), .val (.int cb), .val (.int v65), .val (.ref b3), .val (.ref b19), .val (.int (1 : Int32)), .unset] [(.int (1 : Int32)), (.int (own_plain (nar .byte (v5.toInt8.toInt32)) (nar .byte (nn.toInt8.toInt32))))]))
              have hc253 : (own_plain (nar .byte (v5.toInt8.toInt32)) (nar .byte (nn.toInt8.toInt32))) = (1 : Int32) := by
                have f0 := own_nb v5
                have f1 := own_nb nn
                rw [own_plain, if_pos (by unfold own_P; omega)]
              refine GoW.st (fun t k => XS.icmpNo X25.here hx rfl (hb hby at_253) rfl (teq hc253).2 k) ?_
              show GoW p e below QQ (T25.setTop (mkF m 256 #[.val (.int p1), .val (.int p2), .val (.int p3), .val (.int p4), .val (.int v5), .val (.int nn), .val (.int v38), .val (.int (0 : Int32)), .val (.int cb), .val (.int v65), .val (.ref b3), .val (.ref b19), .val (.int (1 : Int32)), .unset] []))
              have hi253 : ((own_plain (nar .byte (v5.toInt8.toInt32)) (nar .byte (nn.toInt8.toInt32)))).toInt = 1 := (congrArg Int32.toInt hc253)
              refine GoW.st (fun t k => XS.iconst X25.here hx rfl (hb hby at_256) (XS.goto X25.here hx rfl (pc0 := 257) (pc' := 261) rfl (hb hby at_257) (by decide) (by decide) k)) ?_
              show GoW p e below QQ (T25.setTop (mkF m 261 #[.val (.int p1), .val (.int p2), .val (.int p3), .val (.int p4), .val (.int v5), .val (.int nn), .val (.int v38), .val (.int (0 : Int32)), .val (.int cb), .val (.int v65), .val (.ref b3), .val (.ref b19), .val (.int (1 : Int32)), .unset] [(.int (1 : Int32))]))
              exact GoW.fin X25 (some (.int (nar .boolean (1 : Int32)))) (fun q => by rw [hret] at q; cases q) hlk hQ hh25 ⟨rfl, N25⟩ (by decide) (by decide) (fun fs hr => retN X25 hx (t := .boolean) hret (by simp) (hb hby at_261) hr)
            · skip
              refine GoW.st (fun t k => XS.icmpYes X21.here hx rfl (pc0 := 168) (pc' := 177) rfl (hb hby at_168) rfl (flt hc168).2.1 (by decide) (by decide) k) ?_
              show GoW p e below QQ (T21.setTop (mkF m 177 #[.val (.int p1), .val (.int p2), .val (.int p3), .val (.int p4), .val (.int v5), .val (.int nn), .val (.int v38), .val (.int (0 : Int32)), .val (.int cb), .val (.int v65), .val (.ref b3), .val (.ref b19), .unset, .unset] []))
              have hi168 : ¬ (v5.toInt < 128) := (fun q => hc168 (Int32.lt_iff_toInt_lt.mpr q))
              refine GoW.st (fun t k => XS.iload X21.here hx rfl (hb hby at_177) rfl (XS.sipush X21.here hx rfl (hb hby at_179) k)) ?_
              show GoW p e below QQ (T21.setTop (mkF m 182 #[.val (.int p1), .val (.int p2), .val (.int p3), .val (.int p4), .val (.int v5), .val (.int nn), .val (.int v38), .val (.int (0 : Int32)), .val (.int cb), .val (.int v65), .val (.ref b3), .val (.ref b19), .unset, .unset] [(.int (224 : Int32)), (.int v5)]))
              by_cases hc182 : v5 < (224 : Int32)
              · skip
                refine GoW.st (fun t k => XS.icmpNo X21.here hx rfl (hb hby at_182) rfl (tlt hc182).2.1 k) ?_
                show GoW p e below QQ (T21.setTop (mkF m 185 #[.val (.int p1), .val (.int p2), .val (.int p3), .val (.int p4), .val (.int v5), .val (.int nn), .val (.int v38), .val (.int (0 : Int32)), .val (.int cb), .val (.int v65), .val (.ref b3), .val (.ref b19), .unset, .unset] []))
                have hi182 : v5.toInt < 224 := (Int32.lt_iff_toInt_lt.mp hc182)
                refine GoW.st (fun t k => XS.iconst X21.here hx rfl (hb hby at_185) (XS.istore X21.here hx rfl (hb hby at_186) rfl (l' := #[.val (.int p1), .val (.int p2), .val (.int p3), .val (.int p4), .val (.int v5), .val (.int nn), .val (.int v38), .val (.int (0 : Int32)), .val (.int cb), .val (.int v65), .val (.ref b3), .val (.ref b19), .val (.int (1 : Int32)), .unset]) rfl (XS.goto X21.here hx rfl (pc0 := 188) (pc' := 244) rfl (hb hby at_188) (by decide) (by decide) (XS.aload X21.here hx rfl (hb hby at_244) rfl rfl (XS.iload X21.here hx rfl (hb hby at_246) rfl k))))) ?_
                show GoW p e below QQ (T21.setTop (mkF m 248 #[.val (.int p1), .val (.int p2), .val (.int p3), .val (.int p4), .val (.int v5), .val (.int nn), .val (.int v38), .val (.int (0 : Int32)), .val (.int cb), .val (.int v65), .val (.ref b3), .val (.ref b19), .val (.int (1 : Int32)), .unset] [(.int (0 : Int32)), (.ref b19)]))
                obtain ⟨cq26, kq26, qa26, qb26, qc26⟩ := isOf hZ rfl p21_0
                obtain ⟨_, _, ⟨T26, zL26, zk26, zn26⟩, -, X26, ⟨Lc26, hQ26, zl26, zy26, zz26⟩, st26⟩ := X21.virtualBackUp hx (owner := "com/example/terseform/terseform/TextCursor") (x := (⟨"com/example/terseform/terseform/TextCursorIsPlainAtPinLaw", "isPlainAt", "(I)Z"⟩ : MethodName)) (y := (⟨"com/example/terseform/terseform/TextCursor", "isPlainAt", "(I)Z"⟩ : MethodName)) hown (mvT hZ (hw _ (List.mem_of_getElem? (i := 62) rfl))) (mvT hZ (hw _ (List.mem_of_getElem? (i := 63) rfl))) (mvT hZ (hw _ (List.mem_of_getElem? (i := 64) rfl))) (by decide) (mvT hZ (hw _ (List.mem_of_getElem? (i := 66) rfl))) (mvT hZ (hw _ (List.mem_of_getElem? (i := 65) rfl))) (backOf (W := 0) (rm7_0 l Z a0 hw [] b19 b3 k3 (nar .byte (v5.toInt8.toInt32)) (nar .byte (nn.toInt8.toInt32)) (nar .byte (v38.toInt8.toInt32)) (nar .byte v65) T21.heap n0 (Nat.le_trans Z0 K21.1) p21_1 f22_V_b3) hZ (hw _ (List.mem_of_getElem? (i := 67) rfl)) (hw _ (List.mem_of_getElem? (i := 10) rfl)) (by decide) (by decide)) qa26 qc26 (g := (mkF m 248 #[.val (.int p1), .val (.int p2), .val (.int p3), .val (.int p4), .val (.int v5), .val (.int nn), .val (.int v38), .val (.int (0 : Int32)), .val (.int cb), .val (.int v65), .val (.ref b3), .val (.ref b19), .val (.int (1 : Int32)), .unset] [(.int (0 : Int32)), (.ref b19)])) rfl (by rw [hml]; rfl) (Steps.refl _) (argsL := [(.int (0 : Int32))]) (rest := []) (lenOf pd_4 rfl) rfl (by show 2 * 0 + _ ≤ _; exact Nat.le_of_eq rfl) (hb hby at_248) (fun _ _ => ⟨rfl, rfl, (by decide : 11 + 0 ≤ _), (by decide : 180 + 0 ≤ _)⟩)
                dsimp only [Pt.U, Pt.locs, Pt.cells, Pt.slots] at X26 zl26 zy26 zz26 st26 hQ26
                subst zl26 zy26 zz26
                obtain ⟨rfl, Nq26, hh26⟩ := hQ26
                have N26 := Fr.app N21 Nq26
                refine GoW.st (fun t k => st26.trans k) ?_
                show GoW p e below QQ (T26.setTop (mkF m 251 #[.val (.int p1), .val (.int p2), .val (.int p3), .val (.int p4), .val (.int v5), .val (.int nn), .val (.int v38), .val (.int (0 : Int32)), .val (.int cb), .val (.int v65), .val (.ref b3), .val (.ref b19), .val (.int (1 : Int32)), .unset] [(.int (own_plain (nar .byte (v5.toInt8.toInt32)) (nar .byte (nn.toInt8.toInt32))))]))
                refine GoW.st (fun t k => XS.iload X26.here hx rfl (hb hby at_251) rfl k) ?_
                show GoW p e below QQ (T26.setTop (mkF m 253 #[.val (.int p1), .val (.int p2), .val (.int p3), .val (.int p4), .val (.int v5), .val (.int nn), .val (.int v38), .val (.int (0 : Int32)), .val (.int cb), .val (.int v65), .val (.ref b3), .val (.ref b19), .val (.int (1 : Int32)), .unset] [(.int (1 : Int32)), (.int (own_plain (nar .byte (v5.toInt8.toInt32)) (nar .byte (nn.toInt8.toInt32))))]))
                have hc253 : (own_plain (nar .byte (v5.toInt8.toInt32)) (nar .byte (nn.toInt8.toInt32))) = (1 : Int32) := by
                  have f0 := own_nb v5
                  have f1 := own_nb nn
                  rw [own_plain, if_pos (by unfold own_P; omega)]
                refine GoW.st (fun t k => XS.icmpNo X26.here hx rfl (hb hby at_253) rfl (teq hc253).2 k) ?_
                show GoW p e below QQ (T26.setTop (mkF m 256 #[.val (.int p1), .val (.int p2), .val (.int p3), .val (.int p4), .val (.int v5), .val (.int nn), .val (.int v38), .val (.int (0 : Int32)), .val (.int cb), .val (.int v65), .val (.ref b3), .val (.ref b19), .val (.int (1 : Int32)), .unset] []))
                have hi253 : ((own_plain (nar .byte (v5.toInt8.toInt32)) (nar .byte (nn.toInt8.toInt32)))).toInt = 1 := (congrArg Int32.toInt hc253)
                refine GoW.st (fun t k => XS.iconst X26.here hx rfl (hb hby at_256) (XS.goto X26.here hx rfl (pc0 := 257) (pc' := 261) rfl (hb hby at_257) (by decide) (by decide) k)) ?_
                show GoW p e below QQ (T26.setTop (mkF m 261 #[.val (.int p1), .val (.int p2), .val (.int p3), .val (.int p4), .val (.int v5), .val (.int nn), .val (.int v38), .val (.int (0 : Int32)), .val (.int cb), .val (.int v65), .val (.ref b3), .val (.ref b19), .val (.int (1 : Int32)), .unset] [(.int (1 : Int32))]))
                exact GoW.fin X26 (some (.int (nar .boolean (1 : Int32)))) (fun q => by rw [hret] at q; cases q) hlk hQ hh26 ⟨rfl, N26⟩ (by decide) (by decide) (fun fs hr => retN X26 hx (t := .boolean) hret (by simp) (hb hby at_261) hr)
              · skip
                refine GoW.st (fun t k => XS.icmpYes X21.here hx rfl (pc0 := 182) (pc' := 191) rfl (hb hby at_182) rfl (flt hc182).2.1 (by decide) (by decide) k) ?_
                show GoW p e below QQ (T21.setTop (mkF m 191 #[.val (.int p1), .val (.int p2), .val (.int p3), .val (.int p4), .val (.int v5), .val (.int nn), .val (.int v38), .val (.int (0 : Int32)), .val (.int cb), .val (.int v65), .val (.ref b3), .val (.ref b19), .unset, .unset] []))
                have hi182 : ¬ (v5.toInt < 224) := (fun q => hc182 (Int32.lt_iff_toInt_lt.mpr q))
                refine GoW.st (fun t k => XS.iload X21.here hx rfl (hb hby at_191) rfl (XS.sipush X21.here hx rfl (hb hby at_193) k)) ?_
                show GoW p e below QQ (T21.setTop (mkF m 196 #[.val (.int p1), .val (.int p2), .val (.int p3), .val (.int p4), .val (.int v5), .val (.int nn), .val (.int v38), .val (.int (0 : Int32)), .val (.int cb), .val (.int v65), .val (.ref b3), .val (.ref b19), .unset, .unset] [(.int (240 : Int32)), (.int v5)]))
                by_cases hc196 : v5 < (240 : Int32)
                · skip
                  refine GoW.st (fun t k => XS.icmpNo X21.here hx rfl (hb hby at_196) rfl (tlt hc196).2.1 k) ?_
                  show GoW p e below QQ (T21.setTop (mkF m 199 #[.val (.int p1), .val (.int p2), .val (.int p3), .val (.int p4), .val (.int v5), .val (.int nn), .val (.int v38), .val (.int (0 : Int32)), .val (.int cb), .val (.int v65), .val (.ref b3), .val (.ref b19), .unset, .unset] []))
                  have hi196 : v5.toInt < 240 := (Int32.lt_iff_toInt_lt.mp hc196)
                  refine GoW.st (fun t k => XS.iload X21.here hx rfl (hb hby at_199) rfl (XS.bipush X21.here hx rfl (hb hby at_201) (XS.iand X21.here hx rfl (hb hby at_203) rfl (XS.bipush X21.here hx rfl (hb hby at_204) (XS.ishl X21.here hx rfl (hb hby at_206) rfl (XS.iload X21.here hx rfl (hb hby at_207) rfl k)))))) ?_
                  show GoW p e below QQ (T21.setTop (mkF m 209 #[.val (.int p1), .val (.int p2), .val (.int p3), .val (.int p4), .val (.int v5), .val (.int nn), .val (.int v38), .val (.int (0 : Int32)), .val (.int cb), .val (.int v65), .val (.ref b3), .val (.ref b19), .unset, .unset] [(.int nn), (.int ((v5 &&& (15 : Int32)) <<< ((12 : Int32) &&& 31)))]))
                  refine GoW.st (fun t k => XS.bipush X21.here hx rfl (hb hby at_209) (XS.iand X21.here hx rfl (hb hby at_211) rfl (XS.bipush X21.here hx rfl (hb hby at_212) (XS.ishl X21.here hx rfl (hb hby at_214) rfl (XS.ior X21.here hx rfl (hb hby at_215) rfl (XS.iload X21.here hx rfl (hb hby at_216) rfl k)))))) ?_
                  show GoW p e below QQ (T21.setTop (mkF m 218 #[.val (.int p1), .val (.int p2), .val (.int p3), .val (.int p4), .val (.int v5), .val (.int nn), .val (.int v38), .val (.int (0 : Int32)), .val (.int cb), .val (.int v65), .val (.ref b3), .val (.ref b19), .unset, .unset] [(.int v38), (.int (((v5 &&& (15 : Int32)) <<< ((12 : Int32) &&& 31)) ||| ((nn &&& (63 : Int32)) <<< ((6 : Int32) &&& 31))))]))
                  refine GoW.st (fun t k => XS.bipush X21.here hx rfl (hb hby at_218) (XS.iand X21.here hx rfl (hb hby at_220) rfl (XS.ior X21.here hx rfl (hb hby at_221) rfl (XS.istore X21.here hx rfl (hb hby at_222) rfl (l' := #[.val (.int p1), .val (.int p2), .val (.int p3), .val (.int p4), .val (.int v5), .val (.int nn), .val (.int v38), .val (.int (0 : Int32)), .val (.int cb), .val (.int v65), .val (.ref b3), .val (.ref b19), .unset, .val (.int ((((v5 &&& (15 : Int32)) <<< ((12 : Int32) &&& 31)) ||| ((nn &&& (63 : Int32)) <<< ((6 : Int32) &&& 31))) ||| (v38 &&& (63 : Int32))))]) rfl k)))) ?_
                  show GoW p e below QQ (T21.setTop (mkF m 224 #[.val (.int p1), .val (.int p2), .val (.int p3), .val (.int p4), .val (.int v5), .val (.int nn), .val (.int v38), .val (.int (0 : Int32)), .val (.int cb), .val (.int v65), .val (.ref b3), .val (.ref b19), .unset, .val (.int ((((v5 &&& (15 : Int32)) <<< ((12 : Int32) &&& 31)) ||| ((nn &&& (63 : Int32)) <<< ((6 : Int32) &&& 31))) ||| (v38 &&& (63 : Int32))))] []))
                  generalize hv222 : ((((v5 &&& (15 : Int32)) <<< ((12 : Int32) &&& 31)) ||| ((nn &&& (63 : Int32)) <<< ((6 : Int32) &&& 31))) ||| (v38 &&& (63 : Int32))) = v222
                  have cpv := own_cp v5 nn v38 (by omega)
                  rw [hv222] at cpv
                  refine GoW.st (fun t k => XS.iload X21.here hx rfl (hb hby at_224) rfl (X21.ldcInt hx hown (mvT hZ (hw _ (List.mem_of_getElem? (i := 68) rfl))) (g := (mkF m 226 #[.val (.int p1), .val (.int p2), .val (.int p3), .val (.int p4), .val (.int v5), .val (.int nn), .val (.int v38), .val (.int (0 : Int32)), .val (.int cb), .val (.int v65), .val (.ref b3), .val (.ref b19), .unset, .val (.int v222)] [(.int v222)])) rfl (hb hby at_226) t k)) ?_
                  show GoW p e below QQ (T21.setTop (mkF m 228 #[.val (.int p1), .val (.int p2), .val (.int p3), .val (.int p4), .val (.int v5), .val (.int nn), .val (.int v38), .val (.int (0 : Int32)), .val (.int cb), .val (.int v65), .val (.ref b3), .val (.ref b19), .unset, .val (.int v222)] [(.int (55296 : Int32)), (.int v222)]))
                  by_cases hc228 : v222 < (55296 : Int32)
                  · skip
                    refine GoW.st (fun t k => XS.icmpNo X21.here hx rfl (hb hby at_228) rfl (tlt hc228).2.1 k) ?_
                    show GoW p e below QQ (T21.setTop (mkF m 231 #[.val (.int p1), .val (.int p2), .val (.int p3), .val (.int p4), .val (.int v5), .val (.int nn), .val (.int v38), .val (.int (0 : Int32)), .val (.int cb), .val (.int v65), .val (.ref b3), .val (.ref b19), .unset, .val (.int v222)] []))
                    have hi228 : v222.toInt < 55296 := (Int32.lt_iff_toInt_lt.mp hc228)
                    refine GoW.st (fun t k => XS.iconst X21.here hx rfl (hb hby at_231) (XS.goto X21.here hx rfl (pc0 := 232) (pc' := 236) rfl (hb hby at_232) (by decide) (by decide) (XS.istore X21.here hx rfl (hb hby at_236) rfl (l' := #[.val (.int p1), .val (.int p2), .val (.int p3), .val (.int p4), .val (.int v5), .val (.int nn), .val (.int v38), .val (.int (0 : Int32)), .val (.int cb), .val (.int v65), .val (.ref b3), .val (.ref b19), .val (.int (1 : Int32)), .val (.int v222)]) rfl (XS.goto X21.here hx rfl (pc0 := 238) (pc' := 244) rfl (hb hby at_238) (by decide) (by decide) (XS.aload X21.here hx rfl (hb hby at_244) rfl rfl (XS.iload X21.here hx rfl (hb hby at_246) rfl k)))))) ?_
                    show GoW p e below QQ (T21.setTop (mkF m 248 #[.val (.int p1), .val (.int p2), .val (.int p3), .val (.int p4), .val (.int v5), .val (.int nn), .val (.int v38), .val (.int (0 : Int32)), .val (.int cb), .val (.int v65), .val (.ref b3), .val (.ref b19), .val (.int (1 : Int32)), .val (.int v222)] [(.int (0 : Int32)), (.ref b19)]))
                    obtain ⟨cq27, kq27, qa27, qb27, qc27⟩ := isOf hZ rfl p21_0
                    obtain ⟨_, _, ⟨T27, zL27, zk27, zn27⟩, -, X27, ⟨Lc27, hQ27, zl27, zy27, zz27⟩, st27⟩ := X21.virtualBackUp hx (owner := "com/example/terseform/terseform/TextCursor") (x := (⟨"com/example/terseform/terseform/TextCursorIsPlainAtPinLaw", "isPlainAt", "(I)Z"⟩ : MethodName)) (y := (⟨"com/example/terseform/terseform/TextCursor", "isPlainAt", "(I)Z"⟩ : MethodName)) hown (mvT hZ (hw _ (List.mem_of_getElem? (i := 62) rfl))) (mvT hZ (hw _ (List.mem_of_getElem? (i := 63) rfl))) (mvT hZ (hw _ (List.mem_of_getElem? (i := 64) rfl))) (by decide) (mvT hZ (hw _ (List.mem_of_getElem? (i := 66) rfl))) (mvT hZ (hw _ (List.mem_of_getElem? (i := 65) rfl))) (backOf (W := 0) (rm7_0 l Z a0 hw [] b19 b3 k3 (nar .byte (v5.toInt8.toInt32)) (nar .byte (nn.toInt8.toInt32)) (nar .byte (v38.toInt8.toInt32)) (nar .byte v65) T21.heap n0 (Nat.le_trans Z0 K21.1) p21_1 f22_V_b3) hZ (hw _ (List.mem_of_getElem? (i := 67) rfl)) (hw _ (List.mem_of_getElem? (i := 10) rfl)) (by decide) (by decide)) qa27 qc27 (g := (mkF m 248 #[.val (.int p1), .val (.int p2), .val (.int p3), .val (.int p4), .val (.int v5), .val (.int nn), .val (.int v38), .val (.int (0 : Int32)), .val (.int cb), .val (.int v65), .val (.ref b3), .val (.ref b19), .val (.int (1 : Int32)), .val (.int v222)] [(.int (0 : Int32)), (.ref b19)])) rfl (by rw [hml]; rfl) (Steps.refl _) (argsL := [(.int (0 : Int32))]) (rest := []) (lenOf pd_4 rfl) rfl (by show 2 * 0 + _ ≤ _; exact Nat.le_of_eq rfl) (hb hby at_248) (fun _ _ => ⟨rfl, rfl, (by decide : 11 + 0 ≤ _), (by decide : 180 + 0 ≤ _)⟩)
                    dsimp only [Pt.U, Pt.locs, Pt.cells, Pt.slots] at X27 zl27 zy27 zz27 st27 hQ27
                    subst zl27 zy27 zz27
                    obtain ⟨rfl, Nq27, hh27⟩ := hQ27
                    have N27 := Fr.app N21 Nq27
                    refine GoW.st (fun t k => st27.trans k) ?_
                    show GoW p e below QQ (T27.setTop (mkF m 251 #[.val (.int p1), .val (.int p2), .val (.int p3), .val (.int p4), .val (.int v5), .val (.int nn), .val (.int v38), .val (.int (0 : Int32)), .val (.int cb), .val (.int v65), .val (.ref b3), .val (.ref b19), .val (.int (1 : Int32)), .val (.int v222)] [(.int (own_plain (nar .byte (v5.toInt8.toInt32)) (nar .byte (nn.toInt8.toInt32))))]))
                    refine GoW.st (fun t k => XS.iload X27.here hx rfl (hb hby at_251) rfl k) ?_
                    show GoW p e below QQ (T27.setTop (mkF m 253 #[.val (.int p1), .val (.int p2), .val (.int p3), .val (.int p4), .val (.int v5), .val (.int nn), .val (.int v38), .val (.int (0 : Int32)), .val (.int cb), .val (.int v65), .val (.ref b3), .val (.ref b19), .val (.int (1 : Int32)), .val (.int v222)] [(.int (1 : Int32)), (.int (own_plain (nar .byte (v5.toInt8.toInt32)) (nar .byte (nn.toInt8.toInt32))))]))
                    have hc253 : (own_plain (nar .byte (v5.toInt8.toInt32)) (nar .byte (nn.toInt8.toInt32))) = (1 : Int32) := by
                      have f0 := own_nb v5
                      have f1 := own_nb nn
                      rw [own_plain, if_pos (by unfold own_P; omega)]
                    refine GoW.st (fun t k => XS.icmpNo X27.here hx rfl (hb hby at_253) rfl (teq hc253).2 k) ?_
                    show GoW p e below QQ (T27.setTop (mkF m 256 #[.val (.int p1), .val (.int p2), .val (.int p3), .val (.int p4), .val (.int v5), .val (.int nn), .val (.int v38), .val (.int (0 : Int32)), .val (.int cb), .val (.int v65), .val (.ref b3), .val (.ref b19), .val (.int (1 : Int32)), .val (.int v222)] []))
                    have hi253 : ((own_plain (nar .byte (v5.toInt8.toInt32)) (nar .byte (nn.toInt8.toInt32)))).toInt = 1 := (congrArg Int32.toInt hc253)
                    refine GoW.st (fun t k => XS.iconst X27.here hx rfl (hb hby at_256) (XS.goto X27.here hx rfl (pc0 := 257) (pc' := 261) rfl (hb hby at_257) (by decide) (by decide) k)) ?_
                    show GoW p e below QQ (T27.setTop (mkF m 261 #[.val (.int p1), .val (.int p2), .val (.int p3), .val (.int p4), .val (.int v5), .val (.int nn), .val (.int v38), .val (.int (0 : Int32)), .val (.int cb), .val (.int v65), .val (.ref b3), .val (.ref b19), .val (.int (1 : Int32)), .val (.int v222)] [(.int (1 : Int32))]))
                    exact GoW.fin X27 (some (.int (nar .boolean (1 : Int32)))) (fun q => by rw [hret] at q; cases q) hlk hQ hh27 ⟨rfl, N27⟩ (by decide) (by decide) (fun fs hr => retN X27 hx (t := .boolean) hret (by simp) (hb hby at_261) hr)
                  · skip
                    refine GoW.st (fun t k => XS.icmpYes X21.here hx rfl (pc0 := 228) (pc' := 235) rfl (hb hby at_228) rfl (flt hc228).2.1 (by decide) (by decide) k) ?_
                    show GoW p e below QQ (T21.setTop (mkF m 235 #[.val (.int p1), .val (.int p2), .val (.int p3), .val (.int p4), .val (.int v5), .val (.int nn), .val (.int v38), .val (.int (0 : Int32)), .val (.int cb), .val (.int v65), .val (.ref b3), .val (.ref b19), .unset, .val (.int v222)] []))
                    have hi228 : ¬ (v222.toInt < 55296) := (fun q => hc228 (Int32.lt_iff_toInt_lt.mpr q))
                    refine GoW.st (fun t k => XS.iconst X21.here hx rfl (hb hby at_235) (XS.istore X21.here hx rfl (hb hby at_236) rfl (l' := #[.val (.int p1), .val (.int p2), .val (.int p3), .val (.int p4), .val (.int v5), .val (.int nn), .val (.int v38), .val (.int (0 : Int32)), .val (.int cb), .val (.int v65), .val (.ref b3), .val (.ref b19), .val (.int (0 : Int32)), .val (.int v222)]) rfl (XS.goto X21.here hx rfl (pc0 := 238) (pc' := 244) rfl (hb hby at_238) (by decide) (by decide) (XS.aload X21.here hx rfl (hb hby at_244) rfl rfl (XS.iload X21.here hx rfl (hb hby at_246) rfl k))))) ?_
                    show GoW p e below QQ (T21.setTop (mkF m 248 #[.val (.int p1), .val (.int p2), .val (.int p3), .val (.int p4), .val (.int v5), .val (.int nn), .val (.int v38), .val (.int (0 : Int32)), .val (.int cb), .val (.int v65), .val (.ref b3), .val (.ref b19), .val (.int (0 : Int32)), .val (.int v222)] [(.int (0 : Int32)), (.ref b19)]))
                    obtain ⟨cq28, kq28, qa28, qb28, qc28⟩ := isOf hZ rfl p21_0
                    obtain ⟨_, _, ⟨T28, zL28, zk28, zn28⟩, -, X28, ⟨Lc28, hQ28, zl28, zy28, zz28⟩, st28⟩ := X21.virtualBackUp hx (owner := "com/example/terseform/terseform/TextCursor") (x := (⟨"com/example/terseform/terseform/TextCursorIsPlainAtPinLaw", "isPlainAt", "(I)Z"⟩ : MethodName)) (y := (⟨"com/example/terseform/terseform/TextCursor", "isPlainAt", "(I)Z"⟩ : MethodName)) hown (mvT hZ (hw _ (List.mem_of_getElem? (i := 62) rfl))) (mvT hZ (hw _ (List.mem_of_getElem? (i := 63) rfl))) (mvT hZ (hw _ (List.mem_of_getElem? (i := 64) rfl))) (by decide) (mvT hZ (hw _ (List.mem_of_getElem? (i := 66) rfl))) (mvT hZ (hw _ (List.mem_of_getElem? (i := 65) rfl))) (backOf (W := 0) (rm7_0 l Z a0 hw [] b19 b3 k3 (nar .byte (v5.toInt8.toInt32)) (nar .byte (nn.toInt8.toInt32)) (nar .byte (v38.toInt8.toInt32)) (nar .byte v65) T21.heap n0 (Nat.le_trans Z0 K21.1) p21_1 f22_V_b3) hZ (hw _ (List.mem_of_getElem? (i := 67) rfl)) (hw _ (List.mem_of_getElem? (i := 10) rfl)) (by decide) (by decide)) qa28 qc28 (g := (mkF m 248 #[.val (.int p1), .val (.int p2), .val (.int p3), .val (.int p4), .val (.int v5), .val (.int nn), .val (.int v38), .val (.int (0 : Int32)), .val (.int cb), .val (.int v65), .val (.ref b3), .val (.ref b19), .val (.int (0 : Int32)), .val (.int v222)] [(.int (0 : Int32)), (.ref b19)])) rfl (by rw [hml]; rfl) (Steps.refl _) (argsL := [(.int (0 : Int32))]) (rest := []) (lenOf pd_4 rfl) rfl (by show 2 * 0 + _ ≤ _; exact Nat.le_of_eq rfl) (hb hby at_248) (fun _ _ => ⟨rfl, rfl, (by decide : 11 + 0 ≤ _), (by decide : 180 + 0 ≤ _)⟩)
                    dsimp only [Pt.U, Pt.locs, Pt.cells, Pt.slots] at X28 zl28 zy28 zz28 st28 hQ28
                    subst zl28 zy28 zz28
                    obtain ⟨rfl, Nq28, hh28⟩ := hQ28
                    have N28 := Fr.app N21 Nq28
                    refine GoW.st (fun t k => st28.trans k) ?_
                    show GoW p e below QQ (T28.setTop (mkF m 251 #[.val (.int p1), .val (.int p2), .val (.int p3), .val (.int p4), .val (.int v5), .val (.int nn), .val (.int v38), .val (.int (0 : Int32)), .val (.int cb), .val (.int v65), .val (.ref b3), .val (.ref b19), .val (.int (0 : Int32)), .val (.int v222)] [(.int (own_plain (nar .byte (v5.toInt8.toInt32)) (nar .byte (nn.toInt8.toInt32))))]))
                    refine GoW.st (fun t k => XS.iload X28.here hx rfl (hb hby at_251) rfl k) ?_
                    show GoW p e below QQ (T28.setTop (mkF m 253 #[.val (.int p1), .val (.int p2), .val (.int p3), .val (.int p4), .val (.int v5), .val (.int nn), .val (.int v38), .val (.int (0 : Int32)), .val (.int cb), .val (.int v65), .val (.ref b3), .val (.ref b19), .val (.int (0 : Int32)), .val (.int v222)] [(.int (0 : Int32)), (.int (own_plain (nar .byte (v5.toInt8.toInt32)) (nar .byte (nn.toInt8.toInt32))))]))
                    have hc253 : (own_plain (nar .byte (v5.toInt8.toInt32)) (nar .byte (nn.toInt8.toInt32))) = (0 : Int32) := by
                      have f0 := own_nb v5
                      have f1 := own_nb nn
                      rw [own_plain, if_neg (by unfold own_P; omega)]
                    refine GoW.st (fun t k => XS.icmpNo X28.here hx rfl (hb hby at_253) rfl (teq hc253).2 k) ?_
                    show GoW p e below QQ (T28.setTop (mkF m 256 #[.val (.int p1), .val (.int p2), .val (.int p3), .val (.int p4), .val (.int v5), .val (.int nn), .val (.int v38), .val (.int (0 : Int32)), .val (.int cb), .val (.int v65), .val (.ref b3), .val (.ref b19), .val (.int (0 : Int32)), .val (.int v222)] []))
                    have hi253 : ((own_plain (nar .byte (v5.toInt8.toInt32)) (nar .byte (nn.toInt8.toInt32)))).toInt = 0 := (congrArg Int32.toInt hc253)
                    refine GoW.st (fun t k => XS.iconst X28.here hx rfl (hb hby at_256) (XS.goto X28.here hx rfl (pc0 := 257) (pc' := 261) rfl (hb hby at_257) (by decide) (by decide) k)) ?_
                    show GoW p e below QQ (T28.setTop (mkF m 261 #[.val (.int p1), .val (.int p2), .val (.int p3), .val (.int p4), .val (.int v5), .val (.int nn), .val (.int v38), .val (.int (0 : Int32)), .val (.int cb), .val (.int v65), .val (.ref b3), .val (.ref b19), .val (.int (0 : Int32)), .val (.int v222)] [(.int (1 : Int32))]))
                    exact GoW.fin X28 (some (.int (nar .boolean (1 : Int32)))) (fun q => by rw [hret] at q; cases q) hlk hQ hh28 ⟨rfl, N28⟩ (by decide) (by decide) (fun fs hr => retN X28 hx (t := .boolean) hret (by simp) (hb hby at_261) hr)
                · skip
                  refine GoW.st (fun t k => XS.icmpYes X21.here hx rfl (pc0 := 196) (pc' := 241) rfl (hb hby at_196) rfl (flt hc196).2.1 (by decide) (by decide) k) ?_
                  show GoW p e below QQ (T21.setTop (mkF m 241 #[.val (.int p1), .val (.int p2), .val (.int p3), .val (.int p4), .val (.int v5), .val (.int nn), .val (.int v38), .val (.int (0 : Int32)), .val (.int cb), .val (.int v65), .val (.ref b3), .val (.ref b19), .unset, .unset] []))
                  have hi196 : ¬ (v5.toInt < 240) := (fun q => hc196 (Int32.lt_iff_toInt_lt.mpr q))
                  refine GoW.st (fun t k => XS.iconst X21.here hx rfl (hb hby at_241) (XS.istore X21.here hx rfl (hb hby at_242) rfl (l' := #[.val (.int p1), .val (.int p2), .val (.int p3), .val (.int p4), .val (.int v5), .val (.int nn), .val (.int v38), .val (.int (0 : Int32)), .val (.int cb), .val (.int v65), .val (.ref b3), .val (.ref b19), .val (.int (0 : Int32)), .unset]) rfl (XS.aload X21.here hx rfl (hb hby at_244) rfl rfl (XS.iload X21.here hx rfl (hb hby at_246) rfl k)))) ?_
                  show GoW p e below QQ (T21.setTop (mkF m 248 #[.val (.int p1), .val (.int p2), .val (.int p3), .val (.int p4), .val (.int v5), .val (.int nn), .val (.int v38), .val (.int (0 : Int32)), .val (.int cb), .val (.int v65), .val (.ref b3), .val (.ref b19), .val (.int (0 : Int32)), .unset] [(.int (0 : Int32)), (.ref b19)]))
                  obtain ⟨cq29, kq29, qa29, qb29, qc29⟩ := isOf hZ rfl p21_0
                  obtain ⟨_, _, ⟨T29, zL29, zk29, zn29⟩, -, X29, ⟨Lc29, hQ29, zl29, zy29, zz29⟩, st29⟩ := X21.virtualBackUp hx (owner := "com/example/terseform/terseform/TextCursor") (x := (⟨"com/example/terseform/terseform/TextCursorIsPlainAtPinLaw", "isPlainAt", "(I)Z"⟩ : MethodName)) (y := (⟨"com/example/terseform/terseform/TextCursor", "isPlainAt", "(I)Z"⟩ : MethodName)) hown (mvT hZ (hw _ (List.mem_of_getElem? (i := 62) rfl))) (mvT hZ (hw _ (List.mem_of_getElem? (i := 63) rfl))) (mvT hZ (hw _ (List.mem_of_getElem? (i := 64) rfl))) (by decide) (mvT hZ (hw _ (List.mem_of_getElem? (i := 66) rfl))) (mvT hZ (hw _ (List.mem_of_getElem? (i := 65) rfl))) (backOf (W := 0) (rm7_0 l Z a0 hw [] b19 b3 k3 (nar .byte (v5.toInt8.toInt32)) (nar .byte (nn.toInt8.toInt32)) (nar .byte (v38.toInt8.toInt32)) (nar .byte v65) T21.heap n0 (Nat.le_trans Z0 K21.1) p21_1 f22_V_b3) hZ (hw _ (List.mem_of_getElem? (i := 67) rfl)) (hw _ (List.mem_of_getElem? (i := 10) rfl)) (by decide) (by decide)) qa29 qc29 (g := (mkF m 248 #[.val (.int p1), .val (.int p2), .val (.int p3), .val (.int p4), .val (.int v5), .val (.int nn), .val (.int v38), .val (.int (0 : Int32)), .val (.int cb), .val (.int v65), .val (.ref b3), .val (.ref b19), .val (.int (0 : Int32)), .unset] [(.int (0 : Int32)), (.ref b19)])) rfl (by rw [hml]; rfl) (Steps.refl _) (argsL := [(.int (0 : Int32))]) (rest := []) (lenOf pd_4 rfl) rfl (by show 2 * 0 + _ ≤ _; exact Nat.le_of_eq rfl) (hb hby at_248) (fun _ _ => ⟨rfl, rfl, (by decide : 11 + 0 ≤ _), (by decide : 180 + 0 ≤ _)⟩)
                  dsimp only [Pt.U, Pt.locs, Pt.cells, Pt.slots] at X29 zl29 zy29 zz29 st29 hQ29
                  subst zl29 zy29 zz29
                  obtain ⟨rfl, Nq29, hh29⟩ := hQ29
                  have N29 := Fr.app N21 Nq29
                  refine GoW.st (fun t k => st29.trans k) ?_
                  show GoW p e below QQ (T29.setTop (mkF m 251 #[.val (.int p1), .val (.int p2), .val (.int p3), .val (.int p4), .val (.int v5), .val (.int nn), .val (.int v38), .val (.int (0 : Int32)), .val (.int cb), .val (.int v65), .val (.ref b3), .val (.ref b19), .val (.int (0 : Int32)), .unset] [(.int (own_plain (nar .byte (v5.toInt8.toInt32)) (nar .byte (nn.toInt8.toInt32))))]))
                  refine GoW.st (fun t k => XS.iload X29.here hx rfl (hb hby at_251) rfl k) ?_
                  show GoW p e below QQ (T29.setTop (mkF m 253 #[.val (.int p1), .val (.int p2), .val (.int p3), .val (.int p4), .val (.int v5), .val (.int nn), .val (.int v38), .val (.int (0 : Int32)), .val (.int cb), .val (.int v65), .val (.ref b3), .val (.ref b19), .val (.int (0 : Int32)), .unset] [(.int (0 : Int32)), (.int (own_plain (nar .byte (v5.toInt8.toInt32)) (nar .byte (nn.toInt8.toInt32))))]))
                  have hc253 : (own_plain (nar .byte (v5.toInt8.toInt32)) (nar .byte (nn.toInt8.toInt32))) = (0 : Int32) := by
                    have f0 := own_nb v5
                    have f1 := own_nb nn
                    rw [own_plain, if_neg (by unfold own_P; omega)]
                  refine GoW.st (fun t k => XS.icmpNo X29.here hx rfl (hb hby at_253) rfl (teq hc253).2 k) ?_
                  show GoW p e below QQ (T29.setTop (mkF m 256 #[.val (.int p1), .val (.int p2), .val (.int p3), .val (.int p4), .val (.int v5), .val (.int nn), .val (.int v38), .val (.int (0 : Int32)), .val (.int cb), .val (.int v65), .val (.ref b3), .val (.ref b19), .val (.int (0 : Int32)), .unset] []))
                  have hi253 : ((own_plain (nar .byte (v5.toInt8.toInt32)) (nar .byte (nn.toInt8.toInt32)))).toInt = 0 := (congrArg Int32.toInt hc253)
                  refine GoW.st (fun t k => XS.iconst X29.here hx rfl (hb hby at_256) (XS.goto X29.here hx rfl (pc0 := 257) (pc' := 261) rfl (hb hby at_257) (by decide) (by decide) k)) ?_
                  show GoW p e below QQ (T29.setTop (mkF m 261 #[.val (.int p1), .val (.int p2), .val (.int p3), .val (.int p4), .val (.int v5), .val (.int nn), .val (.int v38), .val (.int (0 : Int32)), .val (.int cb), .val (.int v65), .val (.ref b3), .val (.ref b19), .val (.int (0 : Int32)), .unset] [(.int (1 : Int32))]))
                  exact GoW.fin X29 (some (.int (nar .boolean (1 : Int32)))) (fun q => by rw [hret] at q; cases q) hlk hQ hh29 ⟨rfl, N29⟩ (by decide) (by decide) (fun fs hr => retN X29 hx (t := .boolean) hret (by simp) (hb hby at_261) hr)
      · skip
        show GoW p e below QQ (T3.setTop (mkF m 72 #[.val (.int p1), .val (.int p2), .val (.int p3), .val (.int p4), .val (.int v5), .val (.int nn), .val (.int v38), .val (.int (1 : Int32)), .val (.int cb), .val (.int v65), .val (.ref b3), .unset, .unset, .unset] []))
        refine GoW.st (fun t k => XS.aload X3.here hx rfl (hb hby at_72) rfl rfl (XS.iconst X3.here hx rfl (hb hby at_74) (XS.iload X3.here hx rfl (hb hby at_75) rfl k))) ?_
        show GoW p e below QQ (T3.setTop (mkF m 77 #[.val (.int p1), .val (.int p2), .val (.int p3), .val (.int p4), .val (.int v5), .val (.int nn), .val (.int v38), .val (.int (1 : Int32)), .val (.int cb), .val (.int v65), .val (.ref b3), .unset, .unset, .unset] [(.int v65), (.int (0 : Int32)), (.ref b3)]))
        obtain ⟨T30, h30, X30, e30, W30, V30, st30⟩ := stVB X3 hx hZ e3 V3 ⟨by decide, by decide⟩ 0 rfl (Nat.le_of_ble_eq_true rfl) (g := (mkF m 77 #[.val (.int p1), .val (.int p2), .val (.int p3), .val (.int p4), .val (.int v5), .val (.int nn), .val (.int v38), .val (.int (1 : Int32)), .val (.int cb), .val (.int v65), .val (.ref b3), .unset, .unset, .unset] [(.int v65), (.int (0 : Int32)), (.ref b3)])) rfl rfl (hb hby at_77)
        refine GoW.st st30 ?_
        have f31_V_b3 : Arv Z h30 b3 k3 .byte (4 : Int32) [(.int (nar .byte v65)), (.int (0 : Int32)), (.int (0 : Int32)), (.int (0 : Int32))] (.int (0 : Int32)) := V30
        have K30 : Keep h0 h30 [] := K3.wr W30 (Or.inr sz3)
        have N30 := Fr.snoc X30 NJ2 gg3
        show GoW p e below QQ (T30.setTop (mkF m 78 #[.val (.int p1), .val (.int p2), .val (.int p3), .val (.int p4), .val (.int v5), .val (.int nn), .val (.int v38), .val (.int (1 : Int32)), .val (.int cb), .val (.int v65), .val (.ref b3), .unset, .unset, .unset] []))
        refine GoW.st (fun t k => XS.aload X30.here hx rfl (hb hby at_78) rfl rfl (XS.iconst X30.here hx rfl (hb hby at_80) (XS.iload X30.here hx rfl (hb hby at_81) rfl k))) ?_
        show GoW p e below QQ (T30.setTop (mkF m 83 #[.val (.int p1), .val (.int p2), .val (.int p3), .val (.int p4), .val (.int v5), .val (.int nn), .val (.int v38), .val (.int (1 : Int32)), .val (.int cb), .val (.int v65), .val (.ref b3), .unset, .unset, .unset] [(.int v65), (.int (1 : Int32)), (.ref b3)]))
        obtain ⟨T32, h32, X32, e32, W32, V32, st32⟩ := stVB X30 hx hZ e30 f31_V_b3 ⟨by decide, by decide⟩ 1 rfl (Nat.le_of_ble_eq_true rfl) (g := (mkF m 83 #[.val (.int p1), .val (.int p2), .val (.int p3), .val (.int p4), .val (.int v5), .val (.int nn), .val (.int v38), .val (.int (1 : Int32)), .val (.int cb), .val (.int v65), .val (.ref b3), .unset, .unset, .unset] [(.int v65), (.int (1 : Int32)), (.ref b3)])) rfl rfl (hb hby at_83)
        refine GoW.st st32 ?_
        have f33_V_b3 : Arv Z h32 b3 k3 .byte (4 : Int32) [(.int (nar .byte v65)), (.int (nar .byte v65)), (.int (0 : Int32)), (.int (0 : Int32))] (.int (0 : Int32)) := V32
        have K32 : Keep h0 h32 [] := K30.wr W32 (Or.inr sz3)
        have N32 := Fr.snoc X32 N30 gg3
        show GoW p e below QQ (T32.setTop (mkF m 84 #[.val (.int p1), .val (.int p2), .val (.int p3), .val (.int p4), .val (.int v5), .val (.int nn), .val (.int v38), .val (.int (1 : Int32)), .val (.int cb), .val (.int v65), .val (.ref b3), .unset, .unset, .unset] []))
        refine GoW.st (fun t k => XS.aload X32.here hx rfl (hb hby at_84) rfl rfl (XS.iconst X32.here hx rfl (hb hby at_86) (XS.iload X32.here hx rfl (hb hby at_87) rfl k))) ?_
        show GoW p e below QQ (T32.setTop (mkF m 89 #[.val (.int p1), .val (.int p2), .val (.int p3), .val (.int p4), .val (.int v5), .val (.int nn), .val (.int v38), .val (.int (1 : Int32)), .val (.int cb), .val (.int v65), .val (.ref b3), .unset, .unset, .unset] [(.int v65), (.int (2 : Int32)), (.ref b3)]))
        obtain ⟨T34, h34, X34, e34, W34, V34, st34⟩ := stVB X32 hx hZ e32 f33_V_b3 ⟨by decide, by decide⟩ 2 rfl (Nat.le_of_ble_eq_true rfl) (g := (mkF m 89 #[.val (.int p1), .val (.int p2), .val (.int p3), .val (.int p4), .val (.int v5), .val (.int nn), .val (.int v38), .val (.int (1 : Int32)), .val (.int cb), .val (.int v65), .val (.ref b3), .unset, .unset, .unset] [(.int v65), (.int (2 : Int32)), (.ref b3)])) rfl rfl (hb hby at_89)
        refine GoW.st st34 ?_
        have f35_V_b3 : Arv Z h34 b3 k3 .byte (4 : Int32) [(.int (nar .byte v65)), (.int (nar .byte v65)), (.int (nar .byte v65)), (.int (0 : Int32))] (.int (0 : Int32)) := V34
        have K34 : Keep h0 h34 [] := K32.wr W34 (Or.inr sz3)
        have N34 := Fr.snoc X34 N32 gg3
        show GoW p e below QQ (T34.setTop (mkF m 90 #[.val (.int p1), .val (.int p2), .val (.int p3), .val (.int p4), .val (.int v5), .val (.int nn), .val (.int v38), .val (.int (1 : Int32)), .val (.int cb), .val (.int v65), .val (.ref b3), .unset, .unset, .unset] []))
        refine GoW.st (fun t k => XS.aload X34.here hx rfl (hb hby at_90) rfl rfl (XS.iconst X34.here hx rfl (hb hby at_92) (XS.iload X34.here hx rfl (hb hby at_93) rfl k))) ?_
        show GoW p e below QQ (T34.setTop (mkF m 95 #[.val (.int p1), .val (.int p2), .val (.int p3), .val (.int p4), .val (.int v5), .val (.int nn), .val (.int v38), .val (.int (1 : Int32)), .val (.int cb), .val (.int v65), .val (.ref b3), .unset, .unset, .unset] [(.int v65), (.int (3 : Int32)), (.ref b3)]))
        obtain ⟨T36, h36, X36, e36, W36, V36, st36⟩ := stVB X34 hx hZ e34 f35_V_b3 ⟨by decide, by decide⟩ 3 rfl (Nat.le_of_ble_eq_true rfl) (g := (mkF m 95 #[.val (.int p1), .val (.int p2), .val (.int p3), .val (.int p4), .val (.int v5), .val (.int nn), .val (.int v38), .val (.int (1 : Int32)), .val (.int cb), .val (.int v65), .val (.ref b3), .unset, .unset, .unset] [(.int v65), (.int (3 : Int32)), (.ref b3)])) rfl rfl (hb hby at_95)
        refine GoW.st st36 ?_
        have f37_V_b3 : Arv Z h36 b3 k3 .byte (4 : Int32) [(.int (nar .byte v65)), (.int (nar .byte v65)), (.int (nar .byte v65)), (.int (nar .byte v65))] (.int (0 : Int32)) := V36
        have K36 : Keep h0 h36 [] := K34.wr W36 (Or.inr sz3)
        have N36 := Fr.snoc X36 N34 gg3
        show GoW p e below QQ (T36.setTop (mkF m 96 #[.val (.int p1), .val (.int p2), .val (.int p3), .val (.int p4), .val (.int v5), .val (.int nn), .val (.int v38), .val (.int (1 : Int32)), .val (.int cb), .val (.int v65), .val (.ref b3), .unset, .unset, .unset] []))
        refine GoW.st (fun t k => XS.aload X36.here hx rfl (hb hby at_96) rfl rfl (XS.iload X36.here hx rfl (hb hby at_98) rfl (XS.iload X36.here hx rfl (hb hby at_100) rfl (XS.i2b X36.here hx rfl (hb hby at_102) rfl k)))) ?_
        show GoW p e below QQ (T36.setTop (mkF m 103 #[.val (.int p1), .val (.int p2), .val (.int p3), .val (.int p4), .val (.int v5), .val (.int nn), .val (.int v38), .val (.int (1 : Int32)), .val (.int cb), .val (.int v65), .val (.ref b3), .unset, .unset, .unset] [(.int (v5.toInt8.toInt32)), (.int (1 : Int32)), (.ref b3)]))
        obtain ⟨T38, h38, X38, e38, W38, V38, st38⟩ := stVB X36 hx hZ e36 f37_V_b3 ⟨by decide, by decide⟩ 1 rfl (Nat.le_of_ble_eq_true rfl) (g := (mkF m 103 #[.val (.int p1), .val (.int p2), .val (.int p3), .val (.int p4), .val (.int v5), .val (.int nn), .val (.int v38), .val (.int (1 : Int32)), .val (.int cb), .val (.int v65), .val (.ref b3), .unset, .unset, .unset] [(.int (v5.toInt8.toInt32)), (.int (1 : Int32)), (.ref b3)])) rfl rfl (hb hby at_103)
        refine GoW.st st38 ?_
        have f39_V_b3 : Arv Z h38 b3 k3 .byte (4 : Int32) [(.int (nar .byte v65)), (.int (nar .byte (v5.toInt8.toInt32))), (.int (nar .byte v65)), (.int (nar .byte v65))] (.int (0 : Int32)) := V38
        have K38 : Keep h0 h38 [] := K36.wr W38 (Or.inr sz3)
        have N38 := Fr.snoc X38 N36 gg3
        show GoW p e below QQ (T38.setTop (mkF m 104 #[.val (.int p1), .val (.int p2), .val (.int p3), .val (.int p4), .val (.int v5), .val (.int nn), .val (.int v38), .val (.int (1 : Int32)), .val (.int cb), .val (.int v65), .val (.ref b3), .unset, .unset, .unset] []))
        refine GoW.st (fun t k => XS.aload X38.here hx rfl (hb hby at_104) rfl rfl (XS.iload X38.here hx rfl (hb hby at_106) rfl (XS.iconst X38.here hx rfl (hb hby at_108) (XS.iadd X38.here hx rfl (hb hby at_109) rfl (XS.iload X38.here hx rfl (hb hby at_110) rfl (XS.i2b X38.here hx rfl (hb hby at_112) rfl k)))))) ?_
        show GoW p e below QQ (T38.setTop (mkF m 113 #[.val (.int p1), .val (.int p2), .val (.int p3), .val (.int p4), .val (.int v5), .val (.int nn), .val (.int v38), .val (.int (1 : Int32)), .val (.int cb), .val (.int v65), .val (.ref b3), .unset, .unset, .unset] [(.int (nn.toInt8.toInt32)), (.int (2 : Int32)), (.ref b3)]))
        obtain ⟨T40, h40, X40, e40, W40, V40, st40⟩ := stVB X38 hx hZ e38 f39_V_b3 ⟨by decide, by decide⟩ 2 rfl (Nat.le_of_ble_eq_true rfl) (g := (mkF m 113 #[.val (.int p1), .val (.int p2), .val (.int p3), .val (.int p4), .val (.int v5), .val (.int nn), .val (.int v38), .val (.int (1 : Int32)), .val (.int cb), .val (.int v65), .val (.ref b3), .unset, .unset, .unset] [(.int (nn.toInt8.toInt32)), (.int (2 : Int32)), (.ref b3)])) rfl rfl (hb hby at_113)
        refine GoW.st st40 ?_
        have f41_V_b3 : Arv Z h40 b3 k3 .byte (4 : Int32) [(.int (nar .byte v65)), (.int (nar .byte (v5.toInt8.toInt32))), (.int (nar .byte (nn.toInt8.toInt32))), (.int (nar .byte v65))] (.int (0 : Int32)) := V40
        have K40 : Keep h0 h40 [] := K38.wr W40 (Or.inr sz3)
        have N40 := Fr.snoc X40 N38 gg3
        show GoW p e below QQ (T40.setTop (mkF m 114 #[.val (.int p1), .val (.int p2), .val (.int p3), .val (.int p4), .val (.int v5), .val (.int nn), .val (.int v38), .val (.int (1 : Int32)), .val (.int cb), .val (.int v65), .val (.ref b3), .unset, .unset, .unset] []))
        refine GoW.st (fun t k => XS.aload X40.here hx rfl (hb hby at_114) rfl rfl (XS.iload X40.here hx rfl (hb hby at_116) rfl (XS.iconst X40.here hx rfl (hb hby at_118) (XS.iadd X40.here hx rfl (hb hby at_119) rfl (XS.iload X40.here hx rfl (hb hby at_120) rfl (XS.i2b X40.here hx rfl (hb hby at_122) rfl k)))))) ?_
        show GoW p e below QQ (T40.setTop (mkF m 123 #[.val (.int p1), .val (.int p2), .val (.int p3), .val (.int p4), .val (.int v5), .val (.int nn), .val (.int v38), .val (.int (1 : Int32)), .val (.int cb), .val (.int v65), .val (.ref b3), .unset, .unset, .unset] [(.int (v38.toInt8.toInt32)), (.int (3 : Int32)), (.ref b3)]))
        obtain ⟨T42, h42, X42, e42, W42, V42, st42⟩ := stVB X40 hx hZ e40 f41_V_b3 ⟨by decide, by decide⟩ 3 rfl (Nat.le_of_ble_eq_true rfl) (g := (mkF m 123 #[.val (.int p1), .val (.int p2), .val (.int p3), .val (.int p4), .val (.int v5), .val (.int nn), .val (.int v38), .val (.int (1 : Int32)), .val (.int cb), .val (.int v65), .val (.ref b3), .unset, .unset, .unset] [(.int (v38.toInt8.toInt32)), (.int (3 : Int32)), (.ref b3)])) rfl rfl (hb hby at_123)
        refine GoW.st st42 ?_
        have f43_V_b3 : Arv Z h42 b3 k3 .byte (4 : Int32) [(.int (nar .byte v65)), (.int (nar .byte (v5.toInt8.toInt32))), (.int (nar .byte (nn.toInt8.toInt32))), (.int (nar .byte (v38.toInt8.toInt32)))] (.int (0 : Int32)) := V42
        have K42 : Keep h0 h42 [] := K40.wr W42 (Or.inr sz3)
        have N42 := Fr.snoc X42 N40 gg3
        show GoW p e below QQ (T42.setTop (mkF m 124 #[.val (.int p1), .val (.int p2), .val (.int p3), .val (.int p4), .val (.int v5), .val (.int nn), .val (.int v38), .val (.int (1 : Int32)), .val (.int cb), .val (.int v65), .val (.ref b3), .unset, .unset, .unset] []))
        obtain ⟨T44, h44, X44, e44, E44, A44, D44, -, st44⟩ := newO X42 hx hZ hown (hw _ (List.mem_of_getElem? (i := 1) rfl)) (hw _ (List.mem_of_getElem? (i := 2) rfl)) (hw _ (List.mem_of_getElem? (i := 3) rfl)) e42 (g := (mkF m 124 #[.val (.int p1), .val (.int p2), .val (.int p3), .val (.int p4), .val (.int v5), .val (.int nn), .val (.int v38), .val (.int (1 : Int32)), .val (.int cb), .val (.int v65), .val (.ref b3), .unset, .unset, .unset] [])) rfl (hb hby at_124) (by decide) (by decide)
        obtain ⟨b44, g44⟩ : ∃ z, z = h42.size := ⟨_, rfl⟩
        rw [← g44] at A44 D44 st44
        refine GoW.st st44 ?_
        have gg44 : n0 ≤ b44 := Nat.le_trans (Nat.le_trans Z0 K42.1) (Nat.le_of_eq g44.symm)
        have sz44 : h0.size ≤ b44 := Nat.le_trans K42.1 (Nat.le_of_eq g44.symm)
        have ne44_b3 : b3 ≠ b44 := Nat.ne_of_lt (Nat.lt_of_lt_of_le f43_V_b3.lt (Nat.le_of_eq g44.symm))
        have f45_V_b3 : Arv Z h44 b3 k3 .byte (4 : Int32) [(.int (nar .byte v65)), (.int (nar .byte (v5.toInt8.toInt32))), (.int (nar .byte (nn.toInt8.toInt32))), (.int (nar .byte (v38.toInt8.toInt32)))] (.int (0 : Int32)) := f43_V_b3.ext E44
        have K44 : Keep h0 h44 [] := K42.ext E44
        have F44_open : Fld Z h44 b44 "com/example/terseform/terseform/TextCursor" "open" "[I" .null := D44 (Or.inl (hw _ (List.mem_of_getElem? (i := 17) rfl))) (ty := (.array .int)) (by decide)
        have F44_names : Fld Z h44 b44 "com/example/terseform/terseform/TextCursor" "names" "[Lcom/example/terseform/terseform/TextCursor$MemberNames;" .null := D44 (Or.inl (hw _ (List.mem_of_getElem? (i := 21) rfl))) (ty := (.array (.object "com/example/terseform/terseform/TextCursor$MemberNames"))) (by decide)
        have F44_keySignatures : Fld Z h44 b44 "com/example/terseform/terseform/TextCursor" "keySignatures" "[J" .null := D44 (Or.inl (hw _ (List.mem_of_getElem? (i := 24) rfl))) (ty := (.array .long)) (by decide)
        have F44_text : Fld Z h44 b44 "com/example/terseform/terseform/TextCursor" "text" "[B" .null := D44 (Or.inr (hw _ (List.mem_of_getElem? (i := 26) rfl))) (ty := (.array .byte)) (by decide)
        have F44_canonical : Fld Z h44 b44 "com/example/terseform/terseform/TextCursor" "canonical" "Z" (.int (0 : Int32)) := D44 (Or.inr (hw _ (List.mem_of_getElem? (i := 28) rfl))) (ty := .boolean) (by decide)
        have F44_tape : Fld Z h44 b44 "com/example/terseform/terseform/TextCursor" "tape" "Lcom/example/terseform/terseform/Tape;" .null := D44 (Or.inr (hw _ (List.mem_of_getElem? (i := 61) rfl))) (ty := (.object "com/example/terseform/terseform/Tape")) (by decide)
        show GoW p e below QQ (T44.setTop (mkF m 127 #[.val (.int p1), .val (.int p2), .val (.int p3), .val (.int p4), .val (.int v5), .val (.int nn), .val (.int v38), .val (.int (1 : Int32)), .val (.int cb), .val (.int v65), .val (.ref b3), .unset, .unset, .unset] [(.ref b44)]))
        refine GoW.st (fun t k => XS.dup X44.here hx rfl (hb hby at_127) rfl rfl (XS.aload X44.here hx rfl (hb hby at_128) rfl rfl (XS.iload X44.here hx rfl (hb hby at_130) rfl k))) ?_
        show GoW p e below QQ (T44.setTop (mkF m 132 #[.val (.int p1), .val (.int p2), .val (.int p3), .val (.int p4), .val (.int v5), .val (.int nn), .val (.int v38), .val (.int (1 : Int32)), .val (.int cb), .val (.int v65), .val (.ref b3), .unset, .unset, .unset] [(.int cb), (.ref b3), (.ref b44), (.ref b44)]))
        obtain ⟨_, _, ⟨T46, zL46, zk46, zn46⟩, -, X46, ⟨Lc46, hQ46, zl46, zy46, zz46⟩, st46⟩ := X44.specialBack hx (y := (⟨"com/example/terseform/terseform/TextCursorIsPlainAtPinLaw", "<init>", "([BZ)V"⟩ : MethodName)) rfl hown (mvT hZ (hw _ (List.mem_of_getElem? (i := 4) rfl))) (mvT hZ (hw _ (List.mem_of_getElem? (i := 5) rfl))) (mvT hZ (hw _ (List.mem_of_getElem? (i := 6) rfl))) (by decide) (backOf (W := 1) (rm1 l Z a0 hw [] b44 b3 cb k3 (nar .byte v65) (nar .byte (v5.toInt8.toInt32)) (nar .byte (nn.toInt8.toInt32)) (nar .byte (v38.toInt8.toInt32)) h44 n0 (Nat.le_trans Z0 K44.1) A44 gg44 F44_open F44_names F44_keySignatures F44_text F44_canonical F44_tape f45_V_b3 ne44_b3) hZ (hw _ (List.mem_of_getElem? (i := 6) rfl)) (hw _ (List.mem_of_getElem? (i := 3) rfl)) (by decide) (by decide)) (g := (mkF m 132 #[.val (.int p1), .val (.int p2), .val (.int p3), .val (.int p4), .val (.int v5), .val (.int nn), .val (.int v38), .val (.int (1 : Int32)), .val (.int cb), .val (.int v65), .val (.ref b3), .unset, .unset, .unset] [(.int cb), (.ref b3), (.ref b44), (.ref b44)])) rfl (by rw [hml]; rfl) (Steps.refl _) (a := b44) (argsL := [(.ref b3), (.int cb)]) (rest := [(.ref b44)]) (lenOf pd_3 rfl) rfl (by show 2 * 0 + _ ≤ _; exact Nat.le_of_eq rfl) (hb hby at_132) (fun _ _ => ⟨rfl, e44, (by decide : 2 + 9 ≤ _), (by decide : 12 + 168 ≤ _)⟩)
        dsimp only [Pt.U, Pt.locs, Pt.cells, Pt.slots] at X46 zl46 zy46 zz46 st46 hQ46
        subst zl46 zy46 zz46
        obtain ⟨rfl, Nq46, Kq46, p46_0, p46_1⟩ := hQ46
        have N46 := Fr.app N42 Nq46
        refine GoW.st (fun t k => st46.trans k) ?_
        have f47_V_b3 : Arv Z T46.heap b3 k3 .byte (4 : Int32) [(.int (nar .byte v65)), (.int (nar .byte (v5.toInt8.toInt32))), (.int (nar .byte (nn.toInt8.toInt32))), (.int (nar .byte (v38.toInt8.toInt32)))] (.int (0 : Int32)) := f45_V_b3.keep Kq46 (ninS ne44_b3 nin0)
        have K46 : Keep h0 T46.heap [] := K44.trans Kq46 (allS (Or.inr sz44) all0)
        show GoW p e below QQ (T46.setTop (mkF m 135 #[.val (.int p1), .val (.int p2), .val (.int p3), .val (.int p4), .val (.int v5), .val (.int nn), .val (.int v38), .val (.int (1 : Int32)), .val (.int cb), .val (.int v65), .val (.ref b3), .unset, .unset, .unset] [(.ref b44)]))
        refine GoW.st (fun t k => XS.astore X46.here hx rfl (hb hby at_135) rfl rfl (l' := #[.val (.int p1), .val (.int p2), .val (.int p3), .val (.int p4), .val (.int v5), .val (.int nn), .val (.int v38), .val (.int (1 : Int32)), .val (.int cb), .val (.int v65), .val (.ref b3), .val (.ref b44), .unset, .unset]) rfl (XS.iload X46.here hx rfl (hb hby at_137) rfl (XS.bipush X46.here hx rfl (hb hby at_139) k))) ?_
        show GoW p e below QQ (T46.setTop (mkF m 141 #[.val (.int p1), .val (.int p2), .val (.int p3), .val (.int p4), .val (.int v5), .val (.int nn), .val (.int v38), .val (.int (1 : Int32)), .val (.int cb), .val (.int v65), .val (.ref b3), .val (.ref b44), .unset, .unset] [(.int (32 : Int32)), (.int v5)]))
        by_cases hc141 : v5 < (32 : Int32)
        · skip
          refine GoW.st (fun t k => XS.icmpNo X46.here hx rfl (hb hby at_141) rfl (tlt hc141).2.1 k) ?_
          show GoW p e below QQ (T46.setTop (mkF m 144 #[.val (.int p1), .val (.int p2), .val (.int p3), .val (.int p4), .val (.int v5), .val (.int nn), .val (.int v38), .val (.int (1 : Int32)), .val (.int cb), .val (.int v65), .val (.ref b3), .val (.ref b44), .unset, .unset] []))
          have hi141 : v5.toInt < 32 := (Int32.lt_iff_toInt_lt.mp hc141)
          refine GoW.st (fun t k => XS.iconst X46.here hx rfl (hb hby at_144) (XS.istore X46.here hx rfl (hb hby at_145) rfl (l' := #[.val (.int p1), .val (.int p2), .val (.int p3), .val (.int p4), .val (.int v5), .val (.int nn), .val (.int v38), .val (.int (1 : Int32)), .val (.int cb), .val (.int v65), .val (.ref b3), .val (.ref b44), .val (.int (0 : Int32)), .unset]) rfl (XS.goto X46.here hx rfl (pc0 := 147) (pc' := 244) rfl (hb hby at_147) (by decide) (by decide) (XS.aload X46.here hx rfl (hb hby at_244) rfl rfl (XS.iload X46.here hx rfl (hb hby at_246) rfl k))))) ?_
          show GoW p e below QQ (T46.setTop (mkF m 248 #[.val (.int p1), .val (.int p2), .val (.int p3), .val (.int p4), .val (.int v5), .val (.int nn), .val (.int v38), .val (.int (1 : Int32)), .val (.int cb), .val (.int v65), .val (.ref b3), .val (.ref b44), .val (.int (0 : Int32)), .unset] [(.int (1 : Int32)), (.ref b44)]))
          obtain ⟨cq48, kq48, qa48, qb48, qc48⟩ := isOf hZ rfl p46_0
          obtain ⟨_, _, ⟨T48, zL48, zk48, zn48⟩, -, X48, ⟨Lc48, hQ48, zl48, zy48, zz48⟩, st48⟩ := X46.virtualBackUp hx (owner := "com/example/terseform/terseform/TextCursor") (x := (⟨"com/example/terseform/terseform/TextCursorIsPlainAtPinLaw", "isPlainAt", "(I)Z"⟩ : MethodName)) (y := (⟨"com/example/terseform/terseform/TextCursor", "isPlainAt", "(I)Z"⟩ : MethodName)) hown (mvT hZ (hw _ (List.mem_of_getElem? (i := 62) rfl))) (mvT hZ (hw _ (List.mem_of_getElem? (i := 63) rfl))) (mvT hZ (hw _ (List.mem_of_getElem? (i := 64) rfl))) (by decide) (mvT hZ (hw _ (List.mem_of_getElem? (i := 66) rfl))) (mvT hZ (hw _ (List.mem_of_getElem? (i := 65) rfl))) (backOf (W := 0) (rm7_1 l Z a0 hw [] b44 b3 k3 (nar .byte v65) (nar .byte (v5.toInt8.toInt32)) (nar .byte (nn.toInt8.toInt32)) (nar .byte (v38.toInt8.toInt32)) T46.heap n0 (Nat.le_trans Z0 K46.1) p46_1 f47_V_b3) hZ (hw _ (List.mem_of_getElem? (i := 67) rfl)) (hw _ (List.mem_of_getElem? (i := 10) rfl)) (by decide) (by decide)) qa48 qc48 (g := (mkF m 248 #[.val (.int p1), .val (.int p2), .val (.int p3), .val (.int p4), .val (.int v5), .val (.int nn), .val (.int v38), .val (.int (1 : Int32)), .val (.int cb), .val (.int v65), .val (.ref b3), .val (.ref b44), .val (.int (0 : Int32)), .unset] [(.int (1 : Int32)), (.ref b44)])) rfl (by rw [hml]; rfl) (Steps.refl _) (argsL := [(.int (1 : Int32))]) (rest := []) (lenOf pd_4 rfl) rfl (by show 2 * 0 + _ ≤ _; exact Nat.le_of_eq rfl) (hb hby at_248) (fun _ _ => ⟨rfl, rfl, (by decide : 11 + 0 ≤ _), (by decide : 180 + 0 ≤ _)⟩)
          dsimp only [Pt.U, Pt.locs, Pt.cells, Pt.slots] at X48 zl48 zy48 zz48 st48 hQ48
          subst zl48 zy48 zz48
          obtain ⟨rfl, Nq48, hh48⟩ := hQ48
          have N48 := Fr.app N46 Nq48
          refine GoW.st (fun t k => st48.trans k) ?_
          show GoW p e below QQ (T48.setTop (mkF m 251 #[.val (.int p1), .val (.int p2), .val (.int p3), .val (.int p4), .val (.int v5), .val (.int nn), .val (.int v38), .val (.int (1 : Int32)), .val (.int cb), .val (.int v65), .val (.ref b3), .val (.ref b44), .val (.int (0 : Int32)), .unset] [(.int (own_plain (nar .byte (v5.toInt8.toInt32)) (nar .byte (nn.toInt8.toInt32))))]))
          refine GoW.st (fun t k => XS.iload X48.here hx rfl (hb hby at_251) rfl k) ?_
          show GoW p e below QQ (T48.setTop (mkF m 253 #[.val (.int p1), .val (.int p2), .val (.int p3), .val (.int p4), .val (.int v5), .val (.int nn), .val (.int v38), .val (.int (1 : Int32)), .val (.int cb), .val (.int v65), .val (.ref b3), .val (.ref b44), .val (.int (0 : Int32)), .unset] [(.int (0 : Int32)), (.int (own_plain (nar .byte (v5.toInt8.toInt32)) (nar .byte (nn.toInt8.toInt32))))]))
          have hc253 : (own_plain (nar .byte (v5.toInt8.toInt32)) (nar .byte (nn.toInt8.toInt32))) = (0 : Int32) := by
            have f0 := own_nb v5
            have f1 := own_nb nn
            rw [own_plain, if_neg (by unfold own_P; omega)]
          refine GoW.st (fun t k => XS.icmpNo X48.here hx rfl (hb hby at_253) rfl (teq hc253).2 k) ?_
          show GoW p e below QQ (T48.setTop (mkF m 256 #[.val (.int p1), .val (.int p2), .val (.int p3), .val (.int p4), .val (.int v5), .val (.int nn), .val (.int v38), .val (.int (1 : Int32)), .val (.int cb), .val (.int v65), .val (.ref b3), .val (.ref b44), .val (.int (0 : Int32)), .unset] []))
          have hi253 : ((own_plain (nar .byte (v5.toInt8.toInt32)) (nar .byte (nn.toInt8.toInt32)))).toInt = 0 := (congrArg Int32.toInt hc253)
          refine GoW.st (fun t k => XS.iconst X48.here hx rfl (hb hby at_256) (XS.goto X48.here hx rfl (pc0 := 257) (pc' := 261) rfl (hb hby at_257) (by decide) (by decide) k)) ?_
          show GoW p e below QQ (T48.setTop (mkF m 261 #[.val (.int p1), .val (.int p2), .val (.int p3), .val (.int p4), .val (.int v5), .val (.int nn), .val (.int v38), .val (.int (1 : Int32)), .val (.int cb), .val (.int v65), .val (.ref b3), .val (.ref b44), .val (.int (0 : Int32)), .unset] [(.int (1 : Int32))]))
          exact GoW.fin X48 (some (.int (nar .boolean (1 : Int32)))) (fun q => by rw [hret] at q; cases q) hlk hQ hh48 ⟨rfl, N48⟩ (by decide) (by decide) (fun fs hr => retN X48 hx (t := .boolean) hret (by simp) (hb hby at_261) hr)
        · skip
          refine GoW.st (fun t k => XS.icmpYes X46.here hx rfl (pc0 := 141) (pc' := 150) rfl (hb hby at_141) rfl (flt hc141).2.1 (by decide) (by decide) k) ?_
          show GoW p e below QQ (T46.setTop (mkF m 150 #[.val (.int p1), .val (.int p2), .val (.int p3), .val (.int p4), .val (.int v5), .val (.int nn), .val (.int v38), .val (.int (1 : Int32)), .val (.int cb), .val (.int v65), .val (.ref b3), .val (.ref b44), .unset, .unset] []))
          have hi141 : ¬ (v5.toInt < 32) := (fun q => hc141 (Int32.lt_iff_toInt_lt.mpr q))
          refine GoW.st (fun t k => XS.iload X46.here hx rfl (hb hby at_150) rfl (XS.bipush X46.here hx rfl (hb hby at_152) k)) ?_
          show GoW p e below QQ (T46.setTop (mkF m 154 #[.val (.int p1), .val (.int p2), .val (.int p3), .val (.int p4), .val (.int v5), .val (.int nn), .val (.int v38), .val (.int (1 : Int32)), .val (.int cb), .val (.int v65), .val (.ref b3), .val (.ref b44), .unset, .unset] [(.int (92 : Int32)), (.int v5)]))
          by_cases hc154 : v5 = (92 : Int32)
          · skip
            refine GoW.st (fun t k => XS.icmpNo X46.here hx rfl (hb hby at_154) rfl (teq hc154).2 k) ?_
            show GoW p e below QQ (T46.setTop (mkF m 157 #[.val (.int p1), .val (.int p2), .val (.int p3), .val (.int p4), .val (.int v5), .val (.int nn), .val (.int v38), .val (.int (1 : Int32)), .val (.int cb), .val (.int v65), .val (.ref b3), .val (.ref b44), .unset, .unset] []))
            have hi154 : v5.toInt = 92 := (congrArg Int32.toInt hc154)
            refine GoW.st (fun t k => XS.iconst X46.here hx rfl (hb hby at_157) (XS.istore X46.here hx rfl (hb hby at_158) rfl (l' := #[.val (.int p1), .val (.int p2), .val (.int p3), .val (.int p4), .val (.int v5), .val (.int nn), .val (.int v38), .val (.int (1 : Int32)), .val (.int cb), .val (.int v65), .val (.ref b3), .val (.ref b44), .val (.int (0 : Int32)), .unset]) rfl (XS.goto X46.here hx rfl (pc0 := 160) (pc' := 244) rfl (hb hby at_160) (by decide) (by decide) (XS.aload X46.here hx rfl (hb hby at_244) rfl rfl (XS.iload X46.here hx rfl (hb hby at_246) rfl k))))) ?_
            show GoW p e below QQ (T46.setTop (mkF m 248 #[.val (.int p1), .val (.int p2), .val (.int p3), .val (.int p4), .val (.int v5), .val (.int nn), .val (.int v38), .val (.int (1 : Int32)), .val (.int cb), .val (.int v65), .val (.ref b3), .val (.ref b44), .val (.int (0 : Int32)), .unset] [(.int (1 : Int32)), (.ref b44)]))
            obtain ⟨cq49, kq49, qa49, qb49, qc49⟩ := isOf hZ rfl p46_0
            obtain ⟨_, _, ⟨T49, zL49, zk49, zn49⟩, -, X49, ⟨Lc49, hQ49, zl49, zy49, zz49⟩, st49⟩ := X46.virtualBackUp hx (owner := "com/example/terseform/terseform/TextCursor") (x := (⟨"com/example/terseform/terseform/TextCursorIsPlainAtPinLaw", "isPlainAt", "(I)Z"⟩ : MethodName)) (y := (⟨"com/example/terseform/terseform/TextCursor", "isPlainAt", "(I)Z"⟩ : MethodName)) hown (mvT hZ (hw _ (List.mem_of_getElem? (i := 62) rfl))) (mvT hZ (hw _ (List.mem_of_getElem? (i := 63) rfl))) (mvT hZ (hw _ (List.mem_of_getElem? (i := 64) rfl))) (by decide) (mvT hZ (hw _ (List.mem_of_getElem? (i := 66) rfl))) (mvT hZ (hw _ (List.mem_of_getElem? (i := 65) rfl))) (backOf (W := 0) (rm7_1 l Z a0 hw [] b44 b3 k3 (nar .byte v65) (nar .byte (v5.toInt8.toInt32)) (nar .byte (nn.toInt8.toInt32)) (nar .byte (v38.toInt8.toInt32)) T46.heap n0 (Nat.le_trans Z0 K46.1) p46_1 f47_V_b3) hZ (hw _ (List.mem_of_getElem? (i := 67) rfl)) (hw _ (List.mem_of_getElem? (i := 10) rfl)) (by decide) (by decide)) qa49 qc49 (g := (mkF m 248 #[.val (.int p1), .val (.int p2), .val (.int p3), .val (.int p4), .val (.int v5), .val (.int nn), .val (.int v38), .val (.int (1 : Int32)), .val (.int cb), .val (.int v65), .val (.ref b3), .val (.ref b44), .val (.int (0 : Int32)), .unset] [(.int (1 : Int32)), (.ref b44)])) rfl (by rw [hml]; rfl) (Steps.refl _) (argsL := [(.int (1 : Int32))]) (rest := []) (lenOf pd_4 rfl) rfl (by show 2 * 0 + _ ≤ _; exact Nat.le_of_eq rfl) (hb hby at_248) (fun _ _ => ⟨rfl, rfl, (by decide : 11 + 0 ≤ _), (by decide : 180 + 0 ≤ _)⟩)
            dsimp only [Pt.U, Pt.locs, Pt.cells, Pt.slots] at X49 zl49 zy49 zz49 st49 hQ49
            subst zl49 zy49 zz49
            obtain ⟨rfl, Nq49, hh49⟩ := hQ49
            have N49 := Fr.app N46 Nq49
            refine GoW.st (fun t k => st49.trans k) ?_
            show GoW p e below QQ (T49.setTop (mkF m 251 #[.val (.int p1), .val (.int p2), .val (.int p3), .val (.int p4), .val (.int v5), .val (.int nn), .val (.int v38), .val (.int (1 : Int32)), .val (.int cb), .val (.int v65), .val (.ref b3), .val (.ref b44), .val (.int (0 : Int32)), .unset] [(.int (own_plain (nar .byte (v5.toInt8.toInt32)) (nar .byte (nn.toInt8.toInt32))))]))
            refine GoW.st (fun t k => XS.iload X49.here hx rfl (hb hby at_251) rfl k) ?_
            show GoW p e below QQ (T49.setTop (mkF m 253 #[.val (.int p1), .val (.int p2), .val (.int p3), .val (.int p4), .val (.int v5), .val (.int nn), .val (.int v38), .val (.int (1 : Int32)), .val (.int cb), .val (.int v65), .val (.ref b3), .val (.ref b44), .val (.int (0 : Int32)), .unset] [(.int (0 : Int32)), (.int (own_plain (nar .byte (v5.toInt8.toInt32)) (nar .byte (nn.toInt8.toInt32))))]))
            have hc253 : (own_plain (nar .byte (v5.toInt8.toInt32)) (nar .byte (nn.toInt8.toInt32))) = (0 : Int32) := by
              have f0 := own_nb v5
              have f1 := own_nb nn
              rw [own_plain, if_neg (by unfold own_P; omega)]
            refine GoW.st (fun t k => XS.icmpNo X49.here hx rfl (hb hby at_253) rfl (teq hc253).2 k) ?_
            show GoW p e below QQ (T49.setTop (mkF m 256 #[.val (.int p1), .val (.int p2), .val (.int p3), .val (.int p4), .val (.int v5), .val (.int nn), .val (.int v38), .val (.int (1 : Int32)), .val (.int cb), .val (.int v65), .val (.ref b3), .val (.ref b44), .val (.int (0 : Int32)), .unset] []))
            have hi253 : ((own_plain (nar .byte (v5.toInt8.toInt32)) (nar .byte (nn.toInt8.toInt32)))).toInt = 0 := (congrArg Int32.toInt hc253)
            refine GoW.st (fun t k => XS.iconst X49.here hx rfl (hb hby at_256) (XS.goto X49.here hx rfl (pc0 := 257) (pc' := 261) rfl (hb hby at_257) (by decide) (by decide) k)) ?_
            show GoW p e below QQ (T49.setTop (mkF m 261 #[.val (.int p1), .val (.int p2), .val (.int p3), .val (.int p4), .val (.int v5), .val (.int nn), .val (.int v38), .val (.int (1 : Int32)), .val (.int cb), .val (.int v65), .val (.ref b3), .val (.ref b44), .val (.int (0 : Int32)), .unset] [(.int (1 : Int32))]))
            exact GoW.fin X49 (some (.int (nar .boolean (1 : Int32)))) (fun q => by rw [hret] at q; cases q) hlk hQ hh49 ⟨rfl, N49⟩ (by decide) (by decide) (fun fs hr => retN X49 hx (t := .boolean) hret (by simp) (hb hby at_261) hr)
          · skip
            refine GoW.st (fun t k => XS.icmpYes X46.here hx rfl (pc0 := 154) (pc' := 163) rfl (hb hby at_154) rfl (feq hc154).2 (by decide) (by decide) k) ?_
            show GoW p e below QQ (T46.setTop (mkF m 163 #[.val (.int p1), .val (.int p2), .val (.int p3), .val (.int p4), .val (.int v5), .val (.int nn), .val (.int v38), .val (.int (1 : Int32)), .val (.int cb), .val (.int v65), .val (.ref b3), .val (.ref b44), .unset, .unset] []))
            have hi154 : ¬ (v5.toInt = 92) := (fun q => hc154 (Int32.toInt_inj.mp q))
            refine GoW.st (fun t k => XS.iload X46.here hx rfl (hb hby at_163) rfl (XS.sipush X46.here hx rfl (hb hby at_165) k)) ?_
            show GoW p e below QQ (T46.setTop (mkF m 168 #[.val (.int p1), .val (.int p2), .val (.int p3), .val (.int p4), .val (.int v5), .val (.int nn), .val (.int v38), .val (.int (1 : Int32)), .val (.int cb), .val (.int v65), .val (.ref b3), .val (.ref b44), .unset, .unset] [(.int (128 : Int32)), (.int v5)]))
            by_cases hc168 : v5 < (128 : Int32)
            · skip
              refine GoW.st (fun t k => XS.icmpNo X46.here hx rfl (hb hby at_168) rfl (tlt hc168).2.1 k) ?_
              show GoW p e below QQ (T46.setTop (mkF m 171 #[.val (.int p1), .val (.int p2), .val (.int p3), .val (.int p4), .val (.int v5), .val (.int nn), .val (.int v38), .val (.int (1 : Int32)), .val (.int cb), .val (.int v65), .val (.ref b3), .val (.ref b44), .unset, .unset] []))
              have hi168 : v5.toInt < 128 := (Int32.lt_iff_toInt_lt.mp hc168)
              refine GoW.st (fun t k => XS.iconst X46.here hx rfl (hb hby at_171) (XS.istore X46.here hx rfl (hb hby at_172) rfl (l' := #[.val (.int p1), .val (.int p2), .val (.int p3), .val (.int p4), .val (.int v5), .val (.int nn), .val (.int v38), .val (.int (1 : Int32)), .val (.int cb), .val (.int v65), .val (.ref b3), .val (.ref b44), .val (.int (1 : Int32)), .unset]) rfl (XS.goto X46.here hx rfl (pc0 := 174) (pc' := 244) rfl (hb hby at_174) (by decide) (by decide) (XS.aload X46.here hx rfl (hb hby at_244) rfl rfl (XS.iload X46.here hx rfl (hb hby at_246) rfl k))))) ?_
              show GoW p e below QQ (T46.setTop (mkF m 248 #[.val (.int p1), .val (.int p2), .val (.int p3), .val (.int p4), .val (.int v5), .val (.int nn), .val (.int v38), .val (.int (1 : Int32)), .val (.int cb), .val (.int v65), .val (.ref b3), .val (.ref b44), .val (.int (1 : Int32)), .unset] [(.int (1 : Int32)), (.ref b44)]))
              obtain ⟨cq50, kq50, qa50, qb50, qc50⟩ := isOf hZ rfl p46_0
              obtain ⟨_, _, ⟨T50, zL50, zk50, zn50⟩, -, X50, ⟨Lc50, hQ50, zl50, zy50, zz50⟩, st50⟩ := X46.virtualBackUp hx (owner := "com/example/terseform/terseform/TextCursor") (x := (⟨"com/example/terseform/terseform/TextCursorIsPlainAtPinLaw", "isPlainAt", "(I)Z"⟩ : MethodName)) (y := (⟨"com/example/terseform/terseform/TextCursor", "isPlainAt", "(I)Z"⟩ : MethodName)) hown (mvT hZ (hw _ (List.mem_of_getElem? (i := 62) rfl))) (mvT hZ (hw _ (List.mem_of_getElem? (i := 63) rfl))) (mvT hZ (hw _ (List.mem_of_getElem? (i := 64) rfl))) (by decide) (mvT hZ (hw _ (List.mem_of_getElem? (i := 66) rfl))) (mvT hZ (hw _ (List.mem_of_getElem? (i := 65) rfl))) (backOf (W := 0) (rm7_1 l Z a0 hw [] b44 b3 k3 (nar .byte v65) (nar .byte (v5.toInt8.toInt32)) (nar .byte (nn.toInt8.toInt32)) (nar .byte (v38.toInt8.toInt32)) T46.heap n0 (Nat.le_trans Z0 K46.1) p46_1 f47_V_b3) hZ (hw _ (List.mem_of_getElem? (i := 67) rfl)) (hw _ (List.mem_of_getElem? (i := 10) rfl)) (by decide) (by decide)) qa50 qc50 (g := (mkF m 248 #[.val (.int p1), .val (.int p2), .val (.int p3), .val (.int p4), .val (.int v5), .val (.int nn), .val (.int v38), .val (.int (1 : Int32)), .val (.int cb), .val (.int v65), .val (.ref b3), .val (.ref b44), .val (.int (1 : Int32)), .unset] [(.int (1 : Int32)), (.ref b44)])) rfl (by rw [hml]; rfl) (Steps.refl _) (argsL := [(.int (1 : Int32))]) (rest := []) (lenOf pd_4 rfl) rfl (by show 2 * 0 + _ ≤ _; exact Nat.le_of_eq rfl) (hb hby at_248) (fun _ _ => ⟨rfl, rfl, (by decide : 11 + 0 ≤ _), (by decide : 180 + 0 ≤ _)⟩)
              dsimp only [Pt.U, Pt.locs, Pt.cells, Pt.slots] at X50 zl50 zy50 zz50 st50 hQ50
              subst zl50 zy50 zz50
              obtain ⟨rfl, Nq50, hh50⟩ := hQ50
              have N50 := Fr.app N46 Nq50
              refine GoW.st (fun t k => st50.trans k) ?_
              show GoW p e below QQ (T50.setTop (mkF m 251 #[.val (.int p1), .val (.int p2), .val (.int p3), .val (.int p4), .val (.int v5), .val (.int nn), .val (.int v38), .val (.int (1 : Int32)), .val (.int cb), .val (.int v65), .val (.ref b3), .val (.ref b44), .val (.int (1 : Int32)), .unset] [(.int (own_plain (nar .byte (v5.toInt8.toInt32)) (nar .byte (nn.toInt8.toInt32))))]))
              refine GoW.st (fun t k => XS.iload X50.here hx rfl (hb hby at_251) rfl k) ?_
              show GoW p e below QQ (T50.setTop (mkF m 253 #[.val (.int p1), .val (.int p2), .val (.int p3), .val (.int p4), .val (.int v5), .val (.int nn), .val (.int v38), .val (.int (1 : Int32)), .val (.int cb), .val (.int v65), .val (.ref b3), .val (.ref b44), .val (.int (1 : Int32)), .unset] [(.int (1 : Int32)), (.int (own_plain (nar .byte (v5.toInt8.toInt32)) (nar .byte (nn.toInt8.toInt32))))]))
              have hc253 : (own_plain (nar .byte (v5.toInt8.toInt32)) (nar .byte (nn.toInt8.toInt32))) = (1 : Int32) := by
                have f0 := own_nb v5
                have f1 := own_nb nn
                rw [own_plain, if_pos (by unfold own_P; omega)]
              refine GoW.st (fun t k => XS.icmpNo X50.here hx rfl (hb hby at_253) rfl (teq hc253).2 k) ?_
              show GoW p e below QQ (T50.setTop (mkF m 256 #[.val (.int p1), .val (.int p2), .val (.int p3), .val (.int p4), .val (.int v5), .val (.int nn), .val (.int v38), .val (.int (1 : Int32)), .val (.int cb), .val (.int v65), .val (.ref b3), .val (.ref b44), .val (.int (1 : Int32)), .unset] []))
              have hi253 : ((own_plain (nar .byte (v5.toInt8.toInt32)) (nar .byte (nn.toInt8.toInt32)))).toInt = 1 := (congrArg Int32.toInt hc253)
              refine GoW.st (fun t k => XS.iconst X50.here hx rfl (hb hby at_256) (XS.goto X50.here hx rfl (pc0 := 257) (pc' := 261) rfl (hb hby at_257) (by decide) (by decide) k)) ?_
              show GoW p e below QQ (T50.setTop (mkF m 261 #[.val (.int p1), .val (.int p2), .val (.int p3), .val (.int p4), .val (.int v5), .val (.int nn), .val (.int v38), .val (.int (1 : Int32)), .val (.int cb), .val (.int v65), .val (.ref b3), .val (.ref b44), .val (.int (1 : Int32)), .unset] [(.int (1 : Int32))]))
              exact GoW.fin X50 (some (.int (nar .boolean (1 : Int32)))) (fun q => by rw [hret] at q; cases q) hlk hQ hh50 ⟨rfl, N50⟩ (by decide) (by decide) (fun fs hr => retN X50 hx (t := .boolean) hret (by simp) (hb hby at_261) hr)
            · skip
              refine GoW.st (fun t k => XS.icmpYes X46.here hx rfl (pc0 := 168) (pc' := 177) rfl (hb hby at_168) rfl (flt hc168).2.1 (by decide) (by decide) k) ?_
              show GoW p e below QQ (T46.setTop (mkF m 177 #[.val (.int p1), .val (.int p2), .val (.int p3), .val (.int p4), .val (.int v5), .val (.int nn), .val (.int v38), .val (.int (1 : Int32)), .val (.int cb), .val (.int v65), .val (.ref b3), .val (.ref b44), .unset, .unset] []))
              have hi168 : ¬ (v5.toInt < 128) := (fun q => hc168 (Int32.lt_iff_toInt_lt.mpr q))
              refine GoW.st (fun t k => XS.iload X46.here hx rfl (hb hby at_177) rfl (XS.sipush X46.here hx rfl (hb hby at_179) k)) ?_
              show GoW p e below QQ (T46.setTop (mkF m 182 #[.val (.int p1), .val (.int p2), .val (.int p3), .val (.int p4), .val (.int v5), .val (.int nn), .val (.int v38), .val (.int (1 : Int32)), .val (.int cb), .val (.int v65), .val (.ref b3), .val (.ref b44), .unset, .unset] [(.int (224 : Int32)), (.int v5)]))
              by_cases hc182 : v5 < (224 : Int32)
              · skip
                refine GoW.st (fun t k => XS.icmpNo X46.here hx rfl (hb hby at_182) rfl (tlt hc182).2.1 k) ?_
                show GoW p e below QQ (T46.setTop (mkF m 185 #[.val (.int p1), .val (.int p2), .val (.int p3), .val (.int p4), .val (.int v5), .val (.int nn), .val (.int v38), .val (.int (1 : Int32)), .val (.int cb), .val (.int v65), .val (.ref b3), .val (.ref b44), .unset, .unset] []))
                have hi182 : v5.toInt < 224 := (Int32.lt_iff_toInt_lt.mp hc182)
                refine GoW.st (fun t k => XS.iconst X46.here hx rfl (hb hby at_185) (XS.istore X46.here hx rfl (hb hby at_186) rfl (l' := #[.val (.int p1), .val (.int p2), .val (.int p3), .val (.int p4), .val (.int v5), .val (.int nn), .val (.int v38), .val (.int (1 : Int32)), .val (.int cb), .val (.int v65), .val (.ref b3), .val (.ref b44), .val (.int (1 : Int32)), .unset]) rfl (XS.goto X46.here hx rfl (pc0 := 188) (pc' := 244) rfl (hb hby at_188) (by decide) (by decide) (XS.aload X46.here hx rfl (hb hby at_244) rfl rfl (XS.iload X46.here hx rfl (hb hby at_246) rfl k))))) ?_
                show GoW p e below QQ (T46.setTop (mkF m 248 #[.val (.int p1), .val (.int p2), .val (.int p3), .val (.int p4), .val (.int v5), .val (.int nn), .val (.int v38), .val (.int (1 : Int32)), .val (.int cb), .val (.int v65), .val (.ref b3), .val (.ref b44), .val (.int (1 : Int32)), .unset] [(.int (1 : Int32)), (.ref b44)]))
                obtain ⟨cq51, kq51, qa51, qb51, qc51⟩ := isOf hZ rfl p46_0
                obtain ⟨_, _, ⟨T51, zL51, zk51, zn51⟩, -, X51, ⟨Lc51, hQ51, zl51, zy51, zz51⟩, st51⟩ := X46.virtualBackUp hx (owner := "com/example/terseform/terseform/TextCursor") (x := (⟨"com/example/terseform/terseform/TextCursorIsPlainAtPinLaw", "isPlainAt", "(I)Z"⟩ : MethodName)) (y := (⟨"com/example/terseform/terseform/TextCursor", "isPlainAt", "(I)Z"⟩ : MethodName)) hown (mvT hZ (hw _ (List.mem_of_getElem? (i := 62) rfl))) (mvT hZ (hw _ (List.mem_of_getElem? (i := 63) rfl))) (mvT hZ (hw _ (List.mem_of_getElem? (i := 64) rfl))) (by decide) (mvT hZ (hw _ (List.mem_of_getElem? (i := 66) rfl))) (mvT hZ (hw _ (List.mem_of_getElem? (i := 65) rfl))) (backOf (W := 0) (rm7_1 l Z a0 hw [] b44 b3 k3 (nar .byte v65) (nar .byte (v5.toInt8.toInt32)) (nar .byte (nn.toInt8.toInt32)) (nar .byte (v38.toInt8.toInt32)) T46.heap n0 (Nat.le_trans Z0 K46.1) p46_1 f47_V_b3) hZ (hw _ (List.mem_of_getElem? (i := 67) rfl)) (hw _ (List.mem_of_getElem? (i := 10) rfl)) (by decide) (by decide)) qa51 qc51 (g := (mkF m 248 #[.val (.int p1), .val (.int p2), .val (.int p3), .val (.int p4), .val (.int v5), .val (.int nn), .val (.int v38), .val (.int (1 : Int32)), .val (.int cb), .val (.int v65), .val (.ref b3), .val (.ref b44), .val (.int (1 : Int32)), .unset] [(.int (1 : Int32)), (.ref b44)])) rfl (by rw [hml]; rfl) (Steps.refl _) (argsL := [(.int (1 : Int32))]) (rest := []) (lenOf pd_4 rfl) rfl (by show 2 * 0 + _ ≤ _; exact Nat.le_of_eq rfl) (hb hby at_248) (fun _ _ => ⟨rfl, rfl, (by decide : 11 + 0 ≤ _), (by decide : 180 + 0 ≤ _)⟩)
                dsimp only [Pt.U, Pt.locs, Pt.cells, Pt.slots] at X51 zl51 zy51 zz51 st51 hQ51
                subst zl51 zy51 zz51
                obtain ⟨rfl, Nq51, hh51⟩ := hQ51
                have N51 := Fr.app N46 Nq51
                refine GoW.st (fun t k => st51.trans k) ?_
                show GoW p e below QQ (T51.setTop (mkF m 251 #[.val (.int p1), .val (.int p2), .val (.int p3), .val (.int p4), .val (.int v5), .val (.int nn), .val (.int v38), .val (.int (1 : Int32)), .val (.int cb), .val (.int v65), .val (.ref b3), .val (.ref b44), .val (.int (1 : Int32)), .unset] [(.int (own_plain (nar .byte (v5.toInt8.toInt32)) (nar .byte (nn.toInt8.toInt32))))]))
                refine GoW.st (fun t k => XS.iload X51.here hx rfl (hb hby at_251) rfl k) ?_
                show GoW p e below QQ (T51.setTop (mkF m 253 #[.val (.int p1), .val (.int p2), .val (.int p3), .val (.int p4), .val (.int v5), .val (.int nn), .val (.int v38), .val (.int (1 : Int32)), .val (.int cb), .val (.int v65), .val (.ref b3), .val (.ref b44), .val (.int (1 : Int32)), .unset] [(.int (1 : Int32)), (.int (own_plain (nar .byte (v5.toInt8.toInt32)) (nar .byte (nn.toInt8.toInt32))))]))
                have hc253 : (own_plain (nar .byte (v5.toInt8.toInt32)) (nar .byte (nn.toInt8.toInt32))) = (1 : Int32) := by
                  have f0 := own_nb v5
                  have f1 := own_nb nn
                  rw [own_plain, if_pos (by unfold own_P; omega)]
                refine GoW.st (fun t k => XS.icmpNo X51.here hx rfl (hb hby at_253) rfl (teq hc253).2 k) ?_
                show GoW p e below QQ (T51.setTop (mkF m 256 #[.val (.int p1), .val (.int p2), .val (.int p3), .val (.int p4), .val (.int v5), .val (.int nn), .val (.int v38), .val (.int (1 : Int32)), .val (.int cb), .val (.int v65), .val (.ref b3), .val (.ref b44), .val (.int (1 : Int32)), .unset] []))
                have hi253 : ((own_plain (nar .byte (v5.toInt8.toInt32)) (nar .byte (nn.toInt8.toInt32)))).toInt = 1 := (congrArg Int32.toInt hc253)
                refine GoW.st (fun t k => XS.iconst X51.here hx rfl (hb hby at_256) (XS.goto X51.here hx rfl (pc0 := 257) (pc' := 261) rfl (hb hby at_257) (by decide) (by decide) k)) ?_
                show GoW p e below QQ (T51.setTop (mkF m 261 #[.val (.int p1), .val (.int p2), .val (.int p3), .val (.int p4), .val (.int v5), .val (.int nn), .val (.int v38), .val (.int (1 : Int32)), .val (.int cb), .val (.int v65), .val (.ref b3), .val (.ref b44), .val (.int (1 : Int32)), .unset] [(.int (1 : Int32))]))
                exact GoW.fin X51 (some (.int (nar .boolean (1 : Int32)))) (fun q => by rw [hret] at q; cases q) hlk hQ hh51 ⟨rfl, N51⟩ (by decide) (by decide) (fun fs hr => retN X51 hx (t := .boolean) hret (by simp) (hb hby at_261) hr)
              · skip
                refine GoW.st (fun t k => XS.icmpYes X46.here hx rfl (pc0 := 182) (pc' := 191) rfl (hb hby at_182) rfl (flt hc182).2.1 (by decide) (by decide) k) ?_
                show GoW p e below QQ (T46.setTop (mkF m 191 #[.val (.int p1), .val (.int p2), .val (.int p3), .val (.int p4), .val (.int v5), .val (.int nn), .val (.int v38), .val (.int (1 : Int32)), .val (.int cb), .val (.int v65), .val (.ref b3), .val (.ref b44), .unset, .unset] []))
                have hi182 : ¬ (v5.toInt < 224) := (fun q => hc182 (Int32.lt_iff_toInt_lt.mpr q))
                refine GoW.st (fun t k => XS.iload X46.here hx rfl (hb hby at_191) rfl (XS.sipush X46.here hx rfl (hb hby at_193) k)) ?_
                show GoW p e below QQ (T46.setTop (mkF m 196 #[.val (.int p1), .val (.int p2), .val (.int p3), .val (.int p4), .val (.int v5), .val (.int nn), .val (.int v38), .val (.int (1 : Int32)), .val (.int cb), .val (.int v65), .val (.ref b3), .val (.ref b44), .unset, .unset] [(.int (240 : Int32)), (.int v5)]))
                by_cases hc196 : v5 < (240 : Int32)
                · skip
                  refine GoW.st (fun t k => XS.icmpNo X46.here hx rfl (hb hby at_196) rfl (tlt hc196).2.1 k) ?_
                  show GoW p e below QQ (T46.setTop (mkF m 199 #[.val (.int p1), .val (.int p2), .val (.int p3), .val (.int p4), .val (.int v5), .val (.int nn), .val (.int v38), .val (.int (1 : Int32)), .val (.int cb), .val (.int v65), .val (.ref b3), .val (.ref b44), .unset, .unset] []))
                  have hi196 : v5.toInt < 240 := (Int32.lt_iff_toInt_lt.mp hc196)
                  refine GoW.st (fun t k => XS.iload X46.here hx rfl (hb hby at_199) rfl (XS.bipush X46.here hx rfl (hb hby at_201) (XS.iand X46.here hx rfl (hb hby at_203) rfl (XS.bipush X46.here hx rfl (hb hby at_204) (XS.ishl X46.here hx rfl (hb hby at_206) rfl (XS.iload X46.here hx rfl (hb hby at_207) rfl k)))))) ?_
                  show GoW p e below QQ (T46.setTop (mkF m 209 #[.val (.int p1), .val (.int p2), .val (.int p3), .val (.int p4), .val (.int v5), .val (.int nn), .val (.int v38), .val (.int (1 : Int32)), .val (.int cb), .val (.int v65), .val (.ref b3), .val (.ref b44), .unset, .unset] [(.int nn), (.int ((v5 &&& (15 : Int32)) <<< ((12 : Int32) &&& 31)))]))
                  refine GoW.st (fun t k => XS.bipush X46.here hx rfl (hb hby at_209) (XS.iand X46.here hx rfl (hb hby at_211) rfl (XS.bipush X46.here hx rfl (hb hby at_212) (XS.ishl X46.here hx rfl (hb hby at_214) rfl (XS.ior X46.here hx rfl (hb hby at_215) rfl (XS.iload X46.here hx rfl (hb hby at_216) rfl k)))))) ?_
                  show GoW p e below QQ (T46.setTop (mkF m 218 #[.val (.int p1), .val (.int p2), .val (.int p3), .val (.int p4), .val (.int v5), .val (.int nn), .val (.int v38), .val (.int (1 : Int32)), .val (.int cb), .val (.int v65), .val (.ref b3), .val (.ref b44), .unset, .unset] [(.int v38), (.int (((v5 &&& (15 : Int32)) <<< ((12 : Int32) &&& 31)) ||| ((nn &&& (63 : Int32)) <<< ((6 : Int32) &&& 31))))]))
                  refine GoW.st (fun t k => XS.bipush X46.here hx rfl (hb hby at_218) (XS.iand X46.here hx rfl (hb hby at_220) rfl (XS.ior X46.here hx rfl (hb hby at_221) rfl (XS.istore X46.here hx rfl (hb hby at_222) rfl (l' := #[.val (.int p1), .val (.int p2), .val (.int p3), .val (.int p4), .val (.int v5), .val (.int nn), .val (.int v38), .val (.int (1 : Int32)), .val (.int cb), .val (.int v65), .val (.ref b3), .val (.ref b44), .unset, .val (.int ((((v5 &&& (15 : Int32)) <<< ((12 : Int32) &&& 31)) ||| ((nn &&& (63 : Int32)) <<< ((6 : Int32) &&& 31))) ||| (v38 &&& (63 : Int32))))]) rfl k)))) ?_
                  show GoW p e below QQ (T46.setTop (mkF m 224 #[.val (.int p1), .val (.int p2), .val (.int p3), .val (.int p4), .val (.int v5), .val (.int nn), .val (.int v38), .val (.int (1 : Int32)), .val (.int cb), .val (.int v65), .val (.ref b3), .val (.ref b44), .unset, .val (.int ((((v5 &&& (15 : Int32)) <<< ((12 : Int32) &&& 31)) ||| ((nn &&& (63 : Int32)) <<< ((6 : Int32) &&& 31))) ||| (v38 &&& (63 : Int32))))] []))
                  generalize hv222 : ((((v5 &&& (15 : Int32)) <<< ((12 : Int32) &&& 31)) ||| ((nn &&& (63 : Int32)) <<< ((6 : Int32) &&& 31))) ||| (v38 &&& (63 : Int32))) = v222
                  have cpv := own_cp v5 nn v38 (by omega)
                  rw [hv222] at cpv
                  refine GoW.st (fun t k => XS.iload X46.here hx rfl (hb hby at_224) rfl (X46.ldcInt hx hown (mvT hZ (hw _ (List.mem_of_getElem? (i := 68) rfl))) (g := (mkF m 226 #[.val (.int p1), .val (.int p2), .val (.int p3), .val (.int p4), .val (.int v5), .val (.int nn), .val (.int v38), .val (.int (1 : Int32)), .val (.int cb), .val (.int v65), .val (.ref b3), .val (.ref b44), .unset, .val (.int v222)] [(.int v222)])) rfl (hb hby at_226) t k)) ?_
                  show GoW p e below QQ (T46.setTop (mkF m 228 #[.val (.int p1), .val (.int p2), .val (.int p3), .val (.int p4), .val (.int v5), .val (.int nn), .val (.int v38), .val (.int (1 : Int32)), .val (.int cb), .val (.int v65), .val (.ref b3), .val (.ref b44), .unset, .val (.int v222)] [(.int (55296 : Int32)), (.int v222)]))
                  by_cases hc228 : v222 < (55296 : Int32)
                  · skip
                    refine GoW.st (fun t k => XS.icmpNo X46.here hx rfl (hb hby at_228) rfl (tlt hc228).2.1 k) ?_
                    show GoW p e below QQ (T46.setTop (mkF m 231 #[.val (.int p1), .val (.int p2), .val (.int p3), .val (.int p4), .val (.int v5), .val (.int nn), .val (.int v38), .val (.int (1 : Int32)), .val (.int cb), .val (.int v65), .val (.ref b3), .val (.ref b44), .unset, .val (.int v222)] []))
                    have hi228 : v222.toInt < 55296 := (Int32.lt_iff_toInt_lt.mp hc228)
                    refine GoW.st (fun t k => XS.iconst X46.here hx rfl (hb hby at_231) (XS.goto X46.here hx rfl (pc0 := 232) (pc' := 236) rfl (hb hby at_232) (by decide) (by decide) (XS.istore X46.here hx rfl (hb hby at_236) rfl (l' := #[.val (.int p1), .val (.int p2), .val (.int p3), .val (.int p4), .val (.int v5), .val (.int nn), .val (.int v38), .val (.int (1 : Int32)), .val (.int cb), .val (.int v65), .val (.ref b3), .val (.ref b44), .val (.int (1 : Int32)), .val (.int v222)]) rfl (XS.goto X46.here hx rfl (pc0 := 238) (pc' := 244) rfl (hb hby at_238) (by decide) (by decide) (XS.aload X46.here hx rfl (hb hby at_244) rfl rfl (XS.iload X46.here hx rfl (hb hby at_246) rfl k)))))) ?_
                    show GoW p e below QQ (T46.setTop (mkF m 248 #[.val (.int p1), .val (.int p2), .val (.int p3), .val (.int p4), .val (.int v5), .val (.int nn), .val (.int v38), .val (.int (1 : Int32)), .val (.int cb), .val (.int v65), .val (.ref b3), .val (.ref b44), .val (.int (1 : Int32)), .val (.int v222)] [(.int (1 : Int32)), (.ref b44)]))
                    obtain ⟨cq52, kq52, qa52, qb52, qc52⟩ := isOf hZ rfl p46_0
                    obtain ⟨_, _, ⟨T52, zL52, zk52, zn52⟩, -, X52, ⟨Lc52, hQ52, zl52, zy52, zz52⟩, st52⟩ := X46.virtualBackUp hx (owner := "com/example/terseform/terseform/TextCursor") (x := (⟨"com/example/terseform/terseform/TextCursorIsPlainAtPinLaw", "isPlainAt", "(I)Z"⟩ : MethodName)) (y := (⟨"com/example/terseform/terseform/TextCursor", "isPlainAt", "(I)Z"⟩ : MethodName)) hown (mvT hZ (hw _ (List.mem_of_getElem? (i := 62) rfl))) (mvT hZ (hw _ (List.mem_of_getElem? (i := 63) rfl))) (mvT hZ (hw _ (List.mem_of_getElem? (i := 64) rfl))) (by decide) (mvT hZ (hw _ (List.mem_of_getElem? (i := 66) rfl))) (mvT hZ (hw _ (List.mem_of_getElem? (i := 65) rfl))) (backOf (W := 0) (rm7_1 l Z a0 hw [] b44 b3 k3 (nar .byte v65) (nar .byte (v5.toInt8.toInt32)) (nar .byte (nn.toInt8.toInt32)) (nar .byte (v38.toInt8.toInt32)) T46.heap n0 (Nat.le_trans Z0 K46.1) p46_1 f47_V_b3) hZ (hw _ (List.mem_of_getElem? (i := 67) rfl)) (hw _ (List.mem_of_getElem? (i := 10) rfl)) (by decide) (by decide)) qa52 qc52 (g := (mkF m 248 #[.val (.int p1), .val (.int p2), .val (.int p3), .val (.int p4), .val (.int v5), .val (.int nn), .val (.int v38), .val (.int (1 : Int32)), .val (.int cb), .val (.int v65), .val (.ref b3), .val (.ref b44), .val (.int (1 : Int32)), .val (.int v222)] [(.int (1 : Int32)), (.ref b44)])) rfl (by rw [hml]; rfl) (Steps.refl _) (argsL := [(.int (1 : Int32))]) (rest := []) (lenOf pd_4 rfl) rfl (by show 2 * 0 + _ ≤ _; exact Nat.le_of_eq rfl) (hb hby at_248) (fun _ _ => ⟨rfl, rfl, (by decide : 11 + 0 ≤ _), (by decide : 180 + 0 ≤ _)⟩)
                    dsimp only [Pt.U, Pt.locs, Pt.cells, Pt.slots] at X52 zl52 zy52 zz52 st52 hQ52
                    subst zl52 zy52 zz52
                    obtain ⟨rfl, Nq52, hh52⟩ := hQ52
                    have N52 := Fr.app N46 Nq52
                    refine GoW.st (fun t k => st52.trans k) ?_
                    show GoW p e below QQ (T52.setTop (mkF m 251 #[.val (.int p1), .val (.int p2), .val (.int p3), .val (.int p4), .val (.int v5), .val (.int nn), .val (.int v38), .val (.int (1 : Int32)), .val (.int cb), .val (.int v65), .val (.ref b3), .val (.ref b44), .val (.int (1 : Int32)), .val (.int v222)] [(.int (own_plain (nar .byte (v5.toInt8.toInt32)) (nar .byte (nn.toInt8.toInt32))))]))
                    refine GoW.st (fun t k => XS.iload X52.here hx rfl (hb hby at_251) rfl k) ?_
                    show GoW p e below QQ (T52.setTop (mkF m 253 #[.val (.int p1), .val (.int p2), .val (.int p3), .val (.int p4), .val (.int v5), .val (.int nn), .val (.int v38), .val (.int (1 : Int32)), .val (.int cb), .val (.int v65), .val (.ref b3), .val (.ref b44), .val (.int (1 : Int32)), .val (.int v222)] [(.int (1 : Int32)), (.int (own_plain (nar .byte (v5.toInt8.toInt32)) (nar .byte (nn.toInt8.toInt32))))]))
                    have hc253 : (own_plain (nar .byte (v5.toInt8.toInt32)) (nar .byte (nn.toInt8.toInt32))) = (1 : Int32) := by
                      have f0 := own_nb v5
                      have f1 := own_nb nn
                      rw [own_plain, if_pos (by unfold own_P; omega)]
                    refine GoW.st (fun t k => XS.icmpNo X52.here hx rfl (hb hby at_253) rfl (teq hc253).2 k) ?_
                    show GoW p e below QQ (T52.setTop (mkF m 256 #[.val (.int p1), .val (.int p2), .val (.int p3), .val (.int p4), .val (.int v5), .val (.int nn), .val (.int v38), .val (.int (1 : Int32)), .val (.int cb), .val (.int v65), .val (.ref b3), .val (.ref b44), .val (.int (1 : Int32)), .val (.int v222)] []))
                    have hi253 : ((own_plain (nar .byte (v5.toInt8.toInt32)) (nar .byte (nn.toInt8.toInt32)))).toInt = 1 := (congrArg Int32.toInt hc253)
                    refine GoW.st (fun t k => XS.iconst X52.here hx rfl (hb hby at_256) (XS.goto X52.here hx rfl (pc0 := 257) (pc' := 261) rfl (hb hby at_257) (by decide) (by decide) k)) ?_
                    show GoW p e below QQ (T52.setTop (mkF m 261 #[.val (.int p1), .val (.int p2), .val (.int p3), .val (.int p4), .val (.int v5), .val (.int nn), .val (.int v38), .val (.int (1 : Int32)), .val (.int cb), .val (.int v65), .val (.ref b3), .val (.ref b44), .val (.int (1 : Int32)), .val (.int v222)] [(.int (1 : Int32))]))
                    exact GoW.fin X52 (some (.int (nar .boolean (1 : Int32)))) (fun q => by rw [hret] at q; cases q) hlk hQ hh52 ⟨rfl, N52⟩ (by decide) (by decide) (fun fs hr => retN X52 hx (t := .boolean) hret (by simp) (hb hby at_261) hr)
                  · skip
                    refine GoW.st (fun t k => XS.icmpYes X46.here hx rfl (pc0 := 228) (pc' := 235) rfl (hb hby at_228) rfl (flt hc228).2.1 (by decide) (by decide) k) ?_
                    show GoW p e below QQ (T46.setTop (mkF m 235 #[.val (.int p1), .val (.int p2), .val (.int p3), .val (.int p4), .val (.int v5), .val (.int nn), .val (.int v38), .val (.int (1 : Int32)), .val (.int cb), .val (.int v65), .val (.ref b3), .val (.ref b44), .unset, .val (.int v222)] []))
                    have hi228 : ¬ (v222.toInt < 55296) := (fun q => hc228 (Int32.lt_iff_toInt_lt.mpr q))
                    refine GoW.st (fun t k => XS.iconst X46.here hx rfl (hb hby at_235) (XS.istore X46.here hx rfl (hb hby at_236) rfl (l' := #[.val (.int p1), .val (.int p2), .val (.int p3), .val (.int p4), .val (.int v5), .val (.int nn), .val (.int v38), .val (.int (1 : Int32)), .val (.int cb), .val (.int v65), .val (.ref b3), .val (.ref b44), .val (.int (0 : Int32)), .val (.int v222)]) rfl (XS.goto X46.here hx rfl (pc0 := 238) (pc' := 244) rfl (hb hby at_238) (by decide) (by decide) (XS.aload X46.here hx rfl (hb hby at_244) rfl rfl (XS.iload X46.here hx rfl (hb hby at_246) rfl k))))) ?_
                    show GoW p e below QQ (T46.setTop (mkF m 248 #[.val (.int p1), .val (.int p2), .val (.int p3), .val (.int p4), .val (.int v5), .val (.int nn), .val (.int v38), .val (.int (1 : Int32)), .val (.int cb), .val (.int v65), .val (.ref b3), .val (.ref b44), .val (.int (0 : Int32)), .val (.int v222)] [(.int (1 : Int32)), (.ref b44)]))
                    obtain ⟨cq53, kq53, qa53, qb53, qc53⟩ := isOf hZ rfl p46_0
                    obtain ⟨_, _, ⟨T53, zL53, zk53, zn53⟩, -, X53, ⟨Lc53, hQ53, zl53, zy53, zz53⟩, st53⟩ := X46.virtualBackUp hx (owner := "com/example/terseform/terseform/TextCursor") (x := (⟨"com/example/terseform/terseform/TextCursorIsPlainAtPinLaw", "isPlainAt", "(I)Z"⟩ : MethodName)) (y := (⟨"com/example/terseform/terseform/TextCursor", "isPlainAt", "(I)Z"⟩ : MethodName)) hown (mvT hZ (hw _ (List.mem_of_getElem? (i := 62) rfl))) (mvT hZ (hw _ (List.mem_of_getElem? (i := 63) rfl))) (mvT hZ (hw _ (List.mem_of_getElem? (i := 64) rfl))) (by decide) (mvT hZ (hw _ (List.mem_of_getElem? (i := 66) rfl))) (mvT hZ (hw _ (List.mem_of_getElem? (i := 65) rfl))) (backOf (W := 0) (rm7_1 l Z a0 hw [] b44 b3 k3 (nar .byte v65) (nar .byte (v5.toInt8.toInt32)) (nar .byte (nn.toInt8.toInt32)) (nar .byte (v38.toInt8.toInt32)) T46.heap n0 (Nat.le_trans Z0 K46.1) p46_1 f47_V_b3) hZ (hw _ (List.mem_of_getElem? (i := 67) rfl)) (hw _ (List.mem_of_getElem? (i := 10) rfl)) (by decide) (by decide)) qa53 qc53 (g := (mkF m 248 #[.val (.int p1), .val (.int p2), .val (.int p3), .val (.int p4), .val (.int v5), .val (.int nn), .val (.int v38), .val (.int (1 : Int32)), .val (.int cb), .val (.int v65), .val (.ref b3), .val (.ref b44), .val (.int (0 : Int32)), .val (.int v222)] [(.int (1 : Int32)), (.ref b44)])) rfl (by rw [hml]; rfl) (Steps.refl _) (argsL := [(.int (1 : Int32))]) (rest := []) (lenOf pd_4 rfl) rfl (by show 2 * 0 + _ ≤ _; exact Nat.le_of_eq rfl) (hb hby at_248) (fun _ _ => ⟨rfl, rfl, (by decide : 11 + 0 ≤ _), (by decide : 180 + 0 ≤ _)⟩)
                    dsimp only [Pt.U, Pt.locs, Pt.cells, Pt.slots] at X53 zl53 zy53 zz53 st53 hQ53
                    subst zl53 zy53 zz53
                    obtain ⟨rfl, Nq53, hh53⟩ := hQ53
                    have N53 := Fr.app N46 Nq53
                    refine GoW.st (fun t k => st53.trans k) ?_
                    show GoW p e below QQ (T53.setTop (mkF m 251 #[.val (.int p1), .val (.int p2), .val (.int p3), .val (.int p4), .val (.int v5), .val (.int nn), .val (.int v38), .val (.int (1 : Int32)), .val (.int cb), .val (.int v65), .val (.ref b3), .val (.ref b44), .val (.int (0 : Int32)), .val (.int v222)] [(.int (own_plain (nar .byte (v5.toInt8.toInt32)) (nar .byte (nn.toInt8.toInt32))))]))
                    refine GoW.st (fun t k => XS.iload X53.here hx rfl (hb hby at_251) rfl k) ?_
                    show GoW p e below QQ (T53.setTop (mkF m 253 #[.val (.int p1), .val (.int p2), .val (.int p3), .val (.int p4), .val (.int v5), .val (.int nn), .val (.int v38), .val (.int (1 : Int32)), .val (.int cb), .val (.int v65), .val (.ref b3), .val (.ref b44), .val (.int (0 : Int32)), .val (.int v222)] [(.int (0 : Int32)), (.int (own_plain (nar .byte (v5.toInt8.toInt32)) (nar .byte (nn.toInt8.toInt32))))]))
                    have hc253 : (own_plain (nar .byte (v5.toInt8.toInt32)) (nar .byte (nn.toInt8.toInt32))) = (0 : Int32) := by
                      have f0 := own_nb v5
                      have f1 := own_nb nn
                      rw [own_plain, if_neg (by unfold own_P; omega)]
                    refine GoW.st (fun t k => XS.icmpNo X53.here hx rfl (hb hby at_253) rfl (teq hc253).2 k) ?_
                    show GoW p e below QQ (T53.setTop (mkF m 256 #[.val (.int p1), .val (.int p2), .val (.int p3), .val (.int p4), .val (.int v5), .val (.int nn), .val (.int v38), .val (.int (1 : Int32)), .val (.int cb), .val (.int v65), .val (.ref b3), .val (.ref b44), .val (.int (0 : Int32)), .val (.int v222)] []))
                    have hi253 : ((own_plain (nar .byte (v5.toInt8.toInt32)) (nar .byte (nn.toInt8.toInt32)))).toInt = 0 := (congrArg Int32.toInt hc253)
                    refine GoW.st (fun t k => XS.iconst X53.here hx rfl (hb hby at_256) (XS.goto X53.here hx rfl (pc0 := 257) (pc' := 261) rfl (hb hby at_257) (by decide) (by decide) k)) ?_
                    show GoW p e below QQ (T53.setTop (mkF m 261 #[.val (.int p1), .val (.int p2), .val (.int p3), .val (.int p4), .val (.int v5), .val (.int nn), .val (.int v38), .val (.int (1 : Int32)), .val (.int cb), .val (.int v65), .val (.ref b3), .val (.ref b44), .val (.int (0 : Int32)), .val (.int v222)] [(.int (1 : Int32))]))
                    exact GoW.fin X53 (some (.int (nar .boolean (1 : Int32)))) (fun q => by rw [hret] at q; cases q) hlk hQ hh53 ⟨rfl, N53⟩ (by decide) (by decide) (fun fs hr => retN X53 hx (t := .boolean) hret (by simp) (hb hby at_261) hr)
                · skip
                  refine GoW.st (fun t k => XS.icmpYes X46.here hx rfl (pc0 := 196) (pc' := 241) rfl (hb hby at_196) rfl (flt hc196).2.1 (by decide) (by decide) k) ?_
                  show GoW p e below QQ (T46.setTop (mkF m 241 #[.val (.int p1), .val (.int p2), .val (.int p3), .val (.int p4), .val (.int v5), .val (.int nn), .val (.int v38), .val (.int (1 : Int32)), .val (.int cb), .val (.int v65), .val (.ref b3), .val (.ref b44), .unset, .unset] []))
                  have hi196 : ¬ (v5.toInt < 240) := (fun q => hc196 (Int32.lt_iff_toInt_lt.mpr q))
                  refine GoW.st (fun t k => XS.iconst X46.here hx rfl (hb hby at_241) (XS.istore X46.here hx rfl (hb hby at_242) rfl (l' := #[.val (.int p1), .val (.int p2), .val (.int p3), .val (.int p4), .val (.int v5), .val (.int nn), .val (.int v38), .val (.int (1 : Int32)), .val (.int cb), .val (.int v65), .val (.ref b3), .val (.ref b44), .val (.int (0 : Int32)), .unset]) rfl (XS.aload X46.here hx rfl (hb hby at_244) rfl rfl (XS.iload X46.here hx rfl (hb hby at_246) rfl k)))) ?_
                  show GoW p e below QQ (T46.setTop (mkF m 248 #[.val (.int p1), .val (.int p2), .val (.int p3), .val (.int p4), .val (.int v5), .val (.int nn), .val (.int v38), .val (.int (1 : Int32)), .val (.int cb), .val (.int v65), .val (.ref b3), .val (.ref b44), .val (.int (0 : Int32)), .unset] [(.int (1 : Int32)), (.ref b44)]))
                  obtain ⟨cq54, kq54, qa54, qb54, qc54⟩ := isOf hZ rfl p46_0
                  obtain ⟨_, _, ⟨T54, zL54, zk54, zn54⟩, -, X54, ⟨Lc54, hQ54, zl54, zy54, zz54⟩, st54⟩ := X46.virtualBackUp hx (owner := "com/example/terseform/terseform/TextCursor") (x := (⟨"com/example/terseform/terseform/TextCursorIsPlainAtPinLaw", "isPlainAt", "(I)Z"⟩ : MethodName)) (y := (⟨"com/example/terseform/terseform/TextCursor", "isPlainAt", "(I)Z"⟩ : MethodName)) hown (mvT hZ (hw _ (List.mem_of_getElem? (i := 62) rfl))) (mvT hZ (hw _ (List.mem_of_getElem? (i := 63) rfl))) (mvT hZ (hw _ (List.mem_of_getElem? (i := 64) rfl))) (by decide) (mvT hZ (hw _ (List.mem_of_getElem? (i := 66) rfl))) (mvT hZ (hw _ (List.mem_of_getElem? (i := 65) rfl))) (backOf (W := 0) (rm7_1 l Z a0 hw [] b44 b3 k3 (nar .byte v65) (nar .byte (v5.toInt8.toInt32)) (nar .byte (nn.toInt8.toInt32)) (nar .byte (v38.toInt8.toInt32)) T46.heap n0 (Nat.le_trans Z0 K46.1) p46_1 f47_V_b3) hZ (hw _ (List.mem_of_getElem? (i := 67) rfl)) (hw _ (List.mem_of_getElem? (i := 10) rfl)) (by decide) (by decide)) qa54 qc54 (g := (mkF m 248 #[.val (.int p1), .val (.int p2), .val (.int p3), .val (.int p4), .val (.int v5), .val (.int nn), .val (.int v38), .val (.int (1 : Int32)), .val (.int cb), .val (.int v65), .val (.ref b3), .val (.ref b44), .val (.int (0 : Int32)), .unset] [(.int (1 : Int32)), (.ref b44)])) rfl (by rw [hml]; rfl) (Steps.refl _) (argsL := [(.int (1 : Int32))]) (rest := []) (lenOf pd_4 rfl) rfl (by show 2 * 0 + _ ≤ _; exact Nat.le_of_eq rfl) (hb hby at_248) (fun _ _ => ⟨rfl, rfl, (by decide : 11 + 0 ≤ _), (by decide : 180 + 0 ≤ _)⟩)
                  dsimp only [Pt.U, Pt.locs, Pt.cells, Pt.slots] at X54 zl54 zy54 zz54 st54 hQ54
                  subst zl54 zy54 zz54
                  obtain ⟨rfl, Nq54, hh54⟩ := hQ54
                  have N54 := Fr.app N46 Nq54
                  refine GoW.st (fun t k => st54.trans k) ?_
                  show GoW p e below QQ (T54.setTop (mkF m 251 #[.val (.int p1), .val (.int p2), .val (.int p3), .val (.int p4), .val (.int v5), .val (.int nn), .val (.int v38), .val (.int (1 : Int32)), .val (.int cb), .val (.int v65), .val (.ref b3), .val (.ref b44), .val (.int (0 : Int32)), .unset] [(.int (own_plain (nar .byte (v5.toInt8.toInt32)) (nar .byte (nn.toInt8.toInt32))))]))
                  refine GoW.st (fun t k => XS.iload X54.here hx rfl (hb hby at_251) rfl k) ?_
                  show GoW p e below QQ (T54.setTop (mkF m 253 #[.val (.int p1), .val (.int p2), .val (.int p3), .val (.int p4), .val (.int v5), .val (.int nn), .val (.int v38), .val (.int (1 : Int32)), .val (.int cb), .val (.int v65), .val (.ref b3), .val (.ref b44), .val (.int (0 : Int32)), .unset] [(.int (0 : Int32)), (.int (own_plain (nar .byte (v5.toInt8.toInt32)) (nar .byte (nn.toInt8.toInt32))))]))
                  have hc253 : (own_plain (nar .byte (v5.toInt8.toInt32)) (nar .byte (nn.toInt8.toInt32))) = (0 : Int32) := by
                    have f0 := own_nb v5
                    have f1 := own_nb nn
                    rw [own_plain, if_neg (by unfold own_P; omega)]
                  refine GoW.st (fun t k => XS.icmpNo X54.here hx rfl (hb hby at_253) rfl (teq hc253).2 k) ?_
                  show GoW p e below QQ (T54.setTop (mkF m 256 #[.val (.int p1), .val (.int p2), .val (.int p3), .val (.int p4), .val (.int v5), .val (.int nn), .val (.int v38), .val (.int (1 : Int32)), .val (.int cb), .val (.int v65), .val (.ref b3), .val (.ref b44), .val (.int (0 : Int32)), .unset] []))
                  have hi253 : ((own_plain (nar .byte (v5.toInt8.toInt32)) (nar .byte (nn.toInt8.toInt32)))).toInt = 0 := (congrArg Int32.toInt hc253)
                  refine GoW.st (fun t k => XS.iconst X54.here hx rfl (hb hby at_256) (XS.goto X54.here hx rfl (pc0 := 257) (pc' := 261) rfl (hb hby at_257) (by decide) (by decide) k)) ?_
                  show GoW p e below QQ (T54.setTop (mkF m 261 #[.val (.int p1), .val (.int p2), .val (.int p3), .val (.int p4), .val (.int v5), .val (.int nn), .val (.int v38), .val (.int (1 : Int32)), .val (.int cb), .val (.int v65), .val (.ref b3), .val (.ref b44), .val (.int (0 : Int32)), .unset] [(.int (1 : Int32))]))
                  exact GoW.fin X54 (some (.int (nar .boolean (1 : Int32)))) (fun q => by rw [hret] at q; cases q) hlk hQ hh54 ⟨rfl, N54⟩ (by decide) (by decide) (fun fs hr => retN X54 hx (t := .boolean) hret (by simp) (hb hby at_261) hr)
    refine GoW.st (fun t k => XS.iloadN XJ1.here hx rfl (hb hby at_45) rfl (XS.iconst XJ1.here hx rfl (hb hby at_46) (XS.iushr XJ1.here hx rfl (hb hby at_47) rfl (XS.iconst XJ1.here hx rfl (hb hby at_48) (XS.iand XJ1.here hx rfl (hb hby at_49) rfl k))))) ?_
    show GoW p e below QQ (TJ1.setTop (mkF m 50 #[.val (.int p1), .val (.int p2), .val (.int p3), .val (.int p4), .val (.int v5), .val (.int nn), .val (.int v38), .val (.int v43), .unset, .unset, .unset, .unset, .unset, .unset] [(.int (((p4.toUInt32 >>> ((1 : Int32) &&& 31).toUInt32).toInt32) &&& (1 : Int32)))]))
    by_cases hc50 : (((p4.toUInt32 >>> ((1 : Int32) &&& 31).toUInt32).toInt32) &&& (1 : Int32)) = (0 : Int32)
    · skip
      refine GoW.st (fun t k => XS.ifYes XJ1.here hx rfl (pc0 := 50) (pc' := 57) rfl (hb hby at_50) rfl ((if0 _ _).trans (teq hc50).1) (by decide) (by decide) k) ?_
      show GoW p e below QQ (TJ1.setTop (mkF m 57 #[.val (.int p1), .val (.int p2), .val (.int p3), .val (.int p4), .val (.int v5), .val (.int nn), .val (.int v38), .val (.int v43), .unset, .unset, .unset, .unset, .unset, .unset] []))
      have hi50 : ((((p4.toUInt32 >>> ((1 : Int32) &&& 31).toUInt32).toInt32) &&& (1 : Int32))).toInt = 0 := (congrArg Int32.toInt hc50)
      refine GoW.st (fun t k => XS.iconst XJ1.here hx rfl (hb hby at_57) k) ?_
      show GoW p e below QQ (TJ1.setTop (mkF m 58 #[.val (.int p1), .val (.int p2), .val (.int p3), .val (.int p4), .val (.int v5), .val (.int nn), .val (.int v38), .val (.int v43), .unset, .unset, .unset, .unset, .unset, .unset] [(.int (0 : Int32))]))
      exact J58_2 _ _ (0 : Int32) XJ1 eJ1 NJ1   
    · skip
      refine GoW.st (fun t k => XS.ifNo XJ1.here hx rfl (hb hby at_50) rfl ((if0 _ _).trans (feq hc50).1) k) ?_
      show GoW p e below QQ (TJ1.setTop (mkF m 53 #[.val (.int p1), .val (.int p2), .val (.int p3), .val (.int p4), .val (.int v5), .val (.int nn), .val (.int v38), .val (.int v43), .unset, .unset, .unset, .unset, .unset, .unset] []))
      have hi50 : ¬ (((((p4.toUInt32 >>> ((1 : Int32) &&& 31).toUInt32).toInt32) &&& (1 : Int32))).toInt = 0) := (fun q => hc50 (Int32.toInt_inj.mp q))
      refine GoW.st (fun t k => XS.iconst XJ1.here hx rfl (hb hby at_53) (XS.goto XJ1.here hx rfl (pc0 := 54) (pc' := 58) rfl (hb hby at_54) (by decide) (by decide) k)) ?_
      show GoW p e below QQ (TJ1.setTop (mkF m 58 #[.val (.int p1), .val (.int p2), .val (.int p3), .val (.int p4), .val (.int v5), .val (.int nn), .val (.int v38), .val (.int v43), .unset, .unset, .unset, .unset, .unset, .unset] [(.int (1 : Int32))]))
      exact J58_2 _ _ (1 : Int32) XJ1 eJ1 NJ1   
  refine GoW.st (fun t k => XS.iload X0.here hx rfl (hb hby at_14) rfl (XS.sipush X0.here hx rfl (hb hby at_16) k)) ?_
  show GoW p e below QQ (T0.setTop (mkF m 19 #[.val (.int p1), .val (.int p2), .val (.int p3), .val (.int p4), .val (.int v5), .val (.int v12), .unset, .unset, .unset, .unset, .unset, .unset, .unset, .unset] [(.int (237 : Int32)), (.int v5)]))
  by_cases hc19 : v5 = (237 : Int32)
  · skip
    refine GoW.st (fun t k => XS.icmpNo X0.here hx rfl (hb hby at_19) rfl (teq hc19).2 k) ?_
    show GoW p e below QQ (T0.setTop (mkF m 22 #[.val (.int p1), .val (.int p2), .val (.int p3), .val (.int p4), .val (.int v5), .val (.int v12), .unset, .unset, .unset, .unset, .unset, .unset, .unset, .unset] []))
    have hi19 : v5.toInt = 237 := (congrArg Int32.toInt hc19)
    refine GoW.st (fun t k => XS.sipush X0.here hx rfl (hb hby at_22) (XS.iload X0.here hx rfl (hb hby at_25) rfl (XS.bipush X0.here hx rfl (hb hby at_27) (XS.iand X0.here hx rfl (hb hby at_29) rfl (XS.ior X0.here hx rfl (hb hby at_30) rfl (XS.istore X0.here hx rfl (hb hby at_31) rfl (l' := #[.val (.int p1), .val (.int p2), .val (.int p3), .val (.int p4), .val (.int v5), .val (.int ((128 : Int32) ||| (v12 &&& (63 : Int32)))), .unset, .unset, .unset, .unset, .unset, .unset, .unset, .unset]) rfl k)))))) ?_
    show GoW p e below QQ (T0.setTop (mkF m 33 #[.val (.int p1), .val (.int p2), .val (.int p3), .val (.int p4), .val (.int v5), .val (.int ((128 : Int32) ||| (v12 &&& (63 : Int32)))), .unset, .unset, .unset, .unset, .unset, .unset, .unset, .unset] []))
    generalize hv31 : ((128 : Int32) ||| (v12 &&& (63 : Int32))) = v31
    exact J33_1 _ _ v31 X0 e0 N0   (by have o := own_or80 v12; rw [hv31] at o; omega) (fun _ => by have o := own_or80 v12; rw [hv31] at o; omega)
  · skip
    refine GoW.st (fun t k => XS.icmpYes X0.here hx rfl (pc0 := 19) (pc' := 33) rfl (hb hby at_19) rfl (feq hc19).2 (by decide) (by decide) k) ?_
    show GoW p e below QQ (T0.setTop (mkF m 33 #[.val (.int p1), .val (.int p2), .val (.int p3), .val (.int p4), .val (.int v5), .val (.int v12), .unset, .unset, .unset, .unset, .unset, .unset, .unset, .unset] []))
    have hi19 : ¬ (v5.toInt = 237) := (fun q => hc19 (Int32.toInt_inj.mp q))
    exact J33_1 _ _ v12 X0 e0 N0   (by omega) (fun q => absurd q hi19)
set_option maxRecDepth 65536 in
set_option maxHeartbeats 40000000 in
theorem comes_1 {Post : Tables → Env → Array Value → State → Outcome → State → Prop} (hpost : ∀ tb e args s v u, (limb_1_1.after args s (.returned v) u = true ∧ limb_1_2.after args s (.returned v) u = true ∧ True) → FrameEnd s (.returned v) u (Jvm.fieldLocs frame_1_writes args s ++ Jvm.arrayLocs frame_1_arrays args s ++ Jvm.staticLocs frame_1_statics s) 32 448 → Post tb e args s (.returned v) u) :
    ArmFor flags0 classFile x code maxLocals ret World_1 tables_1 room_1 Calls_1 rest_1 Pre_1 Post := by
  intro l hfl _ _ p e ha hc hk s m args below hf hA hF happ hP
  obtain ⟨hcalls, hrest, hpre⟩ := hP
  obtain ⟨-, -, -, hnamed, -, -, -, hat⟩ := (Spec.applies_iff hf).mp happ
  obtain ⟨hg, hn⟩ := and_e (Cond.before_iff.mp (show (Jvm.Cond.and given_1 narrow_1).before args s = true from hpre))
  obtain ⟨gcount, gr0⟩ := and_e hg
  obtain ⟨ga0, gr1⟩ := and_e gr0
  obtain ⟨ga1, gr2⟩ := and_e gr1
  obtain ⟨ga2, gr3⟩ := and_e gr2
  obtain ⟨w0, w1, w2, w3, rfl⟩ : ∃ w0 w1 w2 w3 : Value, args = #[w0, w1, w2, w3] := by
    have hs : args.size = 4 := by simpa [Cond.value, given_1] using gcount
    obtain ⟨L⟩ := args
    match L, hs with
    | [w0, w1, w2, w3], _ => exact ⟨w0, w1, w2, w3, rfl⟩
  have hw := fun d (hd : d ∈ tables_1) => atoms_spec (ws := Jvm.Cond.code x code maxLocals ret :: tables_1) hat d (List.mem_cons_of_mem _ hd)
  obtain ⟨i0, ei0⟩ := is_v ga0
  obtain rfl : w0 = (.int i0) := Option.some.inj ei0
  obtain ⟨i1, ei1⟩ := is_v ga1
  obtain rfl : w1 = (.int i1) := Option.some.inj ei1
  obtain ⟨i2, ei2⟩ := is_v ga2
  obtain rfl : w2 = (.int i2) := Option.some.inj ei2
  obtain ⟨i3, ei3⟩ := is_v gr3
  obtain rfl : w3 = (.int i3) := Option.some.inj ei3
  obtain ⟨n, o, h1, h2, h3, _, L, rfl, ⟨rfl, N⟩, hq⟩ := rm0 l s _ hw tables_1 i0 i1 i2 i3 s.heap s.heap.size (Nat.le_refl _) (Nat.le_refl _) p e ha hc hk s m _ below hf ((Spec.applies_iff_loose hf).mp happ).1 ⟨rfl, State.Warmed39.refl s, rfl⟩ trivial
  refine ⟨n, _, h1, h2, h3, hpost _ _ _ _ _ _ ⟨Cond.after_iff.mpr rfl, Cond.after_iff.mpr (eq_i res_at (Term.int_eval (1)) rfl), trivial⟩ ⟨hq.1, hq.2.1, (hq.2.2.sift fun y hy => Or.inr (N y hy)).mono (by decide) (by decide)⟩⟩
theorem main_1_1 : Claimed_1_1 := comes_1 fun _ _ _ _ _ _ h hF => ⟨h.1, hF⟩
theorem main_1_2 : Claimed_1_2 := comes_1 fun _ _ _ _ _ _ h hF => ⟨h.2.1, hF⟩
end Jvm.Pilot.@@N@@
namespace Jvm.Pilot.@@N@@
open Jvm Jvm.ClassFile Sem Op Lib Jvm.Free Jvm.Stand Jvm.Pilot.@@N@@.Jvm.D
/-! MADE BY PROGRAM (witnessworld.py) out of the Statement's table words and the real class files: 16 classes; the members and pool entries that the words name. The judged class is class 2, her method 1. -/
namespace start1
open Jvm.ClassFile
def u (s : String) : CpInfo := .utf8 (stringToUtf16 s)
/-- a pool by its gaps: so many unusable entries, then the entry; so many at the end -/
def gap : Nat → List CpInfo → List CpInfo
  | 0, r => r
  | n + 1, r => .unusable :: gap n r
def poolList (es : List (Nat × CpInfo)) (last : Nat) : List CpInfo := es.foldr (fun e r => gap e.1 (e.2 :: r)) (gap last [])
def pool (es : List (Nat × CpInfo)) (last : Nat) : Array CpInfo := ⟨poolList es last⟩
def fileOf (pool : Array CpInfo) (this : Nat) (attrs : Array Attribute := #[]) (ms : Array MethodInfo := #[]) (fl : Nat := 33) (sup : Nat := 0) (ifs : Array Nat := #[]) (fds : Array FieldInfo := #[]) : ClassFile where
  minorVersion := 0
  majorVersion := 65
  constantPool := pool
  accessFlags := fl
  thisClass := this
  superClass := sup
  interfaces := ifs
  fields := fds
  methods := ms
  attributes := attrs
def plain (name : String) (sup : Option ClassId) : Class where
  name := name
  kind := .ordinary
  loader := none
  accessFlags := 33
  super := sup
  interfaces := #[]
  cf := none
  fields := #[]
  methods := #[]
  instanceTypes := #[]
  staticTypes := #[]
  resolved := #[]
  callSites := []
  init := .initialized
  statics := none
  mirror := none

def pool0 : Array CpInfo := pool [(5, u "<init>"), (0, u "()V"), (1, .class_ 10), (1, u "java/lang/Object")] 113

def k0c0 : Code := { maxStack := 0, maxLocals := 1, code := object_method_1_code, exceptionTable := #[], attributes := #[] }
def k0m0 : Method := { name := "<init>", desc := "()V", sig := { parameters := [], returnType := none }, accessFlags := 1, code := some k0c0 }
/-- java/lang/Object -/
def k0 : Class := { plain "java/lang/Object" none with
  accessFlags := 33
  interfaces := #[]
  cf := some (fileOf pool0 8 #[] #[{ accessFlags := 1, nameIndex := 5, descriptorIndex := 6, attributes := #[] }] 33 0 #[] #[])
  fields := #[]
  methods := #[k0m0]
  instanceTypes := #[]
  staticTypes := #[]
  resolved := Array.replicate 124 none
  statics := none }

def pool1 : Array CpInfo := pool [(1, .methodref 2 3), (0, .class_ 4), (0, .nameAndType 5 6), (0, u "java/lang/Object"), (0, u "<init>"), (0, u "()V"), (0, .fieldref 8 9), (0, .class_ 10), (0, .nameAndType 11 12), (0, u "com/example/terseform/terseform/TextCursor"), (0, u "open"), (0, u "[I"), (0, .class_ 14), (0, u "com/example/terseform/terseform/TextCursor$MemberNames"), (0, .fieldref 8 16), (0, .nameAndType 17 18), (0, u "names"), (0, u "[Lcom/example/terseform/terseform/TextCursor$MemberNames;"), (0, .fieldref 8 20), (0, .nameAndType 21 22), (0, u "keySignatures"), (0, u "[J"), (0, .fieldref 8 24), (0, .nameAndType 25 26), (0, u "text"), (0, u "[B"), (0, .fieldref 8 28), (0, .nameAndType 29 30), (0, u "canonical"), (0, u "Z"), (0, .class_ 32), (0, u "com/example/terseform/terseform/Tape"), (0, .methodref 31 34), (0, .nameAndType 5 35), (0, u "([B)V"), (0, .fieldref 8 37), (0, .nameAndType 38 39), (0, u "tape"), (0, u "Lcom/example/terseform/terseform/Tape;"), (2, u "pos"), (0, u "I"), (58, u "isPlainAt"), (0, u "(I)Z"), (106, u "depth"), (100, u "FEW_KEYS"), (2, u "BRACED"), (1, u "AN_OBJECT"), (1, u "([BZ)V"), (21, .class_ 341), (0, u "com/example/terseform/terseform/TextCursor$Name")] 28

def k1c0 : Code := { maxStack := 4, maxLocals := 3, code := prog_33_method_1_code, exceptionTable := #[], attributes := #[] }
def k1m0 : Method := { name := "<init>", desc := "([BZ)V", sig := { parameters := [(.array .byte), .boolean], returnType := none }, accessFlags := 0, code := some k1c0 }
def k1c1 : Code := { maxStack := 3, maxLocals := 3, code := prog_33_method_5_code, exceptionTable := #[], attributes := #[] }
def k1m1 : Method := { name := "isPlainAt", desc := "(I)Z", sig := { parameters := [.int], returnType := some .boolean }, accessFlags := 16, code := some k1c1 }
/-- com/example/terseform/terseform/TextCursor -/
def k1 : Class := { plain "com/example/terseform/terseform/TextCursor" (some 0) with
  accessFlags := 1056
  interfaces := #[]
  cf := some (fileOf pool1 8 #[.nestMembers #[340, 13]] #[{ accessFlags := 0, nameIndex := 5, descriptorIndex := 318, attributes := #[] }, { accessFlags := 16, nameIndex := 102, descriptorIndex := 103, attributes := #[] }] 1056 2 #[] #[{ accessFlags := 26, nameIndex := 311, descriptorIndex := 43, attributes := #[] }, { accessFlags := 26, nameIndex := 314, descriptorIndex := 43, attributes := #[] }, { accessFlags := 26, nameIndex := 316, descriptorIndex := 43, attributes := #[] }, { accessFlags := 16, nameIndex := 25, descriptorIndex := 26, attributes := #[] }, { accessFlags := 16, nameIndex := 29, descriptorIndex := 30, attributes := #[] }, { accessFlags := 16, nameIndex := 38, descriptorIndex := 39, attributes := #[] }, { accessFlags := 0, nameIndex := 42, descriptorIndex := 43, attributes := #[] }, { accessFlags := 2, nameIndex := 11, descriptorIndex := 12, attributes := #[] }, { accessFlags := 2, nameIndex := 17, descriptorIndex := 18, attributes := #[] }, { accessFlags := 2, nameIndex := 21, descriptorIndex := 22, attributes := #[] }, { accessFlags := 2, nameIndex := 210, descriptorIndex := 43, attributes := #[] }])
  fields := #[{ name := "FEW_KEYS", type := .int, accessFlags := 26, slot := 0, constantValue := 0 }, { name := "BRACED", type := .int, accessFlags := 26, slot := 1, constantValue := 0 }, { name := "AN_OBJECT", type := .int, accessFlags := 26, slot := 2, constantValue := 0 }, { name := "text", type := (.array .byte), accessFlags := 16, slot := 0, constantValue := 0 }, { name := "canonical", type := .boolean, accessFlags := 16, slot := 1, constantValue := 0 }, { name := "tape", type := (.object "com/example/terseform/terseform/Tape"), accessFlags := 16, slot := 2, constantValue := 0 }, { name := "pos", type := .int, accessFlags := 0, slot := 3, constantValue := 0 }, { name := "open", type := (.array .int), accessFlags := 2, slot := 4, constantValue := 0 }, { name := "names", type := (.array (.object "com/example/terseform/terseform/TextCursor$MemberNames")), accessFlags := 2, slot := 5, constantValue := 0 }, { name := "keySignatures", type := (.array .long), accessFlags := 2, slot := 6, constantValue := 0 }, { name := "depth", type := .int, accessFlags := 2, slot := 7, constantValue := 0 }]
  methods := #[k1m0, k1m1]
  instanceTypes := #[(.array .byte), .boolean, (.object "com/example/terseform/terseform/Tape"), .int, (.array .int), (.array (.object "com/example/terseform/terseform/TextCursor$MemberNames")), (.array .long), .int]
  staticTypes := #[.int, .int, .int]
  resolved := Array.replicate 370 none
  statics := none }

def pool2 : Array CpInfo := pool [(1, .methodref 2 3), (0, .class_ 4), (0, .nameAndType 5 6), (0, u "com/example/terseform/terseform/TextCursor"), (0, u "<init>"), (0, u "([BZ)V"), (0, .class_ 8), (0, u "com/example/terseform/terseform/TextCursorIsPlainAtPinLaw"), (0, .methodref 7 3), (0, .integer 55296), (0, .methodref 7 12), (0, .nameAndType 13 14), (0, u "isPlainAt"), (0, u "(I)Z"), (2, u "law"), (0, u "(IIII)Z")] 5

def k2c0 : Code := { maxStack := 3, maxLocals := 3, code := method_1_code, exceptionTable := #[], attributes := #[] }
def k2m0 : Method := { name := "<init>", desc := "([BZ)V", sig := { parameters := [(.array .byte), .boolean], returnType := none }, accessFlags := 2, code := some k2c0 }
def k2c1 : Code := { maxStack := 4, maxLocals := 14, code := code, exceptionTable := #[], attributes := #[] }
def k2m1 : Method := { name := "law", desc := "(IIII)Z", sig := { parameters := [.int, .int, .int, .int], returnType := some .boolean }, accessFlags := 9, code := some k2c1 }
/-- com/example/terseform/terseform/TextCursorIsPlainAtPinLaw -/
def k2 : Class := { plain "com/example/terseform/terseform/TextCursorIsPlainAtPinLaw" (some 1) with
  accessFlags := 49
  interfaces := #[]
  cf := some (fileOf pool2 7 #[] #[{ accessFlags := 2, nameIndex := 5, descriptorIndex := 6, attributes := #[] }, { accessFlags := 9, nameIndex := 17, descriptorIndex := 18, attributes := #[] }] 49 2 #[] #[])
  fields := #[]
  methods := #[k2m0, k2m1]
  instanceTypes := #[(.array .byte), .boolean, (.object "com/example/terseform/terseform/Tape"), .int, (.array .int), (.array (.object "com/example/terseform/terseform/TextCursor$MemberNames")), (.array .long), .int]
  staticTypes := #[]
  resolved := Array.replicate 24 none
  statics := none }

def pool3 : Array CpInfo := pool [(2, .class_ 4), (1, u "java/lang/Object"), (6, .class_ 13), (1, u "com/example/terseform/terseform/TextCursor$MemberNames"), (0, u "keys"), (0, u "Ljava/util/Map;"), (2, u "tape"), (0, u "Lcom/example/terseform/terseform/Tape;"), (25, .class_ 46), (0, u "com/example/terseform/terseform/TextCursor")] 3

/-- com/example/terseform/terseform/TextCursor$MemberNames -/
def k3 : Class := { plain "com/example/terseform/terseform/TextCursor$MemberNames" (some 0) with
  accessFlags := 48
  interfaces := #[]
  cf := some (fileOf pool3 11 #[.nestHost 45] #[] 48 2 #[] #[{ accessFlags := 18, nameIndex := 18, descriptorIndex := 19, attributes := #[] }, { accessFlags := 18, nameIndex := 14, descriptorIndex := 15, attributes := #[] }])
  fields := #[{ name := "tape", type := (.object "com/example/terseform/terseform/Tape"), accessFlags := 18, slot := 0, constantValue := 0 }, { name := "keys", type := (.object "java/util/Map"), accessFlags := 18, slot := 1, constantValue := 0 }]
  methods := #[]
  instanceTypes := #[(.object "com/example/terseform/terseform/Tape"), (.object "java/util/Map")]
  staticTypes := #[]
  resolved := Array.replicate 50 none
  statics := none }

def pool4 : Array CpInfo := pool [(1, .methodref 2 3), (0, .class_ 4), (0, .nameAndType 5 6), (0, u "java/lang/Object"), (0, u "<init>"), (0, u "()V"), (0, .fieldref 8 9), (0, .class_ 10), (0, .nameAndType 11 12), (0, u "com/example/terseform/terseform/Tape"), (0, u "source"), (0, u "[B"), (0, .methodref 14 15), (0, .class_ 16), (0, .nameAndType 17 18), (0, u "java/lang/Math"), (0, u "max"), (0, u "(II)I"), (0, .fieldref 8 20), (0, .nameAndType 21 12), (0, u "kinds"), (0, .fieldref 8 23), (0, .nameAndType 24 25), (0, u "firsts"), (0, u "[I"), (0, .fieldref 8 27), (0, .nameAndType 28 25), (0, u "seconds"), (0, .class_ 30), (0, u "com/example/terseform/terseform/ByteBuilder"), (0, .methodref 29 32), (0, .nameAndType 5 33), (0, u "(I)V"), (0, .fieldref 8 35), (0, .nameAndType 36 37), (0, u "decoded"), (0, u "Lcom/example/terseform/terseform/ByteBuilder;"), (2, u "size"), (0, u "I"), (56, .class_ 99), (0, u "com/example/terseform/terseform/Tape$Builder"), (12, u "([B)V"), (0, .class_ 114), (0, u "com/example/terseform/terseform/Tape$1"), (15, u "NULL"), (0, u "B"), (2, u "TRUE"), (1, u "FALSE"), (1, u "NUMBER"), (1, u "STRING"), (1, u "KEY"), (1, u "REPLACED"), (1, u "ARRAY"), (1, u "OBJECT"), (1, u "DECODED")] 44

def k4c0 : Code := { maxStack := 4, maxLocals := 3, code := prog_23_method_1_code, exceptionTable := #[], attributes := #[] }
def k4m0 : Method := { name := "<init>", desc := "([B)V", sig := { parameters := [(.array .byte)], returnType := none }, accessFlags := 0, code := some k4c0 }
/-- com/example/terseform/terseform/Tape -/
def k4 : Class := { plain "com/example/terseform/terseform/Tape" (some 0) with
  accessFlags := 48
  interfaces := #[]
  cf := some (fileOf pool4 8 #[.nestMembers #[98, 113]] #[{ accessFlags := 0, nameIndex := 5, descriptorIndex := 112, attributes := #[] }] 48 2 #[] #[{ accessFlags := 24, nameIndex := 130, descriptorIndex := 131, attributes := #[] }, { accessFlags := 24, nameIndex := 134, descriptorIndex := 131, attributes := #[] }, { accessFlags := 24, nameIndex := 136, descriptorIndex := 131, attributes := #[] }, { accessFlags := 24, nameIndex := 138, descriptorIndex := 131, attributes := #[] }, { accessFlags := 24, nameIndex := 140, descriptorIndex := 131, attributes := #[] }, { accessFlags := 24, nameIndex := 142, descriptorIndex := 131, attributes := #[] }, { accessFlags := 24, nameIndex := 144, descriptorIndex := 131, attributes := #[] }, { accessFlags := 24, nameIndex := 146, descriptorIndex := 131, attributes := #[] }, { accessFlags := 24, nameIndex := 148, descriptorIndex := 131, attributes := #[] }, { accessFlags := 26, nameIndex := 150, descriptorIndex := 131, attributes := #[] }, { accessFlags := 18, nameIndex := 11, descriptorIndex := 12, attributes := #[] }, { accessFlags := 18, nameIndex := 36, descriptorIndex := 37, attributes := #[] }, { accessFlags := 2, nameIndex := 21, descriptorIndex := 12, attributes := #[] }, { accessFlags := 2, nameIndex := 24, descriptorIndex := 25, attributes := #[] }, { accessFlags := 2, nameIndex := 28, descriptorIndex := 25, attributes := #[] }, { accessFlags := 2, nameIndex := 40, descriptorIndex := 41, attributes := #[] }])
  fields := #[{ name := "NULL", type := .byte, accessFlags := 24, slot := 0, constantValue := 0 }, { name := "TRUE", type := .byte, accessFlags := 24, slot := 1, constantValue := 0 }, { name := "FALSE", type := .byte, accessFlags := 24, slot := 2, constantValue := 0 }, { name := "NUMBER", type := .byte, accessFlags := 24, slot := 3, constantValue := 0 }, { name := "STRING", type := .byte, accessFlags := 24, slot := 4, constantValue := 0 }, { name := "KEY", type := .byte, accessFlags := 24, slot := 5, constantValue := 0 }, { name := "REPLACED", type := .byte, accessFlags := 24, slot := 6, constantValue := 0 }, { name := "ARRAY", type := .byte, accessFlags := 24, slot := 7, constantValue := 0 }, { name := "OBJECT", type := .byte, accessFlags := 24, slot := 8, constantValue := 0 }, { name := "DECODED", type := .byte, accessFlags := 26, slot := 9, constantValue := 0 }, { name := "source", type := (.array .byte), accessFlags := 18, slot := 0, constantValue := 0 }, { name := "decoded", type := (.object "com/example/terseform/terseform/ByteBuilder"), accessFlags := 18, slot := 1, constantValue := 0 }, { name := "kinds", type := (.array .byte), accessFlags := 2, slot := 2, constantValue := 0 }, { name := "firsts", type := (.array .int), accessFlags := 2, slot := 3, constantValue := 0 }, { name := "seconds", type := (.array .int), accessFlags := 2, slot := 4, constantValue := 0 }, { name := "size", type := .int, accessFlags := 2, slot := 5, constantValue := 0 }]
  methods := #[k4m0]
  instanceTypes := #[(.array .byte), (.object "com/example/terseform/terseform/ByteBuilder"), (.array .byte), (.array .int), (.array .int), .int]
  staticTypes := #[.byte, .byte, .byte, .byte, .byte, .byte, .byte, .byte, .byte, .byte]
  resolved := Array.replicate 195 none
  statics := none }

def pool5 : Array CpInfo := pool [(1, .class_ 2), (0, u "java/lang/Math"), (1, .class_ 6), (1, u "java/lang/Object"), (0, u "<init>"), (0, u "()V"), (89, .class_ 100), (1, u "java/lang/Math$RandomNumberGeneratorHolder"), (71, u "negativeZeroFloatBits"), (0, u "J"), (2, u "negativeZeroDoubleBits"), (21, u "max"), (46, u "$assertionsDisabled"), (0, u "Z"), (88, u "(II)I"), (2, u "twoToTheDoubleScaleDown"), (0, u "D"), (4, u "twoToTheDoubleScaleUp"), (9, u "E"), (3, u "PI"), (2, u "TAU"), (2, u "DEGREES_TO_RADIANS"), (0, u "RADIANS_TO_DEGREES")] 94

def k5m0 : Method := { name := "<init>", desc := "()V", sig := { parameters := [], returnType := none }, accessFlags := 2, code := none }
def k5c1 : Code := { maxStack := 2, maxLocals := 2, code := jdk_29_method_65_code, exceptionTable := #[], attributes := #[] }
def k5m1 : Method := { name := "max", desc := "(II)I", sig := { parameters := [.int, .int], returnType := some .int }, accessFlags := 9, code := some k5c1 }
/-- java/lang/Math -/
def k5 : Class := { plain "java/lang/Math" (some 0) with
  accessFlags := 49
  interfaces := #[]
  cf := some (fileOf pool5 1 #[.nestMembers #[98]] #[{ accessFlags := 2, nameIndex := 7, descriptorIndex := 8, attributes := #[] }, { accessFlags := 9, nameIndex := 198, descriptorIndex := 335, attributes := #[] }] 49 4 #[] #[{ accessFlags := 25, nameIndex := 354, descriptorIndex := 339, attributes := #[] }, { accessFlags := 25, nameIndex := 358, descriptorIndex := 339, attributes := #[] }, { accessFlags := 25, nameIndex := 361, descriptorIndex := 339, attributes := #[] }, { accessFlags := 26, nameIndex := 364, descriptorIndex := 339, attributes := #[] }, { accessFlags := 26, nameIndex := 365, descriptorIndex := 339, attributes := #[] }, { accessFlags := 26, nameIndex := 172, descriptorIndex := 173, attributes := #[] }, { accessFlags := 26, nameIndex := 176, descriptorIndex := 173, attributes := #[] }, { accessFlags := 8, nameIndex := 344, descriptorIndex := 339, attributes := #[] }, { accessFlags := 8, nameIndex := 338, descriptorIndex := 339, attributes := #[] }, { accessFlags := 4120, nameIndex := 245, descriptorIndex := 246, attributes := #[] }])
  fields := #[{ name := "E", type := .double, accessFlags := 25, slot := 0, constantValue := 0 }, { name := "PI", type := .double, accessFlags := 25, slot := 1, constantValue := 0 }, { name := "TAU", type := .double, accessFlags := 25, slot := 2, constantValue := 0 }, { name := "DEGREES_TO_RADIANS", type := .double, accessFlags := 26, slot := 3, constantValue := 0 }, { name := "RADIANS_TO_DEGREES", type := .double, accessFlags := 26, slot := 4, constantValue := 0 }, { name := "negativeZeroFloatBits", type := .long, accessFlags := 26, slot := 5, constantValue := 0 }, { name := "negativeZeroDoubleBits", type := .long, accessFlags := 26, slot := 6, constantValue := 0 }, { name := "twoToTheDoubleScaleUp", type := .double, accessFlags := 8, slot := 7, constantValue := 0 }, { name := "twoToTheDoubleScaleDown", type := .double, accessFlags := 8, slot := 8, constantValue := 0 }, { name := "$assertionsDisabled", type := .boolean, accessFlags := 4120, slot := 9, constantValue := 0 }]
  methods := #[k5m0, k5m1]
  instanceTypes := #[]
  staticTypes := #[.double, .double, .double, .double, .double, .long, .long, .double, .double, .boolean]
  resolved := Array.replicate 460 none
  statics := none }

def pool6 : Array CpInfo := pool [(1, .methodref 2 3), (0, .class_ 4), (0, .nameAndType 5 6), (0, u "java/lang/Object"), (0, u "<init>"), (0, u "()V"), (0, .methodref 8 9), (0, .class_ 10), (0, .nameAndType 11 12), (0, u "java/lang/Math"), (0, u "max"), (0, u "(II)I"), (0, .fieldref 14 15), (0, .class_ 16), (0, .nameAndType 17 18), (0, u "com/example/terseform/terseform/ByteBuilder"), (0, u "bytes"), (0, u "[B"), (2, u "length"), (0, u "I"), (3, u "(I)V")] 87

def k6c0 : Code := { maxStack := 3, maxLocals := 2, code := prog_1_method_1_code, exceptionTable := #[], attributes := #[] }
def k6m0 : Method := { name := "<init>", desc := "(I)V", sig := { parameters := [.int], returnType := none }, accessFlags := 0, code := some k6c0 }
/-- com/example/terseform/terseform/ByteBuilder -/
def k6 : Class := { plain "com/example/terseform/terseform/ByteBuilder" (some 0) with
  accessFlags := 48
  interfaces := #[]
  cf := some (fileOf pool6 14 #[] #[{ accessFlags := 0, nameIndex := 5, descriptorIndex := 26, attributes := #[] }] 48 2 #[] #[{ accessFlags := 2, nameIndex := 17, descriptorIndex := 18, attributes := #[] }, { accessFlags := 2, nameIndex := 21, descriptorIndex := 22, attributes := #[] }])
  fields := #[{ name := "bytes", type := (.array .byte), accessFlags := 2, slot := 0, constantValue := 0 }, { name := "length", type := .int, accessFlags := 2, slot := 1, constantValue := 0 }]
  methods := #[k6m0]
  instanceTypes := #[(.array .byte), .int]
  staticTypes := #[]
  resolved := Array.replicate 114 none
  statics := none }

def pool7 : Array CpInfo := pool [(1, u "java/lang/Cloneable"), (0, .class_ 1), (0, u "java/lang/Object"), (0, .class_ 3)] 3

/-- java/lang/Cloneable -/
def k7 : Class := { plain "java/lang/Cloneable" (some 0) with
  accessFlags := 1537
  interfaces := #[]
  cf := some (fileOf pool7 2 #[] #[] 1537 4 #[] #[])
  fields := #[]
  methods := #[]
  instanceTypes := #[]
  staticTypes := #[]
  resolved := Array.replicate 8 none
  statics := none }

def pool8 : Array CpInfo := pool [(1, u "java/io/Serializable"), (0, .class_ 1), (0, u "java/lang/Object"), (0, .class_ 3)] 3

/-- java/io/Serializable -/
def k8 : Class := { plain "java/io/Serializable" (some 0) with
  accessFlags := 1537
  interfaces := #[]
  cf := some (fileOf pool8 2 #[] #[] 1537 4 #[] #[])
  fields := #[]
  methods := #[]
  instanceTypes := #[]
  staticTypes := #[]
  resolved := Array.replicate 8 none
  statics := none }

/-- the primitive byte -/
def k9 : Class := { plain "byte" none with kind := .primitive 'B', accessFlags := 0x411 }
/-- [B -/
def k10 : Class := { plain "[B" (some 0) with kind := .array 9 .byte, interfaces := #[7, 8], accessFlags := 1041 }

/-- the primitive int -/
def k11 : Class := { plain "int" none with kind := .primitive 'I', accessFlags := 0x411 }
/-- [I -/
def k12 : Class := { plain "[I" (some 0) with kind := .array 11 .int, interfaces := #[7, 8], accessFlags := 1041 }

/-- the primitive long -/
def k13 : Class := { plain "long" none with kind := .primitive 'J', accessFlags := 0x411 }
/-- [J -/
def k14 : Class := { plain "[J" (some 0) with kind := .array 13 .long, interfaces := #[7, 8], accessFlags := 1041 }

/-- [Lcom/example/terseform/terseform/TextCursor$MemberNames; -/
def k15 : Class := { plain "[Lcom/example/terseform/terseform/TextCursor$MemberNames;" (some 0) with kind := .array 3 (.object "com/example/terseform/terseform/TextCursor$MemberNames"), interfaces := #[7, 8], accessFlags := 1041 }

def heap : Heap := #[]
def classes : Array Class := #[k0, k1, k2, k3, k4, k5, k6, k7, k8, k9, k10, k11, k12, k13, k14, k15]
def interned : List (Array UInt16 × Addr) := []
def slotsUsed : Nat := 0
def theMethod : MethodId := ⟨2, 1⟩
def args0 : Array Value := #[.int 5, .int 6, .int 7, .int 8]
def aboutOver (below : List Frame) : State where
  vm := { classes := classes, interned := interned.toArray }
  heap := heap
  slotsUsed := slotsUsed
  threads := #[{ frames := .invoking theMethod args0 :: below }]
def below0 : List Frame := [.native { method := ⟨0, 0⟩, args := #[] }]
def about1 : State := aboutOver below0
def p0 : Program := .bare "" "" ""
def e0 : Env := launch0.env 0 0 0
theorem w_frames : about1.frames = Frame.invoking theMethod args0 :: below0 := rfl
set_option maxRecDepth 65536 in
theorem w_args : argsFit about1.vm theMethod args0 = true := by decide +kernel
set_option maxRecDepth 65536 in
theorem w_heap : heapFits about1 = true := by decide +kernel
set_option maxRecDepth 65536 in
theorem w_runnable : about1.curStatus? = some .runnable := by decide +kernel
set_option maxRecDepth 65536 in
theorem w_alone : about1.alone = true := by decide +kernel
set_option maxRecDepth 65536 in
theorem w_named : about1.methodNamed? x = some theMethod := by decide +kernel
set_option maxRecDepth 65536 in
theorem w_hears : about1.hears theMethod below0 = true := by decide +kernel
set_option maxRecDepth 65536 in
theorem w_ripe : about1.ripe theMethod args0 below0 = true := by decide +kernel
theorem w_running : about1.status = .running := rfl
set_option maxRecDepth 65536 in
theorem w_room : about1.hasRoom e0.platform room_1 = true :=
  launch0.hasRoom_least _ room_1 (by decide +kernel) (by decide +kernel) (by decide +kernel) (by decide +kernel) (by decide +kernel) (by decide +kernel)
theorem allAtoms_all (ts : List Jvm.Cond) (a : Array Jvm.Value) (st : Jvm.State) : (allAtoms ts).before a st = ts.all (fun c => c.before a st) := by
  induction ts with
  | nil => rfl
  | cons c t ih =>
    show (Jvm.Cond.and c (allAtoms t)).before a st = _
    rw [Jvm.Cond.before_and, ih, List.all_cons]
def words1 : List Jvm.Cond := Jvm.Cond.code x code maxLocals ret :: tables_1
/-- a 'code' word, met by the world's own term for the bytes: nothing is compared byte by byte -/
theorem code_word {y : MethodName} {bytes : ByteArray} {mx : Nat} {rt : Option FieldType} {a : Array Value} {s : State} {m : MethodId} {meth : Method} {c : Code} (h1 : s.methodNamed? y = some m) (h2 : s.vm.method? m = some meth) (h3 : meth.code = some c) (h4 : c.code = bytes)
    (h5 : (c.maxLocals == mx && c.exceptionTable.isEmpty && decide (c.maxStack ≤ mostOperands) && decide (meth.sig.returnType = rt) && !meth.locks && decide (parseMethodDescriptor y.desc = some meth.sig)) = true) : (Jvm.Cond.code y bytes mx rt).before a s = true := by
  simp only [Bool.and_eq_true, beq_iff_eq, Bool.not_eq_true', decide_eq_true_eq] at h5
  obtain ⟨⟨⟨⟨⟨g1, g2⟩, g3⟩, g4⟩, g5⟩, g6⟩ := h5
  simp [Cond.before, Cond.holds, Cond.value, h1, h2, h3, h4, g1, g2, g3, g4, g5, g6]
def isCode : Jvm.Cond → Bool
  | .code _ _ _ _ => true
  | _ => false
theorem all_split {L : List Jvm.Cond} {P : Jvm.Cond → Bool} (h1 : L.all (fun c => isCode c || P c) = true) (h2 : ∀ c ∈ L.filter isCode, P c = true) : L.all P = true := by
  refine List.all_eq_true.mpr fun c hc => ?_
  have h := List.all_eq_true.mp h1 c hc
  rcases Bool.eq_false_or_eq_true (isCode c) with hi | hi
  · exact h2 c (List.mem_filter.mpr ⟨hc, hi⟩)
  · simpa [hi] using h
set_option maxRecDepth 65536 in
theorem w_c0 : (Jvm.Cond.code x code maxLocals ret).before args0 about1 = true := code_word (m := ⟨2, 1⟩) (meth := k2m1) (c := k2c1) (by decide +kernel) rfl rfl rfl (by decide +kernel)
set_option maxRecDepth 65536 in
theorem w_c1 : (Jvm.Cond.code ({ cls := "com/example/terseform/terseform/TextCursorIsPlainAtPinLaw", name := "<init>", desc := "([BZ)V" } : Jvm.MethodName) method_1_code (3 : Nat) (Option.none : Option Jvm.ClassFile.FieldType)).before args0 about1 = true := code_word (m := ⟨2, 0⟩) (meth := k2m0) (c := k2c0) (by decide +kernel) rfl rfl rfl (by decide +kernel)
set_option maxRecDepth 65536 in
theorem w_c2 : (Jvm.Cond.code ({ cls := "com/example/terseform/terseform/TextCursor", name := "<init>", desc := "([BZ)V" } : Jvm.MethodName) prog_33_method_1_code (3 : Nat) (Option.none : Option Jvm.ClassFile.FieldType)).before args0 about1 = true := code_word (m := ⟨1, 0⟩) (meth := k1m0) (c := k1c0) (by decide +kernel) rfl rfl rfl (by decide +kernel)
set_option maxRecDepth 65536 in
theorem w_c3 : (Jvm.Cond.code ({ cls := "java/lang/Object", name := "<init>", desc := "()V" } : Jvm.MethodName) object_method_1_code (1 : Nat) (Option.none : Option Jvm.ClassFile.FieldType)).before args0 about1 = true := code_word (m := ⟨0, 0⟩) (meth := k0m0) (c := k0c0) (by decide +kernel) rfl rfl rfl (by decide +kernel)
set_option maxRecDepth 65536 in
theorem w_c4 : (Jvm.Cond.code ({ cls := "com/example/terseform/terseform/Tape", name := "<init>", desc := "([B)V" } : Jvm.MethodName) prog_23_method_1_code (3 : Nat) (Option.none : Option Jvm.ClassFile.FieldType)).before args0 about1 = true := code_word (m := ⟨4, 0⟩) (meth := k4m0) (c := k4c0) (by decide +kernel) rfl rfl rfl (by decide +kernel)
set_option maxRecDepth 65536 in
theorem w_c5 : (Jvm.Cond.code ({ cls := "java/lang/Math", name := "max", desc := "(II)I" } : Jvm.MethodName) jdk_29_method_65_code (2 : Nat) (Option.some Jvm.ClassFile.FieldType.int)).before args0 about1 = true := code_word (m := ⟨5, 1⟩) (meth := k5m1) (c := k5c1) (by decide +kernel) rfl rfl rfl (by decide +kernel)
set_option maxRecDepth 65536 in
theorem w_c6 : (Jvm.Cond.code ({ cls := "com/example/terseform/terseform/ByteBuilder", name := "<init>", desc := "(I)V" } : Jvm.MethodName) prog_1_method_1_code (2 : Nat) (Option.none : Option Jvm.ClassFile.FieldType)).before args0 about1 = true := code_word (m := ⟨6, 0⟩) (meth := k6m0) (c := k6c0) (by decide +kernel) rfl rfl rfl (by decide +kernel)
set_option maxRecDepth 65536 in
theorem w_c7 : (Jvm.Cond.code ({ cls := "com/example/terseform/terseform/TextCursor", name := "isPlainAt", desc := "(I)Z" } : Jvm.MethodName) prog_33_method_5_code (3 : Nat) (Option.some Jvm.ClassFile.FieldType.boolean)).before args0 about1 = true := code_word (m := ⟨1, 1⟩) (meth := k1m1) (c := k1c1) (by decide +kernel) rfl rfl rfl (by decide +kernel)
def codes1 : List Jvm.Cond := [Jvm.Cond.code x code maxLocals ret, Jvm.Cond.code ({ cls := "com/example/terseform/terseform/TextCursorIsPlainAtPinLaw", name := "<init>", desc := "([BZ)V" } : Jvm.MethodName) method_1_code (3 : Nat) (Option.none : Option Jvm.ClassFile.FieldType), Jvm.Cond.code ({ cls := "com/example/terseform/terseform/TextCursor", name := "<init>", desc := "([BZ)V" } : Jvm.MethodName) prog_33_method_1_code (3 : Nat) (Option.none : Option Jvm.ClassFile.FieldType), Jvm.Cond.code ({ cls := "java/lang/Object", name := "<init>", desc := "()V" } : Jvm.MethodName) object_method_1_code (1 : Nat) (Option.none : Option Jvm.ClassFile.FieldType), Jvm.Cond.code ({ cls := "com/example/terseform/terseform/Tape", name := "<init>", desc := "([B)V" } : Jvm.MethodName) prog_23_method_1_code (3 : Nat) (Option.none : Option Jvm.ClassFile.FieldType), Jvm.Cond.code ({ cls := "java/lang/Math", name := "max", desc := "(II)I" } : Jvm.MethodName) jdk_29_method_65_code (2 : Nat) (Option.some Jvm.ClassFile.FieldType.int), Jvm.Cond.code ({ cls := "com/example/terseform/terseform/ByteBuilder", name := "<init>", desc := "(I)V" } : Jvm.MethodName) prog_1_method_1_code (2 : Nat) (Option.none : Option Jvm.ClassFile.FieldType), Jvm.Cond.code ({ cls := "com/example/terseform/terseform/TextCursor", name := "isPlainAt", desc := "(I)Z" } : Jvm.MethodName) prog_33_method_5_code (3 : Nat) (Option.some Jvm.ClassFile.FieldType.boolean)]
set_option maxRecDepth 65536 in
theorem codes_eq : words1.filter isCode = codes1 := rfl
theorem w_codes : ∀ c ∈ words1.filter isCode, c.before args0 about1 = true := by
  rw [codes_eq]
  intro c hc
  simp only [codes1, List.mem_cons, List.not_mem_nil, or_false] at hc
  rcases hc with rfl | rfl | rfl | rfl | rfl | rfl | rfl | rfl
  · exact w_c0
  · exact w_c1
  · exact w_c2
  · exact w_c3
  · exact w_c4
  · exact w_c5
  · exact w_c6
  · exact w_c7
set_option maxRecDepth 65536 in
theorem w_t1 : (words1.take 24).all (fun c => isCode c || c.before args0 about1) = true := by decide +kernel
set_option maxRecDepth 65536 in
theorem w_t2 : ((words1.drop 24).take 24).all (fun c => isCode c || c.before args0 about1) = true := by decide +kernel
set_option maxRecDepth 65536 in
theorem w_t3 : ((words1.drop 24).drop 24).all (fun c => isCode c || c.before args0 about1) = true := by decide +kernel
theorem w_tables : (allAtoms (Jvm.Cond.code x code maxLocals ret :: tables_1)).before args0 about1 = true := by
  rw [allAtoms_all]
  show words1.all (fun c => c.before args0 about1) = true
  refine all_split ?_ w_codes
  rw [← List.take_append_drop 24 words1, List.all_append, w_t1, ← List.take_append_drop 24 (words1.drop 24), List.all_append, w_t2, w_t3]
  rfl
set_option maxRecDepth 65536 in
theorem w_case : (Jvm.Cond.and given_1 narrow_1).before args0 about1 = true := by decide +kernel
theorem w_applies : (headSpec (Jvm.Cond.code x code maxLocals ret :: tables_1) room_1).applies x e0.platform about1 = true :=
  (Spec.applies_iff w_frames).mpr ⟨w_running, w_runnable, w_alone, w_named, w_hears, w_ripe, w_room, w_tables⟩
theorem atStart : AtStart classFile x code maxLocals ret World_1 tables_1 room_1 Calls_1 rest_1 Pre_1 launch0 p0 e0 about1 theMethod args0 below0 :=
  ⟨lists_1, trivial, launch0.admits_env _ _ _, launch0.least_env, fairChoices_fair.cas, fairChoices_fair.clock, w_frames, w_args, w_heap, w_applies, trivial, trivial, w_case⟩
end start1
theorem witness_1 : WitnessClaimed_1 := ⟨start1.p0, start1.e0, start1.about1, start1.theMethod, start1.args0, start1.below0, start1.atStart⟩
end Jvm.Pilot.@@N@@
