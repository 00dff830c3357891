import JvmDerived
import JvmDerived.Pilot.@@N@@Statement
import JvmDerived.Pilot.@@N@@Code
set_option linter.unusedVariables false
set_option linter.unusedSimpArgs false
namespace Jvm.RoadKit
open Sem ClassFile Op Lib Jvm.Stand Jvm.Free Jvm.LawKit
section Own
variable {p : Program} {l : Launch} {e : Env} {R : Room} {s : State} {m : MethodId} {args : Array Value} {below : List Frame} {meth : Method} {c : Code} {T : State} {locs : List Loc} {cells slots : Nat}
theorem retI (X : Stand p l e R s m args below meth c T locs cells slots) (hx : p.tables.exec = Jvm.exec) {pc : Nat} {Ls : Array Slot} {z : Int32} {rest : List Value} (hret : meth.sig.returnType = some .int) (hd : decode c.code pc = .ok (.ireturn, 1)) {fs : List Frame}
    (hl : ∀ (f : JFrame) (acts : List Action), f.method = m → f.locked = none → f.entered = [] → (doReturn e (T.setTop f) acts (some (.int z))).1 = T.setFrames fs) : Steps p.tables e below (T.setTop (mkF m pc Ls (.int z :: rest))) (T.setFrames fs) := by
  have hm' : T.vm.method? m = some meth := X.method'
  have hn : narrow .int (.int z) = .int z := rfl
  show Steps p.tables e below (T.setTop { method := m, pc := pc, locals := Ls, stack := _ :: rest, locked := none }) _
  jvm_step X.here [X.here.top, hx, hd, hm', hret, hn]
  first | (intro acts; rw [hl _ acts rfl rfl rfl]) | rw [hl _ _ rfl rfl rfl]
  exact Steps.refl _
/-- the run comes from the state A to its end, and the end is as QQ says -/
def GoW (p : Program) (e : Env) (below : List Frame) (QQ : Outcome → State → Prop) (A : State) : Prop :=
  ∃ s₂ o, Steps p.tables e below A s₂ ∧ s₂.status = .running ∧ Ended s₂ below o ∧ QQ o s₂
theorem GoW.st {QQ : Outcome → State → Prop} {A B : State} (h : ∀ t, Steps p.tables e below B t → Steps p.tables e below A t) (g : GoW p e below QQ B) : GoW p e below QQ A := by
  obtain ⟨s₂, o, h1, h2⟩ := g
  exact ⟨s₂, o, h _ h1, h2⟩
/-- what an end with the value v, the heap and the written places must say -/
def EndsW (s : State) (Q : Option Value → Heap → List Loc → Prop) (cl sl : Nat) (QQ : Outcome → State → Prop) : Prop :=
  ∀ (v : Option Value) (L : List Loc) (T : State), Q v T.heap L → FrameEnd s (.returned v) T L cl sl → QQ (.returned v) T
theorem GoW.fin {Q : Option Value → Heap → List Loc → Prop} {cl sl : Nat} {QQ : Outcome → State → Prop} {A : State} (X : Stand p l e R s m args below meth c T locs cells slots) (v : Option Value) (hv : meth.sig.returnType = none → v = none) (hlk : meth.locks = false) (hQ : EndsW s Q cl sl QQ) {h : Heap} (eT : T.heap = h)
    (q : Q v h locs) (hc : cells ≤ cl) (hs : slots ≤ sl)
    (st : ∀ fs, (∀ (f : JFrame) (acts : List Action), f.method = m → f.locked = none → f.entered = [] → (doReturn e (T.setTop f) acts v).1 = T.setFrames fs) → Steps p.tables e below A (T.setFrames fs)) : GoW p e below QQ A := by
  obtain ⟨fs, hr, hrun, hended, hW, hsame⟩ := X.leave (v := v) hv hlk
  subst eT
  exact ⟨_, _, st fs hr, hrun, hended, hQ _ _ _ q ⟨⟨_, rfl⟩, hW, hsame.mono hc hs⟩⟩
theorem met_of {y : MethodName} {bytes : ByteArray} {maxL : Nat} {ret : Option FieldType} {ws : List Cond} {as' : Array Value} {Z : State} {h0 : Heap} {Q : Option Value → Heap → List Loc → Prop} {cl sl : Nat} (hp : plainFor y = true) {Ls : Array Slot} (ef : ∀ m, entryFrame m as' maxL = mkF m 0 Ls [])
    (core : ∀ (p : Program) (e : Env) (s : State) (m : MethodId) (below : List Frame) (meth : Method) (c : Code) (T : State) (QQ : Outcome → State → Prop), p.tables.exec = Jvm.exec → Z.Warmed39 s.vm → c.code = bytes → c.maxLocals = maxL → s.vm.findClass y.cls = some m.cls → meth.name = y.name → meth.sig.returnType = ret → meth.locks = false →
      Stand p l e R s m as' below meth c T [] 0 0 → T.heap = h0 → EndsW s Q cl sl QQ → GoW p e below QQ (T.setTop (mkF m 0 Ls []))) :
    MetFree l y (head1 (Cond.code y bytes maxL ret :: ws) R) (fun a U => a = as' ∧ Z.Warmed39 U.vm ∧ U.heap = h0) (fun _ _ _ _ _ => True) (fun _ U o U' => ∃ v L, o = .returned v ∧ Q v U'.heap L ∧ FrameEnd U o U' L cl sl) := by
  refine MetFree.of_bodySF hp hisR ?_
  intro p e s m args below meth c s₁ Bd hml0 hP hK
  obtain ⟨rfl, hZ, hh⟩ := hP
  obtain ⟨s₂, o, g1, g2, g3, g4⟩ := core p e s m below meth c s₁ (fun o U' => ∃ v L, o = .returned v ∧ Q v U'.heap L ∧ FrameEnd s o U' L cl sl) Bd.exec hZ Bd.bytes hml0 (findClass_of_methodNamed Bd.named) (name_of_methodNamed Bd.named Bd.method).1 Bd.returns Bd.notSynchronized (Stand.of_body Bd) (by rw [← hh, Bd.state]; rfl) (fun v L T q f => ⟨v, L, rfl, q, f⟩)
  exact ⟨s₂, o, castTop (ef m) g1, g2, g3, g4⟩
theorem standUp (X : Stand p l e R s m args below meth c T locs cells slots) {cells' slots' : Nat} (hc : cells ≤ cells') (hs : slots ≤ slots') : Stand p l e R s m args below meth c T locs cells' slots' :=
  { X with same := X.same.mono hc hs }
theorem lremM {g : JFrame} {target : State} (X : Stand p l e R s m args below meth c T locs cells slots) (hx : p.tables.exec = Jvm.exec) (hg : g.method = m) {x y : Int64} {rest : List Value} (hd : decode c.code g.pc = .ok (.lrem, 1)) (hs : g.stack = .long y :: .long x :: rest) (hy : y ≠ 0)
    (hr : Steps p.tables e below (T.setTop { g with pc := g.pc + 1, stack := .long (x % y) :: rest }) target) : Steps p.tables e below (T.setTop g) target := by
  have q : x - x / y * y = x % y := lrem_mod x y
  exact XS.lrem X.here hx hg hd hs hy (by rw [q]; exact hr)
theorem ldVI {Z : State} {h : Heap} {a : Addr} {kc : ClassId} {z j : Int32} {vs : List Value} {dv v : Value} (X : Stand p l e R s m args below meth c T locs cells slots) (hx : p.tables.exec = Jvm.exec) (hZ : Z.Warmed39 s.vm) (eT : T.heap = h) (F : Arv Z h a kc .int z vs dv) (hj : ¬ j < 0 ∧ j < z) (hv : vs.getD j.toNatClampNeg dv = v)
    {g : JFrame} (hg : g.method = m) {rest : List Value} (hs : g.stack = .int j :: .ref a :: rest) (hd : decode c.code g.pc = .ok (.iaload, 1)) (t : State) (k : Steps p.tables e below (T.setTop { g with pc := g.pc + 1, stack := v :: rest }) t) : Steps p.tables e below (T.setTop g) t := by
  obtain ⟨c', A, -, S, -, H, -⟩ := F
  have i := inb_of S hj
  exact X.iaload hx (by rw [eT]; exact A.1) (State.isArrayOf_alike hZ.alike A.2.1) A.2.2 i (H.at i hv) hg hs hd t k
theorem ldVJ {Z : State} {h : Heap} {a : Addr} {kc : ClassId} {z j : Int32} {vs : List Value} {dv v : Value} (X : Stand p l e R s m args below meth c T locs cells slots) (hx : p.tables.exec = Jvm.exec) (hZ : Z.Warmed39 s.vm) (eT : T.heap = h) (F : Arv Z h a kc .long z vs dv) (hj : ¬ j < 0 ∧ j < z) (hv : vs.getD j.toNatClampNeg dv = v)
    {g : JFrame} (hg : g.method = m) {rest : List Value} (hs : g.stack = .int j :: .ref a :: rest) (hd : decode c.code g.pc = .ok (.laload, 1)) (t : State) (k : Steps p.tables e below (T.setTop { g with pc := g.pc + 1, stack := v :: rest }) t) : Steps p.tables e below (T.setTop g) t := by
  obtain ⟨c', A, -, S, -, H, -⟩ := F
  have i := inb_of S hj
  exact X.laload hx (by rw [eT]; exact A.1) (State.isArrayOf_alike hZ.alike A.2.1) A.2.2 i (H.at i hv) hg hs hd t k
theorem ldVB {Z : State} {h : Heap} {a : Addr} {kc : ClassId} {z j : Int32} {vs : List Value} {dv v : Value} (X : Stand p l e R s m args below meth c T locs cells slots) (hx : p.tables.exec = Jvm.exec) (hZ : Z.Warmed39 s.vm) (eT : T.heap = h) (F : Arv Z h a kc .byte z vs dv) (hj : ¬ j < 0 ∧ j < z) (hv : vs.getD j.toNatClampNeg dv = v)
    {g : JFrame} (hg : g.method = m) {rest : List Value} (hs : g.stack = .int j :: .ref a :: rest) (hd : decode c.code g.pc = .ok (.baload, 1)) (t : State) (k : Steps p.tables e below (T.setTop { g with pc := g.pc + 1, stack := v :: rest }) t) : Steps p.tables e below (T.setTop g) t := by
  obtain ⟨c', A, -, S, -, H, -⟩ := F
  have i := inb_of S hj
  exact X.baloadBytes hx (by rw [eT]; exact A.1) (State.isArrayOf_alike hZ.alike A.2.1) A.2.2 i (H.at i hv) hg hs hd t k
theorem stVI {Z : State} {h : Heap} {a : Addr} {kc : ClassId} {z j : Int32} {vs : List Value} {dv : Value} {x : Int32} (X : Stand p l e R s m args below meth c T locs cells slots) (hx : p.tables.exec = Jvm.exec) (hZ : Z.Warmed39 s.vm) (eT : T.heap = h) (F : Arv Z h a kc .int z vs dv) (hj : ¬ j < 0 ∧ j < z) (i : Nat) (hi : j.toNatClampNeg = i) (hl : i < vs.length)
    {g : JFrame} (hg : g.method = m) {rest : List Value} (hs : g.stack = (.int x) :: .int j :: .ref a :: rest) (hd : decode c.code g.pc = .ok (.iastore, 1)) :
    ∃ T' h', Stand p l e R s m args below meth c T' (locs ++ [⟨a, j.toNatClampNeg⟩]) cells slots ∧ T'.heap = h' ∧ Wr h h' a j.toNatClampNeg (.int x) ∧ Arv Z h' a kc .int z (vs.set i (.int x)) dv ∧ ∀ target, Steps p.tables e below (T'.setTop { g with pc := g.pc + 1, stack := rest }) target → Steps p.tables e below (T.setTop g) target := by
  obtain ⟨c', A, q, S, M, H, G⟩ := F
  obtain ⟨T', h', X', e', W', st⟩ := stI X hx hZ eT A (inb_of S hj) hg hs hd
  exact ⟨T', h', X', e', W', Arv.set A q S M H G rfl W' i hi hl, st⟩
theorem stVJ {Z : State} {h : Heap} {a : Addr} {kc : ClassId} {z j : Int32} {vs : List Value} {dv : Value} {x : Int64} (X : Stand p l e R s m args below meth c T locs cells slots) (hx : p.tables.exec = Jvm.exec) (hZ : Z.Warmed39 s.vm) (eT : T.heap = h) (F : Arv Z h a kc .long z vs dv) (hj : ¬ j < 0 ∧ j < z) (i : Nat) (hi : j.toNatClampNeg = i) (hl : i < vs.length)
    {g : JFrame} (hg : g.method = m) {rest : List Value} (hs : g.stack = (.long x) :: .int j :: .ref a :: rest) (hd : decode c.code g.pc = .ok (.lastore, 1)) :
    ∃ T' h', Stand p l e R s m args below meth c T' (locs ++ [⟨a, j.toNatClampNeg⟩]) cells slots ∧ T'.heap = h' ∧ Wr h h' a j.toNatClampNeg (.long x) ∧ Arv Z h' a kc .long z (vs.set i (.long x)) dv ∧ ∀ target, Steps p.tables e below (T'.setTop { g with pc := g.pc + 1, stack := rest }) target → Steps p.tables e below (T.setTop g) target := by
  obtain ⟨c', A, q, S, M, H, G⟩ := F
  obtain ⟨T', h', X', e', W', st⟩ := stJ X hx hZ eT A (inb_of S hj) hg hs hd
  exact ⟨T', h', X', e', W', Arv.set A q S M H G rfl W' i hi hl, st⟩
theorem stVB {Z : State} {h : Heap} {a : Addr} {kc : ClassId} {z j : Int32} {vs : List Value} {dv : Value} {x : Int32} (X : Stand p l e R s m args below meth c T locs cells slots) (hx : p.tables.exec = Jvm.exec) (hZ : Z.Warmed39 s.vm) (eT : T.heap = h) (F : Arv Z h a kc .byte z vs dv) (hj : ¬ j < 0 ∧ j < z) (i : Nat) (hi : j.toNatClampNeg = i) (hl : i < vs.length)
    {g : JFrame} (hg : g.method = m) {rest : List Value} (hs : g.stack = (.int x) :: .int j :: .ref a :: rest) (hd : decode c.code g.pc = .ok (.bastore, 1)) :
    ∃ T' h', Stand p l e R s m args below meth c T' (locs ++ [⟨a, j.toNatClampNeg⟩]) cells slots ∧ T'.heap = h' ∧ Wr h h' a j.toNatClampNeg (.int (nar .byte x)) ∧ Arv Z h' a kc .byte z (vs.set i (.int (nar .byte x))) dv ∧ ∀ target, Steps p.tables e below (T'.setTop { g with pc := g.pc + 1, stack := rest }) target → Steps p.tables e below (T.setTop g) target := by
  obtain ⟨c', A, q, S, M, H, G⟩ := F
  obtain ⟨T', h', X', e', W', st⟩ := stB X hx hZ eT A (inb_of S hj) hg hs hd
  exact ⟨T', h', X', e', W', Arv.set A q S M H G (fits_nar_byte _) W' i hi hl, st⟩
theorem lnV {Z : State} {h : Heap} {a : Addr} {kc : ClassId} {ty : FieldType} {z : Int32} {vs : List Value} {dv : Value} (X : Stand p l e R s m args below meth c T locs cells slots) (hx : p.tables.exec = Jvm.exec) (hZ : Z.Warmed39 s.vm) (eT : T.heap = h) (F : Arv Z h a kc ty z vs dv)
    {g : JFrame} (hg : g.method = m) {rest : List Value} (hs : g.stack = .ref a :: rest) (hd : decode c.code g.pc = .ok (.arraylength, 1)) (t : State) (k : Steps p.tables e below (T.setTop { g with pc := g.pc + 1, stack := .int z :: rest }) t) : Steps p.tables e below (T.setTop g) t := by
  obtain ⟨c', A, -, S, M, -, -⟩ := F
  refine X.arraylength hx (by rw [eT]; exact A.1) (State.isArrayOf_alike hZ.alike A.2.1) hg hs hd t ?_
  rw [len_of S M]; exact k
theorem gdI (vs : List Int32) (d : Int32) (i : Nat) : (vs.map Value.int).getD i (.int d) = .int (vs.getD i d) := by
  induction vs generalizing i with
  | nil => rfl
  | cons a t ih => cases i with
    | zero => rfl
    | succ i => simpa using ih i
theorem gdJ (vs : List Int64) (d : Int64) (i : Nat) : (vs.map Value.long).getD i (.long d) = .long (vs.getD i d) := by
  induction vs generalizing i with
  | nil => rfl
  | cons a t ih => cases i with
    | zero => rfl
    | succ i => simpa using ih i
end Own
end Jvm.RoadKit
namespace Jvm.Pilot.@@N@@
open Jvm Jvm.ClassFile Sem Op Lib Jvm.Free Jvm.Stand Jvm.LawKit Jvm.RoadKit Bundle Jvm.Pilot.@@N@@.Jvm.D
def own_gath (x : Int32) : Int64 := ((x / (2097152 : Int32)) + (if (x % (2097152 : Int32)) < (1048576 : Int32) then (0 : Int32) else (1 : Int32))).toInt64 * (2097152 : Int64)
theorem own_t1 (x : Int32) (h : 0 ≤ x.toInt) : (x / (2097152 : Int32)).toInt = x.toInt / 2097152 := (c_idiv x 2097152 2097152 rfl (by decide)).1 h
theorem own_t2 (x : Int32) (h : 0 ≤ x.toInt) : (x % (2097152 : Int32)).toInt = x.toInt % 2097152 := (c_irem x 2097152 2097152 rfl).1 h
theorem own_t3 (x : Int64) : (x >>> ((21 : Int32) &&& 0x3f).toInt64).toInt = x.toInt / 2097152 := c_lshr x 21 21 rfl
theorem own_t4 (y : Int64) : ((y <<< ((21 : Int32) &&& 0x3f).toInt64).toInt - y.toInt * 2097152) % 18446744073709551616 = 0 := c_lshl y 21 21 rfl
theorem own_t5 (y : Int64) : ((y * (2097152 : Int64)).toInt - y.toInt * 2097152) % 18446744073709551616 = 0 := c_lmul y 2097152
theorem own_t6 (y : Int64) : ((y + (1048576 : Int64)).toInt - (y.toInt + 1048576)) % 18446744073709551616 = 0 := c_ladd y 1048576
theorem own_t7 (x n : Int32) (k : Int) (hn : n.toInt = k) (h0 : 0 ≤ x.toInt) (h1 : x.toInt ≤ 1024) (hk : 0 ≤ k) (hk1 : k ≤ 1) : (x + n).toInt64.toInt = x.toInt + k := by
  have a := c_iadd x n
  have r := rng32 (x + n)
  rw [c_i2l]; omega
theorem own_lhs (x : Int32) (h : 0 ≤ x.toInt) : ((own_gath x).toInt = (x.toInt / 2097152) * 2097152 ∧ x.toInt % 2097152 < 1048576) ∨ ((own_gath x).toInt = (x.toInt / 2097152 + 1) * 2097152 ∧ 1048576 ≤ x.toInt % 2097152) := by
  have d1 := own_t1 x h
  have d2 := own_t2 x h
  have hx := rng32 x
  have z : (1048576 : Int32).toInt = 1048576 := rfl
  rw [own_gath]
  by_cases hc : (x % (2097152 : Int32)) < (1048576 : Int32)
  · rw [if_pos hc]
    rw [Int32.lt_iff_toInt_lt, d2, z] at hc
    have e := own_t7 (x / 2097152) 0 0 rfl (by omega) (by omega) (by omega) (by omega)
    have f := own_t5 (x / (2097152 : Int32) + (0 : Int32)).toInt64
    have r := rng64 ((x / (2097152 : Int32) + (0 : Int32)).toInt64 * (2097152 : Int64))
    rw [e, d1] at f
    exact Or.inl ⟨by omega, hc⟩
  · rw [if_neg hc]
    rw [Int32.lt_iff_toInt_lt, d2, z] at hc
    have e := own_t7 (x / 2097152) 1 1 rfl (by omega) (by omega) (by omega) (by omega)
    have f := own_t5 (x / (2097152 : Int32) + (1 : Int32)).toInt64
    have r := rng64 ((x / (2097152 : Int32) + (1 : Int32)).toInt64 * (2097152 : Int64))
    rw [e, d1] at f
    exact Or.inr ⟨by omega, by omega⟩
theorem own_rhs (x : Int32) (h : 0 ≤ x.toInt) : (((x.toInt64 + (1048576 : Int64)) >>> ((21 : Int32) &&& 0x3f).toInt64) <<< ((21 : Int32) &&& 0x3f).toInt64).toInt = ((x.toInt + 1048576) / 2097152) * 2097152 := by
  have hx := rng32 x
  have a := own_t6 x.toInt64
  have ra := rng64 (x.toInt64 + (1048576 : Int64))
  rw [c_i2l] at a
  have b := own_t3 (x.toInt64 + (1048576 : Int64))
  have c := own_t4 ((x.toInt64 + (1048576 : Int64)) >>> ((21 : Int32) &&& 0x3f).toInt64)
  have rc := rng64 (((x.toInt64 + (1048576 : Int64)) >>> ((21 : Int32) &&& 0x3f).toInt64) <<< ((21 : Int32) &&& 0x3f).toInt64)
  rw [b] at c
  have e : (x.toInt64 + (1048576 : Int64)).toInt = x.toInt + 1048576 := by omega
  rw [e] at c
  omega
theorem own_gath_eq (x : Int32) (h : 0 ≤ x.toInt) : own_gath x = ((x.toInt64 + (1048576 : Int64)) >>> ((21 : Int32) &&& 0x3f).toInt64) <<< ((21 : Int32) &&& 0x3f).toInt64 := by
  apply Int64.toInt_inj.mp
  rw [own_rhs x h]
  rcases own_lhs x h with ⟨q, r⟩ | ⟨q, r⟩
  · rw [q]; omega
  · rw [q]; omega
theorem pn_0 : plainName "com/example/duostrata/duostrata/memory/HugePages" = true := by first | (simp [plainName, overriddenIn]; done) | decide +kernel
theorem d1_0 : decode prog_37_method_3_code 0 = .ok (.iload_n 0, 1) := by decide +kernel
theorem d1_1 : decode prog_37_method_3_code 1 = .ok (.ldc 13, 2) := by decide +kernel
theorem d1_3 : decode prog_37_method_3_code 3 = .ok (.idiv, 1) := by decide +kernel
theorem d1_4 : decode prog_37_method_3_code 4 = .ok (.iload_n 0, 1) := by decide +kernel
theorem d1_5 : decode prog_37_method_3_code 5 = .ok (.ldc 13, 2) := by decide +kernel
theorem d1_7 : decode prog_37_method_3_code 7 = .ok (.irem, 1) := by decide +kernel
theorem d1_8 : decode prog_37_method_3_code 8 = .ok (.ldc 14, 2) := by decide +kernel
theorem d1_10 : decode prog_37_method_3_code 10 = .ok (.if_icmp .lt 7, 3) := by decide +kernel
theorem d1_17 : decode prog_37_method_3_code 17 = .ok (.iconst 0, 1) := by decide +kernel
theorem d1_18 : decode prog_37_method_3_code 18 = .ok (.iadd, 1) := by decide +kernel
theorem d1_19 : decode prog_37_method_3_code 19 = .ok (.i2l, 1) := by decide +kernel
theorem d1_20 : decode prog_37_method_3_code 20 = .ok (.lstore_n 1, 1) := by decide +kernel
theorem d1_21 : decode prog_37_method_3_code 21 = .ok (.lload_n 1, 1) := by decide +kernel
theorem d1_22 : decode prog_37_method_3_code 22 = .ok (.ldc2_w 15, 3) := by decide +kernel
theorem d1_25 : decode prog_37_method_3_code 25 = .ok (.lmul, 1) := by decide +kernel
theorem d1_26 : decode prog_37_method_3_code 26 = .ok (.lreturn, 1) := by decide +kernel
theorem d1_13 : decode prog_37_method_3_code 13 = .ok (.iconst 1, 1) := by decide +kernel
theorem d1_14 : decode prog_37_method_3_code 14 = .ok (.goto 4, 3) := by decide +kernel
def RM1 : Room := { frames := 0, cells := 0, slots := 0, locals := 0 }
def Q1 (Z : State) (p1 : Int32) (h0 : Heap) (n0 : Nat) (v : Option Value) (h : Heap) (L : List Loc) : Prop := v = some (.long (own_gath p1)) ∧ Fr n0 L ∧ h = h0
set_option maxRecDepth 65536 in
set_option maxHeartbeats 40000000 in
theorem rm1 (l : Launch) (Z : State) (a0 : Array Value) (hw : ∀ d ∈ tables_1, d.before a0 Z = true) (ws : List Jvm.Cond) (p1 : Int32) (h0 : Heap) (n0 : Nat) (Z0 : n0 ≤ h0.size)  :
    MetFree l (⟨"com/example/duostrata/duostrata/memory/HugePages", "gathered", "(I)J"⟩ : MethodName) (head1 (Jvm.Cond.code (⟨"com/example/duostrata/duostrata/memory/HugePages", "gathered", "(I)J"⟩ : MethodName) prog_37_method_3_code 3 (some .long) :: ws) RM1) (fun a U => a = #[(.int p1)] ∧ Z.Warmed39 U.vm ∧ U.heap = h0) (fun _ _ _ _ _ => True) (fun _ U o U' => ∃ v L, o = .returned v ∧ Q1 Z p1 h0 n0 v U'.heap L ∧ FrameEnd U o U' L RM1.cells RM1.slots) := by
  refine met_of (Q := fun v h L => Q1 Z p1 h0 n0 v h L) (plainFor_of_name pn_0) (fun m => by first | (simp [entryFrame, mkF, argsToLocals, Value.category]; done) | rfl) (Ls := #[.val (.int p1), .unset, .unset]) ?_
  intro p e s m below meth c T0 QQ hx hZ hby hml hown hnm hret hlk X0 e0 hQ
  have hml : c.maxLocals = 3 := hml
  have hown : s.vm.findClass "com/example/duostrata/duostrata/memory/HugePages" = some m.cls := hown
  have hnm : meth.name = "gathered" := hnm
  have hret : meth.sig.returnType = some .long := hret
  have N0 := Fr.nil n0
  have K0 : Keep h0 h0 [] := Keep.refl h0 _
  show GoW p e below QQ (T0.setTop (mkF m 0 #[.val (.int p1), .unset, .unset] []))
  refine GoW.st (fun t k => XS.iloadN X0.here hx rfl (hb hby d1_0) rfl (X0.ldcInt hx hown (mvT hZ (hw _ (List.mem_of_getElem? (i := 6) rfl))) (g := (mkF m 1 #[.val (.int p1), .unset, .unset] [(.int p1)])) rfl (hb hby d1_1) t (XS.idiv X0.here hx rfl (hb hby d1_3) rfl (by decide) (XS.iloadN X0.here hx rfl (hb hby d1_4) rfl (X0.ldcInt hx hown (mvT hZ (hw _ (List.mem_of_getElem? (i := 6) rfl))) (g := (mkF m 5 #[.val (.int p1), .unset, .unset] [(.int p1), (.int (p1 / (2097152 : Int32)))])) rfl (hb hby d1_5) t (iremM X0 hx rfl (hb hby d1_7) rfl (by decide) k)))))) ?_
  show GoW p e below QQ (T0.setTop (mkF m 8 #[.val (.int p1), .unset, .unset] [(.int (p1 % (2097152 : Int32))), (.int (p1 / (2097152 : Int32)))]))
  refine GoW.st (fun t k => X0.ldcInt hx hown (mvT hZ (hw _ (List.mem_of_getElem? (i := 7) rfl))) (g := (mkF m 8 #[.val (.int p1), .unset, .unset] [(.int (p1 % (2097152 : Int32))), (.int (p1 / (2097152 : Int32)))])) rfl (hb hby d1_8) t k) ?_
  show GoW p e below QQ (T0.setTop (mkF m 10 #[.val (.int p1), .unset, .unset] [(.int (1048576 : Int32)), (.int (p1 % (2097152 : Int32))), (.int (p1 / (2097152 : Int32)))]))
  by_cases hc10 : (p1 % (2097152 : Int32)) < (1048576 : Int32)
  · skip
    refine GoW.st (fun t k => XS.icmpYes X0.here hx rfl (pc0 := 10) (pc' := 17) rfl (hb hby d1_10) rfl (tlt hc10).1 (by decide) (by decide) (XS.iconst X0.here hx rfl (hb hby d1_17) (XS.iadd X0.here hx rfl (hb hby d1_18) rfl (XS.i2l X0.here hx rfl (hb hby d1_19) rfl (XS.lstoreN X0.here hx rfl (hb hby d1_20) rfl (l' := #[.val (.int p1), .val (.long (((p1 / (2097152 : Int32)) + (0 : Int32)).toInt64)), .second]) rfl k))))) ?_
    show GoW p e below QQ (T0.setTop (mkF m 21 #[.val (.int p1), .val (.long (((p1 / (2097152 : Int32)) + (0 : Int32)).toInt64)), .second] []))
    generalize hv20 : (((p1 / (2097152 : Int32)) + (0 : Int32)).toInt64) = v20
    refine GoW.st (fun t k => XS.lloadN X0.here hx rfl (hb hby d1_21) rfl (X0.ldc2Long hx hown (mvT hZ (hw _ (List.mem_of_getElem? (i := 8) rfl))) (g := (mkF m 22 #[.val (.int p1), .val (.long v20), .second] [(.long v20)])) rfl (hb hby d1_22) t (XS.lmul X0.here hx rfl (hb hby d1_25) rfl k))) ?_
    show GoW p e below QQ (T0.setTop (mkF m 26 #[.val (.int p1), .val (.long v20), .second] [(.long (v20 * (2097152 : Int64)))]))
    have rv : ((some (.long (v20 * (2097152 : Int64)))) : Option Value) = some (.long (own_gath p1)) := by
      subst hv20
      rw [own_gath, if_pos hc10]
      all_goals first | rfl | (simp; done)
    exact GoW.fin X0 (some (.long (v20 * (2097152 : Int64)))) (fun q => by rw [hret] at q; cases q) hlk hQ e0 ⟨rv, N0, rfl⟩ (by decide) (by decide) (fun fs hr => retOut X0 hx hret rfl (Or.inr (Or.inl ⟨rfl, rfl, _, rfl⟩)) (hb hby d1_26) hr)
  · skip
    refine GoW.st (fun t k => XS.icmpNo X0.here hx rfl (hb hby d1_10) rfl (flt hc10).1 (XS.iconst X0.here hx rfl (hb hby d1_13) (XS.goto X0.here hx rfl (pc0 := 14) (pc' := 18) rfl (hb hby d1_14) (by decide) (by decide) (XS.iadd X0.here hx rfl (hb hby d1_18) rfl (XS.i2l X0.here hx rfl (hb hby d1_19) rfl (XS.lstoreN X0.here hx rfl (hb hby d1_20) rfl (l' := #[.val (.int p1), .val (.long (((p1 / (2097152 : Int32)) + (1 : Int32)).toInt64)), .second]) rfl k)))))) ?_
    show GoW p e below QQ (T0.setTop (mkF m 21 #[.val (.int p1), .val (.long (((p1 / (2097152 : Int32)) + (1 : Int32)).toInt64)), .second] []))
    generalize hv20 : (((p1 / (2097152 : Int32)) + (1 : Int32)).toInt64) = v20
    refine GoW.st (fun t k => XS.lloadN X0.here hx rfl (hb hby d1_21) rfl (X0.ldc2Long hx hown (mvT hZ (hw _ (List.mem_of_getElem? (i := 8) rfl))) (g := (mkF m 22 #[.val (.int p1), .val (.long v20), .second] [(.long v20)])) rfl (hb hby d1_22) t (XS.lmul X0.here hx rfl (hb hby d1_25) rfl k))) ?_
    show GoW p e below QQ (T0.setTop (mkF m 26 #[.val (.int p1), .val (.long v20), .second] [(.long (v20 * (2097152 : Int64)))]))
    have rv : ((some (.long (v20 * (2097152 : Int64)))) : Option Value) = some (.long (own_gath p1)) := by
      subst hv20
      rw [own_gath, if_neg hc10]
      all_goals first | rfl | (simp; done)
    exact GoW.fin X0 (some (.long (v20 * (2097152 : Int64)))) (fun q => by rw [hret] at q; cases q) hlk hQ e0 ⟨rv, N0, rfl⟩ (by decide) (by decide) (fun fs hr => retOut X0 hx hret rfl (Or.inr (Or.inl ⟨rfl, rfl, _, rfl⟩)) (hb hby d1_26) hr)
theorem pn_1 : plainName "com/example/duostrata/duostrata/memory/HugePagesGatheredPinLaw" = true := by first | (simp [plainName, overriddenIn]; done) | decide +kernel
theorem pd_0 : parseMethodDescriptor "(I)J" = some ⟨[.int], some .long⟩ := by decide +kernel
def Q0 (Z : State) (x1 : Int32) (h0 : Heap) (n0 : Nat) (v : Option Value) (h : Heap) (L : List Loc) : Prop := v = some (.int (1 : Int32)) ∧ Fr n0 L
set_option maxRecDepth 65536 in
set_option maxHeartbeats 40000000 in
theorem rm0 (l : Launch) (Z : State) (a0 : Array Value) (hw : ∀ d ∈ tables_1, d.before a0 Z = true) (ws : List Jvm.Cond) (x1 : Int32) (h0 : Heap) (n0 : Nat) (Z0 : n0 ≤ h0.size) (Z1 : h0.size ≤ n0)  :
    MetFree l x (head1 (Jvm.Cond.code x code maxLocals ret :: ws) room_1) (fun a U => a = #[(.int x1)] ∧ Z.Warmed39 U.vm ∧ U.heap = h0) (fun _ _ _ _ _ => True) (fun _ U o U' => ∃ v L, o = .returned v ∧ Q0 Z x1 h0 n0 v U'.heap L ∧ FrameEnd U o U' L 0 0) := by
  refine met_of (Q := fun v h L => Q0 Z x1 h0 n0 v h L) (plainFor_of_name pn_1) (fun m => by first | (simp [entryFrame, mkF, argsToLocals, Value.category, maxLocals]; done) | rfl) (Ls := #[.val (.int x1), .unset, .unset, .unset]) ?_
  intro p e s m below meth c T0 QQ hx hZ hby hml hown hnm hret hlk X0 e0 hQ
  have hml : c.maxLocals = 4 := hml
  have hown : s.vm.findClass "com/example/duostrata/duostrata/memory/HugePagesGatheredPinLaw" = some m.cls := hown
  have hnm : meth.name = "law" := hnm
  have hret : meth.sig.returnType = some .boolean := hret
  have N0 := Fr.nil n0
  have K0 : Keep h0 h0 [] := Keep.refl h0 _
  show GoW p e below QQ (T0.setTop (mkF m 0 #[.val (.int x1), .unset, .unset, .unset] []))
  refine GoW.st (fun t k => XS.iloadN X0.here hx rfl (hb hby at_0) rfl (X0.ldcInt hx hown (mvT hZ (hw _ (List.mem_of_getElem? (i := 0) rfl))) (g := (mkF m 1 #[.val (.int x1), .unset, .unset, .unset] [(.int x1)])) rfl (hb hby at_1) t (XS.iand X0.here hx rfl (hb hby at_3) rfl (XS.istoreN X0.here hx rfl (hb hby at_4) rfl (l' := #[.val (.int x1), .val (.int (x1 &&& (2147483647 : Int32))), .unset, .unset]) rfl k)))) ?_
  show GoW p e below QQ (T0.setTop (mkF m 5 #[.val (.int x1), .val (.int (x1 &&& (2147483647 : Int32))), .unset, .unset] []))
  generalize hv4 : (x1 &&& (2147483647 : Int32)) = v4
  refine GoW.st (fun t k => XS.iloadN X0.here hx rfl (hb hby at_5) rfl (XS.i2l X0.here hx rfl (hb hby at_6) rfl (X0.ldc2Long hx hown (mvT hZ (hw _ (List.mem_of_getElem? (i := 1) rfl))) (g := (mkF m 7 #[.val (.int x1), .val (.int v4), .unset, .unset] [(.long (v4.toInt64))])) rfl (hb hby at_7) t (XS.ladd X0.here hx rfl (hb hby at_10) rfl (XS.bipush X0.here hx rfl (hb hby at_11) (XS.lshr X0.here hx rfl (hb hby at_13) rfl k)))))) ?_
  show GoW p e below QQ (T0.setTop (mkF m 14 #[.val (.int x1), .val (.int v4), .unset, .unset] [(.long (((v4.toInt64) + (1048576 : Int64)) >>> ((21 : Int32) &&& 0x3f).toInt64))]))
  refine GoW.st (fun t k => XS.bipush X0.here hx rfl (hb hby at_14) (XS.lshl X0.here hx rfl (hb hby at_16) rfl (XS.lstoreN X0.here hx rfl (hb hby at_17) rfl (l' := #[.val (.int x1), .val (.int v4), .val (.long ((((v4.toInt64) + (1048576 : Int64)) >>> ((21 : Int32) &&& 0x3f).toInt64) <<< ((21 : Int32) &&& 0x3f).toInt64)), .second]) rfl k))) ?_
  show GoW p e below QQ (T0.setTop (mkF m 18 #[.val (.int x1), .val (.int v4), .val (.long ((((v4.toInt64) + (1048576 : Int64)) >>> ((21 : Int32) &&& 0x3f).toInt64) <<< ((21 : Int32) &&& 0x3f).toInt64)), .second] []))
  generalize hv17 : ((((v4.toInt64) + (1048576 : Int64)) >>> ((21 : Int32) &&& 0x3f).toInt64) <<< ((21 : Int32) &&& 0x3f).toInt64) = v17
  refine GoW.st (fun t k => XS.iloadN X0.here hx rfl (hb hby at_18) rfl k) ?_
  show GoW p e below QQ (T0.setTop (mkF m 19 #[.val (.int x1), .val (.int v4), .val (.long v17), .second] [(.int v4)]))
  obtain ⟨_, _, ⟨T1, zL1, zk1, zn1⟩, -, X1, ⟨Lc1, hQ1, zl1, zy1, zz1⟩, st1⟩ := Jvm.LawKit.callS X0 hx (y := (⟨"com/example/duostrata/duostrata/memory/HugePages", "gathered", "(I)J"⟩ : MethodName)) hown (mvT hZ (hw _ (List.mem_of_getElem? (i := 2) rfl))) (mvT hZ (hw _ (List.mem_of_getElem? (i := 3) rfl))) (mvT hZ (hw _ (List.mem_of_getElem? (i := 4) rfl))) (mvT hZ (hw _ (List.mem_of_getElem? (i := 5) rfl))) (by decide) (backOf (W := 0) (rm1 l Z a0 hw [] v4 h0 n0 (Nat.le_trans Z0 K0.1) ) hZ (hw _ (List.mem_of_getElem? (i := 5) rfl)) (hw _ (List.mem_of_getElem? (i := 4) rfl)) (by decide) (by decide)) (g := (mkF m 19 #[.val (.int x1), .val (.int v4), .val (.long v17), .second] [(.int v4)])) rfl (by rw [hml]; rfl) (argsL := [(.int v4)]) (rest := []) (lenOf pd_0 rfl) rfl (by show 2 * 0 + _ ≤ _; exact Nat.le_of_eq rfl) (hb hby at_19) (fun _ _ => ⟨rfl, e0, (by decide : 0 + 0 ≤ _), (by decide : 0 + 0 ≤ _)⟩)
  dsimp only [Pt.U, Pt.locs, Pt.cells, Pt.slots] at X1 zl1 zy1 zz1 st1 hQ1
  subst zl1 zy1 zz1
  obtain ⟨rfl, Nq1, hh1⟩ := hQ1
  have N1 := Fr.app N0 Nq1
  refine GoW.st st1 ?_
  show GoW p e below QQ (T1.setTop (mkF m 22 #[.val (.int x1), .val (.int v4), .val (.long v17), .second] [(.long (own_gath v4))]))
  refine GoW.st (fun t k => XS.lloadN X1.here hx rfl (hb hby at_22) rfl (XS.lcmp X1.here hx rfl (hb hby at_23) rfl k)) ?_
  show GoW p e below QQ (T1.setTop (mkF m 24 #[.val (.int x1), .val (.int v4), .val (.long v17), .second] [(.int (lcmpW (own_gath v4) v17))]))
  have hc24 : (own_gath v4) = v17 := by
    subst hv17
    refine own_gath_eq v4 ?_
    have b0 := c_and x1 2147483647 (by decide)
    rw [hv4] at b0
    exact b0.1
  refine GoW.st (fun t k => XS.ifNo X1.here hx rfl (hb hby at_24) rfl ((if0 _ _).trans (teq ((lw_eq (own_gath v4) v17).mpr hc24)).2) (XS.iconst X1.here hx rfl (hb hby at_27) (XS.goto X1.here hx rfl (pc0 := 28) (pc' := 32) rfl (hb hby at_28) (by decide) (by decide) k))) ?_
  show GoW p e below QQ (T1.setTop (mkF m 32 #[.val (.int x1), .val (.int v4), .val (.long v17), .second] [(.int (1 : Int32))]))
  exact GoW.fin X1 (some (.int (nar .boolean (1 : Int32)))) (fun q => by rw [hret] at q; cases q) hlk hQ hh1 ⟨rfl, N1⟩ (by decide) (by decide) (fun fs hr => retN X1 hx (t := .boolean) hret (by simp) (hb hby at_32) hr)
set_option maxRecDepth 65536 in
set_option maxHeartbeats 40000000 in
theorem comes_1 {Post : Tables → Env → Array Value → State → Outcome → State → Prop} (hpost : ∀ tb e args s v u, (limb_1_1.after args s (.returned v) u = true ∧ limb_1_2.after args s (.returned v) u = true ∧ True) → FrameEnd s (.returned v) u (Jvm.fieldLocs frame_1_writes args s ++ Jvm.arrayLocs frame_1_arrays args s ++ Jvm.staticLocs frame_1_statics s) 0 0 → Post tb e args s (.returned v) u) :
    ArmFor flags0 classFile x code maxLocals ret World_1 tables_1 room_1 Calls_1 rest_1 Pre_1 Post := by
  intro l hfl _ _ p e ha hc hk s m args below hf hA hF happ hP
  obtain ⟨hcalls, hrest, hpre⟩ := hP
  obtain ⟨-, -, -, hnamed, -, -, -, hat⟩ := (Spec.applies_iff hf).mp happ
  obtain ⟨hg, hn⟩ := and_e (Cond.before_iff.mp (show (Jvm.Cond.and given_1 narrow_1).before args s = true from hpre))
  obtain ⟨gcount, gr0⟩ := and_e hg
  obtain ⟨w0, rfl⟩ : ∃ w0 : Value, args = #[w0] := by
    have hs : args.size = 1 := by simpa [Cond.value, given_1] using gcount
    obtain ⟨L⟩ := args
    match L, hs with
    | [w0], _ => exact ⟨w0, rfl⟩
  have hw := fun d (hd : d ∈ tables_1) => atoms_spec (ws := Jvm.Cond.code x code maxLocals ret :: tables_1) hat d (List.mem_cons_of_mem _ hd)
  obtain ⟨i0, ei0⟩ := is_v gr0
  obtain rfl : w0 = (.int i0) := Option.some.inj ei0
  obtain ⟨n, o, h1, h2, h3, _, L, rfl, ⟨rfl, N⟩, hq⟩ := rm0 l s _ hw tables_1 i0 s.heap s.heap.size (Nat.le_refl _) (Nat.le_refl _) p e ha hc hk s m _ below hf ((Spec.applies_iff_loose hf).mp happ).1 ⟨rfl, State.Warmed39.refl s, rfl⟩ trivial
  refine ⟨n, _, h1, h2, h3, hpost _ _ _ _ _ _ ⟨Cond.after_iff.mpr rfl, Cond.after_iff.mpr (eq_i res_at (Term.int_eval (1)) rfl), trivial⟩ ⟨hq.1, hq.2.1, (hq.2.2.sift fun y hy => Or.inr (N y hy)).mono (by decide) (by decide)⟩⟩
theorem main_1_1 : Claimed_1_1 := comes_1 fun _ _ _ _ _ _ h hF => ⟨h.1, hF⟩
theorem main_1_2 : Claimed_1_2 := comes_1 fun _ _ _ _ _ _ h hF => ⟨h.2.1, hF⟩
end Jvm.Pilot.@@N@@
namespace Jvm.Pilot.@@N@@
open Jvm Jvm.ClassFile Sem Op Lib Jvm.Free Jvm.Stand Jvm.Pilot.@@N@@.Jvm.D
/-! MADE BY PROGRAM (witnessworld.py) out of the Statement's table words and the real class files: 9 classes; the members and pool entries that the words name. The judged class is class 1, her method 1. -/
namespace start1
open Jvm.ClassFile
def u (s : String) : CpInfo := .utf8 (stringToUtf16 s)
/-- a pool by its gaps: so many unusable entries, then the entry; so many at the end -/
def gap : Nat → List CpInfo → List CpInfo
  | 0, r => r
  | n + 1, r => .unusable :: gap n r
def poolList (es : List (Nat × CpInfo)) (last : Nat) : List CpInfo := es.foldr (fun e r => gap e.1 (e.2 :: r)) (gap last [])
def pool (es : List (Nat × CpInfo)) (last : Nat) : Array CpInfo := ⟨poolList es last⟩
def fileOf (pool : Array CpInfo) (this : Nat) (attrs : Array Attribute := #[]) (ms : Array MethodInfo := #[]) (fl : Nat := 33) (sup : Nat := 0) (ifs : Array Nat := #[]) (fds : Array FieldInfo := #[]) : ClassFile where
  minorVersion := 0
  majorVersion := 65
  constantPool := pool
  accessFlags := fl
  thisClass := this
  superClass := sup
  interfaces := ifs
  fields := fds
  methods := ms
  attributes := attrs
def plain (name : String) (sup : Option ClassId) : Class where
  name := name
  kind := .ordinary
  loader := none
  accessFlags := 33
  super := sup
  interfaces := #[]
  cf := none
  fields := #[]
  methods := #[]
  instanceTypes := #[]
  staticTypes := #[]
  resolved := #[]
  callSites := []
  init := .initialized
  statics := none
  mirror := none

def pool0 : Array CpInfo := pool [(5, u "<init>"), (0, u "()V"), (1, .class_ 10), (1, u "java/lang/Object")] 113

def k0m0 : Method := { name := "<init>", desc := "()V", sig := { parameters := [], returnType := none }, accessFlags := 1, code := none }
/-- java/lang/Object -/
def k0 : Class := { plain "java/lang/Object" none with
  accessFlags := 33
  interfaces := #[]
  cf := some (fileOf pool0 8 #[] #[{ accessFlags := 1, nameIndex := 5, descriptorIndex := 6, attributes := #[] }] 33 0 #[] #[])
  fields := #[]
  methods := #[k0m0]
  instanceTypes := #[]
  staticTypes := #[]
  resolved := Array.replicate 124 none
  statics := none }

def pool1 : Array CpInfo := pool [(2, .class_ 4), (1, u "java/lang/Object"), (0, u "<init>"), (0, u "()V"), (0, .integer 2147483647), (0, .long 1048576), (1, .methodref 11 12), (0, .class_ 13), (0, .nameAndType 14 15), (0, u "com/example/duostrata/duostrata/memory/HugePages"), (0, u "gathered"), (0, u "(I)J"), (0, .class_ 17), (0, u "com/example/duostrata/duostrata/memory/HugePagesGatheredPinLaw"), (2, u "law"), (0, u "(I)Z")] 3

def k1m0 : Method := { name := "<init>", desc := "()V", sig := { parameters := [], returnType := none }, accessFlags := 2, code := none }
def k1c1 : Code := { maxStack := 4, maxLocals := 4, code := code, exceptionTable := #[], attributes := #[] }
def k1m1 : Method := { name := "law", desc := "(I)Z", sig := { parameters := [.int], returnType := some .boolean }, accessFlags := 9, code := some k1c1 }
/-- com/example/duostrata/duostrata/memory/HugePagesGatheredPinLaw -/
def k1 : Class := { plain "com/example/duostrata/duostrata/memory/HugePagesGatheredPinLaw" (some 0) with
  accessFlags := 49
  interfaces := #[]
  cf := some (fileOf pool1 16 #[] #[{ accessFlags := 2, nameIndex := 5, descriptorIndex := 6, attributes := #[] }, { accessFlags := 9, nameIndex := 20, descriptorIndex := 21, attributes := #[] }] 49 2 #[] #[])
  fields := #[]
  methods := #[k1m0, k1m1]
  instanceTypes := #[]
  staticTypes := #[]
  resolved := Array.replicate 25 none
  statics := none }

def pool2 : Array CpInfo := pool [(2, .class_ 4), (1, u "java/lang/Object"), (0, u "<init>"), (0, u "()V"), (1, .class_ 10), (1, u "com/example/duostrata/duostrata/memory/HugePages"), (0, u "UNAVAILABLE"), (0, u "Ljava/lang/String;"), (0, .integer 2097152), (0, .integer 1048576), (0, .long 2097152), (3, u "CALLS"), (0, u "Lcom/example/duostrata/duostrata/memory/HugePages$Calls;"), (6, .class_ 29), (1, u "com/example/duostrata/duostrata/memory/HugePages$Calls"), (40, u "EXTENT"), (0, u "I"), (1, u "FOREIGN_CALLS"), (2, u "gathered"), (0, u "(I)J")] 33

def k2m0 : Method := { name := "<init>", desc := "()V", sig := { parameters := [], returnType := none }, accessFlags := 2, code := none }
def k2c1 : Code := { maxStack := 4, maxLocals := 3, code := prog_37_method_3_code, exceptionTable := #[], attributes := #[] }
def k2m1 : Method := { name := "gathered", desc := "(I)J", sig := { parameters := [.int], returnType := some .long }, accessFlags := 8, code := some k2c1 }
/-- com/example/duostrata/duostrata/memory/HugePages -/
def k2 : Class := { plain "com/example/duostrata/duostrata/memory/HugePages" (some 0) with
  accessFlags := 49
  interfaces := #[]
  cf := some (fileOf pool2 8 #[.nestMembers #[27]] #[{ accessFlags := 2, nameIndex := 5, descriptorIndex := 6, attributes := #[] }, { accessFlags := 8, nameIndex := 76, descriptorIndex := 77, attributes := #[] }] 49 2 #[] #[{ accessFlags := 25, nameIndex := 70, descriptorIndex := 71, attributes := #[] }, { accessFlags := 26, nameIndex := 73, descriptorIndex := 12, attributes := #[] }, { accessFlags := 26, nameIndex := 19, descriptorIndex := 20, attributes := #[] }, { accessFlags := 26, nameIndex := 11, descriptorIndex := 12, attributes := #[] }])
  fields := #[{ name := "EXTENT", type := .int, accessFlags := 25, slot := 0, constantValue := 0 }, { name := "FOREIGN_CALLS", type := (.object "java/lang/String"), accessFlags := 26, slot := 1, constantValue := 0 }, { name := "CALLS", type := (.object "com/example/duostrata/duostrata/memory/HugePages$Calls"), accessFlags := 26, slot := 2, constantValue := 0 }, { name := "UNAVAILABLE", type := (.object "java/lang/String"), accessFlags := 26, slot := 3, constantValue := 0 }]
  methods := #[k2m0, k2m1]
  instanceTypes := #[]
  staticTypes := #[.int, (.object "java/lang/String"), (.object "com/example/duostrata/duostrata/memory/HugePages$Calls"), (.object "java/lang/String")]
  resolved := Array.replicate 111 none
  statics := none }

def pool3 : Array CpInfo := pool [(1, u "java/lang/Cloneable"), (0, .class_ 1), (0, u "java/lang/Object"), (0, .class_ 3)] 3

/-- java/lang/Cloneable -/
def k3 : Class := { plain "java/lang/Cloneable" (some 0) with
  accessFlags := 1537
  interfaces := #[]
  cf := some (fileOf pool3 2 #[] #[] 1537 4 #[] #[])
  fields := #[]
  methods := #[]
  instanceTypes := #[]
  staticTypes := #[]
  resolved := Array.replicate 8 none
  statics := none }

def pool4 : Array CpInfo := pool [(1, u "java/io/Serializable"), (0, .class_ 1), (0, u "java/lang/Object"), (0, .class_ 3)] 3

/-- java/io/Serializable -/
def k4 : Class := { plain "java/io/Serializable" (some 0) with
  accessFlags := 1537
  interfaces := #[]
  cf := some (fileOf pool4 2 #[] #[] 1537 4 #[] #[])
  fields := #[]
  methods := #[]
  instanceTypes := #[]
  staticTypes := #[]
  resolved := Array.replicate 8 none
  statics := none }

/-- the primitive byte -/
def k5 : Class := { plain "byte" none with kind := .primitive 'B', accessFlags := 0x411 }
/-- [B -/
def k6 : Class := { plain "[B" (some 0) with kind := .array 5 .byte, interfaces := #[3, 4], accessFlags := 1041 }

/-- the primitive int -/
def k7 : Class := { plain "int" none with kind := .primitive 'I', accessFlags := 0x411 }
/-- [I -/
def k8 : Class := { plain "[I" (some 0) with kind := .array 7 .int, interfaces := #[3, 4], accessFlags := 1041 }

def heap : Heap := #[]
def classes : Array Class := #[k0, k1, k2, k3, k4, k5, k6, k7, k8]
def interned : List (Array UInt16 × Addr) := []
def slotsUsed : Nat := 0
def theMethod : MethodId := ⟨1, 1⟩
def args0 : Array Value := #[.int 5]
def aboutOver (below : List Frame) : State where
  vm := { classes := classes, interned := interned.toArray }
  heap := heap
  slotsUsed := slotsUsed
  threads := #[{ frames := .invoking theMethod args0 :: below }]
def below0 : List Frame := [.native { method := ⟨0, 0⟩, args := #[] }]
def about1 : State := aboutOver below0
def p0 : Program := .bare "" "" ""
def e0 : Env := launch0.env 0 0 0
theorem w_frames : about1.frames = Frame.invoking theMethod args0 :: below0 := rfl
set_option maxRecDepth 65536 in
theorem w_args : argsFit about1.vm theMethod args0 = true := by decide +kernel
set_option maxRecDepth 65536 in
theorem w_heap : heapFits about1 = true := by decide +kernel
set_option maxRecDepth 65536 in
theorem w_runnable : about1.curStatus? = some .runnable := by decide +kernel
set_option maxRecDepth 65536 in
theorem w_alone : about1.alone = true := by decide +kernel
set_option maxRecDepth 65536 in
theorem w_named : about1.methodNamed? x = some theMethod := by decide +kernel
set_option maxRecDepth 65536 in
theorem w_hears : about1.hears theMethod below0 = true := by decide +kernel
set_option maxRecDepth 65536 in
theorem w_ripe : about1.ripe theMethod args0 below0 = true := by decide +kernel
theorem w_running : about1.status = .running := rfl
set_option maxRecDepth 65536 in
theorem w_room : about1.hasRoom e0.platform room_1 = true :=
  launch0.hasRoom_least _ room_1 (by decide +kernel) (by decide +kernel) (by decide +kernel) (by decide +kernel) (by decide +kernel) (by decide +kernel)
theorem allAtoms_all (ts : List Jvm.Cond) (a : Array Jvm.Value) (st : Jvm.State) : (allAtoms ts).before a st = ts.all (fun c => c.before a st) := by
  induction ts with
  | nil => rfl
  | cons c t ih =>
    show (Jvm.Cond.and c (allAtoms t)).before a st = _
    rw [Jvm.Cond.before_and, ih, List.all_cons]
def words1 : List Jvm.Cond := Jvm.Cond.code x code maxLocals ret :: tables_1
/-- a 'code' word, met by the world's own term for the bytes: nothing is compared byte by byte -/
theorem code_word {y : MethodName} {bytes : ByteArray} {mx : Nat} {rt : Option FieldType} {a : Array Value} {s : State} {m : MethodId} {meth : Method} {c : Code} (h1 : s.methodNamed? y = some m) (h2 : s.vm.method? m = some meth) (h3 : meth.code = some c) (h4 : c.code = bytes)
    (h5 : (c.maxLocals == mx && c.exceptionTable.isEmpty && decide (c.maxStack ≤ mostOperands) && decide (meth.sig.returnType = rt) && !meth.locks && decide (parseMethodDescriptor y.desc = some meth.sig)) = true) : (Jvm.Cond.code y bytes mx rt).before a s = true := by
  simp only [Bool.and_eq_true, beq_iff_eq, Bool.not_eq_true', decide_eq_true_eq] at h5
  obtain ⟨⟨⟨⟨⟨g1, g2⟩, g3⟩, g4⟩, g5⟩, g6⟩ := h5
  simp [Cond.before, Cond.holds, Cond.value, h1, h2, h3, h4, g1, g2, g3, g4, g5, g6]
def isCode : Jvm.Cond → Bool
  | .code _ _ _ _ => true
  | _ => false
theorem all_split {L : List Jvm.Cond} {P : Jvm.Cond → Bool} (h1 : L.all (fun c => isCode c || P c) = true) (h2 : ∀ c ∈ L.filter isCode, P c = true) : L.all P = true := by
  refine List.all_eq_true.mpr fun c hc => ?_
  have h := List.all_eq_true.mp h1 c hc
  rcases Bool.eq_false_or_eq_true (isCode c) with hi | hi
  · exact h2 c (List.mem_filter.mpr ⟨hc, hi⟩)
  · simpa [hi] using h
set_option maxRecDepth 65536 in
theorem w_c0 : (Jvm.Cond.code x code maxLocals ret).before args0 about1 = true := code_word (m := ⟨1, 1⟩) (meth := k1m1) (c := k1c1) (by decide +kernel) rfl rfl rfl (by decide +kernel)
set_option maxRecDepth 65536 in
theorem w_c1 : (Jvm.Cond.code ({ cls := "com/example/duostrata/duostrata/memory/HugePages", name := "gathered", desc := "(I)J" } : Jvm.MethodName) prog_37_method_3_code (3 : Nat) (Option.some Jvm.ClassFile.FieldType.long)).before args0 about1 = true := code_word (m := ⟨2, 1⟩) (meth := k2m1) (c := k2c1) (by decide +kernel) rfl rfl rfl (by decide +kernel)
def codes1 : List Jvm.Cond := [Jvm.Cond.code x code maxLocals ret, Jvm.Cond.code ({ cls := "com/example/duostrata/duostrata/memory/HugePages", name := "gathered", desc := "(I)J" } : Jvm.MethodName) prog_37_method_3_code (3 : Nat) (Option.some Jvm.ClassFile.FieldType.long)]
set_option maxRecDepth 65536 in
theorem codes_eq : words1.filter isCode = codes1 := rfl
theorem w_codes : ∀ c ∈ words1.filter isCode, c.before args0 about1 = true := by
  rw [codes_eq]
  intro c hc
  simp only [codes1, List.mem_cons, List.not_mem_nil, or_false] at hc
  rcases hc with rfl | rfl
  · exact w_c0
  · exact w_c1
set_option maxRecDepth 65536 in
theorem w_t1 : words1.all (fun c => isCode c || c.before args0 about1) = true := by decide +kernel
theorem w_tables : (allAtoms (Jvm.Cond.code x code maxLocals ret :: tables_1)).before args0 about1 = true := by
  rw [allAtoms_all]
  show words1.all (fun c => c.before args0 about1) = true
  refine all_split ?_ w_codes
  rw [w_t1]
set_option maxRecDepth 65536 in
theorem w_case : (Jvm.Cond.and given_1 narrow_1).before args0 about1 = true := by decide +kernel
theorem w_applies : (headSpec (Jvm.Cond.code x code maxLocals ret :: tables_1) room_1).applies x e0.platform about1 = true :=
  (Spec.applies_iff w_frames).mpr ⟨w_running, w_runnable, w_alone, w_named, w_hears, w_ripe, w_room, w_tables⟩
theorem atStart : AtStart classFile x code maxLocals ret World_1 tables_1 room_1 Calls_1 rest_1 Pre_1 launch0 p0 e0 about1 theMethod args0 below0 :=
  ⟨lists_1, trivial, launch0.admits_env _ _ _, launch0.least_env, fairChoices_fair.cas, fairChoices_fair.clock, w_frames, w_args, w_heap, w_applies, trivial, trivial, w_case⟩
end start1
theorem witness_1 : WitnessClaimed_1 := ⟨start1.p0, start1.e0, start1.about1, start1.theMethod, start1.args0, start1.below0, start1.atStart⟩
end Jvm.Pilot.@@N@@
