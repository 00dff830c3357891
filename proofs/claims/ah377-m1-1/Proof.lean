import JvmDerived
import JvmDerived.Pilot.@@N@@Statement
import JvmDerived.Pilot.@@N@@Code
set_option linter.unusedVariables false
set_option linter.unusedSimpArgs false
namespace Jvm.RoadKit
open Sem ClassFile Op Lib Jvm.Stand Jvm.Free Jvm.LawKit
section Own
variable {p : Program} {l : Launch} {e : Env} {R : Room} {s : State} {m : MethodId} {args : Array Value} {below : List Frame} {meth : Method} {c : Code} {T : State} {locs : List Loc} {cells slots : Nat}
theorem retI (X : Stand p l e R s m args below meth c T locs cells slots) (hx : p.tables.exec = Jvm.exec) {pc : Nat} {Ls : Array Slot} {z : Int32} {rest : List Value} (hret : meth.sig.returnType = some .int) (hd : decode c.code pc = .ok (.ireturn, 1)) {fs : List Frame}
    (hl : ∀ (f : JFrame) (acts : List Action), f.method = m → f.locked = none → f.entered = [] → (doReturn e (T.setTop f) acts (some (.int z))).1 = T.setFrames fs) : Steps p.tables e below (T.setTop (mkF m pc Ls (.int z :: rest))) (T.setFrames fs) := by
  have hm' : T.vm.method? m = some meth := X.method'
  have hn : narrow .int (.int z) = .int z := rfl
  show Steps p.tables e below (T.setTop { method := m, pc := pc, locals := Ls, stack := _ :: rest, locked := none }) _
  jvm_step X.here [X.here.top, hx, hd, hm', hret, hn]
  first | (intro acts; rw [hl _ acts rfl rfl rfl]) | rw [hl _ _ rfl rfl rfl]
  exact Steps.refl _
/-- the run comes from the state A to its end, and the end is as QQ says -/
def GoW (p : Program) (e : Env) (below : List Frame) (QQ : Outcome → State → Prop) (A : State) : Prop :=
  ∃ s₂ o, Steps p.tables e below A s₂ ∧ s₂.status = .running ∧ Ended s₂ below o ∧ QQ o s₂
theorem GoW.st {QQ : Outcome → State → Prop} {A B : State} (h : ∀ t, Steps p.tables e below B t → Steps p.tables e below A t) (g : GoW p e below QQ B) : GoW p e below QQ A := by
  obtain ⟨s₂, o, h1, h2⟩ := g
  exact ⟨s₂, o, h _ h1, h2⟩
/-- what an end with the value v, the heap and the written places must say -/
def EndsW (s : State) (Q : Option Value → Heap → List Loc → Prop) (cl sl : Nat) (QQ : Outcome → State → Prop) : Prop :=
  ∀ (v : Option Value) (L : List Loc) (T : State), Q v T.heap L → FrameEnd s (.returned v) T L cl sl → QQ (.returned v) T
theorem GoW.fin {Q : Option Value → Heap → List Loc → Prop} {cl sl : Nat} {QQ : Outcome → State → Prop} {A : State} (X : Stand p l e R s m args below meth c T locs cells slots) (v : Option Value) (hv : meth.sig.returnType = none → v = none) (hlk : meth.locks = false) (hQ : EndsW s Q cl sl QQ) {h : Heap} (eT : T.heap = h)
    (q : Q v h locs) (hc : cells ≤ cl) (hs : slots ≤ sl)
    (st : ∀ fs, (∀ (f : JFrame) (acts : List Action), f.method = m → f.locked = none → f.entered = [] → (doReturn e (T.setTop f) acts v).1 = T.setFrames fs) → Steps p.tables e below A (T.setFrames fs)) : GoW p e below QQ A := by
  obtain ⟨fs, hr, hrun, hended, hW, hsame⟩ := X.leave (v := v) hv hlk
  subst eT
  exact ⟨_, _, st fs hr, hrun, hended, hQ _ _ _ q ⟨⟨_, rfl⟩, hW, hsame.mono hc hs⟩⟩
theorem met_of {y : MethodName} {bytes : ByteArray} {maxL : Nat} {ret : Option FieldType} {ws : List Cond} {as' : Array Value} {Z : State} {h0 : Heap} {Q : Option Value → Heap → List Loc → Prop} {cl sl : Nat} (hp : plainFor y = true) {Ls : Array Slot} (ef : ∀ m, entryFrame m as' maxL = mkF m 0 Ls [])
    (core : ∀ (p : Program) (e : Env) (s : State) (m : MethodId) (below : List Frame) (meth : Method) (c : Code) (T : State) (QQ : Outcome → State → Prop), p.tables.exec = Jvm.exec → Z.Warmed39 s.vm → c.code = bytes → c.maxLocals = maxL → s.vm.findClass y.cls = some m.cls → meth.name = y.name → meth.sig.returnType = ret → meth.locks = false →
      Stand p l e R s m as' below meth c T [] 0 0 → T.heap = h0 → EndsW s Q cl sl QQ → GoW p e below QQ (T.setTop (mkF m 0 Ls []))) :
    MetFree l y (head1 (Cond.code y bytes maxL ret :: ws) R) (fun a U => a = as' ∧ Z.Warmed39 U.vm ∧ U.heap = h0) (fun _ _ _ _ _ => True) (fun _ U o U' => ∃ v L, o = .returned v ∧ Q v U'.heap L ∧ FrameEnd U o U' L cl sl) := by
  refine MetFree.of_bodySF hp hisR ?_
  intro p e s m args below meth c s₁ Bd hml0 hP hK
  obtain ⟨rfl, hZ, hh⟩ := hP
  obtain ⟨s₂, o, g1, g2, g3, g4⟩ := core p e s m below meth c s₁ (fun o U' => ∃ v L, o = .returned v ∧ Q v U'.heap L ∧ FrameEnd s o U' L cl sl) Bd.exec hZ Bd.bytes hml0 (findClass_of_methodNamed Bd.named) (name_of_methodNamed Bd.named Bd.method).1 Bd.returns Bd.notSynchronized (Stand.of_body Bd) (by rw [← hh, Bd.state]; rfl) (fun v L T q f => ⟨v, L, rfl, q, f⟩)
  exact ⟨s₂, o, castTop (ef m) g1, g2, g3, g4⟩
theorem standUp (X : Stand p l e R s m args below meth c T locs cells slots) {cells' slots' : Nat} (hc : cells ≤ cells') (hs : slots ≤ slots') : Stand p l e R s m args below meth c T locs cells' slots' :=
  { X with same := X.same.mono hc hs }
theorem lremM {g : JFrame} {target : State} (X : Stand p l e R s m args below meth c T locs cells slots) (hx : p.tables.exec = Jvm.exec) (hg : g.method = m) {x y : Int64} {rest : List Value} (hd : decode c.code g.pc = .ok (.lrem, 1)) (hs : g.stack = .long y :: .long x :: rest) (hy : y ≠ 0)
    (hr : Steps p.tables e below (T.setTop { g with pc := g.pc + 1, stack := .long (x % y) :: rest }) target) : Steps p.tables e below (T.setTop g) target := by
  have q : x - x / y * y = x % y := lrem_mod x y
  exact XS.lrem X.here hx hg hd hs hy (by rw [q]; exact hr)
theorem ldVI {Z : State} {h : Heap} {a : Addr} {kc : ClassId} {z j : Int32} {vs : List Value} {dv v : Value} (X : Stand p l e R s m args below meth c T locs cells slots) (hx : p.tables.exec = Jvm.exec) (hZ : Z.Warmed39 s.vm) (eT : T.heap = h) (F : Arv Z h a kc .int z vs dv) (hj : ¬ j < 0 ∧ j < z) (hv : vs.getD j.toNatClampNeg dv = v)
    {g : JFrame} (hg : g.method = m) {rest : List Value} (hs : g.stack = .int j :: .ref a :: rest) (hd : decode c.code g.pc = .ok (.iaload, 1)) (t : State) (k : Steps p.tables e below (T.setTop { g with pc := g.pc + 1, stack := v :: rest }) t) : Steps p.tables e below (T.setTop g) t := by
  obtain ⟨c', A, -, S, -, H, -⟩ := F
  have i := inb_of S hj
  exact X.iaload hx (by rw [eT]; exact A.1) (State.isArrayOf_alike hZ.alike A.2.1) A.2.2 i (H.at i hv) hg hs hd t k
theorem ldVJ {Z : State} {h : Heap} {a : Addr} {kc : ClassId} {z j : Int32} {vs : List Value} {dv v : Value} (X : Stand p l e R s m args below meth c T locs cells slots) (hx : p.tables.exec = Jvm.exec) (hZ : Z.Warmed39 s.vm) (eT : T.heap = h) (F : Arv Z h a kc .long z vs dv) (hj : ¬ j < 0 ∧ j < z) (hv : vs.getD j.toNatClampNeg dv = v)
    {g : JFrame} (hg : g.method = m) {rest : List Value} (hs : g.stack = .int j :: .ref a :: rest) (hd : decode c.code g.pc = .ok (.laload, 1)) (t : State) (k : Steps p.tables e below (T.setTop { g with pc := g.pc + 1, stack := v :: rest }) t) : Steps p.tables e below (T.setTop g) t := by
  obtain ⟨c', A, -, S, -, H, -⟩ := F
  have i := inb_of S hj
  exact X.laload hx (by rw [eT]; exact A.1) (State.isArrayOf_alike hZ.alike A.2.1) A.2.2 i (H.at i hv) hg hs hd t k
theorem ldVB {Z : State} {h : Heap} {a : Addr} {kc : ClassId} {z j : Int32} {vs : List Value} {dv v : Value} (X : Stand p l e R s m args below meth c T locs cells slots) (hx : p.tables.exec = Jvm.exec) (hZ : Z.Warmed39 s.vm) (eT : T.heap = h) (F : Arv Z h a kc .byte z vs dv) (hj : ¬ j < 0 ∧ j < z) (hv : vs.getD j.toNatClampNeg dv = v)
    {g : JFrame} (hg : g.method = m) {rest : List Value} (hs : g.stack = .int j :: .ref a :: rest) (hd : decode c.code g.pc = .ok (.baload, 1)) (t : State) (k : Steps p.tables e below (T.setTop { g with pc := g.pc + 1, stack := v :: rest }) t) : Steps p.tables e below (T.setTop g) t := by
  obtain ⟨c', A, -, S, -, H, -⟩ := F
  have i := inb_of S hj
  exact X.baloadBytes hx (by rw [eT]; exact A.1) (State.isArrayOf_alike hZ.alike A.2.1) A.2.2 i (H.at i hv) hg hs hd t k
theorem stVI {Z : State} {h : Heap} {a : Addr} {kc : ClassId} {z j : Int32} {vs : List Value} {dv : Value} {x : Int32} (X : Stand p l e R s m args below meth c T locs cells slots) (hx : p.tables.exec = Jvm.exec) (hZ : Z.Warmed39 s.vm) (eT : T.heap = h) (F : Arv Z h a kc .int z vs dv) (hj : ¬ j < 0 ∧ j < z) (i : Nat) (hi : j.toNatClampNeg = i) (hl : i < vs.length)
    {g : JFrame} (hg : g.method = m) {rest : List Value} (hs : g.stack = (.int x) :: .int j :: .ref a :: rest) (hd : decode c.code g.pc = .ok (.iastore, 1)) :
    ∃ T' h', Stand p l e R s m args below meth c T' (locs ++ [⟨a, j.toNatClampNeg⟩]) cells slots ∧ T'.heap = h' ∧ Wr h h' a j.toNatClampNeg (.int x) ∧ Arv Z h' a kc .int z (vs.set i (.int x)) dv ∧ ∀ target, Steps p.tables e below (T'.setTop { g with pc := g.pc + 1, stack := rest }) target → Steps p.tables e below (T.setTop g) target := by
  obtain ⟨c', A, q, S, M, H, G⟩ := F
  obtain ⟨T', h', X', e', W', st⟩ := stI X hx hZ eT A (inb_of S hj) hg hs hd
  exact ⟨T', h', X', e', W', Arv.set A q S M H G rfl W' i hi hl, st⟩
theorem stVJ {Z : State} {h : Heap} {a : Addr} {kc : ClassId} {z j : Int32} {vs : List Value} {dv : Value} {x : Int64} (X : Stand p l e R s m args below meth c T locs cells slots) (hx : p.tables.exec = Jvm.exec) (hZ : Z.Warmed39 s.vm) (eT : T.heap = h) (F : Arv Z h a kc .long z vs dv) (hj : ¬ j < 0 ∧ j < z) (i : Nat) (hi : j.toNatClampNeg = i) (hl : i < vs.length)
    {g : JFrame} (hg : g.method = m) {rest : List Value} (hs : g.stack = (.long x) :: .int j :: .ref a :: rest) (hd : decode c.code g.pc = .ok (.lastore, 1)) :
    ∃ T' h', Stand p l e R s m args below meth c T' (locs ++ [⟨a, j.toNatClampNeg⟩]) cells slots ∧ T'.heap = h' ∧ Wr h h' a j.toNatClampNeg (.long x) ∧ Arv Z h' a kc .long z (vs.set i (.long x)) dv ∧ ∀ target, Steps p.tables e below (T'.setTop { g with pc := g.pc + 1, stack := rest }) target → Steps p.tables e below (T.setTop g) target := by
  obtain ⟨c', A, q, S, M, H, G⟩ := F
  obtain ⟨T', h', X', e', W', st⟩ := stJ X hx hZ eT A (inb_of S hj) hg hs hd
  exact ⟨T', h', X', e', W', Arv.set A q S M H G rfl W' i hi hl, st⟩
theorem stVB {Z : State} {h : Heap} {a : Addr} {kc : ClassId} {z j : Int32} {vs : List Value} {dv : Value} {x : Int32} (X : Stand p l e R s m args below meth c T locs cells slots) (hx : p.tables.exec = Jvm.exec) (hZ : Z.Warmed39 s.vm) (eT : T.heap = h) (F : Arv Z h a kc .byte z vs dv) (hj : ¬ j < 0 ∧ j < z) (i : Nat) (hi : j.toNatClampNeg = i) (hl : i < vs.length)
    {g : JFrame} (hg : g.method = m) {rest : List Value} (hs : g.stack = (.int x) :: .int j :: .ref a :: rest) (hd : decode c.code g.pc = .ok (.bastore, 1)) :
    ∃ T' h', Stand p l e R s m args below meth c T' (locs ++ [⟨a, j.toNatClampNeg⟩]) cells slots ∧ T'.heap = h' ∧ Wr h h' a j.toNatClampNeg (.int (nar .byte x)) ∧ Arv Z h' a kc .byte z (vs.set i (.int (nar .byte x))) dv ∧ ∀ target, Steps p.tables e below (T'.setTop { g with pc := g.pc + 1, stack := rest }) target → Steps p.tables e below (T.setTop g) target := by
  obtain ⟨c', A, q, S, M, H, G⟩ := F
  obtain ⟨T', h', X', e', W', st⟩ := stB X hx hZ eT A (inb_of S hj) hg hs hd
  exact ⟨T', h', X', e', W', Arv.set A q S M H G (fits_nar_byte _) W' i hi hl, st⟩
theorem lnV {Z : State} {h : Heap} {a : Addr} {kc : ClassId} {ty : FieldType} {z : Int32} {vs : List Value} {dv : Value} (X : Stand p l e R s m args below meth c T locs cells slots) (hx : p.tables.exec = Jvm.exec) (hZ : Z.Warmed39 s.vm) (eT : T.heap = h) (F : Arv Z h a kc ty z vs dv)
    {g : JFrame} (hg : g.method = m) {rest : List Value} (hs : g.stack = .ref a :: rest) (hd : decode c.code g.pc = .ok (.arraylength, 1)) (t : State) (k : Steps p.tables e below (T.setTop { g with pc := g.pc + 1, stack := .int z :: rest }) t) : Steps p.tables e below (T.setTop g) t := by
  obtain ⟨c', A, -, S, M, -, -⟩ := F
  refine X.arraylength hx (by rw [eT]; exact A.1) (State.isArrayOf_alike hZ.alike A.2.1) hg hs hd t ?_
  rw [len_of S M]; exact k
theorem gdI (vs : List Int32) (d : Int32) (i : Nat) : (vs.map Value.int).getD i (.int d) = .int (vs.getD i d) := by
  induction vs generalizing i with
  | nil => rfl
  | cons a t ih => cases i with
    | zero => rfl
    | succ i => simpa using ih i
theorem gdJ (vs : List Int64) (d : Int64) (i : Nat) : (vs.map Value.long).getD i (.long d) = .long (vs.getD i d) := by
  induction vs generalizing i with
  | nil => rfl
  | cons a t ih => cases i with
    | zero => rfl
    | succ i => simpa using ih i
end Own
end Jvm.RoadKit
namespace Jvm.Pilot.@@N@@
open Jvm Jvm.ClassFile Sem Op Lib Jvm.Free Jvm.Stand Jvm.LawKit Jvm.RoadKit Bundle Jvm.Pilot.@@N@@.Jvm.D
theorem own_at8 (o0 o1 o2 o3 o4 o5 o6 o7 : Int32) (i : Nat) : ([(.int o0), (.int o1), (.int o2), (.int o3), (.int o4), (.int o5), (.int o6), (.int o7)] : List Value).getD i (.int (0 : Int32)) = .int (([o0, o1, o2, o3, o4, o5, o6, o7] : List Int32).getD i (0 : Int32)) := gdI [o0, o1, o2, o3, o4, o5, o6, o7] 0 i
def own_minI (x y : Int32) : Int32 := if y < x then y else x
def own_maxI (x y : Int32) : Int32 := if x < y then y else x
theorem own_nlt_of {x y : Int32} (h : y.toInt ≤ x.toInt) : ¬ x < y := by rw [Int32.lt_iff_toInt_lt]; omega
theorem own_lt_of {x y : Int32} (h : x.toInt < y.toInt) : x < y := by rw [Int32.lt_iff_toInt_lt]; exact h
theorem own_eq_of {x y : Int32} (h : x.toInt = y.toInt) : x = y := Int32.toInt_inj.mp h
theorem own_ne_of {x y : Int32} (h : x.toInt ≠ y.toInt) : ¬ x = y := fun q => h (congrArg Int32.toInt q)
theorem own_eqL_of {x y : Int64} (h : x.toInt = y.toInt) : x = y := Int64.toInt_inj.mp h
theorem own_ixr (t : Int32) (q : Int64) (h : 0 ≤ t.toInt - q.toInt) (h' : t.toInt - q.toInt < 2147483648) : ((t.toInt64 - q).toInt32).toInt = t.toInt - q.toInt := by
  have a := c_lsub t.toInt64 q
  have b := c_l2i (t.toInt64 - q)
  have r := rng32 ((t.toInt64 - q).toInt32)
  rw [c_i2l] at a
  omega
theorem own_ixf (t : Int32) (q : Int64) (h : 0 ≤ t.toInt + q.toInt - 1) (h' : t.toInt + q.toInt - 1 < 2147483648) : (((t.toInt64 + q) - (1 : Int64)).toInt32).toInt = t.toInt + q.toInt - 1 := by
  have a := c_ladd t.toInt64 q
  have a2 := c_lsub (t.toInt64 + q) 1
  have b := c_l2i ((t.toInt64 + q) - 1)
  have r := rng32 (((t.toInt64 + q) - 1).toInt32)
  have z : (1 : Int64).toInt = 1 := rfl
  rw [c_i2l] at a
  omega
theorem own_posf (p : Int64) (s : Int32) (h : 0 < s.toInt) : 1 ≤ ((1 : Int64) + ((p &&& (9223372036854775807 : Int64)) % (s.toInt64))).toInt ∧ ((1 : Int64) + ((p &&& (9223372036854775807 : Int64)) % (s.toInt64))).toInt ≤ s.toInt := by
  have m := (c_andSL p 9223372036854775807).2.2 (by decide)
  have e : ((p &&& (9223372036854775807 : Int64)) % (s.toInt64)).toInt = (p &&& (9223372036854775807 : Int64)).toInt % s.toInt := by
    rw [← lrem_mod]; exact (c_lrem _ _ s.toInt (c_i2l s)).1 m
  have a := c_ladd 1 ((p &&& (9223372036854775807 : Int64)) % (s.toInt64))
  have r := rng64 ((1 : Int64) + ((p &&& (9223372036854775807 : Int64)) % (s.toInt64)))
  have rs := rng32 s
  have m1 := Int.emod_nonneg (p &&& (9223372036854775807 : Int64)).toInt (Int.ne_of_gt h)
  have m2 := Int.emod_lt_of_pos (p &&& (9223372036854775807 : Int64)).toInt h
  have z : (1 : Int64).toInt = 1 := rfl
  rw [e] at a
  generalize (p &&& (9223372036854775807 : Int64)).toInt % s.toInt = M at *
  omega
theorem own_minI_i (x y : Int32) : (own_minI x y).toInt = min x.toInt y.toInt := by
  rw [own_minI]
  split
  · rename_i h; rw [Int32.lt_iff_toInt_lt] at h; omega
  · rename_i h; rw [Int32.lt_iff_toInt_lt] at h; omega
theorem own_maxI_i (x y : Int32) : (own_maxI x y).toInt = max x.toInt y.toInt := by
  rw [own_maxI]
  split
  · rename_i h; rw [Int32.lt_iff_toInt_lt] at h; omega
  · rename_i h; rw [Int32.lt_iff_toInt_lt] at h; omega
def own_sk1 (s i : Int32) : Int32 := if s < i then i else (i + (-1 : Int32))
def own_sk2 (s u i : Int32) : Int32 := if u < i then i else if s < (i + (-1 : Int32)) then (i + (-1 : Int32)) else ((i + (-1 : Int32)) + (-1 : Int32))
theorem own_dec (i : Int32) (h : 0 ≤ i.toInt) : (i + (-1 : Int32)).toInt = i.toInt - 1 := by
  have a := c_iadd i (-1)
  have r := rng32 (i + (-1))
  have r' := rng32 i
  have z : (-1 : Int32).toInt = -1 := rfl
  omega
theorem own_sk1_i (s i : Int32) (h : 0 ≤ i.toInt) : (s.toInt < i.toInt ∧ (own_sk1 s i).toInt = i.toInt) ∨ (i.toInt ≤ s.toInt ∧ (own_sk1 s i).toInt = i.toInt - 1) := by
  rw [own_sk1]
  split
  · rename_i q; rw [Int32.lt_iff_toInt_lt] at q; omega
  · rename_i q; rw [Int32.lt_iff_toInt_lt] at q; rw [own_dec i h]; omega
theorem own_sk2_i (s u i : Int32) (h : 1 ≤ i.toInt) : (u.toInt < i.toInt ∧ (own_sk2 s u i).toInt = i.toInt) ∨ (i.toInt ≤ u.toInt ∧ s.toInt < i.toInt - 1 ∧ (own_sk2 s u i).toInt = i.toInt - 1) ∨ (i.toInt ≤ u.toInt ∧ i.toInt - 1 ≤ s.toInt ∧ (own_sk2 s u i).toInt = i.toInt - 2) := by
  have d := own_dec i (by omega)
  rw [own_sk2]
  split
  · rename_i q; rw [Int32.lt_iff_toInt_lt] at q; omega
  · rename_i q
    rw [Int32.lt_iff_toInt_lt] at q
    split
    · rename_i q2; rw [Int32.lt_iff_toInt_lt, d] at q2; omega
    · rename_i q2; rw [Int32.lt_iff_toInt_lt, d] at q2; rw [own_dec _ (by omega), d]; omega
theorem own_el (x n : Int32) (k : Int) (hn : n.toInt = k) (h0 : 0 ≤ k) (h1 : k ≤ 200) : k ≤ ((x &&& (15 : Int32)) + n).toInt ∧ ((x &&& (15 : Int32)) + n).toInt < k + 16 := by
  have m := c_mask x 15 4 (by decide) rfl
  have a := c_iadd (x &&& 15) n
  have r := rng32 ((x &&& 15) + n)
  omega
theorem own_ord (d j : Int32) (h0 : 0 ≤ j.toInt) (h8 : j.toInt < 8) : j.toInt * 16 ≤ (([(d &&& (15 : Int32)), ((((d.toUInt32 >>> ((4 : Int32) &&& 31).toUInt32).toInt32) &&& (15 : Int32)) + (16 : Int32)), ((((d.toUInt32 >>> ((8 : Int32) &&& 31).toUInt32).toInt32) &&& (15 : Int32)) + (32 : Int32)), ((((d.toUInt32 >>> ((12 : Int32) &&& 31).toUInt32).toInt32) &&& (15 : Int32)) + (48 : Int32)), ((((d.toUInt32 >>> ((16 : Int32) &&& 31).toUInt32).toInt32) &&& (15 : Int32)) + (64 : Int32)), ((((d.toUInt32 >>> ((20 : Int32) &&& 31).toUInt32).toInt32) &&& (15 : Int32)) + (80 : Int32)), ((((d.toUInt32 >>> ((24 : Int32) &&& 31).toUInt32).toInt32) &&& (15 : Int32)) + (96 : Int32)), ((((d.toUInt32 >>> ((28 : Int32) &&& 31).toUInt32).toInt32) &&& (15 : Int32)) + (112 : Int32))] : List Int32).getD j.toNatClampNeg (0 : Int32)).toInt ∧ (([(d &&& (15 : Int32)), ((((d.toUInt32 >>> ((4 : Int32) &&& 31).toUInt32).toInt32) &&& (15 : Int32)) + (16 : Int32)), ((((d.toUInt32 >>> ((8 : Int32) &&& 31).toUInt32).toInt32) &&& (15 : Int32)) + (32 : Int32)), ((((d.toUInt32 >>> ((12 : Int32) &&& 31).toUInt32).toInt32) &&& (15 : Int32)) + (48 : Int32)), ((((d.toUInt32 >>> ((16 : Int32) &&& 31).toUInt32).toInt32) &&& (15 : Int32)) + (64 : Int32)), ((((d.toUInt32 >>> ((20 : Int32) &&& 31).toUInt32).toInt32) &&& (15 : Int32)) + (80 : Int32)), ((((d.toUInt32 >>> ((24 : Int32) &&& 31).toUInt32).toInt32) &&& (15 : Int32)) + (96 : Int32)), ((((d.toUInt32 >>> ((28 : Int32) &&& 31).toUInt32).toInt32) &&& (15 : Int32)) + (112 : Int32))] : List Int32).getD j.toNatClampNeg (0 : Int32)).toInt < j.toInt * 16 + 16 := by
  have e : j.toInt = (j.toNatClampNeg : Int) := by simp only [Int32.toNatClampNeg]; omega
  rw [e]
  have hl : j.toNatClampNeg < 8 := by omega
  generalize j.toNatClampNeg = n at hl
  have m := c_mask d 15 4 (by decide) rfl
  match n, hl with
  | 0, _ => simp only [List.getD_cons_zero]; omega
  | 1, _ => exact own_el _ _ 16 rfl (by decide) (by decide)
  | 2, _ => exact own_el _ _ 32 rfl (by decide) (by decide)
  | 3, _ => exact own_el _ _ 48 rfl (by decide) (by decide)
  | 4, _ => exact own_el _ _ 64 rfl (by decide) (by decide)
  | 5, _ => exact own_el _ _ 80 rfl (by decide) (by decide)
  | 6, _ => exact own_el _ _ 96 rfl (by decide) (by decide)
  | 7, _ => exact own_el _ _ 112 rfl (by decide) (by decide)
theorem d1_0 : decode jdk_29_method_69_code 0 = .ok (.iload_n 0, 1) := by decide +kernel
theorem d1_1 : decode jdk_29_method_69_code 1 = .ok (.iload_n 1, 1) := by decide +kernel
theorem d1_2 : decode jdk_29_method_69_code 2 = .ok (.if_icmp .gt 7, 3) := by decide +kernel
theorem d1_9 : decode jdk_29_method_69_code 9 = .ok (.iload_n 1, 1) := by decide +kernel
theorem d1_10 : decode jdk_29_method_69_code 10 = .ok (.ireturn, 1) := by decide +kernel
theorem d1_5 : decode jdk_29_method_69_code 5 = .ok (.iload_n 0, 1) := by decide +kernel
theorem d1_6 : decode jdk_29_method_69_code 6 = .ok (.goto 4, 3) := by decide +kernel
def RM1 : Room := { frames := 0, cells := 0, slots := 0, locals := 0 }
def Q1 (Z : State) (p1 : Int32) (p2 : Int32) (h0 : Heap) (n0 : Nat) (v : Option Value) (h : Heap) (L : List Loc) : Prop := v = some (.int (own_minI p1 p2)) ∧ Fr n0 L ∧ h = h0
set_option maxRecDepth 65536 in
set_option maxHeartbeats 40000000 in
theorem rm1 (l : Launch) (Z : State) (a0 : Array Value) (hw : ∀ d ∈ tables_1, d.before a0 Z = true) (ws : List Jvm.Cond) (p1 : Int32) (p2 : Int32) (h0 : Heap) (n0 : Nat) (Z0 : n0 ≤ h0.size)  :
    MetFree l (⟨"java/lang/Math", "min", "(II)I"⟩ : MethodName) (head1 (Jvm.Cond.code (⟨"java/lang/Math", "min", "(II)I"⟩ : MethodName) jdk_29_method_69_code 2 (some .int) :: ws) RM1) (fun a U => a = #[(.int p1), (.int p2)] ∧ Z.Warmed39 U.vm ∧ U.heap = h0) (fun _ _ _ _ _ => True) (fun _ U o U' => ∃ v L, o = .returned v ∧ Q1 Z p1 p2 h0 n0 v U'.heap L ∧ FrameEnd U o U' L RM1.cells RM1.slots) := by
  refine met_of (Q := fun v h L => Q1 Z p1 p2 h0 n0 v h L) (Jvm.Free.JP.mathPlain rfl (by decide +kernel)) (fun m => by first | (simp [entryFrame, mkF, argsToLocals, Value.category]; done) | rfl) (Ls := #[.val (.int p1), .val (.int p2)]) ?_
  intro p e s m below meth c T0 QQ hx hZ hby hml hown hnm hret hlk X0 e0 hQ
  have hml : c.maxLocals = 2 := hml
  have hown : s.vm.findClass "java/lang/Math" = some m.cls := hown
  have hnm : meth.name = "min" := hnm
  have hret : meth.sig.returnType = some .int := hret
  have N0 := Fr.nil n0
  have K0 : Keep h0 h0 [] := Keep.refl h0 _
  show GoW p e below QQ (T0.setTop (mkF m 0 #[.val (.int p1), .val (.int p2)] []))
  refine GoW.st (fun t k => XS.iloadN X0.here hx rfl (hb hby d1_0) rfl (XS.iloadN X0.here hx rfl (hb hby d1_1) rfl k)) ?_
  show GoW p e below QQ (T0.setTop (mkF m 2 #[.val (.int p1), .val (.int p2)] [(.int p2), (.int p1)]))
  by_cases hc2 : p2 < p1
  · skip
    refine GoW.st (fun t k => XS.icmpYes X0.here hx rfl (pc0 := 2) (pc' := 9) rfl (hb hby d1_2) rfl (tlt hc2).2.2.1 (by decide) (by decide) (XS.iloadN X0.here hx rfl (hb hby d1_9) rfl k)) ?_
    show GoW p e below QQ (T0.setTop (mkF m 10 #[.val (.int p1), .val (.int p2)] [(.int p2)]))
    have rv : ((some (.int p2)) : Option Value) = some (.int (own_minI p1 p2)) := by
      rw [own_minI, if_pos hc2]
      all_goals first | rfl | (simp; done)
    exact GoW.fin X0 (some (.int p2)) (fun q => by rw [hret] at q; cases q) hlk hQ e0 ⟨rv, N0, rfl⟩ (by decide) (by decide) (fun fs hr => retI X0 hx hret (hb hby d1_10) hr)
  · skip
    refine GoW.st (fun t k => XS.icmpNo X0.here hx rfl (hb hby d1_2) rfl (flt hc2).2.2.1 (XS.iloadN X0.here hx rfl (hb hby d1_5) rfl (XS.goto X0.here hx rfl (pc0 := 6) (pc' := 10) rfl (hb hby d1_6) (by decide) (by decide) k))) ?_
    show GoW p e below QQ (T0.setTop (mkF m 10 #[.val (.int p1), .val (.int p2)] [(.int p1)]))
    have rv : ((some (.int p1)) : Option Value) = some (.int (own_minI p1 p2)) := by
      rw [own_minI, if_neg hc2]
      all_goals first | rfl | (simp; done)
    exact GoW.fin X0 (some (.int p1)) (fun q => by rw [hret] at q; cases q) hlk hQ e0 ⟨rv, N0, rfl⟩ (by decide) (by decide) (fun fs hr => retI X0 hx hret (hb hby d1_10) hr)
theorem d6_0 : decode jdk_29_method_65_code 0 = .ok (.iload_n 0, 1) := by decide +kernel
theorem d6_1 : decode jdk_29_method_65_code 1 = .ok (.iload_n 1, 1) := by decide +kernel
theorem d6_2 : decode jdk_29_method_65_code 2 = .ok (.if_icmp .lt 7, 3) := by decide +kernel
theorem d6_9 : decode jdk_29_method_65_code 9 = .ok (.iload_n 1, 1) := by decide +kernel
theorem d6_10 : decode jdk_29_method_65_code 10 = .ok (.ireturn, 1) := by decide +kernel
theorem d6_5 : decode jdk_29_method_65_code 5 = .ok (.iload_n 0, 1) := by decide +kernel
theorem d6_6 : decode jdk_29_method_65_code 6 = .ok (.goto 4, 3) := by decide +kernel
def RM6 : Room := { frames := 0, cells := 0, slots := 0, locals := 0 }
def Q6 (Z : State) (p1 : Int32) (p2 : Int32) (h0 : Heap) (n0 : Nat) (v : Option Value) (h : Heap) (L : List Loc) : Prop := v = some (.int (own_maxI p1 p2)) ∧ Fr n0 L ∧ h = h0
set_option maxRecDepth 65536 in
set_option maxHeartbeats 40000000 in
theorem rm6 (l : Launch) (Z : State) (a0 : Array Value) (hw : ∀ d ∈ tables_1, d.before a0 Z = true) (ws : List Jvm.Cond) (p1 : Int32) (p2 : Int32) (h0 : Heap) (n0 : Nat) (Z0 : n0 ≤ h0.size)  :
    MetFree l (⟨"java/lang/Math", "max", "(II)I"⟩ : MethodName) (head1 (Jvm.Cond.code (⟨"java/lang/Math", "max", "(II)I"⟩ : MethodName) jdk_29_method_65_code 2 (some .int) :: ws) RM6) (fun a U => a = #[(.int p1), (.int p2)] ∧ Z.Warmed39 U.vm ∧ U.heap = h0) (fun _ _ _ _ _ => True) (fun _ U o U' => ∃ v L, o = .returned v ∧ Q6 Z p1 p2 h0 n0 v U'.heap L ∧ FrameEnd U o U' L RM6.cells RM6.slots) := by
  refine met_of (Q := fun v h L => Q6 Z p1 p2 h0 n0 v h L) (Jvm.Free.JP.mathPlain rfl (by decide +kernel)) (fun m => by first | (simp [entryFrame, mkF, argsToLocals, Value.category]; done) | rfl) (Ls := #[.val (.int p1), .val (.int p2)]) ?_
  intro p e s m below meth c T0 QQ hx hZ hby hml hown hnm hret hlk X0 e0 hQ
  have hml : c.maxLocals = 2 := hml
  have hown : s.vm.findClass "java/lang/Math" = some m.cls := hown
  have hnm : meth.name = "max" := hnm
  have hret : meth.sig.returnType = some .int := hret
  have N0 := Fr.nil n0
  have K0 : Keep h0 h0 [] := Keep.refl h0 _
  show GoW p e below QQ (T0.setTop (mkF m 0 #[.val (.int p1), .val (.int p2)] []))
  refine GoW.st (fun t k => XS.iloadN X0.here hx rfl (hb hby d6_0) rfl (XS.iloadN X0.here hx rfl (hb hby d6_1) rfl k)) ?_
  show GoW p e below QQ (T0.setTop (mkF m 2 #[.val (.int p1), .val (.int p2)] [(.int p2), (.int p1)]))
  by_cases hc2 : p1 < p2
  · skip
    refine GoW.st (fun t k => XS.icmpYes X0.here hx rfl (pc0 := 2) (pc' := 9) rfl (hb hby d6_2) rfl (tlt hc2).1 (by decide) (by decide) (XS.iloadN X0.here hx rfl (hb hby d6_9) rfl k)) ?_
    show GoW p e below QQ (T0.setTop (mkF m 10 #[.val (.int p1), .val (.int p2)] [(.int p2)]))
    have rv : ((some (.int p2)) : Option Value) = some (.int (own_maxI p1 p2)) := by
      rw [own_maxI, if_pos hc2]
      all_goals first | rfl | (simp; done)
    exact GoW.fin X0 (some (.int p2)) (fun q => by rw [hret] at q; cases q) hlk hQ e0 ⟨rv, N0, rfl⟩ (by decide) (by decide) (fun fs hr => retI X0 hx hret (hb hby d6_10) hr)
  · skip
    refine GoW.st (fun t k => XS.icmpNo X0.here hx rfl (hb hby d6_2) rfl (flt hc2).1 (XS.iloadN X0.here hx rfl (hb hby d6_5) rfl (XS.goto X0.here hx rfl (pc0 := 6) (pc' := 10) rfl (hb hby d6_6) (by decide) (by decide) k))) ?_
    show GoW p e below QQ (T0.setTop (mkF m 10 #[.val (.int p1), .val (.int p2)] [(.int p1)]))
    have rv : ((some (.int p1)) : Option Value) = some (.int (own_maxI p1 p2)) := by
      rw [own_maxI, if_neg hc2]
      all_goals first | rfl | (simp; done)
    exact GoW.fin X0 (some (.int p1)) (fun q => by rw [hret] at q; cases q) hlk hQ e0 ⟨rv, N0, rfl⟩ (by decide) (by decide) (fun fs hr => retI X0 hx hret (hb hby d6_10) hr)
theorem pn_0 : plainName "java/lang/Record" = true := by first | (simp [plainName, overriddenIn]; done) | decide +kernel
theorem d3_0 : decode jdk_30_method_1_code 0 = .ok (.aload_n 0, 1) := by decide +kernel
theorem d3_1 : decode jdk_30_method_1_code 1 = .ok (.invokespecial 1, 3) := by decide +kernel
theorem d3_4 : decode jdk_30_method_1_code 4 = .ok (.return_, 1) := by decide +kernel
def RM3 : Room := { frames := 1, cells := 0, slots := 0, locals := 12 }
def Q3 (Z : State) (a1 : Addr) (h0 : Heap) (n0 : Nat) (v : Option Value) (h : Heap) (L : List Loc) : Prop := v = none ∧ Fr n0 L ∧ h = h0
set_option maxRecDepth 65536 in
set_option maxHeartbeats 40000000 in
theorem rm3 (l : Launch) (Z : State) (a0 : Array Value) (hw : ∀ d ∈ tables_1, d.before a0 Z = true) (ws : List Jvm.Cond) (a1 : Addr) (h0 : Heap) (n0 : Nat) (Z0 : n0 ≤ h0.size)  :
    MetFree l (⟨"java/lang/Record", "<init>", "()V"⟩ : MethodName) (head1 (Jvm.Cond.code (⟨"java/lang/Record", "<init>", "()V"⟩ : MethodName) jdk_30_method_1_code 1 none :: ws) RM3) (fun a U => a = #[(.ref a1)] ∧ Z.Warmed39 U.vm ∧ U.heap = h0) (fun _ _ _ _ _ => True) (fun _ U o U' => ∃ v L, o = .returned v ∧ Q3 Z a1 h0 n0 v U'.heap L ∧ FrameEnd U o U' L RM3.cells RM3.slots) := by
  refine met_of (Q := fun v h L => Q3 Z a1 h0 n0 v h L) (plainFor_of_name pn_0) (fun m => by first | (simp [entryFrame, mkF, argsToLocals, Value.category]; done) | rfl) (Ls := #[.val (.ref a1)]) ?_
  intro p e s m below meth c T0 QQ hx hZ hby hml hown hnm hret hlk X0 e0 hQ
  have hml : c.maxLocals = 1 := hml
  have hown : s.vm.findClass "java/lang/Record" = some m.cls := hown
  have hnm : meth.name = "<init>" := hnm
  have hret : meth.sig.returnType = none := hret
  have N0 := Fr.nil n0
  have K0 : Keep h0 h0 [] := Keep.refl h0 _
  show GoW p e below QQ (T0.setTop (mkF m 0 #[.val (.ref a1)] []))
  refine GoW.st (fun t k => XS.aloadN X0.here hx rfl (hb hby d3_0) rfl rfl k) ?_
  show GoW p e below QQ (T0.setTop (mkF m 1 #[.val (.ref a1)] [(.ref a1)]))
  obtain ⟨T1, X1, e1, st1⟩ := initO X0 hx hZ hown (hw _ (List.mem_of_getElem? (i := 18) rfl)) (hw _ (List.mem_of_getElem? (i := 19) rfl)) (hw _ (List.mem_of_getElem? (i := 20) rfl)) e0 (g := (mkF m 1 #[.val (.ref a1)] [(.ref a1)])) rfl (by rw [hml]; rfl) rfl (hb hby d3_1) (by decide) (W := 0) (by show 2 * 0 + _ ≤ _; exact Nat.le_of_eq rfl) (by decide)
  refine GoW.st st1 ?_
  show GoW p e below QQ (T1.setTop (mkF m 4 #[.val (.ref a1)] []))
  exact GoW.fin X1 none (fun _ => rfl) hlk hQ e1 ⟨rfl, N0, rfl⟩ (by decide) (by decide) (fun fs hr => X1.returnOut hx hret (hb hby d3_4) hr)
theorem pn_1 : plainName "com/example/hike/hike/Proximity$Group" = true := by first | (simp [plainName, overriddenIn]; done) | decide +kernel
theorem d2_0 : decode prog_102_method_1_code 0 = .ok (.aload_n 0, 1) := by decide +kernel
theorem d2_1 : decode prog_102_method_1_code 1 = .ok (.invokespecial 1, 3) := by decide +kernel
theorem pd_0 : parseMethodDescriptor "()V" = some ⟨[], none⟩ := by decide +kernel
theorem d2_4 : decode prog_102_method_1_code 4 = .ok (.aload_n 0, 1) := by decide +kernel
theorem d2_5 : decode prog_102_method_1_code 5 = .ok (.iload_n 1, 1) := by decide +kernel
theorem d2_6 : decode prog_102_method_1_code 6 = .ok (.putfield 7, 3) := by decide +kernel
theorem d2_9 : decode prog_102_method_1_code 9 = .ok (.aload_n 0, 1) := by decide +kernel
theorem d2_10 : decode prog_102_method_1_code 10 = .ok (.aload_n 2, 1) := by decide +kernel
theorem d2_11 : decode prog_102_method_1_code 11 = .ok (.putfield 13, 3) := by decide +kernel
theorem d2_14 : decode prog_102_method_1_code 14 = .ok (.aload_n 0, 1) := by decide +kernel
theorem d2_15 : decode prog_102_method_1_code 15 = .ok (.iload_n 3, 1) := by decide +kernel
theorem d2_16 : decode prog_102_method_1_code 16 = .ok (.putfield 17, 3) := by decide +kernel
theorem d2_19 : decode prog_102_method_1_code 19 = .ok (.aload_n 0, 1) := by decide +kernel
theorem d2_20 : decode prog_102_method_1_code 20 = .ok (.iload 4, 2) := by decide +kernel
theorem d2_22 : decode prog_102_method_1_code 22 = .ok (.putfield 20, 3) := by decide +kernel
theorem d2_25 : decode prog_102_method_1_code 25 = .ok (.aload_n 0, 1) := by decide +kernel
theorem d2_26 : decode prog_102_method_1_code 26 = .ok (.iload 5, 2) := by decide +kernel
theorem d2_28 : decode prog_102_method_1_code 28 = .ok (.putfield 23, 3) := by decide +kernel
theorem d2_31 : decode prog_102_method_1_code 31 = .ok (.aload_n 0, 1) := by decide +kernel
theorem d2_32 : decode prog_102_method_1_code 32 = .ok (.aload 6, 2) := by decide +kernel
theorem d2_34 : decode prog_102_method_1_code 34 = .ok (.putfield 27, 3) := by decide +kernel
theorem d2_37 : decode prog_102_method_1_code 37 = .ok (.return_, 1) := by decide +kernel
def RM2_o0 : Room := { frames := 2, cells := 0, slots := 0, locals := 24 }
def Q2_o0 (Z : State) (a1 : Addr) (p1 : Int32) (a2 : Addr) (p3 : Int32) (p4 : Int32) (h0 : Heap) (n0 : Nat) (v : Option Value) (h : Heap) (L : List Loc) : Prop := v = none ∧ Fr n0 L ∧ Keep h0 h [a1] ∧ (Exa Z h a1 "com/example/hike/hike/Proximity$Group") ∧ (Fld Z h a1 "com/example/hike/hike/Proximity$Group" "order" "[I" (.ref a2)) ∧ (Fld Z h a1 "com/example/hike/hike/Proximity$Group" "from" "I" (.int p3)) ∧ (Fld Z h a1 "com/example/hike/hike/Proximity$Group" "to" "I" (.int p4)) ∧ (Fld Z h a1 "com/example/hike/hike/Proximity$Group" "reverse" "Z" (.int (0 : Int32))) ∧ (Fld Z h a1 "com/example/hike/hike/Proximity$Group" "skipped" "[I" .null)
set_option maxRecDepth 65536 in
set_option maxHeartbeats 40000000 in
theorem rm2_o0 (l : Launch) (Z : State) (a0 : Array Value) (hw : ∀ d ∈ tables_1, d.before a0 Z = true) (ws : List Jvm.Cond) (a1 : Addr) (p1 : Int32) (a2 : Addr) (p3 : Int32) (p4 : Int32) (h0 : Heap) (n0 : Nat) (Z0 : n0 ≤ h0.size) (pre_E_a1 : Exa Z h0 a1 "com/example/hike/hike/Proximity$Group") (pre_g_a1 : n0 ≤ a1) (pre_F_a1_context : Fld Z h0 a1 "com/example/hike/hike/Proximity$Group" "context" "I" (.int (0 : Int32))) (pre_F_a1_order : Fld Z h0 a1 "com/example/hike/hike/Proximity$Group" "order" "[I" .null) (pre_F_a1_from : Fld Z h0 a1 "com/example/hike/hike/Proximity$Group" "from" "I" (.int (0 : Int32))) (pre_F_a1_to : Fld Z h0 a1 "com/example/hike/hike/Proximity$Group" "to" "I" (.int (0 : Int32))) (pre_F_a1_reverse : Fld Z h0 a1 "com/example/hike/hike/Proximity$Group" "reverse" "Z" (.int (0 : Int32))) (pre_F_a1_skipped : Fld Z h0 a1 "com/example/hike/hike/Proximity$Group" "skipped" "[I" .null) :
    MetFree l (⟨"com/example/hike/hike/Proximity$Group", "<init>", "(I[IIIZ[I)V"⟩ : MethodName) (head1 (Jvm.Cond.code (⟨"com/example/hike/hike/Proximity$Group", "<init>", "(I[IIIZ[I)V"⟩ : MethodName) prog_102_method_1_code 7 none :: ws) RM2_o0) (fun a U => a = #[(.ref a1), (.int p1), (.ref a2), (.int p3), (.int p4), (.int (0 : Int32)), .null] ∧ Z.Warmed39 U.vm ∧ U.heap = h0) (fun _ _ _ _ _ => True) (fun _ U o U' => ∃ v L, o = .returned v ∧ Q2_o0 Z a1 p1 a2 p3 p4 h0 n0 v U'.heap L ∧ FrameEnd U o U' L RM2_o0.cells RM2_o0.slots) := by
  refine met_of (Q := fun v h L => Q2_o0 Z a1 p1 a2 p3 p4 h0 n0 v h L) (plainFor_of_name pn_1) (fun m => by first | (simp [entryFrame, mkF, argsToLocals, Value.category]; done) | rfl) (Ls := #[.val (.ref a1), .val (.int p1), .val (.ref a2), .val (.int p3), .val (.int p4), .val (.int (0 : Int32)), .val .null]) ?_
  intro p e s m below meth c T0 QQ hx hZ hby hml hown hnm hret hlk X0 e0 hQ
  have hml : c.maxLocals = 7 := hml
  have hown : s.vm.findClass "com/example/hike/hike/Proximity$Group" = some m.cls := hown
  have hnm : meth.name = "<init>" := hnm
  have hret : meth.sig.returnType = none := hret
  have N0 := Fr.nil n0
  have K0 : Keep h0 h0 [a1] := Keep.refl h0 _
  show GoW p e below QQ (T0.setTop (mkF m 0 #[.val (.ref a1), .val (.int p1), .val (.ref a2), .val (.int p3), .val (.int p4), .val (.int (0 : Int32)), .val .null] []))
  refine GoW.st (fun t k => XS.aloadN X0.here hx rfl (hb hby d2_0) rfl rfl k) ?_
  show GoW p e below QQ (T0.setTop (mkF m 1 #[.val (.ref a1), .val (.int p1), .val (.ref a2), .val (.int p3), .val (.int p4), .val (.int (0 : Int32)), .val .null] [(.ref a1)]))
  obtain ⟨_, _, ⟨T1, zL1, zk1, zn1⟩, -, X1, ⟨Lc1, hQ1, zl1, zy1, zz1⟩, st1⟩ := X0.specialBack hx (y := (⟨"java/lang/Record", "<init>", "()V"⟩ : MethodName)) rfl hown (mvT hZ (hw _ (List.mem_of_getElem? (i := 13) rfl))) (mvT hZ (hw _ (List.mem_of_getElem? (i := 14) rfl))) (mvT hZ (hw _ (List.mem_of_getElem? (i := 17) rfl))) (by decide) (backOf (W := 0) (rm3 l Z a0 hw [] a1 h0 n0 (Nat.le_trans Z0 K0.1) ) hZ (hw _ (List.mem_of_getElem? (i := 17) rfl)) (hw _ (List.mem_of_getElem? (i := 16) rfl)) (by decide) (by decide)) (g := (mkF m 1 #[.val (.ref a1), .val (.int p1), .val (.ref a2), .val (.int p3), .val (.int p4), .val (.int (0 : Int32)), .val .null] [(.ref a1)])) rfl (by rw [hml]; rfl) (Steps.refl _) (a := a1) (argsL := []) (rest := []) (lenOf pd_0 rfl) rfl (by show 2 * 0 + _ ≤ _; exact Nat.le_of_eq rfl) (hb hby d2_1) (fun _ _ => ⟨rfl, e0, (by decide : 0 + 0 ≤ _), (by decide : 0 + 0 ≤ _)⟩)
  dsimp only [Pt.U, Pt.locs, Pt.cells, Pt.slots] at X1 zl1 zy1 zz1 st1 hQ1
  subst zl1 zy1 zz1
  obtain ⟨rfl, Nq1, hh1⟩ := hQ1
  have N1 := Fr.app N0 Nq1
  refine GoW.st (fun t k => st1.trans k) ?_
  show GoW p e below QQ (T1.setTop (mkF m 4 #[.val (.ref a1), .val (.int p1), .val (.ref a2), .val (.int p3), .val (.int p4), .val (.int (0 : Int32)), .val .null] []))
  refine GoW.st (fun t k => XS.aloadN X1.here hx rfl (hb hby d2_4) rfl rfl (XS.iloadN X1.here hx rfl (hb hby d2_5) rfl k)) ?_
  show GoW p e below QQ (T1.setTop (mkF m 6 #[.val (.ref a1), .val (.int p1), .val (.ref a2), .val (.int p3), .val (.int p4), .val (.int (0 : Int32)), .val .null] [(.int p1), (.ref a1)]))
  obtain ⟨T2, h2, X2, e2, W2, st2⟩ := putF X1 hx hZ hown (host := "") (Or.inl (hw _ (List.mem_of_getElem? (i := 21) rfl))) Via.refl hh1 pre_F_a1_context pre_E_a1 (Or.inr ⟨(hw _ (List.mem_of_getElem? (i := 22) rfl)), rfl, hnm⟩) (hw _ (List.mem_of_getElem? (i := 8) rfl)) (ty := .int) (by decide) rfl rfl (g := (mkF m 6 #[.val (.ref a1), .val (.int p1), .val (.ref a2), .val (.int p3), .val (.int p4), .val (.int (0 : Int32)), .val .null] [(.int p1), (.ref a1)])) rfl rfl (hb hby d2_6)
  refine GoW.st st2 ?_
  have f3_E_a1 : Exa Z h2 a1 "com/example/hike/hike/Proximity$Group" := pre_E_a1.wr W2
  have f3_F_a1_context : Fld Z h2 a1 "com/example/hike/hike/Proximity$Group" "context" "I" (.int p1) := pre_F_a1_context.same W2
  have f3_F_a1_order : Fld Z h2 a1 "com/example/hike/hike/Proximity$Group" "order" "[I" .null := pre_F_a1_order.other W2 (Or.inr (slot_ne (Or.inr (hw _ (List.mem_of_getElem? (i := 24) rfl))) (Or.inr (hw _ (List.mem_of_getElem? (i := 22) rfl))) (by decide) (t := (.array .int)) (t' := .int) (by decide) (by decide)))
  have f3_F_a1_from : Fld Z h2 a1 "com/example/hike/hike/Proximity$Group" "from" "I" (.int (0 : Int32)) := pre_F_a1_from.other W2 (Or.inr (slot_ne (Or.inr (hw _ (List.mem_of_getElem? (i := 26) rfl))) (Or.inr (hw _ (List.mem_of_getElem? (i := 22) rfl))) (by decide) (t := .int) (t' := .int) (by decide) (by decide)))
  have f3_F_a1_to : Fld Z h2 a1 "com/example/hike/hike/Proximity$Group" "to" "I" (.int (0 : Int32)) := pre_F_a1_to.other W2 (Or.inr (slot_ne (Or.inr (hw _ (List.mem_of_getElem? (i := 28) rfl))) (Or.inr (hw _ (List.mem_of_getElem? (i := 22) rfl))) (by decide) (t := .int) (t' := .int) (by decide) (by decide)))
  have f3_F_a1_reverse : Fld Z h2 a1 "com/example/hike/hike/Proximity$Group" "reverse" "Z" (.int (0 : Int32)) := pre_F_a1_reverse.other W2 (Or.inr (slot_ne (Or.inr (hw _ (List.mem_of_getElem? (i := 30) rfl))) (Or.inr (hw _ (List.mem_of_getElem? (i := 22) rfl))) (by decide) (t := .boolean) (t' := .int) (by decide) (by decide)))
  have f3_F_a1_skipped : Fld Z h2 a1 "com/example/hike/hike/Proximity$Group" "skipped" "[I" .null := pre_F_a1_skipped.other W2 (Or.inr (slot_ne (Or.inr (hw _ (List.mem_of_getElem? (i := 32) rfl))) (Or.inr (hw _ (List.mem_of_getElem? (i := 22) rfl))) (by decide) (t := (.array .int)) (t' := .int) (by decide) (by decide)))
  have K2 : Keep h0 h2 [a1] := K0.wr W2 (Or.inl (List.mem_of_getElem? (i := 0) rfl))
  have N2 := Fr.snoc X2 N1 pre_g_a1
  show GoW p e below QQ (T2.setTop (mkF m 9 #[.val (.ref a1), .val (.int p1), .val (.ref a2), .val (.int p3), .val (.int p4), .val (.int (0 : Int32)), .val .null] []))
  refine GoW.st (fun t k => XS.aloadN X2.here hx rfl (hb hby d2_9) rfl rfl (XS.aloadN X2.here hx rfl (hb hby d2_10) rfl rfl k)) ?_
  show GoW p e below QQ (T2.setTop (mkF m 11 #[.val (.ref a1), .val (.int p1), .val (.ref a2), .val (.int p3), .val (.int p4), .val (.int (0 : Int32)), .val .null] [(.ref a2), (.ref a1)]))
  obtain ⟨T4, h4, X4, e4, W4, st4⟩ := putF X2 hx hZ hown (host := "") (Or.inl (hw _ (List.mem_of_getElem? (i := 23) rfl))) Via.refl e2 f3_F_a1_order f3_E_a1 (Or.inr ⟨(hw _ (List.mem_of_getElem? (i := 24) rfl)), rfl, hnm⟩) (hw _ (List.mem_of_getElem? (i := 8) rfl)) (ty := (.array .int)) (by decide) rfl rfl (g := (mkF m 11 #[.val (.ref a1), .val (.int p1), .val (.ref a2), .val (.int p3), .val (.int p4), .val (.int (0 : Int32)), .val .null] [(.ref a2), (.ref a1)])) rfl rfl (hb hby d2_11)
  refine GoW.st st4 ?_
  have f5_E_a1 : Exa Z h4 a1 "com/example/hike/hike/Proximity$Group" := f3_E_a1.wr W4
  have f5_F_a1_context : Fld Z h4 a1 "com/example/hike/hike/Proximity$Group" "context" "I" (.int p1) := f3_F_a1_context.other W4 (Or.inr (slot_ne (Or.inr (hw _ (List.mem_of_getElem? (i := 22) rfl))) (Or.inr (hw _ (List.mem_of_getElem? (i := 24) rfl))) (by decide) (t := .int) (t' := (.array .int)) (by decide) (by decide)))
  have f5_F_a1_order : Fld Z h4 a1 "com/example/hike/hike/Proximity$Group" "order" "[I" (.ref a2) := f3_F_a1_order.same W4
  have f5_F_a1_from : Fld Z h4 a1 "com/example/hike/hike/Proximity$Group" "from" "I" (.int (0 : Int32)) := f3_F_a1_from.other W4 (Or.inr (slot_ne (Or.inr (hw _ (List.mem_of_getElem? (i := 26) rfl))) (Or.inr (hw _ (List.mem_of_getElem? (i := 24) rfl))) (by decide) (t := .int) (t' := (.array .int)) (by decide) (by decide)))
  have f5_F_a1_to : Fld Z h4 a1 "com/example/hike/hike/Proximity$Group" "to" "I" (.int (0 : Int32)) := f3_F_a1_to.other W4 (Or.inr (slot_ne (Or.inr (hw _ (List.mem_of_getElem? (i := 28) rfl))) (Or.inr (hw _ (List.mem_of_getElem? (i := 24) rfl))) (by decide) (t := .int) (t' := (.array .int)) (by decide) (by decide)))
  have f5_F_a1_reverse : Fld Z h4 a1 "com/example/hike/hike/Proximity$Group" "reverse" "Z" (.int (0 : Int32)) := f3_F_a1_reverse.other W4 (Or.inr (slot_ne (Or.inr (hw _ (List.mem_of_getElem? (i := 30) rfl))) (Or.inr (hw _ (List.mem_of_getElem? (i := 24) rfl))) (by decide) (t := .boolean) (t' := (.array .int)) (by decide) (by decide)))
  have f5_F_a1_skipped : Fld Z h4 a1 "com/example/hike/hike/Proximity$Group" "skipped" "[I" .null := f3_F_a1_skipped.other W4 (Or.inr (slot_ne (Or.inr (hw _ (List.mem_of_getElem? (i := 32) rfl))) (Or.inr (hw _ (List.mem_of_getElem? (i := 24) rfl))) (by decide) (t := (.array .int)) (t' := (.array .int)) (by decide) (by decide)))
  have K4 : Keep h0 h4 [a1] := K2.wr W4 (Or.inl (List.mem_of_getElem? (i := 0) rfl))
  have N4 := Fr.snoc X4 N2 pre_g_a1
  show GoW p e below QQ (T4.setTop (mkF m 14 #[.val (.ref a1), .val (.int p1), .val (.ref a2), .val (.int p3), .val (.int p4), .val (.int (0 : Int32)), .val .null] []))
  refine GoW.st (fun t k => XS.aloadN X4.here hx rfl (hb hby d2_14) rfl rfl (XS.iloadN X4.here hx rfl (hb hby d2_15) rfl k)) ?_
  show GoW p e below QQ (T4.setTop (mkF m 16 #[.val (.ref a1), .val (.int p1), .val (.ref a2), .val (.int p3), .val (.int p4), .val (.int (0 : Int32)), .val .null] [(.int p3), (.ref a1)]))
  obtain ⟨T6, h6, X6, e6, W6, st6⟩ := putF X4 hx hZ hown (host := "") (Or.inl (hw _ (List.mem_of_getElem? (i := 25) rfl))) Via.refl e4 f5_F_a1_from f5_E_a1 (Or.inr ⟨(hw _ (List.mem_of_getElem? (i := 26) rfl)), rfl, hnm⟩) (hw _ (List.mem_of_getElem? (i := 8) rfl)) (ty := .int) (by decide) rfl rfl (g := (mkF m 16 #[.val (.ref a1), .val (.int p1), .val (.ref a2), .val (.int p3), .val (.int p4), .val (.int (0 : Int32)), .val .null] [(.int p3), (.ref a1)])) rfl rfl (hb hby d2_16)
  refine GoW.st st6 ?_
  have f7_E_a1 : Exa Z h6 a1 "com/example/hike/hike/Proximity$Group" := f5_E_a1.wr W6
  have f7_F_a1_context : Fld Z h6 a1 "com/example/hike/hike/Proximity$Group" "context" "I" (.int p1) := f5_F_a1_context.other W6 (Or.inr (slot_ne (Or.inr (hw _ (List.mem_of_getElem? (i := 22) rfl))) (Or.inr (hw _ (List.mem_of_getElem? (i := 26) rfl))) (by decide) (t := .int) (t' := .int) (by decide) (by decide)))
  have f7_F_a1_order : Fld Z h6 a1 "com/example/hike/hike/Proximity$Group" "order" "[I" (.ref a2) := f5_F_a1_order.other W6 (Or.inr (slot_ne (Or.inr (hw _ (List.mem_of_getElem? (i := 24) rfl))) (Or.inr (hw _ (List.mem_of_getElem? (i := 26) rfl))) (by decide) (t := (.array .int)) (t' := .int) (by decide) (by decide)))
  have f7_F_a1_from : Fld Z h6 a1 "com/example/hike/hike/Proximity$Group" "from" "I" (.int p3) := f5_F_a1_from.same W6
  have f7_F_a1_to : Fld Z h6 a1 "com/example/hike/hike/Proximity$Group" "to" "I" (.int (0 : Int32)) := f5_F_a1_to.other W6 (Or.inr (slot_ne (Or.inr (hw _ (List.mem_of_getElem? (i := 28) rfl))) (Or.inr (hw _ (List.mem_of_getElem? (i := 26) rfl))) (by decide) (t := .int) (t' := .int) (by decide) (by decide)))
  have f7_F_a1_reverse : Fld Z h6 a1 "com/example/hike/hike/Proximity$Group" "reverse" "Z" (.int (0 : Int32)) := f5_F_a1_reverse.other W6 (Or.inr (slot_ne (Or.inr (hw _ (List.mem_of_getElem? (i := 30) rfl))) (Or.inr (hw _ (List.mem_of_getElem? (i := 26) rfl))) (by decide) (t := .boolean) (t' := .int) (by decide) (by decide)))
  have f7_F_a1_skipped : Fld Z h6 a1 "com/example/hike/hike/Proximity$Group" "skipped" "[I" .null := f5_F_a1_skipped.other W6 (Or.inr (slot_ne (Or.inr (hw _ (List.mem_of_getElem? (i := 32) rfl))) (Or.inr (hw _ (List.mem_of_getElem? (i := 26) rfl))) (by decide) (t := (.array .int)) (t' := .int) (by decide) (by decide)))
  have K6 : Keep h0 h6 [a1] := K4.wr W6 (Or.inl (List.mem_of_getElem? (i := 0) rfl))
  have N6 := Fr.snoc X6 N4 pre_g_a1
  show GoW p e below QQ (T6.setTop (mkF m 19 #[.val (.ref a1), .val (.int p1), .val (.ref a2), .val (.int p3), .val (.int p4), .val (.int (0 : Int32)), .val .null] []))
  refine GoW.st (fun t k => XS.aloadN X6.here hx rfl (hb hby d2_19) rfl rfl (XS.iload X6.here hx rfl (hb hby d2_20) rfl k)) ?_
  show GoW p e below QQ (T6.setTop (mkF m 22 #[.val (.ref a1), .val (.int p1), .val (.ref a2), .val (.int p3), .val (.int p4), .val (.int (0 : Int32)), .val .null] [(.int p4), (.ref a1)]))
  obtain ⟨T8, h8, X8, e8, W8, st8⟩ := putF X6 hx hZ hown (host := "") (Or.inl (hw _ (List.mem_of_getElem? (i := 27) rfl))) Via.refl e6 f7_F_a1_to f7_E_a1 (Or.inr ⟨(hw _ (List.mem_of_getElem? (i := 28) rfl)), rfl, hnm⟩) (hw _ (List.mem_of_getElem? (i := 8) rfl)) (ty := .int) (by decide) rfl rfl (g := (mkF m 22 #[.val (.ref a1), .val (.int p1), .val (.ref a2), .val (.int p3), .val (.int p4), .val (.int (0 : Int32)), .val .null] [(.int p4), (.ref a1)])) rfl rfl (hb hby d2_22)
  refine GoW.st st8 ?_
  have f9_E_a1 : Exa Z h8 a1 "com/example/hike/hike/Proximity$Group" := f7_E_a1.wr W8
  have f9_F_a1_context : Fld Z h8 a1 "com/example/hike/hike/Proximity$Group" "context" "I" (.int p1) := f7_F_a1_context.other W8 (Or.inr (slot_ne (Or.inr (hw _ (List.mem_of_getElem? (i := 22) rfl))) (Or.inr (hw _ (List.mem_of_getElem? (i := 28) rfl))) (by decide) (t := .int) (t' := .int) (by decide) (by decide)))
  have f9_F_a1_order : Fld Z h8 a1 "com/example/hike/hike/Proximity$Group" "order" "[I" (.ref a2) := f7_F_a1_order.other W8 (Or.inr (slot_ne (Or.inr (hw _ (List.mem_of_getElem? (i := 24) rfl))) (Or.inr (hw _ (List.mem_of_getElem? (i := 28) rfl))) (by decide) (t := (.array .int)) (t' := .int) (by decide) (by decide)))
  have f9_F_a1_from : Fld Z h8 a1 "com/example/hike/hike/Proximity$Group" "from" "I" (.int p3) := f7_F_a1_from.other W8 (Or.inr (slot_ne (Or.inr (hw _ (List.mem_of_getElem? (i := 26) rfl))) (Or.inr (hw _ (List.mem_of_getElem? (i := 28) rfl))) (by decide) (t := .int) (t' := .int) (by decide) (by decide)))
  have f9_F_a1_to : Fld Z h8 a1 "com/example/hike/hike/Proximity$Group" "to" "I" (.int p4) := f7_F_a1_to.same W8
  have f9_F_a1_reverse : Fld Z h8 a1 "com/example/hike/hike/Proximity$Group" "reverse" "Z" (.int (0 : Int32)) := f7_F_a1_reverse.other W8 (Or.inr (slot_ne (Or.inr (hw _ (List.mem_of_getElem? (i := 30) rfl))) (Or.inr (hw _ (List.mem_of_getElem? (i := 28) rfl))) (by decide) (t := .boolean) (t' := .int) (by decide) (by decide)))
  have f9_F_a1_skipped : Fld Z h8 a1 "com/example/hike/hike/Proximity$Group" "skipped" "[I" .null := f7_F_a1_skipped.other W8 (Or.inr (slot_ne (Or.inr (hw _ (List.mem_of_getElem? (i := 32) rfl))) (Or.inr (hw _ (List.mem_of_getElem? (i := 28) rfl))) (by decide) (t := (.array .int)) (t' := .int) (by decide) (by decide)))
  have K8 : Keep h0 h8 [a1] := K6.wr W8 (Or.inl (List.mem_of_getElem? (i := 0) rfl))
  have N8 := Fr.snoc X8 N6 pre_g_a1
  show GoW p e below QQ (T8.setTop (mkF m 25 #[.val (.ref a1), .val (.int p1), .val (.ref a2), .val (.int p3), .val (.int p4), .val (.int (0 : Int32)), .val .null] []))
  refine GoW.st (fun t k => XS.aloadN X8.here hx rfl (hb hby d2_25) rfl rfl (XS.iload X8.here hx rfl (hb hby d2_26) rfl k)) ?_
  show GoW p e below QQ (T8.setTop (mkF m 28 #[.val (.ref a1), .val (.int p1), .val (.ref a2), .val (.int p3), .val (.int p4), .val (.int (0 : Int32)), .val .null] [(.int (0 : Int32)), (.ref a1)]))
  obtain ⟨T10, h10, X10, e10, W10, st10⟩ := putFN X8 hx hZ hown (hw _ (List.mem_of_getElem? (i := 29) rfl)) Via.refl e8 f9_F_a1_reverse f9_E_a1 (Or.inr ⟨(hw _ (List.mem_of_getElem? (i := 30) rfl)), rfl, hnm⟩) (hw _ (List.mem_of_getElem? (i := 8) rfl)) (ty := .boolean) (v' := (.int (nar .boolean (0 : Int32)))) (by decide) rfl (fits_nar_bool _) (g := (mkF m 28 #[.val (.ref a1), .val (.int p1), .val (.ref a2), .val (.int p3), .val (.int p4), .val (.int (0 : Int32)), .val .null] [(.int (0 : Int32)), (.ref a1)])) rfl rfl (hb hby d2_28)
  refine GoW.st st10 ?_
  have f11_E_a1 : Exa Z h10 a1 "com/example/hike/hike/Proximity$Group" := f9_E_a1.wr W10
  have f11_F_a1_context : Fld Z h10 a1 "com/example/hike/hike/Proximity$Group" "context" "I" (.int p1) := f9_F_a1_context.other W10 (Or.inr (slot_ne (Or.inr (hw _ (List.mem_of_getElem? (i := 22) rfl))) (Or.inr (hw _ (List.mem_of_getElem? (i := 30) rfl))) (by decide) (t := .int) (t' := .boolean) (by decide) (by decide)))
  have f11_F_a1_order : Fld Z h10 a1 "com/example/hike/hike/Proximity$Group" "order" "[I" (.ref a2) := f9_F_a1_order.other W10 (Or.inr (slot_ne (Or.inr (hw _ (List.mem_of_getElem? (i := 24) rfl))) (Or.inr (hw _ (List.mem_of_getElem? (i := 30) rfl))) (by decide) (t := (.array .int)) (t' := .boolean) (by decide) (by decide)))
  have f11_F_a1_from : Fld Z h10 a1 "com/example/hike/hike/Proximity$Group" "from" "I" (.int p3) := f9_F_a1_from.other W10 (Or.inr (slot_ne (Or.inr (hw _ (List.mem_of_getElem? (i := 26) rfl))) (Or.inr (hw _ (List.mem_of_getElem? (i := 30) rfl))) (by decide) (t := .int) (t' := .boolean) (by decide) (by decide)))
  have f11_F_a1_to : Fld Z h10 a1 "com/example/hike/hike/Proximity$Group" "to" "I" (.int p4) := f9_F_a1_to.other W10 (Or.inr (slot_ne (Or.inr (hw _ (List.mem_of_getElem? (i := 28) rfl))) (Or.inr (hw _ (List.mem_of_getElem? (i := 30) rfl))) (by decide) (t := .int) (t' := .boolean) (by decide) (by decide)))
  have f11_F_a1_reverse : Fld Z h10 a1 "com/example/hike/hike/Proximity$Group" "reverse" "Z" (.int (0 : Int32)) := f9_F_a1_reverse.same W10
  have f11_F_a1_skipped : Fld Z h10 a1 "com/example/hike/hike/Proximity$Group" "skipped" "[I" .null := f9_F_a1_skipped.other W10 (Or.inr (slot_ne (Or.inr (hw _ (List.mem_of_getElem? (i := 32) rfl))) (Or.inr (hw _ (List.mem_of_getElem? (i := 30) rfl))) (by decide) (t := (.array .int)) (t' := .boolean) (by decide) (by decide)))
  have K10 : Keep h0 h10 [a1] := K8.wr W10 (Or.inl (List.mem_of_getElem? (i := 0) rfl))
  have N10 := Fr.snoc X10 N8 pre_g_a1
  show GoW p e below QQ (T10.setTop (mkF m 31 #[.val (.ref a1), .val (.int p1), .val (.ref a2), .val (.int p3), .val (.int p4), .val (.int (0 : Int32)), .val .null] []))
  refine GoW.st (fun t k => XS.aloadN X10.here hx rfl (hb hby d2_31) rfl rfl (XS.aload X10.here hx rfl (hb hby d2_32) rfl rfl k)) ?_
  show GoW p e below QQ (T10.setTop (mkF m 34 #[.val (.ref a1), .val (.int p1), .val (.ref a2), .val (.int p3), .val (.int p4), .val (.int (0 : Int32)), .val .null] [.null, (.ref a1)]))
  obtain ⟨T12, h12, X12, e12, W12, st12⟩ := putF X10 hx hZ hown (host := "") (Or.inl (hw _ (List.mem_of_getElem? (i := 31) rfl))) Via.refl e10 f11_F_a1_skipped f11_E_a1 (Or.inr ⟨(hw _ (List.mem_of_getElem? (i := 32) rfl)), rfl, hnm⟩) (hw _ (List.mem_of_getElem? (i := 8) rfl)) (ty := (.array .int)) (by decide) rfl rfl (g := (mkF m 34 #[.val (.ref a1), .val (.int p1), .val (.ref a2), .val (.int p3), .val (.int p4), .val (.int (0 : Int32)), .val .null] [.null, (.ref a1)])) rfl rfl (hb hby d2_34)
  refine GoW.st st12 ?_
  have f13_E_a1 : Exa Z h12 a1 "com/example/hike/hike/Proximity$Group" := f11_E_a1.wr W12
  have f13_F_a1_context : Fld Z h12 a1 "com/example/hike/hike/Proximity$Group" "context" "I" (.int p1) := f11_F_a1_context.other W12 (Or.inr (slot_ne (Or.inr (hw _ (List.mem_of_getElem? (i := 22) rfl))) (Or.inr (hw _ (List.mem_of_getElem? (i := 32) rfl))) (by decide) (t := .int) (t' := (.array .int)) (by decide) (by decide)))
  have f13_F_a1_order : Fld Z h12 a1 "com/example/hike/hike/Proximity$Group" "order" "[I" (.ref a2) := f11_F_a1_order.other W12 (Or.inr (slot_ne (Or.inr (hw _ (List.mem_of_getElem? (i := 24) rfl))) (Or.inr (hw _ (List.mem_of_getElem? (i := 32) rfl))) (by decide) (t := (.array .int)) (t' := (.array .int)) (by decide) (by decide)))
  have f13_F_a1_from : Fld Z h12 a1 "com/example/hike/hike/Proximity$Group" "from" "I" (.int p3) := f11_F_a1_from.other W12 (Or.inr (slot_ne (Or.inr (hw _ (List.mem_of_getElem? (i := 26) rfl))) (Or.inr (hw _ (List.mem_of_getElem? (i := 32) rfl))) (by decide) (t := .int) (t' := (.array .int)) (by decide) (by decide)))
  have f13_F_a1_to : Fld Z h12 a1 "com/example/hike/hike/Proximity$Group" "to" "I" (.int p4) := f11_F_a1_to.other W12 (Or.inr (slot_ne (Or.inr (hw _ (List.mem_of_getElem? (i := 28) rfl))) (Or.inr (hw _ (List.mem_of_getElem? (i := 32) rfl))) (by decide) (t := .int) (t' := (.array .int)) (by decide) (by decide)))
  have f13_F_a1_reverse : Fld Z h12 a1 "com/example/hike/hike/Proximity$Group" "reverse" "Z" (.int (0 : Int32)) := f11_F_a1_reverse.other W12 (Or.inr (slot_ne (Or.inr (hw _ (List.mem_of_getElem? (i := 30) rfl))) (Or.inr (hw _ (List.mem_of_getElem? (i := 32) rfl))) (by decide) (t := .boolean) (t' := (.array .int)) (by decide) (by decide)))
  have f13_F_a1_skipped : Fld Z h12 a1 "com/example/hike/hike/Proximity$Group" "skipped" "[I" .null := f11_F_a1_skipped.same W12
  have K12 : Keep h0 h12 [a1] := K10.wr W12 (Or.inl (List.mem_of_getElem? (i := 0) rfl))
  have N12 := Fr.snoc X12 N10 pre_g_a1
  show GoW p e below QQ (T12.setTop (mkF m 37 #[.val (.ref a1), .val (.int p1), .val (.ref a2), .val (.int p3), .val (.int p4), .val (.int (0 : Int32)), .val .null] []))
  exact GoW.fin X12 none (fun _ => rfl) hlk hQ e12 ⟨rfl, N12, K12, f13_E_a1, f13_F_a1_order, f13_F_a1_from, f13_F_a1_to, f13_F_a1_reverse, f13_F_a1_skipped⟩ (by decide) (by decide) (fun fs hr => X12.returnOut hx hret (hb hby d2_37) hr)
def RM2_o1 : Room := { frames := 2, cells := 0, slots := 0, locals := 24 }
def Q2_o1 (Z : State) (a1 : Addr) (p1 : Int32) (a2 : Addr) (p3 : Int32) (p4 : Int32) (h0 : Heap) (n0 : Nat) (v : Option Value) (h : Heap) (L : List Loc) : Prop := v = none ∧ Fr n0 L ∧ Keep h0 h [a1] ∧ (Exa Z h a1 "com/example/hike/hike/Proximity$Group") ∧ (Fld Z h a1 "com/example/hike/hike/Proximity$Group" "order" "[I" (.ref a2)) ∧ (Fld Z h a1 "com/example/hike/hike/Proximity$Group" "from" "I" (.int p3)) ∧ (Fld Z h a1 "com/example/hike/hike/Proximity$Group" "to" "I" (.int p4)) ∧ (Fld Z h a1 "com/example/hike/hike/Proximity$Group" "reverse" "Z" (.int (1 : Int32))) ∧ (Fld Z h a1 "com/example/hike/hike/Proximity$Group" "skipped" "[I" .null)
set_option maxRecDepth 65536 in
set_option maxHeartbeats 40000000 in
theorem rm2_o1 (l : Launch) (Z : State) (a0 : Array Value) (hw : ∀ d ∈ tables_1, d.before a0 Z = true) (ws : List Jvm.Cond) (a1 : Addr) (p1 : Int32) (a2 : Addr) (p3 : Int32) (p4 : Int32) (h0 : Heap) (n0 : Nat) (Z0 : n0 ≤ h0.size) (pre_E_a1 : Exa Z h0 a1 "com/example/hike/hike/Proximity$Group") (pre_g_a1 : n0 ≤ a1) (pre_F_a1_context : Fld Z h0 a1 "com/example/hike/hike/Proximity$Group" "context" "I" (.int (0 : Int32))) (pre_F_a1_order : Fld Z h0 a1 "com/example/hike/hike/Proximity$Group" "order" "[I" .null) (pre_F_a1_from : Fld Z h0 a1 "com/example/hike/hike/Proximity$Group" "from" "I" (.int (0 : Int32))) (pre_F_a1_to : Fld Z h0 a1 "com/example/hike/hike/Proximity$Group" "to" "I" (.int (0 : Int32))) (pre_F_a1_reverse : Fld Z h0 a1 "com/example/hike/hike/Proximity$Group" "reverse" "Z" (.int (0 : Int32))) (pre_F_a1_skipped : Fld Z h0 a1 "com/example/hike/hike/Proximity$Group" "skipped" "[I" .null) :
    MetFree l (⟨"com/example/hike/hike/Proximity$Group", "<init>", "(I[IIIZ[I)V"⟩ : MethodName) (head1 (Jvm.Cond.code (⟨"com/example/hike/hike/Proximity$Group", "<init>", "(I[IIIZ[I)V"⟩ : MethodName) prog_102_method_1_code 7 none :: ws) RM2_o1) (fun a U => a = #[(.ref a1), (.int p1), (.ref a2), (.int p3), (.int p4), (.int (1 : Int32)), .null] ∧ Z.Warmed39 U.vm ∧ U.heap = h0) (fun _ _ _ _ _ => True) (fun _ U o U' => ∃ v L, o = .returned v ∧ Q2_o1 Z a1 p1 a2 p3 p4 h0 n0 v U'.heap L ∧ FrameEnd U o U' L RM2_o1.cells RM2_o1.slots) := by
  refine met_of (Q := fun v h L => Q2_o1 Z a1 p1 a2 p3 p4 h0 n0 v h L) (plainFor_of_name pn_1) (fun m => by first | (simp [entryFrame, mkF, argsToLocals, Value.category]; done) | rfl) (Ls := #[.val (.ref a1), .val (.int p1), .val (.ref a2), .val (.int p3), .val (.int p4), .val (.int (1 : Int32)), .val .null]) ?_
  intro p e s m below meth c T0 QQ hx hZ hby hml hown hnm hret hlk X0 e0 hQ
  have hml : c.maxLocals = 7 := hml
  have hown : s.vm.findClass "com/example/hike/hike/Proximity$Group" = some m.cls := hown
  have hnm : meth.name = "<init>" := hnm
  have hret : meth.sig.returnType = none := hret
  have N0 := Fr.nil n0
  have K0 : Keep h0 h0 [a1] := Keep.refl h0 _
  show GoW p e below QQ (T0.setTop (mkF m 0 #[.val (.ref a1), .val (.int p1), .val (.ref a2), .val (.int p3), .val (.int p4), .val (.int (1 : Int32)), .val .null] []))
  refine GoW.st (fun t k => XS.aloadN X0.here hx rfl (hb hby d2_0) rfl rfl k) ?_
  show GoW p e below QQ (T0.setTop (mkF m 1 #[.val (.ref a1), .val (.int p1), .val (.ref a2), .val (.int p3), .val (.int p4), .val (.int (1 : Int32)), .val .null] [(.ref a1)]))
  obtain ⟨_, _, ⟨T1, zL1, zk1, zn1⟩, -, X1, ⟨Lc1, hQ1, zl1, zy1, zz1⟩, st1⟩ := X0.specialBack hx (y := (⟨"java/lang/Record", "<init>", "()V"⟩ : MethodName)) rfl hown (mvT hZ (hw _ (List.mem_of_getElem? (i := 13) rfl))) (mvT hZ (hw _ (List.mem_of_getElem? (i := 14) rfl))) (mvT hZ (hw _ (List.mem_of_getElem? (i := 17) rfl))) (by decide) (backOf (W := 0) (rm3 l Z a0 hw [] a1 h0 n0 (Nat.le_trans Z0 K0.1) ) hZ (hw _ (List.mem_of_getElem? (i := 17) rfl)) (hw _ (List.mem_of_getElem? (i := 16) rfl)) (by decide) (by decide)) (g := (mkF m 1 #[.val (.ref a1), .val (.int p1), .val (.ref a2), .val (.int p3), .val (.int p4), .val (.int (1 : Int32)), .val .null] [(.ref a1)])) rfl (by rw [hml]; rfl) (Steps.refl _) (a := a1) (argsL := []) (rest := []) (lenOf pd_0 rfl) rfl (by show 2 * 0 + _ ≤ _; exact Nat.le_of_eq rfl) (hb hby d2_1) (fun _ _ => ⟨rfl, e0, (by decide : 0 + 0 ≤ _), (by decide : 0 + 0 ≤ _)⟩)
  dsimp only [Pt.U, Pt.locs, Pt.cells, Pt.slots] at X1 zl1 zy1 zz1 st1 hQ1
  subst zl1 zy1 zz1
  obtain ⟨rfl, Nq1, hh1⟩ := hQ1
  have N1 := Fr.app N0 Nq1
  refine GoW.st (fun t k => st1.trans k) ?_
  show GoW p e below QQ (T1.setTop (mkF m 4 #[.val (.ref a1), .val (.int p1), .val (.ref a2), .val (.int p3), .val (.int p4), .val (.int (1 : Int32)), .val .null] []))
  refine GoW.st (fun t k => XS.aloadN X1.here hx rfl (hb hby d2_4) rfl rfl (XS.iloadN X1.here hx rfl (hb hby d2_5) rfl k)) ?_
  show GoW p e below QQ (T1.setTop (mkF m 6 #[.val (.ref a1), .val (.int p1), .val (.ref a2), .val (.int p3), .val (.int p4), .val (.int (1 : Int32)), .val .null] [(.int p1), (.ref a1)]))
  obtain ⟨T2, h2, X2, e2, W2, st2⟩ := putF X1 hx hZ hown (host := "") (Or.inl (hw _ (List.mem_of_getElem? (i := 21) rfl))) Via.refl hh1 pre_F_a1_context pre_E_a1 (Or.inr ⟨(hw _ (List.mem_of_getElem? (i := 22) rfl)), rfl, hnm⟩) (hw _ (List.mem_of_getElem? (i := 8) rfl)) (ty := .int) (by decide) rfl rfl (g := (mkF m 6 #[.val (.ref a1), .val (.int p1), .val (.ref a2), .val (.int p3), .val (.int p4), .val (.int (1 : Int32)), .val .null] [(.int p1), (.ref a1)])) rfl rfl (hb hby d2_6)
  refine GoW.st st2 ?_
  have f3_E_a1 : Exa Z h2 a1 "com/example/hike/hike/Proximity$Group" := pre_E_a1.wr W2
  have f3_F_a1_context : Fld Z h2 a1 "com/example/hike/hike/Proximity$Group" "context" "I" (.int p1) := pre_F_a1_context.same W2
  have f3_F_a1_order : Fld Z h2 a1 "com/example/hike/hike/Proximity$Group" "order" "[I" .null := pre_F_a1_order.other W2 (Or.inr (slot_ne (Or.inr (hw _ (List.mem_of_getElem? (i := 24) rfl))) (Or.inr (hw _ (List.mem_of_getElem? (i := 22) rfl))) (by decide) (t := (.array .int)) (t' := .int) (by decide) (by decide)))
  have f3_F_a1_from : Fld Z h2 a1 "com/example/hike/hike/Proximity$Group" "from" "I" (.int (0 : Int32)) := pre_F_a1_from.other W2 (Or.inr (slot_ne (Or.inr (hw _ (List.mem_of_getElem? (i := 26) rfl))) (Or.inr (hw _ (List.mem_of_getElem? (i := 22) rfl))) (by decide) (t := .int) (t' := .int) (by decide) (by decide)))
  have f3_F_a1_to : Fld Z h2 a1 "com/example/hike/hike/Proximity$Group" "to" "I" (.int (0 : Int32)) := pre_F_a1_to.other W2 (Or.inr (slot_ne (Or.inr (hw _ (List.mem_of_getElem? (i := 28) rfl))) (Or.inr (hw _ (List.mem_of_getElem? (i := 22) rfl))) (by decide) (t := .int) (t' := .int) (by decide) (by decide)))
  have f3_F_a1_reverse : Fld Z h2 a1 "com/example/hike/hike/Proximity$Group" "reverse" "Z" (.int (0 : Int32)) := pre_F_a1_reverse.other W2 (Or.inr (slot_ne (Or.inr (hw _ (List.mem_of_getElem? (i := 30) rfl))) (Or.inr (hw _ (List.mem_of_getElem? (i := 22) rfl))) (by decide) (t := .boolean) (t' := .int) (by decide) (by decide)))
  have f3_F_a1_skipped : Fld Z h2 a1 "com/example/hike/hike/Proximity$Group" "skipped" "[I" .null := pre_F_a1_skipped.other W2 (Or.inr (slot_ne (Or.inr (hw _ (List.mem_of_getElem? (i := 32) rfl))) (Or.inr (hw _ (List.mem_of_getElem? (i := 22) rfl))) (by decide) (t := (.array .int)) (t' := .int) (by decide) (by decide)))
  have K2 : Keep h0 h2 [a1] := K0.wr W2 (Or.inl (List.mem_of_getElem? (i := 0) rfl))
  have N2 := Fr.snoc X2 N1 pre_g_a1
  show GoW p e below QQ (T2.setTop (mkF m 9 #[.val (.ref a1), .val (.int p1), .val (.ref a2), .val (.int p3), .val (.int p4), .val (.int (1 : Int32)), .val .null] []))
  refine GoW.st (fun t k => XS.aloadN X2.here hx rfl (hb hby d2_9) rfl rfl (XS.aloadN X2.here hx rfl (hb hby d2_10) rfl rfl k)) ?_
  show GoW p e below QQ (T2.setTop (mkF m 11 #[.val (.ref a1), .val (.int p1), .val (.ref a2), .val (.int p3), .val (.int p4), .val (.int (1 : Int32)), .val .null] [(.ref a2), (.ref a1)]))
  obtain ⟨T4, h4, X4, e4, W4, st4⟩ := putF X2 hx hZ hown (host := "") (Or.inl (hw _ (List.mem_of_getElem? (i := 23) rfl))) Via.refl e2 f3_F_a1_order f3_E_a1 (Or.inr ⟨(hw _ (List.mem_of_getElem? (i := 24) rfl)), rfl, hnm⟩) (hw _ (List.mem_of_getElem? (i := 8) rfl)) (ty := (.array .int)) (by decide) rfl rfl (g := (mkF m 11 #[.val (.ref a1), .val (.int p1), .val (.ref a2), .val (.int p3), .val (.int p4), .val (.int (1 : Int32)), .val .null] [(.ref a2), (.ref a1)])) rfl rfl (hb hby d2_11)
  refine GoW.st st4 ?_
  have f5_E_a1 : Exa Z h4 a1 "com/example/hike/hike/Proximity$Group" := f3_E_a1.wr W4
  have f5_F_a1_context : Fld Z h4 a1 "com/example/hike/hike/Proximity$Group" "context" "I" (.int p1) := f3_F_a1_context.other W4 (Or.inr (slot_ne (Or.inr (hw _ (List.mem_of_getElem? (i := 22) rfl))) (Or.inr (hw _ (List.mem_of_getElem? (i := 24) rfl))) (by decide) (t := .int) (t' := (.array .int)) (by decide) (by decide)))
  have f5_F_a1_order : Fld Z h4 a1 "com/example/hike/hike/Proximity$Group" "order" "[I" (.ref a2) := f3_F_a1_order.same W4
  have f5_F_a1_from : Fld Z h4 a1 "com/example/hike/hike/Proximity$Group" "from" "I" (.int (0 : Int32)) := f3_F_a1_from.other W4 (Or.inr (slot_ne (Or.inr (hw _ (List.mem_of_getElem? (i := 26) rfl))) (Or.inr (hw _ (List.mem_of_getElem? (i := 24) rfl))) (by decide) (t := .int) (t' := (.array .int)) (by decide) (by decide)))
  have f5_F_a1_to : Fld Z h4 a1 "com/example/hike/hike/Proximity$Group" "to" "I" (.int (0 : Int32)) := f3_F_a1_to.other W4 (Or.inr (slot_ne (Or.inr (hw _ (List.mem_of_getElem? (i := 28) rfl))) (Or.inr (hw _ (List.mem_of_getElem? (i := 24) rfl))) (by decide) (t := .int) (t' := (.array .int)) (by decide) (by decide)))
  have f5_F_a1_reverse : Fld Z h4 a1 "com/example/hike/hike/Proximity$Group" "reverse" "Z" (.int (0 : Int32)) := f3_F_a1_reverse.other W4 (Or.inr (slot_ne (Or.inr (hw _ (List.mem_of_getElem? (i := 30) rfl))) (Or.inr (hw _ (List.mem_of_getElem? (i := 24) rfl))) (by decide) (t := .boolean) (t' := (.array .int)) (by decide) (by decide)))
  have f5_F_a1_skipped : Fld Z h4 a1 "com/example/hike/hike/Proximity$Group" "skipped" "[I" .null := f3_F_a1_skipped.other W4 (Or.inr (slot_ne (Or.inr (hw _ (List.mem_of_getElem? (i := 32) rfl))) (Or.inr (hw _ (List.mem_of_getElem? (i := 24) rfl))) (by decide) (t := (.array .int)) (t' := (.array .int)) (by decide) (by decide)))
  have K4 : Keep h0 h4 [a1] := K2.wr W4 (Or.inl (List.mem_of_getElem? (i := 0) rfl))
  have N4 := Fr.snoc X4 N2 pre_g_a1
  show GoW p e below QQ (T4.setTop (mkF m 14 #[.val (.ref a1), .val (.int p1), .val (.ref a2), .val (.int p3), .val (.int p4), .val (.int (1 : Int32)), .val .null] []))
  refine GoW.st (fun t k => XS.aloadN X4.here hx rfl (hb hby d2_14) rfl rfl (XS.iloadN X4.here hx rfl (hb hby d2_15) rfl k)) ?_
  show GoW p e below QQ (T4.setTop (mkF m 16 #[.val (.ref a1), .val (.int p1), .val (.ref a2), .val (.int p3), .val (.int p4), .val (.int (1 : Int32)), .val .null] [(.int p3), (.ref a1)]))
  obtain ⟨T6, h6, X6, e6, W6, st6⟩ := putF X4 hx hZ hown (host := "") (Or.inl (hw _ (List.mem_of_getElem? (i := 25) rfl))) Via.refl e4 f5_F_a1_from f5_E_a1 (Or.inr ⟨(hw _ (List.mem_of_getElem? (i := 26) rfl)), rfl, hnm⟩) (hw _ (List.mem_of_getElem? (i := 8) rfl)) (ty := .int) (by decide) rfl rfl (g := (mkF m 16 #[.val (.ref a1), .val (.int p1), .val (.ref a2), .val (.int p3), .val (.int p4), .val (.int (1 : Int32)), .val .null] [(.int p3), (.ref a1)])) rfl rfl (hb hby d2_16)
  refine GoW.st st6 ?_
  have f7_E_a1 : Exa Z h6 a1 "com/example/hike/hike/Proximity$Group" := f5_E_a1.wr W6
  have f7_F_a1_context : Fld Z h6 a1 "com/example/hike/hike/Proximity$Group" "context" "I" (.int p1) := f5_F_a1_context.other W6 (Or.inr (slot_ne (Or.inr (hw _ (List.mem_of_getElem? (i := 22) rfl))) (Or.inr (hw _ (List.mem_of_getElem? (i := 26) rfl))) (by decide) (t := .int) (t' := .int) (by decide) (by decide)))
  have f7_F_a1_order : Fld Z h6 a1 "com/example/hike/hike/Proximity$Group" "order" "[I" (.ref a2) := f5_F_a1_order.other W6 (Or.inr (slot_ne (Or.inr (hw _ (List.mem_of_getElem? (i := 24) rfl))) (Or.inr (hw _ (List.mem_of_getElem? (i := 26) rfl))) (by decide) (t := (.array .int)) (t' := .int) (by decide) (by decide)))
  have f7_F_a1_from : Fld Z h6 a1 "com/example/hike/hike/Proximity$Group" "from" "I" (.int p3) := f5_F_a1_from.same W6
  have f7_F_a1_to : Fld Z h6 a1 "com/example/hike/hike/Proximity$Group" "to" "I" (.int (0 : Int32)) := f5_F_a1_to.other W6 (Or.inr (slot_ne (Or.inr (hw _ (List.mem_of_getElem? (i := 28) rfl))) (Or.inr (hw _ (List.mem_of_getElem? (i := 26) rfl))) (by decide) (t := .int) (t' := .int) (by decide) (by decide)))
  have f7_F_a1_reverse : Fld Z h6 a1 "com/example/hike/hike/Proximity$Group" "reverse" "Z" (.int (0 : Int32)) := f5_F_a1_reverse.other W6 (Or.inr (slot_ne (Or.inr (hw _ (List.mem_of_getElem? (i := 30) rfl))) (Or.inr (hw _ (List.mem_of_getElem? (i := 26) rfl))) (by decide) (t := .boolean) (t' := .int) (by decide) (by decide)))
  have f7_F_a1_skipped : Fld Z h6 a1 "com/example/hike/hike/Proximity$Group" "skipped" "[I" .null := f5_F_a1_skipped.other W6 (Or.inr (slot_ne (Or.inr (hw _ (List.mem_of_getElem? (i := 32) rfl))) (Or.inr (hw _ (List.mem_of_getElem? (i := 26) rfl))) (by decide) (t := (.array .int)) (t' := .int) (by decide) (by decide)))
  have K6 : Keep h0 h6 [a1] := K4.wr W6 (Or.inl (List.mem_of_getElem? (i := 0) rfl))
  have N6 := Fr.snoc X6 N4 pre_g_a1
  show GoW p e below QQ (T6.setTop (mkF m 19 #[.val (.ref a1), .val (.int p1), .val (.ref a2), .val (.int p3), .val (.int p4), .val (.int (1 : Int32)), .val .null] []))
  refine GoW.st (fun t k => XS.aloadN X6.here hx rfl (hb hby d2_19) rfl rfl (XS.iload X6.here hx rfl (hb hby d2_20) rfl k)) ?_
  show GoW p e below QQ (T6.setTop (mkF m 22 #[.val (.ref a1), .val (.int p1), .val (.ref a2), .val (.int p3), .val (.int p4), .val (.int (1 : Int32)), .val .null] [(.int p4), (.ref a1)]))
  obtain ⟨T8, h8, X8, e8, W8, st8⟩ := putF X6 hx hZ hown (host := "") (Or.inl (hw _ (List.mem_of_getElem? (i := 27) rfl))) Via.refl e6 f7_F_a1_to f7_E_a1 (Or.inr ⟨(hw _ (List.mem_of_getElem? (i := 28) rfl)), rfl, hnm⟩) (hw _ (List.mem_of_getElem? (i := 8) rfl)) (ty := .int) (by decide) rfl rfl (g := (mkF m 22 #[.val (.ref a1), .val (.int p1), .val (.ref a2), .val (.int p3), .val (.int p4), .val (.int (1 : Int32)), .val .null] [(.int p4), (.ref a1)])) rfl rfl (hb hby d2_22)
  refine GoW.st st8 ?_
  have f9_E_a1 : Exa Z h8 a1 "com/example/hike/hike/Proximity$Group" := f7_E_a1.wr W8
  have f9_F_a1_context : Fld Z h8 a1 "com/example/hike/hike/Proximity$Group" "context" "I" (.int p1) := f7_F_a1_context.other W8 (Or.inr (slot_ne (Or.inr (hw _ (List.mem_of_getElem? (i := 22) rfl))) (Or.inr (hw _ (List.mem_of_getElem? (i := 28) rfl))) (by decide) (t := .int) (t' := .int) (by decide) (by decide)))
  have f9_F_a1_order : Fld Z h8 a1 "com/example/hike/hike/Proximity$Group" "order" "[I" (.ref a2) := f7_F_a1_order.other W8 (Or.inr (slot_ne (Or.inr (hw _ (List.mem_of_getElem? (i := 24) rfl))) (Or.inr (hw _ (List.mem_of_getElem? (i := 28) rfl))) (by decide) (t := (.array .int)) (t' := .int) (by decide) (by decide)))
  have f9_F_a1_from : Fld Z h8 a1 "com/example/hike/hike/Proximity$Group" "from" "I" (.int p3) := f7_F_a1_from.other W8 (Or.inr (slot_ne (Or.inr (hw _ (List.mem_of_getElem? (i := 26) rfl))) (Or.inr (hw _ (List.mem_of_getElem? (i := 28) rfl))) (by decide) (t := .int) (t' := .int) (by decide) (by decide)))
  have f9_F_a1_to : Fld Z h8 a1 "com/example/hike/hike/Proximity$Group" "to" "I" (.int p4) := f7_F_a1_to.same W8
  have f9_F_a1_reverse : Fld Z h8 a1 "com/example/hike/hike/Proximity$Group" "reverse" "Z" (.int (0 : Int32)) := f7_F_a1_reverse.other W8 (Or.inr (slot_ne (Or.inr (hw _ (List.mem_of_getElem? (i := 30) rfl))) (Or.inr (hw _ (List.mem_of_getElem? (i := 28) rfl))) (by decide) (t := .boolean) (t' := .int) (by decide) (by decide)))
  have f9_F_a1_skipped : Fld Z h8 a1 "com/example/hike/hike/Proximity$Group" "skipped" "[I" .null := f7_F_a1_skipped.other W8 (Or.inr (slot_ne (Or.inr (hw _ (List.mem_of_getElem? (i := 32) rfl))) (Or.inr (hw _ (List.mem_of_getElem? (i := 28) rfl))) (by decide) (t := (.array .int)) (t' := .int) (by decide) (by decide)))
  have K8 : Keep h0 h8 [a1] := K6.wr W8 (Or.inl (List.mem_of_getElem? (i := 0) rfl))
  have N8 := Fr.snoc X8 N6 pre_g_a1
  show GoW p e below QQ (T8.setTop (mkF m 25 #[.val (.ref a1), .val (.int p1), .val (.ref a2), .val (.int p3), .val (.int p4), .val (.int (1 : Int32)), .val .null] []))
  refine GoW.st (fun t k => XS.aloadN X8.here hx rfl (hb hby d2_25) rfl rfl (XS.iload X8.here hx rfl (hb hby d2_26) rfl k)) ?_
  show GoW p e below QQ (T8.setTop (mkF m 28 #[.val (.ref a1), .val (.int p1), .val (.ref a2), .val (.int p3), .val (.int p4), .val (.int (1 : Int32)), .val .null] [(.int (1 : Int32)), (.ref a1)]))
  obtain ⟨T10, h10, X10, e10, W10, st10⟩ := putFN X8 hx hZ hown (hw _ (List.mem_of_getElem? (i := 29) rfl)) Via.refl e8 f9_F_a1_reverse f9_E_a1 (Or.inr ⟨(hw _ (List.mem_of_getElem? (i := 30) rfl)), rfl, hnm⟩) (hw _ (List.mem_of_getElem? (i := 8) rfl)) (ty := .boolean) (v' := (.int (nar .boolean (1 : Int32)))) (by decide) rfl (fits_nar_bool _) (g := (mkF m 28 #[.val (.ref a1), .val (.int p1), .val (.ref a2), .val (.int p3), .val (.int p4), .val (.int (1 : Int32)), .val .null] [(.int (1 : Int32)), (.ref a1)])) rfl rfl (hb hby d2_28)
  refine GoW.st st10 ?_
  have f11_E_a1 : Exa Z h10 a1 "com/example/hike/hike/Proximity$Group" := f9_E_a1.wr W10
  have f11_F_a1_context : Fld Z h10 a1 "com/example/hike/hike/Proximity$Group" "context" "I" (.int p1) := f9_F_a1_context.other W10 (Or.inr (slot_ne (Or.inr (hw _ (List.mem_of_getElem? (i := 22) rfl))) (Or.inr (hw _ (List.mem_of_getElem? (i := 30) rfl))) (by decide) (t := .int) (t' := .boolean) (by decide) (by decide)))
  have f11_F_a1_order : Fld Z h10 a1 "com/example/hike/hike/Proximity$Group" "order" "[I" (.ref a2) := f9_F_a1_order.other W10 (Or.inr (slot_ne (Or.inr (hw _ (List.mem_of_getElem? (i := 24) rfl))) (Or.inr (hw _ (List.mem_of_getElem? (i := 30) rfl))) (by decide) (t := (.array .int)) (t' := .boolean) (by decide) (by decide)))
  have f11_F_a1_from : Fld Z h10 a1 "com/example/hike/hike/Proximity$Group" "from" "I" (.int p3) := f9_F_a1_from.other W10 (Or.inr (slot_ne (Or.inr (hw _ (List.mem_of_getElem? (i := 26) rfl))) (Or.inr (hw _ (List.mem_of_getElem? (i := 30) rfl))) (by decide) (t := .int) (t' := .boolean) (by decide) (by decide)))
  have f11_F_a1_to : Fld Z h10 a1 "com/example/hike/hike/Proximity$Group" "to" "I" (.int p4) := f9_F_a1_to.other W10 (Or.inr (slot_ne (Or.inr (hw _ (List.mem_of_getElem? (i := 28) rfl))) (Or.inr (hw _ (List.mem_of_getElem? (i := 30) rfl))) (by decide) (t := .int) (t' := .boolean) (by decide) (by decide)))
  have f11_F_a1_reverse : Fld Z h10 a1 "com/example/hike/hike/Proximity$Group" "reverse" "Z" (.int (1 : Int32)) := f9_F_a1_reverse.same W10
  have f11_F_a1_skipped : Fld Z h10 a1 "com/example/hike/hike/Proximity$Group" "skipped" "[I" .null := f9_F_a1_skipped.other W10 (Or.inr (slot_ne (Or.inr (hw _ (List.mem_of_getElem? (i := 32) rfl))) (Or.inr (hw _ (List.mem_of_getElem? (i := 30) rfl))) (by decide) (t := (.array .int)) (t' := .boolean) (by decide) (by decide)))
  have K10 : Keep h0 h10 [a1] := K8.wr W10 (Or.inl (List.mem_of_getElem? (i := 0) rfl))
  have N10 := Fr.snoc X10 N8 pre_g_a1
  show GoW p e below QQ (T10.setTop (mkF m 31 #[.val (.ref a1), .val (.int p1), .val (.ref a2), .val (.int p3), .val (.int p4), .val (.int (1 : Int32)), .val .null] []))
  refine GoW.st (fun t k => XS.aloadN X10.here hx rfl (hb hby d2_31) rfl rfl (XS.aload X10.here hx rfl (hb hby d2_32) rfl rfl k)) ?_
  show GoW p e below QQ (T10.setTop (mkF m 34 #[.val (.ref a1), .val (.int p1), .val (.ref a2), .val (.int p3), .val (.int p4), .val (.int (1 : Int32)), .val .null] [.null, (.ref a1)]))
  obtain ⟨T12, h12, X12, e12, W12, st12⟩ := putF X10 hx hZ hown (host := "") (Or.inl (hw _ (List.mem_of_getElem? (i := 31) rfl))) Via.refl e10 f11_F_a1_skipped f11_E_a1 (Or.inr ⟨(hw _ (List.mem_of_getElem? (i := 32) rfl)), rfl, hnm⟩) (hw _ (List.mem_of_getElem? (i := 8) rfl)) (ty := (.array .int)) (by decide) rfl rfl (g := (mkF m 34 #[.val (.ref a1), .val (.int p1), .val (.ref a2), .val (.int p3), .val (.int p4), .val (.int (1 : Int32)), .val .null] [.null, (.ref a1)])) rfl rfl (hb hby d2_34)
  refine GoW.st st12 ?_
  have f13_E_a1 : Exa Z h12 a1 "com/example/hike/hike/Proximity$Group" := f11_E_a1.wr W12
  have f13_F_a1_context : Fld Z h12 a1 "com/example/hike/hike/Proximity$Group" "context" "I" (.int p1) := f11_F_a1_context.other W12 (Or.inr (slot_ne (Or.inr (hw _ (List.mem_of_getElem? (i := 22) rfl))) (Or.inr (hw _ (List.mem_of_getElem? (i := 32) rfl))) (by decide) (t := .int) (t' := (.array .int)) (by decide) (by decide)))
  have f13_F_a1_order : Fld Z h12 a1 "com/example/hike/hike/Proximity$Group" "order" "[I" (.ref a2) := f11_F_a1_order.other W12 (Or.inr (slot_ne (Or.inr (hw _ (List.mem_of_getElem? (i := 24) rfl))) (Or.inr (hw _ (List.mem_of_getElem? (i := 32) rfl))) (by decide) (t := (.array .int)) (t' := (.array .int)) (by decide) (by decide)))
  have f13_F_a1_from : Fld Z h12 a1 "com/example/hike/hike/Proximity$Group" "from" "I" (.int p3) := f11_F_a1_from.other W12 (Or.inr (slot_ne (Or.inr (hw _ (List.mem_of_getElem? (i := 26) rfl))) (Or.inr (hw _ (List.mem_of_getElem? (i := 32) rfl))) (by decide) (t := .int) (t' := (.array .int)) (by decide) (by decide)))
  have f13_F_a1_to : Fld Z h12 a1 "com/example/hike/hike/Proximity$Group" "to" "I" (.int p4) := f11_F_a1_to.other W12 (Or.inr (slot_ne (Or.inr (hw _ (List.mem_of_getElem? (i := 28) rfl))) (Or.inr (hw _ (List.mem_of_getElem? (i := 32) rfl))) (by decide) (t := .int) (t' := (.array .int)) (by decide) (by decide)))
  have f13_F_a1_reverse : Fld Z h12 a1 "com/example/hike/hike/Proximity$Group" "reverse" "Z" (.int (1 : Int32)) := f11_F_a1_reverse.other W12 (Or.inr (slot_ne (Or.inr (hw _ (List.mem_of_getElem? (i := 30) rfl))) (Or.inr (hw _ (List.mem_of_getElem? (i := 32) rfl))) (by decide) (t := .boolean) (t' := (.array .int)) (by decide) (by decide)))
  have f13_F_a1_skipped : Fld Z h12 a1 "com/example/hike/hike/Proximity$Group" "skipped" "[I" .null := f11_F_a1_skipped.same W12
  have K12 : Keep h0 h12 [a1] := K10.wr W12 (Or.inl (List.mem_of_getElem? (i := 0) rfl))
  have N12 := Fr.snoc X12 N10 pre_g_a1
  show GoW p e below QQ (T12.setTop (mkF m 37 #[.val (.ref a1), .val (.int p1), .val (.ref a2), .val (.int p3), .val (.int p4), .val (.int (1 : Int32)), .val .null] []))
  exact GoW.fin X12 none (fun _ => rfl) hlk hQ e12 ⟨rfl, N12, K12, f13_E_a1, f13_F_a1_order, f13_F_a1_from, f13_F_a1_to, f13_F_a1_reverse, f13_F_a1_skipped⟩ (by decide) (by decide) (fun fs hr => X12.returnOut hx hret (hb hby d2_37) hr)
def RM2_n0 : Room := { frames := 2, cells := 0, slots := 0, locals := 24 }
def Q2_n0 (Z : State) (a1 : Addr) (p1 : Int32) (p3 : Int32) (p4 : Int32) (h0 : Heap) (n0 : Nat) (v : Option Value) (h : Heap) (L : List Loc) : Prop := v = none ∧ Fr n0 L ∧ Keep h0 h [a1] ∧ (Exa Z h a1 "com/example/hike/hike/Proximity$Group") ∧ (Fld Z h a1 "com/example/hike/hike/Proximity$Group" "order" "[I" .null) ∧ (Fld Z h a1 "com/example/hike/hike/Proximity$Group" "from" "I" (.int p3)) ∧ (Fld Z h a1 "com/example/hike/hike/Proximity$Group" "to" "I" (.int p4)) ∧ (Fld Z h a1 "com/example/hike/hike/Proximity$Group" "reverse" "Z" (.int (0 : Int32))) ∧ (Fld Z h a1 "com/example/hike/hike/Proximity$Group" "skipped" "[I" .null)
set_option maxRecDepth 65536 in
set_option maxHeartbeats 40000000 in
theorem rm2_n0 (l : Launch) (Z : State) (a0 : Array Value) (hw : ∀ d ∈ tables_1, d.before a0 Z = true) (ws : List Jvm.Cond) (a1 : Addr) (p1 : Int32) (p3 : Int32) (p4 : Int32) (h0 : Heap) (n0 : Nat) (Z0 : n0 ≤ h0.size) (pre_E_a1 : Exa Z h0 a1 "com/example/hike/hike/Proximity$Group") (pre_g_a1 : n0 ≤ a1) (pre_F_a1_context : Fld Z h0 a1 "com/example/hike/hike/Proximity$Group" "context" "I" (.int (0 : Int32))) (pre_F_a1_order : Fld Z h0 a1 "com/example/hike/hike/Proximity$Group" "order" "[I" .null) (pre_F_a1_from : Fld Z h0 a1 "com/example/hike/hike/Proximity$Group" "from" "I" (.int (0 : Int32))) (pre_F_a1_to : Fld Z h0 a1 "com/example/hike/hike/Proximity$Group" "to" "I" (.int (0 : Int32))) (pre_F_a1_reverse : Fld Z h0 a1 "com/example/hike/hike/Proximity$Group" "reverse" "Z" (.int (0 : Int32))) (pre_F_a1_skipped : Fld Z h0 a1 "com/example/hike/hike/Proximity$Group" "skipped" "[I" .null) :
    MetFree l (⟨"com/example/hike/hike/Proximity$Group", "<init>", "(I[IIIZ[I)V"⟩ : MethodName) (head1 (Jvm.Cond.code (⟨"com/example/hike/hike/Proximity$Group", "<init>", "(I[IIIZ[I)V"⟩ : MethodName) prog_102_method_1_code 7 none :: ws) RM2_n0) (fun a U => a = #[(.ref a1), (.int p1), .null, (.int p3), (.int p4), (.int (0 : Int32)), .null] ∧ Z.Warmed39 U.vm ∧ U.heap = h0) (fun _ _ _ _ _ => True) (fun _ U o U' => ∃ v L, o = .returned v ∧ Q2_n0 Z a1 p1 p3 p4 h0 n0 v U'.heap L ∧ FrameEnd U o U' L RM2_n0.cells RM2_n0.slots) := by
  refine met_of (Q := fun v h L => Q2_n0 Z a1 p1 p3 p4 h0 n0 v h L) (plainFor_of_name pn_1) (fun m => by first | (simp [entryFrame, mkF, argsToLocals, Value.category]; done) | rfl) (Ls := #[.val (.ref a1), .val (.int p1), .val .null, .val (.int p3), .val (.int p4), .val (.int (0 : Int32)), .val .null]) ?_
  intro p e s m below meth c T0 QQ hx hZ hby hml hown hnm hret hlk X0 e0 hQ
  have hml : c.maxLocals = 7 := hml
  have hown : s.vm.findClass "com/example/hike/hike/Proximity$Group" = some m.cls := hown
  have hnm : meth.name = "<init>" := hnm
  have hret : meth.sig.returnType = none := hret
  have N0 := Fr.nil n0
  have K0 : Keep h0 h0 [a1] := Keep.refl h0 _
  show GoW p e below QQ (T0.setTop (mkF m 0 #[.val (.ref a1), .val (.int p1), .val .null, .val (.int p3), .val (.int p4), .val (.int (0 : Int32)), .val .null] []))
  refine GoW.st (fun t k => XS.aloadN X0.here hx rfl (hb hby d2_0) rfl rfl k) ?_
  show GoW p e below QQ (T0.setTop (mkF m 1 #[.val (.ref a1), .val (.int p1), .val .null, .val (.int p3), .val (.int p4), .val (.int (0 : Int32)), .val .null] [(.ref a1)]))
  obtain ⟨_, _, ⟨T1, zL1, zk1, zn1⟩, -, X1, ⟨Lc1, hQ1, zl1, zy1, zz1⟩, st1⟩ := X0.specialBack hx (y := (⟨"java/lang/Record", "<init>", "()V"⟩ : MethodName)) rfl hown (mvT hZ (hw _ (List.mem_of_getElem? (i := 13) rfl))) (mvT hZ (hw _ (List.mem_of_getElem? (i := 14) rfl))) (mvT hZ (hw _ (List.mem_of_getElem? (i := 17) rfl))) (by decide) (backOf (W := 0) (rm3 l Z a0 hw [] a1 h0 n0 (Nat.le_trans Z0 K0.1) ) hZ (hw _ (List.mem_of_getElem? (i := 17) rfl)) (hw _ (List.mem_of_getElem? (i := 16) rfl)) (by decide) (by decide)) (g := (mkF m 1 #[.val (.ref a1), .val (.int p1), .val .null, .val (.int p3), .val (.int p4), .val (.int (0 : Int32)), .val .null] [(.ref a1)])) rfl (by rw [hml]; rfl) (Steps.refl _) (a := a1) (argsL := []) (rest := []) (lenOf pd_0 rfl) rfl (by show 2 * 0 + _ ≤ _; exact Nat.le_of_eq rfl) (hb hby d2_1) (fun _ _ => ⟨rfl, e0, (by decide : 0 + 0 ≤ _), (by decide : 0 + 0 ≤ _)⟩)
  dsimp only [Pt.U, Pt.locs, Pt.cells, Pt.slots] at X1 zl1 zy1 zz1 st1 hQ1
  subst zl1 zy1 zz1
  obtain ⟨rfl, Nq1, hh1⟩ := hQ1
  have N1 := Fr.app N0 Nq1
  refine GoW.st (fun t k => st1.trans k) ?_
  show GoW p e below QQ (T1.setTop (mkF m 4 #[.val (.ref a1), .val (.int p1), .val .null, .val (.int p3), .val (.int p4), .val (.int (0 : Int32)), .val .null] []))
  refine GoW.st (fun t k => XS.aloadN X1.here hx rfl (hb hby d2_4) rfl rfl (XS.iloadN X1.here hx rfl (hb hby d2_5) rfl k)) ?_
  show GoW p e below QQ (T1.setTop (mkF m 6 #[.val (.ref a1), .val (.int p1), .val .null, .val (.int p3), .val (.int p4), .val (.int (0 : Int32)), .val .null] [(.int p1), (.ref a1)]))
  obtain ⟨T2, h2, X2, e2, W2, st2⟩ := putF X1 hx hZ hown (host := "") (Or.inl (hw _ (List.mem_of_getElem? (i := 21) rfl))) Via.refl hh1 pre_F_a1_context pre_E_a1 (Or.inr ⟨(hw _ (List.mem_of_getElem? (i := 22) rfl)), rfl, hnm⟩) (hw _ (List.mem_of_getElem? (i := 8) rfl)) (ty := .int) (by decide) rfl rfl (g := (mkF m 6 #[.val (.ref a1), .val (.int p1), .val .null, .val (.int p3), .val (.int p4), .val (.int (0 : Int32)), .val .null] [(.int p1), (.ref a1)])) rfl rfl (hb hby d2_6)
  refine GoW.st st2 ?_
  have f3_E_a1 : Exa Z h2 a1 "com/example/hike/hike/Proximity$Group" := pre_E_a1.wr W2
  have f3_F_a1_context : Fld Z h2 a1 "com/example/hike/hike/Proximity$Group" "context" "I" (.int p1) := pre_F_a1_context.same W2
  have f3_F_a1_order : Fld Z h2 a1 "com/example/hike/hike/Proximity$Group" "order" "[I" .null := pre_F_a1_order.other W2 (Or.inr (slot_ne (Or.inr (hw _ (List.mem_of_getElem? (i := 24) rfl))) (Or.inr (hw _ (List.mem_of_getElem? (i := 22) rfl))) (by decide) (t := (.array .int)) (t' := .int) (by decide) (by decide)))
  have f3_F_a1_from : Fld Z h2 a1 "com/example/hike/hike/Proximity$Group" "from" "I" (.int (0 : Int32)) := pre_F_a1_from.other W2 (Or.inr (slot_ne (Or.inr (hw _ (List.mem_of_getElem? (i := 26) rfl))) (Or.inr (hw _ (List.mem_of_getElem? (i := 22) rfl))) (by decide) (t := .int) (t' := .int) (by decide) (by decide)))
  have f3_F_a1_to : Fld Z h2 a1 "com/example/hike/hike/Proximity$Group" "to" "I" (.int (0 : Int32)) := pre_F_a1_to.other W2 (Or.inr (slot_ne (Or.inr (hw _ (List.mem_of_getElem? (i := 28) rfl))) (Or.inr (hw _ (List.mem_of_getElem? (i := 22) rfl))) (by decide) (t := .int) (t' := .int) (by decide) (by decide)))
  have f3_F_a1_reverse : Fld Z h2 a1 "com/example/hike/hike/Proximity$Group" "reverse" "Z" (.int (0 : Int32)) := pre_F_a1_reverse.other W2 (Or.inr (slot_ne (Or.inr (hw _ (List.mem_of_getElem? (i := 30) rfl))) (Or.inr (hw _ (List.mem_of_getElem? (i := 22) rfl))) (by decide) (t := .boolean) (t' := .int) (by decide) (by decide)))
  have f3_F_a1_skipped : Fld Z h2 a1 "com/example/hike/hike/Proximity$Group" "skipped" "[I" .null := pre_F_a1_skipped.other W2 (Or.inr (slot_ne (Or.inr (hw _ (List.mem_of_getElem? (i := 32) rfl))) (Or.inr (hw _ (List.mem_of_getElem? (i := 22) rfl))) (by decide) (t := (.array .int)) (t' := .int) (by decide) (by decide)))
  have K2 : Keep h0 h2 [a1] := K0.wr W2 (Or.inl (List.mem_of_getElem? (i := 0) rfl))
  have N2 := Fr.snoc X2 N1 pre_g_a1
  show GoW p e below QQ (T2.setTop (mkF m 9 #[.val (.ref a1), .val (.int p1), .val .null, .val (.int p3), .val (.int p4), .val (.int (0 : Int32)), .val .null] []))
  refine GoW.st (fun t k => XS.aloadN X2.here hx rfl (hb hby d2_9) rfl rfl (XS.aloadN X2.here hx rfl (hb hby d2_10) rfl rfl k)) ?_
  show GoW p e below QQ (T2.setTop (mkF m 11 #[.val (.ref a1), .val (.int p1), .val .null, .val (.int p3), .val (.int p4), .val (.int (0 : Int32)), .val .null] [.null, (.ref a1)]))
  obtain ⟨T4, h4, X4, e4, W4, st4⟩ := putF X2 hx hZ hown (host := "") (Or.inl (hw _ (List.mem_of_getElem? (i := 23) rfl))) Via.refl e2 f3_F_a1_order f3_E_a1 (Or.inr ⟨(hw _ (List.mem_of_getElem? (i := 24) rfl)), rfl, hnm⟩) (hw _ (List.mem_of_getElem? (i := 8) rfl)) (ty := (.array .int)) (by decide) rfl rfl (g := (mkF m 11 #[.val (.ref a1), .val (.int p1), .val .null, .val (.int p3), .val (.int p4), .val (.int (0 : Int32)), .val .null] [.null, (.ref a1)])) rfl rfl (hb hby d2_11)
  refine GoW.st st4 ?_
  have f5_E_a1 : Exa Z h4 a1 "com/example/hike/hike/Proximity$Group" := f3_E_a1.wr W4
  have f5_F_a1_context : Fld Z h4 a1 "com/example/hike/hike/Proximity$Group" "context" "I" (.int p1) := f3_F_a1_context.other W4 (Or.inr (slot_ne (Or.inr (hw _ (List.mem_of_getElem? (i := 22) rfl))) (Or.inr (hw _ (List.mem_of_getElem? (i := 24) rfl))) (by decide) (t := .int) (t' := (.array .int)) (by decide) (by decide)))
  have f5_F_a1_order : Fld Z h4 a1 "com/example/hike/hike/Proximity$Group" "order" "[I" .null := f3_F_a1_order.same W4
  have f5_F_a1_from : Fld Z h4 a1 "com/example/hike/hike/Proximity$Group" "from" "I" (.int (0 : Int32)) := f3_F_a1_from.other W4 (Or.inr (slot_ne (Or.inr (hw _ (List.mem_of_getElem? (i := 26) rfl))) (Or.inr (hw _ (List.mem_of_getElem? (i := 24) rfl))) (by decide) (t := .int) (t' := (.array .int)) (by decide) (by decide)))
  have f5_F_a1_to : Fld Z h4 a1 "com/example/hike/hike/Proximity$Group" "to" "I" (.int (0 : Int32)) := f3_F_a1_to.other W4 (Or.inr (slot_ne (Or.inr (hw _ (List.mem_of_getElem? (i := 28) rfl))) (Or.inr (hw _ (List.mem_of_getElem? (i := 24) rfl))) (by decide) (t := .int) (t' := (.array .int)) (by decide) (by decide)))
  have f5_F_a1_reverse : Fld Z h4 a1 "com/example/hike/hike/Proximity$Group" "reverse" "Z" (.int (0 : Int32)) := f3_F_a1_reverse.other W4 (Or.inr (slot_ne (Or.inr (hw _ (List.mem_of_getElem? (i := 30) rfl))) (Or.inr (hw _ (List.mem_of_getElem? (i := 24) rfl))) (by decide) (t := .boolean) (t' := (.array .int)) (by decide) (by decide)))
  have f5_F_a1_skipped : Fld Z h4 a1 "com/example/hike/hike/Proximity$Group" "skipped" "[I" .null := f3_F_a1_skipped.other W4 (Or.inr (slot_ne (Or.inr (hw _ (List.mem_of_getElem? (i := 32) rfl))) (Or.inr (hw _ (List.mem_of_getElem? (i := 24) rfl))) (by decide) (t := (.array .int)) (t' := (.array .int)) (by decide) (by decide)))
  have K4 : Keep h0 h4 [a1] := K2.wr W4 (Or.inl (List.mem_of_getElem? (i := 0) rfl))
  have N4 := Fr.snoc X4 N2 pre_g_a1
  show GoW p e below QQ (T4.setTop (mkF m 14 #[.val (.ref a1), .val (.int p1), .val .null, .val (.int p3), .val (.int p4), .val (.int (0 : Int32)), .val .null] []))
  refine GoW.st (fun t k => XS.aloadN X4.here hx rfl (hb hby d2_14) rfl rfl (XS.iloadN X4.here hx rfl (hb hby d2_15) rfl k)) ?_
  show GoW p e below QQ (T4.setTop (mkF m 16 #[.val (.ref a1), .val (.int p1), .val .null, .val (.int p3), .val (.int p4), .val (.int (0 : Int32)), .val .null] [(.int p3), (.ref a1)]))
  obtain ⟨T6, h6, X6, e6, W6, st6⟩ := putF X4 hx hZ hown (host := "") (Or.inl (hw _ (List.mem_of_getElem? (i := 25) rfl))) Via.refl e4 f5_F_a1_from f5_E_a1 (Or.inr ⟨(hw _ (List.mem_of_getElem? (i := 26) rfl)), rfl, hnm⟩) (hw _ (List.mem_of_getElem? (i := 8) rfl)) (ty := .int) (by decide) rfl rfl (g := (mkF m 16 #[.val (.ref a1), .val (.int p1), .val .null, .val (.int p3), .val (.int p4), .val (.int (0 : Int32)), .val .null] [(.int p3), (.ref a1)])) rfl rfl (hb hby d2_16)
  refine GoW.st st6 ?_
  have f7_E_a1 : Exa Z h6 a1 "com/example/hike/hike/Proximity$Group" := f5_E_a1.wr W6
  have f7_F_a1_context : Fld Z h6 a1 "com/example/hike/hike/Proximity$Group" "context" "I" (.int p1) := f5_F_a1_context.other W6 (Or.inr (slot_ne (Or.inr (hw _ (List.mem_of_getElem? (i := 22) rfl))) (Or.inr (hw _ (List.mem_of_getElem? (i := 26) rfl))) (by decide) (t := .int) (t' := .int) (by decide) (by decide)))
  have f7_F_a1_order : Fld Z h6 a1 "com/example/hike/hike/Proximity$Group" "order" "[I" .null := f5_F_a1_order.other W6 (Or.inr (slot_ne (Or.inr (hw _ (List.mem_of_getElem? (i := 24) rfl))) (Or.inr (hw _ (List.mem_of_getElem? (i := 26) rfl))) (by decide) (t := (.array .int)) (t' := .int) (by decide) (by decide)))
  have f7_F_a1_from : Fld Z h6 a1 "com/example/hike/hike/Proximity$Group" "from" "I" (.int p3) := f5_F_a1_from.same W6
  have f7_F_a1_to : Fld Z h6 a1 "com/example/hike/hike/Proximity$Group" "to" "I" (.int (0 : Int32)) := f5_F_a1_to.other W6 (Or.inr (slot_ne (Or.inr (hw _ (List.mem_of_getElem? (i := 28) rfl))) (Or.inr (hw _ (List.mem_of_getElem? (i := 26) rfl))) (by decide) (t := .int) (t' := .int) (by decide) (by decide)))
  have f7_F_a1_reverse : Fld Z h6 a1 "com/example/hike/hike/Proximity$Group" "reverse" "Z" (.int (0 : Int32)) := f5_F_a1_reverse.other W6 (Or.inr (slot_ne (Or.inr (hw _ (List.mem_of_getElem? (i := 30) rfl))) (Or.inr (hw _ (List.mem_of_getElem? (i := 26) rfl))) (by decide) (t := .boolean) (t' := .int) (by decide) (by decide)))
  have f7_F_a1_skipped : Fld Z h6 a1 "com/example/hike/hike/Proximity$Group" "skipped" "[I" .null := f5_F_a1_skipped.other W6 (Or.inr (slot_ne (Or.inr (hw _ (List.mem_of_getElem? (i := 32) rfl))) (Or.inr (hw _ (List.mem_of_getElem? (i := 26) rfl))) (by decide) (t := (.array .int)) (t' := .int) (by decide) (by decide)))
  have K6 : Keep h0 h6 [a1] := K4.wr W6 (Or.inl (List.mem_of_getElem? (i := 0) rfl))
  have N6 := Fr.snoc X6 N4 pre_g_a1
  show GoW p e below QQ (T6.setTop (mkF m 19 #[.val (.ref a1), .val (.int p1), .val .null, .val (.int p3), .val (.int p4), .val (.int (0 : Int32)), .val .null] []))
  refine GoW.st (fun t k => XS.aloadN X6.here hx rfl (hb hby d2_19) rfl rfl (XS.iload X6.here hx rfl (hb hby d2_20) rfl k)) ?_
  show GoW p e below QQ (T6.setTop (mkF m 22 #[.val (.ref a1), .val (.int p1), .val .null, .val (.int p3), .val (.int p4), .val (.int (0 : Int32)), .val .null] [(.int p4), (.ref a1)]))
  obtain ⟨T8, h8, X8, e8, W8, st8⟩ := putF X6 hx hZ hown (host := "") (Or.inl (hw _ (List.mem_of_getElem? (i := 27) rfl))) Via.refl e6 f7_F_a1_to f7_E_a1 (Or.inr ⟨(hw _ (List.mem_of_getElem? (i := 28) rfl)), rfl, hnm⟩) (hw _ (List.mem_of_getElem? (i := 8) rfl)) (ty := .int) (by decide) rfl rfl (g := (mkF m 22 #[.val (.ref a1), .val (.int p1), .val .null, .val (.int p3), .val (.int p4), .val (.int (0 : Int32)), .val .null] [(.int p4), (.ref a1)])) rfl rfl (hb hby d2_22)
  refine GoW.st st8 ?_
  have f9_E_a1 : Exa Z h8 a1 "com/example/hike/hike/Proximity$Group" := f7_E_a1.wr W8
  have f9_F_a1_context : Fld Z h8 a1 "com/example/hike/hike/Proximity$Group" "context" "I" (.int p1) := f7_F_a1_context.other W8 (Or.inr (slot_ne (Or.inr (hw _ (List.mem_of_getElem? (i := 22) rfl))) (Or.inr (hw _ (List.mem_of_getElem? (i := 28) rfl))) (by decide) (t := .int) (t' := .int) (by decide) (by decide)))
  have f9_F_a1_order : Fld Z h8 a1 "com/example/hike/hike/Proximity$Group" "order" "[I" .null := f7_F_a1_order.other W8 (Or.inr (slot_ne (Or.inr (hw _ (List.mem_of_getElem? (i := 24) rfl))) (Or.inr (hw _ (List.mem_of_getElem? (i := 28) rfl))) (by decide) (t := (.array .int)) (t' := .int) (by decide) (by decide)))
  have f9_F_a1_from : Fld Z h8 a1 "com/example/hike/hike/Proximity$Group" "from" "I" (.int p3) := f7_F_a1_from.other W8 (Or.inr (slot_ne (Or.inr (hw _ (List.mem_of_getElem? (i := 26) rfl))) (Or.inr (hw _ (List.mem_of_getElem? (i := 28) rfl))) (by decide) (t := .int) (t' := .int) (by decide) (by decide)))
  have f9_F_a1_to : Fld Z h8 a1 "com/example/hike/hike/Proximity$Group" "to" "I" (.int p4) := f7_F_a1_to.same W8
  have f9_F_a1_reverse : Fld Z h8 a1 "com/example/hike/hike/Proximity$Group" "reverse" "Z" (.int (0 : Int32)) := f7_F_a1_reverse.other W8 (Or.inr (slot_ne (Or.inr (hw _ (List.mem_of_getElem? (i := 30) rfl))) (Or.inr (hw _ (List.mem_of_getElem? (i := 28) rfl))) (by decide) (t := .boolean) (t' := .int) (by decide) (by decide)))
  have f9_F_a1_skipped : Fld Z h8 a1 "com/example/hike/hike/Proximity$Group" "skipped" "[I" .null := f7_F_a1_skipped.other W8 (Or.inr (slot_ne (Or.inr (hw _ (List.mem_of_getElem? (i := 32) rfl))) (Or.inr (hw _ (List.mem_of_getElem? (i := 28) rfl))) (by decide) (t := (.array .int)) (t' := .int) (by decide) (by decide)))
  have K8 : Keep h0 h8 [a1] := K6.wr W8 (Or.inl (List.mem_of_getElem? (i := 0) rfl))
  have N8 := Fr.snoc X8 N6 pre_g_a1
  show GoW p e below QQ (T8.setTop (mkF m 25 #[.val (.ref a1), .val (.int p1), .val .null, .val (.int p3), .val (.int p4), .val (.int (0 : Int32)), .val .null] []))
  refine GoW.st (fun t k => XS.aloadN X8.here hx rfl (hb hby d2_25) rfl rfl (XS.iload X8.here hx rfl (hb hby d2_26) rfl k)) ?_
  show GoW p e below QQ (T8.setTop (mkF m 28 #[.val (.ref a1), .val (.int p1), .val .null, .val (.int p3), .val (.int p4), .val (.int (0 : Int32)), .val .null] [(.int (0 : Int32)), (.ref a1)]))
  obtain ⟨T10, h10, X10, e10, W10, st10⟩ := putFN X8 hx hZ hown (hw _ (List.mem_of_getElem? (i := 29) rfl)) Via.refl e8 f9_F_a1_reverse f9_E_a1 (Or.inr ⟨(hw _ (List.mem_of_getElem? (i := 30) rfl)), rfl, hnm⟩) (hw _ (List.mem_of_getElem? (i := 8) rfl)) (ty := .boolean) (v' := (.int (nar .boolean (0 : Int32)))) (by decide) rfl (fits_nar_bool _) (g := (mkF m 28 #[.val (.ref a1), .val (.int p1), .val .null, .val (.int p3), .val (.int p4), .val (.int (0 : Int32)), .val .null] [(.int (0 : Int32)), (.ref a1)])) rfl rfl (hb hby d2_28)
  refine GoW.st st10 ?_
  have f11_E_a1 : Exa Z h10 a1 "com/example/hike/hike/Proximity$Group" := f9_E_a1.wr W10
  have f11_F_a1_context : Fld Z h10 a1 "com/example/hike/hike/Proximity$Group" "context" "I" (.int p1) := f9_F_a1_context.other W10 (Or.inr (slot_ne (Or.inr (hw _ (List.mem_of_getElem? (i := 22) rfl))) (Or.inr (hw _ (List.mem_of_getElem? (i := 30) rfl))) (by decide) (t := .int) (t' := .boolean) (by decide) (by decide)))
  have f11_F_a1_order : Fld Z h10 a1 "com/example/hike/hike/Proximity$Group" "order" "[I" .null := f9_F_a1_order.other W10 (Or.inr (slot_ne (Or.inr (hw _ (List.mem_of_getElem? (i := 24) rfl))) (Or.inr (hw _ (List.mem_of_getElem? (i := 30) rfl))) (by decide) (t := (.array .int)) (t' := .boolean) (by decide) (by decide)))
  have f11_F_a1_from : Fld Z h10 a1 "com/example/hike/hike/Proximity$Group" "from" "I" (.int p3) := f9_F_a1_from.other W10 (Or.inr (slot_ne (Or.inr (hw _ (List.mem_of_getElem? (i := 26) rfl))) (Or.inr (hw _ (List.mem_of_getElem? (i := 30) rfl))) (by decide) (t := .int) (t' := .boolean) (by decide) (by decide)))
  have f11_F_a1_to : Fld Z h10 a1 "com/example/hike/hike/Proximity$Group" "to" "I" (.int p4) := f9_F_a1_to.other W10 (Or.inr (slot_ne (Or.inr (hw _ (List.mem_of_getElem? (i := 28) rfl))) (Or.inr (hw _ (List.mem_of_getElem? (i := 30) rfl))) (by decide) (t := .int) (t' := .boolean) (by decide) (by decide)))
  have f11_F_a1_reverse : Fld Z h10 a1 "com/example/hike/hike/Proximity$Group" "reverse" "Z" (.int (0 : Int32)) := f9_F_a1_reverse.same W10
  have f11_F_a1_skipped : Fld Z h10 a1 "com/example/hike/hike/Proximity$Group" "skipped" "[I" .null := f9_F_a1_skipped.other W10 (Or.inr (slot_ne (Or.inr (hw _ (List.mem_of_getElem? (i := 32) rfl))) (Or.inr (hw _ (List.mem_of_getElem? (i := 30) rfl))) (by decide) (t := (.array .int)) (t' := .boolean) (by decide) (by decide)))
  have K10 : Keep h0 h10 [a1] := K8.wr W10 (Or.inl (List.mem_of_getElem? (i := 0) rfl))
  have N10 := Fr.snoc X10 N8 pre_g_a1
  show GoW p e below QQ (T10.setTop (mkF m 31 #[.val (.ref a1), .val (.int p1), .val .null, .val (.int p3), .val (.int p4), .val (.int (0 : Int32)), .val .null] []))
  refine GoW.st (fun t k => XS.aloadN X10.here hx rfl (hb hby d2_31) rfl rfl (XS.aload X10.here hx rfl (hb hby d2_32) rfl rfl k)) ?_
  show GoW p e below QQ (T10.setTop (mkF m 34 #[.val (.ref a1), .val (.int p1), .val .null, .val (.int p3), .val (.int p4), .val (.int (0 : Int32)), .val .null] [.null, (.ref a1)]))
  obtain ⟨T12, h12, X12, e12, W12, st12⟩ := putF X10 hx hZ hown (host := "") (Or.inl (hw _ (List.mem_of_getElem? (i := 31) rfl))) Via.refl e10 f11_F_a1_skipped f11_E_a1 (Or.inr ⟨(hw _ (List.mem_of_getElem? (i := 32) rfl)), rfl, hnm⟩) (hw _ (List.mem_of_getElem? (i := 8) rfl)) (ty := (.array .int)) (by decide) rfl rfl (g := (mkF m 34 #[.val (.ref a1), .val (.int p1), .val .null, .val (.int p3), .val (.int p4), .val (.int (0 : Int32)), .val .null] [.null, (.ref a1)])) rfl rfl (hb hby d2_34)
  refine GoW.st st12 ?_
  have f13_E_a1 : Exa Z h12 a1 "com/example/hike/hike/Proximity$Group" := f11_E_a1.wr W12
  have f13_F_a1_context : Fld Z h12 a1 "com/example/hike/hike/Proximity$Group" "context" "I" (.int p1) := f11_F_a1_context.other W12 (Or.inr (slot_ne (Or.inr (hw _ (List.mem_of_getElem? (i := 22) rfl))) (Or.inr (hw _ (List.mem_of_getElem? (i := 32) rfl))) (by decide) (t := .int) (t' := (.array .int)) (by decide) (by decide)))
  have f13_F_a1_order : Fld Z h12 a1 "com/example/hike/hike/Proximity$Group" "order" "[I" .null := f11_F_a1_order.other W12 (Or.inr (slot_ne (Or.inr (hw _ (List.mem_of_getElem? (i := 24) rfl))) (Or.inr (hw _ (List.mem_of_getElem? (i := 32) rfl))) (by decide) (t := (.array .int)) (t' := (.array .int)) (by decide) (by decide)))
  have f13_F_a1_from : Fld Z h12 a1 "com/example/hike/hike/Proximity$Group" "from" "I" (.int p3) := f11_F_a1_from.other W12 (Or.inr (slot_ne (Or.inr (hw _ (List.mem_of_getElem? (i := 26) rfl))) (Or.inr (hw _ (List.mem_of_getElem? (i := 32) rfl))) (by decide) (t := .int) (t' := (.array .int)) (by decide) (by decide)))
  have f13_F_a1_to : Fld Z h12 a1 "com/example/hike/hike/Proximity$Group" "to" "I" (.int p4) := f11_F_a1_to.other W12 (Or.inr (slot_ne (Or.inr (hw _ (List.mem_of_getElem? (i := 28) rfl))) (Or.inr (hw _ (List.mem_of_getElem? (i := 32) rfl))) (by decide) (t := .int) (t' := (.array .int)) (by decide) (by decide)))
  have f13_F_a1_reverse : Fld Z h12 a1 "com/example/hike/hike/Proximity$Group" "reverse" "Z" (.int (0 : Int32)) := f11_F_a1_reverse.other W12 (Or.inr (slot_ne (Or.inr (hw _ (List.mem_of_getElem? (i := 30) rfl))) (Or.inr (hw _ (List.mem_of_getElem? (i := 32) rfl))) (by decide) (t := .boolean) (t' := (.array .int)) (by decide) (by decide)))
  have f13_F_a1_skipped : Fld Z h12 a1 "com/example/hike/hike/Proximity$Group" "skipped" "[I" .null := f11_F_a1_skipped.same W12
  have K12 : Keep h0 h12 [a1] := K10.wr W12 (Or.inl (List.mem_of_getElem? (i := 0) rfl))
  have N12 := Fr.snoc X12 N10 pre_g_a1
  show GoW p e below QQ (T12.setTop (mkF m 37 #[.val (.ref a1), .val (.int p1), .val .null, .val (.int p3), .val (.int p4), .val (.int (0 : Int32)), .val .null] []))
  exact GoW.fin X12 none (fun _ => rfl) hlk hQ e12 ⟨rfl, N12, K12, f13_E_a1, f13_F_a1_order, f13_F_a1_from, f13_F_a1_to, f13_F_a1_reverse, f13_F_a1_skipped⟩ (by decide) (by decide) (fun fs hr => X12.returnOut hx hret (hb hby d2_37) hr)
def RM2_n1 : Room := { frames := 2, cells := 0, slots := 0, locals := 24 }
def Q2_n1 (Z : State) (a1 : Addr) (p1 : Int32) (p3 : Int32) (p4 : Int32) (h0 : Heap) (n0 : Nat) (v : Option Value) (h : Heap) (L : List Loc) : Prop := v = none ∧ Fr n0 L ∧ Keep h0 h [a1] ∧ (Exa Z h a1 "com/example/hike/hike/Proximity$Group") ∧ (Fld Z h a1 "com/example/hike/hike/Proximity$Group" "order" "[I" .null) ∧ (Fld Z h a1 "com/example/hike/hike/Proximity$Group" "from" "I" (.int p3)) ∧ (Fld Z h a1 "com/example/hike/hike/Proximity$Group" "to" "I" (.int p4)) ∧ (Fld Z h a1 "com/example/hike/hike/Proximity$Group" "reverse" "Z" (.int (1 : Int32))) ∧ (Fld Z h a1 "com/example/hike/hike/Proximity$Group" "skipped" "[I" .null)
set_option maxRecDepth 65536 in
set_option maxHeartbeats 40000000 in
theorem rm2_n1 (l : Launch) (Z : State) (a0 : Array Value) (hw : ∀ d ∈ tables_1, d.before a0 Z = true) (ws : List Jvm.Cond) (a1 : Addr) (p1 : Int32) (p3 : Int32) (p4 : Int32) (h0 : Heap) (n0 : Nat) (Z0 : n0 ≤ h0.size) (pre_E_a1 : Exa Z h0 a1 "com/example/hike/hike/Proximity$Group") (pre_g_a1 : n0 ≤ a1) (pre_F_a1_context : Fld Z h0 a1 "com/example/hike/hike/Proximity$Group" "context" "I" (.int (0 : Int32))) (pre_F_a1_order : Fld Z h0 a1 "com/example/hike/hike/Proximity$Group" "order" "[I" .null) (pre_F_a1_from : Fld Z h0 a1 "com/example/hike/hike/Proximity$Group" "from" "I" (.int (0 : Int32))) (pre_F_a1_to : Fld Z h0 a1 "com/example/hike/hike/Proximity$Group" "to" "I" (.int (0 : Int32))) (pre_F_a1_reverse : Fld Z h0 a1 "com/example/hike/hike/Proximity$Group" "reverse" "Z" (.int (0 : Int32))) (pre_F_a1_skipped : Fld Z h0 a1 "com/example/hike/hike/Proximity$Group" "skipped" "[I" .null) :
    MetFree l (⟨"com/example/hike/hike/Proximity$Group", "<init>", "(I[IIIZ[I)V"⟩ : MethodName) (head1 (Jvm.Cond.code (⟨"com/example/hike/hike/Proximity$Group", "<init>", "(I[IIIZ[I)V"⟩ : MethodName) prog_102_method_1_code 7 none :: ws) RM2_n1) (fun a U => a = #[(.ref a1), (.int p1), .null, (.int p3), (.int p4), (.int (1 : Int32)), .null] ∧ Z.Warmed39 U.vm ∧ U.heap = h0) (fun _ _ _ _ _ => True) (fun _ U o U' => ∃ v L, o = .returned v ∧ Q2_n1 Z a1 p1 p3 p4 h0 n0 v U'.heap L ∧ FrameEnd U o U' L RM2_n1.cells RM2_n1.slots) := by
  refine met_of (Q := fun v h L => Q2_n1 Z a1 p1 p3 p4 h0 n0 v h L) (plainFor_of_name pn_1) (fun m => by first | (simp [entryFrame, mkF, argsToLocals, Value.category]; done) | rfl) (Ls := #[.val (.ref a1), .val (.int p1), .val .null, .val (.int p3), .val (.int p4), .val (.int (1 : Int32)), .val .null]) ?_
  intro p e s m below meth c T0 QQ hx hZ hby hml hown hnm hret hlk X0 e0 hQ
  have hml : c.maxLocals = 7 := hml
  have hown : s.vm.findClass "com/example/hike/hike/Proximity$Group" = some m.cls := hown
  have hnm : meth.name = "<init>" := hnm
  have hret : meth.sig.returnType = none := hret
  have N0 := Fr.nil n0
  have K0 : Keep h0 h0 [a1] := Keep.refl h0 _
  show GoW p e below QQ (T0.setTop (mkF m 0 #[.val (.ref a1), .val (.int p1), .val .null, .val (.int p3), .val (.int p4), .val (.int (1 : Int32)), .val .null] []))
  refine GoW.st (fun t k => XS.aloadN X0.here hx rfl (hb hby d2_0) rfl rfl k) ?_
  show GoW p e below QQ (T0.setTop (mkF m 1 #[.val (.ref a1), .val (.int p1), .val .null, .val (.int p3), .val (.int p4), .val (.int (1 : Int32)), .val .null] [(.ref a1)]))
  obtain ⟨_, _, ⟨T1, zL1, zk1, zn1⟩, -, X1, ⟨Lc1, hQ1, zl1, zy1, zz1⟩, st1⟩ := X0.specialBack hx (y := (⟨"java/lang/Record", "<init>", "()V"⟩ : MethodName)) rfl hown (mvT hZ (hw _ (List.mem_of_getElem? (i := 13) rfl))) (mvT hZ (hw _ (List.mem_of_getElem? (i := 14) rfl))) (mvT hZ (hw _ (List.mem_of_getElem? (i := 17) rfl))) (by decide) (backOf (W := 0) (rm3 l Z a0 hw [] a1 h0 n0 (Nat.le_trans Z0 K0.1) ) hZ (hw _ (List.mem_of_getElem? (i := 17) rfl)) (hw _ (List.mem_of_getElem? (i := 16) rfl)) (by decide) (by decide)) (g := (mkF m 1 #[.val (.ref a1), .val (.int p1), .val .null, .val (.int p3), .val (.int p4), .val (.int (1 : Int32)), .val .null] [(.ref a1)])) rfl (by rw [hml]; rfl) (Steps.refl _) (a := a1) (argsL := []) (rest := []) (lenOf pd_0 rfl) rfl (by show 2 * 0 + _ ≤ _; exact Nat.le_of_eq rfl) (hb hby d2_1) (fun _ _ => ⟨rfl, e0, (by decide : 0 + 0 ≤ _), (by decide : 0 + 0 ≤ _)⟩)
  dsimp only [Pt.U, Pt.locs, Pt.cells, Pt.slots] at X1 zl1 zy1 zz1 st1 hQ1
  subst zl1 zy1 zz1
  obtain ⟨rfl, Nq1, hh1⟩ := hQ1
  have N1 := Fr.app N0 Nq1
  refine GoW.st (fun t k => st1.trans k) ?_
  show GoW p e below QQ (T1.setTop (mkF m 4 #[.val (.ref a1), .val (.int p1), .val .null, .val (.int p3), .val (.int p4), .val (.int (1 : Int32)), .val .null] []))
  refine GoW.st (fun t k => XS.aloadN X1.here hx rfl (hb hby d2_4) rfl rfl (XS.iloadN X1.here hx rfl (hb hby d2_5) rfl k)) ?_
  show GoW p e below QQ (T1.setTop (mkF m 6 #[.val (.ref a1), .val (.int p1), .val .null, .val (.int p3), .val (.int p4), .val (.int (1 : Int32)), .val .null] [(.int p1), (.ref a1)]))
  obtain ⟨T2, h2, X2, e2, W2, st2⟩ := putF X1 hx hZ hown (host := "") (Or.inl (hw _ (List.mem_of_getElem? (i := 21) rfl))) Via.refl hh1 pre_F_a1_context pre_E_a1 (Or.inr ⟨(hw _ (List.mem_of_getElem? (i := 22) rfl)), rfl, hnm⟩) (hw _ (List.mem_of_getElem? (i := 8) rfl)) (ty := .int) (by decide) rfl rfl (g := (mkF m 6 #[.val (.ref a1), .val (.int p1), .val .null, .val (.int p3), .val (.int p4), .val (.int (1 : Int32)), .val .null] [(.int p1), (.ref a1)])) rfl rfl (hb hby d2_6)
  refine GoW.st st2 ?_
  have f3_E_a1 : Exa Z h2 a1 "com/example/hike/hike/Proximity$Group" := pre_E_a1.wr W2
  have f3_F_a1_context : Fld Z h2 a1 "com/example/hike/hike/Proximity$Group" "context" "I" (.int p1) := pre_F_a1_context.same W2
  have f3_F_a1_order : Fld Z h2 a1 "com/example/hike/hike/Proximity$Group" "order" "[I" .null := pre_F_a1_order.other W2 (Or.inr (slot_ne (Or.inr (hw _ (List.mem_of_getElem? (i := 24) rfl))) (Or.inr (hw _ (List.mem_of_getElem? (i := 22) rfl))) (by decide) (t := (.array .int)) (t' := .int) (by decide) (by decide)))
  have f3_F_a1_from : Fld Z h2 a1 "com/example/hike/hike/Proximity$Group" "from" "I" (.int (0 : Int32)) := pre_F_a1_from.other W2 (Or.inr (slot_ne (Or.inr (hw _ (List.mem_of_getElem? (i := 26) rfl))) (Or.inr (hw _ (List.mem_of_getElem? (i := 22) rfl))) (by decide) (t := .int) (t' := .int) (by decide) (by decide)))
  have f3_F_a1_to : Fld Z h2 a1 "com/example/hike/hike/Proximity$Group" "to" "I" (.int (0 : Int32)) := pre_F_a1_to.other W2 (Or.inr (slot_ne (Or.inr (hw _ (List.mem_of_getElem? (i := 28) rfl))) (Or.inr (hw _ (List.mem_of_getElem? (i := 22) rfl))) (by decide) (t := .int) (t' := .int) (by decide) (by decide)))
  have f3_F_a1_reverse : Fld Z h2 a1 "com/example/hike/hike/Proximity$Group" "reverse" "Z" (.int (0 : Int32)) := pre_F_a1_reverse.other W2 (Or.inr (slot_ne (Or.inr (hw _ (List.mem_of_getElem? (i := 30) rfl))) (Or.inr (hw _ (List.mem_of_getElem? (i := 22) rfl))) (by decide) (t := .boolean) (t' := .int) (by decide) (by decide)))
  have f3_F_a1_skipped : Fld Z h2 a1 "com/example/hike/hike/Proximity$Group" "skipped" "[I" .null := pre_F_a1_skipped.other W2 (Or.inr (slot_ne (Or.inr (hw _ (List.mem_of_getElem? (i := 32) rfl))) (Or.inr (hw _ (List.mem_of_getElem? (i := 22) rfl))) (by decide) (t := (.array .int)) (t' := .int) (by decide) (by decide)))
  have K2 : Keep h0 h2 [a1] := K0.wr W2 (Or.inl (List.mem_of_getElem? (i := 0) rfl))
  have N2 := Fr.snoc X2 N1 pre_g_a1
  show GoW p e below QQ (T2.setTop (mkF m 9 #[.val (.ref a1), .val (.int p1), .val .null, .val (.int p3), .val (.int p4), .val (.int (1 : Int32)), .val .null] []))
  refine GoW.st (fun t k => XS.aloadN X2.here hx rfl (hb hby d2_9) rfl rfl (XS.aloadN X2.here hx rfl (hb hby d2_10) rfl rfl k)) ?_
  show GoW p e below QQ (T2.setTop (mkF m 11 #[.val (.ref a1), .val (.int p1), .val .null, .val (.int p3), .val (.int p4), .val (.int (1 : Int32)), .val .null] [.null, (.ref a1)]))
  obtain ⟨T4, h4, X4, e4, W4, st4⟩ := putF X2 hx hZ hown (host := "") (Or.inl (hw _ (List.mem_of_getElem? (i := 23) rfl))) Via.refl e2 f3_F_a1_order f3_E_a1 (Or.inr ⟨(hw _ (List.mem_of_getElem? (i := 24) rfl)), rfl, hnm⟩) (hw _ (List.mem_of_getElem? (i := 8) rfl)) (ty := (.array .int)) (by decide) rfl rfl (g := (mkF m 11 #[.val (.ref a1), .val (.int p1), .val .null, .val (.int p3), .val (.int p4), .val (.int (1 : Int32)), .val .null] [.null, (.ref a1)])) rfl rfl (hb hby d2_11)
  refine GoW.st st4 ?_
  have f5_E_a1 : Exa Z h4 a1 "com/example/hike/hike/Proximity$Group" := f3_E_a1.wr W4
  have f5_F_a1_context : Fld Z h4 a1 "com/example/hike/hike/Proximity$Group" "context" "I" (.int p1) := f3_F_a1_context.other W4 (Or.inr (slot_ne (Or.inr (hw _ (List.mem_of_getElem? (i := 22) rfl))) (Or.inr (hw _ (List.mem_of_getElem? (i := 24) rfl))) (by decide) (t := .int) (t' := (.array .int)) (by decide) (by decide)))
  have f5_F_a1_order : Fld Z h4 a1 "com/example/hike/hike/Proximity$Group" "order" "[I" .null := f3_F_a1_order.same W4
  have f5_F_a1_from : Fld Z h4 a1 "com/example/hike/hike/Proximity$Group" "from" "I" (.int (0 : Int32)) := f3_F_a1_from.other W4 (Or.inr (slot_ne (Or.inr (hw _ (List.mem_of_getElem? (i := 26) rfl))) (Or.inr (hw _ (List.mem_of_getElem? (i := 24) rfl))) (by decide) (t := .int) (t' := (.array .int)) (by decide) (by decide)))
  have f5_F_a1_to : Fld Z h4 a1 "com/example/hike/hike/Proximity$Group" "to" "I" (.int (0 : Int32)) := f3_F_a1_to.other W4 (Or.inr (slot_ne (Or.inr (hw _ (List.mem_of_getElem? (i := 28) rfl))) (Or.inr (hw _ (List.mem_of_getElem? (i := 24) rfl))) (by decide) (t := .int) (t' := (.array .int)) (by decide) (by decide)))
  have f5_F_a1_reverse : Fld Z h4 a1 "com/example/hike/hike/Proximity$Group" "reverse" "Z" (.int (0 : Int32)) := f3_F_a1_reverse.other W4 (Or.inr (slot_ne (Or.inr (hw _ (List.mem_of_getElem? (i := 30) rfl))) (Or.inr (hw _ (List.mem_of_getElem? (i := 24) rfl))) (by decide) (t := .boolean) (t' := (.array .int)) (by decide) (by decide)))
  have f5_F_a1_skipped : Fld Z h4 a1 "com/example/hike/hike/Proximity$Group" "skipped" "[I" .null := f3_F_a1_skipped.other W4 (Or.inr (slot_ne (Or.inr (hw _ (List.mem_of_getElem? (i := 32) rfl))) (Or.inr (hw _ (List.mem_of_getElem? (i := 24) rfl))) (by decide) (t := (.array .int)) (t' := (.array .int)) (by decide) (by decide)))
  have K4 : Keep h0 h4 [a1] := K2.wr W4 (Or.inl (List.mem_of_getElem? (i := 0) rfl))
  have N4 := Fr.snoc X4 N2 pre_g_a1
  show GoW p e below QQ (T4.setTop (mkF m 14 #[.val (.ref a1), .val (.int p1), .val .null, .val (.int p3), .val (.int p4), .val (.int (1 : Int32)), .val .null] []))
  refine GoW.st (fun t k => XS.aloadN X4.here hx rfl (hb hby d2_14) rfl rfl (XS.iloadN X4.here hx rfl (hb hby d2_15) rfl k)) ?_
  show GoW p e below QQ (T4.setTop (mkF m 16 #[.val (.ref a1), .val (.int p1), .val .null, .val (.int p3), .val (.int p4), .val (.int (1 : Int32)), .val .null] [(.int p3), (.ref a1)]))
  obtain ⟨T6, h6, X6, e6, W6, st6⟩ := putF X4 hx hZ hown (host := "") (Or.inl (hw _ (List.mem_of_getElem? (i := 25) rfl))) Via.refl e4 f5_F_a1_from f5_E_a1 (Or.inr ⟨(hw _ (List.mem_of_getElem? (i := 26) rfl)), rfl, hnm⟩) (hw _ (List.mem_of_getElem? (i := 8) rfl)) (ty := .int) (by decide) rfl rfl (g := (mkF m 16 #[.val (.ref a1), .val (.int p1), .val .null, .val (.int p3), .val (.int p4), .val (.int (1 : Int32)), .val .null] [(.int p3), (.ref a1)])) rfl rfl (hb hby d2_16)
  refine GoW.st st6 ?_
  have f7_E_a1 : Exa Z h6 a1 "com/example/hike/hike/Proximity$Group" := f5_E_a1.wr W6
  have f7_F_a1_context : Fld Z h6 a1 "com/example/hike/hike/Proximity$Group" "context" "I" (.int p1) := f5_F_a1_context.other W6 (Or.inr (slot_ne (Or.inr (hw _ (List.mem_of_getElem? (i := 22) rfl))) (Or.inr (hw _ (List.mem_of_getElem? (i := 26) rfl))) (by decide) (t := .int) (t' := .int) (by decide) (by decide)))
  have f7_F_a1_order : Fld Z h6 a1 "com/example/hike/hike/Proximity$Group" "order" "[I" .null := f5_F_a1_order.other W6 (Or.inr (slot_ne (Or.inr (hw _ (List.mem_of_getElem? (i := 24) rfl))) (Or.inr (hw _ (List.mem_of_getElem? (i := 26) rfl))) (by decide) (t := (.array .int)) (t' := .int) (by decide) (by decide)))
  have f7_F_a1_from : Fld Z h6 a1 "com/example/hike/hike/Proximity$Group" "from" "I" (.int p3) := f5_F_a1_from.same W6
  have f7_F_a1_to : Fld Z h6 a1 "com/example/hike/hike/Proximity$Group" "to" "I" (.int (0 : Int32)) := f5_F_a1_to.other W6 (Or.inr (slot_ne (Or.inr (hw _ (List.mem_of_getElem? (i := 28) rfl))) (Or.inr (hw _ (List.mem_of_getElem? (i := 26) rfl))) (by decide) (t := .int) (t' := .int) (by decide) (by decide)))
  have f7_F_a1_reverse : Fld Z h6 a1 "com/example/hike/hike/Proximity$Group" "reverse" "Z" (.int (0 : Int32)) := f5_F_a1_reverse.other W6 (Or.inr (slot_ne (Or.inr (hw _ (List.mem_of_getElem? (i := 30) rfl))) (Or.inr (hw _ (List.mem_of_getElem? (i := 26) rfl))) (by decide) (t := .boolean) (t' := .int) (by decide) (by decide)))
  have f7_F_a1_skipped : Fld Z h6 a1 "com/example/hike/hike/Proximity$Group" "skipped" "[I" .null := f5_F_a1_skipped.other W6 (Or.inr (slot_ne (Or.inr (hw _ (List.mem_of_getElem? (i := 32) rfl))) (Or.inr (hw _ (List.mem_of_getElem? (i := 26) rfl))) (by decide) (t := (.array .int)) (t' := .int) (by decide) (by decide)))
  have K6 : Keep h0 h6 [a1] := K4.wr W6 (Or.inl (List.mem_of_getElem? (i := 0) rfl))
  have N6 := Fr.snoc X6 N4 pre_g_a1
  show GoW p e below QQ (T6.setTop (mkF m 19 #[.val (.ref a1), .val (.int p1), .val .null, .val (.int p3), .val (.int p4), .val (.int (1 : Int32)), .val .null] []))
  refine GoW.st (fun t k => XS.aloadN X6.here hx rfl (hb hby d2_19) rfl rfl (XS.iload X6.here hx rfl (hb hby d2_20) rfl k)) ?_
  show GoW p e below QQ (T6.setTop (mkF m 22 #[.val (.ref a1), .val (.int p1), .val .null, .val (.int p3), .val (.int p4), .val (.int (1 : Int32)), .val .null] [(.int p4), (.ref a1)]))
  obtain ⟨T8, h8, X8, e8, W8, st8⟩ := putF X6 hx hZ hown (host := "") (Or.inl (hw _ (List.mem_of_getElem? (i := 27) rfl))) Via.refl e6 f7_F_a1_to f7_E_a1 (Or.inr ⟨(hw _ (List.mem_of_getElem? (i := 28) rfl)), rfl, hnm⟩) (hw _ (List.mem_of_getElem? (i := 8) rfl)) (ty := .int) (by decide) rfl rfl (g := (mkF m 22 #[.val (.ref a1), .val (.int p1), .val .null, .val (.int p3), .val (.int p4), .val (.int (1 : Int32)), .val .null] [(.int p4), (.ref a1)])) rfl rfl (hb hby d2_22)
  refine GoW.st st8 ?_
  have f9_E_a1 : Exa Z h8 a1 "com/example/hike/hike/Proximity$Group" := f7_E_a1.wr W8
  have f9_F_a1_context : Fld Z h8 a1 "com/example/hike/hike/Proximity$Group" "context" "I" (.int p1) := f7_F_a1_context.other W8 (Or.inr (slot_ne (Or.inr (hw _ (List.mem_of_getElem? (i := 22) rfl))) (Or.inr (hw _ (List.mem_of_getElem? (i := 28) rfl))) (by decide) (t := .int) (t' := .int) (by decide) (by decide)))
  have f9_F_a1_order : Fld Z h8 a1 "com/example/hike/hike/Proximity$Group" "order" "[I" .null := f7_F_a1_order.other W8 (Or.inr (slot_ne (Or.inr (hw _ (List.mem_of_getElem? (i := 24) rfl))) (Or.inr (hw _ (List.mem_of_getElem? (i := 28) rfl))) (by decide) (t := (.array .int)) (t' := .int) (by decide) (by decide)))
  have f9_F_a1_from : Fld Z h8 a1 "com/example/hike/hike/Proximity$Group" "from" "I" (.int p3) := f7_F_a1_from.other W8 (Or.inr (slot_ne (Or.inr (hw _ (List.mem_of_getElem? (i := 26) rfl))) (Or.inr (hw _ (List.mem_of_getElem? (i := 28) rfl))) (by decide) (t := .int) (t' := .int) (by decide) (by decide)))
  have f9_F_a1_to : Fld Z h8 a1 "com/example/hike/hike/Proximity$Group" "to" "I" (.int p4) := f7_F_a1_to.same W8
  have f9_F_a1_reverse : Fld Z h8 a1 "com/example/hike/hike/Proximity$Group" "reverse" "Z" (.int (0 : Int32)) := f7_F_a1_reverse.other W8 (Or.inr (slot_ne (Or.inr (hw _ (List.mem_of_getElem? (i := 30) rfl))) (Or.inr (hw _ (List.mem_of_getElem? (i := 28) rfl))) (by decide) (t := .boolean) (t' := .int) (by decide) (by decide)))
  have f9_F_a1_skipped : Fld Z h8 a1 "com/example/hike/hike/Proximity$Group" "skipped" "[I" .null := f7_F_a1_skipped.other W8 (Or.inr (slot_ne (Or.inr (hw _ (List.mem_of_getElem? (i := 32) rfl))) (Or.inr (hw _ (List.mem_of_getElem? (i := 28) rfl))) (by decide) (t := (.array .int)) (t' := .int) (by decide) (by decide)))
  have K8 : Keep h0 h8 [a1] := K6.wr W8 (Or.inl (List.mem_of_getElem? (i := 0) rfl))
  have N8 := Fr.snoc X8 N6 pre_g_a1
  show GoW p e below QQ (T8.setTop (mkF m 25 #[.val (.ref a1), .val (.int p1), .val .null, .val (.int p3), .val (.int p4), .val (.int (1 : Int32)), .val .null] []))
  refine GoW.st (fun t k => XS.aloadN X8.here hx rfl (hb hby d2_25) rfl rfl (XS.iload X8.here hx rfl (hb hby d2_26) rfl k)) ?_
  show GoW p e below QQ (T8.setTop (mkF m 28 #[.val (.ref a1), .val (.int p1), .val .null, .val (.int p3), .val (.int p4), .val (.int (1 : Int32)), .val .null] [(.int (1 : Int32)), (.ref a1)]))
  obtain ⟨T10, h10, X10, e10, W10, st10⟩ := putFN X8 hx hZ hown (hw _ (List.mem_of_getElem? (i := 29) rfl)) Via.refl e8 f9_F_a1_reverse f9_E_a1 (Or.inr ⟨(hw _ (List.mem_of_getElem? (i := 30) rfl)), rfl, hnm⟩) (hw _ (List.mem_of_getElem? (i := 8) rfl)) (ty := .boolean) (v' := (.int (nar .boolean (1 : Int32)))) (by decide) rfl (fits_nar_bool _) (g := (mkF m 28 #[.val (.ref a1), .val (.int p1), .val .null, .val (.int p3), .val (.int p4), .val (.int (1 : Int32)), .val .null] [(.int (1 : Int32)), (.ref a1)])) rfl rfl (hb hby d2_28)
  refine GoW.st st10 ?_
  have f11_E_a1 : Exa Z h10 a1 "com/example/hike/hike/Proximity$Group" := f9_E_a1.wr W10
  have f11_F_a1_context : Fld Z h10 a1 "com/example/hike/hike/Proximity$Group" "context" "I" (.int p1) := f9_F_a1_context.other W10 (Or.inr (slot_ne (Or.inr (hw _ (List.mem_of_getElem? (i := 22) rfl))) (Or.inr (hw _ (List.mem_of_getElem? (i := 30) rfl))) (by decide) (t := .int) (t' := .boolean) (by decide) (by decide)))
  have f11_F_a1_order : Fld Z h10 a1 "com/example/hike/hike/Proximity$Group" "order" "[I" .null := f9_F_a1_order.other W10 (Or.inr (slot_ne (Or.inr (hw _ (List.mem_of_getElem? (i := 24) rfl))) (Or.inr (hw _ (List.mem_of_getElem? (i := 30) rfl))) (by decide) (t := (.array .int)) (t' := .boolean) (by decide) (by decide)))
  have f11_F_a1_from : Fld Z h10 a1 "com/example/hike/hike/Proximity$Group" "from" "I" (.int p3) := f9_F_a1_from.other W10 (Or.inr (slot_ne (Or.inr (hw _ (List.mem_of_getElem? (i := 26) rfl))) (Or.inr (hw _ (List.mem_of_getElem? (i := 30) rfl))) (by decide) (t := .int) (t' := .boolean) (by decide) (by decide)))
  have f11_F_a1_to : Fld Z h10 a1 "com/example/hike/hike/Proximity$Group" "to" "I" (.int p4) := f9_F_a1_to.other W10 (Or.inr (slot_ne (Or.inr (hw _ (List.mem_of_getElem? (i := 28) rfl))) (Or.inr (hw _ (List.mem_of_getElem? (i := 30) rfl))) (by decide) (t := .int) (t' := .boolean) (by decide) (by decide)))
  have f11_F_a1_reverse : Fld Z h10 a1 "com/example/hike/hike/Proximity$Group" "reverse" "Z" (.int (1 : Int32)) := f9_F_a1_reverse.same W10
  have f11_F_a1_skipped : Fld Z h10 a1 "com/example/hike/hike/Proximity$Group" "skipped" "[I" .null := f9_F_a1_skipped.other W10 (Or.inr (slot_ne (Or.inr (hw _ (List.mem_of_getElem? (i := 32) rfl))) (Or.inr (hw _ (List.mem_of_getElem? (i := 30) rfl))) (by decide) (t := (.array .int)) (t' := .boolean) (by decide) (by decide)))
  have K10 : Keep h0 h10 [a1] := K8.wr W10 (Or.inl (List.mem_of_getElem? (i := 0) rfl))
  have N10 := Fr.snoc X10 N8 pre_g_a1
  show GoW p e below QQ (T10.setTop (mkF m 31 #[.val (.ref a1), .val (.int p1), .val .null, .val (.int p3), .val (.int p4), .val (.int (1 : Int32)), .val .null] []))
  refine GoW.st (fun t k => XS.aloadN X10.here hx rfl (hb hby d2_31) rfl rfl (XS.aload X10.here hx rfl (hb hby d2_32) rfl rfl k)) ?_
  show GoW p e below QQ (T10.setTop (mkF m 34 #[.val (.ref a1), .val (.int p1), .val .null, .val (.int p3), .val (.int p4), .val (.int (1 : Int32)), .val .null] [.null, (.ref a1)]))
  obtain ⟨T12, h12, X12, e12, W12, st12⟩ := putF X10 hx hZ hown (host := "") (Or.inl (hw _ (List.mem_of_getElem? (i := 31) rfl))) Via.refl e10 f11_F_a1_skipped f11_E_a1 (Or.inr ⟨(hw _ (List.mem_of_getElem? (i := 32) rfl)), rfl, hnm⟩) (hw _ (List.mem_of_getElem? (i := 8) rfl)) (ty := (.array .int)) (by decide) rfl rfl (g := (mkF m 34 #[.val (.ref a1), .val (.int p1), .val .null, .val (.int p3), .val (.int p4), .val (.int (1 : Int32)), .val .null] [.null, (.ref a1)])) rfl rfl (hb hby d2_34)
  refine GoW.st st12 ?_
  have f13_E_a1 : Exa Z h12 a1 "com/example/hike/hike/Proximity$Group" := f11_E_a1.wr W12
  have f13_F_a1_context : Fld Z h12 a1 "com/example/hike/hike/Proximity$Group" "context" "I" (.int p1) := f11_F_a1_context.other W12 (Or.inr (slot_ne (Or.inr (hw _ (List.mem_of_getElem? (i := 22) rfl))) (Or.inr (hw _ (List.mem_of_getElem? (i := 32) rfl))) (by decide) (t := .int) (t' := (.array .int)) (by decide) (by decide)))
  have f13_F_a1_order : Fld Z h12 a1 "com/example/hike/hike/Proximity$Group" "order" "[I" .null := f11_F_a1_order.other W12 (Or.inr (slot_ne (Or.inr (hw _ (List.mem_of_getElem? (i := 24) rfl))) (Or.inr (hw _ (List.mem_of_getElem? (i := 32) rfl))) (by decide) (t := (.array .int)) (t' := (.array .int)) (by decide) (by decide)))
  have f13_F_a1_from : Fld Z h12 a1 "com/example/hike/hike/Proximity$Group" "from" "I" (.int p3) := f11_F_a1_from.other W12 (Or.inr (slot_ne (Or.inr (hw _ (List.mem_of_getElem? (i := 26) rfl))) (Or.inr (hw _ (List.mem_of_getElem? (i := 32) rfl))) (by decide) (t := .int) (t' := (.array .int)) (by decide) (by decide)))
  have f13_F_a1_to : Fld Z h12 a1 "com/example/hike/hike/Proximity$Group" "to" "I" (.int p4) := f11_F_a1_to.other W12 (Or.inr (slot_ne (Or.inr (hw _ (List.mem_of_getElem? (i := 28) rfl))) (Or.inr (hw _ (List.mem_of_getElem? (i := 32) rfl))) (by decide) (t := .int) (t' := (.array .int)) (by decide) (by decide)))
  have f13_F_a1_reverse : Fld Z h12 a1 "com/example/hike/hike/Proximity$Group" "reverse" "Z" (.int (1 : Int32)) := f11_F_a1_reverse.other W12 (Or.inr (slot_ne (Or.inr (hw _ (List.mem_of_getElem? (i := 30) rfl))) (Or.inr (hw _ (List.mem_of_getElem? (i := 32) rfl))) (by decide) (t := .boolean) (t' := (.array .int)) (by decide) (by decide)))
  have f13_F_a1_skipped : Fld Z h12 a1 "com/example/hike/hike/Proximity$Group" "skipped" "[I" .null := f11_F_a1_skipped.same W12
  have K12 : Keep h0 h12 [a1] := K10.wr W12 (Or.inl (List.mem_of_getElem? (i := 0) rfl))
  have N12 := Fr.snoc X12 N10 pre_g_a1
  show GoW p e below QQ (T12.setTop (mkF m 37 #[.val (.ref a1), .val (.int p1), .val .null, .val (.int p3), .val (.int p4), .val (.int (1 : Int32)), .val .null] []))
  exact GoW.fin X12 none (fun _ => rfl) hlk hQ e12 ⟨rfl, N12, K12, f13_E_a1, f13_F_a1_order, f13_F_a1_from, f13_F_a1_to, f13_F_a1_reverse, f13_F_a1_skipped⟩ (by decide) (by decide) (fun fs hr => X12.returnOut hx hret (hb hby d2_37) hr)
def RM2_s1 : Room := { frames := 2, cells := 0, slots := 0, locals := 24 }
def Q2_s1 (Z : State) (a1 : Addr) (p1 : Int32) (p3 : Int32) (p4 : Int32) (a3 : Addr) (h0 : Heap) (n0 : Nat) (v : Option Value) (h : Heap) (L : List Loc) : Prop := v = none ∧ Fr n0 L ∧ Keep h0 h [a1] ∧ (Exa Z h a1 "com/example/hike/hike/Proximity$Group") ∧ (Fld Z h a1 "com/example/hike/hike/Proximity$Group" "order" "[I" .null) ∧ (Fld Z h a1 "com/example/hike/hike/Proximity$Group" "from" "I" (.int p3)) ∧ (Fld Z h a1 "com/example/hike/hike/Proximity$Group" "to" "I" (.int p4)) ∧ (Fld Z h a1 "com/example/hike/hike/Proximity$Group" "reverse" "Z" (.int (1 : Int32))) ∧ (Fld Z h a1 "com/example/hike/hike/Proximity$Group" "skipped" "[I" (.ref a3))
set_option maxRecDepth 65536 in
set_option maxHeartbeats 40000000 in
theorem rm2_s1 (l : Launch) (Z : State) (a0 : Array Value) (hw : ∀ d ∈ tables_1, d.before a0 Z = true) (ws : List Jvm.Cond) (a1 : Addr) (p1 : Int32) (p3 : Int32) (p4 : Int32) (a3 : Addr) (h0 : Heap) (n0 : Nat) (Z0 : n0 ≤ h0.size) (pre_E_a1 : Exa Z h0 a1 "com/example/hike/hike/Proximity$Group") (pre_g_a1 : n0 ≤ a1) (pre_F_a1_context : Fld Z h0 a1 "com/example/hike/hike/Proximity$Group" "context" "I" (.int (0 : Int32))) (pre_F_a1_order : Fld Z h0 a1 "com/example/hike/hike/Proximity$Group" "order" "[I" .null) (pre_F_a1_from : Fld Z h0 a1 "com/example/hike/hike/Proximity$Group" "from" "I" (.int (0 : Int32))) (pre_F_a1_to : Fld Z h0 a1 "com/example/hike/hike/Proximity$Group" "to" "I" (.int (0 : Int32))) (pre_F_a1_reverse : Fld Z h0 a1 "com/example/hike/hike/Proximity$Group" "reverse" "Z" (.int (0 : Int32))) (pre_F_a1_skipped : Fld Z h0 a1 "com/example/hike/hike/Proximity$Group" "skipped" "[I" .null) :
    MetFree l (⟨"com/example/hike/hike/Proximity$Group", "<init>", "(I[IIIZ[I)V"⟩ : MethodName) (head1 (Jvm.Cond.code (⟨"com/example/hike/hike/Proximity$Group", "<init>", "(I[IIIZ[I)V"⟩ : MethodName) prog_102_method_1_code 7 none :: ws) RM2_s1) (fun a U => a = #[(.ref a1), (.int p1), .null, (.int p3), (.int p4), (.int (1 : Int32)), (.ref a3)] ∧ Z.Warmed39 U.vm ∧ U.heap = h0) (fun _ _ _ _ _ => True) (fun _ U o U' => ∃ v L, o = .returned v ∧ Q2_s1 Z a1 p1 p3 p4 a3 h0 n0 v U'.heap L ∧ FrameEnd U o U' L RM2_s1.cells RM2_s1.slots) := by
  refine met_of (Q := fun v h L => Q2_s1 Z a1 p1 p3 p4 a3 h0 n0 v h L) (plainFor_of_name pn_1) (fun m => by first | (simp [entryFrame, mkF, argsToLocals, Value.category]; done) | rfl) (Ls := #[.val (.ref a1), .val (.int p1), .val .null, .val (.int p3), .val (.int p4), .val (.int (1 : Int32)), .val (.ref a3)]) ?_
  intro p e s m below meth c T0 QQ hx hZ hby hml hown hnm hret hlk X0 e0 hQ
  have hml : c.maxLocals = 7 := hml
  have hown : s.vm.findClass "com/example/hike/hike/Proximity$Group" = some m.cls := hown
  have hnm : meth.name = "<init>" := hnm
  have hret : meth.sig.returnType = none := hret
  have N0 := Fr.nil n0
  have K0 : Keep h0 h0 [a1] := Keep.refl h0 _
  show GoW p e below QQ (T0.setTop (mkF m 0 #[.val (.ref a1), .val (.int p1), .val .null, .val (.int p3), .val (.int p4), .val (.int (1 : Int32)), .val (.ref a3)] []))
  refine GoW.st (fun t k => XS.aloadN X0.here hx rfl (hb hby d2_0) rfl rfl k) ?_
  show GoW p e below QQ (T0.setTop (mkF m 1 #[.val (.ref a1), .val (.int p1), .val .null, .val (.int p3), .val (.int p4), .val (.int (1 : Int32)), .val (.ref a3)] [(.ref a1)]))
  obtain ⟨_, _, ⟨T1, zL1, zk1, zn1⟩, -, X1, ⟨Lc1, hQ1, zl1, zy1, zz1⟩, st1⟩ := X0.specialBack hx (y := (⟨"java/lang/Record", "<init>", "()V"⟩ : MethodName)) rfl hown (mvT hZ (hw _ (List.mem_of_getElem? (i := 13) rfl))) (mvT hZ (hw _ (List.mem_of_getElem? (i := 14) rfl))) (mvT hZ (hw _ (List.mem_of_getElem? (i := 17) rfl))) (by decide) (backOf (W := 0) (rm3 l Z a0 hw [] a1 h0 n0 (Nat.le_trans Z0 K0.1) ) hZ (hw _ (List.mem_of_getElem? (i := 17) rfl)) (hw _ (List.mem_of_getElem? (i := 16) rfl)) (by decide) (by decide)) (g := (mkF m 1 #[.val (.ref a1), .val (.int p1), .val .null, .val (.int p3), .val (.int p4), .val (.int (1 : Int32)), .val (.ref a3)] [(.ref a1)])) rfl (by rw [hml]; rfl) (Steps.refl _) (a := a1) (argsL := []) (rest := []) (lenOf pd_0 rfl) rfl (by show 2 * 0 + _ ≤ _; exact Nat.le_of_eq rfl) (hb hby d2_1) (fun _ _ => ⟨rfl, e0, (by decide : 0 + 0 ≤ _), (by decide : 0 + 0 ≤ _)⟩)
  dsimp only [Pt.U, Pt.locs, Pt.cells, Pt.slots] at X1 zl1 zy1 zz1 st1 hQ1
  subst zl1 zy1 zz1
  obtain ⟨rfl, Nq1, hh1⟩ := hQ1
  have N1 := Fr.app N0 Nq1
  refine GoW.st (fun t k => st1.trans k) ?_
  show GoW p e below QQ (T1.setTop (mkF m 4 #[.val (.ref a1), .val (.int p1), .val .null, .val (.int p3), .val (.int p4), .val (.int (1 : Int32)), .val (.ref a3)] []))
  refine GoW.st (fun t k => XS.aloadN X1.here hx rfl (hb hby d2_4) rfl rfl (XS.iloadN X1.here hx rfl (hb hby d2_5) rfl k)) ?_
  show GoW p e below QQ (T1.setTop (mkF m 6 #[.val (.ref a1), .val (.int p1), .val .null, .val (.int p3), .val (.int p4), .val (.int (1 : Int32)), .val (.ref a3)] [(.int p1), (.ref a1)]))
  obtain ⟨T2, h2, X2, e2, W2, st2⟩ := putF X1 hx hZ hown (host := "") (Or.inl (hw _ (List.mem_of_getElem? (i := 21) rfl))) Via.refl hh1 pre_F_a1_context pre_E_a1 (Or.inr ⟨(hw _ (List.mem_of_getElem? (i := 22) rfl)), rfl, hnm⟩) (hw _ (List.mem_of_getElem? (i := 8) rfl)) (ty := .int) (by decide) rfl rfl (g := (mkF m 6 #[.val (.ref a1), .val (.int p1), .val .null, .val (.int p3), .val (.int p4), .val (.int (1 : Int32)), .val (.ref a3)] [(.int p1), (.ref a1)])) rfl rfl (hb hby d2_6)
  refine GoW.st st2 ?_
  have f3_E_a1 : Exa Z h2 a1 "com/example/hike/hike/Proximity$Group" := pre_E_a1.wr W2
  have f3_F_a1_context : Fld Z h2 a1 "com/example/hike/hike/Proximity$Group" "context" "I" (.int p1) := pre_F_a1_context.same W2
  have f3_F_a1_order : Fld Z h2 a1 "com/example/hike/hike/Proximity$Group" "order" "[I" .null := pre_F_a1_order.other W2 (Or.inr (slot_ne (Or.inr (hw _ (List.mem_of_getElem? (i := 24) rfl))) (Or.inr (hw _ (List.mem_of_getElem? (i := 22) rfl))) (by decide) (t := (.array .int)) (t' := .int) (by decide) (by decide)))
  have f3_F_a1_from : Fld Z h2 a1 "com/example/hike/hike/Proximity$Group" "from" "I" (.int (0 : Int32)) := pre_F_a1_from.other W2 (Or.inr (slot_ne (Or.inr (hw _ (List.mem_of_getElem? (i := 26) rfl))) (Or.inr (hw _ (List.mem_of_getElem? (i := 22) rfl))) (by decide) (t := .int) (t' := .int) (by decide) (by decide)))
  have f3_F_a1_to : Fld Z h2 a1 "com/example/hike/hike/Proximity$Group" "to" "I" (.int (0 : Int32)) := pre_F_a1_to.other W2 (Or.inr (slot_ne (Or.inr (hw _ (List.mem_of_getElem? (i := 28) rfl))) (Or.inr (hw _ (List.mem_of_getElem? (i := 22) rfl))) (by decide) (t := .int) (t' := .int) (by decide) (by decide)))
  have f3_F_a1_reverse : Fld Z h2 a1 "com/example/hike/hike/Proximity$Group" "reverse" "Z" (.int (0 : Int32)) := pre_F_a1_reverse.other W2 (Or.inr (slot_ne (Or.inr (hw _ (List.mem_of_getElem? (i := 30) rfl))) (Or.inr (hw _ (List.mem_of_getElem? (i := 22) rfl))) (by decide) (t := .boolean) (t' := .int) (by decide) (by decide)))
  have f3_F_a1_skipped : Fld Z h2 a1 "com/example/hike/hike/Proximity$Group" "skipped" "[I" .null := pre_F_a1_skipped.other W2 (Or.inr (slot_ne (Or.inr (hw _ (List.mem_of_getElem? (i := 32) rfl))) (Or.inr (hw _ (List.mem_of_getElem? (i := 22) rfl))) (by decide) (t := (.array .int)) (t' := .int) (by decide) (by decide)))
  have K2 : Keep h0 h2 [a1] := K0.wr W2 (Or.inl (List.mem_of_getElem? (i := 0) rfl))
  have N2 := Fr.snoc X2 N1 pre_g_a1
  show GoW p e below QQ (T2.setTop (mkF m 9 #[.val (.ref a1), .val (.int p1), .val .null, .val (.int p3), .val (.int p4), .val (.int (1 : Int32)), .val (.ref a3)] []))
  refine GoW.st (fun t k => XS.aloadN X2.here hx rfl (hb hby d2_9) rfl rfl (XS.aloadN X2.here hx rfl (hb hby d2_10) rfl rfl k)) ?_
  show GoW p e below QQ (T2.setTop (mkF m 11 #[.val (.ref a1), .val (.int p1), .val .null, .val (.int p3), .val (.int p4), .val (.int (1 : Int32)), .val (.ref a3)] [.null, (.ref a1)]))
  obtain ⟨T4, h4, X4, e4, W4, st4⟩ := putF X2 hx hZ hown (host := "") (Or.inl (hw _ (List.mem_of_getElem? (i := 23) rfl))) Via.refl e2 f3_F_a1_order f3_E_a1 (Or.inr ⟨(hw _ (List.mem_of_getElem? (i := 24) rfl)), rfl, hnm⟩) (hw _ (List.mem_of_getElem? (i := 8) rfl)) (ty := (.array .int)) (by decide) rfl rfl (g := (mkF m 11 #[.val (.ref a1), .val (.int p1), .val .null, .val (.int p3), .val (.int p4), .val (.int (1 : Int32)), .val (.ref a3)] [.null, (.ref a1)])) rfl rfl (hb hby d2_11)
  refine GoW.st st4 ?_
  have f5_E_a1 : Exa Z h4 a1 "com/example/hike/hike/Proximity$Group" := f3_E_a1.wr W4
  have f5_F_a1_context : Fld Z h4 a1 "com/example/hike/hike/Proximity$Group" "context" "I" (.int p1) := f3_F_a1_context.other W4 (Or.inr (slot_ne (Or.inr (hw _ (List.mem_of_getElem? (i := 22) rfl))) (Or.inr (hw _ (List.mem_of_getElem? (i := 24) rfl))) (by decide) (t := .int) (t' := (.array .int)) (by decide) (by decide)))
  have f5_F_a1_order : Fld Z h4 a1 "com/example/hike/hike/Proximity$Group" "order" "[I" .null := f3_F_a1_order.same W4
  have f5_F_a1_from : Fld Z h4 a1 "com/example/hike/hike/Proximity$Group" "from" "I" (.int (0 : Int32)) := f3_F_a1_from.other W4 (Or.inr (slot_ne (Or.inr (hw _ (List.mem_of_getElem? (i := 26) rfl))) (Or.inr (hw _ (List.mem_of_getElem? (i := 24) rfl))) (by decide) (t := .int) (t' := (.array .int)) (by decide) (by decide)))
  have f5_F_a1_to : Fld Z h4 a1 "com/example/hike/hike/Proximity$Group" "to" "I" (.int (0 : Int32)) := f3_F_a1_to.other W4 (Or.inr (slot_ne (Or.inr (hw _ (List.mem_of_getElem? (i := 28) rfl))) (Or.inr (hw _ (List.mem_of_getElem? (i := 24) rfl))) (by decide) (t := .int) (t' := (.array .int)) (by decide) (by decide)))
  have f5_F_a1_reverse : Fld Z h4 a1 "com/example/hike/hike/Proximity$Group" "reverse" "Z" (.int (0 : Int32)) := f3_F_a1_reverse.other W4 (Or.inr (slot_ne (Or.inr (hw _ (List.mem_of_getElem? (i := 30) rfl))) (Or.inr (hw _ (List.mem_of_getElem? (i := 24) rfl))) (by decide) (t := .boolean) (t' := (.array .int)) (by decide) (by decide)))
  have f5_F_a1_skipped : Fld Z h4 a1 "com/example/hike/hike/Proximity$Group" "skipped" "[I" .null := f3_F_a1_skipped.other W4 (Or.inr (slot_ne (Or.inr (hw _ (List.mem_of_getElem? (i := 32) rfl))) (Or.inr (hw _ (List.mem_of_getElem? (i := 24) rfl))) (by decide) (t := (.array .int)) (t' := (.array .int)) (by decide) (by decide)))
  have K4 : Keep h0 h4 [a1] := K2.wr W4 (Or.inl (List.mem_of_getElem? (i := 0) rfl))
  have N4 := Fr.snoc X4 N2 pre_g_a1
  show GoW p e below QQ (T4.setTop (mkF m 14 #[.val (.ref a1), .val (.int p1), .val .null, .val (.int p3), .val (.int p4), .val (.int (1 : Int32)), .val (.ref a3)] []))
  refine GoW.st (fun t k => XS.aloadN X4.here hx rfl (hb hby d2_14) rfl rfl (XS.iloadN X4.here hx rfl (hb hby d2_15) rfl k)) ?_
  show GoW p e below QQ (T4.setTop (mkF m 16 #[.val (.ref a1), .val (.int p1), .val .null, .val (.int p3), .val (.int p4), .val (.int (1 : Int32)), .val (.ref a3)] [(.int p3), (.ref a1)]))
  obtain ⟨T6, h6, X6, e6, W6, st6⟩ := putF X4 hx hZ hown (host := "") (Or.inl (hw _ (List.mem_of_getElem? (i := 25) rfl))) Via.refl e4 f5_F_a1_from f5_E_a1 (Or.inr ⟨(hw _ (List.mem_of_getElem? (i := 26) rfl)), rfl, hnm⟩) (hw _ (List.mem_of_getElem? (i := 8) rfl)) (ty := .int) (by decide) rfl rfl (g := (mkF m 16 #[.val (.ref a1), .val (.int p1), .val .null, .val (.int p3), .val (.int p4), .val (.int (1 : Int32)), .val (.ref a3)] [(.int p3), (.ref a1)])) rfl rfl (hb hby d2_16)
  refine GoW.st st6 ?_
  have f7_E_a1 : Exa Z h6 a1 "com/example/hike/hike/Proximity$Group" := f5_E_a1.wr W6
  have f7_F_a1_context : Fld Z h6 a1 "com/example/hike/hike/Proximity$Group" "context" "I" (.int p1) := f5_F_a1_context.other W6 (Or.inr (slot_ne (Or.inr (hw _ (List.mem_of_getElem? (i := 22) rfl))) (Or.inr (hw _ (List.mem_of_getElem? (i := 26) rfl))) (by decide) (t := .int) (t' := .int) (by decide) (by decide)))
  have f7_F_a1_order : Fld Z h6 a1 "com/example/hike/hike/Proximity$Group" "order" "[I" .null := f5_F_a1_order.other W6 (Or.inr (slot_ne (Or.inr (hw _ (List.mem_of_getElem? (i := 24) rfl))) (Or.inr (hw _ (List.mem_of_getElem? (i := 26) rfl))) (by decide) (t := (.array .int)) (t' := .int) (by decide) (by decide)))
  have f7_F_a1_from : Fld Z h6 a1 "com/example/hike/hike/Proximity$Group" "from" "I" (.int p3) := f5_F_a1_from.same W6
  have f7_F_a1_to : Fld Z h6 a1 "com/example/hike/hike/Proximity$Group" "to" "I" (.int (0 : Int32)) := f5_F_a1_to.other W6 (Or.inr (slot_ne (Or.inr (hw _ (List.mem_of_getElem? (i := 28) rfl))) (Or.inr (hw _ (List.mem_of_getElem? (i := 26) rfl))) (by decide) (t := .int) (t' := .int) (by decide) (by decide)))
  have f7_F_a1_reverse : Fld Z h6 a1 "com/example/hike/hike/Proximity$Group" "reverse" "Z" (.int (0 : Int32)) := f5_F_a1_reverse.other W6 (Or.inr (slot_ne (Or.inr (hw _ (List.mem_of_getElem? (i := 30) rfl))) (Or.inr (hw _ (List.mem_of_getElem? (i := 26) rfl))) (by decide) (t := .boolean) (t' := .int) (by decide) (by decide)))
  have f7_F_a1_skipped : Fld Z h6 a1 "com/example/hike/hike/Proximity$Group" "skipped" "[I" .null := f5_F_a1_skipped.other W6 (Or.inr (slot_ne (Or.inr (hw _ (List.mem_of_getElem? (i := 32) rfl))) (Or.inr (hw _ (List.mem_of_getElem? (i := 26) rfl))) (by decide) (t := (.array .int)) (t' := .int) (by decide) (by decide)))
  have K6 : Keep h0 h6 [a1] := K4.wr W6 (Or.inl (List.mem_of_getElem? (i := 0) rfl))
  have N6 := Fr.snoc X6 N4 pre_g_a1
  show GoW p e below QQ (T6.setTop (mkF m 19 #[.val (.ref a1), .val (.int p1), .val .null, .val (.int p3), .val (.int p4), .val (.int (1 : Int32)), .val (.ref a3)] []))
  refine GoW.st (fun t k => XS.aloadN X6.here hx rfl (hb hby d2_19) rfl rfl (XS.iload X6.here hx rfl (hb hby d2_20) rfl k)) ?_
  show GoW p e below QQ (T6.setTop (mkF m 22 #[.val (.ref a1), .val (.int p1), .val .null, .val (.int p3), .val (.int p4), .val (.int (1 : Int32)), .val (.ref a3)] [(.int p4), (.ref a1)]))
  obtain ⟨T8, h8, X8, e8, W8, st8⟩ := putF X6 hx hZ hown (host := "") (Or.inl (hw _ (List.mem_of_getElem? (i := 27) rfl))) Via.refl e6 f7_F_a1_to f7_E_a1 (Or.inr ⟨(hw _ (List.mem_of_getElem? (i := 28) rfl)), rfl, hnm⟩) (hw _ (List.mem_of_getElem? (i := 8) rfl)) (ty := .int) (by decide) rfl rfl (g := (mkF m 22 #[.val (.ref a1), .val (.int p1), .val .null, .val (.int p3), .val (.int p4), .val (.int (1 : Int32)), .val (.ref a3)] [(.int p4), (.ref a1)])) rfl rfl (hb hby d2_22)
  refine GoW.st st8 ?_
  have f9_E_a1 : Exa Z h8 a1 "com/example/hike/hike/Proximity$Group" := f7_E_a1.wr W8
  have f9_F_a1_context : Fld Z h8 a1 "com/example/hike/hike/Proximity$Group" "context" "I" (.int p1) := f7_F_a1_context.other W8 (Or.inr (slot_ne (Or.inr (hw _ (List.mem_of_getElem? (i := 22) rfl))) (Or.inr (hw _ (List.mem_of_getElem? (i := 28) rfl))) (by decide) (t := .int) (t' := .int) (by decide) (by decide)))
  have f9_F_a1_order : Fld Z h8 a1 "com/example/hike/hike/Proximity$Group" "order" "[I" .null := f7_F_a1_order.other W8 (Or.inr (slot_ne (Or.inr (hw _ (List.mem_of_getElem? (i := 24) rfl))) (Or.inr (hw _ (List.mem_of_getElem? (i := 28) rfl))) (by decide) (t := (.array .int)) (t' := .int) (by decide) (by decide)))
  have f9_F_a1_from : Fld Z h8 a1 "com/example/hike/hike/Proximity$Group" "from" "I" (.int p3) := f7_F_a1_from.other W8 (Or.inr (slot_ne (Or.inr (hw _ (List.mem_of_getElem? (i := 26) rfl))) (Or.inr (hw _ (List.mem_of_getElem? (i := 28) rfl))) (by decide) (t := .int) (t' := .int) (by decide) (by decide)))
  have f9_F_a1_to : Fld Z h8 a1 "com/example/hike/hike/Proximity$Group" "to" "I" (.int p4) := f7_F_a1_to.same W8
  have f9_F_a1_reverse : Fld Z h8 a1 "com/example/hike/hike/Proximity$Group" "reverse" "Z" (.int (0 : Int32)) := f7_F_a1_reverse.other W8 (Or.inr (slot_ne (Or.inr (hw _ (List.mem_of_getElem? (i := 30) rfl))) (Or.inr (hw _ (List.mem_of_getElem? (i := 28) rfl))) (by decide) (t := .boolean) (t' := .int) (by decide) (by decide)))
  have f9_F_a1_skipped : Fld Z h8 a1 "com/example/hike/hike/Proximity$Group" "skipped" "[I" .null := f7_F_a1_skipped.other W8 (Or.inr (slot_ne (Or.inr (hw _ (List.mem_of_getElem? (i := 32) rfl))) (Or.inr (hw _ (List.mem_of_getElem? (i := 28) rfl))) (by decide) (t := (.array .int)) (t' := .int) (by decide) (by decide)))
  have K8 : Keep h0 h8 [a1] := K6.wr W8 (Or.inl (List.mem_of_getElem? (i := 0) rfl))
  have N8 := Fr.snoc X8 N6 pre_g_a1
  show GoW p e below QQ (T8.setTop (mkF m 25 #[.val (.ref a1), .val (.int p1), .val .null, .val (.int p3), .val (.int p4), .val (.int (1 : Int32)), .val (.ref a3)] []))
  refine GoW.st (fun t k => XS.aloadN X8.here hx rfl (hb hby d2_25) rfl rfl (XS.iload X8.here hx rfl (hb hby d2_26) rfl k)) ?_
  show GoW p e below QQ (T8.setTop (mkF m 28 #[.val (.ref a1), .val (.int p1), .val .null, .val (.int p3), .val (.int p4), .val (.int (1 : Int32)), .val (.ref a3)] [(.int (1 : Int32)), (.ref a1)]))
  obtain ⟨T10, h10, X10, e10, W10, st10⟩ := putFN X8 hx hZ hown (hw _ (List.mem_of_getElem? (i := 29) rfl)) Via.refl e8 f9_F_a1_reverse f9_E_a1 (Or.inr ⟨(hw _ (List.mem_of_getElem? (i := 30) rfl)), rfl, hnm⟩) (hw _ (List.mem_of_getElem? (i := 8) rfl)) (ty := .boolean) (v' := (.int (nar .boolean (1 : Int32)))) (by decide) rfl (fits_nar_bool _) (g := (mkF m 28 #[.val (.ref a1), .val (.int p1), .val .null, .val (.int p3), .val (.int p4), .val (.int (1 : Int32)), .val (.ref a3)] [(.int (1 : Int32)), (.ref a1)])) rfl rfl (hb hby d2_28)
  refine GoW.st st10 ?_
  have f11_E_a1 : Exa Z h10 a1 "com/example/hike/hike/Proximity$Group" := f9_E_a1.wr W10
  have f11_F_a1_context : Fld Z h10 a1 "com/example/hike/hike/Proximity$Group" "context" "I" (.int p1) := f9_F_a1_context.other W10 (Or.inr (slot_ne (Or.inr (hw _ (List.mem_of_getElem? (i := 22) rfl))) (Or.inr (hw _ (List.mem_of_getElem? (i := 30) rfl))) (by decide) (t := .int) (t' := .boolean) (by decide) (by decide)))
  have f11_F_a1_order : Fld Z h10 a1 "com/example/hike/hike/Proximity$Group" "order" "[I" .null := f9_F_a1_order.other W10 (Or.inr (slot_ne (Or.inr (hw _ (List.mem_of_getElem? (i := 24) rfl))) (Or.inr (hw _ (List.mem_of_getElem? (i := 30) rfl))) (by decide) (t := (.array .int)) (t' := .boolean) (by decide) (by decide)))
  have f11_F_a1_from : Fld Z h10 a1 "com/example/hike/hike/Proximity$Group" "from" "I" (.int p3) := f9_F_a1_from.other W10 (Or.inr (slot_ne (Or.inr (hw _ (List.mem_of_getElem? (i := 26) rfl))) (Or.inr (hw _ (List.mem_of_getElem? (i := 30) rfl))) (by decide) (t := .int) (t' := .boolean) (by decide) (by decide)))
  have f11_F_a1_to : Fld Z h10 a1 "com/example/hike/hike/Proximity$Group" "to" "I" (.int p4) := f9_F_a1_to.other W10 (Or.inr (slot_ne (Or.inr (hw _ (List.mem_of_getElem? (i := 28) rfl))) (Or.inr (hw _ (List.mem_of_getElem? (i := 30) rfl))) (by decide) (t := .int) (t' := .boolean) (by decide) (by decide)))
  have f11_F_a1_reverse : Fld Z h10 a1 "com/example/hike/hike/Proximity$Group" "reverse" "Z" (.int (1 : Int32)) := f9_F_a1_reverse.same W10
  have f11_F_a1_skipped : Fld Z h10 a1 "com/example/hike/hike/Proximity$Group" "skipped" "[I" .null := f9_F_a1_skipped.other W10 (Or.inr (slot_ne (Or.inr (hw _ (List.mem_of_getElem? (i := 32) rfl))) (Or.inr (hw _ (List.mem_of_getElem? (i := 30) rfl))) (by decide) (t := (.array .int)) (t' := .boolean) (by decide) (by decide)))
  have K10 : Keep h0 h10 [a1] := K8.wr W10 (Or.inl (List.mem_of_getElem? (i := 0) rfl))
  have N10 := Fr.snoc X10 N8 pre_g_a1
  show GoW p e below QQ (T10.setTop (mkF m 31 #[.val (.ref a1), .val (.int p1), .val .null, .val (.int p3), .val (.int p4), .val (.int (1 : Int32)), .val (.ref a3)] []))
  refine GoW.st (fun t k => XS.aloadN X10.here hx rfl (hb hby d2_31) rfl rfl (XS.aload X10.here hx rfl (hb hby d2_32) rfl rfl k)) ?_
  show GoW p e below QQ (T10.setTop (mkF m 34 #[.val (.ref a1), .val (.int p1), .val .null, .val (.int p3), .val (.int p4), .val (.int (1 : Int32)), .val (.ref a3)] [(.ref a3), (.ref a1)]))
  obtain ⟨T12, h12, X12, e12, W12, st12⟩ := putF X10 hx hZ hown (host := "") (Or.inl (hw _ (List.mem_of_getElem? (i := 31) rfl))) Via.refl e10 f11_F_a1_skipped f11_E_a1 (Or.inr ⟨(hw _ (List.mem_of_getElem? (i := 32) rfl)), rfl, hnm⟩) (hw _ (List.mem_of_getElem? (i := 8) rfl)) (ty := (.array .int)) (by decide) rfl rfl (g := (mkF m 34 #[.val (.ref a1), .val (.int p1), .val .null, .val (.int p3), .val (.int p4), .val (.int (1 : Int32)), .val (.ref a3)] [(.ref a3), (.ref a1)])) rfl rfl (hb hby d2_34)
  refine GoW.st st12 ?_
  have f13_E_a1 : Exa Z h12 a1 "com/example/hike/hike/Proximity$Group" := f11_E_a1.wr W12
  have f13_F_a1_context : Fld Z h12 a1 "com/example/hike/hike/Proximity$Group" "context" "I" (.int p1) := f11_F_a1_context.other W12 (Or.inr (slot_ne (Or.inr (hw _ (List.mem_of_getElem? (i := 22) rfl))) (Or.inr (hw _ (List.mem_of_getElem? (i := 32) rfl))) (by decide) (t := .int) (t' := (.array .int)) (by decide) (by decide)))
  have f13_F_a1_order : Fld Z h12 a1 "com/example/hike/hike/Proximity$Group" "order" "[I" .null := f11_F_a1_order.other W12 (Or.inr (slot_ne (Or.inr (hw _ (List.mem_of_getElem? (i := 24) rfl))) (Or.inr (hw _ (List.mem_of_getElem? (i := 32) rfl))) (by decide) (t := (.array .int)) (t' := (.array .int)) (by decide) (by decide)))
  have f13_F_a1_from : Fld Z h12 a1 "com/example/hike/hike/Proximity$Group" "from" "I" (.int p3) := f11_F_a1_from.other W12 (Or.inr (slot_ne (Or.inr (hw _ (List.mem_of_getElem? (i := 26) rfl))) (Or.inr (hw _ (List.mem_of_getElem? (i := 32) rfl))) (by decide) (t := .int) (t' := (.array .int)) (by decide) (by decide)))
  have f13_F_a1_to : Fld Z h12 a1 "com/example/hike/hike/Proximity$Group" "to" "I" (.int p4) := f11_F_a1_to.other W12 (Or.inr (slot_ne (Or.inr (hw _ (List.mem_of_getElem? (i := 28) rfl))) (Or.inr (hw _ (List.mem_of_getElem? (i := 32) rfl))) (by decide) (t := .int) (t' := (.array .int)) (by decide) (by decide)))
  have f13_F_a1_reverse : Fld Z h12 a1 "com/example/hike/hike/Proximity$Group" "reverse" "Z" (.int (1 : Int32)) := f11_F_a1_reverse.other W12 (Or.inr (slot_ne (Or.inr (hw _ (List.mem_of_getElem? (i := 30) rfl))) (Or.inr (hw _ (List.mem_of_getElem? (i := 32) rfl))) (by decide) (t := .boolean) (t' := (.array .int)) (by decide) (by decide)))
  have f13_F_a1_skipped : Fld Z h12 a1 "com/example/hike/hike/Proximity$Group" "skipped" "[I" (.ref a3) := f11_F_a1_skipped.same W12
  have K12 : Keep h0 h12 [a1] := K10.wr W12 (Or.inl (List.mem_of_getElem? (i := 0) rfl))
  have N12 := Fr.snoc X12 N10 pre_g_a1
  show GoW p e below QQ (T12.setTop (mkF m 37 #[.val (.ref a1), .val (.int p1), .val .null, .val (.int p3), .val (.int p4), .val (.int (1 : Int32)), .val (.ref a3)] []))
  exact GoW.fin X12 none (fun _ => rfl) hlk hQ e12 ⟨rfl, N12, K12, f13_E_a1, f13_F_a1_order, f13_F_a1_from, f13_F_a1_to, f13_F_a1_reverse, f13_F_a1_skipped⟩ (by decide) (by decide) (fun fs hr => X12.returnOut hx hret (hb hby d2_37) hr)
theorem d5_0 : decode prog_102_method_5_code 0 = .ok (.aload_n 0, 1) := by decide +kernel
theorem d5_1 : decode prog_102_method_5_code 1 = .ok (.getfield 23, 3) := by decide +kernel
theorem d5_4 : decode prog_102_method_5_code 4 = .ok (.ifCond .eq 13, 3) := by decide +kernel
theorem d5_17 : decode prog_102_method_5_code 17 = .ok (.aload_n 0, 1) := by decide +kernel
theorem d5_18 : decode prog_102_method_5_code 18 = .ok (.getfield 17, 3) := by decide +kernel
theorem d5_21 : decode prog_102_method_5_code 21 = .ok (.i2l, 1) := by decide +kernel
theorem d5_22 : decode prog_102_method_5_code 22 = .ok (.lload_n 1, 1) := by decide +kernel
theorem d5_23 : decode prog_102_method_5_code 23 = .ok (.ladd, 1) := by decide +kernel
theorem d5_24 : decode prog_102_method_5_code 24 = .ok (.lconst 1, 1) := by decide +kernel
theorem d5_25 : decode prog_102_method_5_code 25 = .ok (.lsub, 1) := by decide +kernel
theorem d5_26 : decode prog_102_method_5_code 26 = .ok (.l2i, 1) := by decide +kernel
theorem d5_27 : decode prog_102_method_5_code 27 = .ok (.istore_n 3, 1) := by decide +kernel
theorem d5_28 : decode prog_102_method_5_code 28 = .ok (.aload_n 0, 1) := by decide +kernel
theorem d5_29 : decode prog_102_method_5_code 29 = .ok (.getfield 27, 3) := by decide +kernel
theorem d5_32 : decode prog_102_method_5_code 32 = .ok (.ifnonnull 7, 3) := by decide +kernel
theorem d5_35 : decode prog_102_method_5_code 35 = .ok (.iconst (-1), 1) := by decide +kernel
theorem d5_36 : decode prog_102_method_5_code 36 = .ok (.goto 10, 3) := by decide +kernel
theorem d5_46 : decode prog_102_method_5_code 46 = .ok (.istore 4, 2) := by decide +kernel
theorem d5_48 : decode prog_102_method_5_code 48 = .ok (.iload 4, 2) := by decide +kernel
theorem d5_50 : decode prog_102_method_5_code 50 = .ok (.ifCond .lt 26, 3) := by decide +kernel
theorem d5_76 : decode prog_102_method_5_code 76 = .ok (.aload_n 0, 1) := by decide +kernel
theorem d5_77 : decode prog_102_method_5_code 77 = .ok (.getfield 13, 3) := by decide +kernel
theorem d5_80 : decode prog_102_method_5_code 80 = .ok (.ifnonnull 7, 3) := by decide +kernel
theorem d5_87 : decode prog_102_method_5_code 87 = .ok (.aload_n 0, 1) := by decide +kernel
theorem d5_88 : decode prog_102_method_5_code 88 = .ok (.getfield 13, 3) := by decide +kernel
theorem d5_91 : decode prog_102_method_5_code 91 = .ok (.iload_n 3, 1) := by decide +kernel
theorem d5_92 : decode prog_102_method_5_code 92 = .ok (.iaload, 1) := by decide +kernel
theorem d5_93 : decode prog_102_method_5_code 93 = .ok (.ireturn, 1) := by decide +kernel
def RM5_o0 : Room := { frames := 0, cells := 0, slots := 0, locals := 0 }
def Q5_o0 (Z : State) (a1 : Addr) (q1 : Int64) (w1 : Int32) (w2 : Int32) (a2 : Addr) (ka : ClassId) (o0 : Int32) (o1 : Int32) (o2 : Int32) (o3 : Int32) (o4 : Int32) (o5 : Int32) (o6 : Int32) (o7 : Int32) (h0 : Heap) (n0 : Nat) (v : Option Value) (h : Heap) (L : List Loc) : Prop := v = some (.int (([o0, o1, o2, o3, o4, o5, o6, o7] : List Int32).getD (((w1.toInt64 + q1) - (1 : Int64)).toInt32).toNatClampNeg (0 : Int32))) ∧ Fr n0 L ∧ h = h0
set_option maxRecDepth 65536 in
set_option maxHeartbeats 40000000 in
theorem rm5_o0 (l : Launch) (Z : State) (a0 : Array Value) (hw : ∀ d ∈ tables_1, d.before a0 Z = true) (ws : List Jvm.Cond) (a1 : Addr) (q1 : Int64) (w1 : Int32) (w2 : Int32) (a2 : Addr) (ka : ClassId) (o0 : Int32) (o1 : Int32) (o2 : Int32) (o3 : Int32) (o4 : Int32) (o5 : Int32) (o6 : Int32) (o7 : Int32) (h0 : Heap) (n0 : Nat) (Z0 : n0 ≤ h0.size) (pre_F_a1_reverse : Fld Z h0 a1 "com/example/hike/hike/Proximity$Group" "reverse" "Z" (.int (0 : Int32))) (pre_F_a1_from : Fld Z h0 a1 "com/example/hike/hike/Proximity$Group" "from" "I" (.int w1)) (pre_F_a1_to : Fld Z h0 a1 "com/example/hike/hike/Proximity$Group" "to" "I" (.int w2)) (pre_F_a1_skipped : Fld Z h0 a1 "com/example/hike/hike/Proximity$Group" "skipped" "[I" .null) (pre_F_a1_order : Fld Z h0 a1 "com/example/hike/hike/Proximity$Group" "order" "[I" (.ref a2)) (pre_V_a2 : Arv Z h0 a2 ka .int (8 : Int32) [(.int o0), (.int o1), (.int o2), (.int o3), (.int o4), (.int o5), (.int o6), (.int o7)] (.int (0 : Int32))) (hj0 : ¬ (((w1.toInt64 + q1) - (1 : Int64)).toInt32) < (0 : Int32)) (hjz : (((w1.toInt64 + q1) - (1 : Int64)).toInt32) < (8 : Int32)) :
    MetFree l (⟨"com/example/hike/hike/Proximity$Group", "at", "(J)I"⟩ : MethodName) (head1 (Jvm.Cond.code (⟨"com/example/hike/hike/Proximity$Group", "at", "(J)I"⟩ : MethodName) prog_102_method_5_code 5 (some .int) :: ws) RM5_o0) (fun a U => a = #[(.ref a1), (.long q1)] ∧ Z.Warmed39 U.vm ∧ U.heap = h0) (fun _ _ _ _ _ => True) (fun _ U o U' => ∃ v L, o = .returned v ∧ Q5_o0 Z a1 q1 w1 w2 a2 ka o0 o1 o2 o3 o4 o5 o6 o7 h0 n0 v U'.heap L ∧ FrameEnd U o U' L RM5_o0.cells RM5_o0.slots) := by
  refine met_of (Q := fun v h L => Q5_o0 Z a1 q1 w1 w2 a2 ka o0 o1 o2 o3 o4 o5 o6 o7 h0 n0 v h L) (plainFor_of_name pn_1) (fun m => by first | (simp [entryFrame, mkF, argsToLocals, Value.category]; done) | rfl) (Ls := #[.val (.ref a1), .val (.long q1), .second, .unset, .unset]) ?_
  intro p e s m below meth c T0 QQ hx hZ hby hml hown hnm hret hlk X0 e0 hQ
  have hml : c.maxLocals = 5 := hml
  have hown : s.vm.findClass "com/example/hike/hike/Proximity$Group" = some m.cls := hown
  have hnm : meth.name = "at" := hnm
  have hret : meth.sig.returnType = some .int := hret
  have N0 := Fr.nil n0
  have K0 : Keep h0 h0 [] := Keep.refl h0 _
  show GoW p e below QQ (T0.setTop (mkF m 0 #[.val (.ref a1), .val (.long q1), .second, .unset, .unset] []))
  refine GoW.st (fun t k => XS.aloadN X0.here hx rfl (hb hby d5_0) rfl rfl k) ?_
  show GoW p e below QQ (T0.setTop (mkF m 1 #[.val (.ref a1), .val (.long q1), .second, .unset, .unset] [(.ref a1)]))
  obtain ⟨T1, X1, e1, st1⟩ := getF X0 hx hZ hown (host := "") (Or.inl (hw _ (List.mem_of_getElem? (i := 29) rfl))) Via.refl e0 pre_F_a1_reverse (g := (mkF m 1 #[.val (.ref a1), .val (.long q1), .second, .unset, .unset] [(.ref a1)])) rfl rfl (hb hby d5_1)
  refine GoW.st st1 ?_
  show GoW p e below QQ (T1.setTop (mkF m 4 #[.val (.ref a1), .val (.long q1), .second, .unset, .unset] [(.int (0 : Int32))]))
  have hc4 : (0 : Int32) = (0 : Int32) := by decide
  refine GoW.st (fun t k => XS.ifYes X1.here hx rfl (pc0 := 4) (pc' := 17) rfl (hb hby d5_4) rfl ((if0 _ _).trans (teq hc4).1) (by decide) (by decide) (XS.aloadN X1.here hx rfl (hb hby d5_17) rfl rfl k)) ?_
  show GoW p e below QQ (T1.setTop (mkF m 18 #[.val (.ref a1), .val (.long q1), .second, .unset, .unset] [(.ref a1)]))
  obtain ⟨T2, X2, e2, st2⟩ := getF X1 hx hZ hown (host := "") (Or.inl (hw _ (List.mem_of_getElem? (i := 25) rfl))) Via.refl e1 pre_F_a1_from (g := (mkF m 18 #[.val (.ref a1), .val (.long q1), .second, .unset, .unset] [(.ref a1)])) rfl rfl (hb hby d5_18)
  refine GoW.st st2 ?_
  show GoW p e below QQ (T2.setTop (mkF m 21 #[.val (.ref a1), .val (.long q1), .second, .unset, .unset] [(.int w1)]))
  refine GoW.st (fun t k => XS.i2l X2.here hx rfl (hb hby d5_21) rfl (XS.lloadN X2.here hx rfl (hb hby d5_22) rfl (XS.ladd X2.here hx rfl (hb hby d5_23) rfl (XS.lconst X2.here hx rfl (hb hby d5_24) (XS.lsub X2.here hx rfl (hb hby d5_25) rfl (XS.l2i X2.here hx rfl (hb hby d5_26) rfl k)))))) ?_
  show GoW p e below QQ (T2.setTop (mkF m 27 #[.val (.ref a1), .val (.long q1), .second, .unset, .unset] [(.int ((((w1.toInt64) + q1) - (1 : Int64)).toInt32))]))
  refine GoW.st (fun t k => XS.istoreN X2.here hx rfl (hb hby d5_27) rfl (l' := #[.val (.ref a1), .val (.long q1), .second, .val (.int ((((w1.toInt64) + q1) - (1 : Int64)).toInt32)), .unset]) rfl k) ?_
  show GoW p e below QQ (T2.setTop (mkF m 28 #[.val (.ref a1), .val (.long q1), .second, .val (.int ((((w1.toInt64) + q1) - (1 : Int64)).toInt32)), .unset] []))
  generalize hv27 : ((((w1.toInt64) + q1) - (1 : Int64)).toInt32) = v27
  refine GoW.st (fun t k => XS.aloadN X2.here hx rfl (hb hby d5_28) rfl rfl k) ?_
  show GoW p e below QQ (T2.setTop (mkF m 29 #[.val (.ref a1), .val (.long q1), .second, .val (.int v27), .unset] [(.ref a1)]))
  obtain ⟨T3, X3, e3, st3⟩ := getF X2 hx hZ hown (host := "") (Or.inl (hw _ (List.mem_of_getElem? (i := 31) rfl))) Via.refl e2 pre_F_a1_skipped (g := (mkF m 29 #[.val (.ref a1), .val (.long q1), .second, .val (.int v27), .unset] [(.ref a1)])) rfl rfl (hb hby d5_29)
  refine GoW.st st3 ?_
  show GoW p e below QQ (T3.setTop (mkF m 32 #[.val (.ref a1), .val (.long q1), .second, .val (.int v27), .unset] [.null]))
  refine GoW.st (fun t k => XS.ifnonnullNo X3.here hx rfl (hb hby d5_32) rfl (XS.iconst X3.here hx rfl (hb hby d5_35) (XS.goto X3.here hx rfl (pc0 := 36) (pc' := 46) rfl (hb hby d5_36) (by decide) (by decide) (XS.istore X3.here hx rfl (hb hby d5_46) rfl (l' := #[.val (.ref a1), .val (.long q1), .second, .val (.int v27), .val (.int (-1 : Int32))]) rfl (XS.iload X3.here hx rfl (hb hby d5_48) rfl k))))) ?_
  show GoW p e below QQ (T3.setTop (mkF m 50 #[.val (.ref a1), .val (.long q1), .second, .val (.int v27), .val (.int (-1 : Int32))] [(.int (-1 : Int32))]))
  have hc50 : (-1 : Int32) < (0 : Int32) := by decide
  refine GoW.st (fun t k => XS.ifYes X3.here hx rfl (pc0 := 50) (pc' := 76) rfl (hb hby d5_50) rfl ((if0 _ _).trans (tlt hc50).1) (by decide) (by decide) (XS.aloadN X3.here hx rfl (hb hby d5_76) rfl rfl k)) ?_
  show GoW p e below QQ (T3.setTop (mkF m 77 #[.val (.ref a1), .val (.long q1), .second, .val (.int v27), .val (.int (-1 : Int32))] [(.ref a1)]))
  obtain ⟨T4, X4, e4, st4⟩ := getF X3 hx hZ hown (host := "") (Or.inl (hw _ (List.mem_of_getElem? (i := 23) rfl))) Via.refl e3 pre_F_a1_order (g := (mkF m 77 #[.val (.ref a1), .val (.long q1), .second, .val (.int v27), .val (.int (-1 : Int32))] [(.ref a1)])) rfl rfl (hb hby d5_77)
  refine GoW.st st4 ?_
  show GoW p e below QQ (T4.setTop (mkF m 80 #[.val (.ref a1), .val (.long q1), .second, .val (.int v27), .val (.int (-1 : Int32))] [(.ref a2)]))
  refine GoW.st (fun t k => XS.ifnonnullYes X4.here hx rfl (pc0 := 80) (pc' := 87) rfl (hb hby d5_80) rfl (by decide) (by decide) (XS.aloadN X4.here hx rfl (hb hby d5_87) rfl rfl k)) ?_
  show GoW p e below QQ (T4.setTop (mkF m 88 #[.val (.ref a1), .val (.long q1), .second, .val (.int v27), .val (.int (-1 : Int32))] [(.ref a1)]))
  obtain ⟨T5, X5, e5, st5⟩ := getF X4 hx hZ hown (host := "") (Or.inl (hw _ (List.mem_of_getElem? (i := 23) rfl))) Via.refl e4 pre_F_a1_order (g := (mkF m 88 #[.val (.ref a1), .val (.long q1), .second, .val (.int v27), .val (.int (-1 : Int32))] [(.ref a1)])) rfl rfl (hb hby d5_88)
  refine GoW.st st5 ?_
  show GoW p e below QQ (T5.setTop (mkF m 91 #[.val (.ref a1), .val (.long q1), .second, .val (.int v27), .val (.int (-1 : Int32))] [(.ref a2)]))
  refine GoW.st (fun t k => XS.iloadN X5.here hx rfl (hb hby d5_91) rfl k) ?_
  show GoW p e below QQ (T5.setTop (mkF m 92 #[.val (.ref a1), .val (.long q1), .second, .val (.int v27), .val (.int (-1 : Int32))] [(.int v27), (.ref a2)]))
  have hk0 : ¬ v27 < (0 : Int32) := by subst hv27; exact hj0
  have hk1 : v27 < (8 : Int32) := by subst hv27; exact hjz
  refine GoW.st (fun t k => ldVI X5 hx hZ e5 pre_V_a2 (v := (.int (([o0, o1, o2, o3, o4, o5, o6, o7] : List Int32).getD (v27).toNatClampNeg (0 : Int32)))) ⟨hk0, hk1⟩ (own_at8 _ _ _ _ _ _ _ _ _) (g := (mkF m 92 #[.val (.ref a1), .val (.long q1), .second, .val (.int v27), .val (.int (-1 : Int32))] [(.int v27), (.ref a2)])) rfl rfl (hb hby d5_92) t k) ?_
  show GoW p e below QQ (T5.setTop (mkF m 93 #[.val (.ref a1), .val (.long q1), .second, .val (.int v27), .val (.int (-1 : Int32))] [(.int (([o0, o1, o2, o3, o4, o5, o6, o7] : List Int32).getD (v27).toNatClampNeg (0 : Int32)))]))
  have rv : ((some (.int (([o0, o1, o2, o3, o4, o5, o6, o7] : List Int32).getD (v27).toNatClampNeg (0 : Int32)))) : Option Value) = some (.int (([o0, o1, o2, o3, o4, o5, o6, o7] : List Int32).getD (((w1.toInt64 + q1) - (1 : Int64)).toInt32).toNatClampNeg (0 : Int32))) := by
    subst_vars
    rfl
  exact GoW.fin X5 (some (.int (([o0, o1, o2, o3, o4, o5, o6, o7] : List Int32).getD (v27).toNatClampNeg (0 : Int32)))) (fun q => by rw [hret] at q; cases q) hlk hQ e5 ⟨rv, N0, rfl⟩ (by decide) (by decide) (fun fs hr => retI X5 hx hret (hb hby d5_93) hr)
theorem d5_7 : decode prog_102_method_5_code 7 = .ok (.aload_n 0, 1) := by decide +kernel
theorem d5_8 : decode prog_102_method_5_code 8 = .ok (.getfield 20, 3) := by decide +kernel
theorem d5_11 : decode prog_102_method_5_code 11 = .ok (.i2l, 1) := by decide +kernel
theorem d5_12 : decode prog_102_method_5_code 12 = .ok (.lload_n 1, 1) := by decide +kernel
theorem d5_13 : decode prog_102_method_5_code 13 = .ok (.lsub, 1) := by decide +kernel
theorem d5_14 : decode prog_102_method_5_code 14 = .ok (.goto 12, 3) := by decide +kernel
def RM5_o1 : Room := { frames := 0, cells := 0, slots := 0, locals := 0 }
def Q5_o1 (Z : State) (a1 : Addr) (q1 : Int64) (w1 : Int32) (w2 : Int32) (a2 : Addr) (ka : ClassId) (o0 : Int32) (o1 : Int32) (o2 : Int32) (o3 : Int32) (o4 : Int32) (o5 : Int32) (o6 : Int32) (o7 : Int32) (h0 : Heap) (n0 : Nat) (v : Option Value) (h : Heap) (L : List Loc) : Prop := v = some (.int (([o0, o1, o2, o3, o4, o5, o6, o7] : List Int32).getD ((w2.toInt64 - q1).toInt32).toNatClampNeg (0 : Int32))) ∧ Fr n0 L ∧ h = h0
set_option maxRecDepth 65536 in
set_option maxHeartbeats 40000000 in
theorem rm5_o1 (l : Launch) (Z : State) (a0 : Array Value) (hw : ∀ d ∈ tables_1, d.before a0 Z = true) (ws : List Jvm.Cond) (a1 : Addr) (q1 : Int64) (w1 : Int32) (w2 : Int32) (a2 : Addr) (ka : ClassId) (o0 : Int32) (o1 : Int32) (o2 : Int32) (o3 : Int32) (o4 : Int32) (o5 : Int32) (o6 : Int32) (o7 : Int32) (h0 : Heap) (n0 : Nat) (Z0 : n0 ≤ h0.size) (pre_F_a1_reverse : Fld Z h0 a1 "com/example/hike/hike/Proximity$Group" "reverse" "Z" (.int (1 : Int32))) (pre_F_a1_from : Fld Z h0 a1 "com/example/hike/hike/Proximity$Group" "from" "I" (.int w1)) (pre_F_a1_to : Fld Z h0 a1 "com/example/hike/hike/Proximity$Group" "to" "I" (.int w2)) (pre_F_a1_skipped : Fld Z h0 a1 "com/example/hike/hike/Proximity$Group" "skipped" "[I" .null) (pre_F_a1_order : Fld Z h0 a1 "com/example/hike/hike/Proximity$Group" "order" "[I" (.ref a2)) (pre_V_a2 : Arv Z h0 a2 ka .int (8 : Int32) [(.int o0), (.int o1), (.int o2), (.int o3), (.int o4), (.int o5), (.int o6), (.int o7)] (.int (0 : Int32))) (hj0 : ¬ ((w2.toInt64 - q1).toInt32) < (0 : Int32)) (hjz : ((w2.toInt64 - q1).toInt32) < (8 : Int32)) :
    MetFree l (⟨"com/example/hike/hike/Proximity$Group", "at", "(J)I"⟩ : MethodName) (head1 (Jvm.Cond.code (⟨"com/example/hike/hike/Proximity$Group", "at", "(J)I"⟩ : MethodName) prog_102_method_5_code 5 (some .int) :: ws) RM5_o1) (fun a U => a = #[(.ref a1), (.long q1)] ∧ Z.Warmed39 U.vm ∧ U.heap = h0) (fun _ _ _ _ _ => True) (fun _ U o U' => ∃ v L, o = .returned v ∧ Q5_o1 Z a1 q1 w1 w2 a2 ka o0 o1 o2 o3 o4 o5 o6 o7 h0 n0 v U'.heap L ∧ FrameEnd U o U' L RM5_o1.cells RM5_o1.slots) := by
  refine met_of (Q := fun v h L => Q5_o1 Z a1 q1 w1 w2 a2 ka o0 o1 o2 o3 o4 o5 o6 o7 h0 n0 v h L) (plainFor_of_name pn_1) (fun m => by first | (simp [entryFrame, mkF, argsToLocals, Value.category]; done) | rfl) (Ls := #[.val (.ref a1), .val (.long q1), .second, .unset, .unset]) ?_
  intro p e s m below meth c T0 QQ hx hZ hby hml hown hnm hret hlk X0 e0 hQ
  have hml : c.maxLocals = 5 := hml
  have hown : s.vm.findClass "com/example/hike/hike/Proximity$Group" = some m.cls := hown
  have hnm : meth.name = "at" := hnm
  have hret : meth.sig.returnType = some .int := hret
  have N0 := Fr.nil n0
  have K0 : Keep h0 h0 [] := Keep.refl h0 _
  show GoW p e below QQ (T0.setTop (mkF m 0 #[.val (.ref a1), .val (.long q1), .second, .unset, .unset] []))
  refine GoW.st (fun t k => XS.aloadN X0.here hx rfl (hb hby d5_0) rfl rfl k) ?_
  show GoW p e below QQ (T0.setTop (mkF m 1 #[.val (.ref a1), .val (.long q1), .second, .unset, .unset] [(.ref a1)]))
  obtain ⟨T1, X1, e1, st1⟩ := getF X0 hx hZ hown (host := "") (Or.inl (hw _ (List.mem_of_getElem? (i := 29) rfl))) Via.refl e0 pre_F_a1_reverse (g := (mkF m 1 #[.val (.ref a1), .val (.long q1), .second, .unset, .unset] [(.ref a1)])) rfl rfl (hb hby d5_1)
  refine GoW.st st1 ?_
  show GoW p e below QQ (T1.setTop (mkF m 4 #[.val (.ref a1), .val (.long q1), .second, .unset, .unset] [(.int (1 : Int32))]))
  have hc4 : ¬ ((1 : Int32) = (0 : Int32)) := by decide
  refine GoW.st (fun t k => XS.ifNo X1.here hx rfl (hb hby d5_4) rfl ((if0 _ _).trans (feq hc4).1) (XS.aloadN X1.here hx rfl (hb hby d5_7) rfl rfl k)) ?_
  show GoW p e below QQ (T1.setTop (mkF m 8 #[.val (.ref a1), .val (.long q1), .second, .unset, .unset] [(.ref a1)]))
  obtain ⟨T2, X2, e2, st2⟩ := getF X1 hx hZ hown (host := "") (Or.inl (hw _ (List.mem_of_getElem? (i := 27) rfl))) Via.refl e1 pre_F_a1_to (g := (mkF m 8 #[.val (.ref a1), .val (.long q1), .second, .unset, .unset] [(.ref a1)])) rfl rfl (hb hby d5_8)
  refine GoW.st st2 ?_
  show GoW p e below QQ (T2.setTop (mkF m 11 #[.val (.ref a1), .val (.long q1), .second, .unset, .unset] [(.int w2)]))
  refine GoW.st (fun t k => XS.i2l X2.here hx rfl (hb hby d5_11) rfl (XS.lloadN X2.here hx rfl (hb hby d5_12) rfl (XS.lsub X2.here hx rfl (hb hby d5_13) rfl (XS.goto X2.here hx rfl (pc0 := 14) (pc' := 26) rfl (hb hby d5_14) (by decide) (by decide) (XS.l2i X2.here hx rfl (hb hby d5_26) rfl (XS.istoreN X2.here hx rfl (hb hby d5_27) rfl (l' := #[.val (.ref a1), .val (.long q1), .second, .val (.int (((w2.toInt64) - q1).toInt32)), .unset]) rfl k)))))) ?_
  show GoW p e below QQ (T2.setTop (mkF m 28 #[.val (.ref a1), .val (.long q1), .second, .val (.int (((w2.toInt64) - q1).toInt32)), .unset] []))
  generalize hv27 : (((w2.toInt64) - q1).toInt32) = v27
  refine GoW.st (fun t k => XS.aloadN X2.here hx rfl (hb hby d5_28) rfl rfl k) ?_
  show GoW p e below QQ (T2.setTop (mkF m 29 #[.val (.ref a1), .val (.long q1), .second, .val (.int v27), .unset] [(.ref a1)]))
  obtain ⟨T3, X3, e3, st3⟩ := getF X2 hx hZ hown (host := "") (Or.inl (hw _ (List.mem_of_getElem? (i := 31) rfl))) Via.refl e2 pre_F_a1_skipped (g := (mkF m 29 #[.val (.ref a1), .val (.long q1), .second, .val (.int v27), .unset] [(.ref a1)])) rfl rfl (hb hby d5_29)
  refine GoW.st st3 ?_
  show GoW p e below QQ (T3.setTop (mkF m 32 #[.val (.ref a1), .val (.long q1), .second, .val (.int v27), .unset] [.null]))
  refine GoW.st (fun t k => XS.ifnonnullNo X3.here hx rfl (hb hby d5_32) rfl (XS.iconst X3.here hx rfl (hb hby d5_35) (XS.goto X3.here hx rfl (pc0 := 36) (pc' := 46) rfl (hb hby d5_36) (by decide) (by decide) (XS.istore X3.here hx rfl (hb hby d5_46) rfl (l' := #[.val (.ref a1), .val (.long q1), .second, .val (.int v27), .val (.int (-1 : Int32))]) rfl (XS.iload X3.here hx rfl (hb hby d5_48) rfl k))))) ?_
  show GoW p e below QQ (T3.setTop (mkF m 50 #[.val (.ref a1), .val (.long q1), .second, .val (.int v27), .val (.int (-1 : Int32))] [(.int (-1 : Int32))]))
  have hc50 : (-1 : Int32) < (0 : Int32) := by decide
  refine GoW.st (fun t k => XS.ifYes X3.here hx rfl (pc0 := 50) (pc' := 76) rfl (hb hby d5_50) rfl ((if0 _ _).trans (tlt hc50).1) (by decide) (by decide) (XS.aloadN X3.here hx rfl (hb hby d5_76) rfl rfl k)) ?_
  show GoW p e below QQ (T3.setTop (mkF m 77 #[.val (.ref a1), .val (.long q1), .second, .val (.int v27), .val (.int (-1 : Int32))] [(.ref a1)]))
  obtain ⟨T4, X4, e4, st4⟩ := getF X3 hx hZ hown (host := "") (Or.inl (hw _ (List.mem_of_getElem? (i := 23) rfl))) Via.refl e3 pre_F_a1_order (g := (mkF m 77 #[.val (.ref a1), .val (.long q1), .second, .val (.int v27), .val (.int (-1 : Int32))] [(.ref a1)])) rfl rfl (hb hby d5_77)
  refine GoW.st st4 ?_
  show GoW p e below QQ (T4.setTop (mkF m 80 #[.val (.ref a1), .val (.long q1), .second, .val (.int v27), .val (.int (-1 : Int32))] [(.ref a2)]))
  refine GoW.st (fun t k => XS.ifnonnullYes X4.here hx rfl (pc0 := 80) (pc' := 87) rfl (hb hby d5_80) rfl (by decide) (by decide) (XS.aloadN X4.here hx rfl (hb hby d5_87) rfl rfl k)) ?_
  show GoW p e below QQ (T4.setTop (mkF m 88 #[.val (.ref a1), .val (.long q1), .second, .val (.int v27), .val (.int (-1 : Int32))] [(.ref a1)]))
  obtain ⟨T5, X5, e5, st5⟩ := getF X4 hx hZ hown (host := "") (Or.inl (hw _ (List.mem_of_getElem? (i := 23) rfl))) Via.refl e4 pre_F_a1_order (g := (mkF m 88 #[.val (.ref a1), .val (.long q1), .second, .val (.int v27), .val (.int (-1 : Int32))] [(.ref a1)])) rfl rfl (hb hby d5_88)
  refine GoW.st st5 ?_
  show GoW p e below QQ (T5.setTop (mkF m 91 #[.val (.ref a1), .val (.long q1), .second, .val (.int v27), .val (.int (-1 : Int32))] [(.ref a2)]))
  refine GoW.st (fun t k => XS.iloadN X5.here hx rfl (hb hby d5_91) rfl k) ?_
  show GoW p e below QQ (T5.setTop (mkF m 92 #[.val (.ref a1), .val (.long q1), .second, .val (.int v27), .val (.int (-1 : Int32))] [(.int v27), (.ref a2)]))
  have hk0 : ¬ v27 < (0 : Int32) := by subst hv27; exact hj0
  have hk1 : v27 < (8 : Int32) := by subst hv27; exact hjz
  refine GoW.st (fun t k => ldVI X5 hx hZ e5 pre_V_a2 (v := (.int (([o0, o1, o2, o3, o4, o5, o6, o7] : List Int32).getD (v27).toNatClampNeg (0 : Int32)))) ⟨hk0, hk1⟩ (own_at8 _ _ _ _ _ _ _ _ _) (g := (mkF m 92 #[.val (.ref a1), .val (.long q1), .second, .val (.int v27), .val (.int (-1 : Int32))] [(.int v27), (.ref a2)])) rfl rfl (hb hby d5_92) t k) ?_
  show GoW p e below QQ (T5.setTop (mkF m 93 #[.val (.ref a1), .val (.long q1), .second, .val (.int v27), .val (.int (-1 : Int32))] [(.int (([o0, o1, o2, o3, o4, o5, o6, o7] : List Int32).getD (v27).toNatClampNeg (0 : Int32)))]))
  have rv : ((some (.int (([o0, o1, o2, o3, o4, o5, o6, o7] : List Int32).getD (v27).toNatClampNeg (0 : Int32)))) : Option Value) = some (.int (([o0, o1, o2, o3, o4, o5, o6, o7] : List Int32).getD ((w2.toInt64 - q1).toInt32).toNatClampNeg (0 : Int32))) := by
    subst_vars
    rfl
  exact GoW.fin X5 (some (.int (([o0, o1, o2, o3, o4, o5, o6, o7] : List Int32).getD (v27).toNatClampNeg (0 : Int32)))) (fun q => by rw [hret] at q; cases q) hlk hQ e5 ⟨rv, N0, rfl⟩ (by decide) (by decide) (fun fs hr => retI X5 hx hret (hb hby d5_93) hr)
theorem d5_83 : decode prog_102_method_5_code 83 = .ok (.iload_n 3, 1) := by decide +kernel
theorem d5_84 : decode prog_102_method_5_code 84 = .ok (.goto 9, 3) := by decide +kernel
def RM5_n0 : Room := { frames := 0, cells := 0, slots := 0, locals := 0 }
def Q5_n0 (Z : State) (a1 : Addr) (q1 : Int64) (w1 : Int32) (w2 : Int32) (h0 : Heap) (n0 : Nat) (v : Option Value) (h : Heap) (L : List Loc) : Prop := v = some (.int (((w1.toInt64 + q1) - (1 : Int64)).toInt32)) ∧ Fr n0 L ∧ h = h0
set_option maxRecDepth 65536 in
set_option maxHeartbeats 40000000 in
theorem rm5_n0 (l : Launch) (Z : State) (a0 : Array Value) (hw : ∀ d ∈ tables_1, d.before a0 Z = true) (ws : List Jvm.Cond) (a1 : Addr) (q1 : Int64) (w1 : Int32) (w2 : Int32) (h0 : Heap) (n0 : Nat) (Z0 : n0 ≤ h0.size) (pre_F_a1_reverse : Fld Z h0 a1 "com/example/hike/hike/Proximity$Group" "reverse" "Z" (.int (0 : Int32))) (pre_F_a1_from : Fld Z h0 a1 "com/example/hike/hike/Proximity$Group" "from" "I" (.int w1)) (pre_F_a1_to : Fld Z h0 a1 "com/example/hike/hike/Proximity$Group" "to" "I" (.int w2)) (pre_F_a1_skipped : Fld Z h0 a1 "com/example/hike/hike/Proximity$Group" "skipped" "[I" .null) (pre_F_a1_order : Fld Z h0 a1 "com/example/hike/hike/Proximity$Group" "order" "[I" .null) :
    MetFree l (⟨"com/example/hike/hike/Proximity$Group", "at", "(J)I"⟩ : MethodName) (head1 (Jvm.Cond.code (⟨"com/example/hike/hike/Proximity$Group", "at", "(J)I"⟩ : MethodName) prog_102_method_5_code 5 (some .int) :: ws) RM5_n0) (fun a U => a = #[(.ref a1), (.long q1)] ∧ Z.Warmed39 U.vm ∧ U.heap = h0) (fun _ _ _ _ _ => True) (fun _ U o U' => ∃ v L, o = .returned v ∧ Q5_n0 Z a1 q1 w1 w2 h0 n0 v U'.heap L ∧ FrameEnd U o U' L RM5_n0.cells RM5_n0.slots) := by
  refine met_of (Q := fun v h L => Q5_n0 Z a1 q1 w1 w2 h0 n0 v h L) (plainFor_of_name pn_1) (fun m => by first | (simp [entryFrame, mkF, argsToLocals, Value.category]; done) | rfl) (Ls := #[.val (.ref a1), .val (.long q1), .second, .unset, .unset]) ?_
  intro p e s m below meth c T0 QQ hx hZ hby hml hown hnm hret hlk X0 e0 hQ
  have hml : c.maxLocals = 5 := hml
  have hown : s.vm.findClass "com/example/hike/hike/Proximity$Group" = some m.cls := hown
  have hnm : meth.name = "at" := hnm
  have hret : meth.sig.returnType = some .int := hret
  have N0 := Fr.nil n0
  have K0 : Keep h0 h0 [] := Keep.refl h0 _
  show GoW p e below QQ (T0.setTop (mkF m 0 #[.val (.ref a1), .val (.long q1), .second, .unset, .unset] []))
  refine GoW.st (fun t k => XS.aloadN X0.here hx rfl (hb hby d5_0) rfl rfl k) ?_
  show GoW p e below QQ (T0.setTop (mkF m 1 #[.val (.ref a1), .val (.long q1), .second, .unset, .unset] [(.ref a1)]))
  obtain ⟨T1, X1, e1, st1⟩ := getF X0 hx hZ hown (host := "") (Or.inl (hw _ (List.mem_of_getElem? (i := 29) rfl))) Via.refl e0 pre_F_a1_reverse (g := (mkF m 1 #[.val (.ref a1), .val (.long q1), .second, .unset, .unset] [(.ref a1)])) rfl rfl (hb hby d5_1)
  refine GoW.st st1 ?_
  show GoW p e below QQ (T1.setTop (mkF m 4 #[.val (.ref a1), .val (.long q1), .second, .unset, .unset] [(.int (0 : Int32))]))
  have hc4 : (0 : Int32) = (0 : Int32) := by decide
  refine GoW.st (fun t k => XS.ifYes X1.here hx rfl (pc0 := 4) (pc' := 17) rfl (hb hby d5_4) rfl ((if0 _ _).trans (teq hc4).1) (by decide) (by decide) (XS.aloadN X1.here hx rfl (hb hby d5_17) rfl rfl k)) ?_
  show GoW p e below QQ (T1.setTop (mkF m 18 #[.val (.ref a1), .val (.long q1), .second, .unset, .unset] [(.ref a1)]))
  obtain ⟨T2, X2, e2, st2⟩ := getF X1 hx hZ hown (host := "") (Or.inl (hw _ (List.mem_of_getElem? (i := 25) rfl))) Via.refl e1 pre_F_a1_from (g := (mkF m 18 #[.val (.ref a1), .val (.long q1), .second, .unset, .unset] [(.ref a1)])) rfl rfl (hb hby d5_18)
  refine GoW.st st2 ?_
  show GoW p e below QQ (T2.setTop (mkF m 21 #[.val (.ref a1), .val (.long q1), .second, .unset, .unset] [(.int w1)]))
  refine GoW.st (fun t k => XS.i2l X2.here hx rfl (hb hby d5_21) rfl (XS.lloadN X2.here hx rfl (hb hby d5_22) rfl (XS.ladd X2.here hx rfl (hb hby d5_23) rfl (XS.lconst X2.here hx rfl (hb hby d5_24) (XS.lsub X2.here hx rfl (hb hby d5_25) rfl (XS.l2i X2.here hx rfl (hb hby d5_26) rfl k)))))) ?_
  show GoW p e below QQ (T2.setTop (mkF m 27 #[.val (.ref a1), .val (.long q1), .second, .unset, .unset] [(.int ((((w1.toInt64) + q1) - (1 : Int64)).toInt32))]))
  refine GoW.st (fun t k => XS.istoreN X2.here hx rfl (hb hby d5_27) rfl (l' := #[.val (.ref a1), .val (.long q1), .second, .val (.int ((((w1.toInt64) + q1) - (1 : Int64)).toInt32)), .unset]) rfl k) ?_
  show GoW p e below QQ (T2.setTop (mkF m 28 #[.val (.ref a1), .val (.long q1), .second, .val (.int ((((w1.toInt64) + q1) - (1 : Int64)).toInt32)), .unset] []))
  generalize hv27 : ((((w1.toInt64) + q1) - (1 : Int64)).toInt32) = v27
  refine GoW.st (fun t k => XS.aloadN X2.here hx rfl (hb hby d5_28) rfl rfl k) ?_
  show GoW p e below QQ (T2.setTop (mkF m 29 #[.val (.ref a1), .val (.long q1), .second, .val (.int v27), .unset] [(.ref a1)]))
  obtain ⟨T3, X3, e3, st3⟩ := getF X2 hx hZ hown (host := "") (Or.inl (hw _ (List.mem_of_getElem? (i := 31) rfl))) Via.refl e2 pre_F_a1_skipped (g := (mkF m 29 #[.val (.ref a1), .val (.long q1), .second, .val (.int v27), .unset] [(.ref a1)])) rfl rfl (hb hby d5_29)
  refine GoW.st st3 ?_
  show GoW p e below QQ (T3.setTop (mkF m 32 #[.val (.ref a1), .val (.long q1), .second, .val (.int v27), .unset] [.null]))
  refine GoW.st (fun t k => XS.ifnonnullNo X3.here hx rfl (hb hby d5_32) rfl (XS.iconst X3.here hx rfl (hb hby d5_35) (XS.goto X3.here hx rfl (pc0 := 36) (pc' := 46) rfl (hb hby d5_36) (by decide) (by decide) (XS.istore X3.here hx rfl (hb hby d5_46) rfl (l' := #[.val (.ref a1), .val (.long q1), .second, .val (.int v27), .val (.int (-1 : Int32))]) rfl (XS.iload X3.here hx rfl (hb hby d5_48) rfl k))))) ?_
  show GoW p e below QQ (T3.setTop (mkF m 50 #[.val (.ref a1), .val (.long q1), .second, .val (.int v27), .val (.int (-1 : Int32))] [(.int (-1 : Int32))]))
  have hc50 : (-1 : Int32) < (0 : Int32) := by decide
  refine GoW.st (fun t k => XS.ifYes X3.here hx rfl (pc0 := 50) (pc' := 76) rfl (hb hby d5_50) rfl ((if0 _ _).trans (tlt hc50).1) (by decide) (by decide) (XS.aloadN X3.here hx rfl (hb hby d5_76) rfl rfl k)) ?_
  show GoW p e below QQ (T3.setTop (mkF m 77 #[.val (.ref a1), .val (.long q1), .second, .val (.int v27), .val (.int (-1 : Int32))] [(.ref a1)]))
  obtain ⟨T4, X4, e4, st4⟩ := getF X3 hx hZ hown (host := "") (Or.inl (hw _ (List.mem_of_getElem? (i := 23) rfl))) Via.refl e3 pre_F_a1_order (g := (mkF m 77 #[.val (.ref a1), .val (.long q1), .second, .val (.int v27), .val (.int (-1 : Int32))] [(.ref a1)])) rfl rfl (hb hby d5_77)
  refine GoW.st st4 ?_
  show GoW p e below QQ (T4.setTop (mkF m 80 #[.val (.ref a1), .val (.long q1), .second, .val (.int v27), .val (.int (-1 : Int32))] [.null]))
  refine GoW.st (fun t k => XS.ifnonnullNo X4.here hx rfl (hb hby d5_80) rfl (XS.iloadN X4.here hx rfl (hb hby d5_83) rfl (XS.goto X4.here hx rfl (pc0 := 84) (pc' := 93) rfl (hb hby d5_84) (by decide) (by decide) k))) ?_
  show GoW p e below QQ (T4.setTop (mkF m 93 #[.val (.ref a1), .val (.long q1), .second, .val (.int v27), .val (.int (-1 : Int32))] [(.int v27)]))
  have rv : ((some (.int v27)) : Option Value) = some (.int (((w1.toInt64 + q1) - (1 : Int64)).toInt32)) := by
    subst_vars
    rfl
  exact GoW.fin X4 (some (.int v27)) (fun q => by rw [hret] at q; cases q) hlk hQ e4 ⟨rv, N0, rfl⟩ (by decide) (by decide) (fun fs hr => retI X4 hx hret (hb hby d5_93) hr)
def RM5_n1 : Room := { frames := 0, cells := 0, slots := 0, locals := 0 }
def Q5_n1 (Z : State) (a1 : Addr) (q1 : Int64) (w1 : Int32) (w2 : Int32) (h0 : Heap) (n0 : Nat) (v : Option Value) (h : Heap) (L : List Loc) : Prop := v = some (.int ((w2.toInt64 - q1).toInt32)) ∧ Fr n0 L ∧ h = h0
set_option maxRecDepth 65536 in
set_option maxHeartbeats 40000000 in
theorem rm5_n1 (l : Launch) (Z : State) (a0 : Array Value) (hw : ∀ d ∈ tables_1, d.before a0 Z = true) (ws : List Jvm.Cond) (a1 : Addr) (q1 : Int64) (w1 : Int32) (w2 : Int32) (h0 : Heap) (n0 : Nat) (Z0 : n0 ≤ h0.size) (pre_F_a1_reverse : Fld Z h0 a1 "com/example/hike/hike/Proximity$Group" "reverse" "Z" (.int (1 : Int32))) (pre_F_a1_from : Fld Z h0 a1 "com/example/hike/hike/Proximity$Group" "from" "I" (.int w1)) (pre_F_a1_to : Fld Z h0 a1 "com/example/hike/hike/Proximity$Group" "to" "I" (.int w2)) (pre_F_a1_skipped : Fld Z h0 a1 "com/example/hike/hike/Proximity$Group" "skipped" "[I" .null) (pre_F_a1_order : Fld Z h0 a1 "com/example/hike/hike/Proximity$Group" "order" "[I" .null) :
    MetFree l (⟨"com/example/hike/hike/Proximity$Group", "at", "(J)I"⟩ : MethodName) (head1 (Jvm.Cond.code (⟨"com/example/hike/hike/Proximity$Group", "at", "(J)I"⟩ : MethodName) prog_102_method_5_code 5 (some .int) :: ws) RM5_n1) (fun a U => a = #[(.ref a1), (.long q1)] ∧ Z.Warmed39 U.vm ∧ U.heap = h0) (fun _ _ _ _ _ => True) (fun _ U o U' => ∃ v L, o = .returned v ∧ Q5_n1 Z a1 q1 w1 w2 h0 n0 v U'.heap L ∧ FrameEnd U o U' L RM5_n1.cells RM5_n1.slots) := by
  refine met_of (Q := fun v h L => Q5_n1 Z a1 q1 w1 w2 h0 n0 v h L) (plainFor_of_name pn_1) (fun m => by first | (simp [entryFrame, mkF, argsToLocals, Value.category]; done) | rfl) (Ls := #[.val (.ref a1), .val (.long q1), .second, .unset, .unset]) ?_
  intro p e s m below meth c T0 QQ hx hZ hby hml hown hnm hret hlk X0 e0 hQ
  have hml : c.maxLocals = 5 := hml
  have hown : s.vm.findClass "com/example/hike/hike/Proximity$Group" = some m.cls := hown
  have hnm : meth.name = "at" := hnm
  have hret : meth.sig.returnType = some .int := hret
  have N0 := Fr.nil n0
  have K0 : Keep h0 h0 [] := Keep.refl h0 _
  show GoW p e below QQ (T0.setTop (mkF m 0 #[.val (.ref a1), .val (.long q1), .second, .unset, .unset] []))
  refine GoW.st (fun t k => XS.aloadN X0.here hx rfl (hb hby d5_0) rfl rfl k) ?_
  show GoW p e below QQ (T0.setTop (mkF m 1 #[.val (.ref a1), .val (.long q1), .second, .unset, .unset] [(.ref a1)]))
  obtain ⟨T1, X1, e1, st1⟩ := getF X0 hx hZ hown (host := "") (Or.inl (hw _ (List.mem_of_getElem? (i := 29) rfl))) Via.refl e0 pre_F_a1_reverse (g := (mkF m 1 #[.val (.ref a1), .val (.long q1), .second, .unset, .unset] [(.ref a1)])) rfl rfl (hb hby d5_1)
  refine GoW.st st1 ?_
  show GoW p e below QQ (T1.setTop (mkF m 4 #[.val (.ref a1), .val (.long q1), .second, .unset, .unset] [(.int (1 : Int32))]))
  have hc4 : ¬ ((1 : Int32) = (0 : Int32)) := by decide
  refine GoW.st (fun t k => XS.ifNo X1.here hx rfl (hb hby d5_4) rfl ((if0 _ _).trans (feq hc4).1) (XS.aloadN X1.here hx rfl (hb hby d5_7) rfl rfl k)) ?_
  show GoW p e below QQ (T1.setTop (mkF m 8 #[.val (.ref a1), .val (.long q1), .second, .unset, .unset] [(.ref a1)]))
  obtain ⟨T2, X2, e2, st2⟩ := getF X1 hx hZ hown (host := "") (Or.inl (hw _ (List.mem_of_getElem? (i := 27) rfl))) Via.refl e1 pre_F_a1_to (g := (mkF m 8 #[.val (.ref a1), .val (.long q1), .second, .unset, .unset] [(.ref a1)])) rfl rfl (hb hby d5_8)
  refine GoW.st st2 ?_
  show GoW p e below QQ (T2.setTop (mkF m 11 #[.val (.ref a1), .val (.long q1), .second, .unset, .unset] [(.int w2)]))
  refine GoW.st (fun t k => XS.i2l X2.here hx rfl (hb hby d5_11) rfl (XS.lloadN X2.here hx rfl (hb hby d5_12) rfl (XS.lsub X2.here hx rfl (hb hby d5_13) rfl (XS.goto X2.here hx rfl (pc0 := 14) (pc' := 26) rfl (hb hby d5_14) (by decide) (by decide) (XS.l2i X2.here hx rfl (hb hby d5_26) rfl (XS.istoreN X2.here hx rfl (hb hby d5_27) rfl (l' := #[.val (.ref a1), .val (.long q1), .second, .val (.int (((w2.toInt64) - q1).toInt32)), .unset]) rfl k)))))) ?_
  show GoW p e below QQ (T2.setTop (mkF m 28 #[.val (.ref a1), .val (.long q1), .second, .val (.int (((w2.toInt64) - q1).toInt32)), .unset] []))
  generalize hv27 : (((w2.toInt64) - q1).toInt32) = v27
  refine GoW.st (fun t k => XS.aloadN X2.here hx rfl (hb hby d5_28) rfl rfl k) ?_
  show GoW p e below QQ (T2.setTop (mkF m 29 #[.val (.ref a1), .val (.long q1), .second, .val (.int v27), .unset] [(.ref a1)]))
  obtain ⟨T3, X3, e3, st3⟩ := getF X2 hx hZ hown (host := "") (Or.inl (hw _ (List.mem_of_getElem? (i := 31) rfl))) Via.refl e2 pre_F_a1_skipped (g := (mkF m 29 #[.val (.ref a1), .val (.long q1), .second, .val (.int v27), .unset] [(.ref a1)])) rfl rfl (hb hby d5_29)
  refine GoW.st st3 ?_
  show GoW p e below QQ (T3.setTop (mkF m 32 #[.val (.ref a1), .val (.long q1), .second, .val (.int v27), .unset] [.null]))
  refine GoW.st (fun t k => XS.ifnonnullNo X3.here hx rfl (hb hby d5_32) rfl (XS.iconst X3.here hx rfl (hb hby d5_35) (XS.goto X3.here hx rfl (pc0 := 36) (pc' := 46) rfl (hb hby d5_36) (by decide) (by decide) (XS.istore X3.here hx rfl (hb hby d5_46) rfl (l' := #[.val (.ref a1), .val (.long q1), .second, .val (.int v27), .val (.int (-1 : Int32))]) rfl (XS.iload X3.here hx rfl (hb hby d5_48) rfl k))))) ?_
  show GoW p e below QQ (T3.setTop (mkF m 50 #[.val (.ref a1), .val (.long q1), .second, .val (.int v27), .val (.int (-1 : Int32))] [(.int (-1 : Int32))]))
  have hc50 : (-1 : Int32) < (0 : Int32) := by decide
  refine GoW.st (fun t k => XS.ifYes X3.here hx rfl (pc0 := 50) (pc' := 76) rfl (hb hby d5_50) rfl ((if0 _ _).trans (tlt hc50).1) (by decide) (by decide) (XS.aloadN X3.here hx rfl (hb hby d5_76) rfl rfl k)) ?_
  show GoW p e below QQ (T3.setTop (mkF m 77 #[.val (.ref a1), .val (.long q1), .second, .val (.int v27), .val (.int (-1 : Int32))] [(.ref a1)]))
  obtain ⟨T4, X4, e4, st4⟩ := getF X3 hx hZ hown (host := "") (Or.inl (hw _ (List.mem_of_getElem? (i := 23) rfl))) Via.refl e3 pre_F_a1_order (g := (mkF m 77 #[.val (.ref a1), .val (.long q1), .second, .val (.int v27), .val (.int (-1 : Int32))] [(.ref a1)])) rfl rfl (hb hby d5_77)
  refine GoW.st st4 ?_
  show GoW p e below QQ (T4.setTop (mkF m 80 #[.val (.ref a1), .val (.long q1), .second, .val (.int v27), .val (.int (-1 : Int32))] [.null]))
  refine GoW.st (fun t k => XS.ifnonnullNo X4.here hx rfl (hb hby d5_80) rfl (XS.iloadN X4.here hx rfl (hb hby d5_83) rfl (XS.goto X4.here hx rfl (pc0 := 84) (pc' := 93) rfl (hb hby d5_84) (by decide) (by decide) k))) ?_
  show GoW p e below QQ (T4.setTop (mkF m 93 #[.val (.ref a1), .val (.long q1), .second, .val (.int v27), .val (.int (-1 : Int32))] [(.int v27)]))
  have rv : ((some (.int v27)) : Option Value) = some (.int ((w2.toInt64 - q1).toInt32)) := by
    subst_vars
    rfl
  exact GoW.fin X4 (some (.int v27)) (fun q => by rw [hret] at q; cases q) hlk hQ e4 ⟨rv, N0, rfl⟩ (by decide) (by decide) (fun fs hr => retI X4 hx hret (hb hby d5_93) hr)
theorem d5_39 : decode prog_102_method_5_code 39 = .ok (.aload_n 0, 1) := by decide +kernel
theorem d5_40 : decode prog_102_method_5_code 40 = .ok (.getfield 27, 3) := by decide +kernel
theorem d5_43 : decode prog_102_method_5_code 43 = .ok (.arraylength, 1) := by decide +kernel
theorem d5_44 : decode prog_102_method_5_code 44 = .ok (.iconst 1, 1) := by decide +kernel
theorem d5_45 : decode prog_102_method_5_code 45 = .ok (.isub, 1) := by decide +kernel
theorem d5_53 : decode prog_102_method_5_code 53 = .ok (.aload_n 0, 1) := by decide +kernel
theorem d5_54 : decode prog_102_method_5_code 54 = .ok (.getfield 27, 3) := by decide +kernel
theorem d5_57 : decode prog_102_method_5_code 57 = .ok (.iload 4, 2) := by decide +kernel
theorem d5_59 : decode prog_102_method_5_code 59 = .ok (.iaload, 1) := by decide +kernel
theorem d5_60 : decode prog_102_method_5_code 60 = .ok (.iload_n 3, 1) := by decide +kernel
theorem d5_61 : decode prog_102_method_5_code 61 = .ok (.if_icmp .ge 6, 3) := by decide +kernel
theorem d5_64 : decode prog_102_method_5_code 64 = .ok (.goto 12, 3) := by decide +kernel
theorem d5_67 : decode prog_102_method_5_code 67 = .ok (.iinc 3 (-1), 3) := by decide +kernel
theorem d5_70 : decode prog_102_method_5_code 70 = .ok (.iinc 4 (-1), 3) := by decide +kernel
theorem d5_73 : decode prog_102_method_5_code 73 = .ok (.goto (-25), 3) := by decide +kernel
def RM5_s1 : Room := { frames := 0, cells := 0, slots := 0, locals := 0 }
def Q5_s1 (Z : State) (a1 : Addr) (q1 : Int64) (w1 : Int32) (w2 : Int32) (a3 : Addr) (ks : ClassId) (s0 : Int32) (h0 : Heap) (n0 : Nat) (v : Option Value) (h : Heap) (L : List Loc) : Prop := v = some (.int (own_sk1 s0 ((w2.toInt64 - q1).toInt32))) ∧ Fr n0 L ∧ h = h0
set_option maxRecDepth 65536 in
set_option maxHeartbeats 40000000 in
theorem rm5_s1 (l : Launch) (Z : State) (a0 : Array Value) (hw : ∀ d ∈ tables_1, d.before a0 Z = true) (ws : List Jvm.Cond) (a1 : Addr) (q1 : Int64) (w1 : Int32) (w2 : Int32) (a3 : Addr) (ks : ClassId) (s0 : Int32) (h0 : Heap) (n0 : Nat) (Z0 : n0 ≤ h0.size) (pre_F_a1_reverse : Fld Z h0 a1 "com/example/hike/hike/Proximity$Group" "reverse" "Z" (.int (1 : Int32))) (pre_F_a1_from : Fld Z h0 a1 "com/example/hike/hike/Proximity$Group" "from" "I" (.int w1)) (pre_F_a1_to : Fld Z h0 a1 "com/example/hike/hike/Proximity$Group" "to" "I" (.int w2)) (pre_F_a1_skipped : Fld Z h0 a1 "com/example/hike/hike/Proximity$Group" "skipped" "[I" (.ref a3)) (pre_F_a1_order : Fld Z h0 a1 "com/example/hike/hike/Proximity$Group" "order" "[I" .null) (pre_V_a3 : Arv Z h0 a3 ks .int (1 : Int32) [(.int s0)] (.int (0 : Int32))) :
    MetFree l (⟨"com/example/hike/hike/Proximity$Group", "at", "(J)I"⟩ : MethodName) (head1 (Jvm.Cond.code (⟨"com/example/hike/hike/Proximity$Group", "at", "(J)I"⟩ : MethodName) prog_102_method_5_code 5 (some .int) :: ws) RM5_s1) (fun a U => a = #[(.ref a1), (.long q1)] ∧ Z.Warmed39 U.vm ∧ U.heap = h0) (fun _ _ _ _ _ => True) (fun _ U o U' => ∃ v L, o = .returned v ∧ Q5_s1 Z a1 q1 w1 w2 a3 ks s0 h0 n0 v U'.heap L ∧ FrameEnd U o U' L RM5_s1.cells RM5_s1.slots) := by
  refine met_of (Q := fun v h L => Q5_s1 Z a1 q1 w1 w2 a3 ks s0 h0 n0 v h L) (plainFor_of_name pn_1) (fun m => by first | (simp [entryFrame, mkF, argsToLocals, Value.category]; done) | rfl) (Ls := #[.val (.ref a1), .val (.long q1), .second, .unset, .unset]) ?_
  intro p e s m below meth c T0 QQ hx hZ hby hml hown hnm hret hlk X0 e0 hQ
  have hml : c.maxLocals = 5 := hml
  have hown : s.vm.findClass "com/example/hike/hike/Proximity$Group" = some m.cls := hown
  have hnm : meth.name = "at" := hnm
  have hret : meth.sig.returnType = some .int := hret
  have N0 := Fr.nil n0
  have K0 : Keep h0 h0 [] := Keep.refl h0 _
  show GoW p e below QQ (T0.setTop (mkF m 0 #[.val (.ref a1), .val (.long q1), .second, .unset, .unset] []))
  refine GoW.st (fun t k => XS.aloadN X0.here hx rfl (hb hby d5_0) rfl rfl k) ?_
  show GoW p e below QQ (T0.setTop (mkF m 1 #[.val (.ref a1), .val (.long q1), .second, .unset, .unset] [(.ref a1)]))
  obtain ⟨T1, X1, e1, st1⟩ := getF X0 hx hZ hown (host := "") (Or.inl (hw _ (List.mem_of_getElem? (i := 29) rfl))) Via.refl e0 pre_F_a1_reverse (g := (mkF m 1 #[.val (.ref a1), .val (.long q1), .second, .unset, .unset] [(.ref a1)])) rfl rfl (hb hby d5_1)
  refine GoW.st st1 ?_
  show GoW p e below QQ (T1.setTop (mkF m 4 #[.val (.ref a1), .val (.long q1), .second, .unset, .unset] [(.int (1 : Int32))]))
  have hc4 : ¬ ((1 : Int32) = (0 : Int32)) := by decide
  refine GoW.st (fun t k => XS.ifNo X1.here hx rfl (hb hby d5_4) rfl ((if0 _ _).trans (feq hc4).1) (XS.aloadN X1.here hx rfl (hb hby d5_7) rfl rfl k)) ?_
  show GoW p e below QQ (T1.setTop (mkF m 8 #[.val (.ref a1), .val (.long q1), .second, .unset, .unset] [(.ref a1)]))
  obtain ⟨T2, X2, e2, st2⟩ := getF X1 hx hZ hown (host := "") (Or.inl (hw _ (List.mem_of_getElem? (i := 27) rfl))) Via.refl e1 pre_F_a1_to (g := (mkF m 8 #[.val (.ref a1), .val (.long q1), .second, .unset, .unset] [(.ref a1)])) rfl rfl (hb hby d5_8)
  refine GoW.st st2 ?_
  show GoW p e below QQ (T2.setTop (mkF m 11 #[.val (.ref a1), .val (.long q1), .second, .unset, .unset] [(.int w2)]))
  refine GoW.st (fun t k => XS.i2l X2.here hx rfl (hb hby d5_11) rfl (XS.lloadN X2.here hx rfl (hb hby d5_12) rfl (XS.lsub X2.here hx rfl (hb hby d5_13) rfl (XS.goto X2.here hx rfl (pc0 := 14) (pc' := 26) rfl (hb hby d5_14) (by decide) (by decide) (XS.l2i X2.here hx rfl (hb hby d5_26) rfl (XS.istoreN X2.here hx rfl (hb hby d5_27) rfl (l' := #[.val (.ref a1), .val (.long q1), .second, .val (.int (((w2.toInt64) - q1).toInt32)), .unset]) rfl k)))))) ?_
  show GoW p e below QQ (T2.setTop (mkF m 28 #[.val (.ref a1), .val (.long q1), .second, .val (.int (((w2.toInt64) - q1).toInt32)), .unset] []))
  generalize hv27 : (((w2.toInt64) - q1).toInt32) = v27
  refine GoW.st (fun t k => XS.aloadN X2.here hx rfl (hb hby d5_28) rfl rfl k) ?_
  show GoW p e below QQ (T2.setTop (mkF m 29 #[.val (.ref a1), .val (.long q1), .second, .val (.int v27), .unset] [(.ref a1)]))
  obtain ⟨T3, X3, e3, st3⟩ := getF X2 hx hZ hown (host := "") (Or.inl (hw _ (List.mem_of_getElem? (i := 31) rfl))) Via.refl e2 pre_F_a1_skipped (g := (mkF m 29 #[.val (.ref a1), .val (.long q1), .second, .val (.int v27), .unset] [(.ref a1)])) rfl rfl (hb hby d5_29)
  refine GoW.st st3 ?_
  show GoW p e below QQ (T3.setTop (mkF m 32 #[.val (.ref a1), .val (.long q1), .second, .val (.int v27), .unset] [(.ref a3)]))
  refine GoW.st (fun t k => XS.ifnonnullYes X3.here hx rfl (pc0 := 32) (pc' := 39) rfl (hb hby d5_32) rfl (by decide) (by decide) (XS.aloadN X3.here hx rfl (hb hby d5_39) rfl rfl k)) ?_
  show GoW p e below QQ (T3.setTop (mkF m 40 #[.val (.ref a1), .val (.long q1), .second, .val (.int v27), .unset] [(.ref a1)]))
  obtain ⟨T4, X4, e4, st4⟩ := getF X3 hx hZ hown (host := "") (Or.inl (hw _ (List.mem_of_getElem? (i := 31) rfl))) Via.refl e3 pre_F_a1_skipped (g := (mkF m 40 #[.val (.ref a1), .val (.long q1), .second, .val (.int v27), .unset] [(.ref a1)])) rfl rfl (hb hby d5_40)
  refine GoW.st st4 ?_
  show GoW p e below QQ (T4.setTop (mkF m 43 #[.val (.ref a1), .val (.long q1), .second, .val (.int v27), .unset] [(.ref a3)]))
  refine GoW.st (fun t k => lnV X4 hx hZ e4 pre_V_a3 (g := (mkF m 43 #[.val (.ref a1), .val (.long q1), .second, .val (.int v27), .unset] [(.ref a3)])) rfl rfl (hb hby d5_43) t (XS.iconst X4.here hx rfl (hb hby d5_44) (XS.isub X4.here hx rfl (hb hby d5_45) rfl (XS.istore X4.here hx rfl (hb hby d5_46) rfl (l' := #[.val (.ref a1), .val (.long q1), .second, .val (.int v27), .val (.int (0 : Int32))]) rfl (XS.iload X4.here hx rfl (hb hby d5_48) rfl k))))) ?_
  show GoW p e below QQ (T4.setTop (mkF m 50 #[.val (.ref a1), .val (.long q1), .second, .val (.int v27), .val (.int (0 : Int32))] [(.int (0 : Int32))]))
  have hc50 : ¬ ((0 : Int32) < (0 : Int32)) := by decide
  refine GoW.st (fun t k => XS.ifNo X4.here hx rfl (hb hby d5_50) rfl ((if0 _ _).trans (flt hc50).1) (XS.aloadN X4.here hx rfl (hb hby d5_53) rfl rfl k)) ?_
  show GoW p e below QQ (T4.setTop (mkF m 54 #[.val (.ref a1), .val (.long q1), .second, .val (.int v27), .val (.int (0 : Int32))] [(.ref a1)]))
  obtain ⟨T5, X5, e5, st5⟩ := getF X4 hx hZ hown (host := "") (Or.inl (hw _ (List.mem_of_getElem? (i := 31) rfl))) Via.refl e4 pre_F_a1_skipped (g := (mkF m 54 #[.val (.ref a1), .val (.long q1), .second, .val (.int v27), .val (.int (0 : Int32))] [(.ref a1)])) rfl rfl (hb hby d5_54)
  refine GoW.st st5 ?_
  show GoW p e below QQ (T5.setTop (mkF m 57 #[.val (.ref a1), .val (.long q1), .second, .val (.int v27), .val (.int (0 : Int32))] [(.ref a3)]))
  refine GoW.st (fun t k => XS.iload X5.here hx rfl (hb hby d5_57) rfl (ldVI X5 hx hZ e5 pre_V_a3 (v := (.int s0)) ⟨by decide, by decide⟩ rfl (g := (mkF m 59 #[.val (.ref a1), .val (.long q1), .second, .val (.int v27), .val (.int (0 : Int32))] [(.int (0 : Int32)), (.ref a3)])) rfl rfl (hb hby d5_59) t (XS.iloadN X5.here hx rfl (hb hby d5_60) rfl k))) ?_
  show GoW p e below QQ (T5.setTop (mkF m 61 #[.val (.ref a1), .val (.long q1), .second, .val (.int v27), .val (.int (0 : Int32))] [(.int v27), (.int s0)]))
  by_cases hc61 : s0 < v27
  · skip
    refine GoW.st (fun t k => XS.icmpNo X5.here hx rfl (hb hby d5_61) rfl (tlt hc61).2.1 (XS.goto X5.here hx rfl (pc0 := 64) (pc' := 76) rfl (hb hby d5_64) (by decide) (by decide) (XS.aloadN X5.here hx rfl (hb hby d5_76) rfl rfl k))) ?_
    show GoW p e below QQ (T5.setTop (mkF m 77 #[.val (.ref a1), .val (.long q1), .second, .val (.int v27), .val (.int (0 : Int32))] [(.ref a1)]))
    obtain ⟨T6, X6, e6, st6⟩ := getF X5 hx hZ hown (host := "") (Or.inl (hw _ (List.mem_of_getElem? (i := 23) rfl))) Via.refl e5 pre_F_a1_order (g := (mkF m 77 #[.val (.ref a1), .val (.long q1), .second, .val (.int v27), .val (.int (0 : Int32))] [(.ref a1)])) rfl rfl (hb hby d5_77)
    refine GoW.st st6 ?_
    show GoW p e below QQ (T6.setTop (mkF m 80 #[.val (.ref a1), .val (.long q1), .second, .val (.int v27), .val (.int (0 : Int32))] [.null]))
    refine GoW.st (fun t k => XS.ifnonnullNo X6.here hx rfl (hb hby d5_80) rfl (XS.iloadN X6.here hx rfl (hb hby d5_83) rfl (XS.goto X6.here hx rfl (pc0 := 84) (pc' := 93) rfl (hb hby d5_84) (by decide) (by decide) k))) ?_
    show GoW p e below QQ (T6.setTop (mkF m 93 #[.val (.ref a1), .val (.long q1), .second, .val (.int v27), .val (.int (0 : Int32))] [(.int v27)]))
    have rv : ((some (.int v27)) : Option Value) = some (.int (own_sk1 s0 ((w2.toInt64 - q1).toInt32))) := by
      subst hv27
      rw [own_sk1, if_pos hc61]
      all_goals first | rfl | (simp; done)
    exact GoW.fin X6 (some (.int v27)) (fun q => by rw [hret] at q; cases q) hlk hQ e6 ⟨rv, N0, rfl⟩ (by decide) (by decide) (fun fs hr => retI X6 hx hret (hb hby d5_93) hr)
  · skip
    refine GoW.st (fun t k => XS.icmpYes X5.here hx rfl (pc0 := 61) (pc' := 67) rfl (hb hby d5_61) rfl (flt hc61).2.1 (by decide) (by decide) (XS.iinc X5.here hx rfl (hb hby d5_67) rfl (l' := #[.val (.ref a1), .val (.long q1), .second, .val (.int (v27 + (-1 : Int32))), .val (.int (0 : Int32))]) rfl k)) ?_
    show GoW p e below QQ (T5.setTop (mkF m 70 #[.val (.ref a1), .val (.long q1), .second, .val (.int (v27 + (-1 : Int32))), .val (.int (0 : Int32))] []))
    generalize hv67 : (v27 + (-1 : Int32)) = v67
    refine GoW.st (fun t k => XS.iinc X5.here hx rfl (hb hby d5_70) rfl (l' := #[.val (.ref a1), .val (.long q1), .second, .val (.int v67), .val (.int (-1 : Int32))]) rfl (XS.goto X5.here hx rfl (pc0 := 73) (pc' := 48) rfl (hb hby d5_73) (by decide) (by decide) (XS.iload X5.here hx rfl (hb hby d5_48) rfl k))) ?_
    show GoW p e below QQ (T5.setTop (mkF m 50 #[.val (.ref a1), .val (.long q1), .second, .val (.int v67), .val (.int (-1 : Int32))] [(.int (-1 : Int32))]))
    have hc50_2 : (-1 : Int32) < (0 : Int32) := by decide
    refine GoW.st (fun t k => XS.ifYes X5.here hx rfl (pc0 := 50) (pc' := 76) rfl (hb hby d5_50) rfl ((if0 _ _).trans (tlt hc50_2).1) (by decide) (by decide) (XS.aloadN X5.here hx rfl (hb hby d5_76) rfl rfl k)) ?_
    show GoW p e below QQ (T5.setTop (mkF m 77 #[.val (.ref a1), .val (.long q1), .second, .val (.int v67), .val (.int (-1 : Int32))] [(.ref a1)]))
    obtain ⟨T7, X7, e7, st7⟩ := getF X5 hx hZ hown (host := "") (Or.inl (hw _ (List.mem_of_getElem? (i := 23) rfl))) Via.refl e5 pre_F_a1_order (g := (mkF m 77 #[.val (.ref a1), .val (.long q1), .second, .val (.int v67), .val (.int (-1 : Int32))] [(.ref a1)])) rfl rfl (hb hby d5_77)
    refine GoW.st st7 ?_
    show GoW p e below QQ (T7.setTop (mkF m 80 #[.val (.ref a1), .val (.long q1), .second, .val (.int v67), .val (.int (-1 : Int32))] [.null]))
    refine GoW.st (fun t k => XS.ifnonnullNo X7.here hx rfl (hb hby d5_80) rfl (XS.iloadN X7.here hx rfl (hb hby d5_83) rfl (XS.goto X7.here hx rfl (pc0 := 84) (pc' := 93) rfl (hb hby d5_84) (by decide) (by decide) k))) ?_
    show GoW p e below QQ (T7.setTop (mkF m 93 #[.val (.ref a1), .val (.long q1), .second, .val (.int v67), .val (.int (-1 : Int32))] [(.int v67)]))
    have rv : ((some (.int v67)) : Option Value) = some (.int (own_sk1 s0 ((w2.toInt64 - q1).toInt32))) := by
      subst hv67 hv27
      rw [own_sk1, if_neg hc61]
      all_goals first | rfl | (simp; done)
    exact GoW.fin X7 (some (.int v67)) (fun q => by rw [hret] at q; cases q) hlk hQ e7 ⟨rv, N0, rfl⟩ (by decide) (by decide) (fun fs hr => retI X7 hx hret (hb hby d5_93) hr)
def RM5_s2 : Room := { frames := 0, cells := 0, slots := 0, locals := 0 }
def Q5_s2 (Z : State) (a1 : Addr) (q1 : Int64) (w1 : Int32) (w2 : Int32) (a3 : Addr) (ks : ClassId) (s0 : Int32) (s1 : Int32) (h0 : Heap) (n0 : Nat) (v : Option Value) (h : Heap) (L : List Loc) : Prop := v = some (.int (own_sk2 s0 s1 ((w2.toInt64 - q1).toInt32))) ∧ Fr n0 L ∧ h = h0
set_option maxRecDepth 65536 in
set_option maxHeartbeats 40000000 in
theorem rm5_s2 (l : Launch) (Z : State) (a0 : Array Value) (hw : ∀ d ∈ tables_1, d.before a0 Z = true) (ws : List Jvm.Cond) (a1 : Addr) (q1 : Int64) (w1 : Int32) (w2 : Int32) (a3 : Addr) (ks : ClassId) (s0 : Int32) (s1 : Int32) (h0 : Heap) (n0 : Nat) (Z0 : n0 ≤ h0.size) (pre_F_a1_reverse : Fld Z h0 a1 "com/example/hike/hike/Proximity$Group" "reverse" "Z" (.int (1 : Int32))) (pre_F_a1_from : Fld Z h0 a1 "com/example/hike/hike/Proximity$Group" "from" "I" (.int w1)) (pre_F_a1_to : Fld Z h0 a1 "com/example/hike/hike/Proximity$Group" "to" "I" (.int w2)) (pre_F_a1_skipped : Fld Z h0 a1 "com/example/hike/hike/Proximity$Group" "skipped" "[I" (.ref a3)) (pre_F_a1_order : Fld Z h0 a1 "com/example/hike/hike/Proximity$Group" "order" "[I" .null) (pre_V_a3 : Arv Z h0 a3 ks .int (2 : Int32) [(.int s0), (.int s1)] (.int (0 : Int32))) :
    MetFree l (⟨"com/example/hike/hike/Proximity$Group", "at", "(J)I"⟩ : MethodName) (head1 (Jvm.Cond.code (⟨"com/example/hike/hike/Proximity$Group", "at", "(J)I"⟩ : MethodName) prog_102_method_5_code 5 (some .int) :: ws) RM5_s2) (fun a U => a = #[(.ref a1), (.long q1)] ∧ Z.Warmed39 U.vm ∧ U.heap = h0) (fun _ _ _ _ _ => True) (fun _ U o U' => ∃ v L, o = .returned v ∧ Q5_s2 Z a1 q1 w1 w2 a3 ks s0 s1 h0 n0 v U'.heap L ∧ FrameEnd U o U' L RM5_s2.cells RM5_s2.slots) := by
  refine met_of (Q := fun v h L => Q5_s2 Z a1 q1 w1 w2 a3 ks s0 s1 h0 n0 v h L) (plainFor_of_name pn_1) (fun m => by first | (simp [entryFrame, mkF, argsToLocals, Value.category]; done) | rfl) (Ls := #[.val (.ref a1), .val (.long q1), .second, .unset, .unset]) ?_
  intro p e s m below meth c T0 QQ hx hZ hby hml hown hnm hret hlk X0 e0 hQ
  have hml : c.maxLocals = 5 := hml
  have hown : s.vm.findClass "com/example/hike/hike/Proximity$Group" = some m.cls := hown
  have hnm : meth.name = "at" := hnm
  have hret : meth.sig.returnType = some .int := hret
  have N0 := Fr.nil n0
  have K0 : Keep h0 h0 [] := Keep.refl h0 _
  show GoW p e below QQ (T0.setTop (mkF m 0 #[.val (.ref a1), .val (.long q1), .second, .unset, .unset] []))
  refine GoW.st (fun t k => XS.aloadN X0.here hx rfl (hb hby d5_0) rfl rfl k) ?_
  show GoW p e below QQ (T0.setTop (mkF m 1 #[.val (.ref a1), .val (.long q1), .second, .unset, .unset] [(.ref a1)]))
  obtain ⟨T1, X1, e1, st1⟩ := getF X0 hx hZ hown (host := "") (Or.inl (hw _ (List.mem_of_getElem? (i := 29) rfl))) Via.refl e0 pre_F_a1_reverse (g := (mkF m 1 #[.val (.ref a1), .val (.long q1), .second, .unset, .unset] [(.ref a1)])) rfl rfl (hb hby d5_1)
  refine GoW.st st1 ?_
  show GoW p e below QQ (T1.setTop (mkF m 4 #[.val (.ref a1), .val (.long q1), .second, .unset, .unset] [(.int (1 : Int32))]))
  have hc4 : ¬ ((1 : Int32) = (0 : Int32)) := by decide
  refine GoW.st (fun t k => XS.ifNo X1.here hx rfl (hb hby d5_4) rfl ((if0 _ _).trans (feq hc4).1) (XS.aloadN X1.here hx rfl (hb hby d5_7) rfl rfl k)) ?_
  show GoW p e below QQ (T1.setTop (mkF m 8 #[.val (.ref a1), .val (.long q1), .second, .unset, .unset] [(.ref a1)]))
  obtain ⟨T2, X2, e2, st2⟩ := getF X1 hx hZ hown (host := "") (Or.inl (hw _ (List.mem_of_getElem? (i := 27) rfl))) Via.refl e1 pre_F_a1_to (g := (mkF m 8 #[.val (.ref a1), .val (.long q1), .second, .unset, .unset] [(.ref a1)])) rfl rfl (hb hby d5_8)
  refine GoW.st st2 ?_
  show GoW p e below QQ (T2.setTop (mkF m 11 #[.val (.ref a1), .val (.long q1), .second, .unset, .unset] [(.int w2)]))
  refine GoW.st (fun t k => XS.i2l X2.here hx rfl (hb hby d5_11) rfl (XS.lloadN X2.here hx rfl (hb hby d5_12) rfl (XS.lsub X2.here hx rfl (hb hby d5_13) rfl (XS.goto X2.here hx rfl (pc0 := 14) (pc' := 26) rfl (hb hby d5_14) (by decide) (by decide) (XS.l2i X2.here hx rfl (hb hby d5_26) rfl (XS.istoreN X2.here hx rfl (hb hby d5_27) rfl (l' := #[.val (.ref a1), .val (.long q1), .second, .val (.int (((w2.toInt64) - q1).toInt32)), .unset]) rfl k)))))) ?_
  show GoW p e below QQ (T2.setTop (mkF m 28 #[.val (.ref a1), .val (.long q1), .second, .val (.int (((w2.toInt64) - q1).toInt32)), .unset] []))
  generalize hv27 : (((w2.toInt64) - q1).toInt32) = v27
  refine GoW.st (fun t k => XS.aloadN X2.here hx rfl (hb hby d5_28) rfl rfl k) ?_
  show GoW p e below QQ (T2.setTop (mkF m 29 #[.val (.ref a1), .val (.long q1), .second, .val (.int v27), .unset] [(.ref a1)]))
  obtain ⟨T3, X3, e3, st3⟩ := getF X2 hx hZ hown (host := "") (Or.inl (hw _ (List.mem_of_getElem? (i := 31) rfl))) Via.refl e2 pre_F_a1_skipped (g := (mkF m 29 #[.val (.ref a1), .val (.long q1), .second, .val (.int v27), .unset] [(.ref a1)])) rfl rfl (hb hby d5_29)
  refine GoW.st st3 ?_
  show GoW p e below QQ (T3.setTop (mkF m 32 #[.val (.ref a1), .val (.long q1), .second, .val (.int v27), .unset] [(.ref a3)]))
  refine GoW.st (fun t k => XS.ifnonnullYes X3.here hx rfl (pc0 := 32) (pc' := 39) rfl (hb hby d5_32) rfl (by decide) (by decide) (XS.aloadN X3.here hx rfl (hb hby d5_39) rfl rfl k)) ?_
  show GoW p e below QQ (T3.setTop (mkF m 40 #[.val (.ref a1), .val (.long q1), .second, .val (.int v27), .unset] [(.ref a1)]))
  obtain ⟨T4, X4, e4, st4⟩ := getF X3 hx hZ hown (host := "") (Or.inl (hw _ (List.mem_of_getElem? (i := 31) rfl))) Via.refl e3 pre_F_a1_skipped (g := (mkF m 40 #[.val (.ref a1), .val (.long q1), .second, .val (.int v27), .unset] [(.ref a1)])) rfl rfl (hb hby d5_40)
  refine GoW.st st4 ?_
  show GoW p e below QQ (T4.setTop (mkF m 43 #[.val (.ref a1), .val (.long q1), .second, .val (.int v27), .unset] [(.ref a3)]))
  refine GoW.st (fun t k => lnV X4 hx hZ e4 pre_V_a3 (g := (mkF m 43 #[.val (.ref a1), .val (.long q1), .second, .val (.int v27), .unset] [(.ref a3)])) rfl rfl (hb hby d5_43) t (XS.iconst X4.here hx rfl (hb hby d5_44) (XS.isub X4.here hx rfl (hb hby d5_45) rfl (XS.istore X4.here hx rfl (hb hby d5_46) rfl (l' := #[.val (.ref a1), .val (.long q1), .second, .val (.int v27), .val (.int (1 : Int32))]) rfl (XS.iload X4.here hx rfl (hb hby d5_48) rfl k))))) ?_
  show GoW p e below QQ (T4.setTop (mkF m 50 #[.val (.ref a1), .val (.long q1), .second, .val (.int v27), .val (.int (1 : Int32))] [(.int (1 : Int32))]))
  have hc50 : ¬ ((1 : Int32) < (0 : Int32)) := by decide
  refine GoW.st (fun t k => XS.ifNo X4.here hx rfl (hb hby d5_50) rfl ((if0 _ _).trans (flt hc50).1) (XS.aloadN X4.here hx rfl (hb hby d5_53) rfl rfl k)) ?_
  show GoW p e below QQ (T4.setTop (mkF m 54 #[.val (.ref a1), .val (.long q1), .second, .val (.int v27), .val (.int (1 : Int32))] [(.ref a1)]))
  obtain ⟨T5, X5, e5, st5⟩ := getF X4 hx hZ hown (host := "") (Or.inl (hw _ (List.mem_of_getElem? (i := 31) rfl))) Via.refl e4 pre_F_a1_skipped (g := (mkF m 54 #[.val (.ref a1), .val (.long q1), .second, .val (.int v27), .val (.int (1 : Int32))] [(.ref a1)])) rfl rfl (hb hby d5_54)
  refine GoW.st st5 ?_
  show GoW p e below QQ (T5.setTop (mkF m 57 #[.val (.ref a1), .val (.long q1), .second, .val (.int v27), .val (.int (1 : Int32))] [(.ref a3)]))
  refine GoW.st (fun t k => XS.iload X5.here hx rfl (hb hby d5_57) rfl (ldVI X5 hx hZ e5 pre_V_a3 (v := (.int s1)) ⟨by decide, by decide⟩ rfl (g := (mkF m 59 #[.val (.ref a1), .val (.long q1), .second, .val (.int v27), .val (.int (1 : Int32))] [(.int (1 : Int32)), (.ref a3)])) rfl rfl (hb hby d5_59) t (XS.iloadN X5.here hx rfl (hb hby d5_60) rfl k))) ?_
  show GoW p e below QQ (T5.setTop (mkF m 61 #[.val (.ref a1), .val (.long q1), .second, .val (.int v27), .val (.int (1 : Int32))] [(.int v27), (.int s1)]))
  by_cases hc61 : s1 < v27
  · skip
    refine GoW.st (fun t k => XS.icmpNo X5.here hx rfl (hb hby d5_61) rfl (tlt hc61).2.1 (XS.goto X5.here hx rfl (pc0 := 64) (pc' := 76) rfl (hb hby d5_64) (by decide) (by decide) (XS.aloadN X5.here hx rfl (hb hby d5_76) rfl rfl k))) ?_
    show GoW p e below QQ (T5.setTop (mkF m 77 #[.val (.ref a1), .val (.long q1), .second, .val (.int v27), .val (.int (1 : Int32))] [(.ref a1)]))
    obtain ⟨T6, X6, e6, st6⟩ := getF X5 hx hZ hown (host := "") (Or.inl (hw _ (List.mem_of_getElem? (i := 23) rfl))) Via.refl e5 pre_F_a1_order (g := (mkF m 77 #[.val (.ref a1), .val (.long q1), .second, .val (.int v27), .val (.int (1 : Int32))] [(.ref a1)])) rfl rfl (hb hby d5_77)
    refine GoW.st st6 ?_
    show GoW p e below QQ (T6.setTop (mkF m 80 #[.val (.ref a1), .val (.long q1), .second, .val (.int v27), .val (.int (1 : Int32))] [.null]))
    refine GoW.st (fun t k => XS.ifnonnullNo X6.here hx rfl (hb hby d5_80) rfl (XS.iloadN X6.here hx rfl (hb hby d5_83) rfl (XS.goto X6.here hx rfl (pc0 := 84) (pc' := 93) rfl (hb hby d5_84) (by decide) (by decide) k))) ?_
    show GoW p e below QQ (T6.setTop (mkF m 93 #[.val (.ref a1), .val (.long q1), .second, .val (.int v27), .val (.int (1 : Int32))] [(.int v27)]))
    have rv : ((some (.int v27)) : Option Value) = some (.int (own_sk2 s0 s1 ((w2.toInt64 - q1).toInt32))) := by
      subst hv27
      rw [own_sk2, if_pos hc61]
      all_goals first | rfl | (simp; done)
    exact GoW.fin X6 (some (.int v27)) (fun q => by rw [hret] at q; cases q) hlk hQ e6 ⟨rv, N0, rfl⟩ (by decide) (by decide) (fun fs hr => retI X6 hx hret (hb hby d5_93) hr)
  · skip
    refine GoW.st (fun t k => XS.icmpYes X5.here hx rfl (pc0 := 61) (pc' := 67) rfl (hb hby d5_61) rfl (flt hc61).2.1 (by decide) (by decide) (XS.iinc X5.here hx rfl (hb hby d5_67) rfl (l' := #[.val (.ref a1), .val (.long q1), .second, .val (.int (v27 + (-1 : Int32))), .val (.int (1 : Int32))]) rfl k)) ?_
    show GoW p e below QQ (T5.setTop (mkF m 70 #[.val (.ref a1), .val (.long q1), .second, .val (.int (v27 + (-1 : Int32))), .val (.int (1 : Int32))] []))
    generalize hv67 : (v27 + (-1 : Int32)) = v67
    refine GoW.st (fun t k => XS.iinc X5.here hx rfl (hb hby d5_70) rfl (l' := #[.val (.ref a1), .val (.long q1), .second, .val (.int v67), .val (.int (0 : Int32))]) rfl (XS.goto X5.here hx rfl (pc0 := 73) (pc' := 48) rfl (hb hby d5_73) (by decide) (by decide) (XS.iload X5.here hx rfl (hb hby d5_48) rfl k))) ?_
    show GoW p e below QQ (T5.setTop (mkF m 50 #[.val (.ref a1), .val (.long q1), .second, .val (.int v67), .val (.int (0 : Int32))] [(.int (0 : Int32))]))
    have hc50_2 : ¬ ((0 : Int32) < (0 : Int32)) := by decide
    refine GoW.st (fun t k => XS.ifNo X5.here hx rfl (hb hby d5_50) rfl ((if0 _ _).trans (flt hc50_2).1) (XS.aloadN X5.here hx rfl (hb hby d5_53) rfl rfl k)) ?_
    show GoW p e below QQ (T5.setTop (mkF m 54 #[.val (.ref a1), .val (.long q1), .second, .val (.int v67), .val (.int (0 : Int32))] [(.ref a1)]))
    obtain ⟨T7, X7, e7, st7⟩ := getF X5 hx hZ hown (host := "") (Or.inl (hw _ (List.mem_of_getElem? (i := 31) rfl))) Via.refl e5 pre_F_a1_skipped (g := (mkF m 54 #[.val (.ref a1), .val (.long q1), .second, .val (.int v67), .val (.int (0 : Int32))] [(.ref a1)])) rfl rfl (hb hby d5_54)
    refine GoW.st st7 ?_
    show GoW p e below QQ (T7.setTop (mkF m 57 #[.val (.ref a1), .val (.long q1), .second, .val (.int v67), .val (.int (0 : Int32))] [(.ref a3)]))
    refine GoW.st (fun t k => XS.iload X7.here hx rfl (hb hby d5_57) rfl (ldVI X7 hx hZ e7 pre_V_a3 (v := (.int s0)) ⟨by decide, by decide⟩ rfl (g := (mkF m 59 #[.val (.ref a1), .val (.long q1), .second, .val (.int v67), .val (.int (0 : Int32))] [(.int (0 : Int32)), (.ref a3)])) rfl rfl (hb hby d5_59) t (XS.iloadN X7.here hx rfl (hb hby d5_60) rfl k))) ?_
    show GoW p e below QQ (T7.setTop (mkF m 61 #[.val (.ref a1), .val (.long q1), .second, .val (.int v67), .val (.int (0 : Int32))] [(.int v67), (.int s0)]))
    by_cases hc61_2 : s0 < v67
    · skip
      refine GoW.st (fun t k => XS.icmpNo X7.here hx rfl (hb hby d5_61) rfl (tlt hc61_2).2.1 (XS.goto X7.here hx rfl (pc0 := 64) (pc' := 76) rfl (hb hby d5_64) (by decide) (by decide) (XS.aloadN X7.here hx rfl (hb hby d5_76) rfl rfl k))) ?_
      show GoW p e below QQ (T7.setTop (mkF m 77 #[.val (.ref a1), .val (.long q1), .second, .val (.int v67), .val (.int (0 : Int32))] [(.ref a1)]))
      obtain ⟨T8, X8, e8, st8⟩ := getF X7 hx hZ hown (host := "") (Or.inl (hw _ (List.mem_of_getElem? (i := 23) rfl))) Via.refl e7 pre_F_a1_order (g := (mkF m 77 #[.val (.ref a1), .val (.long q1), .second, .val (.int v67), .val (.int (0 : Int32))] [(.ref a1)])) rfl rfl (hb hby d5_77)
      refine GoW.st st8 ?_
      show GoW p e below QQ (T8.setTop (mkF m 80 #[.val (.ref a1), .val (.long q1), .second, .val (.int v67), .val (.int (0 : Int32))] [.null]))
      refine GoW.st (fun t k => XS.ifnonnullNo X8.here hx rfl (hb hby d5_80) rfl (XS.iloadN X8.here hx rfl (hb hby d5_83) rfl (XS.goto X8.here hx rfl (pc0 := 84) (pc' := 93) rfl (hb hby d5_84) (by decide) (by decide) k))) ?_
      show GoW p e below QQ (T8.setTop (mkF m 93 #[.val (.ref a1), .val (.long q1), .second, .val (.int v67), .val (.int (0 : Int32))] [(.int v67)]))
      have rv : ((some (.int v67)) : Option Value) = some (.int (own_sk2 s0 s1 ((w2.toInt64 - q1).toInt32))) := by
        subst hv67 hv27
        rw [own_sk2, if_neg hc61, if_pos hc61_2]
        all_goals first | rfl | (simp; done)
      exact GoW.fin X8 (some (.int v67)) (fun q => by rw [hret] at q; cases q) hlk hQ e8 ⟨rv, N0, rfl⟩ (by decide) (by decide) (fun fs hr => retI X8 hx hret (hb hby d5_93) hr)
    · skip
      refine GoW.st (fun t k => XS.icmpYes X7.here hx rfl (pc0 := 61) (pc' := 67) rfl (hb hby d5_61) rfl (flt hc61_2).2.1 (by decide) (by decide) (XS.iinc X7.here hx rfl (hb hby d5_67) rfl (l' := #[.val (.ref a1), .val (.long q1), .second, .val (.int (v67 + (-1 : Int32))), .val (.int (0 : Int32))]) rfl k)) ?_
      show GoW p e below QQ (T7.setTop (mkF m 70 #[.val (.ref a1), .val (.long q1), .second, .val (.int (v67 + (-1 : Int32))), .val (.int (0 : Int32))] []))
      generalize hv67_2 : (v67 + (-1 : Int32)) = v67_2
      refine GoW.st (fun t k => XS.iinc X7.here hx rfl (hb hby d5_70) rfl (l' := #[.val (.ref a1), .val (.long q1), .second, .val (.int v67_2), .val (.int (-1 : Int32))]) rfl (XS.goto X7.here hx rfl (pc0 := 73) (pc' := 48) rfl (hb hby d5_73) (by decide) (by decide) (XS.iload X7.here hx rfl (hb hby d5_48) rfl k))) ?_
      show GoW p e below QQ (T7.setTop (mkF m 50 #[.val (.ref a1), .val (.long q1), .second, .val (.int v67_2), .val (.int (-1 : Int32))] [(.int (-1 : Int32))]))
      have hc50_3 : (-1 : Int32) < (0 : Int32) := by decide
      refine GoW.st (fun t k => XS.ifYes X7.here hx rfl (pc0 := 50) (pc' := 76) rfl (hb hby d5_50) rfl ((if0 _ _).trans (tlt hc50_3).1) (by decide) (by decide) (XS.aloadN X7.here hx rfl (hb hby d5_76) rfl rfl k)) ?_
      show GoW p e below QQ (T7.setTop (mkF m 77 #[.val (.ref a1), .val (.long q1), .second, .val (.int v67_2), .val (.int (-1 : Int32))] [(.ref a1)]))
      obtain ⟨T9, X9, e9, st9⟩ := getF X7 hx hZ hown (host := "") (Or.inl (hw _ (List.mem_of_getElem? (i := 23) rfl))) Via.refl e7 pre_F_a1_order (g := (mkF m 77 #[.val (.ref a1), .val (.long q1), .second, .val (.int v67_2), .val (.int (-1 : Int32))] [(.ref a1)])) rfl rfl (hb hby d5_77)
      refine GoW.st st9 ?_
      show GoW p e below QQ (T9.setTop (mkF m 80 #[.val (.ref a1), .val (.long q1), .second, .val (.int v67_2), .val (.int (-1 : Int32))] [.null]))
      refine GoW.st (fun t k => XS.ifnonnullNo X9.here hx rfl (hb hby d5_80) rfl (XS.iloadN X9.here hx rfl (hb hby d5_83) rfl (XS.goto X9.here hx rfl (pc0 := 84) (pc' := 93) rfl (hb hby d5_84) (by decide) (by decide) k))) ?_
      show GoW p e below QQ (T9.setTop (mkF m 93 #[.val (.ref a1), .val (.long q1), .second, .val (.int v67_2), .val (.int (-1 : Int32))] [(.int v67_2)]))
      have rv : ((some (.int v67_2)) : Option Value) = some (.int (own_sk2 s0 s1 ((w2.toInt64 - q1).toInt32))) := by
        subst hv67_2 hv67 hv27
        rw [own_sk2, if_neg hc61, if_neg hc61_2]
        all_goals first | rfl | (simp; done)
      exact GoW.fin X9 (some (.int v67_2)) (fun q => by rw [hret] at q; cases q) hlk hQ e9 ⟨rv, N0, rfl⟩ (by decide) (by decide) (fun fs hr => retI X9 hx hret (hb hby d5_93) hr)
theorem pn_2 : plainName "com/example/hike/hike/GroupAtPinLaw" = true := by first | (simp [plainName, overriddenIn]; done) | decide +kernel
theorem pd_1 : parseMethodDescriptor "(II)I" = some ⟨[.int, .int], some .int⟩ := by decide +kernel
theorem pd_2 : parseMethodDescriptor "(I[IIIZ[I)V" = some ⟨[.int, (.array .int), .int, .int, .boolean, (.array .int)], none⟩ := by decide +kernel
theorem pd_3 : parseMethodDescriptor "(J)I" = some ⟨[.long], some .int⟩ := by decide +kernel
def Q0 (Z : State) (p1 : Int32) (p2 : Int32) (p3 : Int32) (p4 : Int32) (p5 : Int64) (h0 : Heap) (n0 : Nat) (v : Option Value) (h : Heap) (L : List Loc) : Prop := v = some (.int (1 : Int32)) ∧ Fr n0 L
set_option maxRecDepth 65536 in
set_option maxHeartbeats 40000000 in
theorem rm0 (l : Launch) (Z : State) (a0 : Array Value) (hw : ∀ d ∈ tables_1, d.before a0 Z = true) (ws : List Jvm.Cond) (p1 : Int32) (p2 : Int32) (p3 : Int32) (p4 : Int32) (p5 : Int64) (h0 : Heap) (n0 : Nat) (Z0 : n0 ≤ h0.size) (Z1 : h0.size ≤ n0)  :
    MetFree l x (head1 (Jvm.Cond.code x code maxLocals ret :: ws) room_1) (fun a U => a = #[(.int p1), (.int p2), (.int p3), (.int p4), (.long p5)] ∧ Z.Warmed39 U.vm ∧ U.heap = h0) (fun _ _ _ _ _ => True) (fun _ U o U' => ∃ v L, o = .returned v ∧ Q0 Z p1 p2 p3 p4 p5 h0 n0 v U'.heap L ∧ FrameEnd U o U' L 16 128) := by
  refine met_of (Q := fun v h L => Q0 Z p1 p2 p3 p4 p5 h0 n0 v h L) (plainFor_of_name pn_2) (fun m => by first | (simp [entryFrame, mkF, argsToLocals, Value.category, maxLocals]; done) | rfl) (Ls := #[.val (.int p1), .val (.int p2), .val (.int p3), .val (.int p4), .val (.long p5), .second, .unset, .unset, .unset, .unset, .unset, .unset, .unset, .unset, .unset, .unset, .unset, .unset, .unset, .unset, .unset, .unset, .unset, .unset, .unset]) ?_
  intro p e s m below meth c T0 QQ hx hZ hby hml hown hnm hret hlk X0 e0 hQ
  have hml : c.maxLocals = 25 := hml
  have hown : s.vm.findClass "com/example/hike/hike/GroupAtPinLaw" = some m.cls := hown
  have hnm : meth.name = "law" := hnm
  have hret : meth.sig.returnType = some .boolean := hret
  have N0 := Fr.nil n0
  have K0 : Keep h0 h0 [] := Keep.refl h0 _
  show GoW p e below QQ (T0.setTop (mkF m 0 #[.val (.int p1), .val (.int p2), .val (.int p3), .val (.int p4), .val (.long p5), .second, .unset, .unset, .unset, .unset, .unset, .unset, .unset, .unset, .unset, .unset, .unset, .unset, .unset, .unset, .unset, .unset, .unset, .unset, .unset] []))
  refine GoW.st (fun t k => XS.iloadN X0.here hx rfl (hb hby at_0) rfl (XS.bipush X0.here hx rfl (hb hby at_1) (XS.iand X0.here hx rfl (hb hby at_3) rfl (XS.istore X0.here hx rfl (hb hby at_4) rfl (l' := #[.val (.int p1), .val (.int p2), .val (.int p3), .val (.int p4), .val (.long p5), .second, .val (.int (p2 &&& (7 : Int32))), .unset, .unset, .unset, .unset, .unset, .unset, .unset, .unset, .unset, .unset, .unset, .unset, .unset, .unset, .unset, .unset, .unset, .unset]) rfl k)))) ?_
  show GoW p e below QQ (T0.setTop (mkF m 6 #[.val (.int p1), .val (.int p2), .val (.int p3), .val (.int p4), .val (.long p5), .second, .val (.int (p2 &&& (7 : Int32))), .unset, .unset, .unset, .unset, .unset, .unset, .unset, .unset, .unset, .unset, .unset, .unset, .unset, .unset, .unset, .unset, .unset, .unset] []))
  generalize hv4 : (p2 &&& (7 : Int32)) = v4
  refine GoW.st (fun t k => XS.iloadN X0.here hx rfl (hb hby at_6) rfl (XS.iconst X0.here hx rfl (hb hby at_7) (XS.ishr X0.here hx rfl (hb hby at_8) rfl (XS.iconst X0.here hx rfl (hb hby at_9) (XS.iand X0.here hx rfl (hb hby at_10) rfl k))))) ?_
  show GoW p e below QQ (T0.setTop (mkF m 11 #[.val (.int p1), .val (.int p2), .val (.int p3), .val (.int p4), .val (.long p5), .second, .val (.int v4), .unset, .unset, .unset, .unset, .unset, .unset, .unset, .unset, .unset, .unset, .unset, .unset, .unset, .unset, .unset, .unset, .unset, .unset] [(.int ((p2 >>> ((3 : Int32) &&& 31)) &&& (1 : Int32)))]))
  by_cases hc11 : ((p2 >>> ((3 : Int32) &&& 31)) &&& (1 : Int32)) = (0 : Int32)
  · skip
    refine GoW.st (fun t k => XS.ifYes X0.here hx rfl (pc0 := 11) (pc' := 18) rfl (hb hby at_11) rfl ((if0 _ _).trans (teq hc11).1) (by decide) (by decide) k) ?_
    show GoW p e below QQ (T0.setTop (mkF m 18 #[.val (.int p1), .val (.int p2), .val (.int p3), .val (.int p4), .val (.long p5), .second, .val (.int v4), .unset, .unset, .unset, .unset, .unset, .unset, .unset, .unset, .unset, .unset, .unset, .unset, .unset, .unset, .unset, .unset, .unset, .unset] []))
    have hi11 : (((p2 >>> ((3 : Int32) &&& 31)) &&& (1 : Int32))).toInt = 0 := (congrArg Int32.toInt hc11)
    refine GoW.st (fun t k => XS.iconst X0.here hx rfl (hb hby at_18) (XS.istore X0.here hx rfl (hb hby at_19) rfl (l' := #[.val (.int p1), .val (.int p2), .val (.int p3), .val (.int p4), .val (.long p5), .second, .val (.int v4), .val (.int (0 : Int32)), .unset, .unset, .unset, .unset, .unset, .unset, .unset, .unset, .unset, .unset, .unset, .unset, .unset, .unset, .unset, .unset, .unset]) rfl (XS.iloadN X0.here hx rfl (hb hby at_21) rfl (XS.iconst X0.here hx rfl (hb hby at_22) (XS.ishr X0.here hx rfl (hb hby at_23) rfl (XS.iconst X0.here hx rfl (hb hby at_24) k)))))) ?_
    show GoW p e below QQ (T0.setTop (mkF m 25 #[.val (.int p1), .val (.int p2), .val (.int p3), .val (.int p4), .val (.long p5), .second, .val (.int v4), .val (.int (0 : Int32)), .unset, .unset, .unset, .unset, .unset, .unset, .unset, .unset, .unset, .unset, .unset, .unset, .unset, .unset, .unset, .unset, .unset] [(.int (1 : Int32)), (.int (p2 >>> ((4 : Int32) &&& 31)))]))
    refine GoW.st (fun t k => XS.iand X0.here hx rfl (hb hby at_25) rfl k) ?_
    show GoW p e below QQ (T0.setTop (mkF m 26 #[.val (.int p1), .val (.int p2), .val (.int p3), .val (.int p4), .val (.long p5), .second, .val (.int v4), .val (.int (0 : Int32)), .unset, .unset, .unset, .unset, .unset, .unset, .unset, .unset, .unset, .unset, .unset, .unset, .unset, .unset, .unset, .unset, .unset] [(.int ((p2 >>> ((4 : Int32) &&& 31)) &&& (1 : Int32)))]))
    by_cases hc26 : ((p2 >>> ((4 : Int32) &&& 31)) &&& (1 : Int32)) = (0 : Int32)
    · skip
      refine GoW.st (fun t k => XS.ifYes X0.here hx rfl (pc0 := 26) (pc' := 33) rfl (hb hby at_26) rfl ((if0 _ _).trans (teq hc26).1) (by decide) (by decide) k) ?_
      show GoW p e below QQ (T0.setTop (mkF m 33 #[.val (.int p1), .val (.int p2), .val (.int p3), .val (.int p4), .val (.long p5), .second, .val (.int v4), .val (.int (0 : Int32)), .unset, .unset, .unset, .unset, .unset, .unset, .unset, .unset, .unset, .unset, .unset, .unset, .unset, .unset, .unset, .unset, .unset] []))
      have hi26 : (((p2 >>> ((4 : Int32) &&& 31)) &&& (1 : Int32))).toInt = 0 := (congrArg Int32.toInt hc26)
      refine GoW.st (fun t k => XS.iconst X0.here hx rfl (hb hby at_33) (XS.istore X0.here hx rfl (hb hby at_34) rfl (l' := #[.val (.int p1), .val (.int p2), .val (.int p3), .val (.int p4), .val (.long p5), .second, .val (.int v4), .val (.int (0 : Int32)), .val (.int (0 : Int32)), .unset, .unset, .unset, .unset, .unset, .unset, .unset, .unset, .unset, .unset, .unset, .unset, .unset, .unset, .unset, .unset]) rfl (XS.iloadN X0.here hx rfl (hb hby at_36) rfl (XS.iconst X0.here hx rfl (hb hby at_37) (XS.ishr X0.here hx rfl (hb hby at_38) rfl (XS.iconst X0.here hx rfl (hb hby at_39) k)))))) ?_
      show GoW p e below QQ (T0.setTop (mkF m 40 #[.val (.int p1), .val (.int p2), .val (.int p3), .val (.int p4), .val (.long p5), .second, .val (.int v4), .val (.int (0 : Int32)), .val (.int (0 : Int32)), .unset, .unset, .unset, .unset, .unset, .unset, .unset, .unset, .unset, .unset, .unset, .unset, .unset, .unset, .unset, .unset] [(.int (3 : Int32)), (.int (p2 >>> ((5 : Int32) &&& 31)))]))
      refine GoW.st (fun t k => XS.iand X0.here hx rfl (hb hby at_40) rfl (XS.istore X0.here hx rfl (hb hby at_41) rfl (l' := #[.val (.int p1), .val (.int p2), .val (.int p3), .val (.int p4), .val (.long p5), .second, .val (.int v4), .val (.int (0 : Int32)), .val (.int (0 : Int32)), .val (.int ((p2 >>> ((5 : Int32) &&& 31)) &&& (3 : Int32))), .unset, .unset, .unset, .unset, .unset, .unset, .unset, .unset, .unset, .unset, .unset, .unset, .unset, .unset, .unset]) rfl k)) ?_
      show GoW p e below QQ (T0.setTop (mkF m 43 #[.val (.int p1), .val (.int p2), .val (.int p3), .val (.int p4), .val (.long p5), .second, .val (.int v4), .val (.int (0 : Int32)), .val (.int (0 : Int32)), .val (.int ((p2 >>> ((5 : Int32) &&& 31)) &&& (3 : Int32))), .unset, .unset, .unset, .unset, .unset, .unset, .unset, .unset, .unset, .unset, .unset, .unset, .unset, .unset, .unset] []))
      generalize hv41 : ((p2 >>> ((5 : Int32) &&& 31)) &&& (3 : Int32)) = v41
      have z0 : (0 : Int32).toInt = 0 := rfl
      have z128 : (128 : Int32).toInt = 128 := rfl
      have zm1 : (-1 : Int32).toInt = -1 := rfl
      have z8 : (8 : Int32).toInt = 8 := rfl
      have z9 : (9 : Int32).toInt = 9 := rfl
      have z2147483631 : (2147483631 : Int32).toInt = 2147483631 := rfl
      have m4 := c_mask p2 7 3 (by decide) rfl
      rw [hv4] at m4
      refine GoW.st (fun t k => XS.iload X0.here hx rfl (hb hby at_43) rfl k) ?_
      show GoW p e below QQ (T0.setTop (mkF m 45 #[.val (.int p1), .val (.int p2), .val (.int p3), .val (.int p4), .val (.long p5), .second, .val (.int v4), .val (.int (0 : Int32)), .val (.int (0 : Int32)), .val (.int v41), .unset, .unset, .unset, .unset, .unset, .unset, .unset, .unset, .unset, .unset, .unset, .unset, .unset, .unset, .unset] [(.int v4)]))
      by_cases hc45 : v4 = (0 : Int32)
      · skip
        refine GoW.st (fun t k => XS.ifNo X0.here hx rfl (hb hby at_45) rfl ((if0 _ _).trans (teq hc45).2) k) ?_
        show GoW p e below QQ (T0.setTop (mkF m 48 #[.val (.int p1), .val (.int p2), .val (.int p3), .val (.int p4), .val (.long p5), .second, .val (.int v4), .val (.int (0 : Int32)), .val (.int (0 : Int32)), .val (.int v41), .unset, .unset, .unset, .unset, .unset, .unset, .unset, .unset, .unset, .unset, .unset, .unset, .unset, .unset, .unset] []))
        have hi45 : v4.toInt = 0 := (congrArg Int32.toInt hc45)
        refine GoW.st (fun t k => XS.iconst X0.here hx rfl (hb hby at_48) k) ?_
        show GoW p e below QQ (T0.setTop (mkF m 49 #[.val (.int p1), .val (.int p2), .val (.int p3), .val (.int p4), .val (.long p5), .second, .val (.int v4), .val (.int (0 : Int32)), .val (.int (0 : Int32)), .val (.int v41), .unset, .unset, .unset, .unset, .unset, .unset, .unset, .unset, .unset, .unset, .unset, .unset, .unset, .unset, .unset] [(.int (1 : Int32))]))
        exact GoW.fin X0 (some (.int (nar .boolean (1 : Int32)))) (fun q => by rw [hret] at q; cases q) hlk hQ e0 ⟨rfl, N0⟩ (by decide) (by decide) (fun fs hr => retN X0 hx (t := .boolean) hret (by simp) (hb hby at_49) hr)
      · skip
        refine GoW.st (fun t k => XS.ifYes X0.here hx rfl (pc0 := 45) (pc' := 50) rfl (hb hby at_45) rfl ((if0 _ _).trans (feq hc45).2) (by decide) (by decide) k) ?_
        show GoW p e below QQ (T0.setTop (mkF m 50 #[.val (.int p1), .val (.int p2), .val (.int p3), .val (.int p4), .val (.long p5), .second, .val (.int v4), .val (.int (0 : Int32)), .val (.int (0 : Int32)), .val (.int v41), .unset, .unset, .unset, .unset, .unset, .unset, .unset, .unset, .unset, .unset, .unset, .unset, .unset, .unset, .unset] []))
        have hi45 : ¬ (v4.toInt = 0) := (fun q => hc45 (Int32.toInt_inj.mp q))
        refine GoW.st (fun t k => XS.aconstNull X0.here hx rfl (hb hby at_50) (XS.astore X0.here hx rfl (hb hby at_51) rfl rfl (l' := #[.val (.int p1), .val (.int p2), .val (.int p3), .val (.int p4), .val (.long p5), .second, .val (.int v4), .val (.int (0 : Int32)), .val (.int (0 : Int32)), .val (.int v41), .val .null, .unset, .unset, .unset, .unset, .unset, .unset, .unset, .unset, .unset, .unset, .unset, .unset, .unset, .unset]) rfl (XS.iload X0.here hx rfl (hb hby at_53) rfl k))) ?_
        show GoW p e below QQ (T0.setTop (mkF m 55 #[.val (.int p1), .val (.int p2), .val (.int p3), .val (.int p4), .val (.long p5), .second, .val (.int v4), .val (.int (0 : Int32)), .val (.int (0 : Int32)), .val (.int v41), .val .null, .unset, .unset, .unset, .unset, .unset, .unset, .unset, .unset, .unset, .unset, .unset, .unset, .unset, .unset] [(.int (0 : Int32))]))
        have hc55 : (0 : Int32) = (0 : Int32) := by decide
        refine GoW.st (fun t k => XS.ifYes X0.here hx rfl (pc0 := 55) (pc' := 186) rfl (hb hby at_55) rfl ((if0 _ _).trans (teq hc55).1) (by decide) (by decide) (XS.iloadN X0.here hx rfl (hb hby at_186) rfl (X0.ldcInt hx hown (mvT hZ (hw _ (List.mem_of_getElem? (i := 0) rfl))) (g := (mkF m 187 #[.val (.int p1), .val (.int p2), .val (.int p3), .val (.int p4), .val (.long p5), .second, .val (.int v4), .val (.int (0 : Int32)), .val (.int (0 : Int32)), .val (.int v41), .val .null, .unset, .unset, .unset, .unset, .unset, .unset, .unset, .unset, .unset, .unset, .unset, .unset, .unset, .unset] [(.int p1)])) rfl (hb hby at_187) t (XS.iand X0.here hx rfl (hb hby at_189) rfl (X0.ldcInt hx hown (mvT hZ (hw _ (List.mem_of_getElem? (i := 1) rfl))) (g := (mkF m 190 #[.val (.int p1), .val (.int p2), .val (.int p3), .val (.int p4), .val (.long p5), .second, .val (.int v4), .val (.int (0 : Int32)), .val (.int (0 : Int32)), .val (.int v41), .val .null, .unset, .unset, .unset, .unset, .unset, .unset, .unset, .unset, .unset, .unset, .unset, .unset, .unset, .unset] [(.int (p1 &&& (2147483647 : Int32)))])) rfl (hb hby at_190) t k))))) ?_
        show GoW p e below QQ (T0.setTop (mkF m 192 #[.val (.int p1), .val (.int p2), .val (.int p3), .val (.int p4), .val (.long p5), .second, .val (.int v4), .val (.int (0 : Int32)), .val (.int (0 : Int32)), .val (.int v41), .val .null, .unset, .unset, .unset, .unset, .unset, .unset, .unset, .unset, .unset, .unset, .unset, .unset, .unset, .unset] [(.int (2147483631 : Int32)), (.int (p1 &&& (2147483647 : Int32)))]))
        obtain ⟨_, _, ⟨T1, zL1, zk1, zn1⟩, -, X1, ⟨Lc1, hQ1, zl1, zy1, zz1⟩, st1⟩ := Jvm.LawKit.callS X0 hx (y := (⟨"java/lang/Math", "min", "(II)I"⟩ : MethodName)) hown (mvT hZ (hw _ (List.mem_of_getElem? (i := 2) rfl))) (mvT hZ (hw _ (List.mem_of_getElem? (i := 3) rfl))) (mvT hZ (hw _ (List.mem_of_getElem? (i := 4) rfl))) (mvT hZ (hw _ (List.mem_of_getElem? (i := 5) rfl))) (by decide) (backOf (W := 0) (rm1 l Z a0 hw [] (p1 &&& (2147483647 : Int32)) (2147483631 : Int32) h0 n0 (Nat.le_trans Z0 K0.1) ) hZ (hw _ (List.mem_of_getElem? (i := 5) rfl)) (hw _ (List.mem_of_getElem? (i := 4) rfl)) (by decide) (by decide)) (g := (mkF m 192 #[.val (.int p1), .val (.int p2), .val (.int p3), .val (.int p4), .val (.long p5), .second, .val (.int v4), .val (.int (0 : Int32)), .val (.int (0 : Int32)), .val (.int v41), .val .null, .unset, .unset, .unset, .unset, .unset, .unset, .unset, .unset, .unset, .unset, .unset, .unset, .unset, .unset] [(.int (2147483631 : Int32)), (.int (p1 &&& (2147483647 : Int32)))])) rfl (by rw [hml]; rfl) (argsL := [(.int (p1 &&& (2147483647 : Int32))), (.int (2147483631 : Int32))]) (rest := []) (lenOf pd_1 rfl) rfl (by show 2 * 0 + _ ≤ _; exact Nat.le_of_eq rfl) (hb hby at_192) (fun _ _ => ⟨rfl, e0, (by decide : 0 + 0 ≤ _), (by decide : 0 + 0 ≤ _)⟩)
        dsimp only [Pt.U, Pt.locs, Pt.cells, Pt.slots] at X1 zl1 zy1 zz1 st1 hQ1
        subst zl1 zy1 zz1
        obtain ⟨rfl, Nq1, hh1⟩ := hQ1
        have N1 := Fr.app N0 Nq1
        refine GoW.st st1 ?_
        show GoW p e below QQ (T1.setTop (mkF m 195 #[.val (.int p1), .val (.int p2), .val (.int p3), .val (.int p4), .val (.long p5), .second, .val (.int v4), .val (.int (0 : Int32)), .val (.int (0 : Int32)), .val (.int v41), .val .null, .unset, .unset, .unset, .unset, .unset, .unset, .unset, .unset, .unset, .unset, .unset, .unset, .unset, .unset] [(.int (own_minI (p1 &&& (2147483647 : Int32)) (2147483631 : Int32)))]))
        refine GoW.st (fun t k => XS.istore X1.here hx rfl (hb hby at_195) rfl (l' := #[.val (.int p1), .val (.int p2), .val (.int p3), .val (.int p4), .val (.long p5), .second, .val (.int v4), .val (.int (0 : Int32)), .val (.int (0 : Int32)), .val (.int v41), .val .null, .val (.int (own_minI (p1 &&& (2147483647 : Int32)) (2147483631 : Int32))), .unset, .unset, .unset, .unset, .unset, .unset, .unset, .unset, .unset, .unset, .unset, .unset, .unset]) rfl k) ?_
        show GoW p e below QQ (T1.setTop (mkF m 197 #[.val (.int p1), .val (.int p2), .val (.int p3), .val (.int p4), .val (.long p5), .second, .val (.int v4), .val (.int (0 : Int32)), .val (.int (0 : Int32)), .val (.int v41), .val .null, .val (.int (own_minI (p1 &&& (2147483647 : Int32)) (2147483631 : Int32))), .unset, .unset, .unset, .unset, .unset, .unset, .unset, .unset, .unset, .unset, .unset, .unset, .unset] []))
        generalize hv195 : (own_minI (p1 &&& (2147483647 : Int32)) (2147483631 : Int32)) = v195
        have nbA := c_and p1 2147483647 (by decide)
        have frA := own_minI_i (p1 &&& (2147483647 : Int32)) (2147483631 : Int32)
        rw [hv195] at frA
        have fr0 : 0 ≤ v195.toInt ∧ v195.toInt ≤ 2147483631 := by omega
        refine GoW.st (fun t k => XS.iload X1.here hx rfl (hb hby at_197) rfl (XS.iload X1.here hx rfl (hb hby at_199) rfl (XS.iadd X1.here hx rfl (hb hby at_201) rfl (XS.istore X1.here hx rfl (hb hby at_202) rfl (l' := #[.val (.int p1), .val (.int p2), .val (.int p3), .val (.int p4), .val (.long p5), .second, .val (.int v4), .val (.int (0 : Int32)), .val (.int (0 : Int32)), .val (.int v41), .val .null, .val (.int v195), .val (.int (v195 + v4)), .unset, .unset, .unset, .unset, .unset, .unset, .unset, .unset, .unset, .unset, .unset, .unset]) rfl k)))) ?_
        show GoW p e below QQ (T1.setTop (mkF m 204 #[.val (.int p1), .val (.int p2), .val (.int p3), .val (.int p4), .val (.long p5), .second, .val (.int v4), .val (.int (0 : Int32)), .val (.int (0 : Int32)), .val (.int v41), .val .null, .val (.int v195), .val (.int (v195 + v4)), .unset, .unset, .unset, .unset, .unset, .unset, .unset, .unset, .unset, .unset, .unset, .unset] []))
        generalize hv202 : (v195 + v4) = v202
        have toA := c_iadd v195 v4
        have toR := rng32 (v195 + v4)
        rw [hv202] at toA toR
        have to0 : v202.toInt = v195.toInt + v4.toInt := by omega
        refine GoW.st (fun t k => XS.aconstNull X1.here hx rfl (hb hby at_204) (XS.astore X1.here hx rfl (hb hby at_205) rfl rfl (l' := #[.val (.int p1), .val (.int p2), .val (.int p3), .val (.int p4), .val (.long p5), .second, .val (.int v4), .val (.int (0 : Int32)), .val (.int (0 : Int32)), .val (.int v41), .val .null, .val (.int v195), .val (.int v202), .val .null, .unset, .unset, .unset, .unset, .unset, .unset, .unset, .unset, .unset, .unset, .unset]) rfl (XS.iconst X1.here hx rfl (hb hby at_207) (XS.istore X1.here hx rfl (hb hby at_208) rfl (l' := #[.val (.int p1), .val (.int p2), .val (.int p3), .val (.int p4), .val (.long p5), .second, .val (.int v4), .val (.int (0 : Int32)), .val (.int (0 : Int32)), .val (.int v41), .val .null, .val (.int v195), .val (.int v202), .val .null, .val (.int (-1 : Int32)), .unset, .unset, .unset, .unset, .unset, .unset, .unset, .unset, .unset, .unset]) rfl (XS.iconst X1.here hx rfl (hb hby at_210) (XS.istore X1.here hx rfl (hb hby at_211) rfl (l' := #[.val (.int p1), .val (.int p2), .val (.int p3), .val (.int p4), .val (.long p5), .second, .val (.int v4), .val (.int (0 : Int32)), .val (.int (0 : Int32)), .val (.int v41), .val .null, .val (.int v195), .val (.int v202), .val .null, .val (.int (-1 : Int32)), .val (.int (-1 : Int32)), .unset, .unset, .unset, .unset, .unset, .unset, .unset, .unset, .unset]) rfl k)))))) ?_
        show GoW p e below QQ (T1.setTop (mkF m 213 #[.val (.int p1), .val (.int p2), .val (.int p3), .val (.int p4), .val (.long p5), .second, .val (.int v4), .val (.int (0 : Int32)), .val (.int (0 : Int32)), .val (.int v41), .val .null, .val (.int v195), .val (.int v202), .val .null, .val (.int (-1 : Int32)), .val (.int (-1 : Int32)), .unset, .unset, .unset, .unset, .unset, .unset, .unset, .unset, .unset] []))
        refine GoW.st (fun t k => XS.iconst X1.here hx rfl (hb hby at_213) (XS.istore X1.here hx rfl (hb hby at_214) rfl (l' := #[.val (.int p1), .val (.int p2), .val (.int p3), .val (.int p4), .val (.long p5), .second, .val (.int v4), .val (.int (0 : Int32)), .val (.int (0 : Int32)), .val (.int v41), .val .null, .val (.int v195), .val (.int v202), .val .null, .val (.int (-1 : Int32)), .val (.int (-1 : Int32)), .val (.int (0 : Int32)), .unset, .unset, .unset, .unset, .unset, .unset, .unset, .unset]) rfl (XS.iload X1.here hx rfl (hb hby at_216) rfl k))) ?_
        show GoW p e below QQ (T1.setTop (mkF m 218 #[.val (.int p1), .val (.int p2), .val (.int p3), .val (.int p4), .val (.long p5), .second, .val (.int v4), .val (.int (0 : Int32)), .val (.int (0 : Int32)), .val (.int v41), .val .null, .val (.int v195), .val (.int v202), .val .null, .val (.int (-1 : Int32)), .val (.int (-1 : Int32)), .val (.int (0 : Int32)), .unset, .unset, .unset, .unset, .unset, .unset, .unset, .unset] [(.int (0 : Int32))]))
        have hc218 : (0 : Int32) = (0 : Int32) := by decide
        refine GoW.st (fun t k => XS.ifYes X1.here hx rfl (pc0 := 218) (pc' := 329) rfl (hb hby at_218) rfl ((if0 _ _).trans (teq hc218).1) (by decide) (by decide) (XS.iload X1.here hx rfl (hb hby at_329) rfl (XS.iload X1.here hx rfl (hb hby at_331) rfl (XS.isub X1.here hx rfl (hb hby at_333) rfl (XS.istore X1.here hx rfl (hb hby at_334) rfl (l' := #[.val (.int p1), .val (.int p2), .val (.int p3), .val (.int p4), .val (.long p5), .second, .val (.int v4), .val (.int (0 : Int32)), .val (.int (0 : Int32)), .val (.int v41), .val .null, .val (.int v195), .val (.int v202), .val .null, .val (.int (-1 : Int32)), .val (.int (-1 : Int32)), .val (.int (0 : Int32)), .val (.int (v4 - (0 : Int32))), .unset, .unset, .unset, .unset, .unset, .unset, .unset]) rfl k))))) ?_
        show GoW p e below QQ (T1.setTop (mkF m 336 #[.val (.int p1), .val (.int p2), .val (.int p3), .val (.int p4), .val (.long p5), .second, .val (.int v4), .val (.int (0 : Int32)), .val (.int (0 : Int32)), .val (.int v41), .val .null, .val (.int v195), .val (.int v202), .val .null, .val (.int (-1 : Int32)), .val (.int (-1 : Int32)), .val (.int (0 : Int32)), .val (.int (v4 - (0 : Int32))), .unset, .unset, .unset, .unset, .unset, .unset, .unset] []))
        generalize hv334 : (v4 - (0 : Int32)) = v334
        have szA := c_isub v4 (0 : Int32)
        have szR := rng32 (v4 - (0 : Int32))
        rw [hv334] at szA szR
        have zk : (0 : Int32).toInt = 0 := rfl
        have sz0 : v334.toInt = v4.toInt - 0 := by omega
        refine GoW.st (fun t k => XS.iload X1.here hx rfl (hb hby at_336) rfl k) ?_
        show GoW p e below QQ (T1.setTop (mkF m 338 #[.val (.int p1), .val (.int p2), .val (.int p3), .val (.int p4), .val (.long p5), .second, .val (.int v4), .val (.int (0 : Int32)), .val (.int (0 : Int32)), .val (.int v41), .val .null, .val (.int v195), .val (.int v202), .val .null, .val (.int (-1 : Int32)), .val (.int (-1 : Int32)), .val (.int (0 : Int32)), .val (.int v334), .unset, .unset, .unset, .unset, .unset, .unset, .unset] [(.int v334)]))
        by_cases hc338 : (0 : Int32) < v334
        · skip
          refine GoW.st (fun t k => XS.ifYes X1.here hx rfl (pc0 := 338) (pc' := 343) rfl (hb hby at_338) rfl ((if0 _ _).trans (tlt hc338).2.2.1) (by decide) (by decide) k) ?_
          show GoW p e below QQ (T1.setTop (mkF m 343 #[.val (.int p1), .val (.int p2), .val (.int p3), .val (.int p4), .val (.long p5), .second, .val (.int v4), .val (.int (0 : Int32)), .val (.int (0 : Int32)), .val (.int v41), .val .null, .val (.int v195), .val (.int v202), .val .null, .val (.int (-1 : Int32)), .val (.int (-1 : Int32)), .val (.int (0 : Int32)), .val (.int v334), .unset, .unset, .unset, .unset, .unset, .unset, .unset] []))
          have hi338 : 0 < v334.toInt := (Int32.lt_iff_toInt_lt.mp hc338)
          have szp : 0 < v334.toInt := hi338
          have nzL : (v334.toInt64) ≠ 0 := fun q => by
            have q2 := congrArg Int64.toInt q
            rw [c_i2l] at q2
            have z : (0 : Int64).toInt = 0 := rfl
            omega
          refine GoW.st (fun t k => XS.lconst X1.here hx rfl (hb hby at_343) (XS.lload X1.here hx rfl (hb hby at_344) rfl (X1.ldc2Long hx hown (mvT hZ (hw _ (List.mem_of_getElem? (i := 6) rfl))) (g := (mkF m 346 #[.val (.int p1), .val (.int p2), .val (.int p3), .val (.int p4), .val (.long p5), .second, .val (.int v4), .val (.int (0 : Int32)), .val (.int (0 : Int32)), .val (.int v41), .val .null, .val (.int v195), .val (.int v202), .val .null, .val (.int (-1 : Int32)), .val (.int (-1 : Int32)), .val (.int (0 : Int32)), .val (.int v334), .unset, .unset, .unset, .unset, .unset, .unset, .unset] [(.long p5), (.long (1 : Int64))])) rfl (hb hby at_346) t (XS.land X1.here hx rfl (hb hby at_349) rfl (XS.iload X1.here hx rfl (hb hby at_350) rfl (XS.i2l X1.here hx rfl (hb hby at_352) rfl k)))))) ?_
          show GoW p e below QQ (T1.setTop (mkF m 353 #[.val (.int p1), .val (.int p2), .val (.int p3), .val (.int p4), .val (.long p5), .second, .val (.int v4), .val (.int (0 : Int32)), .val (.int (0 : Int32)), .val (.int v41), .val .null, .val (.int v195), .val (.int v202), .val .null, .val (.int (-1 : Int32)), .val (.int (-1 : Int32)), .val (.int (0 : Int32)), .val (.int v334), .unset, .unset, .unset, .unset, .unset, .unset, .unset] [(.long (v334.toInt64)), (.long (p5 &&& (9223372036854775807 : Int64))), (.long (1 : Int64))]))
          refine GoW.st (fun t k => lremM X1 hx rfl (hb hby at_353) rfl nzL (XS.ladd X1.here hx rfl (hb hby at_354) rfl (XS.lstore X1.here hx rfl (hb hby at_355) rfl (l' := #[.val (.int p1), .val (.int p2), .val (.int p3), .val (.int p4), .val (.long p5), .second, .val (.int v4), .val (.int (0 : Int32)), .val (.int (0 : Int32)), .val (.int v41), .val .null, .val (.int v195), .val (.int v202), .val .null, .val (.int (-1 : Int32)), .val (.int (-1 : Int32)), .val (.int (0 : Int32)), .val (.int v334), .val (.long ((1 : Int64) + ((p5 &&& (9223372036854775807 : Int64)) % (v334.toInt64)))), .second, .unset, .unset, .unset, .unset, .unset]) rfl k))) ?_
          show GoW p e below QQ (T1.setTop (mkF m 357 #[.val (.int p1), .val (.int p2), .val (.int p3), .val (.int p4), .val (.long p5), .second, .val (.int v4), .val (.int (0 : Int32)), .val (.int (0 : Int32)), .val (.int v41), .val .null, .val (.int v195), .val (.int v202), .val .null, .val (.int (-1 : Int32)), .val (.int (-1 : Int32)), .val (.int (0 : Int32)), .val (.int v334), .val (.long ((1 : Int64) + ((p5 &&& (9223372036854775807 : Int64)) % (v334.toInt64)))), .second, .unset, .unset, .unset, .unset, .unset] []))
          generalize hv355 : ((1 : Int64) + ((p5 &&& (9223372036854775807 : Int64)) % (v334.toInt64))) = v355
          have poA := own_posf p5 v334 szp
          rw [hv355] at poA
          have ix := own_ixf v195 v355 (by omega) (by omega)
          obtain ⟨T2, h2, X2, e2, E2, A2, D2, -, st2⟩ := newO X1 hx hZ hown (hw _ (List.mem_of_getElem? (i := 7) rfl)) (hw _ (List.mem_of_getElem? (i := 8) rfl)) (hw _ (List.mem_of_getElem? (i := 9) rfl)) hh1 (g := (mkF m 357 #[.val (.int p1), .val (.int p2), .val (.int p3), .val (.int p4), .val (.long p5), .second, .val (.int v4), .val (.int (0 : Int32)), .val (.int (0 : Int32)), .val (.int v41), .val .null, .val (.int v195), .val (.int v202), .val .null, .val (.int (-1 : Int32)), .val (.int (-1 : Int32)), .val (.int (0 : Int32)), .val (.int v334), .val (.long v355), .second, .unset, .unset, .unset, .unset, .unset] [])) rfl (hb hby at_357) (by decide) (by decide)
          obtain ⟨b2, g2⟩ : ∃ z, z = h0.size := ⟨_, rfl⟩
          rw [← g2] at A2 D2 st2
          refine GoW.st st2 ?_
          have gg2 : n0 ≤ b2 := Nat.le_trans (Nat.le_trans Z0 K0.1) (Nat.le_of_eq g2.symm)
          have sz2 : h0.size ≤ b2 := Nat.le_trans K0.1 (Nat.le_of_eq g2.symm)
          have K2 : Keep h0 h2 [] := K0.ext E2
          have F2_context : Fld Z h2 b2 "com/example/hike/hike/Proximity$Group" "context" "I" (.int (0 : Int32)) := D2 (Or.inr (hw _ (List.mem_of_getElem? (i := 22) rfl))) (ty := .int) (by decide)
          have F2_order : Fld Z h2 b2 "com/example/hike/hike/Proximity$Group" "order" "[I" .null := D2 (Or.inr (hw _ (List.mem_of_getElem? (i := 24) rfl))) (ty := (.array .int)) (by decide)
          have F2_from : Fld Z h2 b2 "com/example/hike/hike/Proximity$Group" "from" "I" (.int (0 : Int32)) := D2 (Or.inr (hw _ (List.mem_of_getElem? (i := 26) rfl))) (ty := .int) (by decide)
          have F2_to : Fld Z h2 b2 "com/example/hike/hike/Proximity$Group" "to" "I" (.int (0 : Int32)) := D2 (Or.inr (hw _ (List.mem_of_getElem? (i := 28) rfl))) (ty := .int) (by decide)
          have F2_reverse : Fld Z h2 b2 "com/example/hike/hike/Proximity$Group" "reverse" "Z" (.int (0 : Int32)) := D2 (Or.inr (hw _ (List.mem_of_getElem? (i := 30) rfl))) (ty := .boolean) (by decide)
          have F2_skipped : Fld Z h2 b2 "com/example/hike/hike/Proximity$Group" "skipped" "[I" .null := D2 (Or.inr (hw _ (List.mem_of_getElem? (i := 32) rfl))) (ty := (.array .int)) (by decide)
          show GoW p e below QQ (T2.setTop (mkF m 360 #[.val (.int p1), .val (.int p2), .val (.int p3), .val (.int p4), .val (.long p5), .second, .val (.int v4), .val (.int (0 : Int32)), .val (.int (0 : Int32)), .val (.int v41), .val .null, .val (.int v195), .val (.int v202), .val .null, .val (.int (-1 : Int32)), .val (.int (-1 : Int32)), .val (.int (0 : Int32)), .val (.int v334), .val (.long v355), .second, .unset, .unset, .unset, .unset, .unset] [(.ref b2)]))
          refine GoW.st (fun t k => XS.dup X2.here hx rfl (hb hby at_360) rfl rfl (XS.iloadN X2.here hx rfl (hb hby at_361) rfl (XS.aload X2.here hx rfl (hb hby at_362) rfl rfl (XS.iload X2.here hx rfl (hb hby at_364) rfl (XS.iload X2.here hx rfl (hb hby at_366) rfl (XS.iload X2.here hx rfl (hb hby at_368) rfl k)))))) ?_
          show GoW p e below QQ (T2.setTop (mkF m 370 #[.val (.int p1), .val (.int p2), .val (.int p3), .val (.int p4), .val (.long p5), .second, .val (.int v4), .val (.int (0 : Int32)), .val (.int (0 : Int32)), .val (.int v41), .val .null, .val (.int v195), .val (.int v202), .val .null, .val (.int (-1 : Int32)), .val (.int (-1 : Int32)), .val (.int (0 : Int32)), .val (.int v334), .val (.long v355), .second, .unset, .unset, .unset, .unset, .unset] [(.int (0 : Int32)), (.int v202), (.int v195), .null, (.int p3), (.ref b2), (.ref b2)]))
          refine GoW.st (fun t k => XS.aload X2.here hx rfl (hb hby at_370) rfl rfl k) ?_
          show GoW p e below QQ (T2.setTop (mkF m 372 #[.val (.int p1), .val (.int p2), .val (.int p3), .val (.int p4), .val (.long p5), .second, .val (.int v4), .val (.int (0 : Int32)), .val (.int (0 : Int32)), .val (.int v41), .val .null, .val (.int v195), .val (.int v202), .val .null, .val (.int (-1 : Int32)), .val (.int (-1 : Int32)), .val (.int (0 : Int32)), .val (.int v334), .val (.long v355), .second, .unset, .unset, .unset, .unset, .unset] [.null, (.int (0 : Int32)), (.int v202), (.int v195), .null, (.int p3), (.ref b2), (.ref b2)]))
          obtain ⟨_, _, ⟨T4, zL4, zk4, zn4⟩, -, X4, ⟨Lc4, hQ4, zl4, zy4, zz4⟩, st4⟩ := X2.specialBack hx (y := (⟨"com/example/hike/hike/Proximity$Group", "<init>", "(I[IIIZ[I)V"⟩ : MethodName)) rfl hown (mvT hZ (hw _ (List.mem_of_getElem? (i := 10) rfl))) (mvT hZ (hw _ (List.mem_of_getElem? (i := 11) rfl))) (mvT hZ (hw _ (List.mem_of_getElem? (i := 12) rfl))) (by decide) (backOf (W := 1) (rm2_n0 l Z a0 hw [] b2 p3 v195 v202 h2 n0 (Nat.le_trans Z0 K2.1) A2 gg2 F2_context F2_order F2_from F2_to F2_reverse F2_skipped) hZ (hw _ (List.mem_of_getElem? (i := 12) rfl)) (hw _ (List.mem_of_getElem? (i := 9) rfl)) (by decide) (by decide)) (g := (mkF m 372 #[.val (.int p1), .val (.int p2), .val (.int p3), .val (.int p4), .val (.long p5), .second, .val (.int v4), .val (.int (0 : Int32)), .val (.int (0 : Int32)), .val (.int v41), .val .null, .val (.int v195), .val (.int v202), .val .null, .val (.int (-1 : Int32)), .val (.int (-1 : Int32)), .val (.int (0 : Int32)), .val (.int v334), .val (.long v355), .second, .unset, .unset, .unset, .unset, .unset] [.null, (.int (0 : Int32)), (.int v202), (.int v195), .null, (.int p3), (.ref b2), (.ref b2)])) rfl (by rw [hml]; rfl) (Steps.refl _) (a := b2) (argsL := [(.int p3), .null, (.int v195), (.int v202), (.int (0 : Int32)), .null]) (rest := [(.ref b2)]) (lenOf pd_2 rfl) rfl (by show 2 * 0 + _ ≤ _; exact Nat.le_of_eq rfl) (hb hby at_372) (fun _ _ => ⟨rfl, e2, (by decide : 1 + 0 ≤ _), (by decide : 6 + 0 ≤ _)⟩)
          dsimp only [Pt.U, Pt.locs, Pt.cells, Pt.slots] at X4 zl4 zy4 zz4 st4 hQ4
          subst zl4 zy4 zz4
          obtain ⟨rfl, Nq4, Kq4, p4_0, p4_1, p4_2, p4_3, p4_4, p4_5⟩ := hQ4
          have N4 := Fr.app N1 Nq4
          refine GoW.st (fun t k => st4.trans k) ?_
          have K4 : Keep h0 T4.heap [] := K2.trans Kq4 (allS (Or.inr sz2) all0)
          show GoW p e below QQ (T4.setTop (mkF m 375 #[.val (.int p1), .val (.int p2), .val (.int p3), .val (.int p4), .val (.long p5), .second, .val (.int v4), .val (.int (0 : Int32)), .val (.int (0 : Int32)), .val (.int v41), .val .null, .val (.int v195), .val (.int v202), .val .null, .val (.int (-1 : Int32)), .val (.int (-1 : Int32)), .val (.int (0 : Int32)), .val (.int v334), .val (.long v355), .second, .unset, .unset, .unset, .unset, .unset] [(.ref b2)]))
          refine GoW.st (fun t k => XS.astore X4.here hx rfl (hb hby at_375) rfl rfl (l' := #[.val (.int p1), .val (.int p2), .val (.int p3), .val (.int p4), .val (.long p5), .second, .val (.int v4), .val (.int (0 : Int32)), .val (.int (0 : Int32)), .val (.int v41), .val .null, .val (.int v195), .val (.int v202), .val .null, .val (.int (-1 : Int32)), .val (.int (-1 : Int32)), .val (.int (0 : Int32)), .val (.int v334), .val (.long v355), .second, .val (.ref b2), .unset, .unset, .unset, .unset]) rfl (XS.aload X4.here hx rfl (hb hby at_377) rfl rfl (XS.lload X4.here hx rfl (hb hby at_379) rfl k))) ?_
          show GoW p e below QQ (T4.setTop (mkF m 381 #[.val (.int p1), .val (.int p2), .val (.int p3), .val (.int p4), .val (.long p5), .second, .val (.int v4), .val (.int (0 : Int32)), .val (.int (0 : Int32)), .val (.int v41), .val .null, .val (.int v195), .val (.int v202), .val .null, .val (.int (-1 : Int32)), .val (.int (-1 : Int32)), .val (.int (0 : Int32)), .val (.int v334), .val (.long v355), .second, .val (.ref b2), .unset, .unset, .unset, .unset] [(.long v355), (.ref b2)]))
          obtain ⟨cq6, kq6, qa6, qb6, qc6⟩ := isOf hZ rfl p4_0
          obtain ⟨_, _, ⟨T6, zL6, zk6, zn6⟩, -, X6, ⟨Lc6, hQ6, zl6, zy6, zz6⟩, st6⟩ := X4.virtualBack hx (y := (⟨"com/example/hike/hike/Proximity$Group", "at", "(J)I"⟩ : MethodName)) (z := (⟨"com/example/hike/hike/Proximity$Group", "at", "(J)I"⟩ : MethodName)) hown (mvT hZ (hw _ (List.mem_of_getElem? (i := 33) rfl))) (mvT hZ (hw _ (List.mem_of_getElem? (i := 34) rfl))) (notFace_of_selects (args := #[]) (mvT hZ (hw _ (List.mem_of_getElem? (i := 36) rfl)))) (mvT hZ (hw _ (List.mem_of_getElem? (i := 36) rfl))) (mvT hZ (hw _ (List.mem_of_getElem? (i := 35) rfl))) (by decide) (backOf (W := 0) (rm5_n0 l Z a0 hw [] b2 v355 v195 v202 T4.heap n0 (Nat.le_trans Z0 K4.1) p4_4 p4_2 p4_3 p4_5 p4_1) hZ (hw _ (List.mem_of_getElem? (i := 37) rfl)) (hw _ (List.mem_of_getElem? (i := 9) rfl)) (by decide) (by decide)) qa6 qc6 (g := (mkF m 381 #[.val (.int p1), .val (.int p2), .val (.int p3), .val (.int p4), .val (.long p5), .second, .val (.int v4), .val (.int (0 : Int32)), .val (.int (0 : Int32)), .val (.int v41), .val .null, .val (.int v195), .val (.int v202), .val .null, .val (.int (-1 : Int32)), .val (.int (-1 : Int32)), .val (.int (0 : Int32)), .val (.int v334), .val (.long v355), .second, .val (.ref b2), .unset, .unset, .unset, .unset] [(.long v355), (.ref b2)])) rfl (by rw [hml]; rfl) (Steps.refl _) (argsL := [(.long v355)]) (rest := []) (lenOf pd_3 rfl) rfl (by show 2 * 0 + _ ≤ _; exact Nat.le_of_eq rfl) (hb hby at_381) (fun _ _ => ⟨rfl, rfl, (by decide : 1 + 0 ≤ _), (by decide : 6 + 0 ≤ _)⟩)
          dsimp only [Pt.U, Pt.locs, Pt.cells, Pt.slots] at X6 zl6 zy6 zz6 st6 hQ6
          subst zl6 zy6 zz6
          obtain ⟨rfl, Nq6, hh6⟩ := hQ6
          have N6 := Fr.app N4 Nq6
          refine GoW.st (fun t k => st6.trans k) ?_
          show GoW p e below QQ (T6.setTop (mkF m 384 #[.val (.int p1), .val (.int p2), .val (.int p3), .val (.int p4), .val (.long p5), .second, .val (.int v4), .val (.int (0 : Int32)), .val (.int (0 : Int32)), .val (.int v41), .val .null, .val (.int v195), .val (.int v202), .val .null, .val (.int (-1 : Int32)), .val (.int (-1 : Int32)), .val (.int (0 : Int32)), .val (.int v334), .val (.long v355), .second, .val (.ref b2), .unset, .unset, .unset, .unset] [(.int (((v195.toInt64 + v355) - (1 : Int64)).toInt32))]))
          refine GoW.st (fun t k => XS.istore X6.here hx rfl (hb hby at_384) rfl (l' := #[.val (.int p1), .val (.int p2), .val (.int p3), .val (.int p4), .val (.long p5), .second, .val (.int v4), .val (.int (0 : Int32)), .val (.int (0 : Int32)), .val (.int v41), .val .null, .val (.int v195), .val (.int v202), .val .null, .val (.int (-1 : Int32)), .val (.int (-1 : Int32)), .val (.int (0 : Int32)), .val (.int v334), .val (.long v355), .second, .val (.ref b2), .val (.int (((v195.toInt64 + v355) - (1 : Int64)).toInt32)), .unset, .unset, .unset]) rfl k) ?_
          show GoW p e below QQ (T6.setTop (mkF m 386 #[.val (.int p1), .val (.int p2), .val (.int p3), .val (.int p4), .val (.long p5), .second, .val (.int v4), .val (.int (0 : Int32)), .val (.int (0 : Int32)), .val (.int v41), .val .null, .val (.int v195), .val (.int v202), .val .null, .val (.int (-1 : Int32)), .val (.int (-1 : Int32)), .val (.int (0 : Int32)), .val (.int v334), .val (.long v355), .second, .val (.ref b2), .val (.int (((v195.toInt64 + v355) - (1 : Int64)).toInt32)), .unset, .unset, .unset] []))
          generalize hv384 : (((v195.toInt64 + v355) - (1 : Int64)).toInt32) = v384
          rw [hv384] at ix
          refine GoW.st (fun t k => XS.iload X6.here hx rfl (hb hby at_386) rfl k) ?_
          show GoW p e below QQ (T6.setTop (mkF m 388 #[.val (.int p1), .val (.int p2), .val (.int p3), .val (.int p4), .val (.long p5), .second, .val (.int v4), .val (.int (0 : Int32)), .val (.int (0 : Int32)), .val (.int v41), .val .null, .val (.int v195), .val (.int v202), .val .null, .val (.int (-1 : Int32)), .val (.int (-1 : Int32)), .val (.int (0 : Int32)), .val (.int v334), .val (.long v355), .second, .val (.ref b2), .val (.int v384), .unset, .unset, .unset] [(.int (0 : Int32))]))
          have hc388 : (0 : Int32) = (0 : Int32) := by decide
          refine GoW.st (fun t k => XS.ifYes X6.here hx rfl (pc0 := 388) (pc' := 478) rfl (hb hby at_388) rfl ((if0 _ _).trans (teq hc388).1) (by decide) (by decide) (XS.iload X6.here hx rfl (hb hby at_478) rfl (XS.iload X6.here hx rfl (hb hby at_480) rfl k))) ?_
          show GoW p e below QQ (T6.setTop (mkF m 482 #[.val (.int p1), .val (.int p2), .val (.int p3), .val (.int p4), .val (.long p5), .second, .val (.int v4), .val (.int (0 : Int32)), .val (.int (0 : Int32)), .val (.int v41), .val .null, .val (.int v195), .val (.int v202), .val .null, .val (.int (-1 : Int32)), .val (.int (-1 : Int32)), .val (.int (0 : Int32)), .val (.int v334), .val (.long v355), .second, .val (.ref b2), .val (.int v384), .unset, .unset, .unset] [(.int v195), (.int v384)]))
          have hc482 : ¬ (v384 < v195) := by
            exact own_nlt_of (by omega)
          refine GoW.st (fun t k => XS.icmpNo X6.here hx rfl (hb hby at_482) rfl (flt hc482).1 k) ?_
          show GoW p e below QQ (T6.setTop (mkF m 485 #[.val (.int p1), .val (.int p2), .val (.int p3), .val (.int p4), .val (.long p5), .second, .val (.int v4), .val (.int (0 : Int32)), .val (.int (0 : Int32)), .val (.int v41), .val .null, .val (.int v195), .val (.int v202), .val .null, .val (.int (-1 : Int32)), .val (.int (-1 : Int32)), .val (.int (0 : Int32)), .val (.int v334), .val (.long v355), .second, .val (.ref b2), .val (.int v384), .unset, .unset, .unset] []))
          have hi482 : ¬ (v384.toInt < v195.toInt) := (fun q => hc482 (Int32.lt_iff_toInt_lt.mpr q))
          refine GoW.st (fun t k => XS.iload X6.here hx rfl (hb hby at_485) rfl (XS.iload X6.here hx rfl (hb hby at_487) rfl k)) ?_
          show GoW p e below QQ (T6.setTop (mkF m 489 #[.val (.int p1), .val (.int p2), .val (.int p3), .val (.int p4), .val (.long p5), .second, .val (.int v4), .val (.int (0 : Int32)), .val (.int (0 : Int32)), .val (.int v41), .val .null, .val (.int v195), .val (.int v202), .val .null, .val (.int (-1 : Int32)), .val (.int (-1 : Int32)), .val (.int (0 : Int32)), .val (.int v334), .val (.long v355), .second, .val (.ref b2), .val (.int v384), .unset, .unset, .unset] [(.int v202), (.int v384)]))
          have hc489 : v384 < v202 := by
            exact own_lt_of (by omega)
          refine GoW.st (fun t k => XS.icmpNo X6.here hx rfl (hb hby at_489) rfl (tlt hc489).2.1 k) ?_
          show GoW p e below QQ (T6.setTop (mkF m 492 #[.val (.int p1), .val (.int p2), .val (.int p3), .val (.int p4), .val (.long p5), .second, .val (.int v4), .val (.int (0 : Int32)), .val (.int (0 : Int32)), .val (.int v41), .val .null, .val (.int v195), .val (.int v202), .val .null, .val (.int (-1 : Int32)), .val (.int (-1 : Int32)), .val (.int (0 : Int32)), .val (.int v334), .val (.long v355), .second, .val (.ref b2), .val (.int v384), .unset, .unset, .unset] []))
          have hi489 : v384.toInt < v202.toInt := (Int32.lt_iff_toInt_lt.mp hc489)
          refine GoW.st (fun t k => XS.iload X6.here hx rfl (hb hby at_492) rfl (XS.iload X6.here hx rfl (hb hby at_494) rfl k)) ?_
          show GoW p e below QQ (T6.setTop (mkF m 496 #[.val (.int p1), .val (.int p2), .val (.int p3), .val (.int p4), .val (.long p5), .second, .val (.int v4), .val (.int (0 : Int32)), .val (.int (0 : Int32)), .val (.int v41), .val .null, .val (.int v195), .val (.int v202), .val .null, .val (.int (-1 : Int32)), .val (.int (-1 : Int32)), .val (.int (0 : Int32)), .val (.int v334), .val (.long v355), .second, .val (.ref b2), .val (.int v384), .unset, .unset, .unset] [(.int (-1 : Int32)), (.int v384)]))
          have hc496 : ¬ (v384 = (-1 : Int32)) := by
            exact own_ne_of (by omega)
          refine GoW.st (fun t k => XS.icmpNo X6.here hx rfl (hb hby at_496) rfl (feq hc496).1 k) ?_
          show GoW p e below QQ (T6.setTop (mkF m 499 #[.val (.int p1), .val (.int p2), .val (.int p3), .val (.int p4), .val (.long p5), .second, .val (.int v4), .val (.int (0 : Int32)), .val (.int (0 : Int32)), .val (.int v41), .val .null, .val (.int v195), .val (.int v202), .val .null, .val (.int (-1 : Int32)), .val (.int (-1 : Int32)), .val (.int (0 : Int32)), .val (.int v334), .val (.long v355), .second, .val (.ref b2), .val (.int v384), .unset, .unset, .unset] []))
          have hi496 : ¬ (v384.toInt = -1) := (fun q => hc496 (Int32.toInt_inj.mp q))
          refine GoW.st (fun t k => XS.iload X6.here hx rfl (hb hby at_499) rfl (XS.iload X6.here hx rfl (hb hby at_501) rfl k)) ?_
          show GoW p e below QQ (T6.setTop (mkF m 503 #[.val (.int p1), .val (.int p2), .val (.int p3), .val (.int p4), .val (.long p5), .second, .val (.int v4), .val (.int (0 : Int32)), .val (.int (0 : Int32)), .val (.int v41), .val .null, .val (.int v195), .val (.int v202), .val .null, .val (.int (-1 : Int32)), .val (.int (-1 : Int32)), .val (.int (0 : Int32)), .val (.int v334), .val (.long v355), .second, .val (.ref b2), .val (.int v384), .unset, .unset, .unset] [(.int (-1 : Int32)), (.int v384)]))
          have hc503 : ¬ (v384 = (-1 : Int32)) := by
            exact own_ne_of (by omega)
          refine GoW.st (fun t k => XS.icmpYes X6.here hx rfl (pc0 := 503) (pc' := 508) rfl (hb hby at_503) rfl (feq hc503).2 (by decide) (by decide) k) ?_
          show GoW p e below QQ (T6.setTop (mkF m 508 #[.val (.int p1), .val (.int p2), .val (.int p3), .val (.int p4), .val (.long p5), .second, .val (.int v4), .val (.int (0 : Int32)), .val (.int (0 : Int32)), .val (.int v41), .val .null, .val (.int v195), .val (.int v202), .val .null, .val (.int (-1 : Int32)), .val (.int (-1 : Int32)), .val (.int (0 : Int32)), .val (.int v334), .val (.long v355), .second, .val (.ref b2), .val (.int v384), .unset, .unset, .unset] []))
          have hi503 : ¬ (v384.toInt = -1) := (fun q => hc503 (Int32.toInt_inj.mp q))
          refine GoW.st (fun t k => XS.iload X6.here hx rfl (hb hby at_508) rfl k) ?_
          show GoW p e below QQ (T6.setTop (mkF m 510 #[.val (.int p1), .val (.int p2), .val (.int p3), .val (.int p4), .val (.long p5), .second, .val (.int v4), .val (.int (0 : Int32)), .val (.int (0 : Int32)), .val (.int v41), .val .null, .val (.int v195), .val (.int v202), .val .null, .val (.int (-1 : Int32)), .val (.int (-1 : Int32)), .val (.int (0 : Int32)), .val (.int v334), .val (.long v355), .second, .val (.ref b2), .val (.int v384), .unset, .unset, .unset] [(.int (0 : Int32))]))
          have hc510 : (0 : Int32) = (0 : Int32) := by decide
          refine GoW.st (fun t k => XS.ifNo X6.here hx rfl (hb hby at_510) rfl ((if0 _ _).trans (teq hc510).2) (XS.iload X6.here hx rfl (hb hby at_513) rfl (XS.iload X6.here hx rfl (hb hby at_515) rfl (XS.isub X6.here hx rfl (hb hby at_517) rfl (XS.i2l X6.here hx rfl (hb hby at_518) rfl (XS.lload X6.here hx rfl (hb hby at_519) rfl k)))))) ?_
          show GoW p e below QQ (T6.setTop (mkF m 521 #[.val (.int p1), .val (.int p2), .val (.int p3), .val (.int p4), .val (.long p5), .second, .val (.int v4), .val (.int (0 : Int32)), .val (.int (0 : Int32)), .val (.int v41), .val .null, .val (.int v195), .val (.int v202), .val .null, .val (.int (-1 : Int32)), .val (.int (-1 : Int32)), .val (.int (0 : Int32)), .val (.int v334), .val (.long v355), .second, .val (.ref b2), .val (.int v384), .unset, .unset, .unset] [(.long v355), (.long ((v384 - v195).toInt64))]))
          refine GoW.st (fun t k => XS.lconst X6.here hx rfl (hb hby at_521) (XS.lsub X6.here hx rfl (hb hby at_522) rfl (XS.lcmp X6.here hx rfl (hb hby at_523) rfl k))) ?_
          show GoW p e below QQ (T6.setTop (mkF m 524 #[.val (.int p1), .val (.int p2), .val (.int p3), .val (.int p4), .val (.long p5), .second, .val (.int v4), .val (.int (0 : Int32)), .val (.int (0 : Int32)), .val (.int v41), .val .null, .val (.int v195), .val (.int v202), .val .null, .val (.int (-1 : Int32)), .val (.int (-1 : Int32)), .val (.int (0 : Int32)), .val (.int v334), .val (.long v355), .second, .val (.ref b2), .val (.int v384), .unset, .unset, .unset] [(.int (lcmpW ((v384 - v195).toInt64) (v355 - (1 : Int64))))]))
          have hc524 : ((v384 - v195).toInt64) = (v355 - (1 : Int64)) := by
            have zL1 : (1 : Int64).toInt = 1 := rfl
            have x4 := c_lsub v355 1
            have y4 := rng64 (v355 - 1)
            have x2 := c_isub v384 v195
            have y2 := rng32 (v384 - v195)
            have x3 := c_i2l (v384 - v195)
            apply own_eqL_of
            omega
          refine GoW.st (fun t k => XS.ifNo X6.here hx rfl (hb hby at_524) rfl ((if0 _ _).trans (teq ((lw_eq ((v384 - v195).toInt64) (v355 - (1 : Int64))).mpr hc524)).2) k) ?_
          show GoW p e below QQ (T6.setTop (mkF m 527 #[.val (.int p1), .val (.int p2), .val (.int p3), .val (.int p4), .val (.long p5), .second, .val (.int v4), .val (.int (0 : Int32)), .val (.int (0 : Int32)), .val (.int v41), .val .null, .val (.int v195), .val (.int v202), .val .null, .val (.int (-1 : Int32)), .val (.int (-1 : Int32)), .val (.int (0 : Int32)), .val (.int v334), .val (.long v355), .second, .val (.ref b2), .val (.int v384), .unset, .unset, .unset] []))
          have hi524 : (((v384 - v195).toInt64)).toInt = ((v355 - (1 : Int64))).toInt := (congrArg Int64.toInt hc524)
          refine GoW.st (fun t k => XS.iconst X6.here hx rfl (hb hby at_527) (XS.goto X6.here hx rfl (pc0 := 528) (pc' := 532) rfl (hb hby at_528) (by decide) (by decide) k)) ?_
          show GoW p e below QQ (T6.setTop (mkF m 532 #[.val (.int p1), .val (.int p2), .val (.int p3), .val (.int p4), .val (.long p5), .second, .val (.int v4), .val (.int (0 : Int32)), .val (.int (0 : Int32)), .val (.int v41), .val .null, .val (.int v195), .val (.int v202), .val .null, .val (.int (-1 : Int32)), .val (.int (-1 : Int32)), .val (.int (0 : Int32)), .val (.int v334), .val (.long v355), .second, .val (.ref b2), .val (.int v384), .unset, .unset, .unset] [(.int (1 : Int32))]))
          exact GoW.fin X6 (some (.int (nar .boolean (1 : Int32)))) (fun q => by rw [hret] at q; cases q) hlk hQ hh6 ⟨rfl, N6⟩ (by decide) (by decide) (fun fs hr => retN X6 hx (t := .boolean) hret (by simp) (hb hby at_532) hr)
        · skip
          refine GoW.st (fun t k => XS.ifNo X1.here hx rfl (hb hby at_338) rfl ((if0 _ _).trans (flt hc338).2.2.1) k) ?_
          show GoW p e below QQ (T1.setTop (mkF m 341 #[.val (.int p1), .val (.int p2), .val (.int p3), .val (.int p4), .val (.long p5), .second, .val (.int v4), .val (.int (0 : Int32)), .val (.int (0 : Int32)), .val (.int v41), .val .null, .val (.int v195), .val (.int v202), .val .null, .val (.int (-1 : Int32)), .val (.int (-1 : Int32)), .val (.int (0 : Int32)), .val (.int v334), .unset, .unset, .unset, .unset, .unset, .unset, .unset] []))
          have hi338 : ¬ (0 < v334.toInt) := (fun q => hc338 (Int32.lt_iff_toInt_lt.mpr q))
          refine GoW.st (fun t k => XS.iconst X1.here hx rfl (hb hby at_341) k) ?_
          show GoW p e below QQ (T1.setTop (mkF m 342 #[.val (.int p1), .val (.int p2), .val (.int p3), .val (.int p4), .val (.long p5), .second, .val (.int v4), .val (.int (0 : Int32)), .val (.int (0 : Int32)), .val (.int v41), .val .null, .val (.int v195), .val (.int v202), .val .null, .val (.int (-1 : Int32)), .val (.int (-1 : Int32)), .val (.int (0 : Int32)), .val (.int v334), .unset, .unset, .unset, .unset, .unset, .unset, .unset] [(.int (1 : Int32))]))
          exact GoW.fin X1 (some (.int (nar .boolean (1 : Int32)))) (fun q => by rw [hret] at q; cases q) hlk hQ hh1 ⟨rfl, N1⟩ (by decide) (by decide) (fun fs hr => retN X1 hx (t := .boolean) hret (by simp) (hb hby at_342) hr)
    · skip
      refine GoW.st (fun t k => XS.ifNo X0.here hx rfl (hb hby at_26) rfl ((if0 _ _).trans (feq hc26).1) k) ?_
      show GoW p e below QQ (T0.setTop (mkF m 29 #[.val (.int p1), .val (.int p2), .val (.int p3), .val (.int p4), .val (.long p5), .second, .val (.int v4), .val (.int (0 : Int32)), .unset, .unset, .unset, .unset, .unset, .unset, .unset, .unset, .unset, .unset, .unset, .unset, .unset, .unset, .unset, .unset, .unset] []))
      have hi26 : ¬ ((((p2 >>> ((4 : Int32) &&& 31)) &&& (1 : Int32))).toInt = 0) := (fun q => hc26 (Int32.toInt_inj.mp q))
      refine GoW.st (fun t k => XS.iconst X0.here hx rfl (hb hby at_29) (XS.goto X0.here hx rfl (pc0 := 30) (pc' := 34) rfl (hb hby at_30) (by decide) (by decide) (XS.istore X0.here hx rfl (hb hby at_34) rfl (l' := #[.val (.int p1), .val (.int p2), .val (.int p3), .val (.int p4), .val (.long p5), .second, .val (.int v4), .val (.int (0 : Int32)), .val (.int (1 : Int32)), .unset, .unset, .unset, .unset, .unset, .unset, .unset, .unset, .unset, .unset, .unset, .unset, .unset, .unset, .unset, .unset]) rfl (XS.iloadN X0.here hx rfl (hb hby at_36) rfl (XS.iconst X0.here hx rfl (hb hby at_37) (XS.ishr X0.here hx rfl (hb hby at_38) rfl k)))))) ?_
      show GoW p e below QQ (T0.setTop (mkF m 39 #[.val (.int p1), .val (.int p2), .val (.int p3), .val (.int p4), .val (.long p5), .second, .val (.int v4), .val (.int (0 : Int32)), .val (.int (1 : Int32)), .unset, .unset, .unset, .unset, .unset, .unset, .unset, .unset, .unset, .unset, .unset, .unset, .unset, .unset, .unset, .unset] [(.int (p2 >>> ((5 : Int32) &&& 31)))]))
      refine GoW.st (fun t k => XS.iconst X0.here hx rfl (hb hby at_39) (XS.iand X0.here hx rfl (hb hby at_40) rfl (XS.istore X0.here hx rfl (hb hby at_41) rfl (l' := #[.val (.int p1), .val (.int p2), .val (.int p3), .val (.int p4), .val (.long p5), .second, .val (.int v4), .val (.int (0 : Int32)), .val (.int (1 : Int32)), .val (.int ((p2 >>> ((5 : Int32) &&& 31)) &&& (3 : Int32))), .unset, .unset, .unset, .unset, .unset, .unset, .unset, .unset, .unset, .unset, .unset, .unset, .unset, .unset, .unset]) rfl k))) ?_
      show GoW p e below QQ (T0.setTop (mkF m 43 #[.val (.int p1), .val (.int p2), .val (.int p3), .val (.int p4), .val (.long p5), .second, .val (.int v4), .val (.int (0 : Int32)), .val (.int (1 : Int32)), .val (.int ((p2 >>> ((5 : Int32) &&& 31)) &&& (3 : Int32))), .unset, .unset, .unset, .unset, .unset, .unset, .unset, .unset, .unset, .unset, .unset, .unset, .unset, .unset, .unset] []))
      generalize hv41 : ((p2 >>> ((5 : Int32) &&& 31)) &&& (3 : Int32)) = v41
      have z0 : (0 : Int32).toInt = 0 := rfl
      have z128 : (128 : Int32).toInt = 128 := rfl
      have zm1 : (-1 : Int32).toInt = -1 := rfl
      have z8 : (8 : Int32).toInt = 8 := rfl
      have z9 : (9 : Int32).toInt = 9 := rfl
      have z2147483631 : (2147483631 : Int32).toInt = 2147483631 := rfl
      have m4 := c_mask p2 7 3 (by decide) rfl
      rw [hv4] at m4
      refine GoW.st (fun t k => XS.iload X0.here hx rfl (hb hby at_43) rfl k) ?_
      show GoW p e below QQ (T0.setTop (mkF m 45 #[.val (.int p1), .val (.int p2), .val (.int p3), .val (.int p4), .val (.long p5), .second, .val (.int v4), .val (.int (0 : Int32)), .val (.int (1 : Int32)), .val (.int v41), .unset, .unset, .unset, .unset, .unset, .unset, .unset, .unset, .unset, .unset, .unset, .unset, .unset, .unset, .unset] [(.int v4)]))
      by_cases hc45 : v4 = (0 : Int32)
      · skip
        refine GoW.st (fun t k => XS.ifNo X0.here hx rfl (hb hby at_45) rfl ((if0 _ _).trans (teq hc45).2) k) ?_
        show GoW p e below QQ (T0.setTop (mkF m 48 #[.val (.int p1), .val (.int p2), .val (.int p3), .val (.int p4), .val (.long p5), .second, .val (.int v4), .val (.int (0 : Int32)), .val (.int (1 : Int32)), .val (.int v41), .unset, .unset, .unset, .unset, .unset, .unset, .unset, .unset, .unset, .unset, .unset, .unset, .unset, .unset, .unset] []))
        have hi45 : v4.toInt = 0 := (congrArg Int32.toInt hc45)
        refine GoW.st (fun t k => XS.iconst X0.here hx rfl (hb hby at_48) k) ?_
        show GoW p e below QQ (T0.setTop (mkF m 49 #[.val (.int p1), .val (.int p2), .val (.int p3), .val (.int p4), .val (.long p5), .second, .val (.int v4), .val (.int (0 : Int32)), .val (.int (1 : Int32)), .val (.int v41), .unset, .unset, .unset, .unset, .unset, .unset, .unset, .unset, .unset, .unset, .unset, .unset, .unset, .unset, .unset] [(.int (1 : Int32))]))
        exact GoW.fin X0 (some (.int (nar .boolean (1 : Int32)))) (fun q => by rw [hret] at q; cases q) hlk hQ e0 ⟨rfl, N0⟩ (by decide) (by decide) (fun fs hr => retN X0 hx (t := .boolean) hret (by simp) (hb hby at_49) hr)
      · skip
        refine GoW.st (fun t k => XS.ifYes X0.here hx rfl (pc0 := 45) (pc' := 50) rfl (hb hby at_45) rfl ((if0 _ _).trans (feq hc45).2) (by decide) (by decide) k) ?_
        show GoW p e below QQ (T0.setTop (mkF m 50 #[.val (.int p1), .val (.int p2), .val (.int p3), .val (.int p4), .val (.long p5), .second, .val (.int v4), .val (.int (0 : Int32)), .val (.int (1 : Int32)), .val (.int v41), .unset, .unset, .unset, .unset, .unset, .unset, .unset, .unset, .unset, .unset, .unset, .unset, .unset, .unset, .unset] []))
        have hi45 : ¬ (v4.toInt = 0) := (fun q => hc45 (Int32.toInt_inj.mp q))
        refine GoW.st (fun t k => XS.aconstNull X0.here hx rfl (hb hby at_50) (XS.astore X0.here hx rfl (hb hby at_51) rfl rfl (l' := #[.val (.int p1), .val (.int p2), .val (.int p3), .val (.int p4), .val (.long p5), .second, .val (.int v4), .val (.int (0 : Int32)), .val (.int (1 : Int32)), .val (.int v41), .val .null, .unset, .unset, .unset, .unset, .unset, .unset, .unset, .unset, .unset, .unset, .unset, .unset, .unset, .unset]) rfl (XS.iload X0.here hx rfl (hb hby at_53) rfl k))) ?_
        show GoW p e below QQ (T0.setTop (mkF m 55 #[.val (.int p1), .val (.int p2), .val (.int p3), .val (.int p4), .val (.long p5), .second, .val (.int v4), .val (.int (0 : Int32)), .val (.int (1 : Int32)), .val (.int v41), .val .null, .unset, .unset, .unset, .unset, .unset, .unset, .unset, .unset, .unset, .unset, .unset, .unset, .unset, .unset] [(.int (1 : Int32))]))
        have hc55 : ¬ ((1 : Int32) = (0 : Int32)) := by decide
        refine GoW.st (fun t k => XS.ifNo X0.here hx rfl (hb hby at_55) rfl ((if0 _ _).trans (feq hc55).1) (XS.bipush X0.here hx rfl (hb hby at_58) k)) ?_
        show GoW p e below QQ (T0.setTop (mkF m 60 #[.val (.int p1), .val (.int p2), .val (.int p3), .val (.int p4), .val (.long p5), .second, .val (.int v4), .val (.int (0 : Int32)), .val (.int (1 : Int32)), .val (.int v41), .val .null, .unset, .unset, .unset, .unset, .unset, .unset, .unset, .unset, .unset, .unset, .unset, .unset, .unset, .unset] [(.int (8 : Int32))]))
        obtain ⟨T7, h7, k7, X7, e7, E7, A7, st7⟩ := newP X0 hx hZ (hw _ (List.mem_of_getElem? (i := 38) rfl)) e0 (g := (mkF m 60 #[.val (.int p1), .val (.int p2), .val (.int p3), .val (.int p4), .val (.long p5), .second, .val (.int v4), .val (.int (0 : Int32)), .val (.int (1 : Int32)), .val (.int v41), .val .null, .unset, .unset, .unset, .unset, .unset, .unset, .unset, .unset, .unset, .unset, .unset, .unset, .unset, .unset] [(.int (8 : Int32))])) rfl (hb hby at_60) rfl (by decide) (cap := 8) (by decide) (by decide) (by decide) (by decide)
        obtain ⟨b7, g7⟩ : ∃ z, z = h0.size := ⟨_, rfl⟩
        rw [← g7] at A7 st7
        refine GoW.st st7 ?_
        have gg7 : n0 ≤ b7 := Nat.le_trans (Nat.le_trans Z0 K0.1) (Nat.le_of_eq g7.symm)
        have sz7 : h0.size ≤ b7 := Nat.le_trans K0.1 (Nat.le_of_eq g7.symm)
        have K7 : Keep h0 h7 [] := K0.ext E7
        have V7 : Arv Z h7 b7 k7 .int (8 : Int32) [(.int (0 : Int32)), (.int (0 : Int32)), (.int (0 : Int32)), (.int (0 : Int32)), (.int (0 : Int32)), (.int (0 : Int32)), (.int (0 : Int32)), (.int (0 : Int32))] (.int (0 : Int32)) := (Arv.new A7 (by decide)).pad (pad_rep [] (.int (0 : Int32)) 8)
        show GoW p e below QQ (T7.setTop (mkF m 62 #[.val (.int p1), .val (.int p2), .val (.int p3), .val (.int p4), .val (.long p5), .second, .val (.int v4), .val (.int (0 : Int32)), .val (.int (1 : Int32)), .val (.int v41), .val .null, .unset, .unset, .unset, .unset, .unset, .unset, .unset, .unset, .unset, .unset, .unset, .unset, .unset, .unset] [(.ref b7)]))
        refine GoW.st (fun t k => XS.astore X7.here hx rfl (hb hby at_62) rfl rfl (l' := #[.val (.int p1), .val (.int p2), .val (.int p3), .val (.int p4), .val (.long p5), .second, .val (.int v4), .val (.int (0 : Int32)), .val (.int (1 : Int32)), .val (.int v41), .val (.ref b7), .unset, .unset, .unset, .unset, .unset, .unset, .unset, .unset, .unset, .unset, .unset, .unset, .unset, .unset]) rfl (XS.aload X7.here hx rfl (hb hby at_64) rfl rfl (XS.iconst X7.here hx rfl (hb hby at_66) (XS.iloadN X7.here hx rfl (hb hby at_67) rfl (XS.bipush X7.here hx rfl (hb hby at_68) (XS.iand X7.here hx rfl (hb hby at_70) rfl k)))))) ?_
        show GoW p e below QQ (T7.setTop (mkF m 71 #[.val (.int p1), .val (.int p2), .val (.int p3), .val (.int p4), .val (.long p5), .second, .val (.int v4), .val (.int (0 : Int32)), .val (.int (1 : Int32)), .val (.int v41), .val (.ref b7), .unset, .unset, .unset, .unset, .unset, .unset, .unset, .unset, .unset, .unset, .unset, .unset, .unset, .unset] [(.int (p4 &&& (15 : Int32))), (.int (0 : Int32)), (.ref b7)]))
        obtain ⟨T9, h9, X9, e9, W9, V9, st9⟩ := stVI X7 hx hZ e7 V7 ⟨by decide, by decide⟩ 0 rfl (Nat.le_of_ble_eq_true rfl) (g := (mkF m 71 #[.val (.int p1), .val (.int p2), .val (.int p3), .val (.int p4), .val (.long p5), .second, .val (.int v4), .val (.int (0 : Int32)), .val (.int (1 : Int32)), .val (.int v41), .val (.ref b7), .unset, .unset, .unset, .unset, .unset, .unset, .unset, .unset, .unset, .unset, .unset, .unset, .unset, .unset] [(.int (p4 &&& (15 : Int32))), (.int (0 : Int32)), (.ref b7)])) rfl rfl (hb hby at_71)
        refine GoW.st st9 ?_
        have f10_V_b7 : Arv Z h9 b7 k7 .int (8 : Int32) [(.int (p4 &&& (15 : Int32))), (.int (0 : Int32)), (.int (0 : Int32)), (.int (0 : Int32)), (.int (0 : Int32)), (.int (0 : Int32)), (.int (0 : Int32)), (.int (0 : Int32))] (.int (0 : Int32)) := V9
        have K9 : Keep h0 h9 [] := K7.wr W9 (Or.inr sz7)
        have N9 := Fr.snoc X9 N0 gg7
        show GoW p e below QQ (T9.setTop (mkF m 72 #[.val (.int p1), .val (.int p2), .val (.int p3), .val (.int p4), .val (.long p5), .second, .val (.int v4), .val (.int (0 : Int32)), .val (.int (1 : Int32)), .val (.int v41), .val (.ref b7), .unset, .unset, .unset, .unset, .unset, .unset, .unset, .unset, .unset, .unset, .unset, .unset, .unset, .unset] []))
        refine GoW.st (fun t k => XS.aload X9.here hx rfl (hb hby at_72) rfl rfl (XS.iconst X9.here hx rfl (hb hby at_74) (XS.iloadN X9.here hx rfl (hb hby at_75) rfl (XS.iconst X9.here hx rfl (hb hby at_76) (XS.iushr X9.here hx rfl (hb hby at_77) rfl (XS.bipush X9.here hx rfl (hb hby at_78) k)))))) ?_
        show GoW p e below QQ (T9.setTop (mkF m 80 #[.val (.int p1), .val (.int p2), .val (.int p3), .val (.int p4), .val (.long p5), .second, .val (.int v4), .val (.int (0 : Int32)), .val (.int (1 : Int32)), .val (.int v41), .val (.ref b7), .unset, .unset, .unset, .unset, .unset, .unset, .unset, .unset, .unset, .unset, .unset, .unset, .unset, .unset] [(.int (15 : Int32)), (.int ((p4.toUInt32 >>> ((4 : Int32) &&& 31).toUInt32).toInt32)), (.int (1 : Int32)), (.ref b7)]))
        refine GoW.st (fun t k => XS.iand X9.here hx rfl (hb hby at_80) rfl (XS.bipush X9.here hx rfl (hb hby at_81) (XS.iadd X9.here hx rfl (hb hby at_83) rfl k))) ?_
        show GoW p e below QQ (T9.setTop (mkF m 84 #[.val (.int p1), .val (.int p2), .val (.int p3), .val (.int p4), .val (.long p5), .second, .val (.int v4), .val (.int (0 : Int32)), .val (.int (1 : Int32)), .val (.int v41), .val (.ref b7), .unset, .unset, .unset, .unset, .unset, .unset, .unset, .unset, .unset, .unset, .unset, .unset, .unset, .unset] [(.int ((((p4.toUInt32 >>> ((4 : Int32) &&& 31).toUInt32).toInt32) &&& (15 : Int32)) + (16 : Int32))), (.int (1 : Int32)), (.ref b7)]))
        obtain ⟨T11, h11, X11, e11, W11, V11, st11⟩ := stVI X9 hx hZ e9 f10_V_b7 ⟨by decide, by decide⟩ 1 rfl (Nat.le_of_ble_eq_true rfl) (g := (mkF m 84 #[.val (.int p1), .val (.int p2), .val (.int p3), .val (.int p4), .val (.long p5), .second, .val (.int v4), .val (.int (0 : Int32)), .val (.int (1 : Int32)), .val (.int v41), .val (.ref b7), .unset, .unset, .unset, .unset, .unset, .unset, .unset, .unset, .unset, .unset, .unset, .unset, .unset, .unset] [(.int ((((p4.toUInt32 >>> ((4 : Int32) &&& 31).toUInt32).toInt32) &&& (15 : Int32)) + (16 : Int32))), (.int (1 : Int32)), (.ref b7)])) rfl rfl (hb hby at_84)
        refine GoW.st st11 ?_
        have f12_V_b7 : Arv Z h11 b7 k7 .int (8 : Int32) [(.int (p4 &&& (15 : Int32))), (.int ((((p4.toUInt32 >>> ((4 : Int32) &&& 31).toUInt32).toInt32) &&& (15 : Int32)) + (16 : Int32))), (.int (0 : Int32)), (.int (0 : Int32)), (.int (0 : Int32)), (.int (0 : Int32)), (.int (0 : Int32)), (.int (0 : Int32))] (.int (0 : Int32)) := V11
        have K11 : Keep h0 h11 [] := K9.wr W11 (Or.inr sz7)
        have N11 := Fr.snoc X11 N9 gg7
        show GoW p e below QQ (T11.setTop (mkF m 85 #[.val (.int p1), .val (.int p2), .val (.int p3), .val (.int p4), .val (.long p5), .second, .val (.int v4), .val (.int (0 : Int32)), .val (.int (1 : Int32)), .val (.int v41), .val (.ref b7), .unset, .unset, .unset, .unset, .unset, .unset, .unset, .unset, .unset, .unset, .unset, .unset, .unset, .unset] []))
        refine GoW.st (fun t k => XS.aload X11.here hx rfl (hb hby at_85) rfl rfl (XS.iconst X11.here hx rfl (hb hby at_87) (XS.iloadN X11.here hx rfl (hb hby at_88) rfl (XS.bipush X11.here hx rfl (hb hby at_89) (XS.iushr X11.here hx rfl (hb hby at_91) rfl (XS.bipush X11.here hx rfl (hb hby at_92) k)))))) ?_
        show GoW p e below QQ (T11.setTop (mkF m 94 #[.val (.int p1), .val (.int p2), .val (.int p3), .val (.int p4), .val (.long p5), .second, .val (.int v4), .val (.int (0 : Int32)), .val (.int (1 : Int32)), .val (.int v41), .val (.ref b7), .unset, .unset, .unset, .unset, .unset, .unset, .unset, .unset, .unset, .unset, .unset, .unset, .unset, .unset] [(.int (15 : Int32)), (.int ((p4.toUInt32 >>> ((8 : Int32) &&& 31).toUInt32).toInt32)), (.int (2 : Int32)), (.ref b7)]))
        refine GoW.st (fun t k => XS.iand X11.here hx rfl (hb hby at_94) rfl (XS.bipush X11.here hx rfl (hb hby at_95) (XS.iadd X11.here hx rfl (hb hby at_97) rfl k))) ?_
        show GoW p e below QQ (T11.setTop (mkF m 98 #[.val (.int p1), .val (.int p2), .val (.int p3), .val (.int p4), .val (.long p5), .second, .val (.int v4), .val (.int (0 : Int32)), .val (.int (1 : Int32)), .val (.int v41), .val (.ref b7), .unset, .unset, .unset, .unset, .unset, .unset, .unset, .unset, .unset, .unset, .unset, .unset, .unset, .unset] [(.int ((((p4.toUInt32 >>> ((8 : Int32) &&& 31).toUInt32).toInt32) &&& (15 : Int32)) + (32 : Int32))), (.int (2 : Int32)), (.ref b7)]))
        obtain ⟨T13, h13, X13, e13, W13, V13, st13⟩ := stVI X11 hx hZ e11 f12_V_b7 ⟨by decide, by decide⟩ 2 rfl (Nat.le_of_ble_eq_true rfl) (g := (mkF m 98 #[.val (.int p1), .val (.int p2), .val (.int p3), .val (.int p4), .val (.long p5), .second, .val (.int v4), .val (.int (0 : Int32)), .val (.int (1 : Int32)), .val (.int v41), .val (.ref b7), .unset, .unset, .unset, .unset, .unset, .unset, .unset, .unset, .unset, .unset, .unset, .unset, .unset, .unset] [(.int ((((p4.toUInt32 >>> ((8 : Int32) &&& 31).toUInt32).toInt32) &&& (15 : Int32)) + (32 : Int32))), (.int (2 : Int32)), (.ref b7)])) rfl rfl (hb hby at_98)
        refine GoW.st st13 ?_
        have f14_V_b7 : Arv Z h13 b7 k7 .int (8 : Int32) [(.int (p4 &&& (15 : Int32))), (.int ((((p4.toUInt32 >>> ((4 : Int32) &&& 31).toUInt32).toInt32) &&& (15 : Int32)) + (16 : Int32))), (.int ((((p4.toUInt32 >>> ((8 : Int32) &&& 31).toUInt32).toInt32) &&& (15 : Int32)) + (32 : Int32))), (.int (0 : Int32)), (.int (0 : Int32)), (.int (0 : Int32)), (.int (0 : Int32)), (.int (0 : Int32))] (.int (0 : Int32)) := V13
        have K13 : Keep h0 h13 [] := K11.wr W13 (Or.inr sz7)
        have N13 := Fr.snoc X13 N11 gg7
        show GoW p e below QQ (T13.setTop (mkF m 99 #[.val (.int p1), .val (.int p2), .val (.int p3), .val (.int p4), .val (.long p5), .second, .val (.int v4), .val (.int (0 : Int32)), .val (.int (1 : Int32)), .val (.int v41), .val (.ref b7), .unset, .unset, .unset, .unset, .unset, .unset, .unset, .unset, .unset, .unset, .unset, .unset, .unset, .unset] []))
        refine GoW.st (fun t k => XS.aload X13.here hx rfl (hb hby at_99) rfl rfl (XS.iconst X13.here hx rfl (hb hby at_101) (XS.iloadN X13.here hx rfl (hb hby at_102) rfl (XS.bipush X13.here hx rfl (hb hby at_103) (XS.iushr X13.here hx rfl (hb hby at_105) rfl (XS.bipush X13.here hx rfl (hb hby at_106) k)))))) ?_
        show GoW p e below QQ (T13.setTop (mkF m 108 #[.val (.int p1), .val (.int p2), .val (.int p3), .val (.int p4), .val (.long p5), .second, .val (.int v4), .val (.int (0 : Int32)), .val (.int (1 : Int32)), .val (.int v41), .val (.ref b7), .unset, .unset, .unset, .unset, .unset, .unset, .unset, .unset, .unset, .unset, .unset, .unset, .unset, .unset] [(.int (15 : Int32)), (.int ((p4.toUInt32 >>> ((12 : Int32) &&& 31).toUInt32).toInt32)), (.int (3 : Int32)), (.ref b7)]))
        refine GoW.st (fun t k => XS.iand X13.here hx rfl (hb hby at_108) rfl (XS.bipush X13.here hx rfl (hb hby at_109) (XS.iadd X13.here hx rfl (hb hby at_111) rfl k))) ?_
        show GoW p e below QQ (T13.setTop (mkF m 112 #[.val (.int p1), .val (.int p2), .val (.int p3), .val (.int p4), .val (.long p5), .second, .val (.int v4), .val (.int (0 : Int32)), .val (.int (1 : Int32)), .val (.int v41), .val (.ref b7), .unset, .unset, .unset, .unset, .unset, .unset, .unset, .unset, .unset, .unset, .unset, .unset, .unset, .unset] [(.int ((((p4.toUInt32 >>> ((12 : Int32) &&& 31).toUInt32).toInt32) &&& (15 : Int32)) + (48 : Int32))), (.int (3 : Int32)), (.ref b7)]))
        obtain ⟨T15, h15, X15, e15, W15, V15, st15⟩ := stVI X13 hx hZ e13 f14_V_b7 ⟨by decide, by decide⟩ 3 rfl (Nat.le_of_ble_eq_true rfl) (g := (mkF m 112 #[.val (.int p1), .val (.int p2), .val (.int p3), .val (.int p4), .val (.long p5), .second, .val (.int v4), .val (.int (0 : Int32)), .val (.int (1 : Int32)), .val (.int v41), .val (.ref b7), .unset, .unset, .unset, .unset, .unset, .unset, .unset, .unset, .unset, .unset, .unset, .unset, .unset, .unset] [(.int ((((p4.toUInt32 >>> ((12 : Int32) &&& 31).toUInt32).toInt32) &&& (15 : Int32)) + (48 : Int32))), (.int (3 : Int32)), (.ref b7)])) rfl rfl (hb hby at_112)
        refine GoW.st st15 ?_
        have f16_V_b7 : Arv Z h15 b7 k7 .int (8 : Int32) [(.int (p4 &&& (15 : Int32))), (.int ((((p4.toUInt32 >>> ((4 : Int32) &&& 31).toUInt32).toInt32) &&& (15 : Int32)) + (16 : Int32))), (.int ((((p4.toUInt32 >>> ((8 : Int32) &&& 31).toUInt32).toInt32) &&& (15 : Int32)) + (32 : Int32))), (.int ((((p4.toUInt32 >>> ((12 : Int32) &&& 31).toUInt32).toInt32) &&& (15 : Int32)) + (48 : Int32))), (.int (0 : Int32)), (.int (0 : Int32)), (.int (0 : Int32)), (.int (0 : Int32))] (.int (0 : Int32)) := V15
        have K15 : Keep h0 h15 [] := K13.wr W15 (Or.inr sz7)
        have N15 := Fr.snoc X15 N13 gg7
        show GoW p e below QQ (T15.setTop (mkF m 113 #[.val (.int p1), .val (.int p2), .val (.int p3), .val (.int p4), .val (.long p5), .second, .val (.int v4), .val (.int (0 : Int32)), .val (.int (1 : Int32)), .val (.int v41), .val (.ref b7), .unset, .unset, .unset, .unset, .unset, .unset, .unset, .unset, .unset, .unset, .unset, .unset, .unset, .unset] []))
        refine GoW.st (fun t k => XS.aload X15.here hx rfl (hb hby at_113) rfl rfl (XS.iconst X15.here hx rfl (hb hby at_115) (XS.iloadN X15.here hx rfl (hb hby at_116) rfl (XS.bipush X15.here hx rfl (hb hby at_117) (XS.iushr X15.here hx rfl (hb hby at_119) rfl (XS.bipush X15.here hx rfl (hb hby at_120) k)))))) ?_
        show GoW p e below QQ (T15.setTop (mkF m 122 #[.val (.int p1), .val (.int p2), .val (.int p3), .val (.int p4), .val (.long p5), .second, .val (.int v4), .val (.int (0 : Int32)), .val (.int (1 : Int32)), .val (.int v41), .val (.ref b7), .unset, .unset, .unset, .unset, .unset, .unset, .unset, .unset, .unset, .unset, .unset, .unset, .unset, .unset] [(.int (15 : Int32)), (.int ((p4.toUInt32 >>> ((16 : Int32) &&& 31).toUInt32).toInt32)), (.int (4 : Int32)), (.ref b7)]))
        refine GoW.st (fun t k => XS.iand X15.here hx rfl (hb hby at_122) rfl (XS.bipush X15.here hx rfl (hb hby at_123) (XS.iadd X15.here hx rfl (hb hby at_125) rfl k))) ?_
        show GoW p e below QQ (T15.setTop (mkF m 126 #[.val (.int p1), .val (.int p2), .val (.int p3), .val (.int p4), .val (.long p5), .second, .val (.int v4), .val (.int (0 : Int32)), .val (.int (1 : Int32)), .val (.int v41), .val (.ref b7), .unset, .unset, .unset, .unset, .unset, .unset, .unset, .unset, .unset, .unset, .unset, .unset, .unset, .unset] [(.int ((((p4.toUInt32 >>> ((16 : Int32) &&& 31).toUInt32).toInt32) &&& (15 : Int32)) + (64 : Int32))), (.int (4 : Int32)), (.ref b7)]))
        obtain ⟨T17, h17, X17, e17, W17, V17, st17⟩ := stVI X15 hx hZ e15 f16_V_b7 ⟨by decide, by decide⟩ 4 rfl (Nat.le_of_ble_eq_true rfl) (g := (mkF m 126 #[.val (.int p1), .val (.int p2), .val (.int p3), .val (.int p4), .val (.long p5), .second, .val (.int v4), .val (.int (0 : Int32)), .val (.int (1 : Int32)), .val (.int v41), .val (.ref b7), .unset, .unset, .unset, .unset, .unset, .unset, .unset, .unset, .unset, .unset, .unset, .unset, .unset, .unset] [(.int ((((p4.toUInt32 >>> ((16 : Int32) &&& 31).toUInt32).toInt32) &&& (15 : Int32)) + (64 : Int32))), (.int (4 : Int32)), (.ref b7)])) rfl rfl (hb hby at_126)
        refine GoW.st st17 ?_
        have f18_V_b7 : Arv Z h17 b7 k7 .int (8 : Int32) [(.int (p4 &&& (15 : Int32))), (.int ((((p4.toUInt32 >>> ((4 : Int32) &&& 31).toUInt32).toInt32) &&& (15 : Int32)) + (16 : Int32))), (.int ((((p4.toUInt32 >>> ((8 : Int32) &&& 31).toUInt32).toInt32) &&& (15 : Int32)) + (32 : Int32))), (.int ((((p4.toUInt32 >>> ((12 : Int32) &&& 31).toUInt32).toInt32) &&& (15 : Int32)) + (48 : Int32))), (.int ((((p4.toUInt32 >>> ((16 : Int32) &&& 31).toUInt32).toInt32) &&& (15 : Int32)) + (64 : Int32))), (.int (0 : Int32)), (.int (0 : Int32)), (.int (0 : Int32))] (.int (0 : Int32)) := V17
        have K17 : Keep h0 h17 [] := K15.wr W17 (Or.inr sz7)
        have N17 := Fr.snoc X17 N15 gg7
        show GoW p e below QQ (T17.setTop (mkF m 127 #[.val (.int p1), .val (.int p2), .val (.int p3), .val (.int p4), .val (.long p5), .second, .val (.int v4), .val (.int (0 : Int32)), .val (.int (1 : Int32)), .val (.int v41), .val (.ref b7), .unset, .unset, .unset, .unset, .unset, .unset, .unset, .unset, .unset, .unset, .unset, .unset, .unset, .unset] []))
        refine GoW.st (fun t k => XS.aload X17.here hx rfl (hb hby at_127) rfl rfl (XS.iconst X17.here hx rfl (hb hby at_129) (XS.iloadN X17.here hx rfl (hb hby at_130) rfl (XS.bipush X17.here hx rfl (hb hby at_131) (XS.iushr X17.here hx rfl (hb hby at_133) rfl (XS.bipush X17.here hx rfl (hb hby at_134) k)))))) ?_
        show GoW p e below QQ (T17.setTop (mkF m 136 #[.val (.int p1), .val (.int p2), .val (.int p3), .val (.int p4), .val (.long p5), .second, .val (.int v4), .val (.int (0 : Int32)), .val (.int (1 : Int32)), .val (.int v41), .val (.ref b7), .unset, .unset, .unset, .unset, .unset, .unset, .unset, .unset, .unset, .unset, .unset, .unset, .unset, .unset] [(.int (15 : Int32)), (.int ((p4.toUInt32 >>> ((20 : Int32) &&& 31).toUInt32).toInt32)), (.int (5 : Int32)), (.ref b7)]))
        refine GoW.st (fun t k => XS.iand X17.here hx rfl (hb hby at_136) rfl (XS.bipush X17.here hx rfl (hb hby at_137) (XS.iadd X17.here hx rfl (hb hby at_139) rfl k))) ?_
        show GoW p e below QQ (T17.setTop (mkF m 140 #[.val (.int p1), .val (.int p2), .val (.int p3), .val (.int p4), .val (.long p5), .second, .val (.int v4), .val (.int (0 : Int32)), .val (.int (1 : Int32)), .val (.int v41), .val (.ref b7), .unset, .unset, .unset, .unset, .unset, .unset, .unset, .unset, .unset, .unset, .unset, .unset, .unset, .unset] [(.int ((((p4.toUInt32 >>> ((20 : Int32) &&& 31).toUInt32).toInt32) &&& (15 : Int32)) + (80 : Int32))), (.int (5 : Int32)), (.ref b7)]))
        obtain ⟨T19, h19, X19, e19, W19, V19, st19⟩ := stVI X17 hx hZ e17 f18_V_b7 ⟨by decide, by decide⟩ 5 rfl (Nat.le_of_ble_eq_true rfl) (g := (mkF m 140 #[.val (.int p1), .val (.int p2), .val (.int p3), .val (.int p4), .val (.long p5), .second, .val (.int v4), .val (.int (0 : Int32)), .val (.int (1 : Int32)), .val (.int v41), .val (.ref b7), .unset, .unset, .unset, .unset, .unset, .unset, .unset, .unset, .unset, .unset, .unset, .unset, .unset, .unset] [(.int ((((p4.toUInt32 >>> ((20 : Int32) &&& 31).toUInt32).toInt32) &&& (15 : Int32)) + (80 : Int32))), (.int (5 : Int32)), (.ref b7)])) rfl rfl (hb hby at_140)
        refine GoW.st st19 ?_
        have f20_V_b7 : Arv Z h19 b7 k7 .int (8 : Int32) [(.int (p4 &&& (15 : Int32))), (.int ((((p4.toUInt32 >>> ((4 : Int32) &&& 31).toUInt32).toInt32) &&& (15 : Int32)) + (16 : Int32))), (.int ((((p4.toUInt32 >>> ((8 : Int32) &&& 31).toUInt32).toInt32) &&& (15 : Int32)) + (32 : Int32))), (.int ((((p4.toUInt32 >>> ((12 : Int32) &&& 31).toUInt32).toInt32) &&& (15 : Int32)) + (48 : Int32))), (.int ((((p4.toUInt32 >>> ((16 : Int32) &&& 31).toUInt32).toInt32) &&& (15 : Int32)) + (64 : Int32))), (.int ((((p4.toUInt32 >>> ((20 : Int32) &&& 31).toUInt32).toInt32) &&& (15 : Int32)) + (80 : Int32))), (.int (0 : Int32)), (.int (0 : Int32))] (.int (0 : Int32)) := V19
        have K19 : Keep h0 h19 [] := K17.wr W19 (Or.inr sz7)
        have N19 := Fr.snoc X19 N17 gg7
        show GoW p e below QQ (T19.setTop (mkF m 141 #[.val (.int p1), .val (.int p2), .val (.int p3), .val (.int p4), .val (.long p5), .second, .val (.int v4), .val (.int (0 : Int32)), .val (.int (1 : Int32)), .val (.int v41), .val (.ref b7), .unset, .unset, .unset, .unset, .unset, .unset, .unset, .unset, .unset, .unset, .unset, .unset, .unset, .unset] []))
        refine GoW.st (fun t k => XS.aload X19.here hx rfl (hb hby at_141) rfl rfl (XS.bipush X19.here hx rfl (hb hby at_143) (XS.iloadN X19.here hx rfl (hb hby at_145) rfl (XS.bipush X19.here hx rfl (hb hby at_146) (XS.iushr X19.here hx rfl (hb hby at_148) rfl (XS.bipush X19.here hx rfl (hb hby at_149) k)))))) ?_
        show GoW p e below QQ (T19.setTop (mkF m 151 #[.val (.int p1), .val (.int p2), .val (.int p3), .val (.int p4), .val (.long p5), .second, .val (.int v4), .val (.int (0 : Int32)), .val (.int (1 : Int32)), .val (.int v41), .val (.ref b7), .unset, .unset, .unset, .unset, .unset, .unset, .unset, .unset, .unset, .unset, .unset, .unset, .unset, .unset] [(.int (15 : Int32)), (.int ((p4.toUInt32 >>> ((24 : Int32) &&& 31).toUInt32).toInt32)), (.int (6 : Int32)), (.ref b7)]))
        refine GoW.st (fun t k => XS.iand X19.here hx rfl (hb hby at_151) rfl (XS.bipush X19.here hx rfl (hb hby at_152) (XS.iadd X19.here hx rfl (hb hby at_154) rfl k))) ?_
        show GoW p e below QQ (T19.setTop (mkF m 155 #[.val (.int p1), .val (.int p2), .val (.int p3), .val (.int p4), .val (.long p5), .second, .val (.int v4), .val (.int (0 : Int32)), .val (.int (1 : Int32)), .val (.int v41), .val (.ref b7), .unset, .unset, .unset, .unset, .unset, .unset, .unset, .unset, .unset, .unset, .unset, .unset, .unset, .unset] [(.int ((((p4.toUInt32 >>> ((24 : Int32) &&& 31).toUInt32).toInt32) &&& (15 : Int32)) + (96 : Int32))), (.int (6 : Int32)), (.ref b7)]))
        obtain ⟨T21, h21, X21, e21, W21, V21, st21⟩ := stVI X19 hx hZ e19 f20_V_b7 ⟨by decide, by decide⟩ 6 rfl (Nat.le_of_ble_eq_true rfl) (g := (mkF m 155 #[.val (.int p1), .val (.int p2), .val (.int p3), .val (.int p4), .val (.long p5), .second, .val (.int v4), .val (.int (0 : Int32)), .val (.int (1 : Int32)), .val (.int v41), .val (.ref b7), .unset, .unset, .unset, .unset, .unset, .unset, .unset, .unset, .unset, .unset, .unset, .unset, .unset, .unset] [(.int ((((p4.toUInt32 >>> ((24 : Int32) &&& 31).toUInt32).toInt32) &&& (15 : Int32)) + (96 : Int32))), (.int (6 : Int32)), (.ref b7)])) rfl rfl (hb hby at_155)
        refine GoW.st st21 ?_
        have f22_V_b7 : Arv Z h21 b7 k7 .int (8 : Int32) [(.int (p4 &&& (15 : Int32))), (.int ((((p4.toUInt32 >>> ((4 : Int32) &&& 31).toUInt32).toInt32) &&& (15 : Int32)) + (16 : Int32))), (.int ((((p4.toUInt32 >>> ((8 : Int32) &&& 31).toUInt32).toInt32) &&& (15 : Int32)) + (32 : Int32))), (.int ((((p4.toUInt32 >>> ((12 : Int32) &&& 31).toUInt32).toInt32) &&& (15 : Int32)) + (48 : Int32))), (.int ((((p4.toUInt32 >>> ((16 : Int32) &&& 31).toUInt32).toInt32) &&& (15 : Int32)) + (64 : Int32))), (.int ((((p4.toUInt32 >>> ((20 : Int32) &&& 31).toUInt32).toInt32) &&& (15 : Int32)) + (80 : Int32))), (.int ((((p4.toUInt32 >>> ((24 : Int32) &&& 31).toUInt32).toInt32) &&& (15 : Int32)) + (96 : Int32))), (.int (0 : Int32))] (.int (0 : Int32)) := V21
        have K21 : Keep h0 h21 [] := K19.wr W21 (Or.inr sz7)
        have N21 := Fr.snoc X21 N19 gg7
        show GoW p e below QQ (T21.setTop (mkF m 156 #[.val (.int p1), .val (.int p2), .val (.int p3), .val (.int p4), .val (.long p5), .second, .val (.int v4), .val (.int (0 : Int32)), .val (.int (1 : Int32)), .val (.int v41), .val (.ref b7), .unset, .unset, .unset, .unset, .unset, .unset, .unset, .unset, .unset, .unset, .unset, .unset, .unset, .unset] []))
        refine GoW.st (fun t k => XS.aload X21.here hx rfl (hb hby at_156) rfl rfl (XS.bipush X21.here hx rfl (hb hby at_158) (XS.iloadN X21.here hx rfl (hb hby at_160) rfl (XS.bipush X21.here hx rfl (hb hby at_161) (XS.iushr X21.here hx rfl (hb hby at_163) rfl (XS.bipush X21.here hx rfl (hb hby at_164) k)))))) ?_
        show GoW p e below QQ (T21.setTop (mkF m 166 #[.val (.int p1), .val (.int p2), .val (.int p3), .val (.int p4), .val (.long p5), .second, .val (.int v4), .val (.int (0 : Int32)), .val (.int (1 : Int32)), .val (.int v41), .val (.ref b7), .unset, .unset, .unset, .unset, .unset, .unset, .unset, .unset, .unset, .unset, .unset, .unset, .unset, .unset] [(.int (15 : Int32)), (.int ((p4.toUInt32 >>> ((28 : Int32) &&& 31).toUInt32).toInt32)), (.int (7 : Int32)), (.ref b7)]))
        refine GoW.st (fun t k => XS.iand X21.here hx rfl (hb hby at_166) rfl (XS.bipush X21.here hx rfl (hb hby at_167) (XS.iadd X21.here hx rfl (hb hby at_169) rfl k))) ?_
        show GoW p e below QQ (T21.setTop (mkF m 170 #[.val (.int p1), .val (.int p2), .val (.int p3), .val (.int p4), .val (.long p5), .second, .val (.int v4), .val (.int (0 : Int32)), .val (.int (1 : Int32)), .val (.int v41), .val (.ref b7), .unset, .unset, .unset, .unset, .unset, .unset, .unset, .unset, .unset, .unset, .unset, .unset, .unset, .unset] [(.int ((((p4.toUInt32 >>> ((28 : Int32) &&& 31).toUInt32).toInt32) &&& (15 : Int32)) + (112 : Int32))), (.int (7 : Int32)), (.ref b7)]))
        obtain ⟨T23, h23, X23, e23, W23, V23, st23⟩ := stVI X21 hx hZ e21 f22_V_b7 ⟨by decide, by decide⟩ 7 rfl (Nat.le_of_ble_eq_true rfl) (g := (mkF m 170 #[.val (.int p1), .val (.int p2), .val (.int p3), .val (.int p4), .val (.long p5), .second, .val (.int v4), .val (.int (0 : Int32)), .val (.int (1 : Int32)), .val (.int v41), .val (.ref b7), .unset, .unset, .unset, .unset, .unset, .unset, .unset, .unset, .unset, .unset, .unset, .unset, .unset, .unset] [(.int ((((p4.toUInt32 >>> ((28 : Int32) &&& 31).toUInt32).toInt32) &&& (15 : Int32)) + (112 : Int32))), (.int (7 : Int32)), (.ref b7)])) rfl rfl (hb hby at_170)
        refine GoW.st st23 ?_
        have f24_V_b7 : Arv Z h23 b7 k7 .int (8 : Int32) [(.int (p4 &&& (15 : Int32))), (.int ((((p4.toUInt32 >>> ((4 : Int32) &&& 31).toUInt32).toInt32) &&& (15 : Int32)) + (16 : Int32))), (.int ((((p4.toUInt32 >>> ((8 : Int32) &&& 31).toUInt32).toInt32) &&& (15 : Int32)) + (32 : Int32))), (.int ((((p4.toUInt32 >>> ((12 : Int32) &&& 31).toUInt32).toInt32) &&& (15 : Int32)) + (48 : Int32))), (.int ((((p4.toUInt32 >>> ((16 : Int32) &&& 31).toUInt32).toInt32) &&& (15 : Int32)) + (64 : Int32))), (.int ((((p4.toUInt32 >>> ((20 : Int32) &&& 31).toUInt32).toInt32) &&& (15 : Int32)) + (80 : Int32))), (.int ((((p4.toUInt32 >>> ((24 : Int32) &&& 31).toUInt32).toInt32) &&& (15 : Int32)) + (96 : Int32))), (.int ((((p4.toUInt32 >>> ((28 : Int32) &&& 31).toUInt32).toInt32) &&& (15 : Int32)) + (112 : Int32)))] (.int (0 : Int32)) := V23
        have K23 : Keep h0 h23 [] := K21.wr W23 (Or.inr sz7)
        have N23 := Fr.snoc X23 N21 gg7
        show GoW p e below QQ (T23.setTop (mkF m 171 #[.val (.int p1), .val (.int p2), .val (.int p3), .val (.int p4), .val (.long p5), .second, .val (.int v4), .val (.int (0 : Int32)), .val (.int (1 : Int32)), .val (.int v41), .val (.ref b7), .unset, .unset, .unset, .unset, .unset, .unset, .unset, .unset, .unset, .unset, .unset, .unset, .unset, .unset] []))
        refine GoW.st (fun t k => XS.iloadN X23.here hx rfl (hb hby at_171) rfl (X23.ldcInt hx hown (mvT hZ (hw _ (List.mem_of_getElem? (i := 0) rfl))) (g := (mkF m 172 #[.val (.int p1), .val (.int p2), .val (.int p3), .val (.int p4), .val (.long p5), .second, .val (.int v4), .val (.int (0 : Int32)), .val (.int (1 : Int32)), .val (.int v41), .val (.ref b7), .unset, .unset, .unset, .unset, .unset, .unset, .unset, .unset, .unset, .unset, .unset, .unset, .unset, .unset] [(.int p1)])) rfl (hb hby at_172) t (XS.iand X23.here hx rfl (hb hby at_174) rfl (XS.bipush X23.here hx rfl (hb hby at_175) k)))) ?_
        show GoW p e below QQ (T23.setTop (mkF m 177 #[.val (.int p1), .val (.int p2), .val (.int p3), .val (.int p4), .val (.long p5), .second, .val (.int v4), .val (.int (0 : Int32)), .val (.int (1 : Int32)), .val (.int v41), .val (.ref b7), .unset, .unset, .unset, .unset, .unset, .unset, .unset, .unset, .unset, .unset, .unset, .unset, .unset, .unset] [(.int (9 : Int32)), (.int (p1 &&& (2147483647 : Int32)))]))
        have d9 := c_isub 9 v4
        have r9 := rng32 ((9 : Int32) - v4)
        have n9 : ((9 : Int32) - v4).toInt = 9 - v4.toInt := by omega
        have nz9 : ((9 : Int32) - v4) ≠ 0 := own_ne_of (by rw [n9]; omega)
        refine GoW.st (fun t k => XS.iload X23.here hx rfl (hb hby at_177) rfl (XS.isub X23.here hx rfl (hb hby at_179) rfl (iremM X23 hx rfl (hb hby at_180) rfl nz9 (XS.istore X23.here hx rfl (hb hby at_181) rfl (l' := #[.val (.int p1), .val (.int p2), .val (.int p3), .val (.int p4), .val (.long p5), .second, .val (.int v4), .val (.int (0 : Int32)), .val (.int (1 : Int32)), .val (.int v41), .val (.ref b7), .val (.int ((p1 &&& (2147483647 : Int32)) % ((9 : Int32) - v4))), .unset, .unset, .unset, .unset, .unset, .unset, .unset, .unset, .unset, .unset, .unset, .unset, .unset]) rfl k)))) ?_
        show GoW p e below QQ (T23.setTop (mkF m 183 #[.val (.int p1), .val (.int p2), .val (.int p3), .val (.int p4), .val (.long p5), .second, .val (.int v4), .val (.int (0 : Int32)), .val (.int (1 : Int32)), .val (.int v41), .val (.ref b7), .val (.int ((p1 &&& (2147483647 : Int32)) % ((9 : Int32) - v4))), .unset, .unset, .unset, .unset, .unset, .unset, .unset, .unset, .unset, .unset, .unset, .unset, .unset] []))
        generalize hv181 : ((p1 &&& (2147483647 : Int32)) % ((9 : Int32) - v4)) = v181
        refine GoW.st (fun t k => XS.goto X23.here hx rfl (pc0 := 183) (pc' := 197) rfl (hb hby at_183) (by decide) (by decide) k) ?_
        show GoW p e below QQ (T23.setTop (mkF m 197 #[.val (.int p1), .val (.int p2), .val (.int p3), .val (.int p4), .val (.long p5), .second, .val (.int v4), .val (.int (0 : Int32)), .val (.int (1 : Int32)), .val (.int v41), .val (.ref b7), .val (.int v181), .unset, .unset, .unset, .unset, .unset, .unset, .unset, .unset, .unset, .unset, .unset, .unset, .unset] []))
        have nbA := c_and p1 2147483647 (by decide)
        have frA := (c_iremV (p1 &&& (2147483647 : Int32)) ((9 : Int32) - v4)).1 nbA.1 (by omega)
        rw [hv181] at frA
        have fr0 : 0 ≤ v181.toInt ∧ v181.toInt + v4.toInt ≤ 8 := by omega
        refine GoW.st (fun t k => XS.iload X23.here hx rfl (hb hby at_197) rfl (XS.iload X23.here hx rfl (hb hby at_199) rfl (XS.iadd X23.here hx rfl (hb hby at_201) rfl (XS.istore X23.here hx rfl (hb hby at_202) rfl (l' := #[.val (.int p1), .val (.int p2), .val (.int p3), .val (.int p4), .val (.long p5), .second, .val (.int v4), .val (.int (0 : Int32)), .val (.int (1 : Int32)), .val (.int v41), .val (.ref b7), .val (.int v181), .val (.int (v181 + v4)), .unset, .unset, .unset, .unset, .unset, .unset, .unset, .unset, .unset, .unset, .unset, .unset]) rfl k)))) ?_
        show GoW p e below QQ (T23.setTop (mkF m 204 #[.val (.int p1), .val (.int p2), .val (.int p3), .val (.int p4), .val (.long p5), .second, .val (.int v4), .val (.int (0 : Int32)), .val (.int (1 : Int32)), .val (.int v41), .val (.ref b7), .val (.int v181), .val (.int (v181 + v4)), .unset, .unset, .unset, .unset, .unset, .unset, .unset, .unset, .unset, .unset, .unset, .unset] []))
        generalize hv202 : (v181 + v4) = v202
        have toA := c_iadd v181 v4
        have toR := rng32 (v181 + v4)
        rw [hv202] at toA toR
        have to0 : v202.toInt = v181.toInt + v4.toInt := by omega
        refine GoW.st (fun t k => XS.aconstNull X23.here hx rfl (hb hby at_204) (XS.astore X23.here hx rfl (hb hby at_205) rfl rfl (l' := #[.val (.int p1), .val (.int p2), .val (.int p3), .val (.int p4), .val (.long p5), .second, .val (.int v4), .val (.int (0 : Int32)), .val (.int (1 : Int32)), .val (.int v41), .val (.ref b7), .val (.int v181), .val (.int v202), .val .null, .unset, .unset, .unset, .unset, .unset, .unset, .unset, .unset, .unset, .unset, .unset]) rfl (XS.iconst X23.here hx rfl (hb hby at_207) (XS.istore X23.here hx rfl (hb hby at_208) rfl (l' := #[.val (.int p1), .val (.int p2), .val (.int p3), .val (.int p4), .val (.long p5), .second, .val (.int v4), .val (.int (0 : Int32)), .val (.int (1 : Int32)), .val (.int v41), .val (.ref b7), .val (.int v181), .val (.int v202), .val .null, .val (.int (-1 : Int32)), .unset, .unset, .unset, .unset, .unset, .unset, .unset, .unset, .unset, .unset]) rfl (XS.iconst X23.here hx rfl (hb hby at_210) (XS.istore X23.here hx rfl (hb hby at_211) rfl (l' := #[.val (.int p1), .val (.int p2), .val (.int p3), .val (.int p4), .val (.long p5), .second, .val (.int v4), .val (.int (0 : Int32)), .val (.int (1 : Int32)), .val (.int v41), .val (.ref b7), .val (.int v181), .val (.int v202), .val .null, .val (.int (-1 : Int32)), .val (.int (-1 : Int32)), .unset, .unset, .unset, .unset, .unset, .unset, .unset, .unset, .unset]) rfl k)))))) ?_
        show GoW p e below QQ (T23.setTop (mkF m 213 #[.val (.int p1), .val (.int p2), .val (.int p3), .val (.int p4), .val (.long p5), .second, .val (.int v4), .val (.int (0 : Int32)), .val (.int (1 : Int32)), .val (.int v41), .val (.ref b7), .val (.int v181), .val (.int v202), .val .null, .val (.int (-1 : Int32)), .val (.int (-1 : Int32)), .unset, .unset, .unset, .unset, .unset, .unset, .unset, .unset, .unset] []))
        refine GoW.st (fun t k => XS.iconst X23.here hx rfl (hb hby at_213) (XS.istore X23.here hx rfl (hb hby at_214) rfl (l' := #[.val (.int p1), .val (.int p2), .val (.int p3), .val (.int p4), .val (.long p5), .second, .val (.int v4), .val (.int (0 : Int32)), .val (.int (1 : Int32)), .val (.int v41), .val (.ref b7), .val (.int v181), .val (.int v202), .val .null, .val (.int (-1 : Int32)), .val (.int (-1 : Int32)), .val (.int (0 : Int32)), .unset, .unset, .unset, .unset, .unset, .unset, .unset, .unset]) rfl (XS.iload X23.here hx rfl (hb hby at_216) rfl k))) ?_
        show GoW p e below QQ (T23.setTop (mkF m 218 #[.val (.int p1), .val (.int p2), .val (.int p3), .val (.int p4), .val (.long p5), .second, .val (.int v4), .val (.int (0 : Int32)), .val (.int (1 : Int32)), .val (.int v41), .val (.ref b7), .val (.int v181), .val (.int v202), .val .null, .val (.int (-1 : Int32)), .val (.int (-1 : Int32)), .val (.int (0 : Int32)), .unset, .unset, .unset, .unset, .unset, .unset, .unset, .unset] [(.int (0 : Int32))]))
        have hc218 : (0 : Int32) = (0 : Int32) := by decide
        refine GoW.st (fun t k => XS.ifYes X23.here hx rfl (pc0 := 218) (pc' := 329) rfl (hb hby at_218) rfl ((if0 _ _).trans (teq hc218).1) (by decide) (by decide) (XS.iload X23.here hx rfl (hb hby at_329) rfl (XS.iload X23.here hx rfl (hb hby at_331) rfl (XS.isub X23.here hx rfl (hb hby at_333) rfl (XS.istore X23.here hx rfl (hb hby at_334) rfl (l' := #[.val (.int p1), .val (.int p2), .val (.int p3), .val (.int p4), .val (.long p5), .second, .val (.int v4), .val (.int (0 : Int32)), .val (.int (1 : Int32)), .val (.int v41), .val (.ref b7), .val (.int v181), .val (.int v202), .val .null, .val (.int (-1 : Int32)), .val (.int (-1 : Int32)), .val (.int (0 : Int32)), .val (.int (v4 - (0 : Int32))), .unset, .unset, .unset, .unset, .unset, .unset, .unset]) rfl k))))) ?_
        show GoW p e below QQ (T23.setTop (mkF m 336 #[.val (.int p1), .val (.int p2), .val (.int p3), .val (.int p4), .val (.long p5), .second, .val (.int v4), .val (.int (0 : Int32)), .val (.int (1 : Int32)), .val (.int v41), .val (.ref b7), .val (.int v181), .val (.int v202), .val .null, .val (.int (-1 : Int32)), .val (.int (-1 : Int32)), .val (.int (0 : Int32)), .val (.int (v4 - (0 : Int32))), .unset, .unset, .unset, .unset, .unset, .unset, .unset] []))
        generalize hv334 : (v4 - (0 : Int32)) = v334
        have szA := c_isub v4 (0 : Int32)
        have szR := rng32 (v4 - (0 : Int32))
        rw [hv334] at szA szR
        have zk : (0 : Int32).toInt = 0 := rfl
        have sz0 : v334.toInt = v4.toInt - 0 := by omega
        refine GoW.st (fun t k => XS.iload X23.here hx rfl (hb hby at_336) rfl k) ?_
        show GoW p e below QQ (T23.setTop (mkF m 338 #[.val (.int p1), .val (.int p2), .val (.int p3), .val (.int p4), .val (.long p5), .second, .val (.int v4), .val (.int (0 : Int32)), .val (.int (1 : Int32)), .val (.int v41), .val (.ref b7), .val (.int v181), .val (.int v202), .val .null, .val (.int (-1 : Int32)), .val (.int (-1 : Int32)), .val (.int (0 : Int32)), .val (.int v334), .unset, .unset, .unset, .unset, .unset, .unset, .unset] [(.int v334)]))
        by_cases hc338 : (0 : Int32) < v334
        · skip
          refine GoW.st (fun t k => XS.ifYes X23.here hx rfl (pc0 := 338) (pc' := 343) rfl (hb hby at_338) rfl ((if0 _ _).trans (tlt hc338).2.2.1) (by decide) (by decide) k) ?_
          show GoW p e below QQ (T23.setTop (mkF m 343 #[.val (.int p1), .val (.int p2), .val (.int p3), .val (.int p4), .val (.long p5), .second, .val (.int v4), .val (.int (0 : Int32)), .val (.int (1 : Int32)), .val (.int v41), .val (.ref b7), .val (.int v181), .val (.int v202), .val .null, .val (.int (-1 : Int32)), .val (.int (-1 : Int32)), .val (.int (0 : Int32)), .val (.int v334), .unset, .unset, .unset, .unset, .unset, .unset, .unset] []))
          have hi338 : 0 < v334.toInt := (Int32.lt_iff_toInt_lt.mp hc338)
          have szp : 0 < v334.toInt := hi338
          have nzL : (v334.toInt64) ≠ 0 := fun q => by
            have q2 := congrArg Int64.toInt q
            rw [c_i2l] at q2
            have z : (0 : Int64).toInt = 0 := rfl
            omega
          refine GoW.st (fun t k => XS.lconst X23.here hx rfl (hb hby at_343) (XS.lload X23.here hx rfl (hb hby at_344) rfl (X23.ldc2Long hx hown (mvT hZ (hw _ (List.mem_of_getElem? (i := 6) rfl))) (g := (mkF m 346 #[.val (.int p1), .val (.int p2), .val (.int p3), .val (.int p4), .val (.long p5), .second, .val (.int v4), .val (.int (0 : Int32)), .val (.int (1 : Int32)), .val (.int v41), .val (.ref b7), .val (.int v181), .val (.int v202), .val .null, .val (.int (-1 : Int32)), .val (.int (-1 : Int32)), .val (.int (0 : Int32)), .val (.int v334), .unset, .unset, .unset, .unset, .unset, .unset, .unset] [(.long p5), (.long (1 : Int64))])) rfl (hb hby at_346) t (XS.land X23.here hx rfl (hb hby at_349) rfl (XS.iload X23.here hx rfl (hb hby at_350) rfl (XS.i2l X23.here hx rfl (hb hby at_352) rfl k)))))) ?_
          show GoW p e below QQ (T23.setTop (mkF m 353 #[.val (.int p1), .val (.int p2), .val (.int p3), .val (.int p4), .val (.long p5), .second, .val (.int v4), .val (.int (0 : Int32)), .val (.int (1 : Int32)), .val (.int v41), .val (.ref b7), .val (.int v181), .val (.int v202), .val .null, .val (.int (-1 : Int32)), .val (.int (-1 : Int32)), .val (.int (0 : Int32)), .val (.int v334), .unset, .unset, .unset, .unset, .unset, .unset, .unset] [(.long (v334.toInt64)), (.long (p5 &&& (9223372036854775807 : Int64))), (.long (1 : Int64))]))
          refine GoW.st (fun t k => lremM X23 hx rfl (hb hby at_353) rfl nzL (XS.ladd X23.here hx rfl (hb hby at_354) rfl (XS.lstore X23.here hx rfl (hb hby at_355) rfl (l' := #[.val (.int p1), .val (.int p2), .val (.int p3), .val (.int p4), .val (.long p5), .second, .val (.int v4), .val (.int (0 : Int32)), .val (.int (1 : Int32)), .val (.int v41), .val (.ref b7), .val (.int v181), .val (.int v202), .val .null, .val (.int (-1 : Int32)), .val (.int (-1 : Int32)), .val (.int (0 : Int32)), .val (.int v334), .val (.long ((1 : Int64) + ((p5 &&& (9223372036854775807 : Int64)) % (v334.toInt64)))), .second, .unset, .unset, .unset, .unset, .unset]) rfl k))) ?_
          show GoW p e below QQ (T23.setTop (mkF m 357 #[.val (.int p1), .val (.int p2), .val (.int p3), .val (.int p4), .val (.long p5), .second, .val (.int v4), .val (.int (0 : Int32)), .val (.int (1 : Int32)), .val (.int v41), .val (.ref b7), .val (.int v181), .val (.int v202), .val .null, .val (.int (-1 : Int32)), .val (.int (-1 : Int32)), .val (.int (0 : Int32)), .val (.int v334), .val (.long ((1 : Int64) + ((p5 &&& (9223372036854775807 : Int64)) % (v334.toInt64)))), .second, .unset, .unset, .unset, .unset, .unset] []))
          generalize hv355 : ((1 : Int64) + ((p5 &&& (9223372036854775807 : Int64)) % (v334.toInt64))) = v355
          have poA := own_posf p5 v334 szp
          rw [hv355] at poA
          have ix := own_ixf v181 v355 (by omega) (by omega)
          obtain ⟨T25, h25, X25, e25, E25, A25, D25, -, st25⟩ := newO X23 hx hZ hown (hw _ (List.mem_of_getElem? (i := 7) rfl)) (hw _ (List.mem_of_getElem? (i := 8) rfl)) (hw _ (List.mem_of_getElem? (i := 9) rfl)) e23 (g := (mkF m 357 #[.val (.int p1), .val (.int p2), .val (.int p3), .val (.int p4), .val (.long p5), .second, .val (.int v4), .val (.int (0 : Int32)), .val (.int (1 : Int32)), .val (.int v41), .val (.ref b7), .val (.int v181), .val (.int v202), .val .null, .val (.int (-1 : Int32)), .val (.int (-1 : Int32)), .val (.int (0 : Int32)), .val (.int v334), .val (.long v355), .second, .unset, .unset, .unset, .unset, .unset] [])) rfl (hb hby at_357) (by decide) (by decide)
          obtain ⟨b25, g25⟩ : ∃ z, z = h23.size := ⟨_, rfl⟩
          rw [← g25] at A25 D25 st25
          refine GoW.st st25 ?_
          have gg25 : n0 ≤ b25 := Nat.le_trans (Nat.le_trans Z0 K23.1) (Nat.le_of_eq g25.symm)
          have sz25 : h0.size ≤ b25 := Nat.le_trans K23.1 (Nat.le_of_eq g25.symm)
          have ne25_b7 : b7 ≠ b25 := Nat.ne_of_lt (Nat.lt_of_lt_of_le f24_V_b7.lt (Nat.le_of_eq g25.symm))
          have f26_V_b7 : Arv Z h25 b7 k7 .int (8 : Int32) [(.int (p4 &&& (15 : Int32))), (.int ((((p4.toUInt32 >>> ((4 : Int32) &&& 31).toUInt32).toInt32) &&& (15 : Int32)) + (16 : Int32))), (.int ((((p4.toUInt32 >>> ((8 : Int32) &&& 31).toUInt32).toInt32) &&& (15 : Int32)) + (32 : Int32))), (.int ((((p4.toUInt32 >>> ((12 : Int32) &&& 31).toUInt32).toInt32) &&& (15 : Int32)) + (48 : Int32))), (.int ((((p4.toUInt32 >>> ((16 : Int32) &&& 31).toUInt32).toInt32) &&& (15 : Int32)) + (64 : Int32))), (.int ((((p4.toUInt32 >>> ((20 : Int32) &&& 31).toUInt32).toInt32) &&& (15 : Int32)) + (80 : Int32))), (.int ((((p4.toUInt32 >>> ((24 : Int32) &&& 31).toUInt32).toInt32) &&& (15 : Int32)) + (96 : Int32))), (.int ((((p4.toUInt32 >>> ((28 : Int32) &&& 31).toUInt32).toInt32) &&& (15 : Int32)) + (112 : Int32)))] (.int (0 : Int32)) := f24_V_b7.ext E25
          have K25 : Keep h0 h25 [] := K23.ext E25
          have F25_context : Fld Z h25 b25 "com/example/hike/hike/Proximity$Group" "context" "I" (.int (0 : Int32)) := D25 (Or.inr (hw _ (List.mem_of_getElem? (i := 22) rfl))) (ty := .int) (by decide)
          have F25_order : Fld Z h25 b25 "com/example/hike/hike/Proximity$Group" "order" "[I" .null := D25 (Or.inr (hw _ (List.mem_of_getElem? (i := 24) rfl))) (ty := (.array .int)) (by decide)
          have F25_from : Fld Z h25 b25 "com/example/hike/hike/Proximity$Group" "from" "I" (.int (0 : Int32)) := D25 (Or.inr (hw _ (List.mem_of_getElem? (i := 26) rfl))) (ty := .int) (by decide)
          have F25_to : Fld Z h25 b25 "com/example/hike/hike/Proximity$Group" "to" "I" (.int (0 : Int32)) := D25 (Or.inr (hw _ (List.mem_of_getElem? (i := 28) rfl))) (ty := .int) (by decide)
          have F25_reverse : Fld Z h25 b25 "com/example/hike/hike/Proximity$Group" "reverse" "Z" (.int (0 : Int32)) := D25 (Or.inr (hw _ (List.mem_of_getElem? (i := 30) rfl))) (ty := .boolean) (by decide)
          have F25_skipped : Fld Z h25 b25 "com/example/hike/hike/Proximity$Group" "skipped" "[I" .null := D25 (Or.inr (hw _ (List.mem_of_getElem? (i := 32) rfl))) (ty := (.array .int)) (by decide)
          show GoW p e below QQ (T25.setTop (mkF m 360 #[.val (.int p1), .val (.int p2), .val (.int p3), .val (.int p4), .val (.long p5), .second, .val (.int v4), .val (.int (0 : Int32)), .val (.int (1 : Int32)), .val (.int v41), .val (.ref b7), .val (.int v181), .val (.int v202), .val .null, .val (.int (-1 : Int32)), .val (.int (-1 : Int32)), .val (.int (0 : Int32)), .val (.int v334), .val (.long v355), .second, .unset, .unset, .unset, .unset, .unset] [(.ref b25)]))
          refine GoW.st (fun t k => XS.dup X25.here hx rfl (hb hby at_360) rfl rfl (XS.iloadN X25.here hx rfl (hb hby at_361) rfl (XS.aload X25.here hx rfl (hb hby at_362) rfl rfl (XS.iload X25.here hx rfl (hb hby at_364) rfl (XS.iload X25.here hx rfl (hb hby at_366) rfl (XS.iload X25.here hx rfl (hb hby at_368) rfl k)))))) ?_
          show GoW p e below QQ (T25.setTop (mkF m 370 #[.val (.int p1), .val (.int p2), .val (.int p3), .val (.int p4), .val (.long p5), .second, .val (.int v4), .val (.int (0 : Int32)), .val (.int (1 : Int32)), .val (.int v41), .val (.ref b7), .val (.int v181), .val (.int v202), .val .null, .val (.int (-1 : Int32)), .val (.int (-1 : Int32)), .val (.int (0 : Int32)), .val (.int v334), .val (.long v355), .second, .unset, .unset, .unset, .unset, .unset] [(.int (0 : Int32)), (.int v202), (.int v181), (.ref b7), (.int p3), (.ref b25), (.ref b25)]))
          refine GoW.st (fun t k => XS.aload X25.here hx rfl (hb hby at_370) rfl rfl k) ?_
          show GoW p e below QQ (T25.setTop (mkF m 372 #[.val (.int p1), .val (.int p2), .val (.int p3), .val (.int p4), .val (.long p5), .second, .val (.int v4), .val (.int (0 : Int32)), .val (.int (1 : Int32)), .val (.int v41), .val (.ref b7), .val (.int v181), .val (.int v202), .val .null, .val (.int (-1 : Int32)), .val (.int (-1 : Int32)), .val (.int (0 : Int32)), .val (.int v334), .val (.long v355), .second, .unset, .unset, .unset, .unset, .unset] [.null, (.int (0 : Int32)), (.int v202), (.int v181), (.ref b7), (.int p3), (.ref b25), (.ref b25)]))
          obtain ⟨_, _, ⟨T27, zL27, zk27, zn27⟩, -, X27, ⟨Lc27, hQ27, zl27, zy27, zz27⟩, st27⟩ := X25.specialBack hx (y := (⟨"com/example/hike/hike/Proximity$Group", "<init>", "(I[IIIZ[I)V"⟩ : MethodName)) rfl hown (mvT hZ (hw _ (List.mem_of_getElem? (i := 10) rfl))) (mvT hZ (hw _ (List.mem_of_getElem? (i := 11) rfl))) (mvT hZ (hw _ (List.mem_of_getElem? (i := 12) rfl))) (by decide) (backOf (W := 1) (rm2_o0 l Z a0 hw [] b25 p3 b7 v181 v202 h25 n0 (Nat.le_trans Z0 K25.1) A25 gg25 F25_context F25_order F25_from F25_to F25_reverse F25_skipped) hZ (hw _ (List.mem_of_getElem? (i := 12) rfl)) (hw _ (List.mem_of_getElem? (i := 9) rfl)) (by decide) (by decide)) (g := (mkF m 372 #[.val (.int p1), .val (.int p2), .val (.int p3), .val (.int p4), .val (.long p5), .second, .val (.int v4), .val (.int (0 : Int32)), .val (.int (1 : Int32)), .val (.int v41), .val (.ref b7), .val (.int v181), .val (.int v202), .val .null, .val (.int (-1 : Int32)), .val (.int (-1 : Int32)), .val (.int (0 : Int32)), .val (.int v334), .val (.long v355), .second, .unset, .unset, .unset, .unset, .unset] [.null, (.int (0 : Int32)), (.int v202), (.int v181), (.ref b7), (.int p3), (.ref b25), (.ref b25)])) rfl (by rw [hml]; rfl) (Steps.refl _) (a := b25) (argsL := [(.int p3), (.ref b7), (.int v181), (.int v202), (.int (0 : Int32)), .null]) (rest := [(.ref b25)]) (lenOf pd_2 rfl) rfl (by show 2 * 0 + _ ≤ _; exact Nat.le_of_eq rfl) (hb hby at_372) (fun _ _ => ⟨rfl, e25, (by decide : 2 + 0 ≤ _), (by decide : 14 + 0 ≤ _)⟩)
          dsimp only [Pt.U, Pt.locs, Pt.cells, Pt.slots] at X27 zl27 zy27 zz27 st27 hQ27
          subst zl27 zy27 zz27
          obtain ⟨rfl, Nq27, Kq27, p27_0, p27_1, p27_2, p27_3, p27_4, p27_5⟩ := hQ27
          have N27 := Fr.app N23 Nq27
          refine GoW.st (fun t k => st27.trans k) ?_
          have f28_V_b7 : Arv Z T27.heap b7 k7 .int (8 : Int32) [(.int (p4 &&& (15 : Int32))), (.int ((((p4.toUInt32 >>> ((4 : Int32) &&& 31).toUInt32).toInt32) &&& (15 : Int32)) + (16 : Int32))), (.int ((((p4.toUInt32 >>> ((8 : Int32) &&& 31).toUInt32).toInt32) &&& (15 : Int32)) + (32 : Int32))), (.int ((((p4.toUInt32 >>> ((12 : Int32) &&& 31).toUInt32).toInt32) &&& (15 : Int32)) + (48 : Int32))), (.int ((((p4.toUInt32 >>> ((16 : Int32) &&& 31).toUInt32).toInt32) &&& (15 : Int32)) + (64 : Int32))), (.int ((((p4.toUInt32 >>> ((20 : Int32) &&& 31).toUInt32).toInt32) &&& (15 : Int32)) + (80 : Int32))), (.int ((((p4.toUInt32 >>> ((24 : Int32) &&& 31).toUInt32).toInt32) &&& (15 : Int32)) + (96 : Int32))), (.int ((((p4.toUInt32 >>> ((28 : Int32) &&& 31).toUInt32).toInt32) &&& (15 : Int32)) + (112 : Int32)))] (.int (0 : Int32)) := f26_V_b7.keep Kq27 (ninS ne25_b7 nin0)
          have K27 : Keep h0 T27.heap [] := K25.trans Kq27 (allS (Or.inr sz25) all0)
          show GoW p e below QQ (T27.setTop (mkF m 375 #[.val (.int p1), .val (.int p2), .val (.int p3), .val (.int p4), .val (.long p5), .second, .val (.int v4), .val (.int (0 : Int32)), .val (.int (1 : Int32)), .val (.int v41), .val (.ref b7), .val (.int v181), .val (.int v202), .val .null, .val (.int (-1 : Int32)), .val (.int (-1 : Int32)), .val (.int (0 : Int32)), .val (.int v334), .val (.long v355), .second, .unset, .unset, .unset, .unset, .unset] [(.ref b25)]))
          refine GoW.st (fun t k => XS.astore X27.here hx rfl (hb hby at_375) rfl rfl (l' := #[.val (.int p1), .val (.int p2), .val (.int p3), .val (.int p4), .val (.long p5), .second, .val (.int v4), .val (.int (0 : Int32)), .val (.int (1 : Int32)), .val (.int v41), .val (.ref b7), .val (.int v181), .val (.int v202), .val .null, .val (.int (-1 : Int32)), .val (.int (-1 : Int32)), .val (.int (0 : Int32)), .val (.int v334), .val (.long v355), .second, .val (.ref b25), .unset, .unset, .unset, .unset]) rfl (XS.aload X27.here hx rfl (hb hby at_377) rfl rfl (XS.lload X27.here hx rfl (hb hby at_379) rfl k))) ?_
          show GoW p e below QQ (T27.setTop (mkF m 381 #[.val (.int p1), .val (.int p2), .val (.int p3), .val (.int p4), .val (.long p5), .second, .val (.int v4), .val (.int (0 : Int32)), .val (.int (1 : Int32)), .val (.int v41), .val (.ref b7), .val (.int v181), .val (.int v202), .val .null, .val (.int (-1 : Int32)), .val (.int (-1 : Int32)), .val (.int (0 : Int32)), .val (.int v334), .val (.long v355), .second, .val (.ref b25), .unset, .unset, .unset, .unset] [(.long v355), (.ref b25)]))
          obtain ⟨cq29, kq29, qa29, qb29, qc29⟩ := isOf hZ rfl p27_0
          obtain ⟨_, _, ⟨T29, zL29, zk29, zn29⟩, -, X29, ⟨Lc29, hQ29, zl29, zy29, zz29⟩, st29⟩ := X27.virtualBack hx (y := (⟨"com/example/hike/hike/Proximity$Group", "at", "(J)I"⟩ : MethodName)) (z := (⟨"com/example/hike/hike/Proximity$Group", "at", "(J)I"⟩ : MethodName)) hown (mvT hZ (hw _ (List.mem_of_getElem? (i := 33) rfl))) (mvT hZ (hw _ (List.mem_of_getElem? (i := 34) rfl))) (notFace_of_selects (args := #[]) (mvT hZ (hw _ (List.mem_of_getElem? (i := 36) rfl)))) (mvT hZ (hw _ (List.mem_of_getElem? (i := 36) rfl))) (mvT hZ (hw _ (List.mem_of_getElem? (i := 35) rfl))) (by decide) (backOf (W := 0) (rm5_o0 l Z a0 hw [] b25 v355 v181 v202 b7 k7 (p4 &&& (15 : Int32)) ((((p4.toUInt32 >>> ((4 : Int32) &&& 31).toUInt32).toInt32) &&& (15 : Int32)) + (16 : Int32)) ((((p4.toUInt32 >>> ((8 : Int32) &&& 31).toUInt32).toInt32) &&& (15 : Int32)) + (32 : Int32)) ((((p4.toUInt32 >>> ((12 : Int32) &&& 31).toUInt32).toInt32) &&& (15 : Int32)) + (48 : Int32)) ((((p4.toUInt32 >>> ((16 : Int32) &&& 31).toUInt32).toInt32) &&& (15 : Int32)) + (64 : Int32)) ((((p4.toUInt32 >>> ((20 : Int32) &&& 31).toUInt32).toInt32) &&& (15 : Int32)) + (80 : Int32)) ((((p4.toUInt32 >>> ((24 : Int32) &&& 31).toUInt32).toInt32) &&& (15 : Int32)) + (96 : Int32)) ((((p4.toUInt32 >>> ((28 : Int32) &&& 31).toUInt32).toInt32) &&& (15 : Int32)) + (112 : Int32)) T27.heap n0 (Nat.le_trans Z0 K27.1) p27_4 p27_2 p27_3 p27_5 p27_1 f28_V_b7 (own_nlt_of (by omega)) (own_lt_of (by omega))) hZ (hw _ (List.mem_of_getElem? (i := 37) rfl)) (hw _ (List.mem_of_getElem? (i := 9) rfl)) (by decide) (by decide)) qa29 qc29 (g := (mkF m 381 #[.val (.int p1), .val (.int p2), .val (.int p3), .val (.int p4), .val (.long p5), .second, .val (.int v4), .val (.int (0 : Int32)), .val (.int (1 : Int32)), .val (.int v41), .val (.ref b7), .val (.int v181), .val (.int v202), .val .null, .val (.int (-1 : Int32)), .val (.int (-1 : Int32)), .val (.int (0 : Int32)), .val (.int v334), .val (.long v355), .second, .val (.ref b25), .unset, .unset, .unset, .unset] [(.long v355), (.ref b25)])) rfl (by rw [hml]; rfl) (Steps.refl _) (argsL := [(.long v355)]) (rest := []) (lenOf pd_3 rfl) rfl (by show 2 * 0 + _ ≤ _; exact Nat.le_of_eq rfl) (hb hby at_381) (fun _ _ => ⟨rfl, rfl, (by decide : 2 + 0 ≤ _), (by decide : 14 + 0 ≤ _)⟩)
          dsimp only [Pt.U, Pt.locs, Pt.cells, Pt.slots] at X29 zl29 zy29 zz29 st29 hQ29
          subst zl29 zy29 zz29
          obtain ⟨rfl, Nq29, hh29⟩ := hQ29
          have N29 := Fr.app N27 Nq29
          refine GoW.st (fun t k => st29.trans k) ?_
          show GoW p e below QQ (T29.setTop (mkF m 384 #[.val (.int p1), .val (.int p2), .val (.int p3), .val (.int p4), .val (.long p5), .second, .val (.int v4), .val (.int (0 : Int32)), .val (.int (1 : Int32)), .val (.int v41), .val (.ref b7), .val (.int v181), .val (.int v202), .val .null, .val (.int (-1 : Int32)), .val (.int (-1 : Int32)), .val (.int (0 : Int32)), .val (.int v334), .val (.long v355), .second, .val (.ref b25), .unset, .unset, .unset, .unset] [(.int (([(p4 &&& (15 : Int32)), ((((p4.toUInt32 >>> ((4 : Int32) &&& 31).toUInt32).toInt32) &&& (15 : Int32)) + (16 : Int32)), ((((p4.toUInt32 >>> ((8 : Int32) &&& 31).toUInt32).toInt32) &&& (15 : Int32)) + (32 : Int32)), ((((p4.toUInt32 >>> ((12 : Int32) &&& 31).toUInt32).toInt32) &&& (15 : Int32)) + (48 : Int32)), ((((p4.toUInt32 >>> ((16 : Int32) &&& 31).toUInt32).toInt32) &&& (15 : Int32)) + (64 : Int32)), ((((p4.toUInt32 >>> ((20 : Int32) &&& 31).toUInt32).toInt32) &&& (15 : Int32)) + (80 : Int32)), ((((p4.toUInt32 >>> ((24 : Int32) &&& 31).toUInt32).toInt32) &&& (15 : Int32)) + (96 : Int32)), ((((p4.toUInt32 >>> ((28 : Int32) &&& 31).toUInt32).toInt32) &&& (15 : Int32)) + (112 : Int32))] : List Int32).getD (((v181.toInt64 + v355) - (1 : Int64)).toInt32).toNatClampNeg (0 : Int32)))]))
          refine GoW.st (fun t k => XS.istore X29.here hx rfl (hb hby at_384) rfl (l' := #[.val (.int p1), .val (.int p2), .val (.int p3), .val (.int p4), .val (.long p5), .second, .val (.int v4), .val (.int (0 : Int32)), .val (.int (1 : Int32)), .val (.int v41), .val (.ref b7), .val (.int v181), .val (.int v202), .val .null, .val (.int (-1 : Int32)), .val (.int (-1 : Int32)), .val (.int (0 : Int32)), .val (.int v334), .val (.long v355), .second, .val (.ref b25), .val (.int (([(p4 &&& (15 : Int32)), ((((p4.toUInt32 >>> ((4 : Int32) &&& 31).toUInt32).toInt32) &&& (15 : Int32)) + (16 : Int32)), ((((p4.toUInt32 >>> ((8 : Int32) &&& 31).toUInt32).toInt32) &&& (15 : Int32)) + (32 : Int32)), ((((p4.toUInt32 >>> ((12 : Int32) &&& 31).toUInt32).toInt32) &&& (15 : Int32)) + (48 : Int32)), ((((p4.toUInt32 >>> ((16 : Int32) &&& 31).toUInt32).toInt32) &&& (15 : Int32)) + (64 : Int32)), ((((p4.toUInt32 >>> ((20 : Int32) &&& 31).toUInt32).toInt32) &&& (15 : Int32)) + (80 : Int32)), ((((p4.toUInt32 >>> ((24 : Int32) &&& 31).toUInt32).toInt32) &&& (15 : Int32)) + (96 : Int32)), ((((p4.toUInt32 >>> ((28 : Int32) &&& 31).toUInt32).toInt32) &&& (15 : Int32)) + (112 : Int32))] : List Int32).getD (((v181.toInt64 + v355) - (1 : Int64)).toInt32).toNatClampNeg (0 : Int32))), .unset, .unset, .unset]) rfl k) ?_
          show GoW p e below QQ (T29.setTop (mkF m 386 #[.val (.int p1), .val (.int p2), .val (.int p3), .val (.int p4), .val (.long p5), .second, .val (.int v4), .val (.int (0 : Int32)), .val (.int (1 : Int32)), .val (.int v41), .val (.ref b7), .val (.int v181), .val (.int v202), .val .null, .val (.int (-1 : Int32)), .val (.int (-1 : Int32)), .val (.int (0 : Int32)), .val (.int v334), .val (.long v355), .second, .val (.ref b25), .val (.int (([(p4 &&& (15 : Int32)), ((((p4.toUInt32 >>> ((4 : Int32) &&& 31).toUInt32).toInt32) &&& (15 : Int32)) + (16 : Int32)), ((((p4.toUInt32 >>> ((8 : Int32) &&& 31).toUInt32).toInt32) &&& (15 : Int32)) + (32 : Int32)), ((((p4.toUInt32 >>> ((12 : Int32) &&& 31).toUInt32).toInt32) &&& (15 : Int32)) + (48 : Int32)), ((((p4.toUInt32 >>> ((16 : Int32) &&& 31).toUInt32).toInt32) &&& (15 : Int32)) + (64 : Int32)), ((((p4.toUInt32 >>> ((20 : Int32) &&& 31).toUInt32).toInt32) &&& (15 : Int32)) + (80 : Int32)), ((((p4.toUInt32 >>> ((24 : Int32) &&& 31).toUInt32).toInt32) &&& (15 : Int32)) + (96 : Int32)), ((((p4.toUInt32 >>> ((28 : Int32) &&& 31).toUInt32).toInt32) &&& (15 : Int32)) + (112 : Int32))] : List Int32).getD (((v181.toInt64 + v355) - (1 : Int64)).toInt32).toNatClampNeg (0 : Int32))), .unset, .unset, .unset] []))
          generalize hv384 : (([(p4 &&& (15 : Int32)), ((((p4.toUInt32 >>> ((4 : Int32) &&& 31).toUInt32).toInt32) &&& (15 : Int32)) + (16 : Int32)), ((((p4.toUInt32 >>> ((8 : Int32) &&& 31).toUInt32).toInt32) &&& (15 : Int32)) + (32 : Int32)), ((((p4.toUInt32 >>> ((12 : Int32) &&& 31).toUInt32).toInt32) &&& (15 : Int32)) + (48 : Int32)), ((((p4.toUInt32 >>> ((16 : Int32) &&& 31).toUInt32).toInt32) &&& (15 : Int32)) + (64 : Int32)), ((((p4.toUInt32 >>> ((20 : Int32) &&& 31).toUInt32).toInt32) &&& (15 : Int32)) + (80 : Int32)), ((((p4.toUInt32 >>> ((24 : Int32) &&& 31).toUInt32).toInt32) &&& (15 : Int32)) + (96 : Int32)), ((((p4.toUInt32 >>> ((28 : Int32) &&& 31).toUInt32).toInt32) &&& (15 : Int32)) + (112 : Int32))] : List Int32).getD (((v181.toInt64 + v355) - (1 : Int64)).toInt32).toNatClampNeg (0 : Int32)) = v384
          have rO := own_ord p4 (((v181.toInt64 + v355) - (1 : Int64)).toInt32) (by omega) (by omega)
          rw [hv384] at rO
          refine GoW.st (fun t k => XS.iload X29.here hx rfl (hb hby at_386) rfl k) ?_
          show GoW p e below QQ (T29.setTop (mkF m 388 #[.val (.int p1), .val (.int p2), .val (.int p3), .val (.int p4), .val (.long p5), .second, .val (.int v4), .val (.int (0 : Int32)), .val (.int (1 : Int32)), .val (.int v41), .val (.ref b7), .val (.int v181), .val (.int v202), .val .null, .val (.int (-1 : Int32)), .val (.int (-1 : Int32)), .val (.int (0 : Int32)), .val (.int v334), .val (.long v355), .second, .val (.ref b25), .val (.int v384), .unset, .unset, .unset] [(.int (1 : Int32))]))
          have hc388 : ¬ ((1 : Int32) = (0 : Int32)) := by decide
          refine GoW.st (fun t k => XS.ifNo X29.here hx rfl (hb hby at_388) rfl ((if0 _ _).trans (feq hc388).1) (XS.iload X29.here hx rfl (hb hby at_391) rfl k)) ?_
          show GoW p e below QQ (T29.setTop (mkF m 393 #[.val (.int p1), .val (.int p2), .val (.int p3), .val (.int p4), .val (.long p5), .second, .val (.int v4), .val (.int (0 : Int32)), .val (.int (1 : Int32)), .val (.int v41), .val (.ref b7), .val (.int v181), .val (.int v202), .val .null, .val (.int (-1 : Int32)), .val (.int (-1 : Int32)), .val (.int (0 : Int32)), .val (.int v334), .val (.long v355), .second, .val (.ref b25), .val (.int v384), .unset, .unset, .unset] [(.int v384)]))
          have hc393 : ¬ (v384 < (0 : Int32)) := by
            exact own_nlt_of (by omega)
          refine GoW.st (fun t k => XS.ifNo X29.here hx rfl (hb hby at_393) rfl ((if0 _ _).trans (flt hc393).1) k) ?_
          show GoW p e below QQ (T29.setTop (mkF m 396 #[.val (.int p1), .val (.int p2), .val (.int p3), .val (.int p4), .val (.long p5), .second, .val (.int v4), .val (.int (0 : Int32)), .val (.int (1 : Int32)), .val (.int v41), .val (.ref b7), .val (.int v181), .val (.int v202), .val .null, .val (.int (-1 : Int32)), .val (.int (-1 : Int32)), .val (.int (0 : Int32)), .val (.int v334), .val (.long v355), .second, .val (.ref b25), .val (.int v384), .unset, .unset, .unset] []))
          have hi393 : ¬ (v384.toInt < 0) := (fun q => hc393 (Int32.lt_iff_toInt_lt.mpr q))
          refine GoW.st (fun t k => XS.iload X29.here hx rfl (hb hby at_396) rfl (XS.sipush X29.here hx rfl (hb hby at_398) k)) ?_
          show GoW p e below QQ (T29.setTop (mkF m 401 #[.val (.int p1), .val (.int p2), .val (.int p3), .val (.int p4), .val (.long p5), .second, .val (.int v4), .val (.int (0 : Int32)), .val (.int (1 : Int32)), .val (.int v41), .val (.ref b7), .val (.int v181), .val (.int v202), .val .null, .val (.int (-1 : Int32)), .val (.int (-1 : Int32)), .val (.int (0 : Int32)), .val (.int v334), .val (.long v355), .second, .val (.ref b25), .val (.int v384), .unset, .unset, .unset] [(.int (128 : Int32)), (.int v384)]))
          have hc401 : v384 < (128 : Int32) := by
            exact own_lt_of (by omega)
          refine GoW.st (fun t k => XS.icmpYes X29.here hx rfl (pc0 := 401) (pc' := 406) rfl (hb hby at_401) rfl (tlt hc401).1 (by decide) (by decide) k) ?_
          show GoW p e below QQ (T29.setTop (mkF m 406 #[.val (.int p1), .val (.int p2), .val (.int p3), .val (.int p4), .val (.long p5), .second, .val (.int v4), .val (.int (0 : Int32)), .val (.int (1 : Int32)), .val (.int v41), .val (.ref b7), .val (.int v181), .val (.int v202), .val .null, .val (.int (-1 : Int32)), .val (.int (-1 : Int32)), .val (.int (0 : Int32)), .val (.int v334), .val (.long v355), .second, .val (.ref b25), .val (.int v384), .unset, .unset, .unset] []))
          have hi401 : v384.toInt < 128 := (Int32.lt_iff_toInt_lt.mp hc401)
          refine GoW.st (fun t k => XS.iload X29.here hx rfl (hb hby at_406) rfl (XS.iconst X29.here hx rfl (hb hby at_408) (XS.iushr X29.here hx rfl (hb hby at_409) rfl (XS.istore X29.here hx rfl (hb hby at_410) rfl (l' := #[.val (.int p1), .val (.int p2), .val (.int p3), .val (.int p4), .val (.long p5), .second, .val (.int v4), .val (.int (0 : Int32)), .val (.int (1 : Int32)), .val (.int v41), .val (.ref b7), .val (.int v181), .val (.int v202), .val .null, .val (.int (-1 : Int32)), .val (.int (-1 : Int32)), .val (.int (0 : Int32)), .val (.int v334), .val (.long v355), .second, .val (.ref b25), .val (.int v384), .val (.int ((v384.toUInt32 >>> ((4 : Int32) &&& 31).toUInt32).toInt32)), .unset, .unset]) rfl k)))) ?_
          show GoW p e below QQ (T29.setTop (mkF m 412 #[.val (.int p1), .val (.int p2), .val (.int p3), .val (.int p4), .val (.long p5), .second, .val (.int v4), .val (.int (0 : Int32)), .val (.int (1 : Int32)), .val (.int v41), .val (.ref b7), .val (.int v181), .val (.int v202), .val .null, .val (.int (-1 : Int32)), .val (.int (-1 : Int32)), .val (.int (0 : Int32)), .val (.int v334), .val (.long v355), .second, .val (.ref b25), .val (.int v384), .val (.int ((v384.toUInt32 >>> ((4 : Int32) &&& 31).toUInt32).toInt32)), .unset, .unset] []))
          generalize hv410 : ((v384.toUInt32 >>> ((4 : Int32) &&& 31).toUInt32).toInt32) = v410
          have sh := c_iushr v384 4 4 rfl (by decide)
          rw [hv410] at sh
          have rr := rng32 v384
          have id0 : v410.toInt = (((v181.toInt64 + v355) - (1 : Int64)).toInt32).toInt := by omega
          have ie : v410 = (((v181.toInt64 + v355) - (1 : Int64)).toInt32) := own_eq_of id0
          refine GoW.st (fun t k => XS.aload X29.here hx rfl (hb hby at_412) rfl rfl (XS.iload X29.here hx rfl (hb hby at_414) rfl (ldVI X29 hx hZ hh29 f28_V_b7 (v := (.int (([(p4 &&& (15 : Int32)), ((((p4.toUInt32 >>> ((4 : Int32) &&& 31).toUInt32).toInt32) &&& (15 : Int32)) + (16 : Int32)), ((((p4.toUInt32 >>> ((8 : Int32) &&& 31).toUInt32).toInt32) &&& (15 : Int32)) + (32 : Int32)), ((((p4.toUInt32 >>> ((12 : Int32) &&& 31).toUInt32).toInt32) &&& (15 : Int32)) + (48 : Int32)), ((((p4.toUInt32 >>> ((16 : Int32) &&& 31).toUInt32).toInt32) &&& (15 : Int32)) + (64 : Int32)), ((((p4.toUInt32 >>> ((20 : Int32) &&& 31).toUInt32).toInt32) &&& (15 : Int32)) + (80 : Int32)), ((((p4.toUInt32 >>> ((24 : Int32) &&& 31).toUInt32).toInt32) &&& (15 : Int32)) + (96 : Int32)), ((((p4.toUInt32 >>> ((28 : Int32) &&& 31).toUInt32).toInt32) &&& (15 : Int32)) + (112 : Int32))] : List Int32).getD (v410).toNatClampNeg (0 : Int32)))) ⟨own_nlt_of (by omega), own_lt_of (by omega)⟩ (own_at8 _ _ _ _ _ _ _ _ _) (g := (mkF m 416 #[.val (.int p1), .val (.int p2), .val (.int p3), .val (.int p4), .val (.long p5), .second, .val (.int v4), .val (.int (0 : Int32)), .val (.int (1 : Int32)), .val (.int v41), .val (.ref b7), .val (.int v181), .val (.int v202), .val .null, .val (.int (-1 : Int32)), .val (.int (-1 : Int32)), .val (.int (0 : Int32)), .val (.int v334), .val (.long v355), .second, .val (.ref b25), .val (.int v384), .val (.int v410), .unset, .unset] [(.int v410), (.ref b7)])) rfl rfl (hb hby at_416) t (XS.iload X29.here hx rfl (hb hby at_417) rfl k)))) ?_
          show GoW p e below QQ (T29.setTop (mkF m 419 #[.val (.int p1), .val (.int p2), .val (.int p3), .val (.int p4), .val (.long p5), .second, .val (.int v4), .val (.int (0 : Int32)), .val (.int (1 : Int32)), .val (.int v41), .val (.ref b7), .val (.int v181), .val (.int v202), .val .null, .val (.int (-1 : Int32)), .val (.int (-1 : Int32)), .val (.int (0 : Int32)), .val (.int v334), .val (.long v355), .second, .val (.ref b25), .val (.int v384), .val (.int v410), .unset, .unset] [(.int v384), (.int (([(p4 &&& (15 : Int32)), ((((p4.toUInt32 >>> ((4 : Int32) &&& 31).toUInt32).toInt32) &&& (15 : Int32)) + (16 : Int32)), ((((p4.toUInt32 >>> ((8 : Int32) &&& 31).toUInt32).toInt32) &&& (15 : Int32)) + (32 : Int32)), ((((p4.toUInt32 >>> ((12 : Int32) &&& 31).toUInt32).toInt32) &&& (15 : Int32)) + (48 : Int32)), ((((p4.toUInt32 >>> ((16 : Int32) &&& 31).toUInt32).toInt32) &&& (15 : Int32)) + (64 : Int32)), ((((p4.toUInt32 >>> ((20 : Int32) &&& 31).toUInt32).toInt32) &&& (15 : Int32)) + (80 : Int32)), ((((p4.toUInt32 >>> ((24 : Int32) &&& 31).toUInt32).toInt32) &&& (15 : Int32)) + (96 : Int32)), ((((p4.toUInt32 >>> ((28 : Int32) &&& 31).toUInt32).toInt32) &&& (15 : Int32)) + (112 : Int32))] : List Int32).getD (v410).toNatClampNeg (0 : Int32)))]))
          have hc419 : (([(p4 &&& (15 : Int32)), ((((p4.toUInt32 >>> ((4 : Int32) &&& 31).toUInt32).toInt32) &&& (15 : Int32)) + (16 : Int32)), ((((p4.toUInt32 >>> ((8 : Int32) &&& 31).toUInt32).toInt32) &&& (15 : Int32)) + (32 : Int32)), ((((p4.toUInt32 >>> ((12 : Int32) &&& 31).toUInt32).toInt32) &&& (15 : Int32)) + (48 : Int32)), ((((p4.toUInt32 >>> ((16 : Int32) &&& 31).toUInt32).toInt32) &&& (15 : Int32)) + (64 : Int32)), ((((p4.toUInt32 >>> ((20 : Int32) &&& 31).toUInt32).toInt32) &&& (15 : Int32)) + (80 : Int32)), ((((p4.toUInt32 >>> ((24 : Int32) &&& 31).toUInt32).toInt32) &&& (15 : Int32)) + (96 : Int32)), ((((p4.toUInt32 >>> ((28 : Int32) &&& 31).toUInt32).toInt32) &&& (15 : Int32)) + (112 : Int32))] : List Int32).getD (v410).toNatClampNeg (0 : Int32)) = v384 := by
            rw [ie]; exact hv384
          refine GoW.st (fun t k => XS.icmpNo X29.here hx rfl (hb hby at_419) rfl (teq hc419).2 k) ?_
          show GoW p e below QQ (T29.setTop (mkF m 422 #[.val (.int p1), .val (.int p2), .val (.int p3), .val (.int p4), .val (.long p5), .second, .val (.int v4), .val (.int (0 : Int32)), .val (.int (1 : Int32)), .val (.int v41), .val (.ref b7), .val (.int v181), .val (.int v202), .val .null, .val (.int (-1 : Int32)), .val (.int (-1 : Int32)), .val (.int (0 : Int32)), .val (.int v334), .val (.long v355), .second, .val (.ref b25), .val (.int v384), .val (.int v410), .unset, .unset] []))
          have hi419 : ((([(p4 &&& (15 : Int32)), ((((p4.toUInt32 >>> ((4 : Int32) &&& 31).toUInt32).toInt32) &&& (15 : Int32)) + (16 : Int32)), ((((p4.toUInt32 >>> ((8 : Int32) &&& 31).toUInt32).toInt32) &&& (15 : Int32)) + (32 : Int32)), ((((p4.toUInt32 >>> ((12 : Int32) &&& 31).toUInt32).toInt32) &&& (15 : Int32)) + (48 : Int32)), ((((p4.toUInt32 >>> ((16 : Int32) &&& 31).toUInt32).toInt32) &&& (15 : Int32)) + (64 : Int32)), ((((p4.toUInt32 >>> ((20 : Int32) &&& 31).toUInt32).toInt32) &&& (15 : Int32)) + (80 : Int32)), ((((p4.toUInt32 >>> ((24 : Int32) &&& 31).toUInt32).toInt32) &&& (15 : Int32)) + (96 : Int32)), ((((p4.toUInt32 >>> ((28 : Int32) &&& 31).toUInt32).toInt32) &&& (15 : Int32)) + (112 : Int32))] : List Int32).getD (v410).toNatClampNeg (0 : Int32))).toInt = v384.toInt := (congrArg Int32.toInt hc419)
          refine GoW.st (fun t k => XS.iload X29.here hx rfl (hb hby at_422) rfl (XS.iload X29.here hx rfl (hb hby at_424) rfl k)) ?_
          show GoW p e below QQ (T29.setTop (mkF m 426 #[.val (.int p1), .val (.int p2), .val (.int p3), .val (.int p4), .val (.long p5), .second, .val (.int v4), .val (.int (0 : Int32)), .val (.int (1 : Int32)), .val (.int v41), .val (.ref b7), .val (.int v181), .val (.int v202), .val .null, .val (.int (-1 : Int32)), .val (.int (-1 : Int32)), .val (.int (0 : Int32)), .val (.int v334), .val (.long v355), .second, .val (.ref b25), .val (.int v384), .val (.int v410), .unset, .unset] [(.int v181), (.int v410)]))
          have hc426 : ¬ (v410 < v181) := by
            exact own_nlt_of (by omega)
          refine GoW.st (fun t k => XS.icmpNo X29.here hx rfl (hb hby at_426) rfl (flt hc426).1 k) ?_
          show GoW p e below QQ (T29.setTop (mkF m 429 #[.val (.int p1), .val (.int p2), .val (.int p3), .val (.int p4), .val (.long p5), .second, .val (.int v4), .val (.int (0 : Int32)), .val (.int (1 : Int32)), .val (.int v41), .val (.ref b7), .val (.int v181), .val (.int v202), .val .null, .val (.int (-1 : Int32)), .val (.int (-1 : Int32)), .val (.int (0 : Int32)), .val (.int v334), .val (.long v355), .second, .val (.ref b25), .val (.int v384), .val (.int v410), .unset, .unset] []))
          have hi426 : ¬ (v410.toInt < v181.toInt) := (fun q => hc426 (Int32.lt_iff_toInt_lt.mpr q))
          refine GoW.st (fun t k => XS.iload X29.here hx rfl (hb hby at_429) rfl (XS.iload X29.here hx rfl (hb hby at_431) rfl k)) ?_
          show GoW p e below QQ (T29.setTop (mkF m 433 #[.val (.int p1), .val (.int p2), .val (.int p3), .val (.int p4), .val (.long p5), .second, .val (.int v4), .val (.int (0 : Int32)), .val (.int (1 : Int32)), .val (.int v41), .val (.ref b7), .val (.int v181), .val (.int v202), .val .null, .val (.int (-1 : Int32)), .val (.int (-1 : Int32)), .val (.int (0 : Int32)), .val (.int v334), .val (.long v355), .second, .val (.ref b25), .val (.int v384), .val (.int v410), .unset, .unset] [(.int v202), (.int v410)]))
          have hc433 : v410 < v202 := by
            exact own_lt_of (by omega)
          refine GoW.st (fun t k => XS.icmpYes X29.here hx rfl (pc0 := 433) (pc' := 438) rfl (hb hby at_433) rfl (tlt hc433).1 (by decide) (by decide) k) ?_
          show GoW p e below QQ (T29.setTop (mkF m 438 #[.val (.int p1), .val (.int p2), .val (.int p3), .val (.int p4), .val (.long p5), .second, .val (.int v4), .val (.int (0 : Int32)), .val (.int (1 : Int32)), .val (.int v41), .val (.ref b7), .val (.int v181), .val (.int v202), .val .null, .val (.int (-1 : Int32)), .val (.int (-1 : Int32)), .val (.int (0 : Int32)), .val (.int v334), .val (.long v355), .second, .val (.ref b25), .val (.int v384), .val (.int v410), .unset, .unset] []))
          have hi433 : v410.toInt < v202.toInt := (Int32.lt_iff_toInt_lt.mp hc433)
          refine GoW.st (fun t k => XS.iload X29.here hx rfl (hb hby at_438) rfl k) ?_
          show GoW p e below QQ (T29.setTop (mkF m 440 #[.val (.int p1), .val (.int p2), .val (.int p3), .val (.int p4), .val (.long p5), .second, .val (.int v4), .val (.int (0 : Int32)), .val (.int (1 : Int32)), .val (.int v41), .val (.ref b7), .val (.int v181), .val (.int v202), .val .null, .val (.int (-1 : Int32)), .val (.int (-1 : Int32)), .val (.int (0 : Int32)), .val (.int v334), .val (.long v355), .second, .val (.ref b25), .val (.int v384), .val (.int v410), .unset, .unset] [(.int (0 : Int32))]))
          have hc440 : (0 : Int32) = (0 : Int32) := by decide
          refine GoW.st (fun t k => XS.ifYes X29.here hx rfl (pc0 := 440) (pc' := 454) rfl (hb hby at_440) rfl ((if0 _ _).trans (teq hc440).1) (by decide) (by decide) (XS.iload X29.here hx rfl (hb hby at_454) rfl (XS.iload X29.here hx rfl (hb hby at_456) rfl (XS.isub X29.here hx rfl (hb hby at_458) rfl (XS.i2l X29.here hx rfl (hb hby at_459) rfl (XS.lstore X29.here hx rfl (hb hby at_460) rfl (l' := #[.val (.int p1), .val (.int p2), .val (.int p3), .val (.int p4), .val (.long p5), .second, .val (.int v4), .val (.int (0 : Int32)), .val (.int (1 : Int32)), .val (.int v41), .val (.ref b7), .val (.int v181), .val (.int v202), .val .null, .val (.int (-1 : Int32)), .val (.int (-1 : Int32)), .val (.int (0 : Int32)), .val (.int v334), .val (.long v355), .second, .val (.ref b25), .val (.int v384), .val (.int v410), .val (.long ((v410 - v181).toInt64)), .second]) rfl k)))))) ?_
          show GoW p e below QQ (T29.setTop (mkF m 462 #[.val (.int p1), .val (.int p2), .val (.int p3), .val (.int p4), .val (.long p5), .second, .val (.int v4), .val (.int (0 : Int32)), .val (.int (1 : Int32)), .val (.int v41), .val (.ref b7), .val (.int v181), .val (.int v202), .val .null, .val (.int (-1 : Int32)), .val (.int (-1 : Int32)), .val (.int (0 : Int32)), .val (.int v334), .val (.long v355), .second, .val (.ref b25), .val (.int v384), .val (.int v410), .val (.long ((v410 - v181).toInt64)), .second] []))
          generalize hv460 : ((v410 - v181).toInt64) = v460
          refine GoW.st (fun t k => XS.lload X29.here hx rfl (hb hby at_462) rfl (XS.lload X29.here hx rfl (hb hby at_464) rfl (XS.lconst X29.here hx rfl (hb hby at_466) (XS.lsub X29.here hx rfl (hb hby at_467) rfl (XS.lcmp X29.here hx rfl (hb hby at_468) rfl k))))) ?_
          show GoW p e below QQ (T29.setTop (mkF m 469 #[.val (.int p1), .val (.int p2), .val (.int p3), .val (.int p4), .val (.long p5), .second, .val (.int v4), .val (.int (0 : Int32)), .val (.int (1 : Int32)), .val (.int v41), .val (.ref b7), .val (.int v181), .val (.int v202), .val .null, .val (.int (-1 : Int32)), .val (.int (-1 : Int32)), .val (.int (0 : Int32)), .val (.int v334), .val (.long v355), .second, .val (.ref b25), .val (.int v384), .val (.int v410), .val (.long v460), .second] [(.int (lcmpW v460 (v355 - (1 : Int64))))]))
          have hc469 : v460 = (v355 - (1 : Int64)) := by
            subst hv460
            have z1 : (1 : Int32).toInt = 1 := rfl
            have zL1 : (1 : Int64).toInt = 1 := rfl
            have x4 := c_lsub v355 1
            have y4 := rng64 (v355 - 1)
            have x2 := c_isub v410 v181
            have y2 := rng32 (v410 - v181)
            have x3 := c_i2l (v410 - v181)
            apply own_eqL_of
            omega
          refine GoW.st (fun t k => XS.ifNo X29.here hx rfl (hb hby at_469) rfl ((if0 _ _).trans (teq ((lw_eq v460 (v355 - (1 : Int64))).mpr hc469)).2) k) ?_
          show GoW p e below QQ (T29.setTop (mkF m 472 #[.val (.int p1), .val (.int p2), .val (.int p3), .val (.int p4), .val (.long p5), .second, .val (.int v4), .val (.int (0 : Int32)), .val (.int (1 : Int32)), .val (.int v41), .val (.ref b7), .val (.int v181), .val (.int v202), .val .null, .val (.int (-1 : Int32)), .val (.int (-1 : Int32)), .val (.int (0 : Int32)), .val (.int v334), .val (.long v355), .second, .val (.ref b25), .val (.int v384), .val (.int v410), .val (.long v460), .second] []))
          have hi469 : v460.toInt = ((v355 - (1 : Int64))).toInt := (congrArg Int64.toInt hc469)
          refine GoW.st (fun t k => XS.iconst X29.here hx rfl (hb hby at_472) (XS.goto X29.here hx rfl (pc0 := 473) (pc' := 477) rfl (hb hby at_473) (by decide) (by decide) k)) ?_
          show GoW p e below QQ (T29.setTop (mkF m 477 #[.val (.int p1), .val (.int p2), .val (.int p3), .val (.int p4), .val (.long p5), .second, .val (.int v4), .val (.int (0 : Int32)), .val (.int (1 : Int32)), .val (.int v41), .val (.ref b7), .val (.int v181), .val (.int v202), .val .null, .val (.int (-1 : Int32)), .val (.int (-1 : Int32)), .val (.int (0 : Int32)), .val (.int v334), .val (.long v355), .second, .val (.ref b25), .val (.int v384), .val (.int v410), .val (.long v460), .second] [(.int (1 : Int32))]))
          exact GoW.fin X29 (some (.int (nar .boolean (1 : Int32)))) (fun q => by rw [hret] at q; cases q) hlk hQ hh29 ⟨rfl, N29⟩ (by decide) (by decide) (fun fs hr => retN X29 hx (t := .boolean) hret (by simp) (hb hby at_477) hr)
        · skip
          refine GoW.st (fun t k => XS.ifNo X23.here hx rfl (hb hby at_338) rfl ((if0 _ _).trans (flt hc338).2.2.1) k) ?_
          show GoW p e below QQ (T23.setTop (mkF m 341 #[.val (.int p1), .val (.int p2), .val (.int p3), .val (.int p4), .val (.long p5), .second, .val (.int v4), .val (.int (0 : Int32)), .val (.int (1 : Int32)), .val (.int v41), .val (.ref b7), .val (.int v181), .val (.int v202), .val .null, .val (.int (-1 : Int32)), .val (.int (-1 : Int32)), .val (.int (0 : Int32)), .val (.int v334), .unset, .unset, .unset, .unset, .unset, .unset, .unset] []))
          have hi338 : ¬ (0 < v334.toInt) := (fun q => hc338 (Int32.lt_iff_toInt_lt.mpr q))
          refine GoW.st (fun t k => XS.iconst X23.here hx rfl (hb hby at_341) k) ?_
          show GoW p e below QQ (T23.setTop (mkF m 342 #[.val (.int p1), .val (.int p2), .val (.int p3), .val (.int p4), .val (.long p5), .second, .val (.int v4), .val (.int (0 : Int32)), .val (.int (1 : Int32)), .val (.int v41), .val (.ref b7), .val (.int v181), .val (.int v202), .val .null, .val (.int (-1 : Int32)), .val (.int (-1 : Int32)), .val (.int (0 : Int32)), .val (.int v334), .unset, .unset, .unset, .unset, .unset, .unset, .unset] [(.int (1 : Int32))]))
          exact GoW.fin X23 (some (.int (nar .boolean (1 : Int32)))) (fun q => by rw [hret] at q; cases q) hlk hQ e23 ⟨rfl, N23⟩ (by decide) (by decide) (fun fs hr => retN X23 hx (t := .boolean) hret (by simp) (hb hby at_342) hr)
  · skip
    refine GoW.st (fun t k => XS.ifNo X0.here hx rfl (hb hby at_11) rfl ((if0 _ _).trans (feq hc11).1) k) ?_
    show GoW p e below QQ (T0.setTop (mkF m 14 #[.val (.int p1), .val (.int p2), .val (.int p3), .val (.int p4), .val (.long p5), .second, .val (.int v4), .unset, .unset, .unset, .unset, .unset, .unset, .unset, .unset, .unset, .unset, .unset, .unset, .unset, .unset, .unset, .unset, .unset, .unset] []))
    have hi11 : ¬ ((((p2 >>> ((3 : Int32) &&& 31)) &&& (1 : Int32))).toInt = 0) := (fun q => hc11 (Int32.toInt_inj.mp q))
    refine GoW.st (fun t k => XS.iconst X0.here hx rfl (hb hby at_14) (XS.goto X0.here hx rfl (pc0 := 15) (pc' := 19) rfl (hb hby at_15) (by decide) (by decide) (XS.istore X0.here hx rfl (hb hby at_19) rfl (l' := #[.val (.int p1), .val (.int p2), .val (.int p3), .val (.int p4), .val (.long p5), .second, .val (.int v4), .val (.int (1 : Int32)), .unset, .unset, .unset, .unset, .unset, .unset, .unset, .unset, .unset, .unset, .unset, .unset, .unset, .unset, .unset, .unset, .unset]) rfl (XS.iloadN X0.here hx rfl (hb hby at_21) rfl (XS.iconst X0.here hx rfl (hb hby at_22) (XS.ishr X0.here hx rfl (hb hby at_23) rfl k)))))) ?_
    show GoW p e below QQ (T0.setTop (mkF m 24 #[.val (.int p1), .val (.int p2), .val (.int p3), .val (.int p4), .val (.long p5), .second, .val (.int v4), .val (.int (1 : Int32)), .unset, .unset, .unset, .unset, .unset, .unset, .unset, .unset, .unset, .unset, .unset, .unset, .unset, .unset, .unset, .unset, .unset] [(.int (p2 >>> ((4 : Int32) &&& 31)))]))
    refine GoW.st (fun t k => XS.iconst X0.here hx rfl (hb hby at_24) (XS.iand X0.here hx rfl (hb hby at_25) rfl k)) ?_
    show GoW p e below QQ (T0.setTop (mkF m 26 #[.val (.int p1), .val (.int p2), .val (.int p3), .val (.int p4), .val (.long p5), .second, .val (.int v4), .val (.int (1 : Int32)), .unset, .unset, .unset, .unset, .unset, .unset, .unset, .unset, .unset, .unset, .unset, .unset, .unset, .unset, .unset, .unset, .unset] [(.int ((p2 >>> ((4 : Int32) &&& 31)) &&& (1 : Int32)))]))
    by_cases hc26 : ((p2 >>> ((4 : Int32) &&& 31)) &&& (1 : Int32)) = (0 : Int32)
    · skip
      refine GoW.st (fun t k => XS.ifYes X0.here hx rfl (pc0 := 26) (pc' := 33) rfl (hb hby at_26) rfl ((if0 _ _).trans (teq hc26).1) (by decide) (by decide) k) ?_
      show GoW p e below QQ (T0.setTop (mkF m 33 #[.val (.int p1), .val (.int p2), .val (.int p3), .val (.int p4), .val (.long p5), .second, .val (.int v4), .val (.int (1 : Int32)), .unset, .unset, .unset, .unset, .unset, .unset, .unset, .unset, .unset, .unset, .unset, .unset, .unset, .unset, .unset, .unset, .unset] []))
      have hi26 : (((p2 >>> ((4 : Int32) &&& 31)) &&& (1 : Int32))).toInt = 0 := (congrArg Int32.toInt hc26)
      refine GoW.st (fun t k => XS.iconst X0.here hx rfl (hb hby at_33) (XS.istore X0.here hx rfl (hb hby at_34) rfl (l' := #[.val (.int p1), .val (.int p2), .val (.int p3), .val (.int p4), .val (.long p5), .second, .val (.int v4), .val (.int (1 : Int32)), .val (.int (0 : Int32)), .unset, .unset, .unset, .unset, .unset, .unset, .unset, .unset, .unset, .unset, .unset, .unset, .unset, .unset, .unset, .unset]) rfl (XS.iloadN X0.here hx rfl (hb hby at_36) rfl (XS.iconst X0.here hx rfl (hb hby at_37) (XS.ishr X0.here hx rfl (hb hby at_38) rfl (XS.iconst X0.here hx rfl (hb hby at_39) k)))))) ?_
      show GoW p e below QQ (T0.setTop (mkF m 40 #[.val (.int p1), .val (.int p2), .val (.int p3), .val (.int p4), .val (.long p5), .second, .val (.int v4), .val (.int (1 : Int32)), .val (.int (0 : Int32)), .unset, .unset, .unset, .unset, .unset, .unset, .unset, .unset, .unset, .unset, .unset, .unset, .unset, .unset, .unset, .unset] [(.int (3 : Int32)), (.int (p2 >>> ((5 : Int32) &&& 31)))]))
      refine GoW.st (fun t k => XS.iand X0.here hx rfl (hb hby at_40) rfl (XS.istore X0.here hx rfl (hb hby at_41) rfl (l' := #[.val (.int p1), .val (.int p2), .val (.int p3), .val (.int p4), .val (.long p5), .second, .val (.int v4), .val (.int (1 : Int32)), .val (.int (0 : Int32)), .val (.int ((p2 >>> ((5 : Int32) &&& 31)) &&& (3 : Int32))), .unset, .unset, .unset, .unset, .unset, .unset, .unset, .unset, .unset, .unset, .unset, .unset, .unset, .unset, .unset]) rfl k)) ?_
      show GoW p e below QQ (T0.setTop (mkF m 43 #[.val (.int p1), .val (.int p2), .val (.int p3), .val (.int p4), .val (.long p5), .second, .val (.int v4), .val (.int (1 : Int32)), .val (.int (0 : Int32)), .val (.int ((p2 >>> ((5 : Int32) &&& 31)) &&& (3 : Int32))), .unset, .unset, .unset, .unset, .unset, .unset, .unset, .unset, .unset, .unset, .unset, .unset, .unset, .unset, .unset] []))
      generalize hv41 : ((p2 >>> ((5 : Int32) &&& 31)) &&& (3 : Int32)) = v41
      have z0 : (0 : Int32).toInt = 0 := rfl
      have z128 : (128 : Int32).toInt = 128 := rfl
      have zm1 : (-1 : Int32).toInt = -1 := rfl
      have z8 : (8 : Int32).toInt = 8 := rfl
      have z9 : (9 : Int32).toInt = 9 := rfl
      have z2147483631 : (2147483631 : Int32).toInt = 2147483631 := rfl
      have m4 := c_mask p2 7 3 (by decide) rfl
      rw [hv4] at m4
      refine GoW.st (fun t k => XS.iload X0.here hx rfl (hb hby at_43) rfl k) ?_
      show GoW p e below QQ (T0.setTop (mkF m 45 #[.val (.int p1), .val (.int p2), .val (.int p3), .val (.int p4), .val (.long p5), .second, .val (.int v4), .val (.int (1 : Int32)), .val (.int (0 : Int32)), .val (.int v41), .unset, .unset, .unset, .unset, .unset, .unset, .unset, .unset, .unset, .unset, .unset, .unset, .unset, .unset, .unset] [(.int v4)]))
      by_cases hc45 : v4 = (0 : Int32)
      · skip
        refine GoW.st (fun t k => XS.ifNo X0.here hx rfl (hb hby at_45) rfl ((if0 _ _).trans (teq hc45).2) k) ?_
        show GoW p e below QQ (T0.setTop (mkF m 48 #[.val (.int p1), .val (.int p2), .val (.int p3), .val (.int p4), .val (.long p5), .second, .val (.int v4), .val (.int (1 : Int32)), .val (.int (0 : Int32)), .val (.int v41), .unset, .unset, .unset, .unset, .unset, .unset, .unset, .unset, .unset, .unset, .unset, .unset, .unset, .unset, .unset] []))
        have hi45 : v4.toInt = 0 := (congrArg Int32.toInt hc45)
        refine GoW.st (fun t k => XS.iconst X0.here hx rfl (hb hby at_48) k) ?_
        show GoW p e below QQ (T0.setTop (mkF m 49 #[.val (.int p1), .val (.int p2), .val (.int p3), .val (.int p4), .val (.long p5), .second, .val (.int v4), .val (.int (1 : Int32)), .val (.int (0 : Int32)), .val (.int v41), .unset, .unset, .unset, .unset, .unset, .unset, .unset, .unset, .unset, .unset, .unset, .unset, .unset, .unset, .unset] [(.int (1 : Int32))]))
        exact GoW.fin X0 (some (.int (nar .boolean (1 : Int32)))) (fun q => by rw [hret] at q; cases q) hlk hQ e0 ⟨rfl, N0⟩ (by decide) (by decide) (fun fs hr => retN X0 hx (t := .boolean) hret (by simp) (hb hby at_49) hr)
      · skip
        refine GoW.st (fun t k => XS.ifYes X0.here hx rfl (pc0 := 45) (pc' := 50) rfl (hb hby at_45) rfl ((if0 _ _).trans (feq hc45).2) (by decide) (by decide) k) ?_
        show GoW p e below QQ (T0.setTop (mkF m 50 #[.val (.int p1), .val (.int p2), .val (.int p3), .val (.int p4), .val (.long p5), .second, .val (.int v4), .val (.int (1 : Int32)), .val (.int (0 : Int32)), .val (.int v41), .unset, .unset, .unset, .unset, .unset, .unset, .unset, .unset, .unset, .unset, .unset, .unset, .unset, .unset, .unset] []))
        have hi45 : ¬ (v4.toInt = 0) := (fun q => hc45 (Int32.toInt_inj.mp q))
        refine GoW.st (fun t k => XS.aconstNull X0.here hx rfl (hb hby at_50) (XS.astore X0.here hx rfl (hb hby at_51) rfl rfl (l' := #[.val (.int p1), .val (.int p2), .val (.int p3), .val (.int p4), .val (.long p5), .second, .val (.int v4), .val (.int (1 : Int32)), .val (.int (0 : Int32)), .val (.int v41), .val .null, .unset, .unset, .unset, .unset, .unset, .unset, .unset, .unset, .unset, .unset, .unset, .unset, .unset, .unset]) rfl (XS.iload X0.here hx rfl (hb hby at_53) rfl k))) ?_
        show GoW p e below QQ (T0.setTop (mkF m 55 #[.val (.int p1), .val (.int p2), .val (.int p3), .val (.int p4), .val (.long p5), .second, .val (.int v4), .val (.int (1 : Int32)), .val (.int (0 : Int32)), .val (.int v41), .val .null, .unset, .unset, .unset, .unset, .unset, .unset, .unset, .unset, .unset, .unset, .unset, .unset, .unset, .unset] [(.int (0 : Int32))]))
        have hc55 : (0 : Int32) = (0 : Int32) := by decide
        refine GoW.st (fun t k => XS.ifYes X0.here hx rfl (pc0 := 55) (pc' := 186) rfl (hb hby at_55) rfl ((if0 _ _).trans (teq hc55).1) (by decide) (by decide) (XS.iloadN X0.here hx rfl (hb hby at_186) rfl (X0.ldcInt hx hown (mvT hZ (hw _ (List.mem_of_getElem? (i := 0) rfl))) (g := (mkF m 187 #[.val (.int p1), .val (.int p2), .val (.int p3), .val (.int p4), .val (.long p5), .second, .val (.int v4), .val (.int (1 : Int32)), .val (.int (0 : Int32)), .val (.int v41), .val .null, .unset, .unset, .unset, .unset, .unset, .unset, .unset, .unset, .unset, .unset, .unset, .unset, .unset, .unset] [(.int p1)])) rfl (hb hby at_187) t (XS.iand X0.here hx rfl (hb hby at_189) rfl (X0.ldcInt hx hown (mvT hZ (hw _ (List.mem_of_getElem? (i := 1) rfl))) (g := (mkF m 190 #[.val (.int p1), .val (.int p2), .val (.int p3), .val (.int p4), .val (.long p5), .second, .val (.int v4), .val (.int (1 : Int32)), .val (.int (0 : Int32)), .val (.int v41), .val .null, .unset, .unset, .unset, .unset, .unset, .unset, .unset, .unset, .unset, .unset, .unset, .unset, .unset, .unset] [(.int (p1 &&& (2147483647 : Int32)))])) rfl (hb hby at_190) t k))))) ?_
        show GoW p e below QQ (T0.setTop (mkF m 192 #[.val (.int p1), .val (.int p2), .val (.int p3), .val (.int p4), .val (.long p5), .second, .val (.int v4), .val (.int (1 : Int32)), .val (.int (0 : Int32)), .val (.int v41), .val .null, .unset, .unset, .unset, .unset, .unset, .unset, .unset, .unset, .unset, .unset, .unset, .unset, .unset, .unset] [(.int (2147483631 : Int32)), (.int (p1 &&& (2147483647 : Int32)))]))
        obtain ⟨_, _, ⟨T30, zL30, zk30, zn30⟩, -, X30, ⟨Lc30, hQ30, zl30, zy30, zz30⟩, st30⟩ := Jvm.LawKit.callS X0 hx (y := (⟨"java/lang/Math", "min", "(II)I"⟩ : MethodName)) hown (mvT hZ (hw _ (List.mem_of_getElem? (i := 2) rfl))) (mvT hZ (hw _ (List.mem_of_getElem? (i := 3) rfl))) (mvT hZ (hw _ (List.mem_of_getElem? (i := 4) rfl))) (mvT hZ (hw _ (List.mem_of_getElem? (i := 5) rfl))) (by decide) (backOf (W := 0) (rm1 l Z a0 hw [] (p1 &&& (2147483647 : Int32)) (2147483631 : Int32) h0 n0 (Nat.le_trans Z0 K0.1) ) hZ (hw _ (List.mem_of_getElem? (i := 5) rfl)) (hw _ (List.mem_of_getElem? (i := 4) rfl)) (by decide) (by decide)) (g := (mkF m 192 #[.val (.int p1), .val (.int p2), .val (.int p3), .val (.int p4), .val (.long p5), .second, .val (.int v4), .val (.int (1 : Int32)), .val (.int (0 : Int32)), .val (.int v41), .val .null, .unset, .unset, .unset, .unset, .unset, .unset, .unset, .unset, .unset, .unset, .unset, .unset, .unset, .unset] [(.int (2147483631 : Int32)), (.int (p1 &&& (2147483647 : Int32)))])) rfl (by rw [hml]; rfl) (argsL := [(.int (p1 &&& (2147483647 : Int32))), (.int (2147483631 : Int32))]) (rest := []) (lenOf pd_1 rfl) rfl (by show 2 * 0 + _ ≤ _; exact Nat.le_of_eq rfl) (hb hby at_192) (fun _ _ => ⟨rfl, e0, (by decide : 0 + 0 ≤ _), (by decide : 0 + 0 ≤ _)⟩)
        dsimp only [Pt.U, Pt.locs, Pt.cells, Pt.slots] at X30 zl30 zy30 zz30 st30 hQ30
        subst zl30 zy30 zz30
        obtain ⟨rfl, Nq30, hh30⟩ := hQ30
        have N30 := Fr.app N0 Nq30
        refine GoW.st st30 ?_
        show GoW p e below QQ (T30.setTop (mkF m 195 #[.val (.int p1), .val (.int p2), .val (.int p3), .val (.int p4), .val (.long p5), .second, .val (.int v4), .val (.int (1 : Int32)), .val (.int (0 : Int32)), .val (.int v41), .val .null, .unset, .unset, .unset, .unset, .unset, .unset, .unset, .unset, .unset, .unset, .unset, .unset, .unset, .unset] [(.int (own_minI (p1 &&& (2147483647 : Int32)) (2147483631 : Int32)))]))
        refine GoW.st (fun t k => XS.istore X30.here hx rfl (hb hby at_195) rfl (l' := #[.val (.int p1), .val (.int p2), .val (.int p3), .val (.int p4), .val (.long p5), .second, .val (.int v4), .val (.int (1 : Int32)), .val (.int (0 : Int32)), .val (.int v41), .val .null, .val (.int (own_minI (p1 &&& (2147483647 : Int32)) (2147483631 : Int32))), .unset, .unset, .unset, .unset, .unset, .unset, .unset, .unset, .unset, .unset, .unset, .unset, .unset]) rfl k) ?_
        show GoW p e below QQ (T30.setTop (mkF m 197 #[.val (.int p1), .val (.int p2), .val (.int p3), .val (.int p4), .val (.long p5), .second, .val (.int v4), .val (.int (1 : Int32)), .val (.int (0 : Int32)), .val (.int v41), .val .null, .val (.int (own_minI (p1 &&& (2147483647 : Int32)) (2147483631 : Int32))), .unset, .unset, .unset, .unset, .unset, .unset, .unset, .unset, .unset, .unset, .unset, .unset, .unset] []))
        generalize hv195 : (own_minI (p1 &&& (2147483647 : Int32)) (2147483631 : Int32)) = v195
        have nbA := c_and p1 2147483647 (by decide)
        have frA := own_minI_i (p1 &&& (2147483647 : Int32)) (2147483631 : Int32)
        rw [hv195] at frA
        have fr0 : 0 ≤ v195.toInt ∧ v195.toInt ≤ 2147483631 := by omega
        refine GoW.st (fun t k => XS.iload X30.here hx rfl (hb hby at_197) rfl (XS.iload X30.here hx rfl (hb hby at_199) rfl (XS.iadd X30.here hx rfl (hb hby at_201) rfl (XS.istore X30.here hx rfl (hb hby at_202) rfl (l' := #[.val (.int p1), .val (.int p2), .val (.int p3), .val (.int p4), .val (.long p5), .second, .val (.int v4), .val (.int (1 : Int32)), .val (.int (0 : Int32)), .val (.int v41), .val .null, .val (.int v195), .val (.int (v195 + v4)), .unset, .unset, .unset, .unset, .unset, .unset, .unset, .unset, .unset, .unset, .unset, .unset]) rfl k)))) ?_
        show GoW p e below QQ (T30.setTop (mkF m 204 #[.val (.int p1), .val (.int p2), .val (.int p3), .val (.int p4), .val (.long p5), .second, .val (.int v4), .val (.int (1 : Int32)), .val (.int (0 : Int32)), .val (.int v41), .val .null, .val (.int v195), .val (.int (v195 + v4)), .unset, .unset, .unset, .unset, .unset, .unset, .unset, .unset, .unset, .unset, .unset, .unset] []))
        generalize hv202 : (v195 + v4) = v202
        have toA := c_iadd v195 v4
        have toR := rng32 (v195 + v4)
        rw [hv202] at toA toR
        have to0 : v202.toInt = v195.toInt + v4.toInt := by omega
        refine GoW.st (fun t k => XS.aconstNull X30.here hx rfl (hb hby at_204) (XS.astore X30.here hx rfl (hb hby at_205) rfl rfl (l' := #[.val (.int p1), .val (.int p2), .val (.int p3), .val (.int p4), .val (.long p5), .second, .val (.int v4), .val (.int (1 : Int32)), .val (.int (0 : Int32)), .val (.int v41), .val .null, .val (.int v195), .val (.int v202), .val .null, .unset, .unset, .unset, .unset, .unset, .unset, .unset, .unset, .unset, .unset, .unset]) rfl (XS.iconst X30.here hx rfl (hb hby at_207) (XS.istore X30.here hx rfl (hb hby at_208) rfl (l' := #[.val (.int p1), .val (.int p2), .val (.int p3), .val (.int p4), .val (.long p5), .second, .val (.int v4), .val (.int (1 : Int32)), .val (.int (0 : Int32)), .val (.int v41), .val .null, .val (.int v195), .val (.int v202), .val .null, .val (.int (-1 : Int32)), .unset, .unset, .unset, .unset, .unset, .unset, .unset, .unset, .unset, .unset]) rfl (XS.iconst X30.here hx rfl (hb hby at_210) (XS.istore X30.here hx rfl (hb hby at_211) rfl (l' := #[.val (.int p1), .val (.int p2), .val (.int p3), .val (.int p4), .val (.long p5), .second, .val (.int v4), .val (.int (1 : Int32)), .val (.int (0 : Int32)), .val (.int v41), .val .null, .val (.int v195), .val (.int v202), .val .null, .val (.int (-1 : Int32)), .val (.int (-1 : Int32)), .unset, .unset, .unset, .unset, .unset, .unset, .unset, .unset, .unset]) rfl k)))))) ?_
        show GoW p e below QQ (T30.setTop (mkF m 213 #[.val (.int p1), .val (.int p2), .val (.int p3), .val (.int p4), .val (.long p5), .second, .val (.int v4), .val (.int (1 : Int32)), .val (.int (0 : Int32)), .val (.int v41), .val .null, .val (.int v195), .val (.int v202), .val .null, .val (.int (-1 : Int32)), .val (.int (-1 : Int32)), .unset, .unset, .unset, .unset, .unset, .unset, .unset, .unset, .unset] []))
        refine GoW.st (fun t k => XS.iconst X30.here hx rfl (hb hby at_213) (XS.istore X30.here hx rfl (hb hby at_214) rfl (l' := #[.val (.int p1), .val (.int p2), .val (.int p3), .val (.int p4), .val (.long p5), .second, .val (.int v4), .val (.int (1 : Int32)), .val (.int (0 : Int32)), .val (.int v41), .val .null, .val (.int v195), .val (.int v202), .val .null, .val (.int (-1 : Int32)), .val (.int (-1 : Int32)), .val (.int (0 : Int32)), .unset, .unset, .unset, .unset, .unset, .unset, .unset, .unset]) rfl (XS.iload X30.here hx rfl (hb hby at_216) rfl k))) ?_
        show GoW p e below QQ (T30.setTop (mkF m 218 #[.val (.int p1), .val (.int p2), .val (.int p3), .val (.int p4), .val (.long p5), .second, .val (.int v4), .val (.int (1 : Int32)), .val (.int (0 : Int32)), .val (.int v41), .val .null, .val (.int v195), .val (.int v202), .val .null, .val (.int (-1 : Int32)), .val (.int (-1 : Int32)), .val (.int (0 : Int32)), .unset, .unset, .unset, .unset, .unset, .unset, .unset, .unset] [(.int (1 : Int32))]))
        have hc218 : ¬ ((1 : Int32) = (0 : Int32)) := by decide
        refine GoW.st (fun t k => XS.ifNo X30.here hx rfl (hb hby at_218) rfl ((if0 _ _).trans (feq hc218).1) (XS.iload X30.here hx rfl (hb hby at_221) rfl k)) ?_
        show GoW p e below QQ (T30.setTop (mkF m 223 #[.val (.int p1), .val (.int p2), .val (.int p3), .val (.int p4), .val (.long p5), .second, .val (.int v4), .val (.int (1 : Int32)), .val (.int (0 : Int32)), .val (.int v41), .val .null, .val (.int v195), .val (.int v202), .val .null, .val (.int (-1 : Int32)), .val (.int (-1 : Int32)), .val (.int (0 : Int32)), .unset, .unset, .unset, .unset, .unset, .unset, .unset, .unset] [(.int (0 : Int32))]))
        have hc223 : (0 : Int32) = (0 : Int32) := by decide
        refine GoW.st (fun t k => XS.ifNo X30.here hx rfl (hb hby at_223) rfl ((if0 _ _).trans (teq hc223).2) (XS.iload X30.here hx rfl (hb hby at_226) rfl k)) ?_
        show GoW p e below QQ (T30.setTop (mkF m 228 #[.val (.int p1), .val (.int p2), .val (.int p3), .val (.int p4), .val (.long p5), .second, .val (.int v4), .val (.int (1 : Int32)), .val (.int (0 : Int32)), .val (.int v41), .val .null, .val (.int v195), .val (.int v202), .val .null, .val (.int (-1 : Int32)), .val (.int (-1 : Int32)), .val (.int (0 : Int32)), .unset, .unset, .unset, .unset, .unset, .unset, .unset, .unset] [(.int v41)]))
        by_cases hc228 : v41 = (0 : Int32)
        · skip
          refine GoW.st (fun t k => XS.ifYes X30.here hx rfl (pc0 := 228) (pc' := 329) rfl (hb hby at_228) rfl ((if0 _ _).trans (teq hc228).1) (by decide) (by decide) k) ?_
          show GoW p e below QQ (T30.setTop (mkF m 329 #[.val (.int p1), .val (.int p2), .val (.int p3), .val (.int p4), .val (.long p5), .second, .val (.int v4), .val (.int (1 : Int32)), .val (.int (0 : Int32)), .val (.int v41), .val .null, .val (.int v195), .val (.int v202), .val .null, .val (.int (-1 : Int32)), .val (.int (-1 : Int32)), .val (.int (0 : Int32)), .unset, .unset, .unset, .unset, .unset, .unset, .unset, .unset] []))
          have hi228 : v41.toInt = 0 := (congrArg Int32.toInt hc228)
          refine GoW.st (fun t k => XS.iload X30.here hx rfl (hb hby at_329) rfl (XS.iload X30.here hx rfl (hb hby at_331) rfl (XS.isub X30.here hx rfl (hb hby at_333) rfl (XS.istore X30.here hx rfl (hb hby at_334) rfl (l' := #[.val (.int p1), .val (.int p2), .val (.int p3), .val (.int p4), .val (.long p5), .second, .val (.int v4), .val (.int (1 : Int32)), .val (.int (0 : Int32)), .val (.int v41), .val .null, .val (.int v195), .val (.int v202), .val .null, .val (.int (-1 : Int32)), .val (.int (-1 : Int32)), .val (.int (0 : Int32)), .val (.int (v4 - (0 : Int32))), .unset, .unset, .unset, .unset, .unset, .unset, .unset]) rfl k)))) ?_
          show GoW p e below QQ (T30.setTop (mkF m 336 #[.val (.int p1), .val (.int p2), .val (.int p3), .val (.int p4), .val (.long p5), .second, .val (.int v4), .val (.int (1 : Int32)), .val (.int (0 : Int32)), .val (.int v41), .val .null, .val (.int v195), .val (.int v202), .val .null, .val (.int (-1 : Int32)), .val (.int (-1 : Int32)), .val (.int (0 : Int32)), .val (.int (v4 - (0 : Int32))), .unset, .unset, .unset, .unset, .unset, .unset, .unset] []))
          generalize hv334 : (v4 - (0 : Int32)) = v334
          have szA := c_isub v4 (0 : Int32)
          have szR := rng32 (v4 - (0 : Int32))
          rw [hv334] at szA szR
          have zk : (0 : Int32).toInt = 0 := rfl
          have sz0 : v334.toInt = v4.toInt - 0 := by omega
          refine GoW.st (fun t k => XS.iload X30.here hx rfl (hb hby at_336) rfl k) ?_
          show GoW p e below QQ (T30.setTop (mkF m 338 #[.val (.int p1), .val (.int p2), .val (.int p3), .val (.int p4), .val (.long p5), .second, .val (.int v4), .val (.int (1 : Int32)), .val (.int (0 : Int32)), .val (.int v41), .val .null, .val (.int v195), .val (.int v202), .val .null, .val (.int (-1 : Int32)), .val (.int (-1 : Int32)), .val (.int (0 : Int32)), .val (.int v334), .unset, .unset, .unset, .unset, .unset, .unset, .unset] [(.int v334)]))
          by_cases hc338 : (0 : Int32) < v334
          · skip
            refine GoW.st (fun t k => XS.ifYes X30.here hx rfl (pc0 := 338) (pc' := 343) rfl (hb hby at_338) rfl ((if0 _ _).trans (tlt hc338).2.2.1) (by decide) (by decide) k) ?_
            show GoW p e below QQ (T30.setTop (mkF m 343 #[.val (.int p1), .val (.int p2), .val (.int p3), .val (.int p4), .val (.long p5), .second, .val (.int v4), .val (.int (1 : Int32)), .val (.int (0 : Int32)), .val (.int v41), .val .null, .val (.int v195), .val (.int v202), .val .null, .val (.int (-1 : Int32)), .val (.int (-1 : Int32)), .val (.int (0 : Int32)), .val (.int v334), .unset, .unset, .unset, .unset, .unset, .unset, .unset] []))
            have hi338 : 0 < v334.toInt := (Int32.lt_iff_toInt_lt.mp hc338)
            have szp : 0 < v334.toInt := hi338
            have nzL : (v334.toInt64) ≠ 0 := fun q => by
              have q2 := congrArg Int64.toInt q
              rw [c_i2l] at q2
              have z : (0 : Int64).toInt = 0 := rfl
              omega
            refine GoW.st (fun t k => XS.lconst X30.here hx rfl (hb hby at_343) (XS.lload X30.here hx rfl (hb hby at_344) rfl (X30.ldc2Long hx hown (mvT hZ (hw _ (List.mem_of_getElem? (i := 6) rfl))) (g := (mkF m 346 #[.val (.int p1), .val (.int p2), .val (.int p3), .val (.int p4), .val (.long p5), .second, .val (.int v4), .val (.int (1 : Int32)), .val (.int (0 : Int32)), .val (.int v41), .val .null, .val (.int v195), .val (.int v202), .val .null, .val (.int (-1 : Int32)), .val (.int (-1 : Int32)), .val (.int (0 : Int32)), .val (.int v334), .unset, .unset, .unset, .unset, .unset, .unset, .unset] [(.long p5), (.long (1 : Int64))])) rfl (hb hby at_346) t (XS.land X30.here hx rfl (hb hby at_349) rfl (XS.iload X30.here hx rfl (hb hby at_350) rfl (XS.i2l X30.here hx rfl (hb hby at_352) rfl k)))))) ?_
            show GoW p e below QQ (T30.setTop (mkF m 353 #[.val (.int p1), .val (.int p2), .val (.int p3), .val (.int p4), .val (.long p5), .second, .val (.int v4), .val (.int (1 : Int32)), .val (.int (0 : Int32)), .val (.int v41), .val .null, .val (.int v195), .val (.int v202), .val .null, .val (.int (-1 : Int32)), .val (.int (-1 : Int32)), .val (.int (0 : Int32)), .val (.int v334), .unset, .unset, .unset, .unset, .unset, .unset, .unset] [(.long (v334.toInt64)), (.long (p5 &&& (9223372036854775807 : Int64))), (.long (1 : Int64))]))
            refine GoW.st (fun t k => lremM X30 hx rfl (hb hby at_353) rfl nzL (XS.ladd X30.here hx rfl (hb hby at_354) rfl (XS.lstore X30.here hx rfl (hb hby at_355) rfl (l' := #[.val (.int p1), .val (.int p2), .val (.int p3), .val (.int p4), .val (.long p5), .second, .val (.int v4), .val (.int (1 : Int32)), .val (.int (0 : Int32)), .val (.int v41), .val .null, .val (.int v195), .val (.int v202), .val .null, .val (.int (-1 : Int32)), .val (.int (-1 : Int32)), .val (.int (0 : Int32)), .val (.int v334), .val (.long ((1 : Int64) + ((p5 &&& (9223372036854775807 : Int64)) % (v334.toInt64)))), .second, .unset, .unset, .unset, .unset, .unset]) rfl k))) ?_
            show GoW p e below QQ (T30.setTop (mkF m 357 #[.val (.int p1), .val (.int p2), .val (.int p3), .val (.int p4), .val (.long p5), .second, .val (.int v4), .val (.int (1 : Int32)), .val (.int (0 : Int32)), .val (.int v41), .val .null, .val (.int v195), .val (.int v202), .val .null, .val (.int (-1 : Int32)), .val (.int (-1 : Int32)), .val (.int (0 : Int32)), .val (.int v334), .val (.long ((1 : Int64) + ((p5 &&& (9223372036854775807 : Int64)) % (v334.toInt64)))), .second, .unset, .unset, .unset, .unset, .unset] []))
            generalize hv355 : ((1 : Int64) + ((p5 &&& (9223372036854775807 : Int64)) % (v334.toInt64))) = v355
            have poA := own_posf p5 v334 szp
            rw [hv355] at poA
            have ix := own_ixr v202 v355 (by omega) (by omega)
            obtain ⟨T31, h31, X31, e31, E31, A31, D31, -, st31⟩ := newO X30 hx hZ hown (hw _ (List.mem_of_getElem? (i := 7) rfl)) (hw _ (List.mem_of_getElem? (i := 8) rfl)) (hw _ (List.mem_of_getElem? (i := 9) rfl)) hh30 (g := (mkF m 357 #[.val (.int p1), .val (.int p2), .val (.int p3), .val (.int p4), .val (.long p5), .second, .val (.int v4), .val (.int (1 : Int32)), .val (.int (0 : Int32)), .val (.int v41), .val .null, .val (.int v195), .val (.int v202), .val .null, .val (.int (-1 : Int32)), .val (.int (-1 : Int32)), .val (.int (0 : Int32)), .val (.int v334), .val (.long v355), .second, .unset, .unset, .unset, .unset, .unset] [])) rfl (hb hby at_357) (by decide) (by decide)
            obtain ⟨b31, g31⟩ : ∃ z, z = h0.size := ⟨_, rfl⟩
            rw [← g31] at A31 D31 st31
            refine GoW.st st31 ?_
            have gg31 : n0 ≤ b31 := Nat.le_trans (Nat.le_trans Z0 K0.1) (Nat.le_of_eq g31.symm)
            have sz31 : h0.size ≤ b31 := Nat.le_trans K0.1 (Nat.le_of_eq g31.symm)
            have K31 : Keep h0 h31 [] := K0.ext E31
            have F31_context : Fld Z h31 b31 "com/example/hike/hike/Proximity$Group" "context" "I" (.int (0 : Int32)) := D31 (Or.inr (hw _ (List.mem_of_getElem? (i := 22) rfl))) (ty := .int) (by decide)
            have F31_order : Fld Z h31 b31 "com/example/hike/hike/Proximity$Group" "order" "[I" .null := D31 (Or.inr (hw _ (List.mem_of_getElem? (i := 24) rfl))) (ty := (.array .int)) (by decide)
            have F31_from : Fld Z h31 b31 "com/example/hike/hike/Proximity$Group" "from" "I" (.int (0 : Int32)) := D31 (Or.inr (hw _ (List.mem_of_getElem? (i := 26) rfl))) (ty := .int) (by decide)
            have F31_to : Fld Z h31 b31 "com/example/hike/hike/Proximity$Group" "to" "I" (.int (0 : Int32)) := D31 (Or.inr (hw _ (List.mem_of_getElem? (i := 28) rfl))) (ty := .int) (by decide)
            have F31_reverse : Fld Z h31 b31 "com/example/hike/hike/Proximity$Group" "reverse" "Z" (.int (0 : Int32)) := D31 (Or.inr (hw _ (List.mem_of_getElem? (i := 30) rfl))) (ty := .boolean) (by decide)
            have F31_skipped : Fld Z h31 b31 "com/example/hike/hike/Proximity$Group" "skipped" "[I" .null := D31 (Or.inr (hw _ (List.mem_of_getElem? (i := 32) rfl))) (ty := (.array .int)) (by decide)
            show GoW p e below QQ (T31.setTop (mkF m 360 #[.val (.int p1), .val (.int p2), .val (.int p3), .val (.int p4), .val (.long p5), .second, .val (.int v4), .val (.int (1 : Int32)), .val (.int (0 : Int32)), .val (.int v41), .val .null, .val (.int v195), .val (.int v202), .val .null, .val (.int (-1 : Int32)), .val (.int (-1 : Int32)), .val (.int (0 : Int32)), .val (.int v334), .val (.long v355), .second, .unset, .unset, .unset, .unset, .unset] [(.ref b31)]))
            refine GoW.st (fun t k => XS.dup X31.here hx rfl (hb hby at_360) rfl rfl (XS.iloadN X31.here hx rfl (hb hby at_361) rfl (XS.aload X31.here hx rfl (hb hby at_362) rfl rfl (XS.iload X31.here hx rfl (hb hby at_364) rfl (XS.iload X31.here hx rfl (hb hby at_366) rfl (XS.iload X31.here hx rfl (hb hby at_368) rfl k)))))) ?_
            show GoW p e below QQ (T31.setTop (mkF m 370 #[.val (.int p1), .val (.int p2), .val (.int p3), .val (.int p4), .val (.long p5), .second, .val (.int v4), .val (.int (1 : Int32)), .val (.int (0 : Int32)), .val (.int v41), .val .null, .val (.int v195), .val (.int v202), .val .null, .val (.int (-1 : Int32)), .val (.int (-1 : Int32)), .val (.int (0 : Int32)), .val (.int v334), .val (.long v355), .second, .unset, .unset, .unset, .unset, .unset] [(.int (1 : Int32)), (.int v202), (.int v195), .null, (.int p3), (.ref b31), (.ref b31)]))
            refine GoW.st (fun t k => XS.aload X31.here hx rfl (hb hby at_370) rfl rfl k) ?_
            show GoW p e below QQ (T31.setTop (mkF m 372 #[.val (.int p1), .val (.int p2), .val (.int p3), .val (.int p4), .val (.long p5), .second, .val (.int v4), .val (.int (1 : Int32)), .val (.int (0 : Int32)), .val (.int v41), .val .null, .val (.int v195), .val (.int v202), .val .null, .val (.int (-1 : Int32)), .val (.int (-1 : Int32)), .val (.int (0 : Int32)), .val (.int v334), .val (.long v355), .second, .unset, .unset, .unset, .unset, .unset] [.null, (.int (1 : Int32)), (.int v202), (.int v195), .null, (.int p3), (.ref b31), (.ref b31)]))
            obtain ⟨_, _, ⟨T33, zL33, zk33, zn33⟩, -, X33, ⟨Lc33, hQ33, zl33, zy33, zz33⟩, st33⟩ := X31.specialBack hx (y := (⟨"com/example/hike/hike/Proximity$Group", "<init>", "(I[IIIZ[I)V"⟩ : MethodName)) rfl hown (mvT hZ (hw _ (List.mem_of_getElem? (i := 10) rfl))) (mvT hZ (hw _ (List.mem_of_getElem? (i := 11) rfl))) (mvT hZ (hw _ (List.mem_of_getElem? (i := 12) rfl))) (by decide) (backOf (W := 1) (rm2_n1 l Z a0 hw [] b31 p3 v195 v202 h31 n0 (Nat.le_trans Z0 K31.1) A31 gg31 F31_context F31_order F31_from F31_to F31_reverse F31_skipped) hZ (hw _ (List.mem_of_getElem? (i := 12) rfl)) (hw _ (List.mem_of_getElem? (i := 9) rfl)) (by decide) (by decide)) (g := (mkF m 372 #[.val (.int p1), .val (.int p2), .val (.int p3), .val (.int p4), .val (.long p5), .second, .val (.int v4), .val (.int (1 : Int32)), .val (.int (0 : Int32)), .val (.int v41), .val .null, .val (.int v195), .val (.int v202), .val .null, .val (.int (-1 : Int32)), .val (.int (-1 : Int32)), .val (.int (0 : Int32)), .val (.int v334), .val (.long v355), .second, .unset, .unset, .unset, .unset, .unset] [.null, (.int (1 : Int32)), (.int v202), (.int v195), .null, (.int p3), (.ref b31), (.ref b31)])) rfl (by rw [hml]; rfl) (Steps.refl _) (a := b31) (argsL := [(.int p3), .null, (.int v195), (.int v202), (.int (1 : Int32)), .null]) (rest := [(.ref b31)]) (lenOf pd_2 rfl) rfl (by show 2 * 0 + _ ≤ _; exact Nat.le_of_eq rfl) (hb hby at_372) (fun _ _ => ⟨rfl, e31, (by decide : 1 + 0 ≤ _), (by decide : 6 + 0 ≤ _)⟩)
            dsimp only [Pt.U, Pt.locs, Pt.cells, Pt.slots] at X33 zl33 zy33 zz33 st33 hQ33
            subst zl33 zy33 zz33
            obtain ⟨rfl, Nq33, Kq33, p33_0, p33_1, p33_2, p33_3, p33_4, p33_5⟩ := hQ33
            have N33 := Fr.app N30 Nq33
            refine GoW.st (fun t k => st33.trans k) ?_
            have K33 : Keep h0 T33.heap [] := K31.trans Kq33 (allS (Or.inr sz31) all0)
            show GoW p e below QQ (T33.setTop (mkF m 375 #[.val (.int p1), .val (.int p2), .val (.int p3), .val (.int p4), .val (.long p5), .second, .val (.int v4), .val (.int (1 : Int32)), .val (.int (0 : Int32)), .val (.int v41), .val .null, .val (.int v195), .val (.int v202), .val .null, .val (.int (-1 : Int32)), .val (.int (-1 : Int32)), .val (.int (0 : Int32)), .val (.int v334), .val (.long v355), .second, .unset, .unset, .unset, .unset, .unset] [(.ref b31)]))
            refine GoW.st (fun t k => XS.astore X33.here hx rfl (hb hby at_375) rfl rfl (l' := #[.val (.int p1), .val (.int p2), .val (.int p3), .val (.int p4), .val (.long p5), .second, .val (.int v4), .val (.int (1 : Int32)), .val (.int (0 : Int32)), .val (.int v41), .val .null, .val (.int v195), .val (.int v202), .val .null, .val (.int (-1 : Int32)), .val (.int (-1 : Int32)), .val (.int (0 : Int32)), .val (.int v334), .val (.long v355), .second, .val (.ref b31), .unset, .unset, .unset, .unset]) rfl (XS.aload X33.here hx rfl (hb hby at_377) rfl rfl (XS.lload X33.here hx rfl (hb hby at_379) rfl k))) ?_
            show GoW p e below QQ (T33.setTop (mkF m 381 #[.val (.int p1), .val (.int p2), .val (.int p3), .val (.int p4), .val (.long p5), .second, .val (.int v4), .val (.int (1 : Int32)), .val (.int (0 : Int32)), .val (.int v41), .val .null, .val (.int v195), .val (.int v202), .val .null, .val (.int (-1 : Int32)), .val (.int (-1 : Int32)), .val (.int (0 : Int32)), .val (.int v334), .val (.long v355), .second, .val (.ref b31), .unset, .unset, .unset, .unset] [(.long v355), (.ref b31)]))
            obtain ⟨cq35, kq35, qa35, qb35, qc35⟩ := isOf hZ rfl p33_0
            obtain ⟨_, _, ⟨T35, zL35, zk35, zn35⟩, -, X35, ⟨Lc35, hQ35, zl35, zy35, zz35⟩, st35⟩ := X33.virtualBack hx (y := (⟨"com/example/hike/hike/Proximity$Group", "at", "(J)I"⟩ : MethodName)) (z := (⟨"com/example/hike/hike/Proximity$Group", "at", "(J)I"⟩ : MethodName)) hown (mvT hZ (hw _ (List.mem_of_getElem? (i := 33) rfl))) (mvT hZ (hw _ (List.mem_of_getElem? (i := 34) rfl))) (notFace_of_selects (args := #[]) (mvT hZ (hw _ (List.mem_of_getElem? (i := 36) rfl)))) (mvT hZ (hw _ (List.mem_of_getElem? (i := 36) rfl))) (mvT hZ (hw _ (List.mem_of_getElem? (i := 35) rfl))) (by decide) (backOf (W := 0) (rm5_n1 l Z a0 hw [] b31 v355 v195 v202 T33.heap n0 (Nat.le_trans Z0 K33.1) p33_4 p33_2 p33_3 p33_5 p33_1) hZ (hw _ (List.mem_of_getElem? (i := 37) rfl)) (hw _ (List.mem_of_getElem? (i := 9) rfl)) (by decide) (by decide)) qa35 qc35 (g := (mkF m 381 #[.val (.int p1), .val (.int p2), .val (.int p3), .val (.int p4), .val (.long p5), .second, .val (.int v4), .val (.int (1 : Int32)), .val (.int (0 : Int32)), .val (.int v41), .val .null, .val (.int v195), .val (.int v202), .val .null, .val (.int (-1 : Int32)), .val (.int (-1 : Int32)), .val (.int (0 : Int32)), .val (.int v334), .val (.long v355), .second, .val (.ref b31), .unset, .unset, .unset, .unset] [(.long v355), (.ref b31)])) rfl (by rw [hml]; rfl) (Steps.refl _) (argsL := [(.long v355)]) (rest := []) (lenOf pd_3 rfl) rfl (by show 2 * 0 + _ ≤ _; exact Nat.le_of_eq rfl) (hb hby at_381) (fun _ _ => ⟨rfl, rfl, (by decide : 1 + 0 ≤ _), (by decide : 6 + 0 ≤ _)⟩)
            dsimp only [Pt.U, Pt.locs, Pt.cells, Pt.slots] at X35 zl35 zy35 zz35 st35 hQ35
            subst zl35 zy35 zz35
            obtain ⟨rfl, Nq35, hh35⟩ := hQ35
            have N35 := Fr.app N33 Nq35
            refine GoW.st (fun t k => st35.trans k) ?_
            show GoW p e below QQ (T35.setTop (mkF m 384 #[.val (.int p1), .val (.int p2), .val (.int p3), .val (.int p4), .val (.long p5), .second, .val (.int v4), .val (.int (1 : Int32)), .val (.int (0 : Int32)), .val (.int v41), .val .null, .val (.int v195), .val (.int v202), .val .null, .val (.int (-1 : Int32)), .val (.int (-1 : Int32)), .val (.int (0 : Int32)), .val (.int v334), .val (.long v355), .second, .val (.ref b31), .unset, .unset, .unset, .unset] [(.int ((v202.toInt64 - v355).toInt32))]))
            refine GoW.st (fun t k => XS.istore X35.here hx rfl (hb hby at_384) rfl (l' := #[.val (.int p1), .val (.int p2), .val (.int p3), .val (.int p4), .val (.long p5), .second, .val (.int v4), .val (.int (1 : Int32)), .val (.int (0 : Int32)), .val (.int v41), .val .null, .val (.int v195), .val (.int v202), .val .null, .val (.int (-1 : Int32)), .val (.int (-1 : Int32)), .val (.int (0 : Int32)), .val (.int v334), .val (.long v355), .second, .val (.ref b31), .val (.int ((v202.toInt64 - v355).toInt32)), .unset, .unset, .unset]) rfl k) ?_
            show GoW p e below QQ (T35.setTop (mkF m 386 #[.val (.int p1), .val (.int p2), .val (.int p3), .val (.int p4), .val (.long p5), .second, .val (.int v4), .val (.int (1 : Int32)), .val (.int (0 : Int32)), .val (.int v41), .val .null, .val (.int v195), .val (.int v202), .val .null, .val (.int (-1 : Int32)), .val (.int (-1 : Int32)), .val (.int (0 : Int32)), .val (.int v334), .val (.long v355), .second, .val (.ref b31), .val (.int ((v202.toInt64 - v355).toInt32)), .unset, .unset, .unset] []))
            generalize hv384 : ((v202.toInt64 - v355).toInt32) = v384
            rw [hv384] at ix
            refine GoW.st (fun t k => XS.iload X35.here hx rfl (hb hby at_386) rfl k) ?_
            show GoW p e below QQ (T35.setTop (mkF m 388 #[.val (.int p1), .val (.int p2), .val (.int p3), .val (.int p4), .val (.long p5), .second, .val (.int v4), .val (.int (1 : Int32)), .val (.int (0 : Int32)), .val (.int v41), .val .null, .val (.int v195), .val (.int v202), .val .null, .val (.int (-1 : Int32)), .val (.int (-1 : Int32)), .val (.int (0 : Int32)), .val (.int v334), .val (.long v355), .second, .val (.ref b31), .val (.int v384), .unset, .unset, .unset] [(.int (0 : Int32))]))
            have hc388 : (0 : Int32) = (0 : Int32) := by decide
            refine GoW.st (fun t k => XS.ifYes X35.here hx rfl (pc0 := 388) (pc' := 478) rfl (hb hby at_388) rfl ((if0 _ _).trans (teq hc388).1) (by decide) (by decide) (XS.iload X35.here hx rfl (hb hby at_478) rfl (XS.iload X35.here hx rfl (hb hby at_480) rfl k))) ?_
            show GoW p e below QQ (T35.setTop (mkF m 482 #[.val (.int p1), .val (.int p2), .val (.int p3), .val (.int p4), .val (.long p5), .second, .val (.int v4), .val (.int (1 : Int32)), .val (.int (0 : Int32)), .val (.int v41), .val .null, .val (.int v195), .val (.int v202), .val .null, .val (.int (-1 : Int32)), .val (.int (-1 : Int32)), .val (.int (0 : Int32)), .val (.int v334), .val (.long v355), .second, .val (.ref b31), .val (.int v384), .unset, .unset, .unset] [(.int v195), (.int v384)]))
            have hc482 : ¬ (v384 < v195) := by
              exact own_nlt_of (by omega)
            refine GoW.st (fun t k => XS.icmpNo X35.here hx rfl (hb hby at_482) rfl (flt hc482).1 k) ?_
            show GoW p e below QQ (T35.setTop (mkF m 485 #[.val (.int p1), .val (.int p2), .val (.int p3), .val (.int p4), .val (.long p5), .second, .val (.int v4), .val (.int (1 : Int32)), .val (.int (0 : Int32)), .val (.int v41), .val .null, .val (.int v195), .val (.int v202), .val .null, .val (.int (-1 : Int32)), .val (.int (-1 : Int32)), .val (.int (0 : Int32)), .val (.int v334), .val (.long v355), .second, .val (.ref b31), .val (.int v384), .unset, .unset, .unset] []))
            have hi482 : ¬ (v384.toInt < v195.toInt) := (fun q => hc482 (Int32.lt_iff_toInt_lt.mpr q))
            refine GoW.st (fun t k => XS.iload X35.here hx rfl (hb hby at_485) rfl (XS.iload X35.here hx rfl (hb hby at_487) rfl k)) ?_
            show GoW p e below QQ (T35.setTop (mkF m 489 #[.val (.int p1), .val (.int p2), .val (.int p3), .val (.int p4), .val (.long p5), .second, .val (.int v4), .val (.int (1 : Int32)), .val (.int (0 : Int32)), .val (.int v41), .val .null, .val (.int v195), .val (.int v202), .val .null, .val (.int (-1 : Int32)), .val (.int (-1 : Int32)), .val (.int (0 : Int32)), .val (.int v334), .val (.long v355), .second, .val (.ref b31), .val (.int v384), .unset, .unset, .unset] [(.int v202), (.int v384)]))
            have hc489 : v384 < v202 := by
              exact own_lt_of (by omega)
            refine GoW.st (fun t k => XS.icmpNo X35.here hx rfl (hb hby at_489) rfl (tlt hc489).2.1 k) ?_
            show GoW p e below QQ (T35.setTop (mkF m 492 #[.val (.int p1), .val (.int p2), .val (.int p3), .val (.int p4), .val (.long p5), .second, .val (.int v4), .val (.int (1 : Int32)), .val (.int (0 : Int32)), .val (.int v41), .val .null, .val (.int v195), .val (.int v202), .val .null, .val (.int (-1 : Int32)), .val (.int (-1 : Int32)), .val (.int (0 : Int32)), .val (.int v334), .val (.long v355), .second, .val (.ref b31), .val (.int v384), .unset, .unset, .unset] []))
            have hi489 : v384.toInt < v202.toInt := (Int32.lt_iff_toInt_lt.mp hc489)
            refine GoW.st (fun t k => XS.iload X35.here hx rfl (hb hby at_492) rfl (XS.iload X35.here hx rfl (hb hby at_494) rfl k)) ?_
            show GoW p e below QQ (T35.setTop (mkF m 496 #[.val (.int p1), .val (.int p2), .val (.int p3), .val (.int p4), .val (.long p5), .second, .val (.int v4), .val (.int (1 : Int32)), .val (.int (0 : Int32)), .val (.int v41), .val .null, .val (.int v195), .val (.int v202), .val .null, .val (.int (-1 : Int32)), .val (.int (-1 : Int32)), .val (.int (0 : Int32)), .val (.int v334), .val (.long v355), .second, .val (.ref b31), .val (.int v384), .unset, .unset, .unset] [(.int (-1 : Int32)), (.int v384)]))
            have hc496 : ¬ (v384 = (-1 : Int32)) := by
              exact own_ne_of (by omega)
            refine GoW.st (fun t k => XS.icmpNo X35.here hx rfl (hb hby at_496) rfl (feq hc496).1 k) ?_
            show GoW p e below QQ (T35.setTop (mkF m 499 #[.val (.int p1), .val (.int p2), .val (.int p3), .val (.int p4), .val (.long p5), .second, .val (.int v4), .val (.int (1 : Int32)), .val (.int (0 : Int32)), .val (.int v41), .val .null, .val (.int v195), .val (.int v202), .val .null, .val (.int (-1 : Int32)), .val (.int (-1 : Int32)), .val (.int (0 : Int32)), .val (.int v334), .val (.long v355), .second, .val (.ref b31), .val (.int v384), .unset, .unset, .unset] []))
            have hi496 : ¬ (v384.toInt = -1) := (fun q => hc496 (Int32.toInt_inj.mp q))
            refine GoW.st (fun t k => XS.iload X35.here hx rfl (hb hby at_499) rfl (XS.iload X35.here hx rfl (hb hby at_501) rfl k)) ?_
            show GoW p e below QQ (T35.setTop (mkF m 503 #[.val (.int p1), .val (.int p2), .val (.int p3), .val (.int p4), .val (.long p5), .second, .val (.int v4), .val (.int (1 : Int32)), .val (.int (0 : Int32)), .val (.int v41), .val .null, .val (.int v195), .val (.int v202), .val .null, .val (.int (-1 : Int32)), .val (.int (-1 : Int32)), .val (.int (0 : Int32)), .val (.int v334), .val (.long v355), .second, .val (.ref b31), .val (.int v384), .unset, .unset, .unset] [(.int (-1 : Int32)), (.int v384)]))
            have hc503 : ¬ (v384 = (-1 : Int32)) := by
              exact own_ne_of (by omega)
            refine GoW.st (fun t k => XS.icmpYes X35.here hx rfl (pc0 := 503) (pc' := 508) rfl (hb hby at_503) rfl (feq hc503).2 (by decide) (by decide) k) ?_
            show GoW p e below QQ (T35.setTop (mkF m 508 #[.val (.int p1), .val (.int p2), .val (.int p3), .val (.int p4), .val (.long p5), .second, .val (.int v4), .val (.int (1 : Int32)), .val (.int (0 : Int32)), .val (.int v41), .val .null, .val (.int v195), .val (.int v202), .val .null, .val (.int (-1 : Int32)), .val (.int (-1 : Int32)), .val (.int (0 : Int32)), .val (.int v334), .val (.long v355), .second, .val (.ref b31), .val (.int v384), .unset, .unset, .unset] []))
            have hi503 : ¬ (v384.toInt = -1) := (fun q => hc503 (Int32.toInt_inj.mp q))
            refine GoW.st (fun t k => XS.iload X35.here hx rfl (hb hby at_508) rfl k) ?_
            show GoW p e below QQ (T35.setTop (mkF m 510 #[.val (.int p1), .val (.int p2), .val (.int p3), .val (.int p4), .val (.long p5), .second, .val (.int v4), .val (.int (1 : Int32)), .val (.int (0 : Int32)), .val (.int v41), .val .null, .val (.int v195), .val (.int v202), .val .null, .val (.int (-1 : Int32)), .val (.int (-1 : Int32)), .val (.int (0 : Int32)), .val (.int v334), .val (.long v355), .second, .val (.ref b31), .val (.int v384), .unset, .unset, .unset] [(.int (1 : Int32))]))
            have hc510 : ¬ ((1 : Int32) = (0 : Int32)) := by decide
            refine GoW.st (fun t k => XS.ifYes X35.here hx rfl (pc0 := 510) (pc' := 533) rfl (hb hby at_510) rfl ((if0 _ _).trans (feq hc510).2) (by decide) (by decide) (XS.iload X35.here hx rfl (hb hby at_533) rfl (XS.iload X35.here hx rfl (hb hby at_535) rfl k))) ?_
            show GoW p e below QQ (T35.setTop (mkF m 537 #[.val (.int p1), .val (.int p2), .val (.int p3), .val (.int p4), .val (.long p5), .second, .val (.int v4), .val (.int (1 : Int32)), .val (.int (0 : Int32)), .val (.int v41), .val .null, .val (.int v195), .val (.int v202), .val .null, .val (.int (-1 : Int32)), .val (.int (-1 : Int32)), .val (.int (0 : Int32)), .val (.int v334), .val (.long v355), .second, .val (.ref b31), .val (.int v384), .unset, .unset, .unset] [(.int v384), (.int (-1 : Int32))]))
            have hc537 : ¬ (v384 < (-1 : Int32)) := by
              exact own_nlt_of (by omega)
            refine GoW.st (fun t k => XS.icmpYes X35.here hx rfl (pc0 := 537) (pc' := 544) rfl (hb hby at_537) rfl (flt hc537).2.2.2 (by decide) (by decide) k) ?_
            show GoW p e below QQ (T35.setTop (mkF m 544 #[.val (.int p1), .val (.int p2), .val (.int p3), .val (.int p4), .val (.long p5), .second, .val (.int v4), .val (.int (1 : Int32)), .val (.int (0 : Int32)), .val (.int v41), .val .null, .val (.int v195), .val (.int v202), .val .null, .val (.int (-1 : Int32)), .val (.int (-1 : Int32)), .val (.int (0 : Int32)), .val (.int v334), .val (.long v355), .second, .val (.ref b31), .val (.int v384), .unset, .unset, .unset] []))
            have hi537 : ¬ (v384.toInt < -1) := (fun q => hc537 (Int32.lt_iff_toInt_lt.mpr q))
            refine GoW.st (fun t k => XS.iconst X35.here hx rfl (hb hby at_544) (XS.iload X35.here hx rfl (hb hby at_545) rfl (XS.iload X35.here hx rfl (hb hby at_547) rfl k))) ?_
            show GoW p e below QQ (T35.setTop (mkF m 549 #[.val (.int p1), .val (.int p2), .val (.int p3), .val (.int p4), .val (.long p5), .second, .val (.int v4), .val (.int (1 : Int32)), .val (.int (0 : Int32)), .val (.int v41), .val .null, .val (.int v195), .val (.int v202), .val .null, .val (.int (-1 : Int32)), .val (.int (-1 : Int32)), .val (.int (0 : Int32)), .val (.int v334), .val (.long v355), .second, .val (.ref b31), .val (.int v384), .unset, .unset, .unset] [(.int v384), (.int (-1 : Int32)), (.int (0 : Int32))]))
            have hc549 : ¬ (v384 < (-1 : Int32)) := by
              exact own_nlt_of (by omega)
            refine GoW.st (fun t k => XS.icmpYes X35.here hx rfl (pc0 := 549) (pc' := 556) rfl (hb hby at_549) rfl (flt hc549).2.2.2 (by decide) (by decide) k) ?_
            show GoW p e below QQ (T35.setTop (mkF m 556 #[.val (.int p1), .val (.int p2), .val (.int p3), .val (.int p4), .val (.long p5), .second, .val (.int v4), .val (.int (1 : Int32)), .val (.int (0 : Int32)), .val (.int v41), .val .null, .val (.int v195), .val (.int v202), .val .null, .val (.int (-1 : Int32)), .val (.int (-1 : Int32)), .val (.int (0 : Int32)), .val (.int v334), .val (.long v355), .second, .val (.ref b31), .val (.int v384), .unset, .unset, .unset] [(.int (0 : Int32))]))
            have hi549 : ¬ (v384.toInt < -1) := (fun q => hc549 (Int32.lt_iff_toInt_lt.mpr q))
            refine GoW.st (fun t k => XS.iconst X35.here hx rfl (hb hby at_556) (XS.iadd X35.here hx rfl (hb hby at_557) rfl (XS.istore X35.here hx rfl (hb hby at_558) rfl (l' := #[.val (.int p1), .val (.int p2), .val (.int p3), .val (.int p4), .val (.long p5), .second, .val (.int v4), .val (.int (1 : Int32)), .val (.int (0 : Int32)), .val (.int v41), .val .null, .val (.int v195), .val (.int v202), .val .null, .val (.int (-1 : Int32)), .val (.int (-1 : Int32)), .val (.int (0 : Int32)), .val (.int v334), .val (.long v355), .second, .val (.ref b31), .val (.int v384), .val (.int (0 : Int32)), .unset, .unset]) rfl (XS.iload X35.here hx rfl (hb hby at_560) rfl (XS.iconst X35.here hx rfl (hb hby at_562) (XS.isub X35.here hx rfl (hb hby at_563) rfl k)))))) ?_
            show GoW p e below QQ (T35.setTop (mkF m 564 #[.val (.int p1), .val (.int p2), .val (.int p3), .val (.int p4), .val (.long p5), .second, .val (.int v4), .val (.int (1 : Int32)), .val (.int (0 : Int32)), .val (.int v41), .val .null, .val (.int v195), .val (.int v202), .val .null, .val (.int (-1 : Int32)), .val (.int (-1 : Int32)), .val (.int (0 : Int32)), .val (.int v334), .val (.long v355), .second, .val (.ref b31), .val (.int v384), .val (.int (0 : Int32)), .unset, .unset] [(.int (v202 - (1 : Int32)))]))
            refine GoW.st (fun t k => XS.iload X35.here hx rfl (hb hby at_564) rfl (XS.isub X35.here hx rfl (hb hby at_566) rfl (XS.iload X35.here hx rfl (hb hby at_567) rfl (XS.isub X35.here hx rfl (hb hby at_569) rfl (XS.i2l X35.here hx rfl (hb hby at_570) rfl (XS.lload X35.here hx rfl (hb hby at_571) rfl k)))))) ?_
            show GoW p e below QQ (T35.setTop (mkF m 573 #[.val (.int p1), .val (.int p2), .val (.int p3), .val (.int p4), .val (.long p5), .second, .val (.int v4), .val (.int (1 : Int32)), .val (.int (0 : Int32)), .val (.int v41), .val .null, .val (.int v195), .val (.int v202), .val .null, .val (.int (-1 : Int32)), .val (.int (-1 : Int32)), .val (.int (0 : Int32)), .val (.int v334), .val (.long v355), .second, .val (.ref b31), .val (.int v384), .val (.int (0 : Int32)), .unset, .unset] [(.long v355), (.long ((((v202 - (1 : Int32)) - v384) - (0 : Int32)).toInt64))]))
            refine GoW.st (fun t k => XS.lconst X35.here hx rfl (hb hby at_573) (XS.lsub X35.here hx rfl (hb hby at_574) rfl (XS.lcmp X35.here hx rfl (hb hby at_575) rfl k))) ?_
            show GoW p e below QQ (T35.setTop (mkF m 576 #[.val (.int p1), .val (.int p2), .val (.int p3), .val (.int p4), .val (.long p5), .second, .val (.int v4), .val (.int (1 : Int32)), .val (.int (0 : Int32)), .val (.int v41), .val .null, .val (.int v195), .val (.int v202), .val .null, .val (.int (-1 : Int32)), .val (.int (-1 : Int32)), .val (.int (0 : Int32)), .val (.int v334), .val (.long v355), .second, .val (.ref b31), .val (.int v384), .val (.int (0 : Int32)), .unset, .unset] [(.int (lcmpW ((((v202 - (1 : Int32)) - v384) - (0 : Int32)).toInt64) (v355 - (1 : Int64))))]))
            have hc576 : ((((v202 - (1 : Int32)) - v384) - (0 : Int32)).toInt64) = (v355 - (1 : Int64)) := by
              have z1 : (1 : Int32).toInt = 1 := rfl
              have zL1 : (1 : Int64).toInt = 1 := rfl
              have za : (0 : Int32).toInt = 0 := rfl
              have x4 := c_lsub v355 1
              have y4 := rng64 (v355 - 1)
              have x1 := c_isub v202 1
              have y1 := rng32 (v202 - 1)
              have x2 := c_isub (v202 - 1) v384
              have y2 := rng32 ((v202 - 1) - v384)
              have x5 := c_isub ((v202 - 1) - v384) (0 : Int32)
              have y5 := rng32 (((v202 - 1) - v384) - (0 : Int32))
              have x3 := c_i2l (((v202 - 1) - v384) - (0 : Int32))
              apply own_eqL_of
              omega
            refine GoW.st (fun t k => XS.ifNo X35.here hx rfl (hb hby at_576) rfl ((if0 _ _).trans (teq ((lw_eq ((((v202 - (1 : Int32)) - v384) - (0 : Int32)).toInt64) (v355 - (1 : Int64))).mpr hc576)).2) k) ?_
            show GoW p e below QQ (T35.setTop (mkF m 579 #[.val (.int p1), .val (.int p2), .val (.int p3), .val (.int p4), .val (.long p5), .second, .val (.int v4), .val (.int (1 : Int32)), .val (.int (0 : Int32)), .val (.int v41), .val .null, .val (.int v195), .val (.int v202), .val .null, .val (.int (-1 : Int32)), .val (.int (-1 : Int32)), .val (.int (0 : Int32)), .val (.int v334), .val (.long v355), .second, .val (.ref b31), .val (.int v384), .val (.int (0 : Int32)), .unset, .unset] []))
            have hi576 : (((((v202 - (1 : Int32)) - v384) - (0 : Int32)).toInt64)).toInt = ((v355 - (1 : Int64))).toInt := (congrArg Int64.toInt hc576)
            refine GoW.st (fun t k => XS.iconst X35.here hx rfl (hb hby at_579) (XS.goto X35.here hx rfl (pc0 := 580) (pc' := 584) rfl (hb hby at_580) (by decide) (by decide) k)) ?_
            show GoW p e below QQ (T35.setTop (mkF m 584 #[.val (.int p1), .val (.int p2), .val (.int p3), .val (.int p4), .val (.long p5), .second, .val (.int v4), .val (.int (1 : Int32)), .val (.int (0 : Int32)), .val (.int v41), .val .null, .val (.int v195), .val (.int v202), .val .null, .val (.int (-1 : Int32)), .val (.int (-1 : Int32)), .val (.int (0 : Int32)), .val (.int v334), .val (.long v355), .second, .val (.ref b31), .val (.int v384), .val (.int (0 : Int32)), .unset, .unset] [(.int (1 : Int32))]))
            exact GoW.fin X35 (some (.int (nar .boolean (1 : Int32)))) (fun q => by rw [hret] at q; cases q) hlk hQ hh35 ⟨rfl, N35⟩ (by decide) (by decide) (fun fs hr => retN X35 hx (t := .boolean) hret (by simp) (hb hby at_584) hr)
          · skip
            refine GoW.st (fun t k => XS.ifNo X30.here hx rfl (hb hby at_338) rfl ((if0 _ _).trans (flt hc338).2.2.1) k) ?_
            show GoW p e below QQ (T30.setTop (mkF m 341 #[.val (.int p1), .val (.int p2), .val (.int p3), .val (.int p4), .val (.long p5), .second, .val (.int v4), .val (.int (1 : Int32)), .val (.int (0 : Int32)), .val (.int v41), .val .null, .val (.int v195), .val (.int v202), .val .null, .val (.int (-1 : Int32)), .val (.int (-1 : Int32)), .val (.int (0 : Int32)), .val (.int v334), .unset, .unset, .unset, .unset, .unset, .unset, .unset] []))
            have hi338 : ¬ (0 < v334.toInt) := (fun q => hc338 (Int32.lt_iff_toInt_lt.mpr q))
            refine GoW.st (fun t k => XS.iconst X30.here hx rfl (hb hby at_341) k) ?_
            show GoW p e below QQ (T30.setTop (mkF m 342 #[.val (.int p1), .val (.int p2), .val (.int p3), .val (.int p4), .val (.long p5), .second, .val (.int v4), .val (.int (1 : Int32)), .val (.int (0 : Int32)), .val (.int v41), .val .null, .val (.int v195), .val (.int v202), .val .null, .val (.int (-1 : Int32)), .val (.int (-1 : Int32)), .val (.int (0 : Int32)), .val (.int v334), .unset, .unset, .unset, .unset, .unset, .unset, .unset] [(.int (1 : Int32))]))
            exact GoW.fin X30 (some (.int (nar .boolean (1 : Int32)))) (fun q => by rw [hret] at q; cases q) hlk hQ hh30 ⟨rfl, N30⟩ (by decide) (by decide) (fun fs hr => retN X30 hx (t := .boolean) hret (by simp) (hb hby at_342) hr)
        · skip
          refine GoW.st (fun t k => XS.ifNo X30.here hx rfl (hb hby at_228) rfl ((if0 _ _).trans (feq hc228).1) k) ?_
          show GoW p e below QQ (T30.setTop (mkF m 231 #[.val (.int p1), .val (.int p2), .val (.int p3), .val (.int p4), .val (.long p5), .second, .val (.int v4), .val (.int (1 : Int32)), .val (.int (0 : Int32)), .val (.int v41), .val .null, .val (.int v195), .val (.int v202), .val .null, .val (.int (-1 : Int32)), .val (.int (-1 : Int32)), .val (.int (0 : Int32)), .unset, .unset, .unset, .unset, .unset, .unset, .unset, .unset] []))
          have hi228 : ¬ (v41.toInt = 0) := (fun q => hc228 (Int32.toInt_inj.mp q))
          have nz4 : v4 ≠ 0 := own_ne_of (by omega)
          refine GoW.st (fun t k => XS.iloadN X30.here hx rfl (hb hby at_231) rfl (XS.bipush X30.here hx rfl (hb hby at_232) (XS.iand X30.here hx rfl (hb hby at_234) rfl (XS.iload X30.here hx rfl (hb hby at_235) rfl (iremM X30 hx rfl (hb hby at_237) rfl nz4 (XS.istore X30.here hx rfl (hb hby at_238) rfl (l' := #[.val (.int p1), .val (.int p2), .val (.int p3), .val (.int p4), .val (.long p5), .second, .val (.int v4), .val (.int (1 : Int32)), .val (.int (0 : Int32)), .val (.int v41), .val .null, .val (.int v195), .val (.int v202), .val .null, .val (.int (-1 : Int32)), .val (.int (-1 : Int32)), .val (.int (0 : Int32)), .val (.int ((p3 &&& (7 : Int32)) % v4)), .unset, .unset, .unset, .unset, .unset, .unset, .unset]) rfl k)))))) ?_
          show GoW p e below QQ (T30.setTop (mkF m 240 #[.val (.int p1), .val (.int p2), .val (.int p3), .val (.int p4), .val (.long p5), .second, .val (.int v4), .val (.int (1 : Int32)), .val (.int (0 : Int32)), .val (.int v41), .val .null, .val (.int v195), .val (.int v202), .val .null, .val (.int (-1 : Int32)), .val (.int (-1 : Int32)), .val (.int (0 : Int32)), .val (.int ((p3 &&& (7 : Int32)) % v4)), .unset, .unset, .unset, .unset, .unset, .unset, .unset] []))
          generalize hv238 : ((p3 &&& (7 : Int32)) % v4) = v238
          refine GoW.st (fun t k => XS.iloadN X30.here hx rfl (hb hby at_240) rfl (XS.iconst X30.here hx rfl (hb hby at_241) (XS.ishr X30.here hx rfl (hb hby at_242) rfl (XS.bipush X30.here hx rfl (hb hby at_243) (XS.iand X30.here hx rfl (hb hby at_245) rfl (XS.iload X30.here hx rfl (hb hby at_246) rfl k)))))) ?_
          show GoW p e below QQ (T30.setTop (mkF m 248 #[.val (.int p1), .val (.int p2), .val (.int p3), .val (.int p4), .val (.long p5), .second, .val (.int v4), .val (.int (1 : Int32)), .val (.int (0 : Int32)), .val (.int v41), .val .null, .val (.int v195), .val (.int v202), .val .null, .val (.int (-1 : Int32)), .val (.int (-1 : Int32)), .val (.int (0 : Int32)), .val (.int v238), .unset, .unset, .unset, .unset, .unset, .unset, .unset] [(.int v4), (.int ((p3 >>> ((3 : Int32) &&& 31)) &&& (7 : Int32)))]))
          refine GoW.st (fun t k => iremM X30 hx rfl (hb hby at_248) rfl nz4 (XS.istore X30.here hx rfl (hb hby at_249) rfl (l' := #[.val (.int p1), .val (.int p2), .val (.int p3), .val (.int p4), .val (.long p5), .second, .val (.int v4), .val (.int (1 : Int32)), .val (.int (0 : Int32)), .val (.int v41), .val .null, .val (.int v195), .val (.int v202), .val .null, .val (.int (-1 : Int32)), .val (.int (-1 : Int32)), .val (.int (0 : Int32)), .val (.int v238), .val (.int (((p3 >>> ((3 : Int32) &&& 31)) &&& (7 : Int32)) % v4)), .unset, .unset, .unset, .unset, .unset, .unset]) rfl k)) ?_
          show GoW p e below QQ (T30.setTop (mkF m 251 #[.val (.int p1), .val (.int p2), .val (.int p3), .val (.int p4), .val (.long p5), .second, .val (.int v4), .val (.int (1 : Int32)), .val (.int (0 : Int32)), .val (.int v41), .val .null, .val (.int v195), .val (.int v202), .val .null, .val (.int (-1 : Int32)), .val (.int (-1 : Int32)), .val (.int (0 : Int32)), .val (.int v238), .val (.int (((p3 >>> ((3 : Int32) &&& 31)) &&& (7 : Int32)) % v4)), .unset, .unset, .unset, .unset, .unset, .unset] []))
          generalize hv249 : (((p3 >>> ((3 : Int32) &&& 31)) &&& (7 : Int32)) % v4) = v249
          have k1A := (c_iremV (p3 &&& (7 : Int32)) v4).1 (c_and p3 7 (by decide)).1 (by omega)
          rw [hv238] at k1A
          have k2A := (c_iremV ((p3 >>> ((3 : Int32) &&& 31)) &&& (7 : Int32)) v4).1 (c_and _ 7 (by decide)).1 (by omega)
          rw [hv249] at k2A
          refine GoW.st (fun t k => XS.iload X30.here hx rfl (hb hby at_251) rfl (XS.iconst X30.here hx rfl (hb hby at_253) k)) ?_
          show GoW p e below QQ (T30.setTop (mkF m 254 #[.val (.int p1), .val (.int p2), .val (.int p3), .val (.int p4), .val (.long p5), .second, .val (.int v4), .val (.int (1 : Int32)), .val (.int (0 : Int32)), .val (.int v41), .val .null, .val (.int v195), .val (.int v202), .val .null, .val (.int (-1 : Int32)), .val (.int (-1 : Int32)), .val (.int (0 : Int32)), .val (.int v238), .val (.int v249), .unset, .unset, .unset, .unset, .unset, .unset] [(.int (1 : Int32)), (.int v41)]))
          by_cases hc254 : v41 = (1 : Int32)
          · skip
            refine GoW.st (fun t k => XS.icmpYes X30.here hx rfl (pc0 := 254) (pc' := 264) rfl (hb hby at_254) rfl (teq hc254).1 (by decide) (by decide) k) ?_
            show GoW p e below QQ (T30.setTop (mkF m 264 #[.val (.int p1), .val (.int p2), .val (.int p3), .val (.int p4), .val (.long p5), .second, .val (.int v4), .val (.int (1 : Int32)), .val (.int (0 : Int32)), .val (.int v41), .val .null, .val (.int v195), .val (.int v202), .val .null, .val (.int (-1 : Int32)), .val (.int (-1 : Int32)), .val (.int (0 : Int32)), .val (.int v238), .val (.int v249), .unset, .unset, .unset, .unset, .unset, .unset] []))
            have hi254 : v41.toInt = 1 := (congrArg Int32.toInt hc254)
            refine GoW.st (fun t k => XS.iload X30.here hx rfl (hb hby at_264) rfl (XS.iload X30.here hx rfl (hb hby at_266) rfl (XS.iadd X30.here hx rfl (hb hby at_268) rfl (XS.istore X30.here hx rfl (hb hby at_269) rfl (l' := #[.val (.int p1), .val (.int p2), .val (.int p3), .val (.int p4), .val (.long p5), .second, .val (.int v4), .val (.int (1 : Int32)), .val (.int (0 : Int32)), .val (.int v41), .val .null, .val (.int v195), .val (.int v202), .val .null, .val (.int (v195 + v238)), .val (.int (-1 : Int32)), .val (.int (0 : Int32)), .val (.int v238), .val (.int v249), .unset, .unset, .unset, .unset, .unset, .unset]) rfl k)))) ?_
            show GoW p e below QQ (T30.setTop (mkF m 271 #[.val (.int p1), .val (.int p2), .val (.int p3), .val (.int p4), .val (.long p5), .second, .val (.int v4), .val (.int (1 : Int32)), .val (.int (0 : Int32)), .val (.int v41), .val .null, .val (.int v195), .val (.int v202), .val .null, .val (.int (v195 + v238)), .val (.int (-1 : Int32)), .val (.int (0 : Int32)), .val (.int v238), .val (.int v249), .unset, .unset, .unset, .unset, .unset, .unset] []))
            generalize hv269 : (v195 + v238) = v269
            have s1A := c_iadd v195 v238
            have s1R := rng32 (v195 + v238)
            rw [hv269] at s1A s1R
            have s10 : v269.toInt = v195.toInt + v238.toInt := by omega
            refine GoW.st (fun t k => XS.iconst X30.here hx rfl (hb hby at_271) k) ?_
            show GoW p e below QQ (T30.setTop (mkF m 272 #[.val (.int p1), .val (.int p2), .val (.int p3), .val (.int p4), .val (.long p5), .second, .val (.int v4), .val (.int (1 : Int32)), .val (.int (0 : Int32)), .val (.int v41), .val .null, .val (.int v195), .val (.int v202), .val .null, .val (.int v269), .val (.int (-1 : Int32)), .val (.int (0 : Int32)), .val (.int v238), .val (.int v249), .unset, .unset, .unset, .unset, .unset, .unset] [(.int (1 : Int32))]))
            obtain ⟨T36, h36, k36, X36, e36, E36, A36, st36⟩ := newP X30 hx hZ (hw _ (List.mem_of_getElem? (i := 38) rfl)) hh30 (g := (mkF m 272 #[.val (.int p1), .val (.int p2), .val (.int p3), .val (.int p4), .val (.long p5), .second, .val (.int v4), .val (.int (1 : Int32)), .val (.int (0 : Int32)), .val (.int v41), .val .null, .val (.int v195), .val (.int v202), .val .null, .val (.int v269), .val (.int (-1 : Int32)), .val (.int (0 : Int32)), .val (.int v238), .val (.int v249), .unset, .unset, .unset, .unset, .unset, .unset] [(.int (1 : Int32))])) rfl (hb hby at_272) rfl (by decide) (cap := 1) (by decide) (by decide) (by decide) (by decide)
            obtain ⟨b36, g36⟩ : ∃ z, z = h0.size := ⟨_, rfl⟩
            rw [← g36] at A36 st36
            refine GoW.st st36 ?_
            have gg36 : n0 ≤ b36 := Nat.le_trans (Nat.le_trans Z0 K0.1) (Nat.le_of_eq g36.symm)
            have sz36 : h0.size ≤ b36 := Nat.le_trans K0.1 (Nat.le_of_eq g36.symm)
            have K36 : Keep h0 h36 [] := K0.ext E36
            have V36 : Arv Z h36 b36 k36 .int (1 : Int32) [(.int (0 : Int32))] (.int (0 : Int32)) := (Arv.new A36 (by decide)).pad (pad_rep [] (.int (0 : Int32)) 1)
            show GoW p e below QQ (T36.setTop (mkF m 274 #[.val (.int p1), .val (.int p2), .val (.int p3), .val (.int p4), .val (.long p5), .second, .val (.int v4), .val (.int (1 : Int32)), .val (.int (0 : Int32)), .val (.int v41), .val .null, .val (.int v195), .val (.int v202), .val .null, .val (.int v269), .val (.int (-1 : Int32)), .val (.int (0 : Int32)), .val (.int v238), .val (.int v249), .unset, .unset, .unset, .unset, .unset, .unset] [(.ref b36)]))
            refine GoW.st (fun t k => XS.dup X36.here hx rfl (hb hby at_274) rfl rfl (XS.iconst X36.here hx rfl (hb hby at_275) (XS.iload X36.here hx rfl (hb hby at_276) rfl k))) ?_
            show GoW p e below QQ (T36.setTop (mkF m 278 #[.val (.int p1), .val (.int p2), .val (.int p3), .val (.int p4), .val (.long p5), .second, .val (.int v4), .val (.int (1 : Int32)), .val (.int (0 : Int32)), .val (.int v41), .val .null, .val (.int v195), .val (.int v202), .val .null, .val (.int v269), .val (.int (-1 : Int32)), .val (.int (0 : Int32)), .val (.int v238), .val (.int v249), .unset, .unset, .unset, .unset, .unset, .unset] [(.int v269), (.int (0 : Int32)), (.ref b36), (.ref b36)]))
            obtain ⟨T38, h38, X38, e38, W38, V38, st38⟩ := stVI X36 hx hZ e36 V36 ⟨by decide, by decide⟩ 0 rfl (Nat.le_of_ble_eq_true rfl) (g := (mkF m 278 #[.val (.int p1), .val (.int p2), .val (.int p3), .val (.int p4), .val (.long p5), .second, .val (.int v4), .val (.int (1 : Int32)), .val (.int (0 : Int32)), .val (.int v41), .val .null, .val (.int v195), .val (.int v202), .val .null, .val (.int v269), .val (.int (-1 : Int32)), .val (.int (0 : Int32)), .val (.int v238), .val (.int v249), .unset, .unset, .unset, .unset, .unset, .unset] [(.int v269), (.int (0 : Int32)), (.ref b36), (.ref b36)])) rfl rfl (hb hby at_278)
            refine GoW.st st38 ?_
            have f39_V_b36 : Arv Z h38 b36 k36 .int (1 : Int32) [(.int v269)] (.int (0 : Int32)) := V38
            have K38 : Keep h0 h38 [] := K36.wr W38 (Or.inr sz36)
            have N38 := Fr.snoc X38 N30 gg36
            show GoW p e below QQ (T38.setTop (mkF m 279 #[.val (.int p1), .val (.int p2), .val (.int p3), .val (.int p4), .val (.long p5), .second, .val (.int v4), .val (.int (1 : Int32)), .val (.int (0 : Int32)), .val (.int v41), .val .null, .val (.int v195), .val (.int v202), .val .null, .val (.int v269), .val (.int (-1 : Int32)), .val (.int (0 : Int32)), .val (.int v238), .val (.int v249), .unset, .unset, .unset, .unset, .unset, .unset] [(.ref b36)]))
            refine GoW.st (fun t k => XS.astore X38.here hx rfl (hb hby at_279) rfl rfl (l' := #[.val (.int p1), .val (.int p2), .val (.int p3), .val (.int p4), .val (.long p5), .second, .val (.int v4), .val (.int (1 : Int32)), .val (.int (0 : Int32)), .val (.int v41), .val .null, .val (.int v195), .val (.int v202), .val (.ref b36), .val (.int v269), .val (.int (-1 : Int32)), .val (.int (0 : Int32)), .val (.int v238), .val (.int v249), .unset, .unset, .unset, .unset, .unset, .unset]) rfl (XS.iconst X38.here hx rfl (hb hby at_281) (XS.istore X38.here hx rfl (hb hby at_282) rfl (l' := #[.val (.int p1), .val (.int p2), .val (.int p3), .val (.int p4), .val (.long p5), .second, .val (.int v4), .val (.int (1 : Int32)), .val (.int (0 : Int32)), .val (.int v41), .val .null, .val (.int v195), .val (.int v202), .val (.ref b36), .val (.int v269), .val (.int (-1 : Int32)), .val (.int (1 : Int32)), .val (.int v238), .val (.int v249), .unset, .unset, .unset, .unset, .unset, .unset]) rfl (XS.goto X38.here hx rfl (pc0 := 284) (pc' := 329) rfl (hb hby at_284) (by decide) (by decide) (XS.iload X38.here hx rfl (hb hby at_329) rfl (XS.iload X38.here hx rfl (hb hby at_331) rfl k)))))) ?_
            show GoW p e below QQ (T38.setTop (mkF m 333 #[.val (.int p1), .val (.int p2), .val (.int p3), .val (.int p4), .val (.long p5), .second, .val (.int v4), .val (.int (1 : Int32)), .val (.int (0 : Int32)), .val (.int v41), .val .null, .val (.int v195), .val (.int v202), .val (.ref b36), .val (.int v269), .val (.int (-1 : Int32)), .val (.int (1 : Int32)), .val (.int v238), .val (.int v249), .unset, .unset, .unset, .unset, .unset, .unset] [(.int (1 : Int32)), (.int v4)]))
            refine GoW.st (fun t k => XS.isub X38.here hx rfl (hb hby at_333) rfl (XS.istore X38.here hx rfl (hb hby at_334) rfl (l' := #[.val (.int p1), .val (.int p2), .val (.int p3), .val (.int p4), .val (.long p5), .second, .val (.int v4), .val (.int (1 : Int32)), .val (.int (0 : Int32)), .val (.int v41), .val .null, .val (.int v195), .val (.int v202), .val (.ref b36), .val (.int v269), .val (.int (-1 : Int32)), .val (.int (1 : Int32)), .val (.int (v4 - (1 : Int32))), .val (.int v249), .unset, .unset, .unset, .unset, .unset, .unset]) rfl k)) ?_
            show GoW p e below QQ (T38.setTop (mkF m 336 #[.val (.int p1), .val (.int p2), .val (.int p3), .val (.int p4), .val (.long p5), .second, .val (.int v4), .val (.int (1 : Int32)), .val (.int (0 : Int32)), .val (.int v41), .val .null, .val (.int v195), .val (.int v202), .val (.ref b36), .val (.int v269), .val (.int (-1 : Int32)), .val (.int (1 : Int32)), .val (.int (v4 - (1 : Int32))), .val (.int v249), .unset, .unset, .unset, .unset, .unset, .unset] []))
            generalize hv334 : (v4 - (1 : Int32)) = v334
            have szA := c_isub v4 (1 : Int32)
            have szR := rng32 (v4 - (1 : Int32))
            rw [hv334] at szA szR
            have zk : (1 : Int32).toInt = 1 := rfl
            have sz0 : v334.toInt = v4.toInt - 1 := by omega
            refine GoW.st (fun t k => XS.iload X38.here hx rfl (hb hby at_336) rfl k) ?_
            show GoW p e below QQ (T38.setTop (mkF m 338 #[.val (.int p1), .val (.int p2), .val (.int p3), .val (.int p4), .val (.long p5), .second, .val (.int v4), .val (.int (1 : Int32)), .val (.int (0 : Int32)), .val (.int v41), .val .null, .val (.int v195), .val (.int v202), .val (.ref b36), .val (.int v269), .val (.int (-1 : Int32)), .val (.int (1 : Int32)), .val (.int v334), .val (.int v249), .unset, .unset, .unset, .unset, .unset, .unset] [(.int v334)]))
            by_cases hc338 : (0 : Int32) < v334
            · skip
              refine GoW.st (fun t k => XS.ifYes X38.here hx rfl (pc0 := 338) (pc' := 343) rfl (hb hby at_338) rfl ((if0 _ _).trans (tlt hc338).2.2.1) (by decide) (by decide) k) ?_
              show GoW p e below QQ (T38.setTop (mkF m 343 #[.val (.int p1), .val (.int p2), .val (.int p3), .val (.int p4), .val (.long p5), .second, .val (.int v4), .val (.int (1 : Int32)), .val (.int (0 : Int32)), .val (.int v41), .val .null, .val (.int v195), .val (.int v202), .val (.ref b36), .val (.int v269), .val (.int (-1 : Int32)), .val (.int (1 : Int32)), .val (.int v334), .val (.int v249), .unset, .unset, .unset, .unset, .unset, .unset] []))
              have hi338 : 0 < v334.toInt := (Int32.lt_iff_toInt_lt.mp hc338)
              have szp : 0 < v334.toInt := hi338
              have nzL : (v334.toInt64) ≠ 0 := fun q => by
                have q2 := congrArg Int64.toInt q
                rw [c_i2l] at q2
                have z : (0 : Int64).toInt = 0 := rfl
                omega
              refine GoW.st (fun t k => XS.lconst X38.here hx rfl (hb hby at_343) (XS.lload X38.here hx rfl (hb hby at_344) rfl (X38.ldc2Long hx hown (mvT hZ (hw _ (List.mem_of_getElem? (i := 6) rfl))) (g := (mkF m 346 #[.val (.int p1), .val (.int p2), .val (.int p3), .val (.int p4), .val (.long p5), .second, .val (.int v4), .val (.int (1 : Int32)), .val (.int (0 : Int32)), .val (.int v41), .val .null, .val (.int v195), .val (.int v202), .val (.ref b36), .val (.int v269), .val (.int (-1 : Int32)), .val (.int (1 : Int32)), .val (.int v334), .val (.int v249), .unset, .unset, .unset, .unset, .unset, .unset] [(.long p5), (.long (1 : Int64))])) rfl (hb hby at_346) t (XS.land X38.here hx rfl (hb hby at_349) rfl (XS.iload X38.here hx rfl (hb hby at_350) rfl (XS.i2l X38.here hx rfl (hb hby at_352) rfl k)))))) ?_
              show GoW p e below QQ (T38.setTop (mkF m 353 #[.val (.int p1), .val (.int p2), .val (.int p3), .val (.int p4), .val (.long p5), .second, .val (.int v4), .val (.int (1 : Int32)), .val (.int (0 : Int32)), .val (.int v41), .val .null, .val (.int v195), .val (.int v202), .val (.ref b36), .val (.int v269), .val (.int (-1 : Int32)), .val (.int (1 : Int32)), .val (.int v334), .val (.int v249), .unset, .unset, .unset, .unset, .unset, .unset] [(.long (v334.toInt64)), (.long (p5 &&& (9223372036854775807 : Int64))), (.long (1 : Int64))]))
              refine GoW.st (fun t k => lremM X38 hx rfl (hb hby at_353) rfl nzL (XS.ladd X38.here hx rfl (hb hby at_354) rfl (XS.lstore X38.here hx rfl (hb hby at_355) rfl (l' := #[.val (.int p1), .val (.int p2), .val (.int p3), .val (.int p4), .val (.long p5), .second, .val (.int v4), .val (.int (1 : Int32)), .val (.int (0 : Int32)), .val (.int v41), .val .null, .val (.int v195), .val (.int v202), .val (.ref b36), .val (.int v269), .val (.int (-1 : Int32)), .val (.int (1 : Int32)), .val (.int v334), .val (.long ((1 : Int64) + ((p5 &&& (9223372036854775807 : Int64)) % (v334.toInt64)))), .second, .unset, .unset, .unset, .unset, .unset]) rfl k))) ?_
              show GoW p e below QQ (T38.setTop (mkF m 357 #[.val (.int p1), .val (.int p2), .val (.int p3), .val (.int p4), .val (.long p5), .second, .val (.int v4), .val (.int (1 : Int32)), .val (.int (0 : Int32)), .val (.int v41), .val .null, .val (.int v195), .val (.int v202), .val (.ref b36), .val (.int v269), .val (.int (-1 : Int32)), .val (.int (1 : Int32)), .val (.int v334), .val (.long ((1 : Int64) + ((p5 &&& (9223372036854775807 : Int64)) % (v334.toInt64)))), .second, .unset, .unset, .unset, .unset, .unset] []))
              generalize hv355 : ((1 : Int64) + ((p5 &&& (9223372036854775807 : Int64)) % (v334.toInt64))) = v355
              have poA := own_posf p5 v334 szp
              rw [hv355] at poA
              have ix := own_ixr v202 v355 (by omega) (by omega)
              obtain ⟨T40, h40, X40, e40, E40, A40, D40, -, st40⟩ := newO X38 hx hZ hown (hw _ (List.mem_of_getElem? (i := 7) rfl)) (hw _ (List.mem_of_getElem? (i := 8) rfl)) (hw _ (List.mem_of_getElem? (i := 9) rfl)) e38 (g := (mkF m 357 #[.val (.int p1), .val (.int p2), .val (.int p3), .val (.int p4), .val (.long p5), .second, .val (.int v4), .val (.int (1 : Int32)), .val (.int (0 : Int32)), .val (.int v41), .val .null, .val (.int v195), .val (.int v202), .val (.ref b36), .val (.int v269), .val (.int (-1 : Int32)), .val (.int (1 : Int32)), .val (.int v334), .val (.long v355), .second, .unset, .unset, .unset, .unset, .unset] [])) rfl (hb hby at_357) (by decide) (by decide)
              obtain ⟨b40, g40⟩ : ∃ z, z = h38.size := ⟨_, rfl⟩
              rw [← g40] at A40 D40 st40
              refine GoW.st st40 ?_
              have gg40 : n0 ≤ b40 := Nat.le_trans (Nat.le_trans Z0 K38.1) (Nat.le_of_eq g40.symm)
              have sz40 : h0.size ≤ b40 := Nat.le_trans K38.1 (Nat.le_of_eq g40.symm)
              have ne40_b36 : b36 ≠ b40 := Nat.ne_of_lt (Nat.lt_of_lt_of_le f39_V_b36.lt (Nat.le_of_eq g40.symm))
              have f41_V_b36 : Arv Z h40 b36 k36 .int (1 : Int32) [(.int v269)] (.int (0 : Int32)) := f39_V_b36.ext E40
              have K40 : Keep h0 h40 [] := K38.ext E40
              have F40_context : Fld Z h40 b40 "com/example/hike/hike/Proximity$Group" "context" "I" (.int (0 : Int32)) := D40 (Or.inr (hw _ (List.mem_of_getElem? (i := 22) rfl))) (ty := .int) (by decide)
              have F40_order : Fld Z h40 b40 "com/example/hike/hike/Proximity$Group" "order" "[I" .null := D40 (Or.inr (hw _ (List.mem_of_getElem? (i := 24) rfl))) (ty := (.array .int)) (by decide)
              have F40_from : Fld Z h40 b40 "com/example/hike/hike/Proximity$Group" "from" "I" (.int (0 : Int32)) := D40 (Or.inr (hw _ (List.mem_of_getElem? (i := 26) rfl))) (ty := .int) (by decide)
              have F40_to : Fld Z h40 b40 "com/example/hike/hike/Proximity$Group" "to" "I" (.int (0 : Int32)) := D40 (Or.inr (hw _ (List.mem_of_getElem? (i := 28) rfl))) (ty := .int) (by decide)
              have F40_reverse : Fld Z h40 b40 "com/example/hike/hike/Proximity$Group" "reverse" "Z" (.int (0 : Int32)) := D40 (Or.inr (hw _ (List.mem_of_getElem? (i := 30) rfl))) (ty := .boolean) (by decide)
              have F40_skipped : Fld Z h40 b40 "com/example/hike/hike/Proximity$Group" "skipped" "[I" .null := D40 (Or.inr (hw _ (List.mem_of_getElem? (i := 32) rfl))) (ty := (.array .int)) (by decide)
              show GoW p e below QQ (T40.setTop (mkF m 360 #[.val (.int p1), .val (.int p2), .val (.int p3), .val (.int p4), .val (.long p5), .second, .val (.int v4), .val (.int (1 : Int32)), .val (.int (0 : Int32)), .val (.int v41), .val .null, .val (.int v195), .val (.int v202), .val (.ref b36), .val (.int v269), .val (.int (-1 : Int32)), .val (.int (1 : Int32)), .val (.int v334), .val (.long v355), .second, .unset, .unset, .unset, .unset, .unset] [(.ref b40)]))
              refine GoW.st (fun t k => XS.dup X40.here hx rfl (hb hby at_360) rfl rfl (XS.iloadN X40.here hx rfl (hb hby at_361) rfl (XS.aload X40.here hx rfl (hb hby at_362) rfl rfl (XS.iload X40.here hx rfl (hb hby at_364) rfl (XS.iload X40.here hx rfl (hb hby at_366) rfl (XS.iload X40.here hx rfl (hb hby at_368) rfl k)))))) ?_
              show GoW p e below QQ (T40.setTop (mkF m 370 #[.val (.int p1), .val (.int p2), .val (.int p3), .val (.int p4), .val (.long p5), .second, .val (.int v4), .val (.int (1 : Int32)), .val (.int (0 : Int32)), .val (.int v41), .val .null, .val (.int v195), .val (.int v202), .val (.ref b36), .val (.int v269), .val (.int (-1 : Int32)), .val (.int (1 : Int32)), .val (.int v334), .val (.long v355), .second, .unset, .unset, .unset, .unset, .unset] [(.int (1 : Int32)), (.int v202), (.int v195), .null, (.int p3), (.ref b40), (.ref b40)]))
              refine GoW.st (fun t k => XS.aload X40.here hx rfl (hb hby at_370) rfl rfl k) ?_
              show GoW p e below QQ (T40.setTop (mkF m 372 #[.val (.int p1), .val (.int p2), .val (.int p3), .val (.int p4), .val (.long p5), .second, .val (.int v4), .val (.int (1 : Int32)), .val (.int (0 : Int32)), .val (.int v41), .val .null, .val (.int v195), .val (.int v202), .val (.ref b36), .val (.int v269), .val (.int (-1 : Int32)), .val (.int (1 : Int32)), .val (.int v334), .val (.long v355), .second, .unset, .unset, .unset, .unset, .unset] [(.ref b36), (.int (1 : Int32)), (.int v202), (.int v195), .null, (.int p3), (.ref b40), (.ref b40)]))
              obtain ⟨_, _, ⟨T42, zL42, zk42, zn42⟩, -, X42, ⟨Lc42, hQ42, zl42, zy42, zz42⟩, st42⟩ := X40.specialBack hx (y := (⟨"com/example/hike/hike/Proximity$Group", "<init>", "(I[IIIZ[I)V"⟩ : MethodName)) rfl hown (mvT hZ (hw _ (List.mem_of_getElem? (i := 10) rfl))) (mvT hZ (hw _ (List.mem_of_getElem? (i := 11) rfl))) (mvT hZ (hw _ (List.mem_of_getElem? (i := 12) rfl))) (by decide) (backOf (W := 1) (rm2_s1 l Z a0 hw [] b40 p3 v195 v202 b36 h40 n0 (Nat.le_trans Z0 K40.1) A40 gg40 F40_context F40_order F40_from F40_to F40_reverse F40_skipped) hZ (hw _ (List.mem_of_getElem? (i := 12) rfl)) (hw _ (List.mem_of_getElem? (i := 9) rfl)) (by decide) (by decide)) (g := (mkF m 372 #[.val (.int p1), .val (.int p2), .val (.int p3), .val (.int p4), .val (.long p5), .second, .val (.int v4), .val (.int (1 : Int32)), .val (.int (0 : Int32)), .val (.int v41), .val .null, .val (.int v195), .val (.int v202), .val (.ref b36), .val (.int v269), .val (.int (-1 : Int32)), .val (.int (1 : Int32)), .val (.int v334), .val (.long v355), .second, .unset, .unset, .unset, .unset, .unset] [(.ref b36), (.int (1 : Int32)), (.int v202), (.int v195), .null, (.int p3), (.ref b40), (.ref b40)])) rfl (by rw [hml]; rfl) (Steps.refl _) (a := b40) (argsL := [(.int p3), .null, (.int v195), (.int v202), (.int (1 : Int32)), (.ref b36)]) (rest := [(.ref b40)]) (lenOf pd_2 rfl) rfl (by show 2 * 0 + _ ≤ _; exact Nat.le_of_eq rfl) (hb hby at_372) (fun _ _ => ⟨rfl, e40, (by decide : 2 + 0 ≤ _), (by decide : 7 + 0 ≤ _)⟩)
              dsimp only [Pt.U, Pt.locs, Pt.cells, Pt.slots] at X42 zl42 zy42 zz42 st42 hQ42
              subst zl42 zy42 zz42
              obtain ⟨rfl, Nq42, Kq42, p42_0, p42_1, p42_2, p42_3, p42_4, p42_5⟩ := hQ42
              have N42 := Fr.app N38 Nq42
              refine GoW.st (fun t k => st42.trans k) ?_
              have f43_V_b36 : Arv Z T42.heap b36 k36 .int (1 : Int32) [(.int v269)] (.int (0 : Int32)) := f41_V_b36.keep Kq42 (ninS ne40_b36 nin0)
              have K42 : Keep h0 T42.heap [] := K40.trans Kq42 (allS (Or.inr sz40) all0)
              show GoW p e below QQ (T42.setTop (mkF m 375 #[.val (.int p1), .val (.int p2), .val (.int p3), .val (.int p4), .val (.long p5), .second, .val (.int v4), .val (.int (1 : Int32)), .val (.int (0 : Int32)), .val (.int v41), .val .null, .val (.int v195), .val (.int v202), .val (.ref b36), .val (.int v269), .val (.int (-1 : Int32)), .val (.int (1 : Int32)), .val (.int v334), .val (.long v355), .second, .unset, .unset, .unset, .unset, .unset] [(.ref b40)]))
              refine GoW.st (fun t k => XS.astore X42.here hx rfl (hb hby at_375) rfl rfl (l' := #[.val (.int p1), .val (.int p2), .val (.int p3), .val (.int p4), .val (.long p5), .second, .val (.int v4), .val (.int (1 : Int32)), .val (.int (0 : Int32)), .val (.int v41), .val .null, .val (.int v195), .val (.int v202), .val (.ref b36), .val (.int v269), .val (.int (-1 : Int32)), .val (.int (1 : Int32)), .val (.int v334), .val (.long v355), .second, .val (.ref b40), .unset, .unset, .unset, .unset]) rfl (XS.aload X42.here hx rfl (hb hby at_377) rfl rfl (XS.lload X42.here hx rfl (hb hby at_379) rfl k))) ?_
              show GoW p e below QQ (T42.setTop (mkF m 381 #[.val (.int p1), .val (.int p2), .val (.int p3), .val (.int p4), .val (.long p5), .second, .val (.int v4), .val (.int (1 : Int32)), .val (.int (0 : Int32)), .val (.int v41), .val .null, .val (.int v195), .val (.int v202), .val (.ref b36), .val (.int v269), .val (.int (-1 : Int32)), .val (.int (1 : Int32)), .val (.int v334), .val (.long v355), .second, .val (.ref b40), .unset, .unset, .unset, .unset] [(.long v355), (.ref b40)]))
              obtain ⟨cq44, kq44, qa44, qb44, qc44⟩ := isOf hZ rfl p42_0
              obtain ⟨_, _, ⟨T44, zL44, zk44, zn44⟩, -, X44, ⟨Lc44, hQ44, zl44, zy44, zz44⟩, st44⟩ := X42.virtualBack hx (y := (⟨"com/example/hike/hike/Proximity$Group", "at", "(J)I"⟩ : MethodName)) (z := (⟨"com/example/hike/hike/Proximity$Group", "at", "(J)I"⟩ : MethodName)) hown (mvT hZ (hw _ (List.mem_of_getElem? (i := 33) rfl))) (mvT hZ (hw _ (List.mem_of_getElem? (i := 34) rfl))) (notFace_of_selects (args := #[]) (mvT hZ (hw _ (List.mem_of_getElem? (i := 36) rfl)))) (mvT hZ (hw _ (List.mem_of_getElem? (i := 36) rfl))) (mvT hZ (hw _ (List.mem_of_getElem? (i := 35) rfl))) (by decide) (backOf (W := 0) (rm5_s1 l Z a0 hw [] b40 v355 v195 v202 b36 k36 v269 T42.heap n0 (Nat.le_trans Z0 K42.1) p42_4 p42_2 p42_3 p42_5 p42_1 f43_V_b36) hZ (hw _ (List.mem_of_getElem? (i := 37) rfl)) (hw _ (List.mem_of_getElem? (i := 9) rfl)) (by decide) (by decide)) qa44 qc44 (g := (mkF m 381 #[.val (.int p1), .val (.int p2), .val (.int p3), .val (.int p4), .val (.long p5), .second, .val (.int v4), .val (.int (1 : Int32)), .val (.int (0 : Int32)), .val (.int v41), .val .null, .val (.int v195), .val (.int v202), .val (.ref b36), .val (.int v269), .val (.int (-1 : Int32)), .val (.int (1 : Int32)), .val (.int v334), .val (.long v355), .second, .val (.ref b40), .unset, .unset, .unset, .unset] [(.long v355), (.ref b40)])) rfl (by rw [hml]; rfl) (Steps.refl _) (argsL := [(.long v355)]) (rest := []) (lenOf pd_3 rfl) rfl (by show 2 * 0 + _ ≤ _; exact Nat.le_of_eq rfl) (hb hby at_381) (fun _ _ => ⟨rfl, rfl, (by decide : 2 + 0 ≤ _), (by decide : 7 + 0 ≤ _)⟩)
              dsimp only [Pt.U, Pt.locs, Pt.cells, Pt.slots] at X44 zl44 zy44 zz44 st44 hQ44
              subst zl44 zy44 zz44
              obtain ⟨rfl, Nq44, hh44⟩ := hQ44
              have N44 := Fr.app N42 Nq44
              refine GoW.st (fun t k => st44.trans k) ?_
              show GoW p e below QQ (T44.setTop (mkF m 384 #[.val (.int p1), .val (.int p2), .val (.int p3), .val (.int p4), .val (.long p5), .second, .val (.int v4), .val (.int (1 : Int32)), .val (.int (0 : Int32)), .val (.int v41), .val .null, .val (.int v195), .val (.int v202), .val (.ref b36), .val (.int v269), .val (.int (-1 : Int32)), .val (.int (1 : Int32)), .val (.int v334), .val (.long v355), .second, .val (.ref b40), .unset, .unset, .unset, .unset] [(.int (own_sk1 v269 ((v202.toInt64 - v355).toInt32)))]))
              refine GoW.st (fun t k => XS.istore X44.here hx rfl (hb hby at_384) rfl (l' := #[.val (.int p1), .val (.int p2), .val (.int p3), .val (.int p4), .val (.long p5), .second, .val (.int v4), .val (.int (1 : Int32)), .val (.int (0 : Int32)), .val (.int v41), .val .null, .val (.int v195), .val (.int v202), .val (.ref b36), .val (.int v269), .val (.int (-1 : Int32)), .val (.int (1 : Int32)), .val (.int v334), .val (.long v355), .second, .val (.ref b40), .val (.int (own_sk1 v269 ((v202.toInt64 - v355).toInt32))), .unset, .unset, .unset]) rfl k) ?_
              show GoW p e below QQ (T44.setTop (mkF m 386 #[.val (.int p1), .val (.int p2), .val (.int p3), .val (.int p4), .val (.long p5), .second, .val (.int v4), .val (.int (1 : Int32)), .val (.int (0 : Int32)), .val (.int v41), .val .null, .val (.int v195), .val (.int v202), .val (.ref b36), .val (.int v269), .val (.int (-1 : Int32)), .val (.int (1 : Int32)), .val (.int v334), .val (.long v355), .second, .val (.ref b40), .val (.int (own_sk1 v269 ((v202.toInt64 - v355).toInt32))), .unset, .unset, .unset] []))
              generalize hv384 : (own_sk1 v269 ((v202.toInt64 - v355).toInt32)) = v384
              have rS := own_sk1_i v269 ((v202.toInt64 - v355).toInt32) (by omega)
              rw [hv384] at rS
              refine GoW.st (fun t k => XS.iload X44.here hx rfl (hb hby at_386) rfl k) ?_
              show GoW p e below QQ (T44.setTop (mkF m 388 #[.val (.int p1), .val (.int p2), .val (.int p3), .val (.int p4), .val (.long p5), .second, .val (.int v4), .val (.int (1 : Int32)), .val (.int (0 : Int32)), .val (.int v41), .val .null, .val (.int v195), .val (.int v202), .val (.ref b36), .val (.int v269), .val (.int (-1 : Int32)), .val (.int (1 : Int32)), .val (.int v334), .val (.long v355), .second, .val (.ref b40), .val (.int v384), .unset, .unset, .unset] [(.int (0 : Int32))]))
              have hc388 : (0 : Int32) = (0 : Int32) := by decide
              refine GoW.st (fun t k => XS.ifYes X44.here hx rfl (pc0 := 388) (pc' := 478) rfl (hb hby at_388) rfl ((if0 _ _).trans (teq hc388).1) (by decide) (by decide) (XS.iload X44.here hx rfl (hb hby at_478) rfl (XS.iload X44.here hx rfl (hb hby at_480) rfl k))) ?_
              show GoW p e below QQ (T44.setTop (mkF m 482 #[.val (.int p1), .val (.int p2), .val (.int p3), .val (.int p4), .val (.long p5), .second, .val (.int v4), .val (.int (1 : Int32)), .val (.int (0 : Int32)), .val (.int v41), .val .null, .val (.int v195), .val (.int v202), .val (.ref b36), .val (.int v269), .val (.int (-1 : Int32)), .val (.int (1 : Int32)), .val (.int v334), .val (.long v355), .second, .val (.ref b40), .val (.int v384), .unset, .unset, .unset] [(.int v195), (.int v384)]))
              have hc482 : ¬ (v384 < v195) := by
                exact own_nlt_of (by omega)
              refine GoW.st (fun t k => XS.icmpNo X44.here hx rfl (hb hby at_482) rfl (flt hc482).1 k) ?_
              show GoW p e below QQ (T44.setTop (mkF m 485 #[.val (.int p1), .val (.int p2), .val (.int p3), .val (.int p4), .val (.long p5), .second, .val (.int v4), .val (.int (1 : Int32)), .val (.int (0 : Int32)), .val (.int v41), .val .null, .val (.int v195), .val (.int v202), .val (.ref b36), .val (.int v269), .val (.int (-1 : Int32)), .val (.int (1 : Int32)), .val (.int v334), .val (.long v355), .second, .val (.ref b40), .val (.int v384), .unset, .unset, .unset] []))
              have hi482 : ¬ (v384.toInt < v195.toInt) := (fun q => hc482 (Int32.lt_iff_toInt_lt.mpr q))
              refine GoW.st (fun t k => XS.iload X44.here hx rfl (hb hby at_485) rfl (XS.iload X44.here hx rfl (hb hby at_487) rfl k)) ?_
              show GoW p e below QQ (T44.setTop (mkF m 489 #[.val (.int p1), .val (.int p2), .val (.int p3), .val (.int p4), .val (.long p5), .second, .val (.int v4), .val (.int (1 : Int32)), .val (.int (0 : Int32)), .val (.int v41), .val .null, .val (.int v195), .val (.int v202), .val (.ref b36), .val (.int v269), .val (.int (-1 : Int32)), .val (.int (1 : Int32)), .val (.int v334), .val (.long v355), .second, .val (.ref b40), .val (.int v384), .unset, .unset, .unset] [(.int v202), (.int v384)]))
              have hc489 : v384 < v202 := by
                exact own_lt_of (by omega)
              refine GoW.st (fun t k => XS.icmpNo X44.here hx rfl (hb hby at_489) rfl (tlt hc489).2.1 k) ?_
              show GoW p e below QQ (T44.setTop (mkF m 492 #[.val (.int p1), .val (.int p2), .val (.int p3), .val (.int p4), .val (.long p5), .second, .val (.int v4), .val (.int (1 : Int32)), .val (.int (0 : Int32)), .val (.int v41), .val .null, .val (.int v195), .val (.int v202), .val (.ref b36), .val (.int v269), .val (.int (-1 : Int32)), .val (.int (1 : Int32)), .val (.int v334), .val (.long v355), .second, .val (.ref b40), .val (.int v384), .unset, .unset, .unset] []))
              have hi489 : v384.toInt < v202.toInt := (Int32.lt_iff_toInt_lt.mp hc489)
              refine GoW.st (fun t k => XS.iload X44.here hx rfl (hb hby at_492) rfl (XS.iload X44.here hx rfl (hb hby at_494) rfl k)) ?_
              show GoW p e below QQ (T44.setTop (mkF m 496 #[.val (.int p1), .val (.int p2), .val (.int p3), .val (.int p4), .val (.long p5), .second, .val (.int v4), .val (.int (1 : Int32)), .val (.int (0 : Int32)), .val (.int v41), .val .null, .val (.int v195), .val (.int v202), .val (.ref b36), .val (.int v269), .val (.int (-1 : Int32)), .val (.int (1 : Int32)), .val (.int v334), .val (.long v355), .second, .val (.ref b40), .val (.int v384), .unset, .unset, .unset] [(.int v269), (.int v384)]))
              have hc496 : ¬ (v384 = v269) := by
                exact own_ne_of (by omega)
              refine GoW.st (fun t k => XS.icmpNo X44.here hx rfl (hb hby at_496) rfl (feq hc496).1 k) ?_
              show GoW p e below QQ (T44.setTop (mkF m 499 #[.val (.int p1), .val (.int p2), .val (.int p3), .val (.int p4), .val (.long p5), .second, .val (.int v4), .val (.int (1 : Int32)), .val (.int (0 : Int32)), .val (.int v41), .val .null, .val (.int v195), .val (.int v202), .val (.ref b36), .val (.int v269), .val (.int (-1 : Int32)), .val (.int (1 : Int32)), .val (.int v334), .val (.long v355), .second, .val (.ref b40), .val (.int v384), .unset, .unset, .unset] []))
              have hi496 : ¬ (v384.toInt = v269.toInt) := (fun q => hc496 (Int32.toInt_inj.mp q))
              refine GoW.st (fun t k => XS.iload X44.here hx rfl (hb hby at_499) rfl (XS.iload X44.here hx rfl (hb hby at_501) rfl k)) ?_
              show GoW p e below QQ (T44.setTop (mkF m 503 #[.val (.int p1), .val (.int p2), .val (.int p3), .val (.int p4), .val (.long p5), .second, .val (.int v4), .val (.int (1 : Int32)), .val (.int (0 : Int32)), .val (.int v41), .val .null, .val (.int v195), .val (.int v202), .val (.ref b36), .val (.int v269), .val (.int (-1 : Int32)), .val (.int (1 : Int32)), .val (.int v334), .val (.long v355), .second, .val (.ref b40), .val (.int v384), .unset, .unset, .unset] [(.int (-1 : Int32)), (.int v384)]))
              have hc503 : ¬ (v384 = (-1 : Int32)) := by
                exact own_ne_of (by omega)
              refine GoW.st (fun t k => XS.icmpYes X44.here hx rfl (pc0 := 503) (pc' := 508) rfl (hb hby at_503) rfl (feq hc503).2 (by decide) (by decide) k) ?_
              show GoW p e below QQ (T44.setTop (mkF m 508 #[.val (.int p1), .val (.int p2), .val (.int p3), .val (.int p4), .val (.long p5), .second, .val (.int v4), .val (.int (1 : Int32)), .val (.int (0 : Int32)), .val (.int v41), .val .null, .val (.int v195), .val (.int v202), .val (.ref b36), .val (.int v269), .val (.int (-1 : Int32)), .val (.int (1 : Int32)), .val (.int v334), .val (.long v355), .second, .val (.ref b40), .val (.int v384), .unset, .unset, .unset] []))
              have hi503 : ¬ (v384.toInt = -1) := (fun q => hc503 (Int32.toInt_inj.mp q))
              refine GoW.st (fun t k => XS.iload X44.here hx rfl (hb hby at_508) rfl k) ?_
              show GoW p e below QQ (T44.setTop (mkF m 510 #[.val (.int p1), .val (.int p2), .val (.int p3), .val (.int p4), .val (.long p5), .second, .val (.int v4), .val (.int (1 : Int32)), .val (.int (0 : Int32)), .val (.int v41), .val .null, .val (.int v195), .val (.int v202), .val (.ref b36), .val (.int v269), .val (.int (-1 : Int32)), .val (.int (1 : Int32)), .val (.int v334), .val (.long v355), .second, .val (.ref b40), .val (.int v384), .unset, .unset, .unset] [(.int (1 : Int32))]))
              have hc510 : ¬ ((1 : Int32) = (0 : Int32)) := by decide
              refine GoW.st (fun t k => XS.ifYes X44.here hx rfl (pc0 := 510) (pc' := 533) rfl (hb hby at_510) rfl ((if0 _ _).trans (feq hc510).2) (by decide) (by decide) (XS.iload X44.here hx rfl (hb hby at_533) rfl (XS.iload X44.here hx rfl (hb hby at_535) rfl k))) ?_
              show GoW p e below QQ (T44.setTop (mkF m 537 #[.val (.int p1), .val (.int p2), .val (.int p3), .val (.int p4), .val (.long p5), .second, .val (.int v4), .val (.int (1 : Int32)), .val (.int (0 : Int32)), .val (.int v41), .val .null, .val (.int v195), .val (.int v202), .val (.ref b36), .val (.int v269), .val (.int (-1 : Int32)), .val (.int (1 : Int32)), .val (.int v334), .val (.long v355), .second, .val (.ref b40), .val (.int v384), .unset, .unset, .unset] [(.int v384), (.int v269)]))
              by_cases hc537 : v384 < v269
              · skip
                refine GoW.st (fun t k => XS.icmpNo X44.here hx rfl (hb hby at_537) rfl (tlt hc537).2.2.2 k) ?_
                show GoW p e below QQ (T44.setTop (mkF m 540 #[.val (.int p1), .val (.int p2), .val (.int p3), .val (.int p4), .val (.long p5), .second, .val (.int v4), .val (.int (1 : Int32)), .val (.int (0 : Int32)), .val (.int v41), .val .null, .val (.int v195), .val (.int v202), .val (.ref b36), .val (.int v269), .val (.int (-1 : Int32)), .val (.int (1 : Int32)), .val (.int v334), .val (.long v355), .second, .val (.ref b40), .val (.int v384), .unset, .unset, .unset] []))
                have hi537 : v384.toInt < v269.toInt := (Int32.lt_iff_toInt_lt.mp hc537)
                refine GoW.st (fun t k => XS.iconst X44.here hx rfl (hb hby at_540) (XS.goto X44.here hx rfl (pc0 := 541) (pc' := 545) rfl (hb hby at_541) (by decide) (by decide) (XS.iload X44.here hx rfl (hb hby at_545) rfl (XS.iload X44.here hx rfl (hb hby at_547) rfl k)))) ?_
                show GoW p e below QQ (T44.setTop (mkF m 549 #[.val (.int p1), .val (.int p2), .val (.int p3), .val (.int p4), .val (.long p5), .second, .val (.int v4), .val (.int (1 : Int32)), .val (.int (0 : Int32)), .val (.int v41), .val .null, .val (.int v195), .val (.int v202), .val (.ref b36), .val (.int v269), .val (.int (-1 : Int32)), .val (.int (1 : Int32)), .val (.int v334), .val (.long v355), .second, .val (.ref b40), .val (.int v384), .unset, .unset, .unset] [(.int v384), (.int (-1 : Int32)), (.int (1 : Int32))]))
                have hc549 : ¬ (v384 < (-1 : Int32)) := by
                  exact own_nlt_of (by omega)
                refine GoW.st (fun t k => XS.icmpYes X44.here hx rfl (pc0 := 549) (pc' := 556) rfl (hb hby at_549) rfl (flt hc549).2.2.2 (by decide) (by decide) k) ?_
                show GoW p e below QQ (T44.setTop (mkF m 556 #[.val (.int p1), .val (.int p2), .val (.int p3), .val (.int p4), .val (.long p5), .second, .val (.int v4), .val (.int (1 : Int32)), .val (.int (0 : Int32)), .val (.int v41), .val .null, .val (.int v195), .val (.int v202), .val (.ref b36), .val (.int v269), .val (.int (-1 : Int32)), .val (.int (1 : Int32)), .val (.int v334), .val (.long v355), .second, .val (.ref b40), .val (.int v384), .unset, .unset, .unset] [(.int (1 : Int32))]))
                have hi549 : ¬ (v384.toInt < -1) := (fun q => hc549 (Int32.lt_iff_toInt_lt.mpr q))
                refine GoW.st (fun t k => XS.iconst X44.here hx rfl (hb hby at_556) (XS.iadd X44.here hx rfl (hb hby at_557) rfl (XS.istore X44.here hx rfl (hb hby at_558) rfl (l' := #[.val (.int p1), .val (.int p2), .val (.int p3), .val (.int p4), .val (.long p5), .second, .val (.int v4), .val (.int (1 : Int32)), .val (.int (0 : Int32)), .val (.int v41), .val .null, .val (.int v195), .val (.int v202), .val (.ref b36), .val (.int v269), .val (.int (-1 : Int32)), .val (.int (1 : Int32)), .val (.int v334), .val (.long v355), .second, .val (.ref b40), .val (.int v384), .val (.int (1 : Int32)), .unset, .unset]) rfl (XS.iload X44.here hx rfl (hb hby at_560) rfl (XS.iconst X44.here hx rfl (hb hby at_562) (XS.isub X44.here hx rfl (hb hby at_563) rfl k)))))) ?_
                show GoW p e below QQ (T44.setTop (mkF m 564 #[.val (.int p1), .val (.int p2), .val (.int p3), .val (.int p4), .val (.long p5), .second, .val (.int v4), .val (.int (1 : Int32)), .val (.int (0 : Int32)), .val (.int v41), .val .null, .val (.int v195), .val (.int v202), .val (.ref b36), .val (.int v269), .val (.int (-1 : Int32)), .val (.int (1 : Int32)), .val (.int v334), .val (.long v355), .second, .val (.ref b40), .val (.int v384), .val (.int (1 : Int32)), .unset, .unset] [(.int (v202 - (1 : Int32)))]))
                refine GoW.st (fun t k => XS.iload X44.here hx rfl (hb hby at_564) rfl (XS.isub X44.here hx rfl (hb hby at_566) rfl (XS.iload X44.here hx rfl (hb hby at_567) rfl (XS.isub X44.here hx rfl (hb hby at_569) rfl (XS.i2l X44.here hx rfl (hb hby at_570) rfl (XS.lload X44.here hx rfl (hb hby at_571) rfl k)))))) ?_
                show GoW p e below QQ (T44.setTop (mkF m 573 #[.val (.int p1), .val (.int p2), .val (.int p3), .val (.int p4), .val (.long p5), .second, .val (.int v4), .val (.int (1 : Int32)), .val (.int (0 : Int32)), .val (.int v41), .val .null, .val (.int v195), .val (.int v202), .val (.ref b36), .val (.int v269), .val (.int (-1 : Int32)), .val (.int (1 : Int32)), .val (.int v334), .val (.long v355), .second, .val (.ref b40), .val (.int v384), .val (.int (1 : Int32)), .unset, .unset] [(.long v355), (.long ((((v202 - (1 : Int32)) - v384) - (1 : Int32)).toInt64))]))
                refine GoW.st (fun t k => XS.lconst X44.here hx rfl (hb hby at_573) (XS.lsub X44.here hx rfl (hb hby at_574) rfl (XS.lcmp X44.here hx rfl (hb hby at_575) rfl k))) ?_
                show GoW p e below QQ (T44.setTop (mkF m 576 #[.val (.int p1), .val (.int p2), .val (.int p3), .val (.int p4), .val (.long p5), .second, .val (.int v4), .val (.int (1 : Int32)), .val (.int (0 : Int32)), .val (.int v41), .val .null, .val (.int v195), .val (.int v202), .val (.ref b36), .val (.int v269), .val (.int (-1 : Int32)), .val (.int (1 : Int32)), .val (.int v334), .val (.long v355), .second, .val (.ref b40), .val (.int v384), .val (.int (1 : Int32)), .unset, .unset] [(.int (lcmpW ((((v202 - (1 : Int32)) - v384) - (1 : Int32)).toInt64) (v355 - (1 : Int64))))]))
                have hc576 : ((((v202 - (1 : Int32)) - v384) - (1 : Int32)).toInt64) = (v355 - (1 : Int64)) := by
                  have z1 : (1 : Int32).toInt = 1 := rfl
                  have zL1 : (1 : Int64).toInt = 1 := rfl
                  have za : (1 : Int32).toInt = 1 := rfl
                  have x4 := c_lsub v355 1
                  have y4 := rng64 (v355 - 1)
                  have x1 := c_isub v202 1
                  have y1 := rng32 (v202 - 1)
                  have x2 := c_isub (v202 - 1) v384
                  have y2 := rng32 ((v202 - 1) - v384)
                  have x5 := c_isub ((v202 - 1) - v384) (1 : Int32)
                  have y5 := rng32 (((v202 - 1) - v384) - (1 : Int32))
                  have x3 := c_i2l (((v202 - 1) - v384) - (1 : Int32))
                  apply own_eqL_of
                  omega
                refine GoW.st (fun t k => XS.ifNo X44.here hx rfl (hb hby at_576) rfl ((if0 _ _).trans (teq ((lw_eq ((((v202 - (1 : Int32)) - v384) - (1 : Int32)).toInt64) (v355 - (1 : Int64))).mpr hc576)).2) k) ?_
                show GoW p e below QQ (T44.setTop (mkF m 579 #[.val (.int p1), .val (.int p2), .val (.int p3), .val (.int p4), .val (.long p5), .second, .val (.int v4), .val (.int (1 : Int32)), .val (.int (0 : Int32)), .val (.int v41), .val .null, .val (.int v195), .val (.int v202), .val (.ref b36), .val (.int v269), .val (.int (-1 : Int32)), .val (.int (1 : Int32)), .val (.int v334), .val (.long v355), .second, .val (.ref b40), .val (.int v384), .val (.int (1 : Int32)), .unset, .unset] []))
                have hi576 : (((((v202 - (1 : Int32)) - v384) - (1 : Int32)).toInt64)).toInt = ((v355 - (1 : Int64))).toInt := (congrArg Int64.toInt hc576)
                refine GoW.st (fun t k => XS.iconst X44.here hx rfl (hb hby at_579) (XS.goto X44.here hx rfl (pc0 := 580) (pc' := 584) rfl (hb hby at_580) (by decide) (by decide) k)) ?_
                show GoW p e below QQ (T44.setTop (mkF m 584 #[.val (.int p1), .val (.int p2), .val (.int p3), .val (.int p4), .val (.long p5), .second, .val (.int v4), .val (.int (1 : Int32)), .val (.int (0 : Int32)), .val (.int v41), .val .null, .val (.int v195), .val (.int v202), .val (.ref b36), .val (.int v269), .val (.int (-1 : Int32)), .val (.int (1 : Int32)), .val (.int v334), .val (.long v355), .second, .val (.ref b40), .val (.int v384), .val (.int (1 : Int32)), .unset, .unset] [(.int (1 : Int32))]))
                exact GoW.fin X44 (some (.int (nar .boolean (1 : Int32)))) (fun q => by rw [hret] at q; cases q) hlk hQ hh44 ⟨rfl, N44⟩ (by decide) (by decide) (fun fs hr => retN X44 hx (t := .boolean) hret (by simp) (hb hby at_584) hr)
              · skip
                refine GoW.st (fun t k => XS.icmpYes X44.here hx rfl (pc0 := 537) (pc' := 544) rfl (hb hby at_537) rfl (flt hc537).2.2.2 (by decide) (by decide) k) ?_
                show GoW p e below QQ (T44.setTop (mkF m 544 #[.val (.int p1), .val (.int p2), .val (.int p3), .val (.int p4), .val (.long p5), .second, .val (.int v4), .val (.int (1 : Int32)), .val (.int (0 : Int32)), .val (.int v41), .val .null, .val (.int v195), .val (.int v202), .val (.ref b36), .val (.int v269), .val (.int (-1 : Int32)), .val (.int (1 : Int32)), .val (.int v334), .val (.long v355), .second, .val (.ref b40), .val (.int v384), .unset, .unset, .unset] []))
                have hi537 : ¬ (v384.toInt < v269.toInt) := (fun q => hc537 (Int32.lt_iff_toInt_lt.mpr q))
                refine GoW.st (fun t k => XS.iconst X44.here hx rfl (hb hby at_544) (XS.iload X44.here hx rfl (hb hby at_545) rfl (XS.iload X44.here hx rfl (hb hby at_547) rfl k))) ?_
                show GoW p e below QQ (T44.setTop (mkF m 549 #[.val (.int p1), .val (.int p2), .val (.int p3), .val (.int p4), .val (.long p5), .second, .val (.int v4), .val (.int (1 : Int32)), .val (.int (0 : Int32)), .val (.int v41), .val .null, .val (.int v195), .val (.int v202), .val (.ref b36), .val (.int v269), .val (.int (-1 : Int32)), .val (.int (1 : Int32)), .val (.int v334), .val (.long v355), .second, .val (.ref b40), .val (.int v384), .unset, .unset, .unset] [(.int v384), (.int (-1 : Int32)), (.int (0 : Int32))]))
                have hc549 : ¬ (v384 < (-1 : Int32)) := by
                  exact own_nlt_of (by omega)
                refine GoW.st (fun t k => XS.icmpYes X44.here hx rfl (pc0 := 549) (pc' := 556) rfl (hb hby at_549) rfl (flt hc549).2.2.2 (by decide) (by decide) k) ?_
                show GoW p e below QQ (T44.setTop (mkF m 556 #[.val (.int p1), .val (.int p2), .val (.int p3), .val (.int p4), .val (.long p5), .second, .val (.int v4), .val (.int (1 : Int32)), .val (.int (0 : Int32)), .val (.int v41), .val .null, .val (.int v195), .val (.int v202), .val (.ref b36), .val (.int v269), .val (.int (-1 : Int32)), .val (.int (1 : Int32)), .val (.int v334), .val (.long v355), .second, .val (.ref b40), .val (.int v384), .unset, .unset, .unset] [(.int (0 : Int32))]))
                have hi549 : ¬ (v384.toInt < -1) := (fun q => hc549 (Int32.lt_iff_toInt_lt.mpr q))
                refine GoW.st (fun t k => XS.iconst X44.here hx rfl (hb hby at_556) (XS.iadd X44.here hx rfl (hb hby at_557) rfl (XS.istore X44.here hx rfl (hb hby at_558) rfl (l' := #[.val (.int p1), .val (.int p2), .val (.int p3), .val (.int p4), .val (.long p5), .second, .val (.int v4), .val (.int (1 : Int32)), .val (.int (0 : Int32)), .val (.int v41), .val .null, .val (.int v195), .val (.int v202), .val (.ref b36), .val (.int v269), .val (.int (-1 : Int32)), .val (.int (1 : Int32)), .val (.int v334), .val (.long v355), .second, .val (.ref b40), .val (.int v384), .val (.int (0 : Int32)), .unset, .unset]) rfl (XS.iload X44.here hx rfl (hb hby at_560) rfl (XS.iconst X44.here hx rfl (hb hby at_562) (XS.isub X44.here hx rfl (hb hby at_563) rfl k)))))) ?_
                show GoW p e below QQ (T44.setTop (mkF m 564 #[.val (.int p1), .val (.int p2), .val (.int p3), .val (.int p4), .val (.long p5), .second, .val (.int v4), .val (.int (1 : Int32)), .val (.int (0 : Int32)), .val (.int v41), .val .null, .val (.int v195), .val (.int v202), .val (.ref b36), .val (.int v269), .val (.int (-1 : Int32)), .val (.int (1 : Int32)), .val (.int v334), .val (.long v355), .second, .val (.ref b40), .val (.int v384), .val (.int (0 : Int32)), .unset, .unset] [(.int (v202 - (1 : Int32)))]))
                refine GoW.st (fun t k => XS.iload X44.here hx rfl (hb hby at_564) rfl (XS.isub X44.here hx rfl (hb hby at_566) rfl (XS.iload X44.here hx rfl (hb hby at_567) rfl (XS.isub X44.here hx rfl (hb hby at_569) rfl (XS.i2l X44.here hx rfl (hb hby at_570) rfl (XS.lload X44.here hx rfl (hb hby at_571) rfl k)))))) ?_
                show GoW p e below QQ (T44.setTop (mkF m 573 #[.val (.int p1), .val (.int p2), .val (.int p3), .val (.int p4), .val (.long p5), .second, .val (.int v4), .val (.int (1 : Int32)), .val (.int (0 : Int32)), .val (.int v41), .val .null, .val (.int v195), .val (.int v202), .val (.ref b36), .val (.int v269), .val (.int (-1 : Int32)), .val (.int (1 : Int32)), .val (.int v334), .val (.long v355), .second, .val (.ref b40), .val (.int v384), .val (.int (0 : Int32)), .unset, .unset] [(.long v355), (.long ((((v202 - (1 : Int32)) - v384) - (0 : Int32)).toInt64))]))
                refine GoW.st (fun t k => XS.lconst X44.here hx rfl (hb hby at_573) (XS.lsub X44.here hx rfl (hb hby at_574) rfl (XS.lcmp X44.here hx rfl (hb hby at_575) rfl k))) ?_
                show GoW p e below QQ (T44.setTop (mkF m 576 #[.val (.int p1), .val (.int p2), .val (.int p3), .val (.int p4), .val (.long p5), .second, .val (.int v4), .val (.int (1 : Int32)), .val (.int (0 : Int32)), .val (.int v41), .val .null, .val (.int v195), .val (.int v202), .val (.ref b36), .val (.int v269), .val (.int (-1 : Int32)), .val (.int (1 : Int32)), .val (.int v334), .val (.long v355), .second, .val (.ref b40), .val (.int v384), .val (.int (0 : Int32)), .unset, .unset] [(.int (lcmpW ((((v202 - (1 : Int32)) - v384) - (0 : Int32)).toInt64) (v355 - (1 : Int64))))]))
                have hc576 : ((((v202 - (1 : Int32)) - v384) - (0 : Int32)).toInt64) = (v355 - (1 : Int64)) := by
                  have z1 : (1 : Int32).toInt = 1 := rfl
                  have zL1 : (1 : Int64).toInt = 1 := rfl
                  have za : (0 : Int32).toInt = 0 := rfl
                  have x4 := c_lsub v355 1
                  have y4 := rng64 (v355 - 1)
                  have x1 := c_isub v202 1
                  have y1 := rng32 (v202 - 1)
                  have x2 := c_isub (v202 - 1) v384
                  have y2 := rng32 ((v202 - 1) - v384)
                  have x5 := c_isub ((v202 - 1) - v384) (0 : Int32)
                  have y5 := rng32 (((v202 - 1) - v384) - (0 : Int32))
                  have x3 := c_i2l (((v202 - 1) - v384) - (0 : Int32))
                  apply own_eqL_of
                  omega
                refine GoW.st (fun t k => XS.ifNo X44.here hx rfl (hb hby at_576) rfl ((if0 _ _).trans (teq ((lw_eq ((((v202 - (1 : Int32)) - v384) - (0 : Int32)).toInt64) (v355 - (1 : Int64))).mpr hc576)).2) k) ?_
                show GoW p e below QQ (T44.setTop (mkF m 579 #[.val (.int p1), .val (.int p2), .val (.int p3), .val (.int p4), .val (.long p5), .second, .val (.int v4), .val (.int (1 : Int32)), .val (.int (0 : Int32)), .val (.int v41), .val .null, .val (.int v195), .val (.int v202), .val (.ref b36), .val (.int v269), .val (.int (-1 : Int32)), .val (.int (1 : Int32)), .val (.int v334), .val (.long v355), .second, .val (.ref b40), .val (.int v384), .val (.int (0 : Int32)), .unset, .unset] []))
                have hi576 : (((((v202 - (1 : Int32)) - v384) - (0 : Int32)).toInt64)).toInt = ((v355 - (1 : Int64))).toInt := (congrArg Int64.toInt hc576)
                refine GoW.st (fun t k => XS.iconst X44.here hx rfl (hb hby at_579) (XS.goto X44.here hx rfl (pc0 := 580) (pc' := 584) rfl (hb hby at_580) (by decide) (by decide) k)) ?_
                show GoW p e below QQ (T44.setTop (mkF m 584 #[.val (.int p1), .val (.int p2), .val (.int p3), .val (.int p4), .val (.long p5), .second, .val (.int v4), .val (.int (1 : Int32)), .val (.int (0 : Int32)), .val (.int v41), .val .null, .val (.int v195), .val (.int v202), .val (.ref b36), .val (.int v269), .val (.int (-1 : Int32)), .val (.int (1 : Int32)), .val (.int v334), .val (.long v355), .second, .val (.ref b40), .val (.int v384), .val (.int (0 : Int32)), .unset, .unset] [(.int (1 : Int32))]))
                exact GoW.fin X44 (some (.int (nar .boolean (1 : Int32)))) (fun q => by rw [hret] at q; cases q) hlk hQ hh44 ⟨rfl, N44⟩ (by decide) (by decide) (fun fs hr => retN X44 hx (t := .boolean) hret (by simp) (hb hby at_584) hr)
            · skip
              refine GoW.st (fun t k => XS.ifNo X38.here hx rfl (hb hby at_338) rfl ((if0 _ _).trans (flt hc338).2.2.1) k) ?_
              show GoW p e below QQ (T38.setTop (mkF m 341 #[.val (.int p1), .val (.int p2), .val (.int p3), .val (.int p4), .val (.long p5), .second, .val (.int v4), .val (.int (1 : Int32)), .val (.int (0 : Int32)), .val (.int v41), .val .null, .val (.int v195), .val (.int v202), .val (.ref b36), .val (.int v269), .val (.int (-1 : Int32)), .val (.int (1 : Int32)), .val (.int v334), .val (.int v249), .unset, .unset, .unset, .unset, .unset, .unset] []))
              have hi338 : ¬ (0 < v334.toInt) := (fun q => hc338 (Int32.lt_iff_toInt_lt.mpr q))
              refine GoW.st (fun t k => XS.iconst X38.here hx rfl (hb hby at_341) k) ?_
              show GoW p e below QQ (T38.setTop (mkF m 342 #[.val (.int p1), .val (.int p2), .val (.int p3), .val (.int p4), .val (.long p5), .second, .val (.int v4), .val (.int (1 : Int32)), .val (.int (0 : Int32)), .val (.int v41), .val .null, .val (.int v195), .val (.int v202), .val (.ref b36), .val (.int v269), .val (.int (-1 : Int32)), .val (.int (1 : Int32)), .val (.int v334), .val (.int v249), .unset, .unset, .unset, .unset, .unset, .unset] [(.int (1 : Int32))]))
              exact GoW.fin X38 (some (.int (nar .boolean (1 : Int32)))) (fun q => by rw [hret] at q; cases q) hlk hQ e38 ⟨rfl, N38⟩ (by decide) (by decide) (fun fs hr => retN X38 hx (t := .boolean) hret (by simp) (hb hby at_342) hr)
          · skip
            refine GoW.st (fun t k => XS.icmpNo X30.here hx rfl (hb hby at_254) rfl (feq hc254).1 k) ?_
            show GoW p e below QQ (T30.setTop (mkF m 257 #[.val (.int p1), .val (.int p2), .val (.int p3), .val (.int p4), .val (.long p5), .second, .val (.int v4), .val (.int (1 : Int32)), .val (.int (0 : Int32)), .val (.int v41), .val .null, .val (.int v195), .val (.int v202), .val .null, .val (.int (-1 : Int32)), .val (.int (-1 : Int32)), .val (.int (0 : Int32)), .val (.int v238), .val (.int v249), .unset, .unset, .unset, .unset, .unset, .unset] []))
            have hi254 : ¬ (v41.toInt = 1) := (fun q => hc254 (Int32.toInt_inj.mp q))
            refine GoW.st (fun t k => XS.iload X30.here hx rfl (hb hby at_257) rfl (XS.iload X30.here hx rfl (hb hby at_259) rfl k)) ?_
            show GoW p e below QQ (T30.setTop (mkF m 261 #[.val (.int p1), .val (.int p2), .val (.int p3), .val (.int p4), .val (.long p5), .second, .val (.int v4), .val (.int (1 : Int32)), .val (.int (0 : Int32)), .val (.int v41), .val .null, .val (.int v195), .val (.int v202), .val .null, .val (.int (-1 : Int32)), .val (.int (-1 : Int32)), .val (.int (0 : Int32)), .val (.int v238), .val (.int v249), .unset, .unset, .unset, .unset, .unset, .unset] [(.int v249), (.int v238)]))
            by_cases hc261 : v238 = v249
            · skip
              refine GoW.st (fun t k => XS.icmpNo X30.here hx rfl (hb hby at_261) rfl (teq hc261).2 k) ?_
              show GoW p e below QQ (T30.setTop (mkF m 264 #[.val (.int p1), .val (.int p2), .val (.int p3), .val (.int p4), .val (.long p5), .second, .val (.int v4), .val (.int (1 : Int32)), .val (.int (0 : Int32)), .val (.int v41), .val .null, .val (.int v195), .val (.int v202), .val .null, .val (.int (-1 : Int32)), .val (.int (-1 : Int32)), .val (.int (0 : Int32)), .val (.int v238), .val (.int v249), .unset, .unset, .unset, .unset, .unset, .unset] []))
              have hi261 : v238.toInt = v249.toInt := (congrArg Int32.toInt hc261)
              refine GoW.st (fun t k => XS.iload X30.here hx rfl (hb hby at_264) rfl (XS.iload X30.here hx rfl (hb hby at_266) rfl (XS.iadd X30.here hx rfl (hb hby at_268) rfl (XS.istore X30.here hx rfl (hb hby at_269) rfl (l' := #[.val (.int p1), .val (.int p2), .val (.int p3), .val (.int p4), .val (.long p5), .second, .val (.int v4), .val (.int (1 : Int32)), .val (.int (0 : Int32)), .val (.int v41), .val .null, .val (.int v195), .val (.int v202), .val .null, .val (.int (v195 + v238)), .val (.int (-1 : Int32)), .val (.int (0 : Int32)), .val (.int v238), .val (.int v249), .unset, .unset, .unset, .unset, .unset, .unset]) rfl k)))) ?_
              show GoW p e below QQ (T30.setTop (mkF m 271 #[.val (.int p1), .val (.int p2), .val (.int p3), .val (.int p4), .val (.long p5), .second, .val (.int v4), .val (.int (1 : Int32)), .val (.int (0 : Int32)), .val (.int v41), .val .null, .val (.int v195), .val (.int v202), .val .null, .val (.int (v195 + v238)), .val (.int (-1 : Int32)), .val (.int (0 : Int32)), .val (.int v238), .val (.int v249), .unset, .unset, .unset, .unset, .unset, .unset] []))
              generalize hv269 : (v195 + v238) = v269
              have s1A := c_iadd v195 v238
              have s1R := rng32 (v195 + v238)
              rw [hv269] at s1A s1R
              have s10 : v269.toInt = v195.toInt + v238.toInt := by omega
              refine GoW.st (fun t k => XS.iconst X30.here hx rfl (hb hby at_271) k) ?_
              show GoW p e below QQ (T30.setTop (mkF m 272 #[.val (.int p1), .val (.int p2), .val (.int p3), .val (.int p4), .val (.long p5), .second, .val (.int v4), .val (.int (1 : Int32)), .val (.int (0 : Int32)), .val (.int v41), .val .null, .val (.int v195), .val (.int v202), .val .null, .val (.int v269), .val (.int (-1 : Int32)), .val (.int (0 : Int32)), .val (.int v238), .val (.int v249), .unset, .unset, .unset, .unset, .unset, .unset] [(.int (1 : Int32))]))
              obtain ⟨T45, h45, k45, X45, e45, E45, A45, st45⟩ := newP X30 hx hZ (hw _ (List.mem_of_getElem? (i := 38) rfl)) hh30 (g := (mkF m 272 #[.val (.int p1), .val (.int p2), .val (.int p3), .val (.int p4), .val (.long p5), .second, .val (.int v4), .val (.int (1 : Int32)), .val (.int (0 : Int32)), .val (.int v41), .val .null, .val (.int v195), .val (.int v202), .val .null, .val (.int v269), .val (.int (-1 : Int32)), .val (.int (0 : Int32)), .val (.int v238), .val (.int v249), .unset, .unset, .unset, .unset, .unset, .unset] [(.int (1 : Int32))])) rfl (hb hby at_272) rfl (by decide) (cap := 1) (by decide) (by decide) (by decide) (by decide)
              obtain ⟨b45, g45⟩ : ∃ z, z = h0.size := ⟨_, rfl⟩
              rw [← g45] at A45 st45
              refine GoW.st st45 ?_
              have gg45 : n0 ≤ b45 := Nat.le_trans (Nat.le_trans Z0 K0.1) (Nat.le_of_eq g45.symm)
              have sz45 : h0.size ≤ b45 := Nat.le_trans K0.1 (Nat.le_of_eq g45.symm)
              have K45 : Keep h0 h45 [] := K0.ext E45
              have V45 : Arv Z h45 b45 k45 .int (1 : Int32) [(.int (0 : Int32))] (.int (0 : Int32)) := (Arv.new A45 (by decide)).pad (pad_rep [] (.int (0 : Int32)) 1)
              show GoW p e below QQ (T45.setTop (mkF m 274 #[.val (.int p1), .val (.int p2), .val (.int p3), .val (.int p4), .val (.long p5), .second, .val (.int v4), .val (.int (1 : Int32)), .val (.int (0 : Int32)), .val (.int v41), .val .null, .val (.int v195), .val (.int v202), .val .null, .val (.int v269), .val (.int (-1 : Int32)), .val (.int (0 : Int32)), .val (.int v238), .val (.int v249), .unset, .unset, .unset, .unset, .unset, .unset] [(.ref b45)]))
              refine GoW.st (fun t k => XS.dup X45.here hx rfl (hb hby at_274) rfl rfl (XS.iconst X45.here hx rfl (hb hby at_275) (XS.iload X45.here hx rfl (hb hby at_276) rfl k))) ?_
              show GoW p e below QQ (T45.setTop (mkF m 278 #[.val (.int p1), .val (.int p2), .val (.int p3), .val (.int p4), .val (.long p5), .second, .val (.int v4), .val (.int (1 : Int32)), .val (.int (0 : Int32)), .val (.int v41), .val .null, .val (.int v195), .val (.int v202), .val .null, .val (.int v269), .val (.int (-1 : Int32)), .val (.int (0 : Int32)), .val (.int v238), .val (.int v249), .unset, .unset, .unset, .unset, .unset, .unset] [(.int v269), (.int (0 : Int32)), (.ref b45), (.ref b45)]))
              obtain ⟨T47, h47, X47, e47, W47, V47, st47⟩ := stVI X45 hx hZ e45 V45 ⟨by decide, by decide⟩ 0 rfl (Nat.le_of_ble_eq_true rfl) (g := (mkF m 278 #[.val (.int p1), .val (.int p2), .val (.int p3), .val (.int p4), .val (.long p5), .second, .val (.int v4), .val (.int (1 : Int32)), .val (.int (0 : Int32)), .val (.int v41), .val .null, .val (.int v195), .val (.int v202), .val .null, .val (.int v269), .val (.int (-1 : Int32)), .val (.int (0 : Int32)), .val (.int v238), .val (.int v249), .unset, .unset, .unset, .unset, .unset, .unset] [(.int v269), (.int (0 : Int32)), (.ref b45), (.ref b45)])) rfl rfl (hb hby at_278)
              refine GoW.st st47 ?_
              have f48_V_b45 : Arv Z h47 b45 k45 .int (1 : Int32) [(.int v269)] (.int (0 : Int32)) := V47
              have K47 : Keep h0 h47 [] := K45.wr W47 (Or.inr sz45)
              have N47 := Fr.snoc X47 N30 gg45
              show GoW p e below QQ (T47.setTop (mkF m 279 #[.val (.int p1), .val (.int p2), .val (.int p3), .val (.int p4), .val (.long p5), .second, .val (.int v4), .val (.int (1 : Int32)), .val (.int (0 : Int32)), .val (.int v41), .val .null, .val (.int v195), .val (.int v202), .val .null, .val (.int v269), .val (.int (-1 : Int32)), .val (.int (0 : Int32)), .val (.int v238), .val (.int v249), .unset, .unset, .unset, .unset, .unset, .unset] [(.ref b45)]))
              refine GoW.st (fun t k => XS.astore X47.here hx rfl (hb hby at_279) rfl rfl (l' := #[.val (.int p1), .val (.int p2), .val (.int p3), .val (.int p4), .val (.long p5), .second, .val (.int v4), .val (.int (1 : Int32)), .val (.int (0 : Int32)), .val (.int v41), .val .null, .val (.int v195), .val (.int v202), .val (.ref b45), .val (.int v269), .val (.int (-1 : Int32)), .val (.int (0 : Int32)), .val (.int v238), .val (.int v249), .unset, .unset, .unset, .unset, .unset, .unset]) rfl (XS.iconst X47.here hx rfl (hb hby at_281) (XS.istore X47.here hx rfl (hb hby at_282) rfl (l' := #[.val (.int p1), .val (.int p2), .val (.int p3), .val (.int p4), .val (.long p5), .second, .val (.int v4), .val (.int (1 : Int32)), .val (.int (0 : Int32)), .val (.int v41), .val .null, .val (.int v195), .val (.int v202), .val (.ref b45), .val (.int v269), .val (.int (-1 : Int32)), .val (.int (1 : Int32)), .val (.int v238), .val (.int v249), .unset, .unset, .unset, .unset, .unset, .unset]) rfl (XS.goto X47.here hx rfl (pc0 := 284) (pc' := 329) rfl (hb hby at_284) (by decide) (by decide) (XS.iload X47.here hx rfl (hb hby at_329) rfl (XS.iload X47.here hx rfl (hb hby at_331) rfl k)))))) ?_
              show GoW p e below QQ (T47.setTop (mkF m 333 #[.val (.int p1), .val (.int p2), .val (.int p3), .val (.int p4), .val (.long p5), .second, .val (.int v4), .val (.int (1 : Int32)), .val (.int (0 : Int32)), .val (.int v41), .val .null, .val (.int v195), .val (.int v202), .val (.ref b45), .val (.int v269), .val (.int (-1 : Int32)), .val (.int (1 : Int32)), .val (.int v238), .val (.int v249), .unset, .unset, .unset, .unset, .unset, .unset] [(.int (1 : Int32)), (.int v4)]))
              refine GoW.st (fun t k => XS.isub X47.here hx rfl (hb hby at_333) rfl (XS.istore X47.here hx rfl (hb hby at_334) rfl (l' := #[.val (.int p1), .val (.int p2), .val (.int p3), .val (.int p4), .val (.long p5), .second, .val (.int v4), .val (.int (1 : Int32)), .val (.int (0 : Int32)), .val (.int v41), .val .null, .val (.int v195), .val (.int v202), .val (.ref b45), .val (.int v269), .val (.int (-1 : Int32)), .val (.int (1 : Int32)), .val (.int (v4 - (1 : Int32))), .val (.int v249), .unset, .unset, .unset, .unset, .unset, .unset]) rfl k)) ?_
              show GoW p e below QQ (T47.setTop (mkF m 336 #[.val (.int p1), .val (.int p2), .val (.int p3), .val (.int p4), .val (.long p5), .second, .val (.int v4), .val (.int (1 : Int32)), .val (.int (0 : Int32)), .val (.int v41), .val .null, .val (.int v195), .val (.int v202), .val (.ref b45), .val (.int v269), .val (.int (-1 : Int32)), .val (.int (1 : Int32)), .val (.int (v4 - (1 : Int32))), .val (.int v249), .unset, .unset, .unset, .unset, .unset, .unset] []))
              generalize hv334 : (v4 - (1 : Int32)) = v334
              have szA := c_isub v4 (1 : Int32)
              have szR := rng32 (v4 - (1 : Int32))
              rw [hv334] at szA szR
              have zk : (1 : Int32).toInt = 1 := rfl
              have sz0 : v334.toInt = v4.toInt - 1 := by omega
              refine GoW.st (fun t k => XS.iload X47.here hx rfl (hb hby at_336) rfl k) ?_
              show GoW p e below QQ (T47.setTop (mkF m 338 #[.val (.int p1), .val (.int p2), .val (.int p3), .val (.int p4), .val (.long p5), .second, .val (.int v4), .val (.int (1 : Int32)), .val (.int (0 : Int32)), .val (.int v41), .val .null, .val (.int v195), .val (.int v202), .val (.ref b45), .val (.int v269), .val (.int (-1 : Int32)), .val (.int (1 : Int32)), .val (.int v334), .val (.int v249), .unset, .unset, .unset, .unset, .unset, .unset] [(.int v334)]))
              by_cases hc338 : (0 : Int32) < v334
              · skip
                refine GoW.st (fun t k => XS.ifYes X47.here hx rfl (pc0 := 338) (pc' := 343) rfl (hb hby at_338) rfl ((if0 _ _).trans (tlt hc338).2.2.1) (by decide) (by decide) k) ?_
                show GoW p e below QQ (T47.setTop (mkF m 343 #[.val (.int p1), .val (.int p2), .val (.int p3), .val (.int p4), .val (.long p5), .second, .val (.int v4), .val (.int (1 : Int32)), .val (.int (0 : Int32)), .val (.int v41), .val .null, .val (.int v195), .val (.int v202), .val (.ref b45), .val (.int v269), .val (.int (-1 : Int32)), .val (.int (1 : Int32)), .val (.int v334), .val (.int v249), .unset, .unset, .unset, .unset, .unset, .unset] []))
                have hi338 : 0 < v334.toInt := (Int32.lt_iff_toInt_lt.mp hc338)
                have szp : 0 < v334.toInt := hi338
                have nzL : (v334.toInt64) ≠ 0 := fun q => by
                  have q2 := congrArg Int64.toInt q
                  rw [c_i2l] at q2
                  have z : (0 : Int64).toInt = 0 := rfl
                  omega
                refine GoW.st (fun t k => XS.lconst X47.here hx rfl (hb hby at_343) (XS.lload X47.here hx rfl (hb hby at_344) rfl (X47.ldc2Long hx hown (mvT hZ (hw _ (List.mem_of_getElem? (i := 6) rfl))) (g := (mkF m 346 #[.val (.int p1), .val (.int p2), .val (.int p3), .val (.int p4), .val (.long p5), .second, .val (.int v4), .val (.int (1 : Int32)), .val (.int (0 : Int32)), .val (.int v41), .val .null, .val (.int v195), .val (.int v202), .val (.ref b45), .val (.int v269), .val (.int (-1 : Int32)), .val (.int (1 : Int32)), .val (.int v334), .val (.int v249), .unset, .unset, .unset, .unset, .unset, .unset] [(.long p5), (.long (1 : Int64))])) rfl (hb hby at_346) t (XS.land X47.here hx rfl (hb hby at_349) rfl (XS.iload X47.here hx rfl (hb hby at_350) rfl (XS.i2l X47.here hx rfl (hb hby at_352) rfl k)))))) ?_
                show GoW p e below QQ (T47.setTop (mkF m 353 #[.val (.int p1), .val (.int p2), .val (.int p3), .val (.int p4), .val (.long p5), .second, .val (.int v4), .val (.int (1 : Int32)), .val (.int (0 : Int32)), .val (.int v41), .val .null, .val (.int v195), .val (.int v202), .val (.ref b45), .val (.int v269), .val (.int (-1 : Int32)), .val (.int (1 : Int32)), .val (.int v334), .val (.int v249), .unset, .unset, .unset, .unset, .unset, .unset] [(.long (v334.toInt64)), (.long (p5 &&& (9223372036854775807 : Int64))), (.long (1 : Int64))]))
                refine GoW.st (fun t k => lremM X47 hx rfl (hb hby at_353) rfl nzL (XS.ladd X47.here hx rfl (hb hby at_354) rfl (XS.lstore X47.here hx rfl (hb hby at_355) rfl (l' := #[.val (.int p1), .val (.int p2), .val (.int p3), .val (.int p4), .val (.long p5), .second, .val (.int v4), .val (.int (1 : Int32)), .val (.int (0 : Int32)), .val (.int v41), .val .null, .val (.int v195), .val (.int v202), .val (.ref b45), .val (.int v269), .val (.int (-1 : Int32)), .val (.int (1 : Int32)), .val (.int v334), .val (.long ((1 : Int64) + ((p5 &&& (9223372036854775807 : Int64)) % (v334.toInt64)))), .second, .unset, .unset, .unset, .unset, .unset]) rfl k))) ?_
                show GoW p e below QQ (T47.setTop (mkF m 357 #[.val (.int p1), .val (.int p2), .val (.int p3), .val (.int p4), .val (.long p5), .second, .val (.int v4), .val (.int (1 : Int32)), .val (.int (0 : Int32)), .val (.int v41), .val .null, .val (.int v195), .val (.int v202), .val (.ref b45), .val (.int v269), .val (.int (-1 : Int32)), .val (.int (1 : Int32)), .val (.int v334), .val (.long ((1 : Int64) + ((p5 &&& (9223372036854775807 : Int64)) % (v334.toInt64)))), .second, .unset, .unset, .unset, .unset, .unset] []))
                generalize hv355 : ((1 : Int64) + ((p5 &&& (9223372036854775807 : Int64)) % (v334.toInt64))) = v355
                have poA := own_posf p5 v334 szp
                rw [hv355] at poA
                have ix := own_ixr v202 v355 (by omega) (by omega)
                obtain ⟨T49, h49, X49, e49, E49, A49, D49, -, st49⟩ := newO X47 hx hZ hown (hw _ (List.mem_of_getElem? (i := 7) rfl)) (hw _ (List.mem_of_getElem? (i := 8) rfl)) (hw _ (List.mem_of_getElem? (i := 9) rfl)) e47 (g := (mkF m 357 #[.val (.int p1), .val (.int p2), .val (.int p3), .val (.int p4), .val (.long p5), .second, .val (.int v4), .val (.int (1 : Int32)), .val (.int (0 : Int32)), .val (.int v41), .val .null, .val (.int v195), .val (.int v202), .val (.ref b45), .val (.int v269), .val (.int (-1 : Int32)), .val (.int (1 : Int32)), .val (.int v334), .val (.long v355), .second, .unset, .unset, .unset, .unset, .unset] [])) rfl (hb hby at_357) (by decide) (by decide)
                obtain ⟨b49, g49⟩ : ∃ z, z = h47.size := ⟨_, rfl⟩
                rw [← g49] at A49 D49 st49
                refine GoW.st st49 ?_
                have gg49 : n0 ≤ b49 := Nat.le_trans (Nat.le_trans Z0 K47.1) (Nat.le_of_eq g49.symm)
                have sz49 : h0.size ≤ b49 := Nat.le_trans K47.1 (Nat.le_of_eq g49.symm)
                have ne49_b45 : b45 ≠ b49 := Nat.ne_of_lt (Nat.lt_of_lt_of_le f48_V_b45.lt (Nat.le_of_eq g49.symm))
                have f50_V_b45 : Arv Z h49 b45 k45 .int (1 : Int32) [(.int v269)] (.int (0 : Int32)) := f48_V_b45.ext E49
                have K49 : Keep h0 h49 [] := K47.ext E49
                have F49_context : Fld Z h49 b49 "com/example/hike/hike/Proximity$Group" "context" "I" (.int (0 : Int32)) := D49 (Or.inr (hw _ (List.mem_of_getElem? (i := 22) rfl))) (ty := .int) (by decide)
                have F49_order : Fld Z h49 b49 "com/example/hike/hike/Proximity$Group" "order" "[I" .null := D49 (Or.inr (hw _ (List.mem_of_getElem? (i := 24) rfl))) (ty := (.array .int)) (by decide)
                have F49_from : Fld Z h49 b49 "com/example/hike/hike/Proximity$Group" "from" "I" (.int (0 : Int32)) := D49 (Or.inr (hw _ (List.mem_of_getElem? (i := 26) rfl))) (ty := .int) (by decide)
                have F49_to : Fld Z h49 b49 "com/example/hike/hike/Proximity$Group" "to" "I" (.int (0 : Int32)) := D49 (Or.inr (hw _ (List.mem_of_getElem? (i := 28) rfl))) (ty := .int) (by decide)
                have F49_reverse : Fld Z h49 b49 "com/example/hike/hike/Proximity$Group" "reverse" "Z" (.int (0 : Int32)) := D49 (Or.inr (hw _ (List.mem_of_getElem? (i := 30) rfl))) (ty := .boolean) (by decide)
                have F49_skipped : Fld Z h49 b49 "com/example/hike/hike/Proximity$Group" "skipped" "[I" .null := D49 (Or.inr (hw _ (List.mem_of_getElem? (i := 32) rfl))) (ty := (.array .int)) (by decide)
                show GoW p e below QQ (T49.setTop (mkF m 360 #[.val (.int p1), .val (.int p2), .val (.int p3), .val (.int p4), .val (.long p5), .second, .val (.int v4), .val (.int (1 : Int32)), .val (.int (0 : Int32)), .val (.int v41), .val .null, .val (.int v195), .val (.int v202), .val (.ref b45), .val (.int v269), .val (.int (-1 : Int32)), .val (.int (1 : Int32)), .val (.int v334), .val (.long v355), .second, .unset, .unset, .unset, .unset, .unset] [(.ref b49)]))
                refine GoW.st (fun t k => XS.dup X49.here hx rfl (hb hby at_360) rfl rfl (XS.iloadN X49.here hx rfl (hb hby at_361) rfl (XS.aload X49.here hx rfl (hb hby at_362) rfl rfl (XS.iload X49.here hx rfl (hb hby at_364) rfl (XS.iload X49.here hx rfl (hb hby at_366) rfl (XS.iload X49.here hx rfl (hb hby at_368) rfl k)))))) ?_
                show GoW p e below QQ (T49.setTop (mkF m 370 #[.val (.int p1), .val (.int p2), .val (.int p3), .val (.int p4), .val (.long p5), .second, .val (.int v4), .val (.int (1 : Int32)), .val (.int (0 : Int32)), .val (.int v41), .val .null, .val (.int v195), .val (.int v202), .val (.ref b45), .val (.int v269), .val (.int (-1 : Int32)), .val (.int (1 : Int32)), .val (.int v334), .val (.long v355), .second, .unset, .unset, .unset, .unset, .unset] [(.int (1 : Int32)), (.int v202), (.int v195), .null, (.int p3), (.ref b49), (.ref b49)]))
                refine GoW.st (fun t k => XS.aload X49.here hx rfl (hb hby at_370) rfl rfl k) ?_
                show GoW p e below QQ (T49.setTop (mkF m 372 #[.val (.int p1), .val (.int p2), .val (.int p3), .val (.int p4), .val (.long p5), .second, .val (.int v4), .val (.int (1 : Int32)), .val (.int (0 : Int32)), .val (.int v41), .val .null, .val (.int v195), .val (.int v202), .val (.ref b45), .val (.int v269), .val (.int (-1 : Int32)), .val (.int (1 : Int32)), .val (.int v334), .val (.long v355), .second, .unset, .unset, .unset, .unset, .unset] [(.ref b45), (.int (1 : Int32)), (.int v202), (.int v195), .null, (.int p3), (.ref b49), (.ref b49)]))
                obtain ⟨_, _, ⟨T51, zL51, zk51, zn51⟩, -, X51, ⟨Lc51, hQ51, zl51, zy51, zz51⟩, st51⟩ := X49.specialBack hx (y := (⟨"com/example/hike/hike/Proximity$Group", "<init>", "(I[IIIZ[I)V"⟩ : MethodName)) rfl hown (mvT hZ (hw _ (List.mem_of_getElem? (i := 10) rfl))) (mvT hZ (hw _ (List.mem_of_getElem? (i := 11) rfl))) (mvT hZ (hw _ (List.mem_of_getElem? (i := 12) rfl))) (by decide) (backOf (W := 1) (rm2_s1 l Z a0 hw [] b49 p3 v195 v202 b45 h49 n0 (Nat.le_trans Z0 K49.1) A49 gg49 F49_context F49_order F49_from F49_to F49_reverse F49_skipped) hZ (hw _ (List.mem_of_getElem? (i := 12) rfl)) (hw _ (List.mem_of_getElem? (i := 9) rfl)) (by decide) (by decide)) (g := (mkF m 372 #[.val (.int p1), .val (.int p2), .val (.int p3), .val (.int p4), .val (.long p5), .second, .val (.int v4), .val (.int (1 : Int32)), .val (.int (0 : Int32)), .val (.int v41), .val .null, .val (.int v195), .val (.int v202), .val (.ref b45), .val (.int v269), .val (.int (-1 : Int32)), .val (.int (1 : Int32)), .val (.int v334), .val (.long v355), .second, .unset, .unset, .unset, .unset, .unset] [(.ref b45), (.int (1 : Int32)), (.int v202), (.int v195), .null, (.int p3), (.ref b49), (.ref b49)])) rfl (by rw [hml]; rfl) (Steps.refl _) (a := b49) (argsL := [(.int p3), .null, (.int v195), (.int v202), (.int (1 : Int32)), (.ref b45)]) (rest := [(.ref b49)]) (lenOf pd_2 rfl) rfl (by show 2 * 0 + _ ≤ _; exact Nat.le_of_eq rfl) (hb hby at_372) (fun _ _ => ⟨rfl, e49, (by decide : 2 + 0 ≤ _), (by decide : 7 + 0 ≤ _)⟩)
                dsimp only [Pt.U, Pt.locs, Pt.cells, Pt.slots] at X51 zl51 zy51 zz51 st51 hQ51
                subst zl51 zy51 zz51
                obtain ⟨rfl, Nq51, Kq51, p51_0, p51_1, p51_2, p51_3, p51_4, p51_5⟩ := hQ51
                have N51 := Fr.app N47 Nq51
                refine GoW.st (fun t k => st51.trans k) ?_
                have f52_V_b45 : Arv Z T51.heap b45 k45 .int (1 : Int32) [(.int v269)] (.int (0 : Int32)) := f50_V_b45.keep Kq51 (ninS ne49_b45 nin0)
                have K51 : Keep h0 T51.heap [] := K49.trans Kq51 (allS (Or.inr sz49) all0)
                show GoW p e below QQ (T51.setTop (mkF m 375 #[.val (.int p1), .val (.int p2), .val (.int p3), .val (.int p4), .val (.long p5), .second, .val (.int v4), .val (.int (1 : Int32)), .val (.int (0 : Int32)), .val (.int v41), .val .null, .val (.int v195), .val (.int v202), .val (.ref b45), .val (.int v269), .val (.int (-1 : Int32)), .val (.int (1 : Int32)), .val (.int v334), .val (.long v355), .second, .unset, .unset, .unset, .unset, .unset] [(.ref b49)]))
                refine GoW.st (fun t k => XS.astore X51.here hx rfl (hb hby at_375) rfl rfl (l' := #[.val (.int p1), .val (.int p2), .val (.int p3), .val (.int p4), .val (.long p5), .second, .val (.int v4), .val (.int (1 : Int32)), .val (.int (0 : Int32)), .val (.int v41), .val .null, .val (.int v195), .val (.int v202), .val (.ref b45), .val (.int v269), .val (.int (-1 : Int32)), .val (.int (1 : Int32)), .val (.int v334), .val (.long v355), .second, .val (.ref b49), .unset, .unset, .unset, .unset]) rfl (XS.aload X51.here hx rfl (hb hby at_377) rfl rfl (XS.lload X51.here hx rfl (hb hby at_379) rfl k))) ?_
                show GoW p e below QQ (T51.setTop (mkF m 381 #[.val (.int p1), .val (.int p2), .val (.int p3), .val (.int p4), .val (.long p5), .second, .val (.int v4), .val (.int (1 : Int32)), .val (.int (0 : Int32)), .val (.int v41), .val .null, .val (.int v195), .val (.int v202), .val (.ref b45), .val (.int v269), .val (.int (-1 : Int32)), .val (.int (1 : Int32)), .val (.int v334), .val (.long v355), .second, .val (.ref b49), .unset, .unset, .unset, .unset] [(.long v355), (.ref b49)]))
                obtain ⟨cq53, kq53, qa53, qb53, qc53⟩ := isOf hZ rfl p51_0
                obtain ⟨_, _, ⟨T53, zL53, zk53, zn53⟩, -, X53, ⟨Lc53, hQ53, zl53, zy53, zz53⟩, st53⟩ := X51.virtualBack hx (y := (⟨"com/example/hike/hike/Proximity$Group", "at", "(J)I"⟩ : MethodName)) (z := (⟨"com/example/hike/hike/Proximity$Group", "at", "(J)I"⟩ : MethodName)) hown (mvT hZ (hw _ (List.mem_of_getElem? (i := 33) rfl))) (mvT hZ (hw _ (List.mem_of_getElem? (i := 34) rfl))) (notFace_of_selects (args := #[]) (mvT hZ (hw _ (List.mem_of_getElem? (i := 36) rfl)))) (mvT hZ (hw _ (List.mem_of_getElem? (i := 36) rfl))) (mvT hZ (hw _ (List.mem_of_getElem? (i := 35) rfl))) (by decide) (backOf (W := 0) (rm5_s1 l Z a0 hw [] b49 v355 v195 v202 b45 k45 v269 T51.heap n0 (Nat.le_trans Z0 K51.1) p51_4 p51_2 p51_3 p51_5 p51_1 f52_V_b45) hZ (hw _ (List.mem_of_getElem? (i := 37) rfl)) (hw _ (List.mem_of_getElem? (i := 9) rfl)) (by decide) (by decide)) qa53 qc53 (g := (mkF m 381 #[.val (.int p1), .val (.int p2), .val (.int p3), .val (.int p4), .val (.long p5), .second, .val (.int v4), .val (.int (1 : Int32)), .val (.int (0 : Int32)), .val (.int v41), .val .null, .val (.int v195), .val (.int v202), .val (.ref b45), .val (.int v269), .val (.int (-1 : Int32)), .val (.int (1 : Int32)), .val (.int v334), .val (.long v355), .second, .val (.ref b49), .unset, .unset, .unset, .unset] [(.long v355), (.ref b49)])) rfl (by rw [hml]; rfl) (Steps.refl _) (argsL := [(.long v355)]) (rest := []) (lenOf pd_3 rfl) rfl (by show 2 * 0 + _ ≤ _; exact Nat.le_of_eq rfl) (hb hby at_381) (fun _ _ => ⟨rfl, rfl, (by decide : 2 + 0 ≤ _), (by decide : 7 + 0 ≤ _)⟩)
                dsimp only [Pt.U, Pt.locs, Pt.cells, Pt.slots] at X53 zl53 zy53 zz53 st53 hQ53
                subst zl53 zy53 zz53
                obtain ⟨rfl, Nq53, hh53⟩ := hQ53
                have N53 := Fr.app N51 Nq53
                refine GoW.st (fun t k => st53.trans k) ?_
                show GoW p e below QQ (T53.setTop (mkF m 384 #[.val (.int p1), .val (.int p2), .val (.int p3), .val (.int p4), .val (.long p5), .second, .val (.int v4), .val (.int (1 : Int32)), .val (.int (0 : Int32)), .val (.int v41), .val .null, .val (.int v195), .val (.int v202), .val (.ref b45), .val (.int v269), .val (.int (-1 : Int32)), .val (.int (1 : Int32)), .val (.int v334), .val (.long v355), .second, .val (.ref b49), .unset, .unset, .unset, .unset] [(.int (own_sk1 v269 ((v202.toInt64 - v355).toInt32)))]))
                refine GoW.st (fun t k => XS.istore X53.here hx rfl (hb hby at_384) rfl (l' := #[.val (.int p1), .val (.int p2), .val (.int p3), .val (.int p4), .val (.long p5), .second, .val (.int v4), .val (.int (1 : Int32)), .val (.int (0 : Int32)), .val (.int v41), .val .null, .val (.int v195), .val (.int v202), .val (.ref b45), .val (.int v269), .val (.int (-1 : Int32)), .val (.int (1 : Int32)), .val (.int v334), .val (.long v355), .second, .val (.ref b49), .val (.int (own_sk1 v269 ((v202.toInt64 - v355).toInt32))), .unset, .unset, .unset]) rfl k) ?_
                show GoW p e below QQ (T53.setTop (mkF m 386 #[.val (.int p1), .val (.int p2), .val (.int p3), .val (.int p4), .val (.long p5), .second, .val (.int v4), .val (.int (1 : Int32)), .val (.int (0 : Int32)), .val (.int v41), .val .null, .val (.int v195), .val (.int v202), .val (.ref b45), .val (.int v269), .val (.int (-1 : Int32)), .val (.int (1 : Int32)), .val (.int v334), .val (.long v355), .second, .val (.ref b49), .val (.int (own_sk1 v269 ((v202.toInt64 - v355).toInt32))), .unset, .unset, .unset] []))
                generalize hv384 : (own_sk1 v269 ((v202.toInt64 - v355).toInt32)) = v384
                have rS := own_sk1_i v269 ((v202.toInt64 - v355).toInt32) (by omega)
                rw [hv384] at rS
                refine GoW.st (fun t k => XS.iload X53.here hx rfl (hb hby at_386) rfl k) ?_
                show GoW p e below QQ (T53.setTop (mkF m 388 #[.val (.int p1), .val (.int p2), .val (.int p3), .val (.int p4), .val (.long p5), .second, .val (.int v4), .val (.int (1 : Int32)), .val (.int (0 : Int32)), .val (.int v41), .val .null, .val (.int v195), .val (.int v202), .val (.ref b45), .val (.int v269), .val (.int (-1 : Int32)), .val (.int (1 : Int32)), .val (.int v334), .val (.long v355), .second, .val (.ref b49), .val (.int v384), .unset, .unset, .unset] [(.int (0 : Int32))]))
                have hc388 : (0 : Int32) = (0 : Int32) := by decide
                refine GoW.st (fun t k => XS.ifYes X53.here hx rfl (pc0 := 388) (pc' := 478) rfl (hb hby at_388) rfl ((if0 _ _).trans (teq hc388).1) (by decide) (by decide) (XS.iload X53.here hx rfl (hb hby at_478) rfl (XS.iload X53.here hx rfl (hb hby at_480) rfl k))) ?_
                show GoW p e below QQ (T53.setTop (mkF m 482 #[.val (.int p1), .val (.int p2), .val (.int p3), .val (.int p4), .val (.long p5), .second, .val (.int v4), .val (.int (1 : Int32)), .val (.int (0 : Int32)), .val (.int v41), .val .null, .val (.int v195), .val (.int v202), .val (.ref b45), .val (.int v269), .val (.int (-1 : Int32)), .val (.int (1 : Int32)), .val (.int v334), .val (.long v355), .second, .val (.ref b49), .val (.int v384), .unset, .unset, .unset] [(.int v195), (.int v384)]))
                have hc482 : ¬ (v384 < v195) := by
                  exact own_nlt_of (by omega)
                refine GoW.st (fun t k => XS.icmpNo X53.here hx rfl (hb hby at_482) rfl (flt hc482).1 k) ?_
                show GoW p e below QQ (T53.setTop (mkF m 485 #[.val (.int p1), .val (.int p2), .val (.int p3), .val (.int p4), .val (.long p5), .second, .val (.int v4), .val (.int (1 : Int32)), .val (.int (0 : Int32)), .val (.int v41), .val .null, .val (.int v195), .val (.int v202), .val (.ref b45), .val (.int v269), .val (.int (-1 : Int32)), .val (.int (1 : Int32)), .val (.int v334), .val (.long v355), .second, .val (.ref b49), .val (.int v384), .unset, .unset, .unset] []))
                have hi482 : ¬ (v384.toInt < v195.toInt) := (fun q => hc482 (Int32.lt_iff_toInt_lt.mpr q))
                refine GoW.st (fun t k => XS.iload X53.here hx rfl (hb hby at_485) rfl (XS.iload X53.here hx rfl (hb hby at_487) rfl k)) ?_
                show GoW p e below QQ (T53.setTop (mkF m 489 #[.val (.int p1), .val (.int p2), .val (.int p3), .val (.int p4), .val (.long p5), .second, .val (.int v4), .val (.int (1 : Int32)), .val (.int (0 : Int32)), .val (.int v41), .val .null, .val (.int v195), .val (.int v202), .val (.ref b45), .val (.int v269), .val (.int (-1 : Int32)), .val (.int (1 : Int32)), .val (.int v334), .val (.long v355), .second, .val (.ref b49), .val (.int v384), .unset, .unset, .unset] [(.int v202), (.int v384)]))
                have hc489 : v384 < v202 := by
                  exact own_lt_of (by omega)
                refine GoW.st (fun t k => XS.icmpNo X53.here hx rfl (hb hby at_489) rfl (tlt hc489).2.1 k) ?_
                show GoW p e below QQ (T53.setTop (mkF m 492 #[.val (.int p1), .val (.int p2), .val (.int p3), .val (.int p4), .val (.long p5), .second, .val (.int v4), .val (.int (1 : Int32)), .val (.int (0 : Int32)), .val (.int v41), .val .null, .val (.int v195), .val (.int v202), .val (.ref b45), .val (.int v269), .val (.int (-1 : Int32)), .val (.int (1 : Int32)), .val (.int v334), .val (.long v355), .second, .val (.ref b49), .val (.int v384), .unset, .unset, .unset] []))
                have hi489 : v384.toInt < v202.toInt := (Int32.lt_iff_toInt_lt.mp hc489)
                refine GoW.st (fun t k => XS.iload X53.here hx rfl (hb hby at_492) rfl (XS.iload X53.here hx rfl (hb hby at_494) rfl k)) ?_
                show GoW p e below QQ (T53.setTop (mkF m 496 #[.val (.int p1), .val (.int p2), .val (.int p3), .val (.int p4), .val (.long p5), .second, .val (.int v4), .val (.int (1 : Int32)), .val (.int (0 : Int32)), .val (.int v41), .val .null, .val (.int v195), .val (.int v202), .val (.ref b45), .val (.int v269), .val (.int (-1 : Int32)), .val (.int (1 : Int32)), .val (.int v334), .val (.long v355), .second, .val (.ref b49), .val (.int v384), .unset, .unset, .unset] [(.int v269), (.int v384)]))
                have hc496 : ¬ (v384 = v269) := by
                  exact own_ne_of (by omega)
                refine GoW.st (fun t k => XS.icmpNo X53.here hx rfl (hb hby at_496) rfl (feq hc496).1 k) ?_
                show GoW p e below QQ (T53.setTop (mkF m 499 #[.val (.int p1), .val (.int p2), .val (.int p3), .val (.int p4), .val (.long p5), .second, .val (.int v4), .val (.int (1 : Int32)), .val (.int (0 : Int32)), .val (.int v41), .val .null, .val (.int v195), .val (.int v202), .val (.ref b45), .val (.int v269), .val (.int (-1 : Int32)), .val (.int (1 : Int32)), .val (.int v334), .val (.long v355), .second, .val (.ref b49), .val (.int v384), .unset, .unset, .unset] []))
                have hi496 : ¬ (v384.toInt = v269.toInt) := (fun q => hc496 (Int32.toInt_inj.mp q))
                refine GoW.st (fun t k => XS.iload X53.here hx rfl (hb hby at_499) rfl (XS.iload X53.here hx rfl (hb hby at_501) rfl k)) ?_
                show GoW p e below QQ (T53.setTop (mkF m 503 #[.val (.int p1), .val (.int p2), .val (.int p3), .val (.int p4), .val (.long p5), .second, .val (.int v4), .val (.int (1 : Int32)), .val (.int (0 : Int32)), .val (.int v41), .val .null, .val (.int v195), .val (.int v202), .val (.ref b45), .val (.int v269), .val (.int (-1 : Int32)), .val (.int (1 : Int32)), .val (.int v334), .val (.long v355), .second, .val (.ref b49), .val (.int v384), .unset, .unset, .unset] [(.int (-1 : Int32)), (.int v384)]))
                have hc503 : ¬ (v384 = (-1 : Int32)) := by
                  exact own_ne_of (by omega)
                refine GoW.st (fun t k => XS.icmpYes X53.here hx rfl (pc0 := 503) (pc' := 508) rfl (hb hby at_503) rfl (feq hc503).2 (by decide) (by decide) k) ?_
                show GoW p e below QQ (T53.setTop (mkF m 508 #[.val (.int p1), .val (.int p2), .val (.int p3), .val (.int p4), .val (.long p5), .second, .val (.int v4), .val (.int (1 : Int32)), .val (.int (0 : Int32)), .val (.int v41), .val .null, .val (.int v195), .val (.int v202), .val (.ref b45), .val (.int v269), .val (.int (-1 : Int32)), .val (.int (1 : Int32)), .val (.int v334), .val (.long v355), .second, .val (.ref b49), .val (.int v384), .unset, .unset, .unset] []))
                have hi503 : ¬ (v384.toInt = -1) := (fun q => hc503 (Int32.toInt_inj.mp q))
                refine GoW.st (fun t k => XS.iload X53.here hx rfl (hb hby at_508) rfl k) ?_
                show GoW p e below QQ (T53.setTop (mkF m 510 #[.val (.int p1), .val (.int p2), .val (.int p3), .val (.int p4), .val (.long p5), .second, .val (.int v4), .val (.int (1 : Int32)), .val (.int (0 : Int32)), .val (.int v41), .val .null, .val (.int v195), .val (.int v202), .val (.ref b45), .val (.int v269), .val (.int (-1 : Int32)), .val (.int (1 : Int32)), .val (.int v334), .val (.long v355), .second, .val (.ref b49), .val (.int v384), .unset, .unset, .unset] [(.int (1 : Int32))]))
                have hc510 : ¬ ((1 : Int32) = (0 : Int32)) := by decide
                refine GoW.st (fun t k => XS.ifYes X53.here hx rfl (pc0 := 510) (pc' := 533) rfl (hb hby at_510) rfl ((if0 _ _).trans (feq hc510).2) (by decide) (by decide) (XS.iload X53.here hx rfl (hb hby at_533) rfl (XS.iload X53.here hx rfl (hb hby at_535) rfl k))) ?_
                show GoW p e below QQ (T53.setTop (mkF m 537 #[.val (.int p1), .val (.int p2), .val (.int p3), .val (.int p4), .val (.long p5), .second, .val (.int v4), .val (.int (1 : Int32)), .val (.int (0 : Int32)), .val (.int v41), .val .null, .val (.int v195), .val (.int v202), .val (.ref b45), .val (.int v269), .val (.int (-1 : Int32)), .val (.int (1 : Int32)), .val (.int v334), .val (.long v355), .second, .val (.ref b49), .val (.int v384), .unset, .unset, .unset] [(.int v384), (.int v269)]))
                by_cases hc537 : v384 < v269
                · skip
                  refine GoW.st (fun t k => XS.icmpNo X53.here hx rfl (hb hby at_537) rfl (tlt hc537).2.2.2 k) ?_
                  show GoW p e below QQ (T53.setTop (mkF m 540 #[.val (.int p1), .val (.int p2), .val (.int p3), .val (.int p4), .val (.long p5), .second, .val (.int v4), .val (.int (1 : Int32)), .val (.int (0 : Int32)), .val (.int v41), .val .null, .val (.int v195), .val (.int v202), .val (.ref b45), .val (.int v269), .val (.int (-1 : Int32)), .val (.int (1 : Int32)), .val (.int v334), .val (.long v355), .second, .val (.ref b49), .val (.int v384), .unset, .unset, .unset] []))
                  have hi537 : v384.toInt < v269.toInt := (Int32.lt_iff_toInt_lt.mp hc537)
                  refine GoW.st (fun t k => XS.iconst X53.here hx rfl (hb hby at_540) (XS.goto X53.here hx rfl (pc0 := 541) (pc' := 545) rfl (hb hby at_541) (by decide) (by decide) (XS.iload X53.here hx rfl (hb hby at_545) rfl (XS.iload X53.here hx rfl (hb hby at_547) rfl k)))) ?_
                  show GoW p e below QQ (T53.setTop (mkF m 549 #[.val (.int p1), .val (.int p2), .val (.int p3), .val (.int p4), .val (.long p5), .second, .val (.int v4), .val (.int (1 : Int32)), .val (.int (0 : Int32)), .val (.int v41), .val .null, .val (.int v195), .val (.int v202), .val (.ref b45), .val (.int v269), .val (.int (-1 : Int32)), .val (.int (1 : Int32)), .val (.int v334), .val (.long v355), .second, .val (.ref b49), .val (.int v384), .unset, .unset, .unset] [(.int v384), (.int (-1 : Int32)), (.int (1 : Int32))]))
                  have hc549 : ¬ (v384 < (-1 : Int32)) := by
                    exact own_nlt_of (by omega)
                  refine GoW.st (fun t k => XS.icmpYes X53.here hx rfl (pc0 := 549) (pc' := 556) rfl (hb hby at_549) rfl (flt hc549).2.2.2 (by decide) (by decide) k) ?_
                  show GoW p e below QQ (T53.setTop (mkF m 556 #[.val (.int p1), .val (.int p2), .val (.int p3), .val (.int p4), .val (.long p5), .second, .val (.int v4), .val (.int (1 : Int32)), .val (.int (0 : Int32)), .val (.int v41), .val .null, .val (.int v195), .val (.int v202), .val (.ref b45), .val (.int v269), .val (.int (-1 : Int32)), .val (.int (1 : Int32)), .val (.int v334), .val (.long v355), .second, .val (.ref b49), .val (.int v384), .unset, .unset, .unset] [(.int (1 : Int32))]))
                  have hi549 : ¬ (v384.toInt < -1) := (fun q => hc549 (Int32.lt_iff_toInt_lt.mpr q))
                  refine GoW.st (fun t k => XS.iconst X53.here hx rfl (hb hby at_556) (XS.iadd X53.here hx rfl (hb hby at_557) rfl (XS.istore X53.here hx rfl (hb hby at_558) rfl (l' := #[.val (.int p1), .val (.int p2), .val (.int p3), .val (.int p4), .val (.long p5), .second, .val (.int v4), .val (.int (1 : Int32)), .val (.int (0 : Int32)), .val (.int v41), .val .null, .val (.int v195), .val (.int v202), .val (.ref b45), .val (.int v269), .val (.int (-1 : Int32)), .val (.int (1 : Int32)), .val (.int v334), .val (.long v355), .second, .val (.ref b49), .val (.int v384), .val (.int (1 : Int32)), .unset, .unset]) rfl (XS.iload X53.here hx rfl (hb hby at_560) rfl (XS.iconst X53.here hx rfl (hb hby at_562) (XS.isub X53.here hx rfl (hb hby at_563) rfl k)))))) ?_
                  show GoW p e below QQ (T53.setTop (mkF m 564 #[.val (.int p1), .val (.int p2), .val (.int p3), .val (.int p4), .val (.long p5), .second, .val (.int v4), .val (.int (1 : Int32)), .val (.int (0 : Int32)), .val (.int v41), .val .null, .val (.int v195), .val (.int v202), .val (.ref b45), .val (.int v269), .val (.int (-1 : Int32)), .val (.int (1 : Int32)), .val (.int v334), .val (.long v355), .second, .val (.ref b49), .val (.int v384), .val (.int (1 : Int32)), .unset, .unset] [(.int (v202 - (1 : Int32)))]))
                  refine GoW.st (fun t k => XS.iload X53.here hx rfl (hb hby at_564) rfl (XS.isub X53.here hx rfl (hb hby at_566) rfl (XS.iload X53.here hx rfl (hb hby at_567) rfl (XS.isub X53.here hx rfl (hb hby at_569) rfl (XS.i2l X53.here hx rfl (hb hby at_570) rfl (XS.lload X53.here hx rfl (hb hby at_571) rfl k)))))) ?_
                  show GoW p e below QQ (T53.setTop (mkF m 573 #[.val (.int p1), .val (.int p2), .val (.int p3), .val (.int p4), .val (.long p5), .second, .val (.int v4), .val (.int (1 : Int32)), .val (.int (0 : Int32)), .val (.int v41), .val .null, .val (.int v195), .val (.int v202), .val (.ref b45), .val (.int v269), .val (.int (-1 : Int32)), .val (.int (1 : Int32)), .val (.int v334), .val (.long v355), .second, .val (.ref b49), .val (.int v384), .val (.int (1 : Int32)), .unset, .unset] [(.long v355), (.long ((((v202 - (1 : Int32)) - v384) - (1 : Int32)).toInt64))]))
                  refine GoW.st (fun t k => XS.lconst X53.here hx rfl (hb hby at_573) (XS.lsub X53.here hx rfl (hb hby at_574) rfl (XS.lcmp X53.here hx rfl (hb hby at_575) rfl k))) ?_
                  show GoW p e below QQ (T53.setTop (mkF m 576 #[.val (.int p1), .val (.int p2), .val (.int p3), .val (.int p4), .val (.long p5), .second, .val (.int v4), .val (.int (1 : Int32)), .val (.int (0 : Int32)), .val (.int v41), .val .null, .val (.int v195), .val (.int v202), .val (.ref b45), .val (.int v269), .val (.int (-1 : Int32)), .val (.int (1 : Int32)), .val (.int v334), .val (.long v355), .second, .val (.ref b49), .val (.int v384), .val (.int (1 : Int32)), .unset, .unset] [(.int (lcmpW ((((v202 - (1 : Int32)) - v384) - (1 : Int32)).toInt64) (v355 - (1 : Int64))))]))
                  have hc576 : ((((v202 - (1 : Int32)) - v384) - (1 : Int32)).toInt64) = (v355 - (1 : Int64)) := by
                    have z1 : (1 : Int32).toInt = 1 := rfl
                    have zL1 : (1 : Int64).toInt = 1 := rfl
                    have za : (1 : Int32).toInt = 1 := rfl
                    have x4 := c_lsub v355 1
                    have y4 := rng64 (v355 - 1)
                    have x1 := c_isub v202 1
                    have y1 := rng32 (v202 - 1)
                    have x2 := c_isub (v202 - 1) v384
                    have y2 := rng32 ((v202 - 1) - v384)
                    have x5 := c_isub ((v202 - 1) - v384) (1 : Int32)
                    have y5 := rng32 (((v202 - 1) - v384) - (1 : Int32))
                    have x3 := c_i2l (((v202 - 1) - v384) - (1 : Int32))
                    apply own_eqL_of
                    omega
                  refine GoW.st (fun t k => XS.ifNo X53.here hx rfl (hb hby at_576) rfl ((if0 _ _).trans (teq ((lw_eq ((((v202 - (1 : Int32)) - v384) - (1 : Int32)).toInt64) (v355 - (1 : Int64))).mpr hc576)).2) k) ?_
                  show GoW p e below QQ (T53.setTop (mkF m 579 #[.val (.int p1), .val (.int p2), .val (.int p3), .val (.int p4), .val (.long p5), .second, .val (.int v4), .val (.int (1 : Int32)), .val (.int (0 : Int32)), .val (.int v41), .val .null, .val (.int v195), .val (.int v202), .val (.ref b45), .val (.int v269), .val (.int (-1 : Int32)), .val (.int (1 : Int32)), .val (.int v334), .val (.long v355), .second, .val (.ref b49), .val (.int v384), .val (.int (1 : Int32)), .unset, .unset] []))
                  have hi576 : (((((v202 - (1 : Int32)) - v384) - (1 : Int32)).toInt64)).toInt = ((v355 - (1 : Int64))).toInt := (congrArg Int64.toInt hc576)
                  refine GoW.st (fun t k => XS.iconst X53.here hx rfl (hb hby at_579) (XS.goto X53.here hx rfl (pc0 := 580) (pc' := 584) rfl (hb hby at_580) (by decide) (by decide) k)) ?_
                  show GoW p e below QQ (T53.setTop (mkF m 584 #[.val (.int p1), .val (.int p2), .val (.int p3), .val (.int p4), .val (.long p5), .second, .val (.int v4), .val (.int (1 : Int32)), .val (.int (0 : Int32)), .val (.int v41), .val .null, .val (.int v195), .val (.int v202), .val (.ref b45), .val (.int v269), .val (.int (-1 : Int32)), .val (.int (1 : Int32)), .val (.int v334), .val (.long v355), .second, .val (.ref b49), .val (.int v384), .val (.int (1 : Int32)), .unset, .unset] [(.int (1 : Int32))]))
                  exact GoW.fin X53 (some (.int (nar .boolean (1 : Int32)))) (fun q => by rw [hret] at q; cases q) hlk hQ hh53 ⟨rfl, N53⟩ (by decide) (by decide) (fun fs hr => retN X53 hx (t := .boolean) hret (by simp) (hb hby at_584) hr)
                · skip
                  refine GoW.st (fun t k => XS.icmpYes X53.here hx rfl (pc0 := 537) (pc' := 544) rfl (hb hby at_537) rfl (flt hc537).2.2.2 (by decide) (by decide) k) ?_
                  show GoW p e below QQ (T53.setTop (mkF m 544 #[.val (.int p1), .val (.int p2), .val (.int p3), .val (.int p4), .val (.long p5), .second, .val (.int v4), .val (.int (1 : Int32)), .val (.int (0 : Int32)), .val (.int v41), .val .null, .val (.int v195), .val (.int v202), .val (.ref b45), .val (.int v269), .val (.int (-1 : Int32)), .val (.int (1 : Int32)), .val (.int v334), .val (.long v355), .second, .val (.ref b49), .val (.int v384), .unset, .unset, .unset] []))
                  have hi537 : ¬ (v384.toInt < v269.toInt) := (fun q => hc537 (Int32.lt_iff_toInt_lt.mpr q))
                  refine GoW.st (fun t k => XS.iconst X53.here hx rfl (hb hby at_544) (XS.iload X53.here hx rfl (hb hby at_545) rfl (XS.iload X53.here hx rfl (hb hby at_547) rfl k))) ?_
                  show GoW p e below QQ (T53.setTop (mkF m 549 #[.val (.int p1), .val (.int p2), .val (.int p3), .val (.int p4), .val (.long p5), .second, .val (.int v4), .val (.int (1 : Int32)), .val (.int (0 : Int32)), .val (.int v41), .val .null, .val (.int v195), .val (.int v202), .val (.ref b45), .val (.int v269), .val (.int (-1 : Int32)), .val (.int (1 : Int32)), .val (.int v334), .val (.long v355), .second, .val (.ref b49), .val (.int v384), .unset, .unset, .unset] [(.int v384), (.int (-1 : Int32)), (.int (0 : Int32))]))
                  have hc549 : ¬ (v384 < (-1 : Int32)) := by
                    exact own_nlt_of (by omega)
                  refine GoW.st (fun t k => XS.icmpYes X53.here hx rfl (pc0 := 549) (pc' := 556) rfl (hb hby at_549) rfl (flt hc549).2.2.2 (by decide) (by decide) k) ?_
                  show GoW p e below QQ (T53.setTop (mkF m 556 #[.val (.int p1), .val (.int p2), .val (.int p3), .val (.int p4), .val (.long p5), .second, .val (.int v4), .val (.int (1 : Int32)), .val (.int (0 : Int32)), .val (.int v41), .val .null, .val (.int v195), .val (.int v202), .val (.ref b45), .val (.int v269), .val (.int (-1 : Int32)), .val (.int (1 : Int32)), .val (.int v334), .val (.long v355), .second, .val (.ref b49), .val (.int v384), .unset, .unset, .unset] [(.int (0 : Int32))]))
                  have hi549 : ¬ (v384.toInt < -1) := (fun q => hc549 (Int32.lt_iff_toInt_lt.mpr q))
                  refine GoW.st (fun t k => XS.iconst X53.here hx rfl (hb hby at_556) (XS.iadd X53.here hx rfl (hb hby at_557) rfl (XS.istore X53.here hx rfl (hb hby at_558) rfl (l' := #[.val (.int p1), .val (.int p2), .val (.int p3), .val (.int p4), .val (.long p5), .second, .val (.int v4), .val (.int (1 : Int32)), .val (.int (0 : Int32)), .val (.int v41), .val .null, .val (.int v195), .val (.int v202), .val (.ref b45), .val (.int v269), .val (.int (-1 : Int32)), .val (.int (1 : Int32)), .val (.int v334), .val (.long v355), .second, .val (.ref b49), .val (.int v384), .val (.int (0 : Int32)), .unset, .unset]) rfl (XS.iload X53.here hx rfl (hb hby at_560) rfl (XS.iconst X53.here hx rfl (hb hby at_562) (XS.isub X53.here hx rfl (hb hby at_563) rfl k)))))) ?_
                  show GoW p e below QQ (T53.setTop (mkF m 564 #[.val (.int p1), .val (.int p2), .val (.int p3), .val (.int p4), .val (.long p5), .second, .val (.int v4), .val (.int (1 : Int32)), .val (.int (0 : Int32)), .val (.int v41), .val .null, .val (.int v195), .val (.int v202), .val (.ref b45), .val (.int v269), .val (.int (-1 : Int32)), .val (.int (1 : Int32)), .val (.int v334), .val (.long v355), .second, .val (.ref b49), .val (.int v384), .val (.int (0 : Int32)), .unset, .unset] [(.int (v202 - (1 : Int32)))]))
                  refine GoW.st (fun t k => XS.iload X53.here hx rfl (hb hby at_564) rfl (XS.isub X53.here hx rfl (hb hby at_566) rfl (XS.iload X53.here hx rfl (hb hby at_567) rfl (XS.isub X53.here hx rfl (hb hby at_569) rfl (XS.i2l X53.here hx rfl (hb hby at_570) rfl (XS.lload X53.here hx rfl (hb hby at_571) rfl k)))))) ?_
                  show GoW p e below QQ (T53.setTop (mkF m 573 #[.val (.int p1), .val (.int p2), .val (.int p3), .val (.int p4), .val (.long p5), .second, .val (.int v4), .val (.int (1 : Int32)), .val (.int (0 : Int32)), .val (.int v41), .val .null, .val (.int v195), .val (.int v202), .val (.ref b45), .val (.int v269), .val (.int (-1 : Int32)), .val (.int (1 : Int32)), .val (.int v334), .val (.long v355), .second, .val (.ref b49), .val (.int v384), .val (.int (0 : Int32)), .unset, .unset] [(.long v355), (.long ((((v202 - (1 : Int32)) - v384) - (0 : Int32)).toInt64))]))
                  refine GoW.st (fun t k => XS.lconst X53.here hx rfl (hb hby at_573) (XS.lsub X53.here hx rfl (hb hby at_574) rfl (XS.lcmp X53.here hx rfl (hb hby at_575) rfl k))) ?_
                  show GoW p e below QQ (T53.setTop (mkF m 576 #[.val (.int p1), .val (.int p2), .val (.int p3), .val (.int p4), .val (.long p5), .second, .val (.int v4), .val (.int (1 : Int32)), .val (.int (0 : Int32)), .val (.int v41), .val .null, .val (.int v195), .val (.int v202), .val (.ref b45), .val (.int v269), .val (.int (-1 : Int32)), .val (.int (1 : Int32)), .val (.int v334), .val (.long v355), .second, .val (.ref b49), .val (.int v384), .val (.int (0 : Int32)), .unset, .unset] [(.int (lcmpW ((((v202 - (1 : Int32)) - v384) - (0 : Int32)).toInt64) (v355 - (1 : Int64))))]))
                  have hc576 : ((((v202 - (1 : Int32)) - v384) - (0 : Int32)).toInt64) = (v355 - (1 : Int64)) := by
                    have z1 : (1 : Int32).toInt = 1 := rfl
                    have zL1 : (1 : Int64).toInt = 1 := rfl
                    have za : (0 : Int32).toInt = 0 := rfl
                    have x4 := c_lsub v355 1
                    have y4 := rng64 (v355 - 1)
                    have x1 := c_isub v202 1
                    have y1 := rng32 (v202 - 1)
                    have x2 := c_isub (v202 - 1) v384
                    have y2 := rng32 ((v202 - 1) - v384)
                    have x5 := c_isub ((v202 - 1) - v384) (0 : Int32)
                    have y5 := rng32 (((v202 - 1) - v384) - (0 : Int32))
                    have x3 := c_i2l (((v202 - 1) - v384) - (0 : Int32))
                    apply own_eqL_of
                    omega
                  refine GoW.st (fun t k => XS.ifNo X53.here hx rfl (hb hby at_576) rfl ((if0 _ _).trans (teq ((lw_eq ((((v202 - (1 : Int32)) - v384) - (0 : Int32)).toInt64) (v355 - (1 : Int64))).mpr hc576)).2) k) ?_
                  show GoW p e below QQ (T53.setTop (mkF m 579 #[.val (.int p1), .val (.int p2), .val (.int p3), .val (.int p4), .val (.long p5), .second, .val (.int v4), .val (.int (1 : Int32)), .val (.int (0 : Int32)), .val (.int v41), .val .null, .val (.int v195), .val (.int v202), .val (.ref b45), .val (.int v269), .val (.int (-1 : Int32)), .val (.int (1 : Int32)), .val (.int v334), .val (.long v355), .second, .val (.ref b49), .val (.int v384), .val (.int (0 : Int32)), .unset, .unset] []))
                  have hi576 : (((((v202 - (1 : Int32)) - v384) - (0 : Int32)).toInt64)).toInt = ((v355 - (1 : Int64))).toInt := (congrArg Int64.toInt hc576)
                  refine GoW.st (fun t k => XS.iconst X53.here hx rfl (hb hby at_579) (XS.goto X53.here hx rfl (pc0 := 580) (pc' := 584) rfl (hb hby at_580) (by decide) (by decide) k)) ?_
                  show GoW p e below QQ (T53.setTop (mkF m 584 #[.val (.int p1), .val (.int p2), .val (.int p3), .val (.int p4), .val (.long p5), .second, .val (.int v4), .val (.int (1 : Int32)), .val (.int (0 : Int32)), .val (.int v41), .val .null, .val (.int v195), .val (.int v202), .val (.ref b45), .val (.int v269), .val (.int (-1 : Int32)), .val (.int (1 : Int32)), .val (.int v334), .val (.long v355), .second, .val (.ref b49), .val (.int v384), .val (.int (0 : Int32)), .unset, .unset] [(.int (1 : Int32))]))
                  exact GoW.fin X53 (some (.int (nar .boolean (1 : Int32)))) (fun q => by rw [hret] at q; cases q) hlk hQ hh53 ⟨rfl, N53⟩ (by decide) (by decide) (fun fs hr => retN X53 hx (t := .boolean) hret (by simp) (hb hby at_584) hr)
              · skip
                refine GoW.st (fun t k => XS.ifNo X47.here hx rfl (hb hby at_338) rfl ((if0 _ _).trans (flt hc338).2.2.1) k) ?_
                show GoW p e below QQ (T47.setTop (mkF m 341 #[.val (.int p1), .val (.int p2), .val (.int p3), .val (.int p4), .val (.long p5), .second, .val (.int v4), .val (.int (1 : Int32)), .val (.int (0 : Int32)), .val (.int v41), .val .null, .val (.int v195), .val (.int v202), .val (.ref b45), .val (.int v269), .val (.int (-1 : Int32)), .val (.int (1 : Int32)), .val (.int v334), .val (.int v249), .unset, .unset, .unset, .unset, .unset, .unset] []))
                have hi338 : ¬ (0 < v334.toInt) := (fun q => hc338 (Int32.lt_iff_toInt_lt.mpr q))
                refine GoW.st (fun t k => XS.iconst X47.here hx rfl (hb hby at_341) k) ?_
                show GoW p e below QQ (T47.setTop (mkF m 342 #[.val (.int p1), .val (.int p2), .val (.int p3), .val (.int p4), .val (.long p5), .second, .val (.int v4), .val (.int (1 : Int32)), .val (.int (0 : Int32)), .val (.int v41), .val .null, .val (.int v195), .val (.int v202), .val (.ref b45), .val (.int v269), .val (.int (-1 : Int32)), .val (.int (1 : Int32)), .val (.int v334), .val (.int v249), .unset, .unset, .unset, .unset, .unset, .unset] [(.int (1 : Int32))]))
                exact GoW.fin X47 (some (.int (nar .boolean (1 : Int32)))) (fun q => by rw [hret] at q; cases q) hlk hQ e47 ⟨rfl, N47⟩ (by decide) (by decide) (fun fs hr => retN X47 hx (t := .boolean) hret (by simp) (hb hby at_342) hr)
            · skip
              refine GoW.st (fun t k => XS.icmpYes X30.here hx rfl (pc0 := 261) (pc' := 287) rfl (hb hby at_261) rfl (feq hc261).2 (by decide) (by decide) k) ?_
              show GoW p e below QQ (T30.setTop (mkF m 287 #[.val (.int p1), .val (.int p2), .val (.int p3), .val (.int p4), .val (.long p5), .second, .val (.int v4), .val (.int (1 : Int32)), .val (.int (0 : Int32)), .val (.int v41), .val .null, .val (.int v195), .val (.int v202), .val .null, .val (.int (-1 : Int32)), .val (.int (-1 : Int32)), .val (.int (0 : Int32)), .val (.int v238), .val (.int v249), .unset, .unset, .unset, .unset, .unset, .unset] []))
              have hi261 : ¬ (v238.toInt = v249.toInt) := (fun q => hc261 (Int32.toInt_inj.mp q))
              refine GoW.st (fun t k => XS.iload X30.here hx rfl (hb hby at_287) rfl (XS.iload X30.here hx rfl (hb hby at_289) rfl (XS.iload X30.here hx rfl (hb hby at_291) rfl k))) ?_
              show GoW p e below QQ (T30.setTop (mkF m 293 #[.val (.int p1), .val (.int p2), .val (.int p3), .val (.int p4), .val (.long p5), .second, .val (.int v4), .val (.int (1 : Int32)), .val (.int (0 : Int32)), .val (.int v41), .val .null, .val (.int v195), .val (.int v202), .val .null, .val (.int (-1 : Int32)), .val (.int (-1 : Int32)), .val (.int (0 : Int32)), .val (.int v238), .val (.int v249), .unset, .unset, .unset, .unset, .unset, .unset] [(.int v249), (.int v238), (.int v195)]))
              obtain ⟨_, _, ⟨T54, zL54, zk54, zn54⟩, -, X54, ⟨Lc54, hQ54, zl54, zy54, zz54⟩, st54⟩ := Jvm.LawKit.callS X30 hx (y := (⟨"java/lang/Math", "min", "(II)I"⟩ : MethodName)) hown (mvT hZ (hw _ (List.mem_of_getElem? (i := 2) rfl))) (mvT hZ (hw _ (List.mem_of_getElem? (i := 3) rfl))) (mvT hZ (hw _ (List.mem_of_getElem? (i := 4) rfl))) (mvT hZ (hw _ (List.mem_of_getElem? (i := 5) rfl))) (by decide) (backOf (W := 1) (rm1 l Z a0 hw [] v238 v249 h0 n0 (Nat.le_trans Z0 K0.1) ) hZ (hw _ (List.mem_of_getElem? (i := 5) rfl)) (hw _ (List.mem_of_getElem? (i := 4) rfl)) (by decide) (by decide)) (g := (mkF m 293 #[.val (.int p1), .val (.int p2), .val (.int p3), .val (.int p4), .val (.long p5), .second, .val (.int v4), .val (.int (1 : Int32)), .val (.int (0 : Int32)), .val (.int v41), .val .null, .val (.int v195), .val (.int v202), .val .null, .val (.int (-1 : Int32)), .val (.int (-1 : Int32)), .val (.int (0 : Int32)), .val (.int v238), .val (.int v249), .unset, .unset, .unset, .unset, .unset, .unset] [(.int v249), (.int v238), (.int v195)])) rfl (by rw [hml]; rfl) (argsL := [(.int v238), (.int v249)]) (rest := [(.int v195)]) (lenOf pd_1 rfl) rfl (by show 2 * 0 + _ ≤ _; exact Nat.le_of_eq rfl) (hb hby at_293) (fun _ _ => ⟨rfl, hh30, (by decide : 0 + 0 ≤ _), (by decide : 0 + 0 ≤ _)⟩)
              dsimp only [Pt.U, Pt.locs, Pt.cells, Pt.slots] at X54 zl54 zy54 zz54 st54 hQ54
              subst zl54 zy54 zz54
              obtain ⟨rfl, Nq54, hh54⟩ := hQ54
              have N54 := Fr.app N30 Nq54
              refine GoW.st st54 ?_
              show GoW p e below QQ (T54.setTop (mkF m 296 #[.val (.int p1), .val (.int p2), .val (.int p3), .val (.int p4), .val (.long p5), .second, .val (.int v4), .val (.int (1 : Int32)), .val (.int (0 : Int32)), .val (.int v41), .val .null, .val (.int v195), .val (.int v202), .val .null, .val (.int (-1 : Int32)), .val (.int (-1 : Int32)), .val (.int (0 : Int32)), .val (.int v238), .val (.int v249), .unset, .unset, .unset, .unset, .unset, .unset] [(.int (own_minI v238 v249)), (.int v195)]))
              refine GoW.st (fun t k => XS.iadd X54.here hx rfl (hb hby at_296) rfl (XS.istore X54.here hx rfl (hb hby at_297) rfl (l' := #[.val (.int p1), .val (.int p2), .val (.int p3), .val (.int p4), .val (.long p5), .second, .val (.int v4), .val (.int (1 : Int32)), .val (.int (0 : Int32)), .val (.int v41), .val .null, .val (.int v195), .val (.int v202), .val .null, .val (.int (v195 + (own_minI v238 v249))), .val (.int (-1 : Int32)), .val (.int (0 : Int32)), .val (.int v238), .val (.int v249), .unset, .unset, .unset, .unset, .unset, .unset]) rfl k)) ?_
              show GoW p e below QQ (T54.setTop (mkF m 299 #[.val (.int p1), .val (.int p2), .val (.int p3), .val (.int p4), .val (.long p5), .second, .val (.int v4), .val (.int (1 : Int32)), .val (.int (0 : Int32)), .val (.int v41), .val .null, .val (.int v195), .val (.int v202), .val .null, .val (.int (v195 + (own_minI v238 v249))), .val (.int (-1 : Int32)), .val (.int (0 : Int32)), .val (.int v238), .val (.int v249), .unset, .unset, .unset, .unset, .unset, .unset] []))
              generalize hv297 : (v195 + (own_minI v238 v249)) = v297
              refine GoW.st (fun t k => XS.iload X54.here hx rfl (hb hby at_299) rfl (XS.iload X54.here hx rfl (hb hby at_301) rfl (XS.iload X54.here hx rfl (hb hby at_303) rfl k))) ?_
              show GoW p e below QQ (T54.setTop (mkF m 305 #[.val (.int p1), .val (.int p2), .val (.int p3), .val (.int p4), .val (.long p5), .second, .val (.int v4), .val (.int (1 : Int32)), .val (.int (0 : Int32)), .val (.int v41), .val .null, .val (.int v195), .val (.int v202), .val .null, .val (.int v297), .val (.int (-1 : Int32)), .val (.int (0 : Int32)), .val (.int v238), .val (.int v249), .unset, .unset, .unset, .unset, .unset, .unset] [(.int v249), (.int v238), (.int v195)]))
              obtain ⟨_, _, ⟨T55, zL55, zk55, zn55⟩, -, X55, ⟨Lc55, hQ55, zl55, zy55, zz55⟩, st55⟩ := Jvm.LawKit.callS X54 hx (y := (⟨"java/lang/Math", "max", "(II)I"⟩ : MethodName)) hown (mvT hZ (hw _ (List.mem_of_getElem? (i := 39) rfl))) (mvT hZ (hw _ (List.mem_of_getElem? (i := 40) rfl))) (mvT hZ (hw _ (List.mem_of_getElem? (i := 4) rfl))) (mvT hZ (hw _ (List.mem_of_getElem? (i := 41) rfl))) (by decide) (backOf (W := 1) (rm6 l Z a0 hw [] v238 v249 h0 n0 (Nat.le_trans Z0 K0.1) ) hZ (hw _ (List.mem_of_getElem? (i := 41) rfl)) (hw _ (List.mem_of_getElem? (i := 4) rfl)) (by decide) (by decide)) (g := (mkF m 305 #[.val (.int p1), .val (.int p2), .val (.int p3), .val (.int p4), .val (.long p5), .second, .val (.int v4), .val (.int (1 : Int32)), .val (.int (0 : Int32)), .val (.int v41), .val .null, .val (.int v195), .val (.int v202), .val .null, .val (.int v297), .val (.int (-1 : Int32)), .val (.int (0 : Int32)), .val (.int v238), .val (.int v249), .unset, .unset, .unset, .unset, .unset, .unset] [(.int v249), (.int v238), (.int v195)])) rfl (by rw [hml]; rfl) (argsL := [(.int v238), (.int v249)]) (rest := [(.int v195)]) (lenOf pd_1 rfl) rfl (by show 2 * 0 + _ ≤ _; exact Nat.le_of_eq rfl) (hb hby at_305) (fun _ _ => ⟨rfl, hh54, (by decide : 0 + 0 ≤ _), (by decide : 0 + 0 ≤ _)⟩)
              dsimp only [Pt.U, Pt.locs, Pt.cells, Pt.slots] at X55 zl55 zy55 zz55 st55 hQ55
              subst zl55 zy55 zz55
              obtain ⟨rfl, Nq55, hh55⟩ := hQ55
              have N55 := Fr.app N54 Nq55
              refine GoW.st st55 ?_
              show GoW p e below QQ (T55.setTop (mkF m 308 #[.val (.int p1), .val (.int p2), .val (.int p3), .val (.int p4), .val (.long p5), .second, .val (.int v4), .val (.int (1 : Int32)), .val (.int (0 : Int32)), .val (.int v41), .val .null, .val (.int v195), .val (.int v202), .val .null, .val (.int v297), .val (.int (-1 : Int32)), .val (.int (0 : Int32)), .val (.int v238), .val (.int v249), .unset, .unset, .unset, .unset, .unset, .unset] [(.int (own_maxI v238 v249)), (.int v195)]))
              refine GoW.st (fun t k => XS.iadd X55.here hx rfl (hb hby at_308) rfl (XS.istore X55.here hx rfl (hb hby at_309) rfl (l' := #[.val (.int p1), .val (.int p2), .val (.int p3), .val (.int p4), .val (.long p5), .second, .val (.int v4), .val (.int (1 : Int32)), .val (.int (0 : Int32)), .val (.int v41), .val .null, .val (.int v195), .val (.int v202), .val .null, .val (.int v297), .val (.int (v195 + (own_maxI v238 v249))), .val (.int (0 : Int32)), .val (.int v238), .val (.int v249), .unset, .unset, .unset, .unset, .unset, .unset]) rfl k)) ?_
              show GoW p e below QQ (T55.setTop (mkF m 311 #[.val (.int p1), .val (.int p2), .val (.int p3), .val (.int p4), .val (.long p5), .second, .val (.int v4), .val (.int (1 : Int32)), .val (.int (0 : Int32)), .val (.int v41), .val .null, .val (.int v195), .val (.int v202), .val .null, .val (.int v297), .val (.int (v195 + (own_maxI v238 v249))), .val (.int (0 : Int32)), .val (.int v238), .val (.int v249), .unset, .unset, .unset, .unset, .unset, .unset] []))
              generalize hv309 : (v195 + (own_maxI v238 v249)) = v309
              have mnA := own_minI_i v238 v249
              have mxA := own_maxI_i v238 v249
              have s1A := c_iadd v195 (own_minI v238 v249)
              have s1R := rng32 (v195 + (own_minI v238 v249))
              have s2A := c_iadd v195 (own_maxI v238 v249)
              have s2R := rng32 (v195 + (own_maxI v238 v249))
              rw [hv297] at s1A s1R
              rw [hv309] at s2A s2R
              have kne : v238.toInt ≠ v249.toInt := fun q => hc261 (own_eq_of q)
              have s10 : v297.toInt = v195.toInt + min v238.toInt v249.toInt := by omega
              have s20 : v309.toInt = v195.toInt + max v238.toInt v249.toInt := by omega
              refine GoW.st (fun t k => XS.iconst X55.here hx rfl (hb hby at_311) k) ?_
              show GoW p e below QQ (T55.setTop (mkF m 312 #[.val (.int p1), .val (.int p2), .val (.int p3), .val (.int p4), .val (.long p5), .second, .val (.int v4), .val (.int (1 : Int32)), .val (.int (0 : Int32)), .val (.int v41), .val .null, .val (.int v195), .val (.int v202), .val .null, .val (.int v297), .val (.int v309), .val (.int (0 : Int32)), .val (.int v238), .val (.int v249), .unset, .unset, .unset, .unset, .unset, .unset] [(.int (2 : Int32))]))
              obtain ⟨T56, h56, k56, X56, e56, E56, A56, st56⟩ := newP X55 hx hZ (hw _ (List.mem_of_getElem? (i := 38) rfl)) hh55 (g := (mkF m 312 #[.val (.int p1), .val (.int p2), .val (.int p3), .val (.int p4), .val (.long p5), .second, .val (.int v4), .val (.int (1 : Int32)), .val (.int (0 : Int32)), .val (.int v41), .val .null, .val (.int v195), .val (.int v202), .val .null, .val (.int v297), .val (.int v309), .val (.int (0 : Int32)), .val (.int v238), .val (.int v249), .unset, .unset, .unset, .unset, .unset, .unset] [(.int (2 : Int32))])) rfl (hb hby at_312) rfl (by decide) (cap := 2) (by decide) (by decide) (by decide) (by decide)
              obtain ⟨b56, g56⟩ : ∃ z, z = h0.size := ⟨_, rfl⟩
              rw [← g56] at A56 st56
              refine GoW.st st56 ?_
              have gg56 : n0 ≤ b56 := Nat.le_trans (Nat.le_trans Z0 K0.1) (Nat.le_of_eq g56.symm)
              have sz56 : h0.size ≤ b56 := Nat.le_trans K0.1 (Nat.le_of_eq g56.symm)
              have K56 : Keep h0 h56 [] := K0.ext E56
              have V56 : Arv Z h56 b56 k56 .int (2 : Int32) [(.int (0 : Int32)), (.int (0 : Int32))] (.int (0 : Int32)) := (Arv.new A56 (by decide)).pad (pad_rep [] (.int (0 : Int32)) 2)
              show GoW p e below QQ (T56.setTop (mkF m 314 #[.val (.int p1), .val (.int p2), .val (.int p3), .val (.int p4), .val (.long p5), .second, .val (.int v4), .val (.int (1 : Int32)), .val (.int (0 : Int32)), .val (.int v41), .val .null, .val (.int v195), .val (.int v202), .val .null, .val (.int v297), .val (.int v309), .val (.int (0 : Int32)), .val (.int v238), .val (.int v249), .unset, .unset, .unset, .unset, .unset, .unset] [(.ref b56)]))
              refine GoW.st (fun t k => XS.dup X56.here hx rfl (hb hby at_314) rfl rfl (XS.iconst X56.here hx rfl (hb hby at_315) (XS.iload X56.here hx rfl (hb hby at_316) rfl k))) ?_
              show GoW p e below QQ (T56.setTop (mkF m 318 #[.val (.int p1), .val (.int p2), .val (.int p3), .val (.int p4), .val (.long p5), .second, .val (.int v4), .val (.int (1 : Int32)), .val (.int (0 : Int32)), .val (.int v41), .val .null, .val (.int v195), .val (.int v202), .val .null, .val (.int v297), .val (.int v309), .val (.int (0 : Int32)), .val (.int v238), .val (.int v249), .unset, .unset, .unset, .unset, .unset, .unset] [(.int v297), (.int (0 : Int32)), (.ref b56), (.ref b56)]))
              obtain ⟨T58, h58, X58, e58, W58, V58, st58⟩ := stVI X56 hx hZ e56 V56 ⟨by decide, by decide⟩ 0 rfl (Nat.le_of_ble_eq_true rfl) (g := (mkF m 318 #[.val (.int p1), .val (.int p2), .val (.int p3), .val (.int p4), .val (.long p5), .second, .val (.int v4), .val (.int (1 : Int32)), .val (.int (0 : Int32)), .val (.int v41), .val .null, .val (.int v195), .val (.int v202), .val .null, .val (.int v297), .val (.int v309), .val (.int (0 : Int32)), .val (.int v238), .val (.int v249), .unset, .unset, .unset, .unset, .unset, .unset] [(.int v297), (.int (0 : Int32)), (.ref b56), (.ref b56)])) rfl rfl (hb hby at_318)
              refine GoW.st st58 ?_
              have f59_V_b56 : Arv Z h58 b56 k56 .int (2 : Int32) [(.int v297), (.int (0 : Int32))] (.int (0 : Int32)) := V58
              have K58 : Keep h0 h58 [] := K56.wr W58 (Or.inr sz56)
              have N58 := Fr.snoc X58 N55 gg56
              show GoW p e below QQ (T58.setTop (mkF m 319 #[.val (.int p1), .val (.int p2), .val (.int p3), .val (.int p4), .val (.long p5), .second, .val (.int v4), .val (.int (1 : Int32)), .val (.int (0 : Int32)), .val (.int v41), .val .null, .val (.int v195), .val (.int v202), .val .null, .val (.int v297), .val (.int v309), .val (.int (0 : Int32)), .val (.int v238), .val (.int v249), .unset, .unset, .unset, .unset, .unset, .unset] [(.ref b56)]))
              refine GoW.st (fun t k => XS.dup X58.here hx rfl (hb hby at_319) rfl rfl (XS.iconst X58.here hx rfl (hb hby at_320) (XS.iload X58.here hx rfl (hb hby at_321) rfl k))) ?_
              show GoW p e below QQ (T58.setTop (mkF m 323 #[.val (.int p1), .val (.int p2), .val (.int p3), .val (.int p4), .val (.long p5), .second, .val (.int v4), .val (.int (1 : Int32)), .val (.int (0 : Int32)), .val (.int v41), .val .null, .val (.int v195), .val (.int v202), .val .null, .val (.int v297), .val (.int v309), .val (.int (0 : Int32)), .val (.int v238), .val (.int v249), .unset, .unset, .unset, .unset, .unset, .unset] [(.int v309), (.int (1 : Int32)), (.ref b56), (.ref b56)]))
              obtain ⟨T60, h60, X60, e60, W60, V60, st60⟩ := stVI X58 hx hZ e58 f59_V_b56 ⟨by decide, by decide⟩ 1 rfl (Nat.le_of_ble_eq_true rfl) (g := (mkF m 323 #[.val (.int p1), .val (.int p2), .val (.int p3), .val (.int p4), .val (.long p5), .second, .val (.int v4), .val (.int (1 : Int32)), .val (.int (0 : Int32)), .val (.int v41), .val .null, .val (.int v195), .val (.int v202), .val .null, .val (.int v297), .val (.int v309), .val (.int (0 : Int32)), .val (.int v238), .val (.int v249), .unset, .unset, .unset, .unset, .unset, .unset] [(.int v309), (.int (1 : Int32)), (.ref b56), (.ref b56)])) rfl rfl (hb hby at_323)
              refine GoW.st st60 ?_
              have f61_V_b56 : Arv Z h60 b56 k56 .int (2 : Int32) [(.int v297), (.int v309)] (.int (0 : Int32)) := V60
              have K60 : Keep h0 h60 [] := K58.wr W60 (Or.inr sz56)
              have N60 := Fr.snoc X60 N58 gg56
              show GoW p e below QQ (T60.setTop (mkF m 324 #[.val (.int p1), .val (.int p2), .val (.int p3), .val (.int p4), .val (.long p5), .second, .val (.int v4), .val (.int (1 : Int32)), .val (.int (0 : Int32)), .val (.int v41), .val .null, .val (.int v195), .val (.int v202), .val .null, .val (.int v297), .val (.int v309), .val (.int (0 : Int32)), .val (.int v238), .val (.int v249), .unset, .unset, .unset, .unset, .unset, .unset] [(.ref b56)]))
              refine GoW.st (fun t k => XS.astore X60.here hx rfl (hb hby at_324) rfl rfl (l' := #[.val (.int p1), .val (.int p2), .val (.int p3), .val (.int p4), .val (.long p5), .second, .val (.int v4), .val (.int (1 : Int32)), .val (.int (0 : Int32)), .val (.int v41), .val .null, .val (.int v195), .val (.int v202), .val (.ref b56), .val (.int v297), .val (.int v309), .val (.int (0 : Int32)), .val (.int v238), .val (.int v249), .unset, .unset, .unset, .unset, .unset, .unset]) rfl (XS.iconst X60.here hx rfl (hb hby at_326) (XS.istore X60.here hx rfl (hb hby at_327) rfl (l' := #[.val (.int p1), .val (.int p2), .val (.int p3), .val (.int p4), .val (.long p5), .second, .val (.int v4), .val (.int (1 : Int32)), .val (.int (0 : Int32)), .val (.int v41), .val .null, .val (.int v195), .val (.int v202), .val (.ref b56), .val (.int v297), .val (.int v309), .val (.int (2 : Int32)), .val (.int v238), .val (.int v249), .unset, .unset, .unset, .unset, .unset, .unset]) rfl (XS.iload X60.here hx rfl (hb hby at_329) rfl (XS.iload X60.here hx rfl (hb hby at_331) rfl (XS.isub X60.here hx rfl (hb hby at_333) rfl k)))))) ?_
              show GoW p e below QQ (T60.setTop (mkF m 334 #[.val (.int p1), .val (.int p2), .val (.int p3), .val (.int p4), .val (.long p5), .second, .val (.int v4), .val (.int (1 : Int32)), .val (.int (0 : Int32)), .val (.int v41), .val .null, .val (.int v195), .val (.int v202), .val (.ref b56), .val (.int v297), .val (.int v309), .val (.int (2 : Int32)), .val (.int v238), .val (.int v249), .unset, .unset, .unset, .unset, .unset, .unset] [(.int (v4 - (2 : Int32)))]))
              refine GoW.st (fun t k => XS.istore X60.here hx rfl (hb hby at_334) rfl (l' := #[.val (.int p1), .val (.int p2), .val (.int p3), .val (.int p4), .val (.long p5), .second, .val (.int v4), .val (.int (1 : Int32)), .val (.int (0 : Int32)), .val (.int v41), .val .null, .val (.int v195), .val (.int v202), .val (.ref b56), .val (.int v297), .val (.int v309), .val (.int (2 : Int32)), .val (.int (v4 - (2 : Int32))), .val (.int v249), .unset, .unset, .unset, .unset, .unset, .unset]) rfl k) ?_
              show GoW p e below QQ (T60.setTop (mkF m 336 #[.val (.int p1), .val (.int p2), .val (.int p3), .val (.int p4), .val (.long p5), .second, .val (.int v4), .val (.int (1 : Int32)), .val (.int (0 : Int32)), .val (.int v41), .val .null, .val (.int v195), .val (.int v202), .val (.ref b56), .val (.int v297), .val (.int v309), .val (.int (2 : Int32)), .val (.int (v4 - (2 : Int32))), .val (.int v249), .unset, .unset, .unset, .unset, .unset, .unset] []))
              generalize hv334 : (v4 - (2 : Int32)) = v334
              have szA := c_isub v4 (2 : Int32)
              have szR := rng32 (v4 - (2 : Int32))
              rw [hv334] at szA szR
              have zk : (2 : Int32).toInt = 2 := rfl
              have sz0 : v334.toInt = v4.toInt - 2 := by omega
              refine GoW.st (fun t k => XS.iload X60.here hx rfl (hb hby at_336) rfl k) ?_
              show GoW p e below QQ (T60.setTop (mkF m 338 #[.val (.int p1), .val (.int p2), .val (.int p3), .val (.int p4), .val (.long p5), .second, .val (.int v4), .val (.int (1 : Int32)), .val (.int (0 : Int32)), .val (.int v41), .val .null, .val (.int v195), .val (.int v202), .val (.ref b56), .val (.int v297), .val (.int v309), .val (.int (2 : Int32)), .val (.int v334), .val (.int v249), .unset, .unset, .unset, .unset, .unset, .unset] [(.int v334)]))
              by_cases hc338 : (0 : Int32) < v334
              · skip
                refine GoW.st (fun t k => XS.ifYes X60.here hx rfl (pc0 := 338) (pc' := 343) rfl (hb hby at_338) rfl ((if0 _ _).trans (tlt hc338).2.2.1) (by decide) (by decide) k) ?_
                show GoW p e below QQ (T60.setTop (mkF m 343 #[.val (.int p1), .val (.int p2), .val (.int p3), .val (.int p4), .val (.long p5), .second, .val (.int v4), .val (.int (1 : Int32)), .val (.int (0 : Int32)), .val (.int v41), .val .null, .val (.int v195), .val (.int v202), .val (.ref b56), .val (.int v297), .val (.int v309), .val (.int (2 : Int32)), .val (.int v334), .val (.int v249), .unset, .unset, .unset, .unset, .unset, .unset] []))
                have hi338 : 0 < v334.toInt := (Int32.lt_iff_toInt_lt.mp hc338)
                have szp : 0 < v334.toInt := hi338
                have nzL : (v334.toInt64) ≠ 0 := fun q => by
                  have q2 := congrArg Int64.toInt q
                  rw [c_i2l] at q2
                  have z : (0 : Int64).toInt = 0 := rfl
                  omega
                refine GoW.st (fun t k => XS.lconst X60.here hx rfl (hb hby at_343) (XS.lload X60.here hx rfl (hb hby at_344) rfl (X60.ldc2Long hx hown (mvT hZ (hw _ (List.mem_of_getElem? (i := 6) rfl))) (g := (mkF m 346 #[.val (.int p1), .val (.int p2), .val (.int p3), .val (.int p4), .val (.long p5), .second, .val (.int v4), .val (.int (1 : Int32)), .val (.int (0 : Int32)), .val (.int v41), .val .null, .val (.int v195), .val (.int v202), .val (.ref b56), .val (.int v297), .val (.int v309), .val (.int (2 : Int32)), .val (.int v334), .val (.int v249), .unset, .unset, .unset, .unset, .unset, .unset] [(.long p5), (.long (1 : Int64))])) rfl (hb hby at_346) t (XS.land X60.here hx rfl (hb hby at_349) rfl (XS.iload X60.here hx rfl (hb hby at_350) rfl (XS.i2l X60.here hx rfl (hb hby at_352) rfl k)))))) ?_
                show GoW p e below QQ (T60.setTop (mkF m 353 #[.val (.int p1), .val (.int p2), .val (.int p3), .val (.int p4), .val (.long p5), .second, .val (.int v4), .val (.int (1 : Int32)), .val (.int (0 : Int32)), .val (.int v41), .val .null, .val (.int v195), .val (.int v202), .val (.ref b56), .val (.int v297), .val (.int v309), .val (.int (2 : Int32)), .val (.int v334), .val (.int v249), .unset, .unset, .unset, .unset, .unset, .unset] [(.long (v334.toInt64)), (.long (p5 &&& (9223372036854775807 : Int64))), (.long (1 : Int64))]))
                refine GoW.st (fun t k => lremM X60 hx rfl (hb hby at_353) rfl nzL (XS.ladd X60.here hx rfl (hb hby at_354) rfl (XS.lstore X60.here hx rfl (hb hby at_355) rfl (l' := #[.val (.int p1), .val (.int p2), .val (.int p3), .val (.int p4), .val (.long p5), .second, .val (.int v4), .val (.int (1 : Int32)), .val (.int (0 : Int32)), .val (.int v41), .val .null, .val (.int v195), .val (.int v202), .val (.ref b56), .val (.int v297), .val (.int v309), .val (.int (2 : Int32)), .val (.int v334), .val (.long ((1 : Int64) + ((p5 &&& (9223372036854775807 : Int64)) % (v334.toInt64)))), .second, .unset, .unset, .unset, .unset, .unset]) rfl k))) ?_
                show GoW p e below QQ (T60.setTop (mkF m 357 #[.val (.int p1), .val (.int p2), .val (.int p3), .val (.int p4), .val (.long p5), .second, .val (.int v4), .val (.int (1 : Int32)), .val (.int (0 : Int32)), .val (.int v41), .val .null, .val (.int v195), .val (.int v202), .val (.ref b56), .val (.int v297), .val (.int v309), .val (.int (2 : Int32)), .val (.int v334), .val (.long ((1 : Int64) + ((p5 &&& (9223372036854775807 : Int64)) % (v334.toInt64)))), .second, .unset, .unset, .unset, .unset, .unset] []))
                generalize hv355 : ((1 : Int64) + ((p5 &&& (9223372036854775807 : Int64)) % (v334.toInt64))) = v355
                have poA := own_posf p5 v334 szp
                rw [hv355] at poA
                have ix := own_ixr v202 v355 (by omega) (by omega)
                obtain ⟨T62, h62, X62, e62, E62, A62, D62, -, st62⟩ := newO X60 hx hZ hown (hw _ (List.mem_of_getElem? (i := 7) rfl)) (hw _ (List.mem_of_getElem? (i := 8) rfl)) (hw _ (List.mem_of_getElem? (i := 9) rfl)) e60 (g := (mkF m 357 #[.val (.int p1), .val (.int p2), .val (.int p3), .val (.int p4), .val (.long p5), .second, .val (.int v4), .val (.int (1 : Int32)), .val (.int (0 : Int32)), .val (.int v41), .val .null, .val (.int v195), .val (.int v202), .val (.ref b56), .val (.int v297), .val (.int v309), .val (.int (2 : Int32)), .val (.int v334), .val (.long v355), .second, .unset, .unset, .unset, .unset, .unset] [])) rfl (hb hby at_357) (by decide) (by decide)
                obtain ⟨b62, g62⟩ : ∃ z, z = h60.size := ⟨_, rfl⟩
                rw [← g62] at A62 D62 st62
                refine GoW.st st62 ?_
                have gg62 : n0 ≤ b62 := Nat.le_trans (Nat.le_trans Z0 K60.1) (Nat.le_of_eq g62.symm)
                have sz62 : h0.size ≤ b62 := Nat.le_trans K60.1 (Nat.le_of_eq g62.symm)
                have ne62_b56 : b56 ≠ b62 := Nat.ne_of_lt (Nat.lt_of_lt_of_le f61_V_b56.lt (Nat.le_of_eq g62.symm))
                have f63_V_b56 : Arv Z h62 b56 k56 .int (2 : Int32) [(.int v297), (.int v309)] (.int (0 : Int32)) := f61_V_b56.ext E62
                have K62 : Keep h0 h62 [] := K60.ext E62
                have F62_context : Fld Z h62 b62 "com/example/hike/hike/Proximity$Group" "context" "I" (.int (0 : Int32)) := D62 (Or.inr (hw _ (List.mem_of_getElem? (i := 22) rfl))) (ty := .int) (by decide)
                have F62_order : Fld Z h62 b62 "com/example/hike/hike/Proximity$Group" "order" "[I" .null := D62 (Or.inr (hw _ (List.mem_of_getElem? (i := 24) rfl))) (ty := (.array .int)) (by decide)
                have F62_from : Fld Z h62 b62 "com/example/hike/hike/Proximity$Group" "from" "I" (.int (0 : Int32)) := D62 (Or.inr (hw _ (List.mem_of_getElem? (i := 26) rfl))) (ty := .int) (by decide)
                have F62_to : Fld Z h62 b62 "com/example/hike/hike/Proximity$Group" "to" "I" (.int (0 : Int32)) := D62 (Or.inr (hw _ (List.mem_of_getElem? (i := 28) rfl))) (ty := .int) (by decide)
                have F62_reverse : Fld Z h62 b62 "com/example/hike/hike/Proximity$Group" "reverse" "Z" (.int (0 : Int32)) := D62 (Or.inr (hw _ (List.mem_of_getElem? (i := 30) rfl))) (ty := .boolean) (by decide)
                have F62_skipped : Fld Z h62 b62 "com/example/hike/hike/Proximity$Group" "skipped" "[I" .null := D62 (Or.inr (hw _ (List.mem_of_getElem? (i := 32) rfl))) (ty := (.array .int)) (by decide)
                show GoW p e below QQ (T62.setTop (mkF m 360 #[.val (.int p1), .val (.int p2), .val (.int p3), .val (.int p4), .val (.long p5), .second, .val (.int v4), .val (.int (1 : Int32)), .val (.int (0 : Int32)), .val (.int v41), .val .null, .val (.int v195), .val (.int v202), .val (.ref b56), .val (.int v297), .val (.int v309), .val (.int (2 : Int32)), .val (.int v334), .val (.long v355), .second, .unset, .unset, .unset, .unset, .unset] [(.ref b62)]))
                refine GoW.st (fun t k => XS.dup X62.here hx rfl (hb hby at_360) rfl rfl (XS.iloadN X62.here hx rfl (hb hby at_361) rfl (XS.aload X62.here hx rfl (hb hby at_362) rfl rfl (XS.iload X62.here hx rfl (hb hby at_364) rfl (XS.iload X62.here hx rfl (hb hby at_366) rfl (XS.iload X62.here hx rfl (hb hby at_368) rfl k)))))) ?_
                show GoW p e below QQ (T62.setTop (mkF m 370 #[.val (.int p1), .val (.int p2), .val (.int p3), .val (.int p4), .val (.long p5), .second, .val (.int v4), .val (.int (1 : Int32)), .val (.int (0 : Int32)), .val (.int v41), .val .null, .val (.int v195), .val (.int v202), .val (.ref b56), .val (.int v297), .val (.int v309), .val (.int (2 : Int32)), .val (.int v334), .val (.long v355), .second, .unset, .unset, .unset, .unset, .unset] [(.int (1 : Int32)), (.int v202), (.int v195), .null, (.int p3), (.ref b62), (.ref b62)]))
                refine GoW.st (fun t k => XS.aload X62.here hx rfl (hb hby at_370) rfl rfl k) ?_
                show GoW p e below QQ (T62.setTop (mkF m 372 #[.val (.int p1), .val (.int p2), .val (.int p3), .val (.int p4), .val (.long p5), .second, .val (.int v4), .val (.int (1 : Int32)), .val (.int (0 : Int32)), .val (.int v41), .val .null, .val (.int v195), .val (.int v202), .val (.ref b56), .val (.int v297), .val (.int v309), .val (.int (2 : Int32)), .val (.int v334), .val (.long v355), .second, .unset, .unset, .unset, .unset, .unset] [(.ref b56), (.int (1 : Int32)), (.int v202), (.int v195), .null, (.int p3), (.ref b62), (.ref b62)]))
                obtain ⟨_, _, ⟨T64, zL64, zk64, zn64⟩, -, X64, ⟨Lc64, hQ64, zl64, zy64, zz64⟩, st64⟩ := X62.specialBack hx (y := (⟨"com/example/hike/hike/Proximity$Group", "<init>", "(I[IIIZ[I)V"⟩ : MethodName)) rfl hown (mvT hZ (hw _ (List.mem_of_getElem? (i := 10) rfl))) (mvT hZ (hw _ (List.mem_of_getElem? (i := 11) rfl))) (mvT hZ (hw _ (List.mem_of_getElem? (i := 12) rfl))) (by decide) (backOf (W := 1) (rm2_s1 l Z a0 hw [] b62 p3 v195 v202 b56 h62 n0 (Nat.le_trans Z0 K62.1) A62 gg62 F62_context F62_order F62_from F62_to F62_reverse F62_skipped) hZ (hw _ (List.mem_of_getElem? (i := 12) rfl)) (hw _ (List.mem_of_getElem? (i := 9) rfl)) (by decide) (by decide)) (g := (mkF m 372 #[.val (.int p1), .val (.int p2), .val (.int p3), .val (.int p4), .val (.long p5), .second, .val (.int v4), .val (.int (1 : Int32)), .val (.int (0 : Int32)), .val (.int v41), .val .null, .val (.int v195), .val (.int v202), .val (.ref b56), .val (.int v297), .val (.int v309), .val (.int (2 : Int32)), .val (.int v334), .val (.long v355), .second, .unset, .unset, .unset, .unset, .unset] [(.ref b56), (.int (1 : Int32)), (.int v202), (.int v195), .null, (.int p3), (.ref b62), (.ref b62)])) rfl (by rw [hml]; rfl) (Steps.refl _) (a := b62) (argsL := [(.int p3), .null, (.int v195), (.int v202), (.int (1 : Int32)), (.ref b56)]) (rest := [(.ref b62)]) (lenOf pd_2 rfl) rfl (by show 2 * 0 + _ ≤ _; exact Nat.le_of_eq rfl) (hb hby at_372) (fun _ _ => ⟨rfl, e62, (by decide : 2 + 0 ≤ _), (by decide : 8 + 0 ≤ _)⟩)
                dsimp only [Pt.U, Pt.locs, Pt.cells, Pt.slots] at X64 zl64 zy64 zz64 st64 hQ64
                subst zl64 zy64 zz64
                obtain ⟨rfl, Nq64, Kq64, p64_0, p64_1, p64_2, p64_3, p64_4, p64_5⟩ := hQ64
                have N64 := Fr.app N60 Nq64
                refine GoW.st (fun t k => st64.trans k) ?_
                have f65_V_b56 : Arv Z T64.heap b56 k56 .int (2 : Int32) [(.int v297), (.int v309)] (.int (0 : Int32)) := f63_V_b56.keep Kq64 (ninS ne62_b56 nin0)
                have K64 : Keep h0 T64.heap [] := K62.trans Kq64 (allS (Or.inr sz62) all0)
                show GoW p e below QQ (T64.setTop (mkF m 375 #[.val (.int p1), .val (.int p2), .val (.int p3), .val (.int p4), .val (.long p5), .second, .val (.int v4), .val (.int (1 : Int32)), .val (.int (0 : Int32)), .val (.int v41), .val .null, .val (.int v195), .val (.int v202), .val (.ref b56), .val (.int v297), .val (.int v309), .val (.int (2 : Int32)), .val (.int v334), .val (.long v355), .second, .unset, .unset, .unset, .unset, .unset] [(.ref b62)]))
                refine GoW.st (fun t k => XS.astore X64.here hx rfl (hb hby at_375) rfl rfl (l' := #[.val (.int p1), .val (.int p2), .val (.int p3), .val (.int p4), .val (.long p5), .second, .val (.int v4), .val (.int (1 : Int32)), .val (.int (0 : Int32)), .val (.int v41), .val .null, .val (.int v195), .val (.int v202), .val (.ref b56), .val (.int v297), .val (.int v309), .val (.int (2 : Int32)), .val (.int v334), .val (.long v355), .second, .val (.ref b62), .unset, .unset, .unset, .unset]) rfl (XS.aload X64.here hx rfl (hb hby at_377) rfl rfl (XS.lload X64.here hx rfl (hb hby at_379) rfl k))) ?_
                show GoW p e below QQ (T64.setTop (mkF m 381 #[.val (.int p1), .val (.int p2), .val (.int p3), .val (.int p4), .val (.long p5), .second, .val (.int v4), .val (.int (1 : Int32)), .val (.int (0 : Int32)), .val (.int v41), .val .null, .val (.int v195), .val (.int v202), .val (.ref b56), .val (.int v297), .val (.int v309), .val (.int (2 : Int32)), .val (.int v334), .val (.long v355), .second, .val (.ref b62), .unset, .unset, .unset, .unset] [(.long v355), (.ref b62)]))
                obtain ⟨cq66, kq66, qa66, qb66, qc66⟩ := isOf hZ rfl p64_0
                obtain ⟨_, _, ⟨T66, zL66, zk66, zn66⟩, -, X66, ⟨Lc66, hQ66, zl66, zy66, zz66⟩, st66⟩ := X64.virtualBack hx (y := (⟨"com/example/hike/hike/Proximity$Group", "at", "(J)I"⟩ : MethodName)) (z := (⟨"com/example/hike/hike/Proximity$Group", "at", "(J)I"⟩ : MethodName)) hown (mvT hZ (hw _ (List.mem_of_getElem? (i := 33) rfl))) (mvT hZ (hw _ (List.mem_of_getElem? (i := 34) rfl))) (notFace_of_selects (args := #[]) (mvT hZ (hw _ (List.mem_of_getElem? (i := 36) rfl)))) (mvT hZ (hw _ (List.mem_of_getElem? (i := 36) rfl))) (mvT hZ (hw _ (List.mem_of_getElem? (i := 35) rfl))) (by decide) (backOf (W := 0) (rm5_s2 l Z a0 hw [] b62 v355 v195 v202 b56 k56 v297 v309 T64.heap n0 (Nat.le_trans Z0 K64.1) p64_4 p64_2 p64_3 p64_5 p64_1 f65_V_b56) hZ (hw _ (List.mem_of_getElem? (i := 37) rfl)) (hw _ (List.mem_of_getElem? (i := 9) rfl)) (by decide) (by decide)) qa66 qc66 (g := (mkF m 381 #[.val (.int p1), .val (.int p2), .val (.int p3), .val (.int p4), .val (.long p5), .second, .val (.int v4), .val (.int (1 : Int32)), .val (.int (0 : Int32)), .val (.int v41), .val .null, .val (.int v195), .val (.int v202), .val (.ref b56), .val (.int v297), .val (.int v309), .val (.int (2 : Int32)), .val (.int v334), .val (.long v355), .second, .val (.ref b62), .unset, .unset, .unset, .unset] [(.long v355), (.ref b62)])) rfl (by rw [hml]; rfl) (Steps.refl _) (argsL := [(.long v355)]) (rest := []) (lenOf pd_3 rfl) rfl (by show 2 * 0 + _ ≤ _; exact Nat.le_of_eq rfl) (hb hby at_381) (fun _ _ => ⟨rfl, rfl, (by decide : 2 + 0 ≤ _), (by decide : 8 + 0 ≤ _)⟩)
                dsimp only [Pt.U, Pt.locs, Pt.cells, Pt.slots] at X66 zl66 zy66 zz66 st66 hQ66
                subst zl66 zy66 zz66
                obtain ⟨rfl, Nq66, hh66⟩ := hQ66
                have N66 := Fr.app N64 Nq66
                refine GoW.st (fun t k => st66.trans k) ?_
                show GoW p e below QQ (T66.setTop (mkF m 384 #[.val (.int p1), .val (.int p2), .val (.int p3), .val (.int p4), .val (.long p5), .second, .val (.int v4), .val (.int (1 : Int32)), .val (.int (0 : Int32)), .val (.int v41), .val .null, .val (.int v195), .val (.int v202), .val (.ref b56), .val (.int v297), .val (.int v309), .val (.int (2 : Int32)), .val (.int v334), .val (.long v355), .second, .val (.ref b62), .unset, .unset, .unset, .unset] [(.int (own_sk2 v297 v309 ((v202.toInt64 - v355).toInt32)))]))
                refine GoW.st (fun t k => XS.istore X66.here hx rfl (hb hby at_384) rfl (l' := #[.val (.int p1), .val (.int p2), .val (.int p3), .val (.int p4), .val (.long p5), .second, .val (.int v4), .val (.int (1 : Int32)), .val (.int (0 : Int32)), .val (.int v41), .val .null, .val (.int v195), .val (.int v202), .val (.ref b56), .val (.int v297), .val (.int v309), .val (.int (2 : Int32)), .val (.int v334), .val (.long v355), .second, .val (.ref b62), .val (.int (own_sk2 v297 v309 ((v202.toInt64 - v355).toInt32))), .unset, .unset, .unset]) rfl k) ?_
                show GoW p e below QQ (T66.setTop (mkF m 386 #[.val (.int p1), .val (.int p2), .val (.int p3), .val (.int p4), .val (.long p5), .second, .val (.int v4), .val (.int (1 : Int32)), .val (.int (0 : Int32)), .val (.int v41), .val .null, .val (.int v195), .val (.int v202), .val (.ref b56), .val (.int v297), .val (.int v309), .val (.int (2 : Int32)), .val (.int v334), .val (.long v355), .second, .val (.ref b62), .val (.int (own_sk2 v297 v309 ((v202.toInt64 - v355).toInt32))), .unset, .unset, .unset] []))
                generalize hv384 : (own_sk2 v297 v309 ((v202.toInt64 - v355).toInt32)) = v384
                have rS := own_sk2_i v297 v309 ((v202.toInt64 - v355).toInt32) (by omega)
                rw [hv384] at rS
                refine GoW.st (fun t k => XS.iload X66.here hx rfl (hb hby at_386) rfl k) ?_
                show GoW p e below QQ (T66.setTop (mkF m 388 #[.val (.int p1), .val (.int p2), .val (.int p3), .val (.int p4), .val (.long p5), .second, .val (.int v4), .val (.int (1 : Int32)), .val (.int (0 : Int32)), .val (.int v41), .val .null, .val (.int v195), .val (.int v202), .val (.ref b56), .val (.int v297), .val (.int v309), .val (.int (2 : Int32)), .val (.int v334), .val (.long v355), .second, .val (.ref b62), .val (.int v384), .unset, .unset, .unset] [(.int (0 : Int32))]))
                have hc388 : (0 : Int32) = (0 : Int32) := by decide
                refine GoW.st (fun t k => XS.ifYes X66.here hx rfl (pc0 := 388) (pc' := 478) rfl (hb hby at_388) rfl ((if0 _ _).trans (teq hc388).1) (by decide) (by decide) (XS.iload X66.here hx rfl (hb hby at_478) rfl (XS.iload X66.here hx rfl (hb hby at_480) rfl k))) ?_
                show GoW p e below QQ (T66.setTop (mkF m 482 #[.val (.int p1), .val (.int p2), .val (.int p3), .val (.int p4), .val (.long p5), .second, .val (.int v4), .val (.int (1 : Int32)), .val (.int (0 : Int32)), .val (.int v41), .val .null, .val (.int v195), .val (.int v202), .val (.ref b56), .val (.int v297), .val (.int v309), .val (.int (2 : Int32)), .val (.int v334), .val (.long v355), .second, .val (.ref b62), .val (.int v384), .unset, .unset, .unset] [(.int v195), (.int v384)]))
                have hc482 : ¬ (v384 < v195) := by
                  exact own_nlt_of (by omega)
                refine GoW.st (fun t k => XS.icmpNo X66.here hx rfl (hb hby at_482) rfl (flt hc482).1 k) ?_
                show GoW p e below QQ (T66.setTop (mkF m 485 #[.val (.int p1), .val (.int p2), .val (.int p3), .val (.int p4), .val (.long p5), .second, .val (.int v4), .val (.int (1 : Int32)), .val (.int (0 : Int32)), .val (.int v41), .val .null, .val (.int v195), .val (.int v202), .val (.ref b56), .val (.int v297), .val (.int v309), .val (.int (2 : Int32)), .val (.int v334), .val (.long v355), .second, .val (.ref b62), .val (.int v384), .unset, .unset, .unset] []))
                have hi482 : ¬ (v384.toInt < v195.toInt) := (fun q => hc482 (Int32.lt_iff_toInt_lt.mpr q))
                refine GoW.st (fun t k => XS.iload X66.here hx rfl (hb hby at_485) rfl (XS.iload X66.here hx rfl (hb hby at_487) rfl k)) ?_
                show GoW p e below QQ (T66.setTop (mkF m 489 #[.val (.int p1), .val (.int p2), .val (.int p3), .val (.int p4), .val (.long p5), .second, .val (.int v4), .val (.int (1 : Int32)), .val (.int (0 : Int32)), .val (.int v41), .val .null, .val (.int v195), .val (.int v202), .val (.ref b56), .val (.int v297), .val (.int v309), .val (.int (2 : Int32)), .val (.int v334), .val (.long v355), .second, .val (.ref b62), .val (.int v384), .unset, .unset, .unset] [(.int v202), (.int v384)]))
                have hc489 : v384 < v202 := by
                  exact own_lt_of (by omega)
                refine GoW.st (fun t k => XS.icmpNo X66.here hx rfl (hb hby at_489) rfl (tlt hc489).2.1 k) ?_
                show GoW p e below QQ (T66.setTop (mkF m 492 #[.val (.int p1), .val (.int p2), .val (.int p3), .val (.int p4), .val (.long p5), .second, .val (.int v4), .val (.int (1 : Int32)), .val (.int (0 : Int32)), .val (.int v41), .val .null, .val (.int v195), .val (.int v202), .val (.ref b56), .val (.int v297), .val (.int v309), .val (.int (2 : Int32)), .val (.int v334), .val (.long v355), .second, .val (.ref b62), .val (.int v384), .unset, .unset, .unset] []))
                have hi489 : v384.toInt < v202.toInt := (Int32.lt_iff_toInt_lt.mp hc489)
                refine GoW.st (fun t k => XS.iload X66.here hx rfl (hb hby at_492) rfl (XS.iload X66.here hx rfl (hb hby at_494) rfl k)) ?_
                show GoW p e below QQ (T66.setTop (mkF m 496 #[.val (.int p1), .val (.int p2), .val (.int p3), .val (.int p4), .val (.long p5), .second, .val (.int v4), .val (.int (1 : Int32)), .val (.int (0 : Int32)), .val (.int v41), .val .null, .val (.int v195), .val (.int v202), .val (.ref b56), .val (.int v297), .val (.int v309), .val (.int (2 : Int32)), .val (.int v334), .val (.long v355), .second, .val (.ref b62), .val (.int v384), .unset, .unset, .unset] [(.int v297), (.int v384)]))
                have hc496 : ¬ (v384 = v297) := by
                  exact own_ne_of (by omega)
                refine GoW.st (fun t k => XS.icmpNo X66.here hx rfl (hb hby at_496) rfl (feq hc496).1 k) ?_
                show GoW p e below QQ (T66.setTop (mkF m 499 #[.val (.int p1), .val (.int p2), .val (.int p3), .val (.int p4), .val (.long p5), .second, .val (.int v4), .val (.int (1 : Int32)), .val (.int (0 : Int32)), .val (.int v41), .val .null, .val (.int v195), .val (.int v202), .val (.ref b56), .val (.int v297), .val (.int v309), .val (.int (2 : Int32)), .val (.int v334), .val (.long v355), .second, .val (.ref b62), .val (.int v384), .unset, .unset, .unset] []))
                have hi496 : ¬ (v384.toInt = v297.toInt) := (fun q => hc496 (Int32.toInt_inj.mp q))
                refine GoW.st (fun t k => XS.iload X66.here hx rfl (hb hby at_499) rfl (XS.iload X66.here hx rfl (hb hby at_501) rfl k)) ?_
                show GoW p e below QQ (T66.setTop (mkF m 503 #[.val (.int p1), .val (.int p2), .val (.int p3), .val (.int p4), .val (.long p5), .second, .val (.int v4), .val (.int (1 : Int32)), .val (.int (0 : Int32)), .val (.int v41), .val .null, .val (.int v195), .val (.int v202), .val (.ref b56), .val (.int v297), .val (.int v309), .val (.int (2 : Int32)), .val (.int v334), .val (.long v355), .second, .val (.ref b62), .val (.int v384), .unset, .unset, .unset] [(.int v309), (.int v384)]))
                have hc503 : ¬ (v384 = v309) := by
                  exact own_ne_of (by omega)
                refine GoW.st (fun t k => XS.icmpYes X66.here hx rfl (pc0 := 503) (pc' := 508) rfl (hb hby at_503) rfl (feq hc503).2 (by decide) (by decide) k) ?_
                show GoW p e below QQ (T66.setTop (mkF m 508 #[.val (.int p1), .val (.int p2), .val (.int p3), .val (.int p4), .val (.long p5), .second, .val (.int v4), .val (.int (1 : Int32)), .val (.int (0 : Int32)), .val (.int v41), .val .null, .val (.int v195), .val (.int v202), .val (.ref b56), .val (.int v297), .val (.int v309), .val (.int (2 : Int32)), .val (.int v334), .val (.long v355), .second, .val (.ref b62), .val (.int v384), .unset, .unset, .unset] []))
                have hi503 : ¬ (v384.toInt = v309.toInt) := (fun q => hc503 (Int32.toInt_inj.mp q))
                refine GoW.st (fun t k => XS.iload X66.here hx rfl (hb hby at_508) rfl k) ?_
                show GoW p e below QQ (T66.setTop (mkF m 510 #[.val (.int p1), .val (.int p2), .val (.int p3), .val (.int p4), .val (.long p5), .second, .val (.int v4), .val (.int (1 : Int32)), .val (.int (0 : Int32)), .val (.int v41), .val .null, .val (.int v195), .val (.int v202), .val (.ref b56), .val (.int v297), .val (.int v309), .val (.int (2 : Int32)), .val (.int v334), .val (.long v355), .second, .val (.ref b62), .val (.int v384), .unset, .unset, .unset] [(.int (1 : Int32))]))
                have hc510 : ¬ ((1 : Int32) = (0 : Int32)) := by decide
                refine GoW.st (fun t k => XS.ifYes X66.here hx rfl (pc0 := 510) (pc' := 533) rfl (hb hby at_510) rfl ((if0 _ _).trans (feq hc510).2) (by decide) (by decide) (XS.iload X66.here hx rfl (hb hby at_533) rfl (XS.iload X66.here hx rfl (hb hby at_535) rfl k))) ?_
                show GoW p e below QQ (T66.setTop (mkF m 537 #[.val (.int p1), .val (.int p2), .val (.int p3), .val (.int p4), .val (.long p5), .second, .val (.int v4), .val (.int (1 : Int32)), .val (.int (0 : Int32)), .val (.int v41), .val .null, .val (.int v195), .val (.int v202), .val (.ref b56), .val (.int v297), .val (.int v309), .val (.int (2 : Int32)), .val (.int v334), .val (.long v355), .second, .val (.ref b62), .val (.int v384), .unset, .unset, .unset] [(.int v384), (.int v297)]))
                by_cases hc537 : v384 < v297
                · skip
                  refine GoW.st (fun t k => XS.icmpNo X66.here hx rfl (hb hby at_537) rfl (tlt hc537).2.2.2 k) ?_
                  show GoW p e below QQ (T66.setTop (mkF m 540 #[.val (.int p1), .val (.int p2), .val (.int p3), .val (.int p4), .val (.long p5), .second, .val (.int v4), .val (.int (1 : Int32)), .val (.int (0 : Int32)), .val (.int v41), .val .null, .val (.int v195), .val (.int v202), .val (.ref b56), .val (.int v297), .val (.int v309), .val (.int (2 : Int32)), .val (.int v334), .val (.long v355), .second, .val (.ref b62), .val (.int v384), .unset, .unset, .unset] []))
                  have hi537 : v384.toInt < v297.toInt := (Int32.lt_iff_toInt_lt.mp hc537)
                  refine GoW.st (fun t k => XS.iconst X66.here hx rfl (hb hby at_540) (XS.goto X66.here hx rfl (pc0 := 541) (pc' := 545) rfl (hb hby at_541) (by decide) (by decide) (XS.iload X66.here hx rfl (hb hby at_545) rfl (XS.iload X66.here hx rfl (hb hby at_547) rfl k)))) ?_
                  show GoW p e below QQ (T66.setTop (mkF m 549 #[.val (.int p1), .val (.int p2), .val (.int p3), .val (.int p4), .val (.long p5), .second, .val (.int v4), .val (.int (1 : Int32)), .val (.int (0 : Int32)), .val (.int v41), .val .null, .val (.int v195), .val (.int v202), .val (.ref b56), .val (.int v297), .val (.int v309), .val (.int (2 : Int32)), .val (.int v334), .val (.long v355), .second, .val (.ref b62), .val (.int v384), .unset, .unset, .unset] [(.int v384), (.int v309), (.int (1 : Int32))]))
                  by_cases hc549 : v384 < v309
                  · skip
                    refine GoW.st (fun t k => XS.icmpNo X66.here hx rfl (hb hby at_549) rfl (tlt hc549).2.2.2 k) ?_
                    show GoW p e below QQ (T66.setTop (mkF m 552 #[.val (.int p1), .val (.int p2), .val (.int p3), .val (.int p4), .val (.long p5), .second, .val (.int v4), .val (.int (1 : Int32)), .val (.int (0 : Int32)), .val (.int v41), .val .null, .val (.int v195), .val (.int v202), .val (.ref b56), .val (.int v297), .val (.int v309), .val (.int (2 : Int32)), .val (.int v334), .val (.long v355), .second, .val (.ref b62), .val (.int v384), .unset, .unset, .unset] [(.int (1 : Int32))]))
                    have hi549 : v384.toInt < v309.toInt := (Int32.lt_iff_toInt_lt.mp hc549)
                    refine GoW.st (fun t k => XS.iconst X66.here hx rfl (hb hby at_552) (XS.goto X66.here hx rfl (pc0 := 553) (pc' := 557) rfl (hb hby at_553) (by decide) (by decide) (XS.iadd X66.here hx rfl (hb hby at_557) rfl (XS.istore X66.here hx rfl (hb hby at_558) rfl (l' := #[.val (.int p1), .val (.int p2), .val (.int p3), .val (.int p4), .val (.long p5), .second, .val (.int v4), .val (.int (1 : Int32)), .val (.int (0 : Int32)), .val (.int v41), .val .null, .val (.int v195), .val (.int v202), .val (.ref b56), .val (.int v297), .val (.int v309), .val (.int (2 : Int32)), .val (.int v334), .val (.long v355), .second, .val (.ref b62), .val (.int v384), .val (.int (2 : Int32)), .unset, .unset]) rfl (XS.iload X66.here hx rfl (hb hby at_560) rfl (XS.iconst X66.here hx rfl (hb hby at_562) k)))))) ?_
                    show GoW p e below QQ (T66.setTop (mkF m 563 #[.val (.int p1), .val (.int p2), .val (.int p3), .val (.int p4), .val (.long p5), .second, .val (.int v4), .val (.int (1 : Int32)), .val (.int (0 : Int32)), .val (.int v41), .val .null, .val (.int v195), .val (.int v202), .val (.ref b56), .val (.int v297), .val (.int v309), .val (.int (2 : Int32)), .val (.int v334), .val (.long v355), .second, .val (.ref b62), .val (.int v384), .val (.int (2 : Int32)), .unset, .unset] [(.int (1 : Int32)), (.int v202)]))
                    refine GoW.st (fun t k => XS.isub X66.here hx rfl (hb hby at_563) rfl (XS.iload X66.here hx rfl (hb hby at_564) rfl (XS.isub X66.here hx rfl (hb hby at_566) rfl (XS.iload X66.here hx rfl (hb hby at_567) rfl (XS.isub X66.here hx rfl (hb hby at_569) rfl (XS.i2l X66.here hx rfl (hb hby at_570) rfl k)))))) ?_
                    show GoW p e below QQ (T66.setTop (mkF m 571 #[.val (.int p1), .val (.int p2), .val (.int p3), .val (.int p4), .val (.long p5), .second, .val (.int v4), .val (.int (1 : Int32)), .val (.int (0 : Int32)), .val (.int v41), .val .null, .val (.int v195), .val (.int v202), .val (.ref b56), .val (.int v297), .val (.int v309), .val (.int (2 : Int32)), .val (.int v334), .val (.long v355), .second, .val (.ref b62), .val (.int v384), .val (.int (2 : Int32)), .unset, .unset] [(.long ((((v202 - (1 : Int32)) - v384) - (2 : Int32)).toInt64))]))
                    refine GoW.st (fun t k => XS.lload X66.here hx rfl (hb hby at_571) rfl (XS.lconst X66.here hx rfl (hb hby at_573) (XS.lsub X66.here hx rfl (hb hby at_574) rfl (XS.lcmp X66.here hx rfl (hb hby at_575) rfl k)))) ?_
                    show GoW p e below QQ (T66.setTop (mkF m 576 #[.val (.int p1), .val (.int p2), .val (.int p3), .val (.int p4), .val (.long p5), .second, .val (.int v4), .val (.int (1 : Int32)), .val (.int (0 : Int32)), .val (.int v41), .val .null, .val (.int v195), .val (.int v202), .val (.ref b56), .val (.int v297), .val (.int v309), .val (.int (2 : Int32)), .val (.int v334), .val (.long v355), .second, .val (.ref b62), .val (.int v384), .val (.int (2 : Int32)), .unset, .unset] [(.int (lcmpW ((((v202 - (1 : Int32)) - v384) - (2 : Int32)).toInt64) (v355 - (1 : Int64))))]))
                    have hc576 : ((((v202 - (1 : Int32)) - v384) - (2 : Int32)).toInt64) = (v355 - (1 : Int64)) := by
                      have z1 : (1 : Int32).toInt = 1 := rfl
                      have zL1 : (1 : Int64).toInt = 1 := rfl
                      have za : (2 : Int32).toInt = 2 := rfl
                      have x4 := c_lsub v355 1
                      have y4 := rng64 (v355 - 1)
                      have x1 := c_isub v202 1
                      have y1 := rng32 (v202 - 1)
                      have x2 := c_isub (v202 - 1) v384
                      have y2 := rng32 ((v202 - 1) - v384)
                      have x5 := c_isub ((v202 - 1) - v384) (2 : Int32)
                      have y5 := rng32 (((v202 - 1) - v384) - (2 : Int32))
                      have x3 := c_i2l (((v202 - 1) - v384) - (2 : Int32))
                      apply own_eqL_of
                      omega
                    refine GoW.st (fun t k => XS.ifNo X66.here hx rfl (hb hby at_576) rfl ((if0 _ _).trans (teq ((lw_eq ((((v202 - (1 : Int32)) - v384) - (2 : Int32)).toInt64) (v355 - (1 : Int64))).mpr hc576)).2) k) ?_
                    show GoW p e below QQ (T66.setTop (mkF m 579 #[.val (.int p1), .val (.int p2), .val (.int p3), .val (.int p4), .val (.long p5), .second, .val (.int v4), .val (.int (1 : Int32)), .val (.int (0 : Int32)), .val (.int v41), .val .null, .val (.int v195), .val (.int v202), .val (.ref b56), .val (.int v297), .val (.int v309), .val (.int (2 : Int32)), .val (.int v334), .val (.long v355), .second, .val (.ref b62), .val (.int v384), .val (.int (2 : Int32)), .unset, .unset] []))
                    have hi576 : (((((v202 - (1 : Int32)) - v384) - (2 : Int32)).toInt64)).toInt = ((v355 - (1 : Int64))).toInt := (congrArg Int64.toInt hc576)
                    refine GoW.st (fun t k => XS.iconst X66.here hx rfl (hb hby at_579) (XS.goto X66.here hx rfl (pc0 := 580) (pc' := 584) rfl (hb hby at_580) (by decide) (by decide) k)) ?_
                    show GoW p e below QQ (T66.setTop (mkF m 584 #[.val (.int p1), .val (.int p2), .val (.int p3), .val (.int p4), .val (.long p5), .second, .val (.int v4), .val (.int (1 : Int32)), .val (.int (0 : Int32)), .val (.int v41), .val .null, .val (.int v195), .val (.int v202), .val (.ref b56), .val (.int v297), .val (.int v309), .val (.int (2 : Int32)), .val (.int v334), .val (.long v355), .second, .val (.ref b62), .val (.int v384), .val (.int (2 : Int32)), .unset, .unset] [(.int (1 : Int32))]))
                    exact GoW.fin X66 (some (.int (nar .boolean (1 : Int32)))) (fun q => by rw [hret] at q; cases q) hlk hQ hh66 ⟨rfl, N66⟩ (by decide) (by decide) (fun fs hr => retN X66 hx (t := .boolean) hret (by simp) (hb hby at_584) hr)
                  · skip
                    refine GoW.st (fun t k => XS.icmpYes X66.here hx rfl (pc0 := 549) (pc' := 556) rfl (hb hby at_549) rfl (flt hc549).2.2.2 (by decide) (by decide) k) ?_
                    show GoW p e below QQ (T66.setTop (mkF m 556 #[.val (.int p1), .val (.int p2), .val (.int p3), .val (.int p4), .val (.long p5), .second, .val (.int v4), .val (.int (1 : Int32)), .val (.int (0 : Int32)), .val (.int v41), .val .null, .val (.int v195), .val (.int v202), .val (.ref b56), .val (.int v297), .val (.int v309), .val (.int (2 : Int32)), .val (.int v334), .val (.long v355), .second, .val (.ref b62), .val (.int v384), .unset, .unset, .unset] [(.int (1 : Int32))]))
                    have hi549 : ¬ (v384.toInt < v309.toInt) := (fun q => hc549 (Int32.lt_iff_toInt_lt.mpr q))
                    refine GoW.st (fun t k => XS.iconst X66.here hx rfl (hb hby at_556) (XS.iadd X66.here hx rfl (hb hby at_557) rfl (XS.istore X66.here hx rfl (hb hby at_558) rfl (l' := #[.val (.int p1), .val (.int p2), .val (.int p3), .val (.int p4), .val (.long p5), .second, .val (.int v4), .val (.int (1 : Int32)), .val (.int (0 : Int32)), .val (.int v41), .val .null, .val (.int v195), .val (.int v202), .val (.ref b56), .val (.int v297), .val (.int v309), .val (.int (2 : Int32)), .val (.int v334), .val (.long v355), .second, .val (.ref b62), .val (.int v384), .val (.int (1 : Int32)), .unset, .unset]) rfl (XS.iload X66.here hx rfl (hb hby at_560) rfl (XS.iconst X66.here hx rfl (hb hby at_562) (XS.isub X66.here hx rfl (hb hby at_563) rfl k)))))) ?_
                    show GoW p e below QQ (T66.setTop (mkF m 564 #[.val (.int p1), .val (.int p2), .val (.int p3), .val (.int p4), .val (.long p5), .second, .val (.int v4), .val (.int (1 : Int32)), .val (.int (0 : Int32)), .val (.int v41), .val .null, .val (.int v195), .val (.int v202), .val (.ref b56), .val (.int v297), .val (.int v309), .val (.int (2 : Int32)), .val (.int v334), .val (.long v355), .second, .val (.ref b62), .val (.int v384), .val (.int (1 : Int32)), .unset, .unset] [(.int (v202 - (1 : Int32)))]))
                    refine GoW.st (fun t k => XS.iload X66.here hx rfl (hb hby at_564) rfl (XS.isub X66.here hx rfl (hb hby at_566) rfl (XS.iload X66.here hx rfl (hb hby at_567) rfl (XS.isub X66.here hx rfl (hb hby at_569) rfl (XS.i2l X66.here hx rfl (hb hby at_570) rfl (XS.lload X66.here hx rfl (hb hby at_571) rfl k)))))) ?_
                    show GoW p e below QQ (T66.setTop (mkF m 573 #[.val (.int p1), .val (.int p2), .val (.int p3), .val (.int p4), .val (.long p5), .second, .val (.int v4), .val (.int (1 : Int32)), .val (.int (0 : Int32)), .val (.int v41), .val .null, .val (.int v195), .val (.int v202), .val (.ref b56), .val (.int v297), .val (.int v309), .val (.int (2 : Int32)), .val (.int v334), .val (.long v355), .second, .val (.ref b62), .val (.int v384), .val (.int (1 : Int32)), .unset, .unset] [(.long v355), (.long ((((v202 - (1 : Int32)) - v384) - (1 : Int32)).toInt64))]))
                    refine GoW.st (fun t k => XS.lconst X66.here hx rfl (hb hby at_573) (XS.lsub X66.here hx rfl (hb hby at_574) rfl (XS.lcmp X66.here hx rfl (hb hby at_575) rfl k))) ?_
                    show GoW p e below QQ (T66.setTop (mkF m 576 #[.val (.int p1), .val (.int p2), .val (.int p3), .val (.int p4), .val (.long p5), .second, .val (.int v4), .val (.int (1 : Int32)), .val (.int (0 : Int32)), .val (.int v41), .val .null, .val (.int v195), .val (.int v202), .val (.ref b56), .val (.int v297), .val (.int v309), .val (.int (2 : Int32)), .val (.int v334), .val (.long v355), .second, .val (.ref b62), .val (.int v384), .val (.int (1 : Int32)), .unset, .unset] [(.int (lcmpW ((((v202 - (1 : Int32)) - v384) - (1 : Int32)).toInt64) (v355 - (1 : Int64))))]))
                    have hc576 : ((((v202 - (1 : Int32)) - v384) - (1 : Int32)).toInt64) = (v355 - (1 : Int64)) := by
                      have z1 : (1 : Int32).toInt = 1 := rfl
                      have zL1 : (1 : Int64).toInt = 1 := rfl
                      have za : (1 : Int32).toInt = 1 := rfl
                      have x4 := c_lsub v355 1
                      have y4 := rng64 (v355 - 1)
                      have x1 := c_isub v202 1
                      have y1 := rng32 (v202 - 1)
                      have x2 := c_isub (v202 - 1) v384
                      have y2 := rng32 ((v202 - 1) - v384)
                      have x5 := c_isub ((v202 - 1) - v384) (1 : Int32)
                      have y5 := rng32 (((v202 - 1) - v384) - (1 : Int32))
                      have x3 := c_i2l (((v202 - 1) - v384) - (1 : Int32))
                      apply own_eqL_of
                      omega
                    refine GoW.st (fun t k => XS.ifNo X66.here hx rfl (hb hby at_576) rfl ((if0 _ _).trans (teq ((lw_eq ((((v202 - (1 : Int32)) - v384) - (1 : Int32)).toInt64) (v355 - (1 : Int64))).mpr hc576)).2) k) ?_
                    show GoW p e below QQ (T66.setTop (mkF m 579 #[.val (.int p1), .val (.int p2), .val (.int p3), .val (.int p4), .val (.long p5), .second, .val (.int v4), .val (.int (1 : Int32)), .val (.int (0 : Int32)), .val (.int v41), .val .null, .val (.int v195), .val (.int v202), .val (.ref b56), .val (.int v297), .val (.int v309), .val (.int (2 : Int32)), .val (.int v334), .val (.long v355), .second, .val (.ref b62), .val (.int v384), .val (.int (1 : Int32)), .unset, .unset] []))
                    have hi576 : (((((v202 - (1 : Int32)) - v384) - (1 : Int32)).toInt64)).toInt = ((v355 - (1 : Int64))).toInt := (congrArg Int64.toInt hc576)
                    refine GoW.st (fun t k => XS.iconst X66.here hx rfl (hb hby at_579) (XS.goto X66.here hx rfl (pc0 := 580) (pc' := 584) rfl (hb hby at_580) (by decide) (by decide) k)) ?_
                    show GoW p e below QQ (T66.setTop (mkF m 584 #[.val (.int p1), .val (.int p2), .val (.int p3), .val (.int p4), .val (.long p5), .second, .val (.int v4), .val (.int (1 : Int32)), .val (.int (0 : Int32)), .val (.int v41), .val .null, .val (.int v195), .val (.int v202), .val (.ref b56), .val (.int v297), .val (.int v309), .val (.int (2 : Int32)), .val (.int v334), .val (.long v355), .second, .val (.ref b62), .val (.int v384), .val (.int (1 : Int32)), .unset, .unset] [(.int (1 : Int32))]))
                    exact GoW.fin X66 (some (.int (nar .boolean (1 : Int32)))) (fun q => by rw [hret] at q; cases q) hlk hQ hh66 ⟨rfl, N66⟩ (by decide) (by decide) (fun fs hr => retN X66 hx (t := .boolean) hret (by simp) (hb hby at_584) hr)
                · skip
                  refine GoW.st (fun t k => XS.icmpYes X66.here hx rfl (pc0 := 537) (pc' := 544) rfl (hb hby at_537) rfl (flt hc537).2.2.2 (by decide) (by decide) k) ?_
                  show GoW p e below QQ (T66.setTop (mkF m 544 #[.val (.int p1), .val (.int p2), .val (.int p3), .val (.int p4), .val (.long p5), .second, .val (.int v4), .val (.int (1 : Int32)), .val (.int (0 : Int32)), .val (.int v41), .val .null, .val (.int v195), .val (.int v202), .val (.ref b56), .val (.int v297), .val (.int v309), .val (.int (2 : Int32)), .val (.int v334), .val (.long v355), .second, .val (.ref b62), .val (.int v384), .unset, .unset, .unset] []))
                  have hi537 : ¬ (v384.toInt < v297.toInt) := (fun q => hc537 (Int32.lt_iff_toInt_lt.mpr q))
                  refine GoW.st (fun t k => XS.iconst X66.here hx rfl (hb hby at_544) (XS.iload X66.here hx rfl (hb hby at_545) rfl (XS.iload X66.here hx rfl (hb hby at_547) rfl k))) ?_
                  show GoW p e below QQ (T66.setTop (mkF m 549 #[.val (.int p1), .val (.int p2), .val (.int p3), .val (.int p4), .val (.long p5), .second, .val (.int v4), .val (.int (1 : Int32)), .val (.int (0 : Int32)), .val (.int v41), .val .null, .val (.int v195), .val (.int v202), .val (.ref b56), .val (.int v297), .val (.int v309), .val (.int (2 : Int32)), .val (.int v334), .val (.long v355), .second, .val (.ref b62), .val (.int v384), .unset, .unset, .unset] [(.int v384), (.int v309), (.int (0 : Int32))]))
                  by_cases hc549 : v384 < v309
                  · skip
                    refine GoW.st (fun t k => XS.icmpNo X66.here hx rfl (hb hby at_549) rfl (tlt hc549).2.2.2 k) ?_
                    show GoW p e below QQ (T66.setTop (mkF m 552 #[.val (.int p1), .val (.int p2), .val (.int p3), .val (.int p4), .val (.long p5), .second, .val (.int v4), .val (.int (1 : Int32)), .val (.int (0 : Int32)), .val (.int v41), .val .null, .val (.int v195), .val (.int v202), .val (.ref b56), .val (.int v297), .val (.int v309), .val (.int (2 : Int32)), .val (.int v334), .val (.long v355), .second, .val (.ref b62), .val (.int v384), .unset, .unset, .unset] [(.int (0 : Int32))]))
                    have hi549 : v384.toInt < v309.toInt := (Int32.lt_iff_toInt_lt.mp hc549)
                    refine GoW.st (fun t k => XS.iconst X66.here hx rfl (hb hby at_552) (XS.goto X66.here hx rfl (pc0 := 553) (pc' := 557) rfl (hb hby at_553) (by decide) (by decide) (XS.iadd X66.here hx rfl (hb hby at_557) rfl (XS.istore X66.here hx rfl (hb hby at_558) rfl (l' := #[.val (.int p1), .val (.int p2), .val (.int p3), .val (.int p4), .val (.long p5), .second, .val (.int v4), .val (.int (1 : Int32)), .val (.int (0 : Int32)), .val (.int v41), .val .null, .val (.int v195), .val (.int v202), .val (.ref b56), .val (.int v297), .val (.int v309), .val (.int (2 : Int32)), .val (.int v334), .val (.long v355), .second, .val (.ref b62), .val (.int v384), .val (.int (1 : Int32)), .unset, .unset]) rfl (XS.iload X66.here hx rfl (hb hby at_560) rfl (XS.iconst X66.here hx rfl (hb hby at_562) k)))))) ?_
                    show GoW p e below QQ (T66.setTop (mkF m 563 #[.val (.int p1), .val (.int p2), .val (.int p3), .val (.int p4), .val (.long p5), .second, .val (.int v4), .val (.int (1 : Int32)), .val (.int (0 : Int32)), .val (.int v41), .val .null, .val (.int v195), .val (.int v202), .val (.ref b56), .val (.int v297), .val (.int v309), .val (.int (2 : Int32)), .val (.int v334), .val (.long v355), .second, .val (.ref b62), .val (.int v384), .val (.int (1 : Int32)), .unset, .unset] [(.int (1 : Int32)), (.int v202)]))
                    refine GoW.st (fun t k => XS.isub X66.here hx rfl (hb hby at_563) rfl (XS.iload X66.here hx rfl (hb hby at_564) rfl (XS.isub X66.here hx rfl (hb hby at_566) rfl (XS.iload X66.here hx rfl (hb hby at_567) rfl (XS.isub X66.here hx rfl (hb hby at_569) rfl (XS.i2l X66.here hx rfl (hb hby at_570) rfl k)))))) ?_
                    show GoW p e below QQ (T66.setTop (mkF m 571 #[.val (.int p1), .val (.int p2), .val (.int p3), .val (.int p4), .val (.long p5), .second, .val (.int v4), .val (.int (1 : Int32)), .val (.int (0 : Int32)), .val (.int v41), .val .null, .val (.int v195), .val (.int v202), .val (.ref b56), .val (.int v297), .val (.int v309), .val (.int (2 : Int32)), .val (.int v334), .val (.long v355), .second, .val (.ref b62), .val (.int v384), .val (.int (1 : Int32)), .unset, .unset] [(.long ((((v202 - (1 : Int32)) - v384) - (1 : Int32)).toInt64))]))
                    refine GoW.st (fun t k => XS.lload X66.here hx rfl (hb hby at_571) rfl (XS.lconst X66.here hx rfl (hb hby at_573) (XS.lsub X66.here hx rfl (hb hby at_574) rfl (XS.lcmp X66.here hx rfl (hb hby at_575) rfl k)))) ?_
                    show GoW p e below QQ (T66.setTop (mkF m 576 #[.val (.int p1), .val (.int p2), .val (.int p3), .val (.int p4), .val (.long p5), .second, .val (.int v4), .val (.int (1 : Int32)), .val (.int (0 : Int32)), .val (.int v41), .val .null, .val (.int v195), .val (.int v202), .val (.ref b56), .val (.int v297), .val (.int v309), .val (.int (2 : Int32)), .val (.int v334), .val (.long v355), .second, .val (.ref b62), .val (.int v384), .val (.int (1 : Int32)), .unset, .unset] [(.int (lcmpW ((((v202 - (1 : Int32)) - v384) - (1 : Int32)).toInt64) (v355 - (1 : Int64))))]))
                    have hc576 : ((((v202 - (1 : Int32)) - v384) - (1 : Int32)).toInt64) = (v355 - (1 : Int64)) := by
                      have z1 : (1 : Int32).toInt = 1 := rfl
                      have zL1 : (1 : Int64).toInt = 1 := rfl
                      have za : (1 : Int32).toInt = 1 := rfl
                      have x4 := c_lsub v355 1
                      have y4 := rng64 (v355 - 1)
                      have x1 := c_isub v202 1
                      have y1 := rng32 (v202 - 1)
                      have x2 := c_isub (v202 - 1) v384
                      have y2 := rng32 ((v202 - 1) - v384)
                      have x5 := c_isub ((v202 - 1) - v384) (1 : Int32)
                      have y5 := rng32 (((v202 - 1) - v384) - (1 : Int32))
                      have x3 := c_i2l (((v202 - 1) - v384) - (1 : Int32))
                      apply own_eqL_of
                      omega
                    refine GoW.st (fun t k => XS.ifNo X66.here hx rfl (hb hby at_576) rfl ((if0 _ _).trans (teq ((lw_eq ((((v202 - (1 : Int32)) - v384) - (1 : Int32)).toInt64) (v355 - (1 : Int64))).mpr hc576)).2) k) ?_
                    show GoW p e below QQ (T66.setTop (mkF m 579 #[.val (.int p1), .val (.int p2), .val (.int p3), .val (.int p4), .val (.long p5), .second, .val (.int v4), .val (.int (1 : Int32)), .val (.int (0 : Int32)), .val (.int v41), .val .null, .val (.int v195), .val (.int v202), .val (.ref b56), .val (.int v297), .val (.int v309), .val (.int (2 : Int32)), .val (.int v334), .val (.long v355), .second, .val (.ref b62), .val (.int v384), .val (.int (1 : Int32)), .unset, .unset] []))
                    have hi576 : (((((v202 - (1 : Int32)) - v384) - (1 : Int32)).toInt64)).toInt = ((v355 - (1 : Int64))).toInt := (congrArg Int64.toInt hc576)
                    refine GoW.st (fun t k => XS.iconst X66.here hx rfl (hb hby at_579) (XS.goto X66.here hx rfl (pc0 := 580) (pc' := 584) rfl (hb hby at_580) (by decide) (by decide) k)) ?_
                    show GoW p e below QQ (T66.setTop (mkF m 584 #[.val (.int p1), .val (.int p2), .val (.int p3), .val (.int p4), .val (.long p5), .second, .val (.int v4), .val (.int (1 : Int32)), .val (.int (0 : Int32)), .val (.int v41), .val .null, .val (.int v195), .val (.int v202), .val (.ref b56), .val (.int v297), .val (.int v309), .val (.int (2 : Int32)), .val (.int v334), .val (.long v355), .second, .val (.ref b62), .val (.int v384), .val (.int (1 : Int32)), .unset, .unset] [(.int (1 : Int32))]))
                    exact GoW.fin X66 (some (.int (nar .boolean (1 : Int32)))) (fun q => by rw [hret] at q; cases q) hlk hQ hh66 ⟨rfl, N66⟩ (by decide) (by decide) (fun fs hr => retN X66 hx (t := .boolean) hret (by simp) (hb hby at_584) hr)
                  · skip
                    refine GoW.st (fun t k => XS.icmpYes X66.here hx rfl (pc0 := 549) (pc' := 556) rfl (hb hby at_549) rfl (flt hc549).2.2.2 (by decide) (by decide) k) ?_
                    show GoW p e below QQ (T66.setTop (mkF m 556 #[.val (.int p1), .val (.int p2), .val (.int p3), .val (.int p4), .val (.long p5), .second, .val (.int v4), .val (.int (1 : Int32)), .val (.int (0 : Int32)), .val (.int v41), .val .null, .val (.int v195), .val (.int v202), .val (.ref b56), .val (.int v297), .val (.int v309), .val (.int (2 : Int32)), .val (.int v334), .val (.long v355), .second, .val (.ref b62), .val (.int v384), .unset, .unset, .unset] [(.int (0 : Int32))]))
                    have hi549 : ¬ (v384.toInt < v309.toInt) := (fun q => hc549 (Int32.lt_iff_toInt_lt.mpr q))
                    refine GoW.st (fun t k => XS.iconst X66.here hx rfl (hb hby at_556) (XS.iadd X66.here hx rfl (hb hby at_557) rfl (XS.istore X66.here hx rfl (hb hby at_558) rfl (l' := #[.val (.int p1), .val (.int p2), .val (.int p3), .val (.int p4), .val (.long p5), .second, .val (.int v4), .val (.int (1 : Int32)), .val (.int (0 : Int32)), .val (.int v41), .val .null, .val (.int v195), .val (.int v202), .val (.ref b56), .val (.int v297), .val (.int v309), .val (.int (2 : Int32)), .val (.int v334), .val (.long v355), .second, .val (.ref b62), .val (.int v384), .val (.int (0 : Int32)), .unset, .unset]) rfl (XS.iload X66.here hx rfl (hb hby at_560) rfl (XS.iconst X66.here hx rfl (hb hby at_562) (XS.isub X66.here hx rfl (hb hby at_563) rfl k)))))) ?_
                    show GoW p e below QQ (T66.setTop (mkF m 564 #[.val (.int p1), .val (.int p2), .val (.int p3), .val (.int p4), .val (.long p5), .second, .val (.int v4), .val (.int (1 : Int32)), .val (.int (0 : Int32)), .val (.int v41), .val .null, .val (.int v195), .val (.int v202), .val (.ref b56), .val (.int v297), .val (.int v309), .val (.int (2 : Int32)), .val (.int v334), .val (.long v355), .second, .val (.ref b62), .val (.int v384), .val (.int (0 : Int32)), .unset, .unset] [(.int (v202 - (1 : Int32)))]))
                    refine GoW.st (fun t k => XS.iload X66.here hx rfl (hb hby at_564) rfl (XS.isub X66.here hx rfl (hb hby at_566) rfl (XS.iload X66.here hx rfl (hb hby at_567) rfl (XS.isub X66.here hx rfl (hb hby at_569) rfl (XS.i2l X66.here hx rfl (hb hby at_570) rfl (XS.lload X66.here hx rfl (hb hby at_571) rfl k)))))) ?_
                    show GoW p e below QQ (T66.setTop (mkF m 573 #[.val (.int p1), .val (.int p2), .val (.int p3), .val (.int p4), .val (.long p5), .second, .val (.int v4), .val (.int (1 : Int32)), .val (.int (0 : Int32)), .val (.int v41), .val .null, .val (.int v195), .val (.int v202), .val (.ref b56), .val (.int v297), .val (.int v309), .val (.int (2 : Int32)), .val (.int v334), .val (.long v355), .second, .val (.ref b62), .val (.int v384), .val (.int (0 : Int32)), .unset, .unset] [(.long v355), (.long ((((v202 - (1 : Int32)) - v384) - (0 : Int32)).toInt64))]))
                    refine GoW.st (fun t k => XS.lconst X66.here hx rfl (hb hby at_573) (XS.lsub X66.here hx rfl (hb hby at_574) rfl (XS.lcmp X66.here hx rfl (hb hby at_575) rfl k))) ?_
                    show GoW p e below QQ (T66.setTop (mkF m 576 #[.val (.int p1), .val (.int p2), .val (.int p3), .val (.int p4), .val (.long p5), .second, .val (.int v4), .val (.int (1 : Int32)), .val (.int (0 : Int32)), .val (.int v41), .val .null, .val (.int v195), .val (.int v202), .val (.ref b56), .val (.int v297), .val (.int v309), .val (.int (2 : Int32)), .val (.int v334), .val (.long v355), .second, .val (.ref b62), .val (.int v384), .val (.int (0 : Int32)), .unset, .unset] [(.int (lcmpW ((((v202 - (1 : Int32)) - v384) - (0 : Int32)).toInt64) (v355 - (1 : Int64))))]))
                    have hc576 : ((((v202 - (1 : Int32)) - v384) - (0 : Int32)).toInt64) = (v355 - (1 : Int64)) := by
                      have z1 : (1 : Int32).toInt = 1 := rfl
                      have zL1 : (1 : Int64).toInt = 1 := rfl
                      have za : (0 : Int32).toInt = 0 := rfl
                      have x4 := c_lsub v355 1
                      have y4 := rng64 (v355 - 1)
                      have x1 := c_isub v202 1
                      have y1 := rng32 (v202 - 1)
                      have x2 := c_isub (v202 - 1) v384
                      have y2 := rng32 ((v202 - 1) - v384)
                      have x5 := c_isub ((v202 - 1) - v384) (0 : Int32)
                      have y5 := rng32 (((v202 - 1) - v384) - (0 : Int32))
                      have x3 := c_i2l (((v202 - 1) - v384) - (0 : Int32))
                      apply own_eqL_of
                      omega
                    refine GoW.st (fun t k => XS.ifNo X66.here hx rfl (hb hby at_576) rfl ((if0 _ _).trans (teq ((lw_eq ((((v202 - (1 : Int32)) - v384) - (0 : Int32)).toInt64) (v355 - (1 : Int64))).mpr hc576)).2) k) ?_
                    show GoW p e below QQ (T66.setTop (mkF m 579 #[.val (.int p1), .val (.int p2), .val (.int p3), .val (.int p4), .val (.long p5), .second, .val (.int v4), .val (.int (1 : Int32)), .val (.int (0 : Int32)), .val (.int v41), .val .null, .val (.int v195), .val (.int v202), .val (.ref b56), .val (.int v297), .val (.int v309), .val (.int (2 : Int32)), .val (.int v334), .val (.long v355), .second, .val (.ref b62), .val (.int v384), .val (.int (0 : Int32)), .unset, .unset] []))
                    have hi576 : (((((v202 - (1 : Int32)) - v384) - (0 : Int32)).toInt64)).toInt = ((v355 - (1 : Int64))).toInt := (congrArg Int64.toInt hc576)
                    refine GoW.st (fun t k => XS.iconst X66.here hx rfl (hb hby at_579) (XS.goto X66.here hx rfl (pc0 := 580) (pc' := 584) rfl (hb hby at_580) (by decide) (by decide) k)) ?_
                    show GoW p e below QQ (T66.setTop (mkF m 584 #[.val (.int p1), .val (.int p2), .val (.int p3), .val (.int p4), .val (.long p5), .second, .val (.int v4), .val (.int (1 : Int32)), .val (.int (0 : Int32)), .val (.int v41), .val .null, .val (.int v195), .val (.int v202), .val (.ref b56), .val (.int v297), .val (.int v309), .val (.int (2 : Int32)), .val (.int v334), .val (.long v355), .second, .val (.ref b62), .val (.int v384), .val (.int (0 : Int32)), .unset, .unset] [(.int (1 : Int32))]))
                    exact GoW.fin X66 (some (.int (nar .boolean (1 : Int32)))) (fun q => by rw [hret] at q; cases q) hlk hQ hh66 ⟨rfl, N66⟩ (by decide) (by decide) (fun fs hr => retN X66 hx (t := .boolean) hret (by simp) (hb hby at_584) hr)
              · skip
                refine GoW.st (fun t k => XS.ifNo X60.here hx rfl (hb hby at_338) rfl ((if0 _ _).trans (flt hc338).2.2.1) k) ?_
                show GoW p e below QQ (T60.setTop (mkF m 341 #[.val (.int p1), .val (.int p2), .val (.int p3), .val (.int p4), .val (.long p5), .second, .val (.int v4), .val (.int (1 : Int32)), .val (.int (0 : Int32)), .val (.int v41), .val .null, .val (.int v195), .val (.int v202), .val (.ref b56), .val (.int v297), .val (.int v309), .val (.int (2 : Int32)), .val (.int v334), .val (.int v249), .unset, .unset, .unset, .unset, .unset, .unset] []))
                have hi338 : ¬ (0 < v334.toInt) := (fun q => hc338 (Int32.lt_iff_toInt_lt.mpr q))
                refine GoW.st (fun t k => XS.iconst X60.here hx rfl (hb hby at_341) k) ?_
                show GoW p e below QQ (T60.setTop (mkF m 342 #[.val (.int p1), .val (.int p2), .val (.int p3), .val (.int p4), .val (.long p5), .second, .val (.int v4), .val (.int (1 : Int32)), .val (.int (0 : Int32)), .val (.int v41), .val .null, .val (.int v195), .val (.int v202), .val (.ref b56), .val (.int v297), .val (.int v309), .val (.int (2 : Int32)), .val (.int v334), .val (.int v249), .unset, .unset, .unset, .unset, .unset, .unset] [(.int (1 : Int32))]))
                exact GoW.fin X60 (some (.int (nar .boolean (1 : Int32)))) (fun q => by rw [hret] at q; cases q) hlk hQ e60 ⟨rfl, N60⟩ (by decide) (by decide) (fun fs hr => retN X60 hx (t := .boolean) hret (by simp) (hb hby at_342) hr)
    · skip
      refine GoW.st (fun t k => XS.ifNo X0.here hx rfl (hb hby at_26) rfl ((if0 _ _).trans (feq hc26).1) k) ?_
      show GoW p e below QQ (T0.setTop (mkF m 29 #[.val (.int p1), .val (.int p2), .val (.int p3), .val (.int p4), .val (.long p5), .second, .val (.int v4), .val (.int (1 : Int32)), .unset, .unset, .unset, .unset, .unset, .unset, .unset, .unset, .unset, .unset, .unset, .unset, .unset, .unset, .unset, .unset, .unset] []))
      have hi26 : ¬ ((((p2 >>> ((4 : Int32) &&& 31)) &&& (1 : Int32))).toInt = 0) := (fun q => hc26 (Int32.toInt_inj.mp q))
      refine GoW.st (fun t k => XS.iconst X0.here hx rfl (hb hby at_29) (XS.goto X0.here hx rfl (pc0 := 30) (pc' := 34) rfl (hb hby at_30) (by decide) (by decide) (XS.istore X0.here hx rfl (hb hby at_34) rfl (l' := #[.val (.int p1), .val (.int p2), .val (.int p3), .val (.int p4), .val (.long p5), .second, .val (.int v4), .val (.int (1 : Int32)), .val (.int (1 : Int32)), .unset, .unset, .unset, .unset, .unset, .unset, .unset, .unset, .unset, .unset, .unset, .unset, .unset, .unset, .unset, .unset]) rfl (XS.iloadN X0.here hx rfl (hb hby at_36) rfl (XS.iconst X0.here hx rfl (hb hby at_37) (XS.ishr X0.here hx rfl (hb hby at_38) rfl k)))))) ?_
      show GoW p e below QQ (T0.setTop (mkF m 39 #[.val (.int p1), .val (.int p2), .val (.int p3), .val (.int p4), .val (.long p5), .second, .val (.int v4), .val (.int (1 : Int32)), .val (.int (1 : Int32)), .unset, .unset, .unset, .unset, .unset, .unset, .unset, .unset, .unset, .unset, .unset, .unset, .unset, .unset, .unset, .unset] [(.int (p2 >>> ((5 : Int32) &&& 31)))]))
      refine GoW.st (fun t k => XS.iconst X0.here hx rfl (hb hby at_39) (XS.iand X0.here hx rfl (hb hby at_40) rfl (XS.istore X0.here hx rfl (hb hby at_41) rfl (l' := #[.val (.int p1), .val (.int p2), .val (.int p3), .val (.int p4), .val (.long p5), .second, .val (.int v4), .val (.int (1 : Int32)), .val (.int (1 : Int32)), .val (.int ((p2 >>> ((5 : Int32) &&& 31)) &&& (3 : Int32))), .unset, .unset, .unset, .unset, .unset, .unset, .unset, .unset, .unset, .unset, .unset, .unset, .unset, .unset, .unset]) rfl k))) ?_
      show GoW p e below QQ (T0.setTop (mkF m 43 #[.val (.int p1), .val (.int p2), .val (.int p3), .val (.int p4), .val (.long p5), .second, .val (.int v4), .val (.int (1 : Int32)), .val (.int (1 : Int32)), .val (.int ((p2 >>> ((5 : Int32) &&& 31)) &&& (3 : Int32))), .unset, .unset, .unset, .unset, .unset, .unset, .unset, .unset, .unset, .unset, .unset, .unset, .unset, .unset, .unset] []))
      generalize hv41 : ((p2 >>> ((5 : Int32) &&& 31)) &&& (3 : Int32)) = v41
      have z0 : (0 : Int32).toInt = 0 := rfl
      have z128 : (128 : Int32).toInt = 128 := rfl
      have zm1 : (-1 : Int32).toInt = -1 := rfl
      have z8 : (8 : Int32).toInt = 8 := rfl
      have z9 : (9 : Int32).toInt = 9 := rfl
      have z2147483631 : (2147483631 : Int32).toInt = 2147483631 := rfl
      have m4 := c_mask p2 7 3 (by decide) rfl
      rw [hv4] at m4
      refine GoW.st (fun t k => XS.iload X0.here hx rfl (hb hby at_43) rfl k) ?_
      show GoW p e below QQ (T0.setTop (mkF m 45 #[.val (.int p1), .val (.int p2), .val (.int p3), .val (.int p4), .val (.long p5), .second, .val (.int v4), .val (.int (1 : Int32)), .val (.int (1 : Int32)), .val (.int v41), .unset, .unset, .unset, .unset, .unset, .unset, .unset, .unset, .unset, .unset, .unset, .unset, .unset, .unset, .unset] [(.int v4)]))
      by_cases hc45 : v4 = (0 : Int32)
      · skip
        refine GoW.st (fun t k => XS.ifNo X0.here hx rfl (hb hby at_45) rfl ((if0 _ _).trans (teq hc45).2) k) ?_
        show GoW p e below QQ (T0.setTop (mkF m 48 #[.val (.int p1), .val (.int p2), .val (.int p3), .val (.int p4), .val (.long p5), .second, .val (.int v4), .val (.int (1 : Int32)), .val (.int (1 : Int32)), .val (.int v41), .unset, .unset, .unset, .unset, .unset, .unset, .unset, .unset, .unset, .unset, .unset, .unset, .unset, .unset, .unset] []))
        have hi45 : v4.toInt = 0 := (congrArg Int32.toInt hc45)
        refine GoW.st (fun t k => XS.iconst X0.here hx rfl (hb hby at_48) k) ?_
        show GoW p e below QQ (T0.setTop (mkF m 49 #[.val (.int p1), .val (.int p2), .val (.int p3), .val (.int p4), .val (.long p5), .second, .val (.int v4), .val (.int (1 : Int32)), .val (.int (1 : Int32)), .val (.int v41), .unset, .unset, .unset, .unset, .unset, .unset, .unset, .unset, .unset, .unset, .unset, .unset, .unset, .unset, .unset] [(.int (1 : Int32))]))
        exact GoW.fin X0 (some (.int (nar .boolean (1 : Int32)))) (fun q => by rw [hret] at q; cases q) hlk hQ e0 ⟨rfl, N0⟩ (by decide) (by decide) (fun fs hr => retN X0 hx (t := .boolean) hret (by simp) (hb hby at_49) hr)
      · skip
        refine GoW.st (fun t k => XS.ifYes X0.here hx rfl (pc0 := 45) (pc' := 50) rfl (hb hby at_45) rfl ((if0 _ _).trans (feq hc45).2) (by decide) (by decide) k) ?_
        show GoW p e below QQ (T0.setTop (mkF m 50 #[.val (.int p1), .val (.int p2), .val (.int p3), .val (.int p4), .val (.long p5), .second, .val (.int v4), .val (.int (1 : Int32)), .val (.int (1 : Int32)), .val (.int v41), .unset, .unset, .unset, .unset, .unset, .unset, .unset, .unset, .unset, .unset, .unset, .unset, .unset, .unset, .unset] []))
        have hi45 : ¬ (v4.toInt = 0) := (fun q => hc45 (Int32.toInt_inj.mp q))
        refine GoW.st (fun t k => XS.aconstNull X0.here hx rfl (hb hby at_50) (XS.astore X0.here hx rfl (hb hby at_51) rfl rfl (l' := #[.val (.int p1), .val (.int p2), .val (.int p3), .val (.int p4), .val (.long p5), .second, .val (.int v4), .val (.int (1 : Int32)), .val (.int (1 : Int32)), .val (.int v41), .val .null, .unset, .unset, .unset, .unset, .unset, .unset, .unset, .unset, .unset, .unset, .unset, .unset, .unset, .unset]) rfl (XS.iload X0.here hx rfl (hb hby at_53) rfl k))) ?_
        show GoW p e below QQ (T0.setTop (mkF m 55 #[.val (.int p1), .val (.int p2), .val (.int p3), .val (.int p4), .val (.long p5), .second, .val (.int v4), .val (.int (1 : Int32)), .val (.int (1 : Int32)), .val (.int v41), .val .null, .unset, .unset, .unset, .unset, .unset, .unset, .unset, .unset, .unset, .unset, .unset, .unset, .unset, .unset] [(.int (1 : Int32))]))
        have hc55 : ¬ ((1 : Int32) = (0 : Int32)) := by decide
        refine GoW.st (fun t k => XS.ifNo X0.here hx rfl (hb hby at_55) rfl ((if0 _ _).trans (feq hc55).1) (XS.bipush X0.here hx rfl (hb hby at_58) k)) ?_
        show GoW p e below QQ (T0.setTop (mkF m 60 #[.val (.int p1), .val (.int p2), .val (.int p3), .val (.int p4), .val (.long p5), .second, .val (.int v4), .val (.int (1 : Int32)), .val (.int (1 : Int32)), .val (.int v41), .val .null, .unset, .unset, .unset, .unset, .unset, .unset, .unset, .unset, .unset, .unset, .unset, .unset, .unset, .unset] [(.int (8 : Int32))]))
        obtain ⟨T67, h67, k67, X67, e67, E67, A67, st67⟩ := newP X0 hx hZ (hw _ (List.mem_of_getElem? (i := 38) rfl)) e0 (g := (mkF m 60 #[.val (.int p1), .val (.int p2), .val (.int p3), .val (.int p4), .val (.long p5), .second, .val (.int v4), .val (.int (1 : Int32)), .val (.int (1 : Int32)), .val (.int v41), .val .null, .unset, .unset, .unset, .unset, .unset, .unset, .unset, .unset, .unset, .unset, .unset, .unset, .unset, .unset] [(.int (8 : Int32))])) rfl (hb hby at_60) rfl (by decide) (cap := 8) (by decide) (by decide) (by decide) (by decide)
        obtain ⟨b67, g67⟩ : ∃ z, z = h0.size := ⟨_, rfl⟩
        rw [← g67] at A67 st67
        refine GoW.st st67 ?_
        have gg67 : n0 ≤ b67 := Nat.le_trans (Nat.le_trans Z0 K0.1) (Nat.le_of_eq g67.symm)
        have sz67 : h0.size ≤ b67 := Nat.le_trans K0.1 (Nat.le_of_eq g67.symm)
        have K67 : Keep h0 h67 [] := K0.ext E67
        have V67 : Arv Z h67 b67 k67 .int (8 : Int32) [(.int (0 : Int32)), (.int (0 : Int32)), (.int (0 : Int32)), (.int (0 : Int32)), (.int (0 : Int32)), (.int (0 : Int32)), (.int (0 : Int32)), (.int (0 : Int32))] (.int (0 : Int32)) := (Arv.new A67 (by decide)).pad (pad_rep [] (.int (0 : Int32)) 8)
        show GoW p e below QQ (T67.setTop (mkF m 62 #[.val (.int p1), .val (.int p2), .val (.int p3), .val (.int p4), .val (.long p5), .second, .val (.int v4), .val (.int (1 : Int32)), .val (.int (1 : Int32)), .val (.int v41), .val .null, .unset, .unset, .unset, .unset, .unset, .unset, .unset, .unset, .unset, .unset, .unset, .unset, .unset, .unset] [(.ref b67)]))
        refine GoW.st (fun t k => XS.astore X67.here hx rfl (hb hby at_62) rfl rfl (l' := #[.val (.int p1), .val (.int p2), .val (.int p3), .val (.int p4), .val (.long p5), .second, .val (.int v4), .val (.int (1 : Int32)), .val (.int (1 : Int32)), .val (.int v41), .val (.ref b67), .unset, .unset, .unset, .unset, .unset, .unset, .unset, .unset, .unset, .unset, .unset, .unset, .unset, .unset]) rfl (XS.aload X67.here hx rfl (hb hby at_64) rfl rfl (XS.iconst X67.here hx rfl (hb hby at_66) (XS.iloadN X67.here hx rfl (hb hby at_67) rfl (XS.bipush X67.here hx rfl (hb hby at_68) (XS.iand X67.here hx rfl (hb hby at_70) rfl k)))))) ?_
        show GoW p e below QQ (T67.setTop (mkF m 71 #[.val (.int p1), .val (.int p2), .val (.int p3), .val (.int p4), .val (.long p5), .second, .val (.int v4), .val (.int (1 : Int32)), .val (.int (1 : Int32)), .val (.int v41), .val (.ref b67), .unset, .unset, .unset, .unset, .unset, .unset, .unset, .unset, .unset, .unset, .unset, .unset, .unset, .unset] [(.int (p4 &&& (15 : Int32))), (.int (0 : Int32)), (.ref b67)]))
        obtain ⟨T69, h69, X69, e69, W69, V69, st69⟩ := stVI X67 hx hZ e67 V67 ⟨by decide, by decide⟩ 0 rfl (Nat.le_of_ble_eq_true rfl) (g := (mkF m 71 #[.val (.int p1), .val (.int p2), .val (.int p3), .val (.int p4), .val (.long p5), .second, .val (.int v4), .val (.int (1 : Int32)), .val (.int (1 : Int32)), .val (.int v41), .val (.ref b67), .unset, .unset, .unset, .unset, .unset, .unset, .unset, .unset, .unset, .unset, .unset, .unset, .unset, .unset] [(.int (p4 &&& (15 : Int32))), (.int (0 : Int32)), (.ref b67)])) rfl rfl (hb hby at_71)
        refine GoW.st st69 ?_
        have f70_V_b67 : Arv Z h69 b67 k67 .int (8 : Int32) [(.int (p4 &&& (15 : Int32))), (.int (0 : Int32)), (.int (0 : Int32)), (.int (0 : Int32)), (.int (0 : Int32)), (.int (0 : Int32)), (.int (0 : Int32)), (.int (0 : Int32))] (.int (0 : Int32)) := V69
        have K69 : Keep h0 h69 [] := K67.wr W69 (Or.inr sz67)
        have N69 := Fr.snoc X69 N0 gg67
        show GoW p e below QQ (T69.setTop (mkF m 72 #[.val (.int p1), .val (.int p2), .val (.int p3), .val (.int p4), .val (.long p5), .second, .val (.int v4), .val (.int (1 : Int32)), .val (.int (1 : Int32)), .val (.int v41), .val (.ref b67), .unset, .unset, .unset, .unset, .unset, .unset, .unset, .unset, .unset, .unset, .unset, .unset, .unset, .unset] []))
        refine GoW.st (fun t k => XS.aload X69.here hx rfl (hb hby at_72) rfl rfl (XS.iconst X69.here hx rfl (hb hby at_74) (XS.iloadN X69.here hx rfl (hb hby at_75) rfl (XS.iconst X69.here hx rfl (hb hby at_76) (XS.iushr X69.here hx rfl (hb hby at_77) rfl (XS.bipush X69.here hx rfl (hb hby at_78) k)))))) ?_
        show GoW p e below QQ (T69.setTop (mkF m 80 #[.val (.int p1), .val (.int p2), .val (.int p3), .val (.int p4), .val (.long p5), .second, .val (.int v4), .val (.int (1 : Int32)), .val (.int (1 : Int32)), .val (.int v41), .val (.ref b67), .unset, .unset, .unset, .unset, .unset, .unset, .unset, .unset, .unset, .unset, .unset, .unset, .unset, .unset] [(.int (15 : Int32)), (.int ((p4.toUInt32 >>> ((4 : Int32) &&& 31).toUInt32).toInt32)), (.int (1 : Int32)), (.ref b67)]))
        refine GoW.st (fun t k => XS.iand X69.here hx rfl (hb hby at_80) rfl (XS.bipush X69.here hx rfl (hb hby at_81) (XS.iadd X69.here hx rfl (hb hby at_83) rfl k))) ?_
        show GoW p e below QQ (T69.setTop (mkF m 84 #[.val (.int p1), .val (.int p2), .val (.int p3), .val (.int p4), .val (.long p5), .second, .val (.int v4), .val (.int (1 : Int32)), .val (.int (1 : Int32)), .val (.int v41), .val (.ref b67), .unset, .unset, .unset, .unset, .unset, .unset, .unset, .unset, .unset, .unset, .unset, .unset, .unset, .unset] [(.int ((((p4.toUInt32 >>> ((4 : Int32) &&& 31).toUInt32).toInt32) &&& (15 : Int32)) + (16 : Int32))), (.int (1 : Int32)), (.ref b67)]))
        obtain ⟨T71, h71, X71, e71, W71, V71, st71⟩ := stVI X69 hx hZ e69 f70_V_b67 ⟨by decide, by decide⟩ 1 rfl (Nat.le_of_ble_eq_true rfl) (g := (mkF m 84 #[.val (.int p1), .val (.int p2), .val (.int p3), .val (.int p4), .val (.long p5), .second, .val (.int v4), .val (.int (1 : Int32)), .val (.int (1 : Int32)), .val (.int v41), .val (.ref b67), .unset, .unset, .unset, .unset, .unset, .unset, .unset, .unset, .unset, .unset, .unset, .unset, .unset, .unset] [(.int ((((p4.toUInt32 >>> ((4 : Int32) &&& 31).toUInt32).toInt32) &&& (15 : Int32)) + (16 : Int32))), (.int (1 : Int32)), (.ref b67)])) rfl rfl (hb hby at_84)
        refine GoW.st st71 ?_
        have f72_V_b67 : Arv Z h71 b67 k67 .int (8 : Int32) [(.int (p4 &&& (15 : Int32))), (.int ((((p4.toUInt32 >>> ((4 : Int32) &&& 31).toUInt32).toInt32) &&& (15 : Int32)) + (16 : Int32))), (.int (0 : Int32)), (.int (0 : Int32)), (.int (0 : Int32)), (.int (0 : Int32)), (.int (0 : Int32)), (.int (0 : Int32))] (.int (0 : Int32)) := V71
        have K71 : Keep h0 h71 [] := K69.wr W71 (Or.inr sz67)
        have N71 := Fr.snoc X71 N69 gg67
        show GoW p e below QQ (T71.setTop (mkF m 85 #[.val (.int p1), .val (.int p2), .val (.int p3), .val (.int p4), .val (.long p5), .second, .val (.int v4), .val (.int (1 : Int32)), .val (.int (1 : Int32)), .val (.int v41), .val (.ref b67), .unset, .unset, .unset, .unset, .unset, .unset, .unset, .unset, .unset, .unset, .unset, .unset, .unset, .unset] []))
        refine GoW.st (fun t k => XS.aload X71.here hx rfl (hb hby at_85) rfl rfl (XS.iconst X71.here hx rfl (hb hby at_87) (XS.iloadN X71.here hx rfl (hb hby at_88) rfl (XS.bipush X71.here hx rfl (hb hby at_89) (XS.iushr X71.here hx rfl (hb hby at_91) rfl (XS.bipush X71.here hx rfl (hb hby at_92) k)))))) ?_
        show GoW p e below QQ (T71.setTop (mkF m 94 #[.val (.int p1), .val (.int p2), .val (.int p3), .val (.int p4), .val (.long p5), .second, .val (.int v4), .val (.int (1 : Int32)), .val (.int (1 : Int32)), .val (.int v41), .val (.ref b67), .unset, .unset, .unset, .unset, .unset, .unset, .unset, .unset, .unset, .unset, .unset, .unset, .unset, .unset] [(.int (15 : Int32)), (.int ((p4.toUInt32 >>> ((8 : Int32) &&& 31).toUInt32).toInt32)), (.int (2 : Int32)), (.ref b67)]))
        refine GoW.st (fun t k => XS.iand X71.here hx rfl (hb hby at_94) rfl (XS.bipush X71.here hx rfl (hb hby at_95) (XS.iadd X71.here hx rfl (hb hby at_97) rfl k))) ?_
        show GoW p e below QQ (T71.setTop (mkF m 98 #[.val (.int p1), .val (.int p2), .val (.int p3), .val (.int p4), .val (.long p5), .second, .val (.int v4), .val (.int (1 : Int32)), .val (.int (1 : Int32)), .val (.int v41), .val (.ref b67), .unset, .unset, .unset, .unset, .unset, .unset, .unset, .unset, .unset, .unset, .unset, .unset, .unset, .unset] [(.int ((((p4.toUInt32 >>> ((8 : Int32) &&& 31).toUInt32).toInt32) &&& (15 : Int32)) + (32 : Int32))), (.int (2 : Int32)), (.ref b67)]))
        obtain ⟨T73, h73, X73, e73, W73, V73, st73⟩ := stVI X71 hx hZ e71 f72_V_b67 ⟨by decide, by decide⟩ 2 rfl (Nat.le_of_ble_eq_true rfl) (g := (mkF m 98 #[.val (.int p1), .val (.int p2), .val (.int p3), .val (.int p4), .val (.long p5), .second, .val (.int v4), .val (.int (1 : Int32)), .val (.int (1 : Int32)), .val (.int v41), .val (.ref b67), .unset, .unset, .unset, .unset, .unset, .unset, .unset, .unset, .unset, .unset, .unset, .unset, .unset, .unset] [(.int ((((p4.toUInt32 >>> ((8 : Int32) &&& 31).toUInt32).toInt32) &&& (15 : Int32)) + (32 : Int32))), (.int (2 : Int32)), (.ref b67)])) rfl rfl (hb hby at_98)
        refine GoW.st st73 ?_
        have f74_V_b67 : Arv Z h73 b67 k67 .int (8 : Int32) [(.int (p4 &&& (15 : Int32))), (.int ((((p4.toUInt32 >>> ((4 : Int32) &&& 31).toUInt32).toInt32) &&& (15 : Int32)) + (16 : Int32))), (.int ((((p4.toUInt32 >>> ((8 : Int32) &&& 31).toUInt32).toInt32) &&& (15 : Int32)) + (32 : Int32))), (.int (0 : Int32)), (.int (0 : Int32)), (.int (0 : Int32)), (.int (0 : Int32)), (.int (0 : Int32))] (.int (0 : Int32)) := V73
        have K73 : Keep h0 h73 [] := K71.wr W73 (Or.inr sz67)
        have N73 := Fr.snoc X73 N71 gg67
        show GoW p e below QQ (T73.setTop (mkF m 99 #[.val (.int p1), .val (.int p2), .val (.int p3), .val (.int p4), .val (.long p5), .second, .val (.int v4), .val (.int (1 : Int32)), .val (.int (1 : Int32)), .val (.int v41), .val (.ref b67), .unset, .unset, .unset, .unset, .unset, .unset, .unset, .unset, .unset, .unset, .unset, .unset, .unset, .unset] []))
        refine GoW.st (fun t k => XS.aload X73.here hx rfl (hb hby at_99) rfl rfl (XS.iconst X73.here hx rfl (hb hby at_101) (XS.iloadN X73.here hx rfl (hb hby at_102) rfl (XS.bipush X73.here hx rfl (hb hby at_103) (XS.iushr X73.here hx rfl (hb hby at_105) rfl (XS.bipush X73.here hx rfl (hb hby at_106) k)))))) ?_
        show GoW p e below QQ (T73.setTop (mkF m 108 #[.val (.int p1), .val (.int p2), .val (.int p3), .val (.int p4), .val (.long p5), .second, .val (.int v4), .val (.int (1 : Int32)), .val (.int (1 : Int32)), .val (.int v41), .val (.ref b67), .unset, .unset, .unset, .unset, .unset, .unset, .unset, .unset, .unset, .unset, .unset, .unset, .unset, .unset] [(.int (15 : Int32)), (.int ((p4.toUInt32 >>> ((12 : Int32) &&& 31).toUInt32).toInt32)), (.int (3 : Int32)), (.ref b67)]))
        refine GoW.st (fun t k => XS.iand X73.here hx rfl (hb hby at_108) rfl (XS.bipush X73.here hx rfl (hb hby at_109) (XS.iadd X73.here hx rfl (hb hby at_111) rfl k))) ?_
        show GoW p e below QQ (T73.setTop (mkF m 112 #[.val (.int p1), .val (.int p2), .val (.int p3), .val (.int p4), .val (.long p5), .second, .val (.int v4), .val (.int (1 : Int32)), .val (.int (1 : Int32)), .val (.int v41), .val (.ref b67), .unset, .unset, .unset, .unset, .unset, .unset, .unset, .unset, .unset, .unset, .unset, .unset, .unset, .unset] [(.int ((((p4.toUInt32 >>> ((12 : Int32) &&& 31).toUInt32).toInt32) &&& (15 : Int32)) + (48 : Int32))), (.int (3 : Int32)), (.ref b67)]))
        obtain ⟨T75, h75, X75, e75, W75, V75, st75⟩ := stVI X73 hx hZ e73 f74_V_b67 ⟨by decide, by decide⟩ 3 rfl (Nat.le_of_ble_eq_true rfl) (g := (mkF m 112 #[.val (.int p1), .val (.int p2), .val (.int p3), .val (.int p4), .val (.long p5), .second, .val (.int v4), .val (.int (1 : Int32)), .val (.int (1 : Int32)), .val (.int v41), .val (.ref b67), .unset, .unset, .unset, .unset, .unset, .unset, .unset, .unset, .unset, .unset, .unset, .unset, .unset, .unset] [(.int ((((p4.toUInt32 >>> ((12 : Int32) &&& 31).toUInt32).toInt32) &&& (15 : Int32)) + (48 : Int32))), (.int (3 : Int32)), (.ref b67)])) rfl rfl (hb hby at_112)
        refine GoW.st st75 ?_
        have f76_V_b67 : Arv Z h75 b67 k67 .int (8 : Int32) [(.int (p4 &&& (15 : Int32))), (.int ((((p4.toUInt32 >>> ((4 : Int32) &&& 31).toUInt32).toInt32) &&& (15 : Int32)) + (16 : Int32))), (.int ((((p4.toUInt32 >>> ((8 : Int32) &&& 31).toUInt32).toInt32) &&& (15 : Int32)) + (32 : Int32))), (.int ((((p4.toUInt32 >>> ((12 : Int32) &&& 31).toUInt32).toInt32) &&& (15 : Int32)) + (48 : Int32))), (.int (0 : Int32)), (.int (0 : Int32)), (.int (0 : Int32)), (.int (0 : Int32))] (.int (0 : Int32)) := V75
        have K75 : Keep h0 h75 [] := K73.wr W75 (Or.inr sz67)
        have N75 := Fr.snoc X75 N73 gg67
        show GoW p e below QQ (T75.setTop (mkF m 113 #[.val (.int p1), .val (.int p2), .val (.int p3), .val (.int p4), .val (.long p5), .second, .val (.int v4), .val (.int (1 : Int32)), .val (.int (1 : Int32)), .val (.int v41), .val (.ref b67), .unset, .unset, .unset, .unset, .unset, .unset, .unset, .unset, .unset, .unset, .unset, .unset, .unset, .unset] []))
        refine GoW.st (fun t k => XS.aload X75.here hx rfl (hb hby at_113) rfl rfl (XS.iconst X75.here hx rfl (hb hby at_115) (XS.iloadN X75.here hx rfl (hb hby at_116) rfl (XS.bipush X75.here hx rfl (hb hby at_117) (XS.iushr X75.here hx rfl (hb hby at_119) rfl (XS.bipush X75.here hx rfl (hb hby at_120) k)))))) ?_
        show GoW p e below QQ (T75.setTop (mkF m 122 #[.val (.int p1), .val (.int p2), .val (.int p3), .val (.int p4), .val (.long p5), .second, .val (.int v4), .val (.int (1 : Int32)), .val (.int (1 : Int32)), .val (.int v41), .val (.ref b67), .unset, .unset, .unset, .unset, .unset, .unset, .unset, .unset, .unset, .unset, .unset, .unset, .unset, .unset] [(.int (15 : Int32)), (.int ((p4.toUInt32 >>> ((16 : Int32) &&& 31).toUInt32).toInt32)), (.int (4 : Int32)), (.ref b67)]))
        refine GoW.st (fun t k => XS.iand X75.here hx rfl (hb hby at_122) rfl (XS.bipush X75.here hx rfl (hb hby at_123) (XS.iadd X75.here hx rfl (hb hby at_125) rfl k))) ?_
        show GoW p e below QQ (T75.setTop (mkF m 126 #[.val (.int p1), .val (.int p2), .val (.int p3), .val (.int p4), .val (.long p5), .second, .val (.int v4), .val (.int (1 : Int32)), .val (.int (1 : Int32)), .val (.int v41), .val (.ref b67), .unset, .unset, .unset, .unset, .unset, .unset, .unset, .unset, .unset, .unset, .unset, .unset, .unset, .unset] [(.int ((((p4.toUInt32 >>> ((16 : Int32) &&& 31).toUInt32).toInt32) &&& (15 : Int32)) + (64 : Int32))), (.int (4 : Int32)), (.ref b67)]))
        obtain ⟨T77, h77, X77, e77, W77, V77, st77⟩ := stVI X75 hx hZ e75 f76_V_b67 ⟨by decide, by decide⟩ 4 rfl (Nat.le_of_ble_eq_true rfl) (g := (mkF m 126 #[.val (.int p1), .val (.int p2), .val (.int p3), .val (.int p4), .val (.long p5), .second, .val (.int v4), .val (.int (1 : Int32)), .val (.int (1 : Int32)), .val (.int v41), .val (.ref b67), .unset, .unset, .unset, .unset, .unset, .unset, .unset, .unset, .unset, .unset, .unset, .unset, .unset, .unset] [(.int ((((p4.toUInt32 >>> ((16 : Int32) &&& 31).toUInt32).toInt32) &&& (15 : Int32)) + (64 : Int32))), (.int (4 : Int32)), (.ref b67)])) rfl rfl (hb hby at_126)
        refine GoW.st st77 ?_
        have f78_V_b67 : Arv Z h77 b67 k67 .int (8 : Int32) [(.int (p4 &&& (15 : Int32))), (.int ((((p4.toUInt32 >>> ((4 : Int32) &&& 31).toUInt32).toInt32) &&& (15 : Int32)) + (16 : Int32))), (.int ((((p4.toUInt32 >>> ((8 : Int32) &&& 31).toUInt32).toInt32) &&& (15 : Int32)) + (32 : Int32))), (.int ((((p4.toUInt32 >>> ((12 : Int32) &&& 31).toUInt32).toInt32) &&& (15 : Int32)) + (48 : Int32))), (.int ((((p4.toUInt32 >>> ((16 : Int32) &&& 31).toUInt32).toInt32) &&& (15 : Int32)) + (64 : Int32))), (.int (0 : Int32)), (.int (0 : Int32)), (.int (0 : Int32))] (.int (0 : Int32)) := V77
        have K77 : Keep h0 h77 [] := K75.wr W77 (Or.inr sz67)
        have N77 := Fr.snoc X77 N75 gg67
        show GoW p e below QQ (T77.setTop (mkF m 127 #[.val (.int p1), .val (.int p2), .val (.int p3), .val (.int p4), .val (.long p5), .second, .val (.int v4), .val (.int (1 : Int32)), .val (.int (1 : Int32)), .val (.int v41), .val (.ref b67), .unset, .unset, .unset, .unset, .unset, .unset, .unset, .unset, .unset, .unset, .unset, .unset, .unset, .unset] []))
        refine GoW.st (fun t k => XS.aload X77.here hx rfl (hb hby at_127) rfl rfl (XS.iconst X77.here hx rfl (hb hby at_129) (XS.iloadN X77.here hx rfl (hb hby at_130) rfl (XS.bipush X77.here hx rfl (hb hby at_131) (XS.iushr X77.here hx rfl (hb hby at_133) rfl (XS.bipush X77.here hx rfl (hb hby at_134) k)))))) ?_
        show GoW p e below QQ (T77.setTop (mkF m 136 #[.val (.int p1), .val (.int p2), .val (.int p3), .val (.int p4), .val (.long p5), .second, .val (.int v4), .val (.int (1 : Int32)), .val (.int (1 : Int32)), .val (.int v41), .val (.ref b67), .unset, .unset, .unset, .unset, .unset, .unset, .unset, .unset, .unset, .unset, .unset, .unset, .unset, .unset] [(.int (15 : Int32)), (.int ((p4.toUInt32 >>> ((20 : Int32) &&& 31).toUInt32).toInt32)), (.int (5 : Int32)), (.ref b67)]))
        refine GoW.st (fun t k => XS.iand X77.here hx rfl (hb hby at_136) rfl (XS.bipush X77.here hx rfl (hb hby at_137) (XS.iadd X77.here hx rfl (hb hby at_139) rfl k))) ?_
        show GoW p e below QQ (T77.setTop (mkF m 140 #[.val (.int p1), .val (.int p2), .val (.int p3), .val (.int p4), .val (.long p5), .second, .val (.int v4), .val (.int (1 : Int32)), .val (.int (1 : Int32)), .val (.int v41), .val (.ref b67), .unset, .unset, .unset, .unset, .unset, .unset, .unset, .unset, .unset, .unset, .unset, .unset, .unset, .unset] [(.int ((((p4.toUInt32 >>> ((20 : Int32) &&& 31).toUInt32).toInt32) &&& (15 : Int32)) + (80 : Int32))), (.int (5 : Int32)), (.ref b67)]))
        obtain ⟨T79, h79, X79, e79, W79, V79, st79⟩ := stVI X77 hx hZ e77 f78_V_b67 ⟨by decide, by decide⟩ 5 rfl (Nat.le_of_ble_eq_true rfl) (g := (mkF m 140 #[.val (.int p1), .val (.int p2), .val (.int p3), .val (.int p4), .val (.long p5), .second, .val (.int v4), .val (.int (1 : Int32)), .val (.int (1 : Int32)), .val (.int v41), .val (.ref b67), .unset, .unset, .unset, .unset, .unset, .unset, .unset, .unset, .unset, .unset, .unset, .unset, .unset, .unset] [(.int ((((p4.toUInt32 >>> ((20 : Int32) &&& 31).toUInt32).toInt32) &&& (15 : Int32)) + (80 : Int32))), (.int (5 : Int32)), (.ref b67)])) rfl rfl (hb hby at_140)
        refine GoW.st st79 ?_
        have f80_V_b67 : Arv Z h79 b67 k67 .int (8 : Int32) [(.int (p4 &&& (15 : Int32))), (.int ((((p4.toUInt32 >>> ((4 : Int32) &&& 31).toUInt32).toInt32) &&& (15 : Int32)) + (16 : Int32))), (.int ((((p4.toUInt32 >>> ((8 : Int32) &&& 31).toUInt32).toInt32) &&& (15 : Int32)) + (32 : Int32))), (.int ((((p4.toUInt32 >>> ((12 : Int32) &&& 31).toUInt32).toInt32) &&& (15 : Int32)) + (48 : Int32))), (.int ((((p4.toUInt32 >>> ((16 : Int32) &&& 31).toUInt32).toInt32) &&& (15 : Int32)) + (64 : Int32))), (.int ((((p4.toUInt32 >>> ((20 : Int32) &&& 31).toUInt32).toInt32) &&& (15 : Int32)) + (80 : Int32))), (.int (0 : Int32)), (.int (0 : Int32))] (.int (0 : Int32)) := V79
        have K79 : Keep h0 h79 [] := K77.wr W79 (Or.inr sz67)
        have N79 := Fr.snoc X79 N77 gg67
        show GoW p e below QQ (T79.setTop (mkF m 141 #[.val (.int p1), .val (.int p2), .val (.int p3), .val (.int p4), .val (.long p5), .second, .val (.int v4), .val (.int (1 : Int32)), .val (.int (1 : Int32)), .val (.int v41), .val (.ref b67), .unset, .unset, .unset, .unset, .unset, .unset, .unset, .unset, .unset, .unset, .unset, .unset, .unset, .unset] []))
        refine GoW.st (fun t k => XS.aload X79.here hx rfl (hb hby at_141) rfl rfl (XS.bipush X79.here hx rfl (hb hby at_143) (XS.iloadN X79.here hx rfl (hb hby at_145) rfl (XS.bipush X79.here hx rfl (hb hby at_146) (XS.iushr X79.here hx rfl (hb hby at_148) rfl (XS.bipush X79.here hx rfl (hb hby at_149) k)))))) ?_
        show GoW p e below QQ (T79.setTop (mkF m 151 #[.val (.int p1), .val (.int p2), .val (.int p3), .val (.int p4), .val (.long p5), .second, .val (.int v4), .val (.int (1 : Int32)), .val (.int (1 : Int32)), .val (.int v41), .val (.ref b67), .unset, .unset, .unset, .unset, .unset, .unset, .unset, .unset, .unset, .unset, .unset, .unset, .unset, .unset] [(.int (15 : Int32)), (.int ((p4.toUInt32 >>> ((24 : Int32) &&& 31).toUInt32).toInt32)), (.int (6 : Int32)), (.ref b67)]))
        refine GoW.st (fun t k => XS.iand X79.here hx rfl (hb hby at_151) rfl (XS.bipush X79.here hx rfl (hb hby at_152) (XS.iadd X79.here hx rfl (hb hby at_154) rfl k))) ?_
        show GoW p e below QQ (T79.setTop (mkF m 155 #[.val (.int p1), .val (.int p2), .val (.int p3), .val (.int p4), .val (.long p5), .second, .val (.int v4), .val (.int (1 : Int32)), .val (.int (1 : Int32)), .val (.int v41), .val (.ref b67), .unset, .unset, .unset, .unset, .unset, .unset, .unset, .unset, .unset, .unset, .unset, .unset, .unset, .unset] [(.int ((((p4.toUInt32 >>> ((24 : Int32) &&& 31).toUInt32).toInt32) &&& (15 : Int32)) + (96 : Int32))), (.int (6 : Int32)), (.ref b67)]))
        obtain ⟨T81, h81, X81, e81, W81, V81, st81⟩ := stVI X79 hx hZ e79 f80_V_b67 ⟨by decide, by decide⟩ 6 rfl (Nat.le_of_ble_eq_true rfl) (g := (mkF m 155 #[.val (.int p1), .val (.int p2), .val (.int p3), .val (.int p4), .val (.long p5), .second, .val (.int v4), .val (.int (1 : Int32)), .val (.int (1 : Int32)), .val (.int v41), .val (.ref b67), .unset, .unset, .unset, .unset, .unset, .unset, .unset, .unset, .unset, .unset, .unset, .unset, .unset, .unset] [(.int ((((p4.toUInt32 >>> ((24 : Int32) &&& 31).toUInt32).toInt32) &&& (15 : Int32)) + (96 : Int32))), (.int (6 : Int32)), (.ref b67)])) rfl rfl (hb hby at_155)
        refine GoW.st st81 ?_
        have f82_V_b67 : Arv Z h81 b67 k67 .int (8 : Int32) [(.int (p4 &&& (15 : Int32))), (.int ((((p4.toUInt32 >>> ((4 : Int32) &&& 31).toUInt32).toInt32) &&& (15 : Int32)) + (16 : Int32))), (.int ((((p4.toUInt32 >>> ((8 : Int32) &&& 31).toUInt32).toInt32) &&& (15 : Int32)) + (32 : Int32))), (.int ((((p4.toUInt32 >>> ((12 : Int32) &&& 31).toUInt32).toInt32) &&& (15 : Int32)) + (48 : Int32))), (.int ((((p4.toUInt32 >>> ((16 : Int32) &&& 31).toUInt32).toInt32) &&& (15 : Int32)) + (64 : Int32))), (.int ((((p4.toUInt32 >>> ((20 : Int32) &&& 31).toUInt32).toInt32) &&& (15 : Int32)) + (80 : Int32))), (.int ((((p4.toUInt32 >>> ((24 : Int32) &&& 31).toUInt32).toInt32) &&& (15 : Int32)) + (96 : Int32))), (.int (0 : Int32))] (.int (0 : Int32)) := V81
        have K81 : Keep h0 h81 [] := K79.wr W81 (Or.inr sz67)
        have N81 := Fr.snoc X81 N79 gg67
        show GoW p e below QQ (T81.setTop (mkF m 156 #[.val (.int p1), .val (.int p2), .val (.int p3), .val (.int p4), .val (.long p5), .second, .val (.int v4), .val (.int (1 : Int32)), .val (.int (1 : Int32)), .val (.int v41), .val (.ref b67), .unset, .unset, .unset, .unset, .unset, .unset, .unset, .unset, .unset, .unset, .unset, .unset, .unset, .unset] []))
        refine GoW.st (fun t k => XS.aload X81.here hx rfl (hb hby at_156) rfl rfl (XS.bipush X81.here hx rfl (hb hby at_158) (XS.iloadN X81.here hx rfl (hb hby at_160) rfl (XS.bipush X81.here hx rfl (hb hby at_161) (XS.iushr X81.here hx rfl (hb hby at_163) rfl (XS.bipush X81.here hx rfl (hb hby at_164) k)))))) ?_
        show GoW p e below QQ (T81.setTop (mkF m 166 #[.val (.int p1), .val (.int p2), .val (.int p3), .val (.int p4), .val (.long p5), .second, .val (.int v4), .val (.int (1 : Int32)), .val (.int (1 : Int32)), .val (.int v41), .val (.ref b67), .unset, .unset, .unset, .unset, .unset, .unset, .unset, .unset, .unset, .unset, .unset, .unset, .unset, .unset] [(.int (15 : Int32)), (.int ((p4.toUInt32 >>> ((28 : Int32) &&& 31).toUInt32).toInt32)), (.int (7 : Int32)), (.ref b67)]))
        refine GoW.st (fun t k => XS.iand X81.here hx rfl (hb hby at_166) rfl (XS.bipush X81.here hx rfl (hb hby at_167) (XS.iadd X81.here hx rfl (hb hby at_169) rfl k))) ?_
        show GoW p e below QQ (T81.setTop (mkF m 170 #[.val (.int p1), .val (.int p2), .val (.int p3), .val (.int p4), .val (.long p5), .second, .val (.int v4), .val (.int (1 : Int32)), .val (.int (1 : Int32)), .val (.int v41), .val (.ref b67), .unset, .unset, .unset, .unset, .unset, .unset, .unset, .unset, .unset, .unset, .unset, .unset, .unset, .unset] [(.int ((((p4.toUInt32 >>> ((28 : Int32) &&& 31).toUInt32).toInt32) &&& (15 : Int32)) + (112 : Int32))), (.int (7 : Int32)), (.ref b67)]))
        obtain ⟨T83, h83, X83, e83, W83, V83, st83⟩ := stVI X81 hx hZ e81 f82_V_b67 ⟨by decide, by decide⟩ 7 rfl (Nat.le_of_ble_eq_true rfl) (g := (mkF m 170 #[.val (.int p1), .val (.int p2), .val (.int p3), .val (.int p4), .val (.long p5), .second, .val (.int v4), .val (.int (1 : Int32)), .val (.int (1 : Int32)), .val (.int v41), .val (.ref b67), .unset, .unset, .unset, .unset, .unset, .unset, .unset, .unset, .unset, .unset, .unset, .unset, .unset, .unset] [(.int ((((p4.toUInt32 >>> ((28 : Int32) &&& 31).toUInt32).toInt32) &&& (15 : Int32)) + (112 : Int32))), (.int (7 : Int32)), (.ref b67)])) rfl rfl (hb hby at_170)
        refine GoW.st st83 ?_
        have f84_V_b67 : Arv Z h83 b67 k67 .int (8 : Int32) [(.int (p4 &&& (15 : Int32))), (.int ((((p4.toUInt32 >>> ((4 : Int32) &&& 31).toUInt32).toInt32) &&& (15 : Int32)) + (16 : Int32))), (.int ((((p4.toUInt32 >>> ((8 : Int32) &&& 31).toUInt32).toInt32) &&& (15 : Int32)) + (32 : Int32))), (.int ((((p4.toUInt32 >>> ((12 : Int32) &&& 31).toUInt32).toInt32) &&& (15 : Int32)) + (48 : Int32))), (.int ((((p4.toUInt32 >>> ((16 : Int32) &&& 31).toUInt32).toInt32) &&& (15 : Int32)) + (64 : Int32))), (.int ((((p4.toUInt32 >>> ((20 : Int32) &&& 31).toUInt32).toInt32) &&& (15 : Int32)) + (80 : Int32))), (.int ((((p4.toUInt32 >>> ((24 : Int32) &&& 31).toUInt32).toInt32) &&& (15 : Int32)) + (96 : Int32))), (.int ((((p4.toUInt32 >>> ((28 : Int32) &&& 31).toUInt32).toInt32) &&& (15 : Int32)) + (112 : Int32)))] (.int (0 : Int32)) := V83
        have K83 : Keep h0 h83 [] := K81.wr W83 (Or.inr sz67)
        have N83 := Fr.snoc X83 N81 gg67
        show GoW p e below QQ (T83.setTop (mkF m 171 #[.val (.int p1), .val (.int p2), .val (.int p3), .val (.int p4), .val (.long p5), .second, .val (.int v4), .val (.int (1 : Int32)), .val (.int (1 : Int32)), .val (.int v41), .val (.ref b67), .unset, .unset, .unset, .unset, .unset, .unset, .unset, .unset, .unset, .unset, .unset, .unset, .unset, .unset] []))
        refine GoW.st (fun t k => XS.iloadN X83.here hx rfl (hb hby at_171) rfl (X83.ldcInt hx hown (mvT hZ (hw _ (List.mem_of_getElem? (i := 0) rfl))) (g := (mkF m 172 #[.val (.int p1), .val (.int p2), .val (.int p3), .val (.int p4), .val (.long p5), .second, .val (.int v4), .val (.int (1 : Int32)), .val (.int (1 : Int32)), .val (.int v41), .val (.ref b67), .unset, .unset, .unset, .unset, .unset, .unset, .unset, .unset, .unset, .unset, .unset, .unset, .unset, .unset] [(.int p1)])) rfl (hb hby at_172) t (XS.iand X83.here hx rfl (hb hby at_174) rfl (XS.bipush X83.here hx rfl (hb hby at_175) k)))) ?_
        show GoW p e below QQ (T83.setTop (mkF m 177 #[.val (.int p1), .val (.int p2), .val (.int p3), .val (.int p4), .val (.long p5), .second, .val (.int v4), .val (.int (1 : Int32)), .val (.int (1 : Int32)), .val (.int v41), .val (.ref b67), .unset, .unset, .unset, .unset, .unset, .unset, .unset, .unset, .unset, .unset, .unset, .unset, .unset, .unset] [(.int (9 : Int32)), (.int (p1 &&& (2147483647 : Int32)))]))
        have d9 := c_isub 9 v4
        have r9 := rng32 ((9 : Int32) - v4)
        have n9 : ((9 : Int32) - v4).toInt = 9 - v4.toInt := by omega
        have nz9 : ((9 : Int32) - v4) ≠ 0 := own_ne_of (by rw [n9]; omega)
        refine GoW.st (fun t k => XS.iload X83.here hx rfl (hb hby at_177) rfl (XS.isub X83.here hx rfl (hb hby at_179) rfl (iremM X83 hx rfl (hb hby at_180) rfl nz9 (XS.istore X83.here hx rfl (hb hby at_181) rfl (l' := #[.val (.int p1), .val (.int p2), .val (.int p3), .val (.int p4), .val (.long p5), .second, .val (.int v4), .val (.int (1 : Int32)), .val (.int (1 : Int32)), .val (.int v41), .val (.ref b67), .val (.int ((p1 &&& (2147483647 : Int32)) % ((9 : Int32) - v4))), .unset, .unset, .unset, .unset, .unset, .unset, .unset, .unset, .unset, .unset, .unset, .unset, .unset]) rfl k)))) ?_
        show GoW p e below QQ (T83.setTop (mkF m 183 #[.val (.int p1), .val (.int p2), .val (.int p3), .val (.int p4), .val (.long p5), .second, .val (.int v4), .val (.int (1 : Int32)), .val (.int (1 : Int32)), .val (.int v41), .val (.ref b67), .val (.int ((p1 &&& (2147483647 : Int32)) % ((9 : Int32) - v4))), .unset, .unset, .unset, .unset, .unset, .unset, .unset, .unset, .unset, .unset, .unset, .unset, .unset] []))
        generalize hv181 : ((p1 &&& (2147483647 : Int32)) % ((9 : Int32) - v4)) = v181
        refine GoW.st (fun t k => XS.goto X83.here hx rfl (pc0 := 183) (pc' := 197) rfl (hb hby at_183) (by decide) (by decide) k) ?_
        show GoW p e below QQ (T83.setTop (mkF m 197 #[.val (.int p1), .val (.int p2), .val (.int p3), .val (.int p4), .val (.long p5), .second, .val (.int v4), .val (.int (1 : Int32)), .val (.int (1 : Int32)), .val (.int v41), .val (.ref b67), .val (.int v181), .unset, .unset, .unset, .unset, .unset, .unset, .unset, .unset, .unset, .unset, .unset, .unset, .unset] []))
        have nbA := c_and p1 2147483647 (by decide)
        have frA := (c_iremV (p1 &&& (2147483647 : Int32)) ((9 : Int32) - v4)).1 nbA.1 (by omega)
        rw [hv181] at frA
        have fr0 : 0 ≤ v181.toInt ∧ v181.toInt + v4.toInt ≤ 8 := by omega
        refine GoW.st (fun t k => XS.iload X83.here hx rfl (hb hby at_197) rfl (XS.iload X83.here hx rfl (hb hby at_199) rfl (XS.iadd X83.here hx rfl (hb hby at_201) rfl (XS.istore X83.here hx rfl (hb hby at_202) rfl (l' := #[.val (.int p1), .val (.int p2), .val (.int p3), .val (.int p4), .val (.long p5), .second, .val (.int v4), .val (.int (1 : Int32)), .val (.int (1 : Int32)), .val (.int v41), .val (.ref b67), .val (.int v181), .val (.int (v181 + v4)), .unset, .unset, .unset, .unset, .unset, .unset, .unset, .unset, .unset, .unset, .unset, .unset]) rfl k)))) ?_
        show GoW p e below QQ (T83.setTop (mkF m 204 #[.val (.int p1), .val (.int p2), .val (.int p3), .val (.int p4), .val (.long p5), .second, .val (.int v4), .val (.int (1 : Int32)), .val (.int (1 : Int32)), .val (.int v41), .val (.ref b67), .val (.int v181), .val (.int (v181 + v4)), .unset, .unset, .unset, .unset, .unset, .unset, .unset, .unset, .unset, .unset, .unset, .unset] []))
        generalize hv202 : (v181 + v4) = v202
        have toA := c_iadd v181 v4
        have toR := rng32 (v181 + v4)
        rw [hv202] at toA toR
        have to0 : v202.toInt = v181.toInt + v4.toInt := by omega
        refine GoW.st (fun t k => XS.aconstNull X83.here hx rfl (hb hby at_204) (XS.astore X83.here hx rfl (hb hby at_205) rfl rfl (l' := #[.val (.int p1), .val (.int p2), .val (.int p3), .val (.int p4), .val (.long p5), .second, .val (.int v4), .val (.int (1 : Int32)), .val (.int (1 : Int32)), .val (.int v41), .val (.ref b67), .val (.int v181), .val (.int v202), .val .null, .unset, .unset, .unset, .unset, .unset, .unset, .unset, .unset, .unset, .unset, .unset]) rfl (XS.iconst X83.here hx rfl (hb hby at_207) (XS.istore X83.here hx rfl (hb hby at_208) rfl (l' := #[.val (.int p1), .val (.int p2), .val (.int p3), .val (.int p4), .val (.long p5), .second, .val (.int v4), .val (.int (1 : Int32)), .val (.int (1 : Int32)), .val (.int v41), .val (.ref b67), .val (.int v181), .val (.int v202), .val .null, .val (.int (-1 : Int32)), .unset, .unset, .unset, .unset, .unset, .unset, .unset, .unset, .unset, .unset]) rfl (XS.iconst X83.here hx rfl (hb hby at_210) (XS.istore X83.here hx rfl (hb hby at_211) rfl (l' := #[.val (.int p1), .val (.int p2), .val (.int p3), .val (.int p4), .val (.long p5), .second, .val (.int v4), .val (.int (1 : Int32)), .val (.int (1 : Int32)), .val (.int v41), .val (.ref b67), .val (.int v181), .val (.int v202), .val .null, .val (.int (-1 : Int32)), .val (.int (-1 : Int32)), .unset, .unset, .unset, .unset, .unset, .unset, .unset, .unset, .unset]) rfl k)))))) ?_
        show GoW p e below QQ (T83.setTop (mkF m 213 #[.val (.int p1), .val (.int p2), .val (.int p3), .val (.int p4), .val (.long p5), .second, .val (.int v4), .val (.int (1 : Int32)), .val (.int (1 : Int32)), .val (.int v41), .val (.ref b67), .val (.int v181), .val (.int v202), .val .null, .val (.int (-1 : Int32)), .val (.int (-1 : Int32)), .unset, .unset, .unset, .unset, .unset, .unset, .unset, .unset, .unset] []))
        refine GoW.st (fun t k => XS.iconst X83.here hx rfl (hb hby at_213) (XS.istore X83.here hx rfl (hb hby at_214) rfl (l' := #[.val (.int p1), .val (.int p2), .val (.int p3), .val (.int p4), .val (.long p5), .second, .val (.int v4), .val (.int (1 : Int32)), .val (.int (1 : Int32)), .val (.int v41), .val (.ref b67), .val (.int v181), .val (.int v202), .val .null, .val (.int (-1 : Int32)), .val (.int (-1 : Int32)), .val (.int (0 : Int32)), .unset, .unset, .unset, .unset, .unset, .unset, .unset, .unset]) rfl (XS.iload X83.here hx rfl (hb hby at_216) rfl k))) ?_
        show GoW p e below QQ (T83.setTop (mkF m 218 #[.val (.int p1), .val (.int p2), .val (.int p3), .val (.int p4), .val (.long p5), .second, .val (.int v4), .val (.int (1 : Int32)), .val (.int (1 : Int32)), .val (.int v41), .val (.ref b67), .val (.int v181), .val (.int v202), .val .null, .val (.int (-1 : Int32)), .val (.int (-1 : Int32)), .val (.int (0 : Int32)), .unset, .unset, .unset, .unset, .unset, .unset, .unset, .unset] [(.int (1 : Int32))]))
        have hc218 : ¬ ((1 : Int32) = (0 : Int32)) := by decide
        refine GoW.st (fun t k => XS.ifNo X83.here hx rfl (hb hby at_218) rfl ((if0 _ _).trans (feq hc218).1) (XS.iload X83.here hx rfl (hb hby at_221) rfl k)) ?_
        show GoW p e below QQ (T83.setTop (mkF m 223 #[.val (.int p1), .val (.int p2), .val (.int p3), .val (.int p4), .val (.long p5), .second, .val (.int v4), .val (.int (1 : Int32)), .val (.int (1 : Int32)), .val (.int v41), .val (.ref b67), .val (.int v181), .val (.int v202), .val .null, .val (.int (-1 : Int32)), .val (.int (-1 : Int32)), .val (.int (0 : Int32)), .unset, .unset, .unset, .unset, .unset, .unset, .unset, .unset] [(.int (1 : Int32))]))
        have hc223 : ¬ ((1 : Int32) = (0 : Int32)) := by decide
        refine GoW.st (fun t k => XS.ifYes X83.here hx rfl (pc0 := 223) (pc' := 329) rfl (hb hby at_223) rfl ((if0 _ _).trans (feq hc223).2) (by decide) (by decide) (XS.iload X83.here hx rfl (hb hby at_329) rfl (XS.iload X83.here hx rfl (hb hby at_331) rfl (XS.isub X83.here hx rfl (hb hby at_333) rfl (XS.istore X83.here hx rfl (hb hby at_334) rfl (l' := #[.val (.int p1), .val (.int p2), .val (.int p3), .val (.int p4), .val (.long p5), .second, .val (.int v4), .val (.int (1 : Int32)), .val (.int (1 : Int32)), .val (.int v41), .val (.ref b67), .val (.int v181), .val (.int v202), .val .null, .val (.int (-1 : Int32)), .val (.int (-1 : Int32)), .val (.int (0 : Int32)), .val (.int (v4 - (0 : Int32))), .unset, .unset, .unset, .unset, .unset, .unset, .unset]) rfl k))))) ?_
        show GoW p e below QQ (T83.setTop (mkF m 336 #[.val (.int p1), .val (.int p2), .val (.int p3), .val (.int p4), .val (.long p5), .second, .val (.int v4), .val (.int (1 : Int32)), .val (.int (1 : Int32)), .val (.int v41), .val (.ref b67), .val (.int v181), .val (.int v202), .val .null, .val (.int (-1 : Int32)), .val (.int (-1 : Int32)), .val (.int (0 : Int32)), .val (.int (v4 - (0 : Int32))), .unset, .unset, .unset, .unset, .unset, .unset, .unset] []))
        generalize hv334 : (v4 - (0 : Int32)) = v334
        have szA := c_isub v4 (0 : Int32)
        have szR := rng32 (v4 - (0 : Int32))
        rw [hv334] at szA szR
        have zk : (0 : Int32).toInt = 0 := rfl
        have sz0 : v334.toInt = v4.toInt - 0 := by omega
        refine GoW.st (fun t k => XS.iload X83.here hx rfl (hb hby at_336) rfl k) ?_
        show GoW p e below QQ (T83.setTop (mkF m 338 #[.val (.int p1), .val (.int p2), .val (.int p3), .val (.int p4), .val (.long p5), .second, .val (.int v4), .val (.int (1 : Int32)), .val (.int (1 : Int32)), .val (.int v41), .val (.ref b67), .val (.int v181), .val (.int v202), .val .null, .val (.int (-1 : Int32)), .val (.int (-1 : Int32)), .val (.int (0 : Int32)), .val (.int v334), .unset, .unset, .unset, .unset, .unset, .unset, .unset] [(.int v334)]))
        by_cases hc338 : (0 : Int32) < v334
        · skip
          refine GoW.st (fun t k => XS.ifYes X83.here hx rfl (pc0 := 338) (pc' := 343) rfl (hb hby at_338) rfl ((if0 _ _).trans (tlt hc338).2.2.1) (by decide) (by decide) k) ?_
          show GoW p e below QQ (T83.setTop (mkF m 343 #[.val (.int p1), .val (.int p2), .val (.int p3), .val (.int p4), .val (.long p5), .second, .val (.int v4), .val (.int (1 : Int32)), .val (.int (1 : Int32)), .val (.int v41), .val (.ref b67), .val (.int v181), .val (.int v202), .val .null, .val (.int (-1 : Int32)), .val (.int (-1 : Int32)), .val (.int (0 : Int32)), .val (.int v334), .unset, .unset, .unset, .unset, .unset, .unset, .unset] []))
          have hi338 : 0 < v334.toInt := (Int32.lt_iff_toInt_lt.mp hc338)
          have szp : 0 < v334.toInt := hi338
          have nzL : (v334.toInt64) ≠ 0 := fun q => by
            have q2 := congrArg Int64.toInt q
            rw [c_i2l] at q2
            have z : (0 : Int64).toInt = 0 := rfl
            omega
          refine GoW.st (fun t k => XS.lconst X83.here hx rfl (hb hby at_343) (XS.lload X83.here hx rfl (hb hby at_344) rfl (X83.ldc2Long hx hown (mvT hZ (hw _ (List.mem_of_getElem? (i := 6) rfl))) (g := (mkF m 346 #[.val (.int p1), .val (.int p2), .val (.int p3), .val (.int p4), .val (.long p5), .second, .val (.int v4), .val (.int (1 : Int32)), .val (.int (1 : Int32)), .val (.int v41), .val (.ref b67), .val (.int v181), .val (.int v202), .val .null, .val (.int (-1 : Int32)), .val (.int (-1 : Int32)), .val (.int (0 : Int32)), .val (.int v334), .unset, .unset, .unset, .unset, .unset, .unset, .unset] [(.long p5), (.long (1 : Int64))])) rfl (hb hby at_346) t (XS.land X83.here hx rfl (hb hby at_349) rfl (XS.iload X83.here hx rfl (hb hby at_350) rfl (XS.i2l X83.here hx rfl (hb hby at_352) rfl k)))))) ?_
          show GoW p e below QQ (T83.setTop (mkF m 353 #[.val (.int p1), .val (.int p2), .val (.int p3), .val (.int p4), .val (.long p5), .second, .val (.int v4), .val (.int (1 : Int32)), .val (.int (1 : Int32)), .val (.int v41), .val (.ref b67), .val (.int v181), .val (.int v202), .val .null, .val (.int (-1 : Int32)), .val (.int (-1 : Int32)), .val (.int (0 : Int32)), .val (.int v334), .unset, .unset, .unset, .unset, .unset, .unset, .unset] [(.long (v334.toInt64)), (.long (p5 &&& (9223372036854775807 : Int64))), (.long (1 : Int64))]))
          refine GoW.st (fun t k => lremM X83 hx rfl (hb hby at_353) rfl nzL (XS.ladd X83.here hx rfl (hb hby at_354) rfl (XS.lstore X83.here hx rfl (hb hby at_355) rfl (l' := #[.val (.int p1), .val (.int p2), .val (.int p3), .val (.int p4), .val (.long p5), .second, .val (.int v4), .val (.int (1 : Int32)), .val (.int (1 : Int32)), .val (.int v41), .val (.ref b67), .val (.int v181), .val (.int v202), .val .null, .val (.int (-1 : Int32)), .val (.int (-1 : Int32)), .val (.int (0 : Int32)), .val (.int v334), .val (.long ((1 : Int64) + ((p5 &&& (9223372036854775807 : Int64)) % (v334.toInt64)))), .second, .unset, .unset, .unset, .unset, .unset]) rfl k))) ?_
          show GoW p e below QQ (T83.setTop (mkF m 357 #[.val (.int p1), .val (.int p2), .val (.int p3), .val (.int p4), .val (.long p5), .second, .val (.int v4), .val (.int (1 : Int32)), .val (.int (1 : Int32)), .val (.int v41), .val (.ref b67), .val (.int v181), .val (.int v202), .val .null, .val (.int (-1 : Int32)), .val (.int (-1 : Int32)), .val (.int (0 : Int32)), .val (.int v334), .val (.long ((1 : Int64) + ((p5 &&& (9223372036854775807 : Int64)) % (v334.toInt64)))), .second, .unset, .unset, .unset, .unset, .unset] []))
          generalize hv355 : ((1 : Int64) + ((p5 &&& (9223372036854775807 : Int64)) % (v334.toInt64))) = v355
          have poA := own_posf p5 v334 szp
          rw [hv355] at poA
          have ix := own_ixr v202 v355 (by omega) (by omega)
          obtain ⟨T85, h85, X85, e85, E85, A85, D85, -, st85⟩ := newO X83 hx hZ hown (hw _ (List.mem_of_getElem? (i := 7) rfl)) (hw _ (List.mem_of_getElem? (i := 8) rfl)) (hw _ (List.mem_of_getElem? (i := 9) rfl)) e83 (g := (mkF m 357 #[.val (.int p1), .val (.int p2), .val (.int p3), .val (.int p4), .val (.long p5), .second, .val (.int v4), .val (.int (1 : Int32)), .val (.int (1 : Int32)), .val (.int v41), .val (.ref b67), .val (.int v181), .val (.int v202), .val .null, .val (.int (-1 : Int32)), .val (.int (-1 : Int32)), .val (.int (0 : Int32)), .val (.int v334), .val (.long v355), .second, .unset, .unset, .unset, .unset, .unset] [])) rfl (hb hby at_357) (by decide) (by decide)
          obtain ⟨b85, g85⟩ : ∃ z, z = h83.size := ⟨_, rfl⟩
          rw [← g85] at A85 D85 st85
          refine GoW.st st85 ?_
          have gg85 : n0 ≤ b85 := Nat.le_trans (Nat.le_trans Z0 K83.1) (Nat.le_of_eq g85.symm)
          have sz85 : h0.size ≤ b85 := Nat.le_trans K83.1 (Nat.le_of_eq g85.symm)
          have ne85_b67 : b67 ≠ b85 := Nat.ne_of_lt (Nat.lt_of_lt_of_le f84_V_b67.lt (Nat.le_of_eq g85.symm))
          have f86_V_b67 : Arv Z h85 b67 k67 .int (8 : Int32) [(.int (p4 &&& (15 : Int32))), (.int ((((p4.toUInt32 >>> ((4 : Int32) &&& 31).toUInt32).toInt32) &&& (15 : Int32)) + (16 : Int32))), (.int ((((p4.toUInt32 >>> ((8 : Int32) &&& 31).toUInt32).toInt32) &&& (15 : Int32)) + (32 : Int32))), (.int ((((p4.toUInt32 >>> ((12 : Int32) &&& 31).toUInt32).toInt32) &&& (15 : Int32)) + (48 : Int32))), (.int ((((p4.toUInt32 >>> ((16 : Int32) &&& 31).toUInt32).toInt32) &&& (15 : Int32)) + (64 : Int32))), (.int ((((p4.toUInt32 >>> ((20 : Int32) &&& 31).toUInt32).toInt32) &&& (15 : Int32)) + (80 : Int32))), (.int ((((p4.toUInt32 >>> ((24 : Int32) &&& 31).toUInt32).toInt32) &&& (15 : Int32)) + (96 : Int32))), (.int ((((p4.toUInt32 >>> ((28 : Int32) &&& 31).toUInt32).toInt32) &&& (15 : Int32)) + (112 : Int32)))] (.int (0 : Int32)) := f84_V_b67.ext E85
          have K85 : Keep h0 h85 [] := K83.ext E85
          have F85_context : Fld Z h85 b85 "com/example/hike/hike/Proximity$Group" "context" "I" (.int (0 : Int32)) := D85 (Or.inr (hw _ (List.mem_of_getElem? (i := 22) rfl))) (ty := .int) (by decide)
          have F85_order : Fld Z h85 b85 "com/example/hike/hike/Proximity$Group" "order" "[I" .null := D85 (Or.inr (hw _ (List.mem_of_getElem? (i := 24) rfl))) (ty := (.array .int)) (by decide)
          have F85_from : Fld Z h85 b85 "com/example/hike/hike/Proximity$Group" "from" "I" (.int (0 : Int32)) := D85 (Or.inr (hw _ (List.mem_of_getElem? (i := 26) rfl))) (ty := .int) (by decide)
          have F85_to : Fld Z h85 b85 "com/example/hike/hike/Proximity$Group" "to" "I" (.int (0 : Int32)) := D85 (Or.inr (hw _ (List.mem_of_getElem? (i := 28) rfl))) (ty := .int) (by decide)
          have F85_reverse : Fld Z h85 b85 "com/example/hike/hike/Proximity$Group" "reverse" "Z" (.int (0 : Int32)) := D85 (Or.inr (hw _ (List.mem_of_getElem? (i := 30) rfl))) (ty := .boolean) (by decide)
          have F85_skipped : Fld Z h85 b85 "com/example/hike/hike/Proximity$Group" "skipped" "[I" .null := D85 (Or.inr (hw _ (List.mem_of_getElem? (i := 32) rfl))) (ty := (.array .int)) (by decide)
          show GoW p e below QQ (T85.setTop (mkF m 360 #[.val (.int p1), .val (.int p2), .val (.int p3), .val (.int p4), .val (.long p5), .second, .val (.int v4), .val (.int (1 : Int32)), .val (.int (1 : Int32)), .val (.int v41), .val (.ref b67), .val (.int v181), .val (.int v202), .val .null, .val (.int (-1 : Int32)), .val (.int (-1 : Int32)), .val (.int (0 : Int32)), .val (.int v334), .val (.long v355), .second, .unset, .unset, .unset, .unset, .unset] [(.ref b85)]))
          refine GoW.st (fun t k => XS.dup X85.here hx rfl (hb hby at_360) rfl rfl (XS.iloadN X85.here hx rfl (hb hby at_361) rfl (XS.aload X85.here hx rfl (hb hby at_362) rfl rfl (XS.iload X85.here hx rfl (hb hby at_364) rfl (XS.iload X85.here hx rfl (hb hby at_366) rfl (XS.iload X85.here hx rfl (hb hby at_368) rfl k)))))) ?_
          show GoW p e below QQ (T85.setTop (mkF m 370 #[.val (.int p1), .val (.int p2), .val (.int p3), .val (.int p4), .val (.long p5), .second, .val (.int v4), .val (.int (1 : Int32)), .val (.int (1 : Int32)), .val (.int v41), .val (.ref b67), .val (.int v181), .val (.int v202), .val .null, .val (.int (-1 : Int32)), .val (.int (-1 : Int32)), .val (.int (0 : Int32)), .val (.int v334), .val (.long v355), .second, .unset, .unset, .unset, .unset, .unset] [(.int (1 : Int32)), (.int v202), (.int v181), (.ref b67), (.int p3), (.ref b85), (.ref b85)]))
          refine GoW.st (fun t k => XS.aload X85.here hx rfl (hb hby at_370) rfl rfl k) ?_
          show GoW p e below QQ (T85.setTop (mkF m 372 #[.val (.int p1), .val (.int p2), .val (.int p3), .val (.int p4), .val (.long p5), .second, .val (.int v4), .val (.int (1 : Int32)), .val (.int (1 : Int32)), .val (.int v41), .val (.ref b67), .val (.int v181), .val (.int v202), .val .null, .val (.int (-1 : Int32)), .val (.int (-1 : Int32)), .val (.int (0 : Int32)), .val (.int v334), .val (.long v355), .second, .unset, .unset, .unset, .unset, .unset] [.null, (.int (1 : Int32)), (.int v202), (.int v181), (.ref b67), (.int p3), (.ref b85), (.ref b85)]))
          obtain ⟨_, _, ⟨T87, zL87, zk87, zn87⟩, -, X87, ⟨Lc87, hQ87, zl87, zy87, zz87⟩, st87⟩ := X85.specialBack hx (y := (⟨"com/example/hike/hike/Proximity$Group", "<init>", "(I[IIIZ[I)V"⟩ : MethodName)) rfl hown (mvT hZ (hw _ (List.mem_of_getElem? (i := 10) rfl))) (mvT hZ (hw _ (List.mem_of_getElem? (i := 11) rfl))) (mvT hZ (hw _ (List.mem_of_getElem? (i := 12) rfl))) (by decide) (backOf (W := 1) (rm2_o1 l Z a0 hw [] b85 p3 b67 v181 v202 h85 n0 (Nat.le_trans Z0 K85.1) A85 gg85 F85_context F85_order F85_from F85_to F85_reverse F85_skipped) hZ (hw _ (List.mem_of_getElem? (i := 12) rfl)) (hw _ (List.mem_of_getElem? (i := 9) rfl)) (by decide) (by decide)) (g := (mkF m 372 #[.val (.int p1), .val (.int p2), .val (.int p3), .val (.int p4), .val (.long p5), .second, .val (.int v4), .val (.int (1 : Int32)), .val (.int (1 : Int32)), .val (.int v41), .val (.ref b67), .val (.int v181), .val (.int v202), .val .null, .val (.int (-1 : Int32)), .val (.int (-1 : Int32)), .val (.int (0 : Int32)), .val (.int v334), .val (.long v355), .second, .unset, .unset, .unset, .unset, .unset] [.null, (.int (1 : Int32)), (.int v202), (.int v181), (.ref b67), (.int p3), (.ref b85), (.ref b85)])) rfl (by rw [hml]; rfl) (Steps.refl _) (a := b85) (argsL := [(.int p3), (.ref b67), (.int v181), (.int v202), (.int (1 : Int32)), .null]) (rest := [(.ref b85)]) (lenOf pd_2 rfl) rfl (by show 2 * 0 + _ ≤ _; exact Nat.le_of_eq rfl) (hb hby at_372) (fun _ _ => ⟨rfl, e85, (by decide : 2 + 0 ≤ _), (by decide : 14 + 0 ≤ _)⟩)
          dsimp only [Pt.U, Pt.locs, Pt.cells, Pt.slots] at X87 zl87 zy87 zz87 st87 hQ87
          subst zl87 zy87 zz87
          obtain ⟨rfl, Nq87, Kq87, p87_0, p87_1, p87_2, p87_3, p87_4, p87_5⟩ := hQ87
          have N87 := Fr.app N83 Nq87
          refine GoW.st (fun t k => st87.trans k) ?_
          have f88_V_b67 : Arv Z T87.heap b67 k67 .int (8 : Int32) [(.int (p4 &&& (15 : Int32))), (.int ((((p4.toUInt32 >>> ((4 : Int32) &&& 31).toUInt32).toInt32) &&& (15 : Int32)) + (16 : Int32))), (.int ((((p4.toUInt32 >>> ((8 : Int32) &&& 31).toUInt32).toInt32) &&& (15 : Int32)) + (32 : Int32))), (.int ((((p4.toUInt32 >>> ((12 : Int32) &&& 31).toUInt32).toInt32) &&& (15 : Int32)) + (48 : Int32))), (.int ((((p4.toUInt32 >>> ((16 : Int32) &&& 31).toUInt32).toInt32) &&& (15 : Int32)) + (64 : Int32))), (.int ((((p4.toUInt32 >>> ((20 : Int32) &&& 31).toUInt32).toInt32) &&& (15 : Int32)) + (80 : Int32))), (.int ((((p4.toUInt32 >>> ((24 : Int32) &&& 31).toUInt32).toInt32) &&& (15 : Int32)) + (96 : Int32))), (.int ((((p4.toUInt32 >>> ((28 : Int32) &&& 31).toUInt32).toInt32) &&& (15 : Int32)) + (112 : Int32)))] (.int (0 : Int32)) := f86_V_b67.keep Kq87 (ninS ne85_b67 nin0)
          have K87 : Keep h0 T87.heap [] := K85.trans Kq87 (allS (Or.inr sz85) all0)
          show GoW p e below QQ (T87.setTop (mkF m 375 #[.val (.int p1), .val (.int p2), .val (.int p3), .val (.int p4), .val (.long p5), .second, .val (.int v4), .val (.int (1 : Int32)), .val (.int (1 : Int32)), .val (.int v41), .val (.ref b67), .val (.int v181), .val (.int v202), .val .null, .val (.int (-1 : Int32)), .val (.int (-1 : Int32)), .val (.int (0 : Int32)), .val (.int v334), .val (.long v355), .second, .unset, .unset, .unset, .unset, .unset] [(.ref b85)]))
          refine GoW.st (fun t k => XS.astore X87.here hx rfl (hb hby at_375) rfl rfl (l' := #[.val (.int p1), .val (.int p2), .val (.int p3), .val (.int p4), .val (.long p5), .second, .val (.int v4), .val (.int (1 : Int32)), .val (.int (1 : Int32)), .val (.int v41), .val (.ref b67), .val (.int v181), .val (.int v202), .val .null, .val (.int (-1 : Int32)), .val (.int (-1 : Int32)), .val (.int (0 : Int32)), .val (.int v334), .val (.long v355), .second, .val (.ref b85), .unset, .unset, .unset, .unset]) rfl (XS.aload X87.here hx rfl (hb hby at_377) rfl rfl (XS.lload X87.here hx rfl (hb hby at_379) rfl k))) ?_
          show GoW p e below QQ (T87.setTop (mkF m 381 #[.val (.int p1), .val (.int p2), .val (.int p3), .val (.int p4), .val (.long p5), .second, .val (.int v4), .val (.int (1 : Int32)), .val (.int (1 : Int32)), .val (.int v41), .val (.ref b67), .val (.int v181), .val (.int v202), .val .null, .val (.int (-1 : Int32)), .val (.int (-1 : Int32)), .val (.int (0 : Int32)), .val (.int v334), .val (.long v355), .second, .val (.ref b85), .unset, .unset, .unset, .unset] [(.long v355), (.ref b85)]))
          obtain ⟨cq89, kq89, qa89, qb89, qc89⟩ := isOf hZ rfl p87_0
          obtain ⟨_, _, ⟨T89, zL89, zk89, zn89⟩, -, X89, ⟨Lc89, hQ89, zl89, zy89, zz89⟩, st89⟩ := X87.virtualBack hx (y := (⟨"com/example/hike/hike/Proximity$Group", "at", "(J)I"⟩ : MethodName)) (z := (⟨"com/example/hike/hike/Proximity$Group", "at", "(J)I"⟩ : MethodName)) hown (mvT hZ (hw _ (List.mem_of_getElem? (i := 33) rfl))) (mvT hZ (hw _ (List.mem_of_getElem? (i := 34) rfl))) (notFace_of_selects (args := #[]) (mvT hZ (hw _ (List.mem_of_getElem? (i := 36) rfl)))) (mvT hZ (hw _ (List.mem_of_getElem? (i := 36) rfl))) (mvT hZ (hw _ (List.mem_of_getElem? (i := 35) rfl))) (by decide) (backOf (W := 0) (rm5_o1 l Z a0 hw [] b85 v355 v181 v202 b67 k67 (p4 &&& (15 : Int32)) ((((p4.toUInt32 >>> ((4 : Int32) &&& 31).toUInt32).toInt32) &&& (15 : Int32)) + (16 : Int32)) ((((p4.toUInt32 >>> ((8 : Int32) &&& 31).toUInt32).toInt32) &&& (15 : Int32)) + (32 : Int32)) ((((p4.toUInt32 >>> ((12 : Int32) &&& 31).toUInt32).toInt32) &&& (15 : Int32)) + (48 : Int32)) ((((p4.toUInt32 >>> ((16 : Int32) &&& 31).toUInt32).toInt32) &&& (15 : Int32)) + (64 : Int32)) ((((p4.toUInt32 >>> ((20 : Int32) &&& 31).toUInt32).toInt32) &&& (15 : Int32)) + (80 : Int32)) ((((p4.toUInt32 >>> ((24 : Int32) &&& 31).toUInt32).toInt32) &&& (15 : Int32)) + (96 : Int32)) ((((p4.toUInt32 >>> ((28 : Int32) &&& 31).toUInt32).toInt32) &&& (15 : Int32)) + (112 : Int32)) T87.heap n0 (Nat.le_trans Z0 K87.1) p87_4 p87_2 p87_3 p87_5 p87_1 f88_V_b67 (own_nlt_of (by omega)) (own_lt_of (by omega))) hZ (hw _ (List.mem_of_getElem? (i := 37) rfl)) (hw _ (List.mem_of_getElem? (i := 9) rfl)) (by decide) (by decide)) qa89 qc89 (g := (mkF m 381 #[.val (.int p1), .val (.int p2), .val (.int p3), .val (.int p4), .val (.long p5), .second, .val (.int v4), .val (.int (1 : Int32)), .val (.int (1 : Int32)), .val (.int v41), .val (.ref b67), .val (.int v181), .val (.int v202), .val .null, .val (.int (-1 : Int32)), .val (.int (-1 : Int32)), .val (.int (0 : Int32)), .val (.int v334), .val (.long v355), .second, .val (.ref b85), .unset, .unset, .unset, .unset] [(.long v355), (.ref b85)])) rfl (by rw [hml]; rfl) (Steps.refl _) (argsL := [(.long v355)]) (rest := []) (lenOf pd_3 rfl) rfl (by show 2 * 0 + _ ≤ _; exact Nat.le_of_eq rfl) (hb hby at_381) (fun _ _ => ⟨rfl, rfl, (by decide : 2 + 0 ≤ _), (by decide : 14 + 0 ≤ _)⟩)
          dsimp only [Pt.U, Pt.locs, Pt.cells, Pt.slots] at X89 zl89 zy89 zz89 st89 hQ89
          subst zl89 zy89 zz89
          obtain ⟨rfl, Nq89, hh89⟩ := hQ89
          have N89 := Fr.app N87 Nq89
          refine GoW.st (fun t k => st89.trans k) ?_
          show GoW p e below QQ (T89.setTop (mkF m 384 #[.val (.int p1), .val (.int p2), .val (.int p3), .val (.int p4), .val (.long p5), .second, .val (.int v4), .val (.int (1 : Int32)), .val (.int (1 : Int32)), .val (.int v41), .val (.ref b67), .val (.int v181), .val (.int v202), .val .null, .val (.int (-1 : Int32)), .val (.int (-1 : Int32)), .val (.int (0 : Int32)), .val (.int v334), .val (.long v355), .second, .val (.ref b85), .unset, .unset, .unset, .unset] [(.int (([(p4 &&& (15 : Int32)), ((((p4.toUInt32 >>> ((4 : Int32) &&& 31).toUInt32).toInt32) &&& (15 : Int32)) + (16 : Int32)), ((((p4.toUInt32 >>> ((8 : Int32) &&& 31).toUInt32).toInt32) &&& (15 : Int32)) + (32 : Int32)), ((((p4.toUInt32 >>> ((12 : Int32) &&& 31).toUInt32).toInt32) &&& (15 : Int32)) + (48 : Int32)), ((((p4.toUInt32 >>> ((16 : Int32) &&& 31).toUInt32).toInt32) &&& (15 : Int32)) + (64 : Int32)), ((((p4.toUInt32 >>> ((20 : Int32) &&& 31).toUInt32).toInt32) &&& (15 : Int32)) + (80 : Int32)), ((((p4.toUInt32 >>> ((24 : Int32) &&& 31).toUInt32).toInt32) &&& (15 : Int32)) + (96 : Int32)), ((((p4.toUInt32 >>> ((28 : Int32) &&& 31).toUInt32).toInt32) &&& (15 : Int32)) + (112 : Int32))] : List Int32).getD ((v202.toInt64 - v355).toInt32).toNatClampNeg (0 : Int32)))]))
          refine GoW.st (fun t k => XS.istore X89.here hx rfl (hb hby at_384) rfl (l' := #[.val (.int p1), .val (.int p2), .val (.int p3), .val (.int p4), .val (.long p5), .second, .val (.int v4), .val (.int (1 : Int32)), .val (.int (1 : Int32)), .val (.int v41), .val (.ref b67), .val (.int v181), .val (.int v202), .val .null, .val (.int (-1 : Int32)), .val (.int (-1 : Int32)), .val (.int (0 : Int32)), .val (.int v334), .val (.long v355), .second, .val (.ref b85), .val (.int (([(p4 &&& (15 : Int32)), ((((p4.toUInt32 >>> ((4 : Int32) &&& 31).toUInt32).toInt32) &&& (15 : Int32)) + (16 : Int32)), ((((p4.toUInt32 >>> ((8 : Int32) &&& 31).toUInt32).toInt32) &&& (15 : Int32)) + (32 : Int32)), ((((p4.toUInt32 >>> ((12 : Int32) &&& 31).toUInt32).toInt32) &&& (15 : Int32)) + (48 : Int32)), ((((p4.toUInt32 >>> ((16 : Int32) &&& 31).toUInt32).toInt32) &&& (15 : Int32)) + (64 : Int32)), ((((p4.toUInt32 >>> ((20 : Int32) &&& 31).toUInt32).toInt32) &&& (15 : Int32)) + (80 : Int32)), ((((p4.toUInt32 >>> ((24 : Int32) &&& 31).toUInt32).toInt32) &&& (15 : Int32)) + (96 : Int32)), ((((p4.toUInt32 >>> ((28 : Int32) &&& 31).toUInt32).toInt32) &&& (15 : Int32)) + (112 : Int32))] : List Int32).getD ((v202.toInt64 - v355).toInt32).toNatClampNeg (0 : Int32))), .unset, .unset, .unset]) rfl k) ?_
          show GoW p e below QQ (T89.setTop (mkF m 386 #[.val (.int p1), .val (.int p2), .val (.int p3), .val (.int p4), .val (.long p5), .second, .val (.int v4), .val (.int (1 : Int32)), .val (.int (1 : Int32)), .val (.int v41), .val (.ref b67), .val (.int v181), .val (.int v202), .val .null, .val (.int (-1 : Int32)), .val (.int (-1 : Int32)), .val (.int (0 : Int32)), .val (.int v334), .val (.long v355), .second, .val (.ref b85), .val (.int (([(p4 &&& (15 : Int32)), ((((p4.toUInt32 >>> ((4 : Int32) &&& 31).toUInt32).toInt32) &&& (15 : Int32)) + (16 : Int32)), ((((p4.toUInt32 >>> ((8 : Int32) &&& 31).toUInt32).toInt32) &&& (15 : Int32)) + (32 : Int32)), ((((p4.toUInt32 >>> ((12 : Int32) &&& 31).toUInt32).toInt32) &&& (15 : Int32)) + (48 : Int32)), ((((p4.toUInt32 >>> ((16 : Int32) &&& 31).toUInt32).toInt32) &&& (15 : Int32)) + (64 : Int32)), ((((p4.toUInt32 >>> ((20 : Int32) &&& 31).toUInt32).toInt32) &&& (15 : Int32)) + (80 : Int32)), ((((p4.toUInt32 >>> ((24 : Int32) &&& 31).toUInt32).toInt32) &&& (15 : Int32)) + (96 : Int32)), ((((p4.toUInt32 >>> ((28 : Int32) &&& 31).toUInt32).toInt32) &&& (15 : Int32)) + (112 : Int32))] : List Int32).getD ((v202.toInt64 - v355).toInt32).toNatClampNeg (0 : Int32))), .unset, .unset, .unset] []))
          generalize hv384 : (([(p4 &&& (15 : Int32)), ((((p4.toUInt32 >>> ((4 : Int32) &&& 31).toUInt32).toInt32) &&& (15 : Int32)) + (16 : Int32)), ((((p4.toUInt32 >>> ((8 : Int32) &&& 31).toUInt32).toInt32) &&& (15 : Int32)) + (32 : Int32)), ((((p4.toUInt32 >>> ((12 : Int32) &&& 31).toUInt32).toInt32) &&& (15 : Int32)) + (48 : Int32)), ((((p4.toUInt32 >>> ((16 : Int32) &&& 31).toUInt32).toInt32) &&& (15 : Int32)) + (64 : Int32)), ((((p4.toUInt32 >>> ((20 : Int32) &&& 31).toUInt32).toInt32) &&& (15 : Int32)) + (80 : Int32)), ((((p4.toUInt32 >>> ((24 : Int32) &&& 31).toUInt32).toInt32) &&& (15 : Int32)) + (96 : Int32)), ((((p4.toUInt32 >>> ((28 : Int32) &&& 31).toUInt32).toInt32) &&& (15 : Int32)) + (112 : Int32))] : List Int32).getD ((v202.toInt64 - v355).toInt32).toNatClampNeg (0 : Int32)) = v384
          have rO := own_ord p4 ((v202.toInt64 - v355).toInt32) (by omega) (by omega)
          rw [hv384] at rO
          refine GoW.st (fun t k => XS.iload X89.here hx rfl (hb hby at_386) rfl k) ?_
          show GoW p e below QQ (T89.setTop (mkF m 388 #[.val (.int p1), .val (.int p2), .val (.int p3), .val (.int p4), .val (.long p5), .second, .val (.int v4), .val (.int (1 : Int32)), .val (.int (1 : Int32)), .val (.int v41), .val (.ref b67), .val (.int v181), .val (.int v202), .val .null, .val (.int (-1 : Int32)), .val (.int (-1 : Int32)), .val (.int (0 : Int32)), .val (.int v334), .val (.long v355), .second, .val (.ref b85), .val (.int v384), .unset, .unset, .unset] [(.int (1 : Int32))]))
          have hc388 : ¬ ((1 : Int32) = (0 : Int32)) := by decide
          refine GoW.st (fun t k => XS.ifNo X89.here hx rfl (hb hby at_388) rfl ((if0 _ _).trans (feq hc388).1) (XS.iload X89.here hx rfl (hb hby at_391) rfl k)) ?_
          show GoW p e below QQ (T89.setTop (mkF m 393 #[.val (.int p1), .val (.int p2), .val (.int p3), .val (.int p4), .val (.long p5), .second, .val (.int v4), .val (.int (1 : Int32)), .val (.int (1 : Int32)), .val (.int v41), .val (.ref b67), .val (.int v181), .val (.int v202), .val .null, .val (.int (-1 : Int32)), .val (.int (-1 : Int32)), .val (.int (0 : Int32)), .val (.int v334), .val (.long v355), .second, .val (.ref b85), .val (.int v384), .unset, .unset, .unset] [(.int v384)]))
          have hc393 : ¬ (v384 < (0 : Int32)) := by
            exact own_nlt_of (by omega)
          refine GoW.st (fun t k => XS.ifNo X89.here hx rfl (hb hby at_393) rfl ((if0 _ _).trans (flt hc393).1) k) ?_
          show GoW p e below QQ (T89.setTop (mkF m 396 #[.val (.int p1), .val (.int p2), .val (.int p3), .val (.int p4), .val (.long p5), .second, .val (.int v4), .val (.int (1 : Int32)), .val (.int (1 : Int32)), .val (.int v41), .val (.ref b67), .val (.int v181), .val (.int v202), .val .null, .val (.int (-1 : Int32)), .val (.int (-1 : Int32)), .val (.int (0 : Int32)), .val (.int v334), .val (.long v355), .second, .val (.ref b85), .val (.int v384), .unset, .unset, .unset] []))
          have hi393 : ¬ (v384.toInt < 0) := (fun q => hc393 (Int32.lt_iff_toInt_lt.mpr q))
          refine GoW.st (fun t k => XS.iload X89.here hx rfl (hb hby at_396) rfl (XS.sipush X89.here hx rfl (hb hby at_398) k)) ?_
          show GoW p e below QQ (T89.setTop (mkF m 401 #[.val (.int p1), .val (.int p2), .val (.int p3), .val (.int p4), .val (.long p5), .second, .val (.int v4), .val (.int (1 : Int32)), .val (.int (1 : Int32)), .val (.int v41), .val (.ref b67), .val (.int v181), .val (.int v202), .val .null, .val (.int (-1 : Int32)), .val (.int (-1 : Int32)), .val (.int (0 : Int32)), .val (.int v334), .val (.long v355), .second, .val (.ref b85), .val (.int v384), .unset, .unset, .unset] [(.int (128 : Int32)), (.int v384)]))
          have hc401 : v384 < (128 : Int32) := by
            exact own_lt_of (by omega)
          refine GoW.st (fun t k => XS.icmpYes X89.here hx rfl (pc0 := 401) (pc' := 406) rfl (hb hby at_401) rfl (tlt hc401).1 (by decide) (by decide) k) ?_
          show GoW p e below QQ (T89.setTop (mkF m 406 #[.val (.int p1), .val (.int p2), .val (.int p3), .val (.int p4), .val (.long p5), .second, .val (.int v4), .val (.int (1 : Int32)), .val (.int (1 : Int32)), .val (.int v41), .val (.ref b67), .val (.int v181), .val (.int v202), .val .null, .val (.int (-1 : Int32)), .val (.int (-1 : Int32)), .val (.int (0 : Int32)), .val (.int v334), .val (.long v355), .second, .val (.ref b85), .val (.int v384), .unset, .unset, .unset] []))
          have hi401 : v384.toInt < 128 := (Int32.lt_iff_toInt_lt.mp hc401)
          refine GoW.st (fun t k => XS.iload X89.here hx rfl (hb hby at_406) rfl (XS.iconst X89.here hx rfl (hb hby at_408) (XS.iushr X89.here hx rfl (hb hby at_409) rfl (XS.istore X89.here hx rfl (hb hby at_410) rfl (l' := #[.val (.int p1), .val (.int p2), .val (.int p3), .val (.int p4), .val (.long p5), .second, .val (.int v4), .val (.int (1 : Int32)), .val (.int (1 : Int32)), .val (.int v41), .val (.ref b67), .val (.int v181), .val (.int v202), .val .null, .val (.int (-1 : Int32)), .val (.int (-1 : Int32)), .val (.int (0 : Int32)), .val (.int v334), .val (.long v355), .second, .val (.ref b85), .val (.int v384), .val (.int ((v384.toUInt32 >>> ((4 : Int32) &&& 31).toUInt32).toInt32)), .unset, .unset]) rfl k)))) ?_
          show GoW p e below QQ (T89.setTop (mkF m 412 #[.val (.int p1), .val (.int p2), .val (.int p3), .val (.int p4), .val (.long p5), .second, .val (.int v4), .val (.int (1 : Int32)), .val (.int (1 : Int32)), .val (.int v41), .val (.ref b67), .val (.int v181), .val (.int v202), .val .null, .val (.int (-1 : Int32)), .val (.int (-1 : Int32)), .val (.int (0 : Int32)), .val (.int v334), .val (.long v355), .second, .val (.ref b85), .val (.int v384), .val (.int ((v384.toUInt32 >>> ((4 : Int32) &&& 31).toUInt32).toInt32)), .unset, .unset] []))
          generalize hv410 : ((v384.toUInt32 >>> ((4 : Int32) &&& 31).toUInt32).toInt32) = v410
          have sh := c_iushr v384 4 4 rfl (by decide)
          rw [hv410] at sh
          have rr := rng32 v384
          have id0 : v410.toInt = ((v202.toInt64 - v355).toInt32).toInt := by omega
          have ie : v410 = ((v202.toInt64 - v355).toInt32) := own_eq_of id0
          refine GoW.st (fun t k => XS.aload X89.here hx rfl (hb hby at_412) rfl rfl (XS.iload X89.here hx rfl (hb hby at_414) rfl (ldVI X89 hx hZ hh89 f88_V_b67 (v := (.int (([(p4 &&& (15 : Int32)), ((((p4.toUInt32 >>> ((4 : Int32) &&& 31).toUInt32).toInt32) &&& (15 : Int32)) + (16 : Int32)), ((((p4.toUInt32 >>> ((8 : Int32) &&& 31).toUInt32).toInt32) &&& (15 : Int32)) + (32 : Int32)), ((((p4.toUInt32 >>> ((12 : Int32) &&& 31).toUInt32).toInt32) &&& (15 : Int32)) + (48 : Int32)), ((((p4.toUInt32 >>> ((16 : Int32) &&& 31).toUInt32).toInt32) &&& (15 : Int32)) + (64 : Int32)), ((((p4.toUInt32 >>> ((20 : Int32) &&& 31).toUInt32).toInt32) &&& (15 : Int32)) + (80 : Int32)), ((((p4.toUInt32 >>> ((24 : Int32) &&& 31).toUInt32).toInt32) &&& (15 : Int32)) + (96 : Int32)), ((((p4.toUInt32 >>> ((28 : Int32) &&& 31).toUInt32).toInt32) &&& (15 : Int32)) + (112 : Int32))] : List Int32).getD (v410).toNatClampNeg (0 : Int32)))) ⟨own_nlt_of (by omega), own_lt_of (by omega)⟩ (own_at8 _ _ _ _ _ _ _ _ _) (g := (mkF m 416 #[.val (.int p1), .val (.int p2), .val (.int p3), .val (.int p4), .val (.long p5), .second, .val (.int v4), .val (.int (1 : Int32)), .val (.int (1 : Int32)), .val (.int v41), .val (.ref b67), .val (.int v181), .val (.int v202), .val .null, .val (.int (-1 : Int32)), .val (.int (-1 : Int32)), .val (.int (0 : Int32)), .val (.int v334), .val (.long v355), .second, .val (.ref b85), .val (.int v384), .val (.int v410), .unset, .unset] [(.int v410), (.ref b67)])) rfl rfl (hb hby at_416) t (XS.iload X89.here hx rfl (hb hby at_417) rfl k)))) ?_
          show GoW p e below QQ (T89.setTop (mkF m 419 #[.val (.int p1), .val (.int p2), .val (.int p3), .val (.int p4), .val (.long p5), .second, .val (.int v4), .val (.int (1 : Int32)), .val (.int (1 : Int32)), .val (.int v41), .val (.ref b67), .val (.int v181), .val (.int v202), .val .null, .val (.int (-1 : Int32)), .val (.int (-1 : Int32)), .val (.int (0 : Int32)), .val (.int v334), .val (.long v355), .second, .val (.ref b85), .val (.int v384), .val (.int v410), .unset, .unset] [(.int v384), (.int (([(p4 &&& (15 : Int32)), ((((p4.toUInt32 >>> ((4 : Int32) &&& 31).toUInt32).toInt32) &&& (15 : Int32)) + (16 : Int32)), ((((p4.toUInt32 >>> ((8 : Int32) &&& 31).toUInt32).toInt32) &&& (15 : Int32)) + (32 : Int32)), ((((p4.toUInt32 >>> ((12 : Int32) &&& 31).toUInt32).toInt32) &&& (15 : Int32)) + (48 : Int32)), ((((p4.toUInt32 >>> ((16 : Int32) &&& 31).toUInt32).toInt32) &&& (15 : Int32)) + (64 : Int32)), ((((p4.toUInt32 >>> ((20 : Int32) &&& 31).toUInt32).toInt32) &&& (15 : Int32)) + (80 : Int32)), ((((p4.toUInt32 >>> ((24 : Int32) &&& 31).toUInt32).toInt32) &&& (15 : Int32)) + (96 : Int32)), ((((p4.toUInt32 >>> ((28 : Int32) &&& 31).toUInt32).toInt32) &&& (15 : Int32)) + (112 : Int32))] : List Int32).getD (v410).toNatClampNeg (0 : Int32)))]))
          have hc419 : (([(p4 &&& (15 : Int32)), ((((p4.toUInt32 >>> ((4 : Int32) &&& 31).toUInt32).toInt32) &&& (15 : Int32)) + (16 : Int32)), ((((p4.toUInt32 >>> ((8 : Int32) &&& 31).toUInt32).toInt32) &&& (15 : Int32)) + (32 : Int32)), ((((p4.toUInt32 >>> ((12 : Int32) &&& 31).toUInt32).toInt32) &&& (15 : Int32)) + (48 : Int32)), ((((p4.toUInt32 >>> ((16 : Int32) &&& 31).toUInt32).toInt32) &&& (15 : Int32)) + (64 : Int32)), ((((p4.toUInt32 >>> ((20 : Int32) &&& 31).toUInt32).toInt32) &&& (15 : Int32)) + (80 : Int32)), ((((p4.toUInt32 >>> ((24 : Int32) &&& 31).toUInt32).toInt32) &&& (15 : Int32)) + (96 : Int32)), ((((p4.toUInt32 >>> ((28 : Int32) &&& 31).toUInt32).toInt32) &&& (15 : Int32)) + (112 : Int32))] : List Int32).getD (v410).toNatClampNeg (0 : Int32)) = v384 := by
            rw [ie]; exact hv384
          refine GoW.st (fun t k => XS.icmpNo X89.here hx rfl (hb hby at_419) rfl (teq hc419).2 k) ?_
          show GoW p e below QQ (T89.setTop (mkF m 422 #[.val (.int p1), .val (.int p2), .val (.int p3), .val (.int p4), .val (.long p5), .second, .val (.int v4), .val (.int (1 : Int32)), .val (.int (1 : Int32)), .val (.int v41), .val (.ref b67), .val (.int v181), .val (.int v202), .val .null, .val (.int (-1 : Int32)), .val (.int (-1 : Int32)), .val (.int (0 : Int32)), .val (.int v334), .val (.long v355), .second, .val (.ref b85), .val (.int v384), .val (.int v410), .unset, .unset] []))
          have hi419 : ((([(p4 &&& (15 : Int32)), ((((p4.toUInt32 >>> ((4 : Int32) &&& 31).toUInt32).toInt32) &&& (15 : Int32)) + (16 : Int32)), ((((p4.toUInt32 >>> ((8 : Int32) &&& 31).toUInt32).toInt32) &&& (15 : Int32)) + (32 : Int32)), ((((p4.toUInt32 >>> ((12 : Int32) &&& 31).toUInt32).toInt32) &&& (15 : Int32)) + (48 : Int32)), ((((p4.toUInt32 >>> ((16 : Int32) &&& 31).toUInt32).toInt32) &&& (15 : Int32)) + (64 : Int32)), ((((p4.toUInt32 >>> ((20 : Int32) &&& 31).toUInt32).toInt32) &&& (15 : Int32)) + (80 : Int32)), ((((p4.toUInt32 >>> ((24 : Int32) &&& 31).toUInt32).toInt32) &&& (15 : Int32)) + (96 : Int32)), ((((p4.toUInt32 >>> ((28 : Int32) &&& 31).toUInt32).toInt32) &&& (15 : Int32)) + (112 : Int32))] : List Int32).getD (v410).toNatClampNeg (0 : Int32))).toInt = v384.toInt := (congrArg Int32.toInt hc419)
          refine GoW.st (fun t k => XS.iload X89.here hx rfl (hb hby at_422) rfl (XS.iload X89.here hx rfl (hb hby at_424) rfl k)) ?_
          show GoW p e below QQ (T89.setTop (mkF m 426 #[.val (.int p1), .val (.int p2), .val (.int p3), .val (.int p4), .val (.long p5), .second, .val (.int v4), .val (.int (1 : Int32)), .val (.int (1 : Int32)), .val (.int v41), .val (.ref b67), .val (.int v181), .val (.int v202), .val .null, .val (.int (-1 : Int32)), .val (.int (-1 : Int32)), .val (.int (0 : Int32)), .val (.int v334), .val (.long v355), .second, .val (.ref b85), .val (.int v384), .val (.int v410), .unset, .unset] [(.int v181), (.int v410)]))
          have hc426 : ¬ (v410 < v181) := by
            exact own_nlt_of (by omega)
          refine GoW.st (fun t k => XS.icmpNo X89.here hx rfl (hb hby at_426) rfl (flt hc426).1 k) ?_
          show GoW p e below QQ (T89.setTop (mkF m 429 #[.val (.int p1), .val (.int p2), .val (.int p3), .val (.int p4), .val (.long p5), .second, .val (.int v4), .val (.int (1 : Int32)), .val (.int (1 : Int32)), .val (.int v41), .val (.ref b67), .val (.int v181), .val (.int v202), .val .null, .val (.int (-1 : Int32)), .val (.int (-1 : Int32)), .val (.int (0 : Int32)), .val (.int v334), .val (.long v355), .second, .val (.ref b85), .val (.int v384), .val (.int v410), .unset, .unset] []))
          have hi426 : ¬ (v410.toInt < v181.toInt) := (fun q => hc426 (Int32.lt_iff_toInt_lt.mpr q))
          refine GoW.st (fun t k => XS.iload X89.here hx rfl (hb hby at_429) rfl (XS.iload X89.here hx rfl (hb hby at_431) rfl k)) ?_
          show GoW p e below QQ (T89.setTop (mkF m 433 #[.val (.int p1), .val (.int p2), .val (.int p3), .val (.int p4), .val (.long p5), .second, .val (.int v4), .val (.int (1 : Int32)), .val (.int (1 : Int32)), .val (.int v41), .val (.ref b67), .val (.int v181), .val (.int v202), .val .null, .val (.int (-1 : Int32)), .val (.int (-1 : Int32)), .val (.int (0 : Int32)), .val (.int v334), .val (.long v355), .second, .val (.ref b85), .val (.int v384), .val (.int v410), .unset, .unset] [(.int v202), (.int v410)]))
          have hc433 : v410 < v202 := by
            exact own_lt_of (by omega)
          refine GoW.st (fun t k => XS.icmpYes X89.here hx rfl (pc0 := 433) (pc' := 438) rfl (hb hby at_433) rfl (tlt hc433).1 (by decide) (by decide) k) ?_
          show GoW p e below QQ (T89.setTop (mkF m 438 #[.val (.int p1), .val (.int p2), .val (.int p3), .val (.int p4), .val (.long p5), .second, .val (.int v4), .val (.int (1 : Int32)), .val (.int (1 : Int32)), .val (.int v41), .val (.ref b67), .val (.int v181), .val (.int v202), .val .null, .val (.int (-1 : Int32)), .val (.int (-1 : Int32)), .val (.int (0 : Int32)), .val (.int v334), .val (.long v355), .second, .val (.ref b85), .val (.int v384), .val (.int v410), .unset, .unset] []))
          have hi433 : v410.toInt < v202.toInt := (Int32.lt_iff_toInt_lt.mp hc433)
          refine GoW.st (fun t k => XS.iload X89.here hx rfl (hb hby at_438) rfl k) ?_
          show GoW p e below QQ (T89.setTop (mkF m 440 #[.val (.int p1), .val (.int p2), .val (.int p3), .val (.int p4), .val (.long p5), .second, .val (.int v4), .val (.int (1 : Int32)), .val (.int (1 : Int32)), .val (.int v41), .val (.ref b67), .val (.int v181), .val (.int v202), .val .null, .val (.int (-1 : Int32)), .val (.int (-1 : Int32)), .val (.int (0 : Int32)), .val (.int v334), .val (.long v355), .second, .val (.ref b85), .val (.int v384), .val (.int v410), .unset, .unset] [(.int (1 : Int32))]))
          have hc440 : ¬ ((1 : Int32) = (0 : Int32)) := by decide
          refine GoW.st (fun t k => XS.ifNo X89.here hx rfl (hb hby at_440) rfl ((if0 _ _).trans (feq hc440).1) (XS.iload X89.here hx rfl (hb hby at_443) rfl (XS.iconst X89.here hx rfl (hb hby at_445) (XS.isub X89.here hx rfl (hb hby at_446) rfl (XS.iload X89.here hx rfl (hb hby at_447) rfl (XS.isub X89.here hx rfl (hb hby at_449) rfl k)))))) ?_
          show GoW p e below QQ (T89.setTop (mkF m 450 #[.val (.int p1), .val (.int p2), .val (.int p3), .val (.int p4), .val (.long p5), .second, .val (.int v4), .val (.int (1 : Int32)), .val (.int (1 : Int32)), .val (.int v41), .val (.ref b67), .val (.int v181), .val (.int v202), .val .null, .val (.int (-1 : Int32)), .val (.int (-1 : Int32)), .val (.int (0 : Int32)), .val (.int v334), .val (.long v355), .second, .val (.ref b85), .val (.int v384), .val (.int v410), .unset, .unset] [(.int ((v202 - (1 : Int32)) - v410))]))
          refine GoW.st (fun t k => XS.i2l X89.here hx rfl (hb hby at_450) rfl (XS.goto X89.here hx rfl (pc0 := 451) (pc' := 460) rfl (hb hby at_451) (by decide) (by decide) (XS.lstore X89.here hx rfl (hb hby at_460) rfl (l' := #[.val (.int p1), .val (.int p2), .val (.int p3), .val (.int p4), .val (.long p5), .second, .val (.int v4), .val (.int (1 : Int32)), .val (.int (1 : Int32)), .val (.int v41), .val (.ref b67), .val (.int v181), .val (.int v202), .val .null, .val (.int (-1 : Int32)), .val (.int (-1 : Int32)), .val (.int (0 : Int32)), .val (.int v334), .val (.long v355), .second, .val (.ref b85), .val (.int v384), .val (.int v410), .val (.long (((v202 - (1 : Int32)) - v410).toInt64)), .second]) rfl k))) ?_
          show GoW p e below QQ (T89.setTop (mkF m 462 #[.val (.int p1), .val (.int p2), .val (.int p3), .val (.int p4), .val (.long p5), .second, .val (.int v4), .val (.int (1 : Int32)), .val (.int (1 : Int32)), .val (.int v41), .val (.ref b67), .val (.int v181), .val (.int v202), .val .null, .val (.int (-1 : Int32)), .val (.int (-1 : Int32)), .val (.int (0 : Int32)), .val (.int v334), .val (.long v355), .second, .val (.ref b85), .val (.int v384), .val (.int v410), .val (.long (((v202 - (1 : Int32)) - v410).toInt64)), .second] []))
          generalize hv460 : (((v202 - (1 : Int32)) - v410).toInt64) = v460
          refine GoW.st (fun t k => XS.lload X89.here hx rfl (hb hby at_462) rfl (XS.lload X89.here hx rfl (hb hby at_464) rfl (XS.lconst X89.here hx rfl (hb hby at_466) (XS.lsub X89.here hx rfl (hb hby at_467) rfl (XS.lcmp X89.here hx rfl (hb hby at_468) rfl k))))) ?_
          show GoW p e below QQ (T89.setTop (mkF m 469 #[.val (.int p1), .val (.int p2), .val (.int p3), .val (.int p4), .val (.long p5), .second, .val (.int v4), .val (.int (1 : Int32)), .val (.int (1 : Int32)), .val (.int v41), .val (.ref b67), .val (.int v181), .val (.int v202), .val .null, .val (.int (-1 : Int32)), .val (.int (-1 : Int32)), .val (.int (0 : Int32)), .val (.int v334), .val (.long v355), .second, .val (.ref b85), .val (.int v384), .val (.int v410), .val (.long v460), .second] [(.int (lcmpW v460 (v355 - (1 : Int64))))]))
          have hc469 : v460 = (v355 - (1 : Int64)) := by
            subst hv460
            have z1 : (1 : Int32).toInt = 1 := rfl
            have zL1 : (1 : Int64).toInt = 1 := rfl
            have x4 := c_lsub v355 1
            have y4 := rng64 (v355 - 1)
            have x1 := c_isub v202 1
            have x2 := c_isub (v202 - 1) v410
            have y1 := rng32 (v202 - 1)
            have y2 := rng32 ((v202 - 1) - v410)
            have x3 := c_i2l ((v202 - 1) - v410)
            apply own_eqL_of
            omega
          refine GoW.st (fun t k => XS.ifNo X89.here hx rfl (hb hby at_469) rfl ((if0 _ _).trans (teq ((lw_eq v460 (v355 - (1 : Int64))).mpr hc469)).2) k) ?_
          show GoW p e below QQ (T89.setTop (mkF m 472 #[.val (.int p1), .val (.int p2), .val (.int p3), .val (.int p4), .val (.long p5), .second, .val (.int v4), .val (.int (1 : Int32)), .val (.int (1 : Int32)), .val (.int v41), .val (.ref b67), .val (.int v181), .val (.int v202), .val .null, .val (.int (-1 : Int32)), .val (.int (-1 : Int32)), .val (.int (0 : Int32)), .val (.int v334), .val (.long v355), .second, .val (.ref b85), .val (.int v384), .val (.int v410), .val (.long v460), .second] []))
          have hi469 : v460.toInt = ((v355 - (1 : Int64))).toInt := (congrArg Int64.toInt hc469)
          refine GoW.st (fun t k => XS.iconst X89.here hx rfl (hb hby at_472) (XS.goto X89.here hx rfl (pc0 := 473) (pc' := 477) rfl (hb hby at_473) (by decide) (by decide) k)) ?_
          show GoW p e below QQ (T89.setTop (mkF m 477 #[.val (.int p1), .val (.int p2), .val (.int p3), .val (.int p4), .val (.long p5), .second, .val (.int v4), .val (.int (1 : Int32)), .val (.int (1 : Int32)), .val (.int v41), .val (.ref b67), .val (.int v181), .val (.int v202), .val .null, .val (.int (-1 : Int32)), .val (.int (-1 : Int32)), .val (.int (0 : Int32)), .val (.int v334), .val (.long v355), .second, .val (.ref b85), .val (.int v384), .val (.int v410), .val (.long v460), .second] [(.int (1 : Int32))]))
          exact GoW.fin X89 (some (.int (nar .boolean (1 : Int32)))) (fun q => by rw [hret] at q; cases q) hlk hQ hh89 ⟨rfl, N89⟩ (by decide) (by decide) (fun fs hr => retN X89 hx (t := .boolean) hret (by simp) (hb hby at_477) hr)
        · skip
          refine GoW.st (fun t k => XS.ifNo X83.here hx rfl (hb hby at_338) rfl ((if0 _ _).trans (flt hc338).2.2.1) k) ?_
          show GoW p e below QQ (T83.setTop (mkF m 341 #[.val (.int p1), .val (.int p2), .val (.int p3), .val (.int p4), .val (.long p5), .second, .val (.int v4), .val (.int (1 : Int32)), .val (.int (1 : Int32)), .val (.int v41), .val (.ref b67), .val (.int v181), .val (.int v202), .val .null, .val (.int (-1 : Int32)), .val (.int (-1 : Int32)), .val (.int (0 : Int32)), .val (.int v334), .unset, .unset, .unset, .unset, .unset, .unset, .unset] []))
          have hi338 : ¬ (0 < v334.toInt) := (fun q => hc338 (Int32.lt_iff_toInt_lt.mpr q))
          refine GoW.st (fun t k => XS.iconst X83.here hx rfl (hb hby at_341) k) ?_
          show GoW p e below QQ (T83.setTop (mkF m 342 #[.val (.int p1), .val (.int p2), .val (.int p3), .val (.int p4), .val (.long p5), .second, .val (.int v4), .val (.int (1 : Int32)), .val (.int (1 : Int32)), .val (.int v41), .val (.ref b67), .val (.int v181), .val (.int v202), .val .null, .val (.int (-1 : Int32)), .val (.int (-1 : Int32)), .val (.int (0 : Int32)), .val (.int v334), .unset, .unset, .unset, .unset, .unset, .unset, .unset] [(.int (1 : Int32))]))
          exact GoW.fin X83 (some (.int (nar .boolean (1 : Int32)))) (fun q => by rw [hret] at q; cases q) hlk hQ e83 ⟨rfl, N83⟩ (by decide) (by decide) (fun fs hr => retN X83 hx (t := .boolean) hret (by simp) (hb hby at_342) hr)
set_option maxRecDepth 65536 in
set_option maxHeartbeats 40000000 in
theorem comes_1 {Post : Tables → Env → Array Value → State → Outcome → State → Prop} (hpost : ∀ tb e args s v u, (limb_1_1.after args s (.returned v) u = true ∧ limb_1_2.after args s (.returned v) u = true ∧ True) → FrameEnd s (.returned v) u (Jvm.fieldLocs frame_1_writes args s ++ Jvm.arrayLocs frame_1_arrays args s ++ Jvm.staticLocs frame_1_statics s) 16 128 → Post tb e args s (.returned v) u) :
    ArmFor flags0 classFile x code maxLocals ret World_1 tables_1 room_1 Calls_1 rest_1 Pre_1 Post := by
  intro l hfl _ _ p e ha hc hk s m args below hf hA hF happ hP
  obtain ⟨hcalls, hrest, hpre⟩ := hP
  obtain ⟨-, -, -, hnamed, -, -, -, hat⟩ := (Spec.applies_iff hf).mp happ
  obtain ⟨hg, hn⟩ := and_e (Cond.before_iff.mp (show (Jvm.Cond.and given_1 narrow_1).before args s = true from hpre))
  obtain ⟨gcount, gr0⟩ := and_e hg
  obtain ⟨ga0, gr1⟩ := and_e gr0
  obtain ⟨ga1, gr2⟩ := and_e gr1
  obtain ⟨ga2, gr3⟩ := and_e gr2
  obtain ⟨ga3, gr4⟩ := and_e gr3
  obtain ⟨w0, w1, w2, w3, w4, rfl⟩ : ∃ w0 w1 w2 w3 w4 : Value, args = #[w0, w1, w2, w3, w4] := by
    have hs : args.size = 5 := by simpa [Cond.value, given_1] using gcount
    obtain ⟨L⟩ := args
    match L, hs with
    | [w0, w1, w2, w3, w4], _ => exact ⟨w0, w1, w2, w3, w4, rfl⟩
  have hw := fun d (hd : d ∈ tables_1) => atoms_spec (ws := Jvm.Cond.code x code maxLocals ret :: tables_1) hat d (List.mem_cons_of_mem _ hd)
  obtain ⟨i0, ei0⟩ := is_v ga0
  obtain rfl : w0 = (.int i0) := Option.some.inj ei0
  obtain ⟨i1, ei1⟩ := is_v ga1
  obtain rfl : w1 = (.int i1) := Option.some.inj ei1
  obtain ⟨i2, ei2⟩ := is_v ga2
  obtain rfl : w2 = (.int i2) := Option.some.inj ei2
  obtain ⟨i3, ei3⟩ := is_v ga3
  obtain rfl : w3 = (.int i3) := Option.some.inj ei3
  obtain ⟨i4, ei4⟩ := isL_v gr4
  obtain rfl : w4 = (.long i4) := Option.some.inj ei4
  obtain ⟨n, o, h1, h2, h3, _, L, rfl, ⟨rfl, N⟩, hq⟩ := rm0 l s _ hw tables_1 i0 i1 i2 i3 i4 s.heap s.heap.size (Nat.le_refl _) (Nat.le_refl _) p e ha hc hk s m _ below hf ((Spec.applies_iff_loose hf).mp happ).1 ⟨rfl, State.Warmed39.refl s, rfl⟩ trivial
  refine ⟨n, _, h1, h2, h3, hpost _ _ _ _ _ _ ⟨Cond.after_iff.mpr rfl, Cond.after_iff.mpr (eq_i res_at (Term.int_eval (1)) rfl), trivial⟩ ⟨hq.1, hq.2.1, (hq.2.2.sift fun y hy => Or.inr (N y hy)).mono (by decide) (by decide)⟩⟩
theorem main_1_1 : Claimed_1_1 := comes_1 fun _ _ _ _ _ _ h hF => ⟨h.1, hF⟩
theorem main_1_2 : Claimed_1_2 := comes_1 fun _ _ _ _ _ _ h hF => ⟨h.2.1, hF⟩
end Jvm.Pilot.@@N@@
namespace Jvm.Pilot.@@N@@
open Jvm Jvm.ClassFile Sem Op Lib Jvm.Free Jvm.Stand Jvm.Pilot.@@N@@.Jvm.D
/-! MADE BY PROGRAM (witnessworld.py) out of the Statement's table words and the real class files: 11 classes; the members and pool entries that the words name. The judged class is class 1, her method 1. -/
namespace start1
open Jvm.ClassFile
def u (s : String) : CpInfo := .utf8 (stringToUtf16 s)
/-- a pool by its gaps: so many unusable entries, then the entry; so many at the end -/
def gap : Nat → List CpInfo → List CpInfo
  | 0, r => r
  | n + 1, r => .unusable :: gap n r
def poolList (es : List (Nat × CpInfo)) (last : Nat) : List CpInfo := es.foldr (fun e r => gap e.1 (e.2 :: r)) (gap last [])
def pool (es : List (Nat × CpInfo)) (last : Nat) : Array CpInfo := ⟨poolList es last⟩
def fileOf (pool : Array CpInfo) (this : Nat) (attrs : Array Attribute := #[]) (ms : Array MethodInfo := #[]) (fl : Nat := 33) (sup : Nat := 0) (ifs : Array Nat := #[]) (fds : Array FieldInfo := #[]) : ClassFile where
  minorVersion := 0
  majorVersion := 65
  constantPool := pool
  accessFlags := fl
  thisClass := this
  superClass := sup
  interfaces := ifs
  fields := fds
  methods := ms
  attributes := attrs
def plain (name : String) (sup : Option ClassId) : Class where
  name := name
  kind := .ordinary
  loader := none
  accessFlags := 33
  super := sup
  interfaces := #[]
  cf := none
  fields := #[]
  methods := #[]
  instanceTypes := #[]
  staticTypes := #[]
  resolved := #[]
  callSites := []
  init := .initialized
  statics := none
  mirror := none

def pool0 : Array CpInfo := pool [(5, u "<init>"), (0, u "()V"), (1, .class_ 10), (1, u "java/lang/Object")] 113

def k0c0 : Code := { maxStack := 0, maxLocals := 1, code := object_method_1_code, exceptionTable := #[], attributes := #[] }
def k0m0 : Method := { name := "<init>", desc := "()V", sig := { parameters := [], returnType := none }, accessFlags := 1, code := some k0c0 }
/-- java/lang/Object -/
def k0 : Class := { plain "java/lang/Object" none with
  accessFlags := 33
  interfaces := #[]
  cf := some (fileOf pool0 8 #[] #[{ accessFlags := 1, nameIndex := 5, descriptorIndex := 6, attributes := #[] }] 33 0 #[] #[])
  fields := #[]
  methods := #[k0m0]
  instanceTypes := #[]
  staticTypes := #[]
  resolved := Array.replicate 124 none
  statics := none }

def pool1 : Array CpInfo := pool [(2, .class_ 4), (1, u "java/lang/Object"), (0, u "<init>"), (0, u "()V"), (0, .integer 2147483647), (2, .integer 2147483631), (0, .methodref 12 13), (0, .class_ 14), (0, .nameAndType 15 16), (0, u "java/lang/Math"), (0, u "min"), (0, u "(II)I"), (0, .methodref 12 18), (0, .nameAndType 19 16), (0, u "max"), (2, .long 9223372036854775807), (1, .class_ 25), (0, u "com/example/hike/hike/Proximity$Group"), (0, .methodref 24 27), (0, .nameAndType 5 28), (0, u "(I[IIIZ[I)V"), (0, .methodref 24 30), (0, .nameAndType 31 32), (0, u "at"), (0, u "(J)I"), (0, .class_ 34), (0, u "com/example/hike/hike/GroupAtPinLaw"), (2, u "law"), (0, u "(IIIIJ)Z")] 9

def k1m0 : Method := { name := "<init>", desc := "()V", sig := { parameters := [], returnType := none }, accessFlags := 1, code := none }
def k1c1 : Code := { maxStack := 8, maxLocals := 25, code := code, exceptionTable := #[], attributes := #[] }
def k1m1 : Method := { name := "law", desc := "(IIIIJ)Z", sig := { parameters := [.int, .int, .int, .int, .long], returnType := some .boolean }, accessFlags := 9, code := some k1c1 }
/-- com/example/hike/hike/GroupAtPinLaw -/
def k1 : Class := { plain "com/example/hike/hike/GroupAtPinLaw" (some 0) with
  accessFlags := 49
  interfaces := #[]
  cf := some (fileOf pool1 33 #[] #[{ accessFlags := 1, nameIndex := 5, descriptorIndex := 6, attributes := #[] }, { accessFlags := 9, nameIndex := 37, descriptorIndex := 38, attributes := #[] }] 49 2 #[] #[])
  fields := #[]
  methods := #[k1m0, k1m1]
  instanceTypes := #[]
  staticTypes := #[]
  resolved := Array.replicate 48 none
  statics := none }

def pool2 : Array CpInfo := pool [(1, .class_ 2), (0, u "java/lang/Math"), (1, .class_ 6), (1, u "java/lang/Object"), (0, u "<init>"), (0, u "()V"), (89, .class_ 100), (1, u "java/lang/Math$RandomNumberGeneratorHolder"), (71, u "negativeZeroFloatBits"), (0, u "J"), (2, u "negativeZeroDoubleBits"), (21, u "max"), (2, u "min"), (43, u "$assertionsDisabled"), (0, u "Z"), (88, u "(II)I"), (2, u "twoToTheDoubleScaleDown"), (0, u "D"), (4, u "twoToTheDoubleScaleUp"), (9, u "E"), (3, u "PI"), (2, u "TAU"), (2, u "DEGREES_TO_RADIANS"), (0, u "RADIANS_TO_DEGREES")] 94

def k2m0 : Method := { name := "<init>", desc := "()V", sig := { parameters := [], returnType := none }, accessFlags := 2, code := none }
def k2c1 : Code := { maxStack := 2, maxLocals := 2, code := jdk_29_method_65_code, exceptionTable := #[], attributes := #[] }
def k2m1 : Method := { name := "max", desc := "(II)I", sig := { parameters := [.int, .int], returnType := some .int }, accessFlags := 9, code := some k2c1 }
def k2c2 : Code := { maxStack := 2, maxLocals := 2, code := jdk_29_method_69_code, exceptionTable := #[], attributes := #[] }
def k2m2 : Method := { name := "min", desc := "(II)I", sig := { parameters := [.int, .int], returnType := some .int }, accessFlags := 9, code := some k2c2 }
/-- java/lang/Math -/
def k2 : Class := { plain "java/lang/Math" (some 0) with
  accessFlags := 49
  interfaces := #[]
  cf := some (fileOf pool2 1 #[.nestMembers #[98]] #[{ accessFlags := 2, nameIndex := 7, descriptorIndex := 8, attributes := #[] }, { accessFlags := 9, nameIndex := 198, descriptorIndex := 335, attributes := #[] }, { accessFlags := 9, nameIndex := 201, descriptorIndex := 335, attributes := #[] }] 49 4 #[] #[{ accessFlags := 25, nameIndex := 354, descriptorIndex := 339, attributes := #[] }, { accessFlags := 25, nameIndex := 358, descriptorIndex := 339, attributes := #[] }, { accessFlags := 25, nameIndex := 361, descriptorIndex := 339, attributes := #[] }, { accessFlags := 26, nameIndex := 364, descriptorIndex := 339, attributes := #[] }, { accessFlags := 26, nameIndex := 365, descriptorIndex := 339, attributes := #[] }, { accessFlags := 26, nameIndex := 172, descriptorIndex := 173, attributes := #[] }, { accessFlags := 26, nameIndex := 176, descriptorIndex := 173, attributes := #[] }, { accessFlags := 8, nameIndex := 344, descriptorIndex := 339, attributes := #[] }, { accessFlags := 8, nameIndex := 338, descriptorIndex := 339, attributes := #[] }, { accessFlags := 4120, nameIndex := 245, descriptorIndex := 246, attributes := #[] }])
  fields := #[{ name := "E", type := .double, accessFlags := 25, slot := 0, constantValue := 0 }, { name := "PI", type := .double, accessFlags := 25, slot := 1, constantValue := 0 }, { name := "TAU", type := .double, accessFlags := 25, slot := 2, constantValue := 0 }, { name := "DEGREES_TO_RADIANS", type := .double, accessFlags := 26, slot := 3, constantValue := 0 }, { name := "RADIANS_TO_DEGREES", type := .double, accessFlags := 26, slot := 4, constantValue := 0 }, { name := "negativeZeroFloatBits", type := .long, accessFlags := 26, slot := 5, constantValue := 0 }, { name := "negativeZeroDoubleBits", type := .long, accessFlags := 26, slot := 6, constantValue := 0 }, { name := "twoToTheDoubleScaleUp", type := .double, accessFlags := 8, slot := 7, constantValue := 0 }, { name := "twoToTheDoubleScaleDown", type := .double, accessFlags := 8, slot := 8, constantValue := 0 }, { name := "$assertionsDisabled", type := .boolean, accessFlags := 4120, slot := 9, constantValue := 0 }]
  methods := #[k2m0, k2m1, k2m2]
  instanceTypes := #[]
  staticTypes := #[.double, .double, .double, .double, .double, .long, .long, .double, .double, .boolean]
  resolved := Array.replicate 460 none
  statics := none }

def pool3 : Array CpInfo := pool [(1, .methodref 2 3), (0, .class_ 4), (0, .nameAndType 5 6), (0, u "java/lang/Object"), (0, u "<init>"), (0, u "()V"), (0, .class_ 8), (0, u "java/lang/Record")] 13

def k3c0 : Code := { maxStack := 1, maxLocals := 1, code := jdk_30_method_1_code, exceptionTable := #[], attributes := #[] }
def k3m0 : Method := { name := "<init>", desc := "()V", sig := { parameters := [], returnType := none }, accessFlags := 4, code := some k3c0 }
/-- java/lang/Record -/
def k3 : Class := { plain "java/lang/Record" (some 0) with
  accessFlags := 1057
  interfaces := #[]
  cf := some (fileOf pool3 7 #[] #[{ accessFlags := 4, nameIndex := 5, descriptorIndex := 6, attributes := #[] }] 1057 2 #[] #[])
  fields := #[]
  methods := #[k3m0]
  instanceTypes := #[]
  staticTypes := #[]
  resolved := Array.replicate 22 none
  statics := none }

def pool4 : Array CpInfo := pool [(1, .methodref 2 3), (0, .class_ 4), (0, .nameAndType 5 6), (0, u "java/lang/Record"), (0, u "<init>"), (0, u "()V"), (0, .fieldref 8 9), (0, .class_ 10), (0, .nameAndType 11 12), (0, u "com/example/hike/hike/Proximity$Group"), (0, u "context"), (0, u "I"), (0, .fieldref 8 14), (0, .nameAndType 15 16), (0, u "order"), (0, u "[I"), (0, .fieldref 8 18), (0, .nameAndType 19 12), (0, u "from"), (0, .fieldref 8 21), (0, .nameAndType 22 12), (0, u "to"), (0, .fieldref 8 24), (0, .nameAndType 25 26), (0, u "reverse"), (0, u "Z"), (0, .fieldref 8 28), (0, .nameAndType 29 16), (0, u "skipped"), (8, u "(I[IIIZ[I)V"), (6, u "at"), (0, u "(J)I"), (81, .class_ 129), (0, u "com/example/hike/hike/Proximity")] 24

def k4c0 : Code := { maxStack := 2, maxLocals := 7, code := prog_102_method_1_code, exceptionTable := #[], attributes := #[] }
def k4m0 : Method := { name := "<init>", desc := "(I[IIIZ[I)V", sig := { parameters := [.int, (.array .int), .int, .int, .boolean, (.array .int)], returnType := none }, accessFlags := 0, code := some k4c0 }
def k4c1 : Code := { maxStack := 4, maxLocals := 5, code := prog_102_method_5_code, exceptionTable := #[], attributes := #[] }
def k4m1 : Method := { name := "at", desc := "(J)I", sig := { parameters := [.long], returnType := some .int }, accessFlags := 0, code := some k4c1 }
/-- com/example/hike/hike/Proximity$Group -/
def k4 : Class := { plain "com/example/hike/hike/Proximity$Group" (some 3) with
  accessFlags := 48
  interfaces := #[]
  cf := some (fileOf pool4 8 #[.nestHost 128] #[{ accessFlags := 0, nameIndex := 5, descriptorIndex := 38, attributes := #[] }, { accessFlags := 0, nameIndex := 45, descriptorIndex := 46, attributes := #[] }] 48 2 #[] #[{ accessFlags := 18, nameIndex := 11, descriptorIndex := 12, attributes := #[] }, { accessFlags := 18, nameIndex := 15, descriptorIndex := 16, attributes := #[] }, { accessFlags := 18, nameIndex := 19, descriptorIndex := 12, attributes := #[] }, { accessFlags := 18, nameIndex := 22, descriptorIndex := 12, attributes := #[] }, { accessFlags := 18, nameIndex := 25, descriptorIndex := 26, attributes := #[] }, { accessFlags := 18, nameIndex := 29, descriptorIndex := 16, attributes := #[] }])
  fields := #[{ name := "context", type := .int, accessFlags := 18, slot := 0, constantValue := 0 }, { name := "order", type := (.array .int), accessFlags := 18, slot := 1, constantValue := 0 }, { name := "from", type := .int, accessFlags := 18, slot := 2, constantValue := 0 }, { name := "to", type := .int, accessFlags := 18, slot := 3, constantValue := 0 }, { name := "reverse", type := .boolean, accessFlags := 18, slot := 4, constantValue := 0 }, { name := "skipped", type := (.array .int), accessFlags := 18, slot := 5, constantValue := 0 }]
  methods := #[k4m0, k4m1]
  instanceTypes := #[.int, (.array .int), .int, .int, .boolean, (.array .int)]
  staticTypes := #[]
  resolved := Array.replicate 154 none
  statics := none }

def pool5 : Array CpInfo := pool [(1, u "java/lang/Cloneable"), (0, .class_ 1), (0, u "java/lang/Object"), (0, .class_ 3)] 3

/-- java/lang/Cloneable -/
def k5 : Class := { plain "java/lang/Cloneable" (some 0) with
  accessFlags := 1537
  interfaces := #[]
  cf := some (fileOf pool5 2 #[] #[] 1537 4 #[] #[])
  fields := #[]
  methods := #[]
  instanceTypes := #[]
  staticTypes := #[]
  resolved := Array.replicate 8 none
  statics := none }

def pool6 : Array CpInfo := pool [(1, u "java/io/Serializable"), (0, .class_ 1), (0, u "java/lang/Object"), (0, .class_ 3)] 3

/-- java/io/Serializable -/
def k6 : Class := { plain "java/io/Serializable" (some 0) with
  accessFlags := 1537
  interfaces := #[]
  cf := some (fileOf pool6 2 #[] #[] 1537 4 #[] #[])
  fields := #[]
  methods := #[]
  instanceTypes := #[]
  staticTypes := #[]
  resolved := Array.replicate 8 none
  statics := none }

/-- the primitive byte -/
def k7 : Class := { plain "byte" none with kind := .primitive 'B', accessFlags := 0x411 }
/-- [B -/
def k8 : Class := { plain "[B" (some 0) with kind := .array 7 .byte, interfaces := #[5, 6], accessFlags := 1041 }

/-- the primitive int -/
def k9 : Class := { plain "int" none with kind := .primitive 'I', accessFlags := 0x411 }
/-- [I -/
def k10 : Class := { plain "[I" (some 0) with kind := .array 9 .int, interfaces := #[5, 6], accessFlags := 1041 }

def heap : Heap := #[]
def classes : Array Class := #[k0, k1, k2, k3, k4, k5, k6, k7, k8, k9, k10]
def interned : List (Array UInt16 × Addr) := []
def slotsUsed : Nat := 0
def theMethod : MethodId := ⟨1, 1⟩
def args0 : Array Value := #[.int 5, .int 6, .int 7, .int 8, .long 9]
def aboutOver (below : List Frame) : State where
  vm := { classes := classes, interned := interned.toArray }
  heap := heap
  slotsUsed := slotsUsed
  threads := #[{ frames := .invoking theMethod args0 :: below }]
def below0 : List Frame := [.native { method := ⟨0, 0⟩, args := #[] }]
def about1 : State := aboutOver below0
def p0 : Program := .bare "" "" ""
def e0 : Env := launch0.env 0 0 0
theorem w_frames : about1.frames = Frame.invoking theMethod args0 :: below0 := rfl
set_option maxRecDepth 65536 in
theorem w_args : argsFit about1.vm theMethod args0 = true := by decide +kernel
set_option maxRecDepth 65536 in
theorem w_heap : heapFits about1 = true := by decide +kernel
set_option maxRecDepth 65536 in
theorem w_runnable : about1.curStatus? = some .runnable := by decide +kernel
set_option maxRecDepth 65536 in
theorem w_alone : about1.alone = true := by decide +kernel
set_option maxRecDepth 65536 in
theorem w_named : about1.methodNamed? x = some theMethod := by decide +kernel
set_option maxRecDepth 65536 in
theorem w_hears : about1.hears theMethod below0 = true := by decide +kernel
set_option maxRecDepth 65536 in
theorem w_ripe : about1.ripe theMethod args0 below0 = true := by decide +kernel
theorem w_running : about1.status = .running := rfl
set_option maxRecDepth 65536 in
theorem w_room : about1.hasRoom e0.platform room_1 = true :=
  launch0.hasRoom_least _ room_1 (by decide +kernel) (by decide +kernel) (by decide +kernel) (by decide +kernel) (by decide +kernel) (by decide +kernel)
theorem allAtoms_all (ts : List Jvm.Cond) (a : Array Jvm.Value) (st : Jvm.State) : (allAtoms ts).before a st = ts.all (fun c => c.before a st) := by
  induction ts with
  | nil => rfl
  | cons c t ih =>
    show (Jvm.Cond.and c (allAtoms t)).before a st = _
    rw [Jvm.Cond.before_and, ih, List.all_cons]
def words1 : List Jvm.Cond := Jvm.Cond.code x code maxLocals ret :: tables_1
/-- a 'code' word, met by the world's own term for the bytes: nothing is compared byte by byte -/
theorem code_word {y : MethodName} {bytes : ByteArray} {mx : Nat} {rt : Option FieldType} {a : Array Value} {s : State} {m : MethodId} {meth : Method} {c : Code} (h1 : s.methodNamed? y = some m) (h2 : s.vm.method? m = some meth) (h3 : meth.code = some c) (h4 : c.code = bytes)
    (h5 : (c.maxLocals == mx && c.exceptionTable.isEmpty && decide (c.maxStack ≤ mostOperands) && decide (meth.sig.returnType = rt) && !meth.locks && decide (parseMethodDescriptor y.desc = some meth.sig)) = true) : (Jvm.Cond.code y bytes mx rt).before a s = true := by
  simp only [Bool.and_eq_true, beq_iff_eq, Bool.not_eq_true', decide_eq_true_eq] at h5
  obtain ⟨⟨⟨⟨⟨g1, g2⟩, g3⟩, g4⟩, g5⟩, g6⟩ := h5
  simp [Cond.before, Cond.holds, Cond.value, h1, h2, h3, h4, g1, g2, g3, g4, g5, g6]
def isCode : Jvm.Cond → Bool
  | .code _ _ _ _ => true
  | _ => false
theorem all_split {L : List Jvm.Cond} {P : Jvm.Cond → Bool} (h1 : L.all (fun c => isCode c || P c) = true) (h2 : ∀ c ∈ L.filter isCode, P c = true) : L.all P = true := by
  refine List.all_eq_true.mpr fun c hc => ?_
  have h := List.all_eq_true.mp h1 c hc
  rcases Bool.eq_false_or_eq_true (isCode c) with hi | hi
  · exact h2 c (List.mem_filter.mpr ⟨hc, hi⟩)
  · simpa [hi] using h
set_option maxRecDepth 65536 in
theorem w_c0 : (Jvm.Cond.code x code maxLocals ret).before args0 about1 = true := code_word (m := ⟨1, 1⟩) (meth := k1m1) (c := k1c1) (by decide +kernel) rfl rfl rfl (by decide +kernel)
set_option maxRecDepth 65536 in
theorem w_c1 : (Jvm.Cond.code ({ cls := "java/lang/Math", name := "min", desc := "(II)I" } : Jvm.MethodName) jdk_29_method_69_code (2 : Nat) (Option.some Jvm.ClassFile.FieldType.int)).before args0 about1 = true := code_word (m := ⟨2, 2⟩) (meth := k2m2) (c := k2c2) (by decide +kernel) rfl rfl rfl (by decide +kernel)
set_option maxRecDepth 65536 in
theorem w_c2 : (Jvm.Cond.code ({ cls := "com/example/hike/hike/Proximity$Group", name := "<init>", desc := "(I[IIIZ[I)V" } : Jvm.MethodName) prog_102_method_1_code (7 : Nat) (Option.none : Option Jvm.ClassFile.FieldType)).before args0 about1 = true := code_word (m := ⟨4, 0⟩) (meth := k4m0) (c := k4c0) (by decide +kernel) rfl rfl rfl (by decide +kernel)
set_option maxRecDepth 65536 in
theorem w_c3 : (Jvm.Cond.code ({ cls := "java/lang/Record", name := "<init>", desc := "()V" } : Jvm.MethodName) jdk_30_method_1_code (1 : Nat) (Option.none : Option Jvm.ClassFile.FieldType)).before args0 about1 = true := code_word (m := ⟨3, 0⟩) (meth := k3m0) (c := k3c0) (by decide +kernel) rfl rfl rfl (by decide +kernel)
set_option maxRecDepth 65536 in
theorem w_c4 : (Jvm.Cond.code ({ cls := "java/lang/Object", name := "<init>", desc := "()V" } : Jvm.MethodName) object_method_1_code (1 : Nat) (Option.none : Option Jvm.ClassFile.FieldType)).before args0 about1 = true := code_word (m := ⟨0, 0⟩) (meth := k0m0) (c := k0c0) (by decide +kernel) rfl rfl rfl (by decide +kernel)
set_option maxRecDepth 65536 in
theorem w_c5 : (Jvm.Cond.code ({ cls := "com/example/hike/hike/Proximity$Group", name := "at", desc := "(J)I" } : Jvm.MethodName) prog_102_method_5_code (5 : Nat) (Option.some Jvm.ClassFile.FieldType.int)).before args0 about1 = true := code_word (m := ⟨4, 1⟩) (meth := k4m1) (c := k4c1) (by decide +kernel) rfl rfl rfl (by decide +kernel)
set_option maxRecDepth 65536 in
theorem w_c6 : (Jvm.Cond.code ({ cls := "java/lang/Math", name := "max", desc := "(II)I" } : Jvm.MethodName) jdk_29_method_65_code (2 : Nat) (Option.some Jvm.ClassFile.FieldType.int)).before args0 about1 = true := code_word (m := ⟨2, 1⟩) (meth := k2m1) (c := k2c1) (by decide +kernel) rfl rfl rfl (by decide +kernel)
def codes1 : List Jvm.Cond := [Jvm.Cond.code x code maxLocals ret, Jvm.Cond.code ({ cls := "java/lang/Math", name := "min", desc := "(II)I" } : Jvm.MethodName) jdk_29_method_69_code (2 : Nat) (Option.some Jvm.ClassFile.FieldType.int), Jvm.Cond.code ({ cls := "com/example/hike/hike/Proximity$Group", name := "<init>", desc := "(I[IIIZ[I)V" } : Jvm.MethodName) prog_102_method_1_code (7 : Nat) (Option.none : Option Jvm.ClassFile.FieldType), Jvm.Cond.code ({ cls := "java/lang/Record", name := "<init>", desc := "()V" } : Jvm.MethodName) jdk_30_method_1_code (1 : Nat) (Option.none : Option Jvm.ClassFile.FieldType), Jvm.Cond.code ({ cls := "java/lang/Object", name := "<init>", desc := "()V" } : Jvm.MethodName) object_method_1_code (1 : Nat) (Option.none : Option Jvm.ClassFile.FieldType), Jvm.Cond.code ({ cls := "com/example/hike/hike/Proximity$Group", name := "at", desc := "(J)I" } : Jvm.MethodName) prog_102_method_5_code (5 : Nat) (Option.some Jvm.ClassFile.FieldType.int), Jvm.Cond.code ({ cls := "java/lang/Math", name := "max", desc := "(II)I" } : Jvm.MethodName) jdk_29_method_65_code (2 : Nat) (Option.some Jvm.ClassFile.FieldType.int)]
set_option maxRecDepth 65536 in
theorem codes_eq : words1.filter isCode = codes1 := rfl
theorem w_codes : ∀ c ∈ words1.filter isCode, c.before args0 about1 = true := by
  rw [codes_eq]
  intro c hc
  simp only [codes1, List.mem_cons, List.not_mem_nil, or_false] at hc
  rcases hc with rfl | rfl | rfl | rfl | rfl | rfl | rfl
  · exact w_c0
  · exact w_c1
  · exact w_c2
  · exact w_c3
  · exact w_c4
  · exact w_c5
  · exact w_c6
set_option maxRecDepth 65536 in
theorem w_t1 : (words1.take 24).all (fun c => isCode c || c.before args0 about1) = true := by decide +kernel
set_option maxRecDepth 65536 in
theorem w_t2 : (words1.drop 24).all (fun c => isCode c || c.before args0 about1) = true := by decide +kernel
theorem w_tables : (allAtoms (Jvm.Cond.code x code maxLocals ret :: tables_1)).before args0 about1 = true := by
  rw [allAtoms_all]
  show words1.all (fun c => c.before args0 about1) = true
  refine all_split ?_ w_codes
  rw [← List.take_append_drop 24 words1, List.all_append, w_t1, w_t2]
  rfl
set_option maxRecDepth 65536 in
theorem w_case : (Jvm.Cond.and given_1 narrow_1).before args0 about1 = true := by decide +kernel
theorem w_applies : (headSpec (Jvm.Cond.code x code maxLocals ret :: tables_1) room_1).applies x e0.platform about1 = true :=
  (Spec.applies_iff w_frames).mpr ⟨w_running, w_runnable, w_alone, w_named, w_hears, w_ripe, w_room, w_tables⟩
theorem atStart : AtStart classFile x code maxLocals ret World_1 tables_1 room_1 Calls_1 rest_1 Pre_1 launch0 p0 e0 about1 theMethod args0 below0 :=
  ⟨lists_1, trivial, launch0.admits_env _ _ _, launch0.least_env, fairChoices_fair.cas, fairChoices_fair.clock, w_frames, w_args, w_heap, w_applies, trivial, trivial, w_case⟩
end start1
theorem witness_1 : WitnessClaimed_1 := ⟨start1.p0, start1.e0, start1.about1, start1.theMethod, start1.args0, start1.below0, start1.atStart⟩
end Jvm.Pilot.@@N@@
