import JvmDerived
import JvmDerived.Pilot.@@N@@Statement
import JvmDerived.Pilot.@@N@@Code
set_option linter.unusedVariables false
set_option linter.unusedSimpArgs false
namespace Jvm.RoadKit
open Sem ClassFile Op Lib Jvm.Stand Jvm.Free Jvm.LawKit
section Own
variable {p : Program} {l : Launch} {e : Env} {R : Room} {s : State} {m : MethodId} {args : Array Value} {below : List Frame} {meth : Method} {c : Code} {T : State} {locs : List Loc} {cells slots : Nat}
theorem retI (X : Stand p l e R s m args below meth c T locs cells slots) (hx : p.tables.exec = Jvm.exec) {pc : Nat} {Ls : Array Slot} {z : Int32} {rest : List Value} (hret : meth.sig.returnType = some .int) (hd : decode c.code pc = .ok (.ireturn, 1)) {fs : List Frame}
    (hl : ∀ (f : JFrame) (acts : List Action), f.method = m → f.locked = none → f.entered = [] → (doReturn e (T.setTop f) acts (some (.int z))).1 = T.setFrames fs) : Steps p.tables e below (T.setTop (mkF m pc Ls (.int z :: rest))) (T.setFrames fs) := by
  have hm' : T.vm.method? m = some meth := X.method'
  have hn : narrow .int (.int z) = .int z := rfl
  show Steps p.tables e below (T.setTop { method := m, pc := pc, locals := Ls, stack := _ :: rest, locked := none }) _
  jvm_step X.here [X.here.top, hx, hd, hm', hret, hn]
  first | (intro acts; rw [hl _ acts rfl rfl rfl]) | rw [hl _ _ rfl rfl rfl]
  exact Steps.refl _
/-- the run comes from the state A to its end, and the end is as QQ says -/
def GoW (p : Program) (e : Env) (below : List Frame) (QQ : Outcome → State → Prop) (A : State) : Prop :=
  ∃ s₂ o, Steps p.tables e below A s₂ ∧ s₂.status = .running ∧ Ended s₂ below o ∧ QQ o s₂
theorem GoW.st {QQ : Outcome → State → Prop} {A B : State} (h : ∀ t, Steps p.tables e below B t → Steps p.tables e below A t) (g : GoW p e below QQ B) : GoW p e below QQ A := by
  obtain ⟨s₂, o, h1, h2⟩ := g
  exact ⟨s₂, o, h _ h1, h2⟩
/-- what an end with the value v, the heap and the written places must say -/
def EndsW (s : State) (Q : Option Value → Heap → List Loc → Prop) (cl sl : Nat) (QQ : Outcome → State → Prop) : Prop :=
  ∀ (v : Option Value) (L : List Loc) (T : State), Q v T.heap L → FrameEnd s (.returned v) T L cl sl → QQ (.returned v) T
theorem GoW.fin {Q : Option Value → Heap → List Loc → Prop} {cl sl : Nat} {QQ : Outcome → State → Prop} {A : State} (X : Stand p l e R s m args below meth c T locs cells slots) (v : Option Value) (hv : meth.sig.returnType = none → v = none) (hlk : meth.locks = false) (hQ : EndsW s Q cl sl QQ) {h : Heap} (eT : T.heap = h)
    (q : Q v h locs) (hc : cells ≤ cl) (hs : slots ≤ sl)
    (st : ∀ fs, (∀ (f : JFrame) (acts : List Action), f.method = m → f.locked = none → f.entered = [] → (doReturn e (T.setTop f) acts v).1 = T.setFrames fs) → Steps p.tables e below A (T.setFrames fs)) : GoW p e below QQ A := by
  obtain ⟨fs, hr, hrun, hended, hW, hsame⟩ := X.leave (v := v) hv hlk
  subst eT
  exact ⟨_, _, st fs hr, hrun, hended, hQ _ _ _ q ⟨⟨_, rfl⟩, hW, hsame.mono hc hs⟩⟩
theorem met_of {y : MethodName} {bytes : ByteArray} {maxL : Nat} {ret : Option FieldType} {ws : List Cond} {as' : Array Value} {Z : State} {h0 : Heap} {Q : Option Value → Heap → List Loc → Prop} {cl sl : Nat} (hp : plainFor y = true) {Ls : Array Slot} (ef : ∀ m, entryFrame m as' maxL = mkF m 0 Ls [])
    (core : ∀ (p : Program) (e : Env) (s : State) (m : MethodId) (below : List Frame) (meth : Method) (c : Code) (T : State) (QQ : Outcome → State → Prop), p.tables.exec = Jvm.exec → Z.Warmed39 s.vm → c.code = bytes → c.maxLocals = maxL → s.vm.findClass y.cls = some m.cls → meth.name = y.name → meth.sig.returnType = ret → meth.locks = false →
      Stand p l e R s m as' below meth c T [] 0 0 → T.heap = h0 → EndsW s Q cl sl QQ → GoW p e below QQ (T.setTop (mkF m 0 Ls []))) :
    MetFree l y (head1 (Cond.code y bytes maxL ret :: ws) R) (fun a U => a = as' ∧ Z.Warmed39 U.vm ∧ U.heap = h0) (fun _ _ _ _ _ => True) (fun _ U o U' => ∃ v L, o = .returned v ∧ Q v U'.heap L ∧ FrameEnd U o U' L cl sl) := by
  refine MetFree.of_bodySF hp hisR ?_
  intro p e s m args below meth c s₁ Bd hml0 hP hK
  obtain ⟨rfl, hZ, hh⟩ := hP
  obtain ⟨s₂, o, g1, g2, g3, g4⟩ := core p e s m below meth c s₁ (fun o U' => ∃ v L, o = .returned v ∧ Q v U'.heap L ∧ FrameEnd s o U' L cl sl) Bd.exec hZ Bd.bytes hml0 (findClass_of_methodNamed Bd.named) (name_of_methodNamed Bd.named Bd.method).1 Bd.returns Bd.notSynchronized (Stand.of_body Bd) (by rw [← hh, Bd.state]; rfl) (fun v L T q f => ⟨v, L, rfl, q, f⟩)
  exact ⟨s₂, o, castTop (ef m) g1, g2, g3, g4⟩
theorem standUp (X : Stand p l e R s m args below meth c T locs cells slots) {cells' slots' : Nat} (hc : cells ≤ cells') (hs : slots ≤ slots') : Stand p l e R s m args below meth c T locs cells' slots' :=
  { X with same := X.same.mono hc hs }
theorem lremM {g : JFrame} {target : State} (X : Stand p l e R s m args below meth c T locs cells slots) (hx : p.tables.exec = Jvm.exec) (hg : g.method = m) {x y : Int64} {rest : List Value} (hd : decode c.code g.pc = .ok (.lrem, 1)) (hs : g.stack = .long y :: .long x :: rest) (hy : y ≠ 0)
    (hr : Steps p.tables e below (T.setTop { g with pc := g.pc + 1, stack := .long (x % y) :: rest }) target) : Steps p.tables e below (T.setTop g) target := by
  have q : x - x / y * y = x % y := lrem_mod x y
  exact XS.lrem X.here hx hg hd hs hy (by rw [q]; exact hr)
theorem ldVI {Z : State} {h : Heap} {a : Addr} {kc : ClassId} {z j : Int32} {vs : List Value} {dv v : Value} (X : Stand p l e R s m args below meth c T locs cells slots) (hx : p.tables.exec = Jvm.exec) (hZ : Z.Warmed39 s.vm) (eT : T.heap = h) (F : Arv Z h a kc .int z vs dv) (hj : ¬ j < 0 ∧ j < z) (hv : vs.getD j.toNatClampNeg dv = v)
    {g : JFrame} (hg : g.method = m) {rest : List Value} (hs : g.stack = .int j :: .ref a :: rest) (hd : decode c.code g.pc = .ok (.iaload, 1)) (t : State) (k : Steps p.tables e below (T.setTop { g with pc := g.pc + 1, stack := v :: rest }) t) : Steps p.tables e below (T.setTop g) t := by
  obtain ⟨c', A, -, S, -, H, -⟩ := F
  have i := inb_of S hj
  exact X.iaload hx (by rw [eT]; exact A.1) (State.isArrayOf_alike hZ.alike A.2.1) A.2.2 i (H.at i hv) hg hs hd t k
theorem ldVJ {Z : State} {h : Heap} {a : Addr} {kc : ClassId} {z j : Int32} {vs : List Value} {dv v : Value} (X : Stand p l e R s m args below meth c T locs cells slots) (hx : p.tables.exec = Jvm.exec) (hZ : Z.Warmed39 s.vm) (eT : T.heap = h) (F : Arv Z h a kc .long z vs dv) (hj : ¬ j < 0 ∧ j < z) (hv : vs.getD j.toNatClampNeg dv = v)
    {g : JFrame} (hg : g.method = m) {rest : List Value} (hs : g.stack = .int j :: .ref a :: rest) (hd : decode c.code g.pc = .ok (.laload, 1)) (t : State) (k : Steps p.tables e below (T.setTop { g with pc := g.pc + 1, stack := v :: rest }) t) : Steps p.tables e below (T.setTop g) t := by
  obtain ⟨c', A, -, S, -, H, -⟩ := F
  have i := inb_of S hj
  exact X.laload hx (by rw [eT]; exact A.1) (State.isArrayOf_alike hZ.alike A.2.1) A.2.2 i (H.at i hv) hg hs hd t k
theorem ldVB {Z : State} {h : Heap} {a : Addr} {kc : ClassId} {z j : Int32} {vs : List Value} {dv v : Value} (X : Stand p l e R s m args below meth c T locs cells slots) (hx : p.tables.exec = Jvm.exec) (hZ : Z.Warmed39 s.vm) (eT : T.heap = h) (F : Arv Z h a kc .byte z vs dv) (hj : ¬ j < 0 ∧ j < z) (hv : vs.getD j.toNatClampNeg dv = v)
    {g : JFrame} (hg : g.method = m) {rest : List Value} (hs : g.stack = .int j :: .ref a :: rest) (hd : decode c.code g.pc = .ok (.baload, 1)) (t : State) (k : Steps p.tables e below (T.setTop { g with pc := g.pc + 1, stack := v :: rest }) t) : Steps p.tables e below (T.setTop g) t := by
  obtain ⟨c', A, -, S, -, H, -⟩ := F
  have i := inb_of S hj
  exact X.baloadBytes hx (by rw [eT]; exact A.1) (State.isArrayOf_alike hZ.alike A.2.1) A.2.2 i (H.at i hv) hg hs hd t k
theorem stVI {Z : State} {h : Heap} {a : Addr} {kc : ClassId} {z j : Int32} {vs : List Value} {dv : Value} {x : Int32} (X : Stand p l e R s m args below meth c T locs cells slots) (hx : p.tables.exec = Jvm.exec) (hZ : Z.Warmed39 s.vm) (eT : T.heap = h) (F : Arv Z h a kc .int z vs dv) (hj : ¬ j < 0 ∧ j < z) (i : Nat) (hi : j.toNatClampNeg = i) (hl : i < vs.length)
    {g : JFrame} (hg : g.method = m) {rest : List Value} (hs : g.stack = (.int x) :: .int j :: .ref a :: rest) (hd : decode c.code g.pc = .ok (.iastore, 1)) :
    ∃ T' h', Stand p l e R s m args below meth c T' (locs ++ [⟨a, j.toNatClampNeg⟩]) cells slots ∧ T'.heap = h' ∧ Wr h h' a j.toNatClampNeg (.int x) ∧ Arv Z h' a kc .int z (vs.set i (.int x)) dv ∧ ∀ target, Steps p.tables e below (T'.setTop { g with pc := g.pc + 1, stack := rest }) target → Steps p.tables e below (T.setTop g) target := by
  obtain ⟨c', A, q, S, M, H, G⟩ := F
  obtain ⟨T', h', X', e', W', st⟩ := stI X hx hZ eT A (inb_of S hj) hg hs hd
  exact ⟨T', h', X', e', W', Arv.set A q S M H G rfl W' i hi hl, st⟩
theorem stVJ {Z : State} {h : Heap} {a : Addr} {kc : ClassId} {z j : Int32} {vs : List Value} {dv : Value} {x : Int64} (X : Stand p l e R s m args below meth c T locs cells slots) (hx : p.tables.exec = Jvm.exec) (hZ : Z.Warmed39 s.vm) (eT : T.heap = h) (F : Arv Z h a kc .long z vs dv) (hj : ¬ j < 0 ∧ j < z) (i : Nat) (hi : j.toNatClampNeg = i) (hl : i < vs.length)
    {g : JFrame} (hg : g.method = m) {rest : List Value} (hs : g.stack = (.long x) :: .int j :: .ref a :: rest) (hd : decode c.code g.pc = .ok (.lastore, 1)) :
    ∃ T' h', Stand p l e R s m args below meth c T' (locs ++ [⟨a, j.toNatClampNeg⟩]) cells slots ∧ T'.heap = h' ∧ Wr h h' a j.toNatClampNeg (.long x) ∧ Arv Z h' a kc .long z (vs.set i (.long x)) dv ∧ ∀ target, Steps p.tables e below (T'.setTop { g with pc := g.pc + 1, stack := rest }) target → Steps p.tables e below (T.setTop g) target := by
  obtain ⟨c', A, q, S, M, H, G⟩ := F
  obtain ⟨T', h', X', e', W', st⟩ := stJ X hx hZ eT A (inb_of S hj) hg hs hd
  exact ⟨T', h', X', e', W', Arv.set A q S M H G rfl W' i hi hl, st⟩
theorem stVB {Z : State} {h : Heap} {a : Addr} {kc : ClassId} {z j : Int32} {vs : List Value} {dv : Value} {x : Int32} (X : Stand p l e R s m args below meth c T locs cells slots) (hx : p.tables.exec = Jvm.exec) (hZ : Z.Warmed39 s.vm) (eT : T.heap = h) (F : Arv Z h a kc .byte z vs dv) (hj : ¬ j < 0 ∧ j < z) (i : Nat) (hi : j.toNatClampNeg = i) (hl : i < vs.length)
    {g : JFrame} (hg : g.method = m) {rest : List Value} (hs : g.stack = (.int x) :: .int j :: .ref a :: rest) (hd : decode c.code g.pc = .ok (.bastore, 1)) :
    ∃ T' h', Stand p l e R s m args below meth c T' (locs ++ [⟨a, j.toNatClampNeg⟩]) cells slots ∧ T'.heap = h' ∧ Wr h h' a j.toNatClampNeg (.int (nar .byte x)) ∧ Arv Z h' a kc .byte z (vs.set i (.int (nar .byte x))) dv ∧ ∀ target, Steps p.tables e below (T'.setTop { g with pc := g.pc + 1, stack := rest }) target → Steps p.tables e below (T.setTop g) target := by
  obtain ⟨c', A, q, S, M, H, G⟩ := F
  obtain ⟨T', h', X', e', W', st⟩ := stB X hx hZ eT A (inb_of S hj) hg hs hd
  exact ⟨T', h', X', e', W', Arv.set A q S M H G (fits_nar_byte _) W' i hi hl, st⟩
theorem lnV {Z : State} {h : Heap} {a : Addr} {kc : ClassId} {ty : FieldType} {z : Int32} {vs : List Value} {dv : Value} (X : Stand p l e R s m args below meth c T locs cells slots) (hx : p.tables.exec = Jvm.exec) (hZ : Z.Warmed39 s.vm) (eT : T.heap = h) (F : Arv Z h a kc ty z vs dv)
    {g : JFrame} (hg : g.method = m) {rest : List Value} (hs : g.stack = .ref a :: rest) (hd : decode c.code g.pc = .ok (.arraylength, 1)) (t : State) (k : Steps p.tables e below (T.setTop { g with pc := g.pc + 1, stack := .int z :: rest }) t) : Steps p.tables e below (T.setTop g) t := by
  obtain ⟨c', A, -, S, M, -, -⟩ := F
  refine X.arraylength hx (by rw [eT]; exact A.1) (State.isArrayOf_alike hZ.alike A.2.1) hg hs hd t ?_
  rw [len_of S M]; exact k
theorem gdI (vs : List Int32) (d : Int32) (i : Nat) : (vs.map Value.int).getD i (.int d) = .int (vs.getD i d) := by
  induction vs generalizing i with
  | nil => rfl
  | cons a t ih => cases i with
    | zero => rfl
    | succ i => simpa using ih i
theorem gdJ (vs : List Int64) (d : Int64) (i : Nat) : (vs.map Value.long).getD i (.long d) = .long (vs.getD i d) := by
  induction vs generalizing i with
  | nil => rfl
  | cons a t ih => cases i with
    | zero => rfl
    | succ i => simpa using ih i
end Own
end Jvm.RoadKit
namespace Jvm.Pilot.@@N@@
open Jvm Jvm.ClassFile Sem Op Lib Jvm.Free Jvm.Stand Jvm.LawKit Jvm.RoadKit Bundle Jvm.Pilot.@@N@@.Jvm.D
def own_hi (x : Int64) : Int64 := (((x * (2246822519 : Int64)) &&& (4294967295 : Int64)).toUInt64 >>> ((16 : Int32) &&& 0x3f).toInt64.toUInt64).toInt64 % (100 : Int64)
def own_key (x keys sv : Int64) (p : Int32) : Int64 := if own_hi x < p.toInt64 then sv else ((x * (2654435761 : Int64)) &&& (4294967295 : Int64)) % keys
def own_lo (x : Int64) : Int32 := ((x.toInt32 * (-2048144777 : Int32)).toUInt32 >>> ((16 : Int32) &&& 31).toUInt32).toInt32 % (100 : Int32)
def own_want (x keys sv : Int64) (p : Int32) : Int64 := if own_lo x < p then sv else ((x.toInt32 * (-1640531535 : Int32)).toInt64 &&& (4294967295 : Int64)) % keys
theorem own_mix (x A : Int64) (B : Int32) (a b : Int) (hA : A.toInt = a) (hB : B.toInt = b) (hab : (a - b) % 4294967296 = 0) : (x * A).toInt % 4294967296 = (x.toInt32 * B).toInt % 4294967296 := by
  have h1 := c_lmul x A
  have h2 := c_imul x.toInt32 B
  have h3 := c_l2i x
  rw [hA] at h1
  rw [hB] at h2
  have e1 : (x * A).toInt % 4294967296 = (x.toInt * a) % 4294967296 := by omega
  have e2 : (x.toInt32 * B).toInt % 4294967296 = (x.toInt32.toInt * b) % 4294967296 := by omega
  rw [e1, e2, Int.mul_emod, Int.mul_emod x.toInt32.toInt b, show x.toInt32.toInt % 4294967296 = x.toInt % 4294967296 by omega, show a % 4294967296 = b % 4294967296 by omega]
theorem own_lem (x d : Int64) (k : Int) (hd : d.toInt = k) (h : 0 ≤ x.toInt) : (x % d).toInt = x.toInt % k := by
  rw [← lrem_mod]; exact (c_lrem x d k hd).1 h
theorem own_a1 (y : Int64) : (y &&& (4294967295 : Int64)).toInt = y.toInt % 4294967296 := c_maskL y 4294967295 32 (by decide) rfl
theorem own_a2 (y : Int64) : ((y.toUInt64 >>> ((16 : Int32) &&& 0x3f).toInt64.toUInt64).toInt64).toInt = (y.toInt % 18446744073709551616) / 65536 := c_lushr y 16 16 rfl (by decide)
theorem own_a3 (y : Int32) : ((y.toUInt32 >>> ((16 : Int32) &&& 31).toUInt32).toInt32).toInt = (y.toInt % 4294967296) / 65536 := c_iushr y 16 16 rfl (by decide)
theorem own_a4 (y : Int64) (h : 0 ≤ y.toInt) : (y % (100 : Int64)).toInt = y.toInt % 100 := own_lem y 100 100 rfl h
theorem own_a5 (y : Int32) (h : 0 ≤ y.toInt) : (y % (100 : Int32)).toInt = y.toInt % 100 := (c_irem y 100 100 rfl).1 h
theorem own_m1 (x : Int64) : (x * (2246822519 : Int64)).toInt % 4294967296 = (x.toInt32 * (-2048144777 : Int32)).toInt % 4294967296 := own_mix x 2246822519 (-2048144777) 2246822519 (-2048144777) rfl rfl (by decide)
theorem own_m2 (x : Int64) : (x * (2654435761 : Int64)).toInt % 4294967296 = (x.toInt32 * (-1640531535 : Int32)).toInt % 4294967296 := own_mix x 2654435761 (-1640531535) 2654435761 (-1640531535) rfl rfl (by decide)
theorem own_hl (a b : Int) (h : a % 4294967296 = b % 4294967296) : ((a % 4294967296) % 18446744073709551616) / 65536 = (b % 4294967296) / 65536 := by omega
theorem own_hnn (a : Int) : 0 ≤ ((a % 4294967296) % 18446744073709551616) / 65536 := by omega
theorem own_hnn2 (a : Int) : 0 ≤ (a % 4294967296) / 65536 := by omega
theorem own_hlo (x : Int64) : (own_hi x).toInt = (own_lo x).toInt := by
  rw [own_hi, own_lo]
  have u1 := own_a2 ((x * (2246822519 : Int64)) &&& (4294967295 : Int64))
  rw [own_a1] at u1
  have u2 := own_a3 (x.toInt32 * (-2048144777 : Int32))
  rw [own_a4 _ (by rw [u1]; exact own_hnn _), own_a5 _ (by rw [u2]; exact own_hnn2 _), u1, u2, own_hl _ _ (own_m1 x)]
theorem own_bb (x : Int64) : (x * (2654435761 : Int64)) &&& (4294967295 : Int64) = (x.toInt32 * (-1640531535 : Int32)).toInt64 &&& (4294967295 : Int64) := by
  apply Int64.toInt_inj.mp
  rw [own_a1, own_a1, c_i2l]; exact own_m2 x
theorem own_same (x keys sv : Int64) (p : Int32) : own_key x keys sv p = own_want x keys sv p := by
  have hc : own_hi x < p.toInt64 ↔ own_lo x < p := by
    rw [Int64.lt_iff_toInt_lt, Int32.lt_iff_toInt_lt, c_i2l, own_hlo]
  rw [own_key, own_want]
  by_cases h : own_lo x < p
  · rw [if_pos h, if_pos (hc.mpr h)]
  · rw [if_neg h, if_neg (fun q => h (hc.mp q)), own_bb]
theorem own_bounds (x : Int64) : 0 ≤ (if (9223372036854775806 : Int64) < (x &&& (9223372036854775807 : Int64)) then (9223372036854775806 : Int64) else (x &&& (9223372036854775807 : Int64))).toInt ∧ (if (9223372036854775806 : Int64) < (x &&& (9223372036854775807 : Int64)) then (9223372036854775806 : Int64) else (x &&& (9223372036854775807 : Int64))).toInt ≤ 9223372036854775806 := by
  have h := (c_andSL x 9223372036854775807).2.2 (by decide)
  have z : (9223372036854775806 : Int64).toInt = 9223372036854775806 := rfl
  split
  · rw [z]; omega
  · rename_i q
    rw [Int64.lt_iff_toInt_lt, z] at q; omega
theorem pn_0 : plainName "java/lang/Record" = true := by first | (simp [plainName, overriddenIn]; done) | decide +kernel
theorem d4_0 : decode jdk_30_method_1_code 0 = .ok (.aload_n 0, 1) := by decide +kernel
theorem d4_1 : decode jdk_30_method_1_code 1 = .ok (.invokespecial 1, 3) := by decide +kernel
theorem d4_4 : decode jdk_30_method_1_code 4 = .ok (.return_, 1) := by decide +kernel
def RM4 : Room := { frames := 1, cells := 0, slots := 0, locals := 12 }
def Q4 (Z : State) (a1 : Addr) (h0 : Heap) (n0 : Nat) (v : Option Value) (h : Heap) (L : List Loc) : Prop := v = none ∧ Fr n0 L ∧ h = h0
set_option maxRecDepth 65536 in
set_option maxHeartbeats 40000000 in
theorem rm4 (l : Launch) (Z : State) (a0 : Array Value) (hw : ∀ d ∈ tables_1, d.before a0 Z = true) (ws : List Jvm.Cond) (a1 : Addr) (h0 : Heap) (n0 : Nat) (Z0 : n0 ≤ h0.size)  :
    MetFree l (⟨"java/lang/Record", "<init>", "()V"⟩ : MethodName) (head1 (Jvm.Cond.code (⟨"java/lang/Record", "<init>", "()V"⟩ : MethodName) jdk_30_method_1_code 1 none :: ws) RM4) (fun a U => a = #[(.ref a1)] ∧ Z.Warmed39 U.vm ∧ U.heap = h0) (fun _ _ _ _ _ => True) (fun _ U o U' => ∃ v L, o = .returned v ∧ Q4 Z a1 h0 n0 v U'.heap L ∧ FrameEnd U o U' L RM4.cells RM4.slots) := by
  refine met_of (Q := fun v h L => Q4 Z a1 h0 n0 v h L) (plainFor_of_name pn_0) (fun m => by first | (simp [entryFrame, mkF, argsToLocals, Value.category]; done) | rfl) (Ls := #[.val (.ref a1)]) ?_
  intro p e s m below meth c T0 QQ hx hZ hby hml hown hnm hret hlk X0 e0 hQ
  have hml : c.maxLocals = 1 := hml
  have hown : s.vm.findClass "java/lang/Record" = some m.cls := hown
  have hnm : meth.name = "<init>" := hnm
  have hret : meth.sig.returnType = none := hret
  have N0 := Fr.nil n0
  have K0 : Keep h0 h0 [] := Keep.refl h0 _
  show GoW p e below QQ (T0.setTop (mkF m 0 #[.val (.ref a1)] []))
  refine GoW.st (fun t k => XS.aloadN X0.here hx rfl (hb hby d4_0) rfl rfl k) ?_
  show GoW p e below QQ (T0.setTop (mkF m 1 #[.val (.ref a1)] [(.ref a1)]))
  obtain ⟨T1, X1, e1, st1⟩ := initO X0 hx hZ hown (hw _ (List.mem_of_getElem? (i := 21) rfl)) (hw _ (List.mem_of_getElem? (i := 22) rfl)) (hw _ (List.mem_of_getElem? (i := 23) rfl)) e0 (g := (mkF m 1 #[.val (.ref a1)] [(.ref a1)])) rfl (by rw [hml]; rfl) rfl (hb hby d4_1) (by decide) (W := 0) (by show 2 * 0 + _ ≤ _; exact Nat.le_of_eq rfl) (by decide)
  refine GoW.st st1 ?_
  show GoW p e below QQ (T1.setTop (mkF m 4 #[.val (.ref a1)] []))
  exact GoW.fin X1 none (fun _ => rfl) hlk hQ e1 ⟨rfl, N0, rfl⟩ (by decide) (by decide) (fun fs hr => X1.returnOut hx hret (hb hby d4_4) hr)
def own_minL (x y : Int64) : Int64 := if y < x then y else x
theorem d1_0 : decode jdk_29_method_70_code 0 = .ok (.lload_n 0, 1) := by decide +kernel
theorem d1_1 : decode jdk_29_method_70_code 1 = .ok (.lload_n 2, 1) := by decide +kernel
theorem d1_2 : decode jdk_29_method_70_code 2 = .ok (.lcmp, 1) := by decide +kernel
theorem d1_3 : decode jdk_29_method_70_code 3 = .ok (.ifCond .gt 7, 3) := by decide +kernel
theorem d1_10 : decode jdk_29_method_70_code 10 = .ok (.lload_n 2, 1) := by decide +kernel
theorem d1_11 : decode jdk_29_method_70_code 11 = .ok (.lreturn, 1) := by decide +kernel
theorem d1_6 : decode jdk_29_method_70_code 6 = .ok (.lload_n 0, 1) := by decide +kernel
theorem d1_7 : decode jdk_29_method_70_code 7 = .ok (.goto 4, 3) := by decide +kernel
def RM1 : Room := { frames := 0, cells := 0, slots := 0, locals := 0 }
def Q1 (Z : State) (q1 : Int64) (q2 : Int64) (h0 : Heap) (n0 : Nat) (v : Option Value) (h : Heap) (L : List Loc) : Prop := v = some (.long (own_minL q1 q2)) ∧ Fr n0 L ∧ h = h0
set_option maxRecDepth 65536 in
set_option maxHeartbeats 40000000 in
theorem rm1 (l : Launch) (Z : State) (a0 : Array Value) (hw : ∀ d ∈ tables_1, d.before a0 Z = true) (ws : List Jvm.Cond) (q1 : Int64) (q2 : Int64) (h0 : Heap) (n0 : Nat) (Z0 : n0 ≤ h0.size)  :
    MetFree l (⟨"java/lang/Math", "min", "(JJ)J"⟩ : MethodName) (head1 (Jvm.Cond.code (⟨"java/lang/Math", "min", "(JJ)J"⟩ : MethodName) jdk_29_method_70_code 4 (some .long) :: ws) RM1) (fun a U => a = #[(.long q1), (.long q2)] ∧ Z.Warmed39 U.vm ∧ U.heap = h0) (fun _ _ _ _ _ => True) (fun _ U o U' => ∃ v L, o = .returned v ∧ Q1 Z q1 q2 h0 n0 v U'.heap L ∧ FrameEnd U o U' L RM1.cells RM1.slots) := by
  refine met_of (Q := fun v h L => Q1 Z q1 q2 h0 n0 v h L) (Jvm.Free.JP.mathPlain rfl (by decide +kernel)) (fun m => by first | (simp [entryFrame, mkF, argsToLocals, Value.category]; done) | rfl) (Ls := #[.val (.long q1), .second, .val (.long q2), .second]) ?_
  intro p e s m below meth c T0 QQ hx hZ hby hml hown hnm hret hlk X0 e0 hQ
  have hml : c.maxLocals = 4 := hml
  have hown : s.vm.findClass "java/lang/Math" = some m.cls := hown
  have hnm : meth.name = "min" := hnm
  have hret : meth.sig.returnType = some .long := hret
  have N0 := Fr.nil n0
  have K0 : Keep h0 h0 [] := Keep.refl h0 _
  show GoW p e below QQ (T0.setTop (mkF m 0 #[.val (.long q1), .second, .val (.long q2), .second] []))
  refine GoW.st (fun t k => XS.lloadN X0.here hx rfl (hb hby d1_0) rfl (XS.lloadN X0.here hx rfl (hb hby d1_1) rfl (XS.lcmp X0.here hx rfl (hb hby d1_2) rfl k))) ?_
  show GoW p e below QQ (T0.setTop (mkF m 3 #[.val (.long q1), .second, .val (.long q2), .second] [(.int (lcmpW q1 q2))]))
  by_cases hc3 : q2 < q1
  · skip
    refine GoW.st (fun t k => XS.ifYes X0.here hx rfl (pc0 := 3) (pc' := 10) rfl (hb hby d1_3) rfl ((if0 _ _).trans (tlt ((lw_gt q1 q2).mpr hc3)).2.2.1) (by decide) (by decide) (XS.lloadN X0.here hx rfl (hb hby d1_10) rfl k)) ?_
    show GoW p e below QQ (T0.setTop (mkF m 11 #[.val (.long q1), .second, .val (.long q2), .second] [(.long q2)]))
    have rv : ((some (.long q2)) : Option Value) = some (.long (own_minL q1 q2)) := by
      rw [own_minL, if_pos hc3]
      all_goals first | rfl | (simp; done)
    exact GoW.fin X0 (some (.long q2)) (fun q => by rw [hret] at q; cases q) hlk hQ e0 ⟨rv, N0, rfl⟩ (by decide) (by decide) (fun fs hr => retOut X0 hx hret rfl (Or.inr (Or.inl ⟨rfl, rfl, _, rfl⟩)) (hb hby d1_11) hr)
  · skip
    refine GoW.st (fun t k => XS.ifNo X0.here hx rfl (hb hby d1_3) rfl ((if0 _ _).trans (flt (fun q => hc3 ((lw_gt q1 q2).mp q))).2.2.1) (XS.lloadN X0.here hx rfl (hb hby d1_6) rfl (XS.goto X0.here hx rfl (pc0 := 7) (pc' := 11) rfl (hb hby d1_7) (by decide) (by decide) k))) ?_
    show GoW p e below QQ (T0.setTop (mkF m 11 #[.val (.long q1), .second, .val (.long q2), .second] [(.long q1)]))
    have rv : ((some (.long q1)) : Option Value) = some (.long (own_minL q1 q2)) := by
      rw [own_minL, if_neg hc3]
      all_goals first | rfl | (simp; done)
    exact GoW.fin X0 (some (.long q1)) (fun q => by rw [hret] at q; cases q) hlk hQ e0 ⟨rv, N0, rfl⟩ (by decide) (by decide) (fun fs hr => retOut X0 hx hret rfl (Or.inr (Or.inl ⟨rfl, rfl, _, rfl⟩)) (hb hby d1_11) hr)
def own_maxL (x y : Int64) : Int64 := if x < y then y else x
theorem d2_0 : decode jdk_29_method_66_code 0 = .ok (.lload_n 0, 1) := by decide +kernel
theorem d2_1 : decode jdk_29_method_66_code 1 = .ok (.lload_n 2, 1) := by decide +kernel
theorem d2_2 : decode jdk_29_method_66_code 2 = .ok (.lcmp, 1) := by decide +kernel
theorem d2_3 : decode jdk_29_method_66_code 3 = .ok (.ifCond .lt 7, 3) := by decide +kernel
theorem d2_10 : decode jdk_29_method_66_code 10 = .ok (.lload_n 2, 1) := by decide +kernel
theorem d2_11 : decode jdk_29_method_66_code 11 = .ok (.lreturn, 1) := by decide +kernel
theorem d2_6 : decode jdk_29_method_66_code 6 = .ok (.lload_n 0, 1) := by decide +kernel
theorem d2_7 : decode jdk_29_method_66_code 7 = .ok (.goto 4, 3) := by decide +kernel
def RM2 : Room := { frames := 0, cells := 0, slots := 0, locals := 0 }
def Q2 (Z : State) (q1 : Int64) (q2 : Int64) (h0 : Heap) (n0 : Nat) (v : Option Value) (h : Heap) (L : List Loc) : Prop := v = some (.long (own_maxL q1 q2)) ∧ Fr n0 L ∧ h = h0
set_option maxRecDepth 65536 in
set_option maxHeartbeats 40000000 in
theorem rm2 (l : Launch) (Z : State) (a0 : Array Value) (hw : ∀ d ∈ tables_1, d.before a0 Z = true) (ws : List Jvm.Cond) (q1 : Int64) (q2 : Int64) (h0 : Heap) (n0 : Nat) (Z0 : n0 ≤ h0.size)  :
    MetFree l (⟨"java/lang/Math", "max", "(JJ)J"⟩ : MethodName) (head1 (Jvm.Cond.code (⟨"java/lang/Math", "max", "(JJ)J"⟩ : MethodName) jdk_29_method_66_code 4 (some .long) :: ws) RM2) (fun a U => a = #[(.long q1), (.long q2)] ∧ Z.Warmed39 U.vm ∧ U.heap = h0) (fun _ _ _ _ _ => True) (fun _ U o U' => ∃ v L, o = .returned v ∧ Q2 Z q1 q2 h0 n0 v U'.heap L ∧ FrameEnd U o U' L RM2.cells RM2.slots) := by
  refine met_of (Q := fun v h L => Q2 Z q1 q2 h0 n0 v h L) (Jvm.Free.JP.mathPlain rfl (by decide +kernel)) (fun m => by first | (simp [entryFrame, mkF, argsToLocals, Value.category]; done) | rfl) (Ls := #[.val (.long q1), .second, .val (.long q2), .second]) ?_
  intro p e s m below meth c T0 QQ hx hZ hby hml hown hnm hret hlk X0 e0 hQ
  have hml : c.maxLocals = 4 := hml
  have hown : s.vm.findClass "java/lang/Math" = some m.cls := hown
  have hnm : meth.name = "max" := hnm
  have hret : meth.sig.returnType = some .long := hret
  have N0 := Fr.nil n0
  have K0 : Keep h0 h0 [] := Keep.refl h0 _
  show GoW p e below QQ (T0.setTop (mkF m 0 #[.val (.long q1), .second, .val (.long q2), .second] []))
  refine GoW.st (fun t k => XS.lloadN X0.here hx rfl (hb hby d2_0) rfl (XS.lloadN X0.here hx rfl (hb hby d2_1) rfl (XS.lcmp X0.here hx rfl (hb hby d2_2) rfl k))) ?_
  show GoW p e below QQ (T0.setTop (mkF m 3 #[.val (.long q1), .second, .val (.long q2), .second] [(.int (lcmpW q1 q2))]))
  by_cases hc3 : q1 < q2
  · skip
    refine GoW.st (fun t k => XS.ifYes X0.here hx rfl (pc0 := 3) (pc' := 10) rfl (hb hby d2_3) rfl ((if0 _ _).trans (tlt ((lw_lt q1 q2).mpr hc3)).1) (by decide) (by decide) (XS.lloadN X0.here hx rfl (hb hby d2_10) rfl k)) ?_
    show GoW p e below QQ (T0.setTop (mkF m 11 #[.val (.long q1), .second, .val (.long q2), .second] [(.long q2)]))
    have rv : ((some (.long q2)) : Option Value) = some (.long (own_maxL q1 q2)) := by
      rw [own_maxL, if_pos hc3]
      all_goals first | rfl | (simp; done)
    exact GoW.fin X0 (some (.long q2)) (fun q => by rw [hret] at q; cases q) hlk hQ e0 ⟨rv, N0, rfl⟩ (by decide) (by decide) (fun fs hr => retOut X0 hx hret rfl (Or.inr (Or.inl ⟨rfl, rfl, _, rfl⟩)) (hb hby d2_11) hr)
  · skip
    refine GoW.st (fun t k => XS.ifNo X0.here hx rfl (hb hby d2_3) rfl ((if0 _ _).trans (flt (fun q => hc3 ((lw_lt q1 q2).mp q))).1) (XS.lloadN X0.here hx rfl (hb hby d2_6) rfl (XS.goto X0.here hx rfl (pc0 := 7) (pc' := 11) rfl (hb hby d2_7) (by decide) (by decide) k))) ?_
    show GoW p e below QQ (T0.setTop (mkF m 11 #[.val (.long q1), .second, .val (.long q2), .second] [(.long q1)]))
    have rv : ((some (.long q1)) : Option Value) = some (.long (own_maxL q1 q2)) := by
      rw [own_maxL, if_neg hc3]
      all_goals first | rfl | (simp; done)
    exact GoW.fin X0 (some (.long q1)) (fun q => by rw [hret] at q; cases q) hlk hQ e0 ⟨rv, N0, rfl⟩ (by decide) (by decide) (fun fs hr => retOut X0 hx hret rfl (Or.inr (Or.inl ⟨rfl, rfl, _, rfl⟩)) (hb hby d2_11) hr)
theorem pn_1 : plainName "com/example/evenkeel/evenkeel/GeneratedInput" = true := by first | (simp [plainName, overriddenIn]; done) | decide +kernel
theorem d3_0 : decode prog_5_method_1_code 0 = .ok (.aload_n 0, 1) := by decide +kernel
theorem d3_1 : decode prog_5_method_1_code 1 = .ok (.invokespecial 1, 3) := by decide +kernel
theorem pd_0 : parseMethodDescriptor "()V" = some ⟨[], none⟩ := by decide +kernel
theorem d3_4 : decode prog_5_method_1_code 4 = .ok (.lload_n 1, 1) := by decide +kernel
theorem d3_5 : decode prog_5_method_1_code 5 = .ok (.lconst 1, 1) := by decide +kernel
theorem d3_6 : decode prog_5_method_1_code 6 = .ok (.lcmp, 1) := by decide +kernel
theorem d3_7 : decode prog_5_method_1_code 7 = .ok (.ifCond .ge 17, 3) := by decide +kernel
theorem d3_24 : decode prog_5_method_1_code 24 = .ok (.lload_n 3, 1) := by decide +kernel
theorem d3_25 : decode prog_5_method_1_code 25 = .ok (.lconst 1, 1) := by decide +kernel
theorem d3_26 : decode prog_5_method_1_code 26 = .ok (.lcmp, 1) := by decide +kernel
theorem d3_27 : decode prog_5_method_1_code 27 = .ok (.ifCond .ge 17, 3) := by decide +kernel
theorem d3_44 : decode prog_5_method_1_code 44 = .ok (.iload 7, 2) := by decide +kernel
theorem d3_46 : decode prog_5_method_1_code 46 = .ok (.ifCond .lt 10, 3) := by decide +kernel
theorem d3_49 : decode prog_5_method_1_code 49 = .ok (.iload 7, 2) := by decide +kernel
theorem d3_51 : decode prog_5_method_1_code 51 = .ok (.bipush 100, 2) := by decide +kernel
theorem d3_53 : decode prog_5_method_1_code 53 = .ok (.if_icmp .le 18, 3) := by decide +kernel
theorem d3_71 : decode prog_5_method_1_code 71 = .ok (.aload_n 0, 1) := by decide +kernel
theorem d3_72 : decode prog_5_method_1_code 72 = .ok (.lload_n 1, 1) := by decide +kernel
theorem d3_73 : decode prog_5_method_1_code 73 = .ok (.putfield 20, 3) := by decide +kernel
theorem d3_76 : decode prog_5_method_1_code 76 = .ok (.aload_n 0, 1) := by decide +kernel
theorem d3_77 : decode prog_5_method_1_code 77 = .ok (.lload_n 3, 1) := by decide +kernel
theorem d3_78 : decode prog_5_method_1_code 78 = .ok (.putfield 26, 3) := by decide +kernel
theorem d3_81 : decode prog_5_method_1_code 81 = .ok (.aload_n 0, 1) := by decide +kernel
theorem d3_82 : decode prog_5_method_1_code 82 = .ok (.lload 5, 2) := by decide +kernel
theorem d3_84 : decode prog_5_method_1_code 84 = .ok (.putfield 29, 3) := by decide +kernel
theorem d3_87 : decode prog_5_method_1_code 87 = .ok (.aload_n 0, 1) := by decide +kernel
theorem d3_88 : decode prog_5_method_1_code 88 = .ok (.iload 7, 2) := by decide +kernel
theorem d3_90 : decode prog_5_method_1_code 90 = .ok (.putfield 32, 3) := by decide +kernel
theorem d3_93 : decode prog_5_method_1_code 93 = .ok (.return_, 1) := by decide +kernel
def RM3 : Room := { frames := 2, cells := 0, slots := 0, locals := 24 }
def Q3 (Z : State) (a1 : Addr) (q1 : Int64) (q2 : Int64) (q3 : Int64) (p4 : Int32) (h0 : Heap) (n0 : Nat) (v : Option Value) (h : Heap) (L : List Loc) : Prop := v = none ∧ Fr n0 L ∧ Keep h0 h [a1] ∧ (Exa Z h a1 "com/example/evenkeel/evenkeel/GeneratedInput") ∧ (Fld Z h a1 "com/example/evenkeel/evenkeel/GeneratedInput" "rows" "J" (.long q1)) ∧ (Fld Z h a1 "com/example/evenkeel/evenkeel/GeneratedInput" "keys" "J" (.long q2)) ∧ (Fld Z h a1 "com/example/evenkeel/evenkeel/GeneratedInput" "skewValue" "J" (.long q3)) ∧ (Fld Z h a1 "com/example/evenkeel/evenkeel/GeneratedInput" "skewPercent" "I" (.int p4))
set_option maxRecDepth 65536 in
set_option maxHeartbeats 40000000 in
theorem rm3 (l : Launch) (Z : State) (a0 : Array Value) (hw : ∀ d ∈ tables_1, d.before a0 Z = true) (ws : List Jvm.Cond) (a1 : Addr) (q1 : Int64) (q2 : Int64) (q3 : Int64) (p4 : Int32) (h0 : Heap) (n0 : Nat) (Z0 : n0 ≤ h0.size) (pre_E_a1 : Exa Z h0 a1 "com/example/evenkeel/evenkeel/GeneratedInput") (pre_g_a1 : n0 ≤ a1) (pre_F_a1_rows : Fld Z h0 a1 "com/example/evenkeel/evenkeel/GeneratedInput" "rows" "J" (.long (0 : Int64))) (pre_F_a1_keys : Fld Z h0 a1 "com/example/evenkeel/evenkeel/GeneratedInput" "keys" "J" (.long (0 : Int64))) (pre_F_a1_skewValue : Fld Z h0 a1 "com/example/evenkeel/evenkeel/GeneratedInput" "skewValue" "J" (.long (0 : Int64))) (pre_F_a1_skewPercent : Fld Z h0 a1 "com/example/evenkeel/evenkeel/GeneratedInput" "skewPercent" "I" (.int (0 : Int32))) (hp1 : ¬ q1 < (1 : Int64)) (hp2 : ¬ q2 < (1 : Int64)) (hp3 : ¬ p4 < (0 : Int32)) (hp4 : ¬ (100 : Int32) < p4) :
    MetFree l (⟨"com/example/evenkeel/evenkeel/GeneratedInput", "<init>", "(JJJI)V"⟩ : MethodName) (head1 (Jvm.Cond.code (⟨"com/example/evenkeel/evenkeel/GeneratedInput", "<init>", "(JJJI)V"⟩ : MethodName) prog_5_method_1_code 8 none :: ws) RM3) (fun a U => a = #[(.ref a1), (.long q1), (.long q2), (.long q3), (.int p4)] ∧ Z.Warmed39 U.vm ∧ U.heap = h0) (fun _ _ _ _ _ => True) (fun _ U o U' => ∃ v L, o = .returned v ∧ Q3 Z a1 q1 q2 q3 p4 h0 n0 v U'.heap L ∧ FrameEnd U o U' L RM3.cells RM3.slots) := by
  refine met_of (Q := fun v h L => Q3 Z a1 q1 q2 q3 p4 h0 n0 v h L) (plainFor_of_name pn_1) (fun m => by first | (simp [entryFrame, mkF, argsToLocals, Value.category]; done) | rfl) (Ls := #[.val (.ref a1), .val (.long q1), .second, .val (.long q2), .second, .val (.long q3), .second, .val (.int p4)]) ?_
  intro p e s m below meth c T0 QQ hx hZ hby hml hown hnm hret hlk X0 e0 hQ
  have hml : c.maxLocals = 8 := hml
  have hown : s.vm.findClass "com/example/evenkeel/evenkeel/GeneratedInput" = some m.cls := hown
  have hnm : meth.name = "<init>" := hnm
  have hret : meth.sig.returnType = none := hret
  have N0 := Fr.nil n0
  have K0 : Keep h0 h0 [a1] := Keep.refl h0 _
  show GoW p e below QQ (T0.setTop (mkF m 0 #[.val (.ref a1), .val (.long q1), .second, .val (.long q2), .second, .val (.long q3), .second, .val (.int p4)] []))
  refine GoW.st (fun t k => XS.aloadN X0.here hx rfl (hb hby d3_0) rfl rfl k) ?_
  show GoW p e below QQ (T0.setTop (mkF m 1 #[.val (.ref a1), .val (.long q1), .second, .val (.long q2), .second, .val (.long q3), .second, .val (.int p4)] [(.ref a1)]))
  obtain ⟨_, _, ⟨T1, zL1, zk1, zn1⟩, -, X1, ⟨Lc1, hQ1, zl1, zy1, zz1⟩, st1⟩ := X0.specialBack hx (y := (⟨"java/lang/Record", "<init>", "()V"⟩ : MethodName)) rfl hown (mvT hZ (hw _ (List.mem_of_getElem? (i := 16) rfl))) (mvT hZ (hw _ (List.mem_of_getElem? (i := 17) rfl))) (mvT hZ (hw _ (List.mem_of_getElem? (i := 20) rfl))) (by decide) (backOf (W := 0) (rm4 l Z a0 hw [] a1 h0 n0 (Nat.le_trans Z0 K0.1) ) hZ (hw _ (List.mem_of_getElem? (i := 20) rfl)) (hw _ (List.mem_of_getElem? (i := 19) rfl)) (by decide) (by decide)) (g := (mkF m 1 #[.val (.ref a1), .val (.long q1), .second, .val (.long q2), .second, .val (.long q3), .second, .val (.int p4)] [(.ref a1)])) rfl (by rw [hml]; rfl) (Steps.refl _) (a := a1) (argsL := []) (rest := []) (lenOf pd_0 rfl) rfl (by show 2 * 0 + _ ≤ _; exact Nat.le_of_eq rfl) (hb hby d3_1) (fun _ _ => ⟨rfl, e0, (by decide : 0 + 0 ≤ _), (by decide : 0 + 0 ≤ _)⟩)
  dsimp only [Pt.U, Pt.locs, Pt.cells, Pt.slots] at X1 zl1 zy1 zz1 st1 hQ1
  subst zl1 zy1 zz1
  obtain ⟨rfl, Nq1, hh1⟩ := hQ1
  have N1 := Fr.app N0 Nq1
  refine GoW.st (fun t k => st1.trans k) ?_
  show GoW p e below QQ (T1.setTop (mkF m 4 #[.val (.ref a1), .val (.long q1), .second, .val (.long q2), .second, .val (.long q3), .second, .val (.int p4)] []))
  refine GoW.st (fun t k => XS.lloadN X1.here hx rfl (hb hby d3_4) rfl (XS.lconst X1.here hx rfl (hb hby d3_5) (XS.lcmp X1.here hx rfl (hb hby d3_6) rfl k))) ?_
  show GoW p e below QQ (T1.setTop (mkF m 7 #[.val (.ref a1), .val (.long q1), .second, .val (.long q2), .second, .val (.long q3), .second, .val (.int p4)] [(.int (lcmpW q1 (1 : Int64)))]))
  have hc7 : ¬ (q1 < (1 : Int64)) := by
    exact hp1
  refine GoW.st (fun t k => XS.ifYes X1.here hx rfl (pc0 := 7) (pc' := 24) rfl (hb hby d3_7) rfl ((if0 _ _).trans (flt (fun q => hc7 ((lw_lt q1 (1 : Int64)).mp q))).2.1) (by decide) (by decide) (XS.lloadN X1.here hx rfl (hb hby d3_24) rfl (XS.lconst X1.here hx rfl (hb hby d3_25) (XS.lcmp X1.here hx rfl (hb hby d3_26) rfl k)))) ?_
  show GoW p e below QQ (T1.setTop (mkF m 27 #[.val (.ref a1), .val (.long q1), .second, .val (.long q2), .second, .val (.long q3), .second, .val (.int p4)] [(.int (lcmpW q2 (1 : Int64)))]))
  have hc27 : ¬ (q2 < (1 : Int64)) := by
    exact hp2
  refine GoW.st (fun t k => XS.ifYes X1.here hx rfl (pc0 := 27) (pc' := 44) rfl (hb hby d3_27) rfl ((if0 _ _).trans (flt (fun q => hc27 ((lw_lt q2 (1 : Int64)).mp q))).2.1) (by decide) (by decide) (XS.iload X1.here hx rfl (hb hby d3_44) rfl k)) ?_
  show GoW p e below QQ (T1.setTop (mkF m 46 #[.val (.ref a1), .val (.long q1), .second, .val (.long q2), .second, .val (.long q3), .second, .val (.int p4)] [(.int p4)]))
  have hc46 : ¬ (p4 < (0 : Int32)) := by
    exact hp3
  refine GoW.st (fun t k => XS.ifNo X1.here hx rfl (hb hby d3_46) rfl ((if0 _ _).trans (flt hc46).1) (XS.iload X1.here hx rfl (hb hby d3_49) rfl (XS.bipush X1.here hx rfl (hb hby d3_51) k))) ?_
  show GoW p e below QQ (T1.setTop (mkF m 53 #[.val (.ref a1), .val (.long q1), .second, .val (.long q2), .second, .val (.long q3), .second, .val (.int p4)] [(.int (100 : Int32)), (.int p4)]))
  have hc53 : ¬ ((100 : Int32) < p4) := by
    exact hp4
  refine GoW.st (fun t k => XS.icmpYes X1.here hx rfl (pc0 := 53) (pc' := 71) rfl (hb hby d3_53) rfl (flt hc53).2.2.2 (by decide) (by decide) (XS.aloadN X1.here hx rfl (hb hby d3_71) rfl rfl (XS.lloadN X1.here hx rfl (hb hby d3_72) rfl k))) ?_
  show GoW p e below QQ (T1.setTop (mkF m 73 #[.val (.ref a1), .val (.long q1), .second, .val (.long q2), .second, .val (.long q3), .second, .val (.int p4)] [(.long q1), (.ref a1)]))
  obtain ⟨T2, h2, X2, e2, W2, st2⟩ := putF X1 hx hZ hown (host := "") (Or.inl (hw _ (List.mem_of_getElem? (i := 24) rfl))) Via.refl hh1 pre_F_a1_rows pre_E_a1 (Or.inr ⟨(hw _ (List.mem_of_getElem? (i := 25) rfl)), rfl, hnm⟩) (hw _ (List.mem_of_getElem? (i := 11) rfl)) (ty := .long) (by decide) rfl rfl (g := (mkF m 73 #[.val (.ref a1), .val (.long q1), .second, .val (.long q2), .second, .val (.long q3), .second, .val (.int p4)] [(.long q1), (.ref a1)])) rfl rfl (hb hby d3_73)
  refine GoW.st st2 ?_
  have f3_E_a1 : Exa Z h2 a1 "com/example/evenkeel/evenkeel/GeneratedInput" := pre_E_a1.wr W2
  have f3_F_a1_rows : Fld Z h2 a1 "com/example/evenkeel/evenkeel/GeneratedInput" "rows" "J" (.long q1) := pre_F_a1_rows.same W2
  have f3_F_a1_keys : Fld Z h2 a1 "com/example/evenkeel/evenkeel/GeneratedInput" "keys" "J" (.long (0 : Int64)) := pre_F_a1_keys.other W2 (Or.inr (slot_ne (Or.inr (hw _ (List.mem_of_getElem? (i := 27) rfl))) (Or.inr (hw _ (List.mem_of_getElem? (i := 25) rfl))) (by decide) (t := .long) (t' := .long) (by decide) (by decide)))
  have f3_F_a1_skewValue : Fld Z h2 a1 "com/example/evenkeel/evenkeel/GeneratedInput" "skewValue" "J" (.long (0 : Int64)) := pre_F_a1_skewValue.other W2 (Or.inr (slot_ne (Or.inr (hw _ (List.mem_of_getElem? (i := 29) rfl))) (Or.inr (hw _ (List.mem_of_getElem? (i := 25) rfl))) (by decide) (t := .long) (t' := .long) (by decide) (by decide)))
  have f3_F_a1_skewPercent : Fld Z h2 a1 "com/example/evenkeel/evenkeel/GeneratedInput" "skewPercent" "I" (.int (0 : Int32)) := pre_F_a1_skewPercent.other W2 (Or.inr (slot_ne (Or.inr (hw _ (List.mem_of_getElem? (i := 31) rfl))) (Or.inr (hw _ (List.mem_of_getElem? (i := 25) rfl))) (by decide) (t := .int) (t' := .long) (by decide) (by decide)))
  have K2 : Keep h0 h2 [a1] := K0.wr W2 (Or.inl (List.mem_of_getElem? (i := 0) rfl))
  have N2 := Fr.snoc X2 N1 pre_g_a1
  show GoW p e below QQ (T2.setTop (mkF m 76 #[.val (.ref a1), .val (.long q1), .second, .val (.long q2), .second, .val (.long q3), .second, .val (.int p4)] []))
  refine GoW.st (fun t k => XS.aloadN X2.here hx rfl (hb hby d3_76) rfl rfl (XS.lloadN X2.here hx rfl (hb hby d3_77) rfl k)) ?_
  show GoW p e below QQ (T2.setTop (mkF m 78 #[.val (.ref a1), .val (.long q1), .second, .val (.long q2), .second, .val (.long q3), .second, .val (.int p4)] [(.long q2), (.ref a1)]))
  obtain ⟨T4, h4, X4, e4, W4, st4⟩ := putF X2 hx hZ hown (host := "") (Or.inl (hw _ (List.mem_of_getElem? (i := 26) rfl))) Via.refl e2 f3_F_a1_keys f3_E_a1 (Or.inr ⟨(hw _ (List.mem_of_getElem? (i := 27) rfl)), rfl, hnm⟩) (hw _ (List.mem_of_getElem? (i := 11) rfl)) (ty := .long) (by decide) rfl rfl (g := (mkF m 78 #[.val (.ref a1), .val (.long q1), .second, .val (.long q2), .second, .val (.long q3), .second, .val (.int p4)] [(.long q2), (.ref a1)])) rfl rfl (hb hby d3_78)
  refine GoW.st st4 ?_
  have f5_E_a1 : Exa Z h4 a1 "com/example/evenkeel/evenkeel/GeneratedInput" := f3_E_a1.wr W4
  have f5_F_a1_rows : Fld Z h4 a1 "com/example/evenkeel/evenkeel/GeneratedInput" "rows" "J" (.long q1) := f3_F_a1_rows.other W4 (Or.inr (slot_ne (Or.inr (hw _ (List.mem_of_getElem? (i := 25) rfl))) (Or.inr (hw _ (List.mem_of_getElem? (i := 27) rfl))) (by decide) (t := .long) (t' := .long) (by decide) (by decide)))
  have f5_F_a1_keys : Fld Z h4 a1 "com/example/evenkeel/evenkeel/GeneratedInput" "keys" "J" (.long q2) := f3_F_a1_keys.same W4
  have f5_F_a1_skewValue : Fld Z h4 a1 "com/example/evenkeel/evenkeel/GeneratedInput" "skewValue" "J" (.long (0 : Int64)) := f3_F_a1_skewValue.other W4 (Or.inr (slot_ne (Or.inr (hw _ (List.mem_of_getElem? (i := 29) rfl))) (Or.inr (hw _ (List.mem_of_getElem? (i := 27) rfl))) (by decide) (t := .long) (t' := .long) (by decide) (by decide)))
  have f5_F_a1_skewPercent : Fld Z h4 a1 "com/example/evenkeel/evenkeel/GeneratedInput" "skewPercent" "I" (.int (0 : Int32)) := f3_F_a1_skewPercent.other W4 (Or.inr (slot_ne (Or.inr (hw _ (List.mem_of_getElem? (i := 31) rfl))) (Or.inr (hw _ (List.mem_of_getElem? (i := 27) rfl))) (by decide) (t := .int) (t' := .long) (by decide) (by decide)))
  have K4 : Keep h0 h4 [a1] := K2.wr W4 (Or.inl (List.mem_of_getElem? (i := 0) rfl))
  have N4 := Fr.snoc X4 N2 pre_g_a1
  show GoW p e below QQ (T4.setTop (mkF m 81 #[.val (.ref a1), .val (.long q1), .second, .val (.long q2), .second, .val (.long q3), .second, .val (.int p4)] []))
  refine GoW.st (fun t k => XS.aloadN X4.here hx rfl (hb hby d3_81) rfl rfl (XS.lload X4.here hx rfl (hb hby d3_82) rfl k)) ?_
  show GoW p e below QQ (T4.setTop (mkF m 84 #[.val (.ref a1), .val (.long q1), .second, .val (.long q2), .second, .val (.long q3), .second, .val (.int p4)] [(.long q3), (.ref a1)]))
  obtain ⟨T6, h6, X6, e6, W6, st6⟩ := putF X4 hx hZ hown (host := "") (Or.inl (hw _ (List.mem_of_getElem? (i := 28) rfl))) Via.refl e4 f5_F_a1_skewValue f5_E_a1 (Or.inr ⟨(hw _ (List.mem_of_getElem? (i := 29) rfl)), rfl, hnm⟩) (hw _ (List.mem_of_getElem? (i := 11) rfl)) (ty := .long) (by decide) rfl rfl (g := (mkF m 84 #[.val (.ref a1), .val (.long q1), .second, .val (.long q2), .second, .val (.long q3), .second, .val (.int p4)] [(.long q3), (.ref a1)])) rfl rfl (hb hby d3_84)
  refine GoW.st st6 ?_
  have f7_E_a1 : Exa Z h6 a1 "com/example/evenkeel/evenkeel/GeneratedInput" := f5_E_a1.wr W6
  have f7_F_a1_rows : Fld Z h6 a1 "com/example/evenkeel/evenkeel/GeneratedInput" "rows" "J" (.long q1) := f5_F_a1_rows.other W6 (Or.inr (slot_ne (Or.inr (hw _ (List.mem_of_getElem? (i := 25) rfl))) (Or.inr (hw _ (List.mem_of_getElem? (i := 29) rfl))) (by decide) (t := .long) (t' := .long) (by decide) (by decide)))
  have f7_F_a1_keys : Fld Z h6 a1 "com/example/evenkeel/evenkeel/GeneratedInput" "keys" "J" (.long q2) := f5_F_a1_keys.other W6 (Or.inr (slot_ne (Or.inr (hw _ (List.mem_of_getElem? (i := 27) rfl))) (Or.inr (hw _ (List.mem_of_getElem? (i := 29) rfl))) (by decide) (t := .long) (t' := .long) (by decide) (by decide)))
  have f7_F_a1_skewValue : Fld Z h6 a1 "com/example/evenkeel/evenkeel/GeneratedInput" "skewValue" "J" (.long q3) := f5_F_a1_skewValue.same W6
  have f7_F_a1_skewPercent : Fld Z h6 a1 "com/example/evenkeel/evenkeel/GeneratedInput" "skewPercent" "I" (.int (0 : Int32)) := f5_F_a1_skewPercent.other W6 (Or.inr (slot_ne (Or.inr (hw _ (List.mem_of_getElem? (i := 31) rfl))) (Or.inr (hw _ (List.mem_of_getElem? (i := 29) rfl))) (by decide) (t := .int) (t' := .long) (by decide) (by decide)))
  have K6 : Keep h0 h6 [a1] := K4.wr W6 (Or.inl (List.mem_of_getElem? (i := 0) rfl))
  have N6 := Fr.snoc X6 N4 pre_g_a1
  show GoW p e below QQ (T6.setTop (mkF m 87 #[.val (.ref a1), .val (.long q1), .second, .val (.long q2), .second, .val (.long q3), .second, .val (.int p4)] []))
  refine GoW.st (fun t k => XS.aloadN X6.here hx rfl (hb hby d3_87) rfl rfl (XS.iload X6.here hx rfl (hb hby d3_88) rfl k)) ?_
  show GoW p e below QQ (T6.setTop (mkF m 90 #[.val (.ref a1), .val (.long q1), .second, .val (.long q2), .second, .val (.long q3), .second, .val (.int p4)] [(.int p4), (.ref a1)]))
  obtain ⟨T8, h8, X8, e8, W8, st8⟩ := putF X6 hx hZ hown (host := "") (Or.inl (hw _ (List.mem_of_getElem? (i := 30) rfl))) Via.refl e6 f7_F_a1_skewPercent f7_E_a1 (Or.inr ⟨(hw _ (List.mem_of_getElem? (i := 31) rfl)), rfl, hnm⟩) (hw _ (List.mem_of_getElem? (i := 11) rfl)) (ty := .int) (by decide) rfl rfl (g := (mkF m 90 #[.val (.ref a1), .val (.long q1), .second, .val (.long q2), .second, .val (.long q3), .second, .val (.int p4)] [(.int p4), (.ref a1)])) rfl rfl (hb hby d3_90)
  refine GoW.st st8 ?_
  have f9_E_a1 : Exa Z h8 a1 "com/example/evenkeel/evenkeel/GeneratedInput" := f7_E_a1.wr W8
  have f9_F_a1_rows : Fld Z h8 a1 "com/example/evenkeel/evenkeel/GeneratedInput" "rows" "J" (.long q1) := f7_F_a1_rows.other W8 (Or.inr (slot_ne (Or.inr (hw _ (List.mem_of_getElem? (i := 25) rfl))) (Or.inr (hw _ (List.mem_of_getElem? (i := 31) rfl))) (by decide) (t := .long) (t' := .int) (by decide) (by decide)))
  have f9_F_a1_keys : Fld Z h8 a1 "com/example/evenkeel/evenkeel/GeneratedInput" "keys" "J" (.long q2) := f7_F_a1_keys.other W8 (Or.inr (slot_ne (Or.inr (hw _ (List.mem_of_getElem? (i := 27) rfl))) (Or.inr (hw _ (List.mem_of_getElem? (i := 31) rfl))) (by decide) (t := .long) (t' := .int) (by decide) (by decide)))
  have f9_F_a1_skewValue : Fld Z h8 a1 "com/example/evenkeel/evenkeel/GeneratedInput" "skewValue" "J" (.long q3) := f7_F_a1_skewValue.other W8 (Or.inr (slot_ne (Or.inr (hw _ (List.mem_of_getElem? (i := 29) rfl))) (Or.inr (hw _ (List.mem_of_getElem? (i := 31) rfl))) (by decide) (t := .long) (t' := .int) (by decide) (by decide)))
  have f9_F_a1_skewPercent : Fld Z h8 a1 "com/example/evenkeel/evenkeel/GeneratedInput" "skewPercent" "I" (.int p4) := f7_F_a1_skewPercent.same W8
  have K8 : Keep h0 h8 [a1] := K6.wr W8 (Or.inl (List.mem_of_getElem? (i := 0) rfl))
  have N8 := Fr.snoc X8 N6 pre_g_a1
  show GoW p e below QQ (T8.setTop (mkF m 93 #[.val (.ref a1), .val (.long q1), .second, .val (.long q2), .second, .val (.long q3), .second, .val (.int p4)] []))
  exact GoW.fin X8 none (fun _ => rfl) hlk hQ e8 ⟨rfl, N8, K8, f9_E_a1, f9_F_a1_rows, f9_F_a1_keys, f9_F_a1_skewValue, f9_F_a1_skewPercent⟩ (by decide) (by decide) (fun fs hr => X8.returnOut hx hret (hb hby d3_93) hr)
theorem d6_0 : decode prog_5_method_2_code 0 = .ok (.lload_n 1, 1) := by decide +kernel
theorem d6_1 : decode prog_5_method_2_code 1 = .ok (.ldc2_w 36, 3) := by decide +kernel
theorem d6_4 : decode prog_5_method_2_code 4 = .ok (.lmul, 1) := by decide +kernel
theorem d6_5 : decode prog_5_method_2_code 5 = .ok (.ldc2_w 38, 3) := by decide +kernel
theorem d6_8 : decode prog_5_method_2_code 8 = .ok (.land, 1) := by decide +kernel
theorem d6_9 : decode prog_5_method_2_code 9 = .ok (.lstore_n 3, 1) := by decide +kernel
theorem d6_10 : decode prog_5_method_2_code 10 = .ok (.lload_n 1, 1) := by decide +kernel
theorem d6_11 : decode prog_5_method_2_code 11 = .ok (.ldc2_w 40, 3) := by decide +kernel
theorem d6_14 : decode prog_5_method_2_code 14 = .ok (.lmul, 1) := by decide +kernel
theorem d6_15 : decode prog_5_method_2_code 15 = .ok (.ldc2_w 38, 3) := by decide +kernel
theorem d6_18 : decode prog_5_method_2_code 18 = .ok (.land, 1) := by decide +kernel
theorem d6_19 : decode prog_5_method_2_code 19 = .ok (.lstore 5, 2) := by decide +kernel
theorem d6_21 : decode prog_5_method_2_code 21 = .ok (.lload_n 3, 1) := by decide +kernel
theorem d6_22 : decode prog_5_method_2_code 22 = .ok (.bipush 16, 2) := by decide +kernel
theorem d6_24 : decode prog_5_method_2_code 24 = .ok (.lushr, 1) := by decide +kernel
theorem d6_25 : decode prog_5_method_2_code 25 = .ok (.ldc2_w 42, 3) := by decide +kernel
theorem d6_28 : decode prog_5_method_2_code 28 = .ok (.lrem, 1) := by decide +kernel
theorem d6_29 : decode prog_5_method_2_code 29 = .ok (.aload_n 0, 1) := by decide +kernel
theorem d6_30 : decode prog_5_method_2_code 30 = .ok (.getfield 32, 3) := by decide +kernel
theorem d6_33 : decode prog_5_method_2_code 33 = .ok (.i2l, 1) := by decide +kernel
theorem d6_34 : decode prog_5_method_2_code 34 = .ok (.lcmp, 1) := by decide +kernel
theorem d6_35 : decode prog_5_method_2_code 35 = .ok (.ifCond .ge 12, 3) := by decide +kernel
theorem d6_38 : decode prog_5_method_2_code 38 = .ok (.aload_n 0, 1) := by decide +kernel
theorem d6_39 : decode prog_5_method_2_code 39 = .ok (.getfield 29, 3) := by decide +kernel
theorem d6_42 : decode prog_5_method_2_code 42 = .ok (.lstore 7, 2) := by decide +kernel
theorem d6_44 : decode prog_5_method_2_code 44 = .ok (.goto 12, 3) := by decide +kernel
theorem d6_56 : decode prog_5_method_2_code 56 = .ok (.lload 7, 2) := by decide +kernel
theorem d6_58 : decode prog_5_method_2_code 58 = .ok (.lreturn, 1) := by decide +kernel
theorem d6_47 : decode prog_5_method_2_code 47 = .ok (.lload 5, 2) := by decide +kernel
theorem d6_49 : decode prog_5_method_2_code 49 = .ok (.aload_n 0, 1) := by decide +kernel
theorem d6_50 : decode prog_5_method_2_code 50 = .ok (.getfield 26, 3) := by decide +kernel
theorem d6_53 : decode prog_5_method_2_code 53 = .ok (.lrem, 1) := by decide +kernel
theorem d6_54 : decode prog_5_method_2_code 54 = .ok (.lstore 7, 2) := by decide +kernel
def RM6 : Room := { frames := 0, cells := 0, slots := 0, locals := 0 }
def Q6 (Z : State) (a1 : Addr) (q1 : Int64) (w1 : Int64) (w2 : Int64) (w3 : Int32) (h0 : Heap) (n0 : Nat) (v : Option Value) (h : Heap) (L : List Loc) : Prop := v = some (.long (own_key q1 w1 w2 w3)) ∧ Fr n0 L ∧ h = h0
set_option maxRecDepth 65536 in
set_option maxHeartbeats 40000000 in
theorem rm6 (l : Launch) (Z : State) (a0 : Array Value) (hw : ∀ d ∈ tables_1, d.before a0 Z = true) (ws : List Jvm.Cond) (a1 : Addr) (q1 : Int64) (w1 : Int64) (w2 : Int64) (w3 : Int32) (h0 : Heap) (n0 : Nat) (Z0 : n0 ≤ h0.size) (pre_F_a1_keys : Fld Z h0 a1 "com/example/evenkeel/evenkeel/GeneratedInput" "keys" "J" (.long w1)) (pre_F_a1_skewValue : Fld Z h0 a1 "com/example/evenkeel/evenkeel/GeneratedInput" "skewValue" "J" (.long w2)) (pre_F_a1_skewPercent : Fld Z h0 a1 "com/example/evenkeel/evenkeel/GeneratedInput" "skewPercent" "I" (.int w3)) (hk : w1 ≠ 0) :
    MetFree l (⟨"com/example/evenkeel/evenkeel/GeneratedInput", "key", "(J)J"⟩ : MethodName) (head1 (Jvm.Cond.code (⟨"com/example/evenkeel/evenkeel/GeneratedInput", "key", "(J)J"⟩ : MethodName) prog_5_method_2_code 9 (some .long) :: ws) RM6) (fun a U => a = #[(.ref a1), (.long q1)] ∧ Z.Warmed39 U.vm ∧ U.heap = h0) (fun _ _ _ _ _ => True) (fun _ U o U' => ∃ v L, o = .returned v ∧ Q6 Z a1 q1 w1 w2 w3 h0 n0 v U'.heap L ∧ FrameEnd U o U' L RM6.cells RM6.slots) := by
  refine met_of (Q := fun v h L => Q6 Z a1 q1 w1 w2 w3 h0 n0 v h L) (plainFor_of_name pn_1) (fun m => by first | (simp [entryFrame, mkF, argsToLocals, Value.category]; done) | rfl) (Ls := #[.val (.ref a1), .val (.long q1), .second, .unset, .unset, .unset, .unset, .unset, .unset]) ?_
  intro p e s m below meth c T0 QQ hx hZ hby hml hown hnm hret hlk X0 e0 hQ
  have hml : c.maxLocals = 9 := hml
  have hown : s.vm.findClass "com/example/evenkeel/evenkeel/GeneratedInput" = some m.cls := hown
  have hnm : meth.name = "key" := hnm
  have hret : meth.sig.returnType = some .long := hret
  have N0 := Fr.nil n0
  have K0 : Keep h0 h0 [] := Keep.refl h0 _
  show GoW p e below QQ (T0.setTop (mkF m 0 #[.val (.ref a1), .val (.long q1), .second, .unset, .unset, .unset, .unset, .unset, .unset] []))
  refine GoW.st (fun t k => XS.lloadN X0.here hx rfl (hb hby d6_0) rfl (X0.ldc2Long hx hown (mvT hZ (hw _ (List.mem_of_getElem? (i := 37) rfl))) (g := (mkF m 1 #[.val (.ref a1), .val (.long q1), .second, .unset, .unset, .unset, .unset, .unset, .unset] [(.long q1)])) rfl (hb hby d6_1) t (XS.lmul X0.here hx rfl (hb hby d6_4) rfl (X0.ldc2Long hx hown (mvT hZ (hw _ (List.mem_of_getElem? (i := 38) rfl))) (g := (mkF m 5 #[.val (.ref a1), .val (.long q1), .second, .unset, .unset, .unset, .unset, .unset, .unset] [(.long (q1 * (2246822519 : Int64)))])) rfl (hb hby d6_5) t (XS.land X0.here hx rfl (hb hby d6_8) rfl (XS.lstoreN X0.here hx rfl (hb hby d6_9) rfl (l' := #[.val (.ref a1), .val (.long q1), .second, .val (.long ((q1 * (2246822519 : Int64)) &&& (4294967295 : Int64))), .second, .unset, .unset, .unset, .unset]) rfl k)))))) ?_
  show GoW p e below QQ (T0.setTop (mkF m 10 #[.val (.ref a1), .val (.long q1), .second, .val (.long ((q1 * (2246822519 : Int64)) &&& (4294967295 : Int64))), .second, .unset, .unset, .unset, .unset] []))
  generalize hv9 : ((q1 * (2246822519 : Int64)) &&& (4294967295 : Int64)) = v9
  refine GoW.st (fun t k => XS.lloadN X0.here hx rfl (hb hby d6_10) rfl (X0.ldc2Long hx hown (mvT hZ (hw _ (List.mem_of_getElem? (i := 39) rfl))) (g := (mkF m 11 #[.val (.ref a1), .val (.long q1), .second, .val (.long v9), .second, .unset, .unset, .unset, .unset] [(.long q1)])) rfl (hb hby d6_11) t (XS.lmul X0.here hx rfl (hb hby d6_14) rfl (X0.ldc2Long hx hown (mvT hZ (hw _ (List.mem_of_getElem? (i := 38) rfl))) (g := (mkF m 15 #[.val (.ref a1), .val (.long q1), .second, .val (.long v9), .second, .unset, .unset, .unset, .unset] [(.long (q1 * (2654435761 : Int64)))])) rfl (hb hby d6_15) t (XS.land X0.here hx rfl (hb hby d6_18) rfl (XS.lstore X0.here hx rfl (hb hby d6_19) rfl (l' := #[.val (.ref a1), .val (.long q1), .second, .val (.long v9), .second, .val (.long ((q1 * (2654435761 : Int64)) &&& (4294967295 : Int64))), .second, .unset, .unset]) rfl k)))))) ?_
  show GoW p e below QQ (T0.setTop (mkF m 21 #[.val (.ref a1), .val (.long q1), .second, .val (.long v9), .second, .val (.long ((q1 * (2654435761 : Int64)) &&& (4294967295 : Int64))), .second, .unset, .unset] []))
  generalize hv19 : ((q1 * (2654435761 : Int64)) &&& (4294967295 : Int64)) = v19
  refine GoW.st (fun t k => XS.lloadN X0.here hx rfl (hb hby d6_21) rfl (XS.bipush X0.here hx rfl (hb hby d6_22) (XS.lushr X0.here hx rfl (hb hby d6_24) rfl (X0.ldc2Long hx hown (mvT hZ (hw _ (List.mem_of_getElem? (i := 40) rfl))) (g := (mkF m 25 #[.val (.ref a1), .val (.long q1), .second, .val (.long v9), .second, .val (.long v19), .second, .unset, .unset] [(.long ((v9.toUInt64 >>> ((16 : Int32) &&& 0x3f).toInt64.toUInt64).toInt64))])) rfl (hb hby d6_25) t (lremM X0 hx rfl (hb hby d6_28) rfl (by decide) (XS.aloadN X0.here hx rfl (hb hby d6_29) rfl rfl k)))))) ?_
  show GoW p e below QQ (T0.setTop (mkF m 30 #[.val (.ref a1), .val (.long q1), .second, .val (.long v9), .second, .val (.long v19), .second, .unset, .unset] [(.ref a1), (.long (((v9.toUInt64 >>> ((16 : Int32) &&& 0x3f).toInt64.toUInt64).toInt64) % (100 : Int64)))]))
  obtain ⟨T1, X1, e1, st1⟩ := getF X0 hx hZ hown (host := "") (Or.inl (hw _ (List.mem_of_getElem? (i := 30) rfl))) Via.refl e0 pre_F_a1_skewPercent (g := (mkF m 30 #[.val (.ref a1), .val (.long q1), .second, .val (.long v9), .second, .val (.long v19), .second, .unset, .unset] [(.ref a1), (.long (((v9.toUInt64 >>> ((16 : Int32) &&& 0x3f).toInt64.toUInt64).toInt64) % (100 : Int64)))])) rfl rfl (hb hby d6_30)
  refine GoW.st st1 ?_
  show GoW p e below QQ (T1.setTop (mkF m 33 #[.val (.ref a1), .val (.long q1), .second, .val (.long v9), .second, .val (.long v19), .second, .unset, .unset] [(.int w3), (.long (((v9.toUInt64 >>> ((16 : Int32) &&& 0x3f).toInt64.toUInt64).toInt64) % (100 : Int64)))]))
  refine GoW.st (fun t k => XS.i2l X1.here hx rfl (hb hby d6_33) rfl (XS.lcmp X1.here hx rfl (hb hby d6_34) rfl k)) ?_
  show GoW p e below QQ (T1.setTop (mkF m 35 #[.val (.ref a1), .val (.long q1), .second, .val (.long v9), .second, .val (.long v19), .second, .unset, .unset] [(.int (lcmpW (((v9.toUInt64 >>> ((16 : Int32) &&& 0x3f).toInt64.toUInt64).toInt64) % (100 : Int64)) (w3.toInt64)))]))
  by_cases hc35 : (((v9.toUInt64 >>> ((16 : Int32) &&& 0x3f).toInt64.toUInt64).toInt64) % (100 : Int64)) < (w3.toInt64)
  · skip
    refine GoW.st (fun t k => XS.ifNo X1.here hx rfl (hb hby d6_35) rfl ((if0 _ _).trans (tlt ((lw_lt (((v9.toUInt64 >>> ((16 : Int32) &&& 0x3f).toInt64.toUInt64).toInt64) % (100 : Int64)) (w3.toInt64)).mpr hc35)).2.1) (XS.aloadN X1.here hx rfl (hb hby d6_38) rfl rfl k)) ?_
    show GoW p e below QQ (T1.setTop (mkF m 39 #[.val (.ref a1), .val (.long q1), .second, .val (.long v9), .second, .val (.long v19), .second, .unset, .unset] [(.ref a1)]))
    obtain ⟨T2, X2, e2, st2⟩ := getF X1 hx hZ hown (host := "") (Or.inl (hw _ (List.mem_of_getElem? (i := 28) rfl))) Via.refl e1 pre_F_a1_skewValue (g := (mkF m 39 #[.val (.ref a1), .val (.long q1), .second, .val (.long v9), .second, .val (.long v19), .second, .unset, .unset] [(.ref a1)])) rfl rfl (hb hby d6_39)
    refine GoW.st st2 ?_
    show GoW p e below QQ (T2.setTop (mkF m 42 #[.val (.ref a1), .val (.long q1), .second, .val (.long v9), .second, .val (.long v19), .second, .unset, .unset] [(.long w2)]))
    refine GoW.st (fun t k => XS.lstore X2.here hx rfl (hb hby d6_42) rfl (l' := #[.val (.ref a1), .val (.long q1), .second, .val (.long v9), .second, .val (.long v19), .second, .val (.long w2), .second]) rfl (XS.goto X2.here hx rfl (pc0 := 44) (pc' := 56) rfl (hb hby d6_44) (by decide) (by decide) (XS.lload X2.here hx rfl (hb hby d6_56) rfl k))) ?_
    show GoW p e below QQ (T2.setTop (mkF m 58 #[.val (.ref a1), .val (.long q1), .second, .val (.long v9), .second, .val (.long v19), .second, .val (.long w2), .second] [(.long w2)]))
    have rv : ((some (.long w2)) : Option Value) = some (.long (own_key q1 w1 w2 w3)) := by
      subst_vars
      first | exact congrArg (fun z => some (Value.long z)) (if_pos hc35).symm | exact congrArg (fun z => some (Value.long z)) (if_neg hc35).symm
    exact GoW.fin X2 (some (.long w2)) (fun q => by rw [hret] at q; cases q) hlk hQ e2 ⟨rv, N0, rfl⟩ (by decide) (by decide) (fun fs hr => retOut X2 hx hret rfl (Or.inr (Or.inl ⟨rfl, rfl, _, rfl⟩)) (hb hby d6_58) hr)
  · skip
    refine GoW.st (fun t k => XS.ifYes X1.here hx rfl (pc0 := 35) (pc' := 47) rfl (hb hby d6_35) rfl ((if0 _ _).trans (flt (fun q => hc35 ((lw_lt (((v9.toUInt64 >>> ((16 : Int32) &&& 0x3f).toInt64.toUInt64).toInt64) % (100 : Int64)) (w3.toInt64)).mp q))).2.1) (by decide) (by decide) (XS.lload X1.here hx rfl (hb hby d6_47) rfl (XS.aloadN X1.here hx rfl (hb hby d6_49) rfl rfl k))) ?_
    show GoW p e below QQ (T1.setTop (mkF m 50 #[.val (.ref a1), .val (.long q1), .second, .val (.long v9), .second, .val (.long v19), .second, .unset, .unset] [(.ref a1), (.long v19)]))
    obtain ⟨T3, X3, e3, st3⟩ := getF X1 hx hZ hown (host := "") (Or.inl (hw _ (List.mem_of_getElem? (i := 26) rfl))) Via.refl e1 pre_F_a1_keys (g := (mkF m 50 #[.val (.ref a1), .val (.long q1), .second, .val (.long v9), .second, .val (.long v19), .second, .unset, .unset] [(.ref a1), (.long v19)])) rfl rfl (hb hby d6_50)
    refine GoW.st st3 ?_
    show GoW p e below QQ (T3.setTop (mkF m 53 #[.val (.ref a1), .val (.long q1), .second, .val (.long v9), .second, .val (.long v19), .second, .unset, .unset] [(.long w1), (.long v19)]))
    refine GoW.st (fun t k => lremM X3 hx rfl (hb hby d6_53) rfl hk (XS.lstore X3.here hx rfl (hb hby d6_54) rfl (l' := #[.val (.ref a1), .val (.long q1), .second, .val (.long v9), .second, .val (.long v19), .second, .val (.long (v19 % w1)), .second]) rfl k)) ?_
    show GoW p e below QQ (T3.setTop (mkF m 56 #[.val (.ref a1), .val (.long q1), .second, .val (.long v9), .second, .val (.long v19), .second, .val (.long (v19 % w1)), .second] []))
    generalize hv54 : (v19 % w1) = v54
    refine GoW.st (fun t k => XS.lload X3.here hx rfl (hb hby d6_56) rfl k) ?_
    show GoW p e below QQ (T3.setTop (mkF m 58 #[.val (.ref a1), .val (.long q1), .second, .val (.long v9), .second, .val (.long v19), .second, .val (.long v54), .second] [(.long v54)]))
    have rv : ((some (.long v54)) : Option Value) = some (.long (own_key q1 w1 w2 w3)) := by
      subst_vars
      first | exact congrArg (fun z => some (Value.long z)) (if_pos hc35).symm | exact congrArg (fun z => some (Value.long z)) (if_neg hc35).symm
    exact GoW.fin X3 (some (.long v54)) (fun q => by rw [hret] at q; cases q) hlk hQ e3 ⟨rv, N0, rfl⟩ (by decide) (by decide) (fun fs hr => retOut X3 hx hret rfl (Or.inr (Or.inl ⟨rfl, rfl, _, rfl⟩)) (hb hby d6_58) hr)
theorem pn_2 : plainName "com/example/evenkeel/evenkeel/GeneratedInputKeyPinLaw" = true := by first | (simp [plainName, overriddenIn]; done) | decide +kernel
theorem d7_0 : decode method_3_code 0 = .ok (.lload_n 0, 1) := by decide +kernel
theorem d7_1 : decode method_3_code 1 = .ok (.l2i, 1) := by decide +kernel
theorem d7_2 : decode method_3_code 2 = .ok (.istore 7, 2) := by decide +kernel
theorem d7_4 : decode method_3_code 4 = .ok (.iload 7, 2) := by decide +kernel
theorem d7_6 : decode method_3_code 6 = .ok (.ldc 38, 2) := by decide +kernel
theorem d7_8 : decode method_3_code 8 = .ok (.imul, 1) := by decide +kernel
theorem d7_9 : decode method_3_code 9 = .ok (.istore 8, 2) := by decide +kernel
theorem d7_11 : decode method_3_code 11 = .ok (.iload 7, 2) := by decide +kernel
theorem d7_13 : decode method_3_code 13 = .ok (.ldc 39, 2) := by decide +kernel
theorem d7_15 : decode method_3_code 15 = .ok (.imul, 1) := by decide +kernel
theorem d7_16 : decode method_3_code 16 = .ok (.istore 9, 2) := by decide +kernel
theorem d7_18 : decode method_3_code 18 = .ok (.iload 8, 2) := by decide +kernel
theorem d7_20 : decode method_3_code 20 = .ok (.bipush 16, 2) := by decide +kernel
theorem d7_22 : decode method_3_code 22 = .ok (.iushr, 1) := by decide +kernel
theorem d7_23 : decode method_3_code 23 = .ok (.istore 10, 2) := by decide +kernel
theorem d7_25 : decode method_3_code 25 = .ok (.iload 10, 2) := by decide +kernel
theorem d7_27 : decode method_3_code 27 = .ok (.bipush 100, 2) := by decide +kernel
theorem d7_29 : decode method_3_code 29 = .ok (.irem, 1) := by decide +kernel
theorem d7_30 : decode method_3_code 30 = .ok (.iload 6, 2) := by decide +kernel
theorem d7_32 : decode method_3_code 32 = .ok (.if_icmp .ge 6, 3) := by decide +kernel
theorem d7_35 : decode method_3_code 35 = .ok (.lload 4, 2) := by decide +kernel
theorem d7_37 : decode method_3_code 37 = .ok (.lreturn, 1) := by decide +kernel
theorem d7_38 : decode method_3_code 38 = .ok (.iload 9, 2) := by decide +kernel
theorem d7_40 : decode method_3_code 40 = .ok (.i2l, 1) := by decide +kernel
theorem d7_41 : decode method_3_code 41 = .ok (.ldc2_w 40, 3) := by decide +kernel
theorem d7_44 : decode method_3_code 44 = .ok (.land, 1) := by decide +kernel
theorem d7_45 : decode method_3_code 45 = .ok (.lstore 11, 2) := by decide +kernel
theorem d7_47 : decode method_3_code 47 = .ok (.lload 11, 2) := by decide +kernel
theorem d7_49 : decode method_3_code 49 = .ok (.lload_n 2, 1) := by decide +kernel
theorem d7_50 : decode method_3_code 50 = .ok (.lrem, 1) := by decide +kernel
theorem d7_51 : decode method_3_code 51 = .ok (.lreturn, 1) := by decide +kernel
def RM7 : Room := { frames := 0, cells := 0, slots := 0, locals := 0 }
def Q7 (Z : State) (q1 : Int64) (q2 : Int64) (q3 : Int64) (p4 : Int32) (h0 : Heap) (n0 : Nat) (v : Option Value) (h : Heap) (L : List Loc) : Prop := v = some (.long (own_want q1 q2 q3 p4)) ∧ Fr n0 L ∧ h = h0
set_option maxRecDepth 65536 in
set_option maxHeartbeats 40000000 in
theorem rm7 (l : Launch) (Z : State) (a0 : Array Value) (hw : ∀ d ∈ tables_1, d.before a0 Z = true) (ws : List Jvm.Cond) (q1 : Int64) (q2 : Int64) (q3 : Int64) (p4 : Int32) (h0 : Heap) (n0 : Nat) (Z0 : n0 ≤ h0.size) (hk : q2 ≠ 0) :
    MetFree l (⟨"com/example/evenkeel/evenkeel/GeneratedInputKeyPinLaw", "expected", "(JJJI)J"⟩ : MethodName) (head1 (Jvm.Cond.code (⟨"com/example/evenkeel/evenkeel/GeneratedInputKeyPinLaw", "expected", "(JJJI)J"⟩ : MethodName) method_3_code 13 (some .long) :: ws) RM7) (fun a U => a = #[(.long q1), (.long q2), (.long q3), (.int p4)] ∧ Z.Warmed39 U.vm ∧ U.heap = h0) (fun _ _ _ _ _ => True) (fun _ U o U' => ∃ v L, o = .returned v ∧ Q7 Z q1 q2 q3 p4 h0 n0 v U'.heap L ∧ FrameEnd U o U' L RM7.cells RM7.slots) := by
  refine met_of (Q := fun v h L => Q7 Z q1 q2 q3 p4 h0 n0 v h L) (plainFor_of_name pn_2) (fun m => by first | (simp [entryFrame, mkF, argsToLocals, Value.category]; done) | rfl) (Ls := #[.val (.long q1), .second, .val (.long q2), .second, .val (.long q3), .second, .val (.int p4), .unset, .unset, .unset, .unset, .unset, .unset]) ?_
  intro p e s m below meth c T0 QQ hx hZ hby hml hown hnm hret hlk X0 e0 hQ
  have hml : c.maxLocals = 13 := hml
  have hown : s.vm.findClass "com/example/evenkeel/evenkeel/GeneratedInputKeyPinLaw" = some m.cls := hown
  have hnm : meth.name = "expected" := hnm
  have hret : meth.sig.returnType = some .long := hret
  have N0 := Fr.nil n0
  have K0 : Keep h0 h0 [] := Keep.refl h0 _
  show GoW p e below QQ (T0.setTop (mkF m 0 #[.val (.long q1), .second, .val (.long q2), .second, .val (.long q3), .second, .val (.int p4), .unset, .unset, .unset, .unset, .unset, .unset] []))
  refine GoW.st (fun t k => XS.lloadN X0.here hx rfl (hb hby d7_0) rfl (XS.l2i X0.here hx rfl (hb hby d7_1) rfl (XS.istore X0.here hx rfl (hb hby d7_2) rfl (l' := #[.val (.long q1), .second, .val (.long q2), .second, .val (.long q3), .second, .val (.int p4), .val (.int (q1.toInt32)), .unset, .unset, .unset, .unset, .unset]) rfl k))) ?_
  show GoW p e below QQ (T0.setTop (mkF m 4 #[.val (.long q1), .second, .val (.long q2), .second, .val (.long q3), .second, .val (.int p4), .val (.int (q1.toInt32)), .unset, .unset, .unset, .unset, .unset] []))
  generalize hv2 : (q1.toInt32) = v2
  refine GoW.st (fun t k => XS.iload X0.here hx rfl (hb hby d7_4) rfl (X0.ldcInt hx hown (mvT hZ (hw _ (List.mem_of_getElem? (i := 45) rfl))) (g := (mkF m 6 #[.val (.long q1), .second, .val (.long q2), .second, .val (.long q3), .second, .val (.int p4), .val (.int v2), .unset, .unset, .unset, .unset, .unset] [(.int v2)])) rfl (hb hby d7_6) t (XS.imul X0.here hx rfl (hb hby d7_8) rfl (XS.istore X0.here hx rfl (hb hby d7_9) rfl (l' := #[.val (.long q1), .second, .val (.long q2), .second, .val (.long q3), .second, .val (.int p4), .val (.int v2), .val (.int (v2 * (-2048144777 : Int32))), .unset, .unset, .unset, .unset]) rfl k)))) ?_
  show GoW p e below QQ (T0.setTop (mkF m 11 #[.val (.long q1), .second, .val (.long q2), .second, .val (.long q3), .second, .val (.int p4), .val (.int v2), .val (.int (v2 * (-2048144777 : Int32))), .unset, .unset, .unset, .unset] []))
  generalize hv9 : (v2 * (-2048144777 : Int32)) = v9
  refine GoW.st (fun t k => XS.iload X0.here hx rfl (hb hby d7_11) rfl (X0.ldcInt hx hown (mvT hZ (hw _ (List.mem_of_getElem? (i := 46) rfl))) (g := (mkF m 13 #[.val (.long q1), .second, .val (.long q2), .second, .val (.long q3), .second, .val (.int p4), .val (.int v2), .val (.int v9), .unset, .unset, .unset, .unset] [(.int v2)])) rfl (hb hby d7_13) t (XS.imul X0.here hx rfl (hb hby d7_15) rfl (XS.istore X0.here hx rfl (hb hby d7_16) rfl (l' := #[.val (.long q1), .second, .val (.long q2), .second, .val (.long q3), .second, .val (.int p4), .val (.int v2), .val (.int v9), .val (.int (v2 * (-1640531535 : Int32))), .unset, .unset, .unset]) rfl k)))) ?_
  show GoW p e below QQ (T0.setTop (mkF m 18 #[.val (.long q1), .second, .val (.long q2), .second, .val (.long q3), .second, .val (.int p4), .val (.int v2), .val (.int v9), .val (.int (v2 * (-1640531535 : Int32))), .unset, .unset, .unset] []))
  generalize hv16 : (v2 * (-1640531535 : Int32)) = v16
  refine GoW.st (fun t k => XS.iload X0.here hx rfl (hb hby d7_18) rfl (XS.bipush X0.here hx rfl (hb hby d7_20) (XS.iushr X0.here hx rfl (hb hby d7_22) rfl (XS.istore X0.here hx rfl (hb hby d7_23) rfl (l' := #[.val (.long q1), .second, .val (.long q2), .second, .val (.long q3), .second, .val (.int p4), .val (.int v2), .val (.int v9), .val (.int v16), .val (.int ((v9.toUInt32 >>> ((16 : Int32) &&& 31).toUInt32).toInt32)), .unset, .unset]) rfl k)))) ?_
  show GoW p e below QQ (T0.setTop (mkF m 25 #[.val (.long q1), .second, .val (.long q2), .second, .val (.long q3), .second, .val (.int p4), .val (.int v2), .val (.int v9), .val (.int v16), .val (.int ((v9.toUInt32 >>> ((16 : Int32) &&& 31).toUInt32).toInt32)), .unset, .unset] []))
  generalize hv23 : ((v9.toUInt32 >>> ((16 : Int32) &&& 31).toUInt32).toInt32) = v23
  refine GoW.st (fun t k => XS.iload X0.here hx rfl (hb hby d7_25) rfl (XS.bipush X0.here hx rfl (hb hby d7_27) (iremM X0 hx rfl (hb hby d7_29) rfl (by decide) (XS.iload X0.here hx rfl (hb hby d7_30) rfl k)))) ?_
  show GoW p e below QQ (T0.setTop (mkF m 32 #[.val (.long q1), .second, .val (.long q2), .second, .val (.long q3), .second, .val (.int p4), .val (.int v2), .val (.int v9), .val (.int v16), .val (.int v23), .unset, .unset] [(.int p4), (.int (v23 % (100 : Int32)))]))
  by_cases hc32 : (v23 % (100 : Int32)) < p4
  · skip
    refine GoW.st (fun t k => XS.icmpNo X0.here hx rfl (hb hby d7_32) rfl (tlt hc32).2.1 (XS.lload X0.here hx rfl (hb hby d7_35) rfl k)) ?_
    show GoW p e below QQ (T0.setTop (mkF m 37 #[.val (.long q1), .second, .val (.long q2), .second, .val (.long q3), .second, .val (.int p4), .val (.int v2), .val (.int v9), .val (.int v16), .val (.int v23), .unset, .unset] [(.long q3)]))
    have rv : ((some (.long q3)) : Option Value) = some (.long (own_want q1 q2 q3 p4)) := by
      subst_vars
      first | exact congrArg (fun z => some (Value.long z)) (if_pos hc32).symm | exact congrArg (fun z => some (Value.long z)) (if_neg hc32).symm
    exact GoW.fin X0 (some (.long q3)) (fun q => by rw [hret] at q; cases q) hlk hQ e0 ⟨rv, N0, rfl⟩ (by decide) (by decide) (fun fs hr => retOut X0 hx hret rfl (Or.inr (Or.inl ⟨rfl, rfl, _, rfl⟩)) (hb hby d7_37) hr)
  · skip
    refine GoW.st (fun t k => XS.icmpYes X0.here hx rfl (pc0 := 32) (pc' := 38) rfl (hb hby d7_32) rfl (flt hc32).2.1 (by decide) (by decide) (XS.iload X0.here hx rfl (hb hby d7_38) rfl (XS.i2l X0.here hx rfl (hb hby d7_40) rfl (X0.ldc2Long hx hown (mvT hZ (hw _ (List.mem_of_getElem? (i := 47) rfl))) (g := (mkF m 41 #[.val (.long q1), .second, .val (.long q2), .second, .val (.long q3), .second, .val (.int p4), .val (.int v2), .val (.int v9), .val (.int v16), .val (.int v23), .unset, .unset] [(.long (v16.toInt64))])) rfl (hb hby d7_41) t (XS.land X0.here hx rfl (hb hby d7_44) rfl (XS.lstore X0.here hx rfl (hb hby d7_45) rfl (l' := #[.val (.long q1), .second, .val (.long q2), .second, .val (.long q3), .second, .val (.int p4), .val (.int v2), .val (.int v9), .val (.int v16), .val (.int v23), .val (.long ((v16.toInt64) &&& (4294967295 : Int64))), .second]) rfl k)))))) ?_
    show GoW p e below QQ (T0.setTop (mkF m 47 #[.val (.long q1), .second, .val (.long q2), .second, .val (.long q3), .second, .val (.int p4), .val (.int v2), .val (.int v9), .val (.int v16), .val (.int v23), .val (.long ((v16.toInt64) &&& (4294967295 : Int64))), .second] []))
    generalize hv45 : ((v16.toInt64) &&& (4294967295 : Int64)) = v45
    refine GoW.st (fun t k => XS.lload X0.here hx rfl (hb hby d7_47) rfl (XS.lloadN X0.here hx rfl (hb hby d7_49) rfl (lremM X0 hx rfl (hb hby d7_50) rfl hk k))) ?_
    show GoW p e below QQ (T0.setTop (mkF m 51 #[.val (.long q1), .second, .val (.long q2), .second, .val (.long q3), .second, .val (.int p4), .val (.int v2), .val (.int v9), .val (.int v16), .val (.int v23), .val (.long v45), .second] [(.long (v45 % q2))]))
    have rv : ((some (.long (v45 % q2))) : Option Value) = some (.long (own_want q1 q2 q3 p4)) := by
      subst_vars
      first | exact congrArg (fun z => some (Value.long z)) (if_pos hc32).symm | exact congrArg (fun z => some (Value.long z)) (if_neg hc32).symm
    exact GoW.fin X0 (some (.long (v45 % q2))) (fun q => by rw [hret] at q; cases q) hlk hQ e0 ⟨rv, N0, rfl⟩ (by decide) (by decide) (fun fs hr => retOut X0 hx hret rfl (Or.inr (Or.inl ⟨rfl, rfl, _, rfl⟩)) (hb hby d7_51) hr)
theorem pd_1 : parseMethodDescriptor "(JJ)J" = some ⟨[.long, .long], some .long⟩ := by decide +kernel
theorem pd_2 : parseMethodDescriptor "(JJJI)V" = some ⟨[.long, .long, .long, .int], none⟩ := by decide +kernel
theorem pd_3 : parseMethodDescriptor "(J)J" = some ⟨[.long], some .long⟩ := by decide +kernel
theorem pd_4 : parseMethodDescriptor "(JJJI)J" = some ⟨[.long, .long, .long, .int], some .long⟩ := by decide +kernel
def Q0 (Z : State) (q1 : Int64) (q2 : Int64) (q3 : Int64) (p4 : Int32) (h0 : Heap) (n0 : Nat) (v : Option Value) (h : Heap) (L : List Loc) : Prop := v = some (.int (1 : Int32)) ∧ Fr n0 L
set_option maxRecDepth 65536 in
set_option maxHeartbeats 40000000 in
theorem rm0 (l : Launch) (Z : State) (a0 : Array Value) (hw : ∀ d ∈ tables_1, d.before a0 Z = true) (ws : List Jvm.Cond) (q1 : Int64) (q2 : Int64) (q3 : Int64) (p4 : Int32) (h0 : Heap) (n0 : Nat) (Z0 : n0 ≤ h0.size) (Z1 : h0.size ≤ n0)  :
    MetFree l x (head1 (Jvm.Cond.code x code maxLocals ret :: ws) room_1) (fun a U => a = #[(.long q1), (.long q2), (.long q3), (.int p4)] ∧ Z.Warmed39 U.vm ∧ U.heap = h0) (fun _ _ _ _ _ => True) (fun _ U o U' => ∃ v L, o = .returned v ∧ Q0 Z q1 q2 q3 p4 h0 n0 v U'.heap L ∧ FrameEnd U o U' L 16 128) := by
  refine met_of (Q := fun v h L => Q0 Z q1 q2 q3 p4 h0 n0 v h L) (plainFor_of_name pn_2) (fun m => by first | (simp [entryFrame, mkF, argsToLocals, Value.category, maxLocals]; done) | rfl) (Ls := #[.val (.long q1), .second, .val (.long q2), .second, .val (.long q3), .second, .val (.int p4), .unset, .unset, .unset, .unset, .unset, .unset, .unset, .unset, .unset, .unset]) ?_
  intro p e s m below meth c T0 QQ hx hZ hby hml hown hnm hret hlk X0 e0 hQ
  have hml : c.maxLocals = 17 := hml
  have hown : s.vm.findClass "com/example/evenkeel/evenkeel/GeneratedInputKeyPinLaw" = some m.cls := hown
  have hnm : meth.name = "law" := hnm
  have hret : meth.sig.returnType = some .boolean := hret
  have N0 := Fr.nil n0
  have K0 : Keep h0 h0 [] := Keep.refl h0 _
  show GoW p e below QQ (T0.setTop (mkF m 0 #[.val (.long q1), .second, .val (.long q2), .second, .val (.long q3), .second, .val (.int p4), .unset, .unset, .unset, .unset, .unset, .unset, .unset, .unset, .unset, .unset] []))
  refine GoW.st (fun t k => XS.lloadN X0.here hx rfl (hb hby at_0) rfl (X0.ldc2Long hx hown (mvT hZ (hw _ (List.mem_of_getElem? (i := 0) rfl))) (g := (mkF m 1 #[.val (.long q1), .second, .val (.long q2), .second, .val (.long q3), .second, .val (.int p4), .unset, .unset, .unset, .unset, .unset, .unset, .unset, .unset, .unset, .unset] [(.long q1)])) rfl (hb hby at_1) t (XS.land X0.here hx rfl (hb hby at_4) rfl (X0.ldc2Long hx hown (mvT hZ (hw _ (List.mem_of_getElem? (i := 1) rfl))) (g := (mkF m 5 #[.val (.long q1), .second, .val (.long q2), .second, .val (.long q3), .second, .val (.int p4), .unset, .unset, .unset, .unset, .unset, .unset, .unset, .unset, .unset, .unset] [(.long (q1 &&& (9223372036854775807 : Int64)))])) rfl (hb hby at_5) t k)))) ?_
  show GoW p e below QQ (T0.setTop (mkF m 8 #[.val (.long q1), .second, .val (.long q2), .second, .val (.long q3), .second, .val (.int p4), .unset, .unset, .unset, .unset, .unset, .unset, .unset, .unset, .unset, .unset] [(.long (9223372036854775806 : Int64)), (.long (q1 &&& (9223372036854775807 : Int64)))]))
  obtain ⟨_, _, ⟨T1, zL1, zk1, zn1⟩, -, X1, ⟨Lc1, hQ1, zl1, zy1, zz1⟩, st1⟩ := Jvm.LawKit.callS X0 hx (y := (⟨"java/lang/Math", "min", "(JJ)J"⟩ : MethodName)) hown (mvT hZ (hw _ (List.mem_of_getElem? (i := 2) rfl))) (mvT hZ (hw _ (List.mem_of_getElem? (i := 3) rfl))) (mvT hZ (hw _ (List.mem_of_getElem? (i := 4) rfl))) (mvT hZ (hw _ (List.mem_of_getElem? (i := 5) rfl))) (by decide) (backOf (W := 0) (rm1 l Z a0 hw [] (q1 &&& (9223372036854775807 : Int64)) (9223372036854775806 : Int64) h0 n0 (Nat.le_trans Z0 K0.1) ) hZ (hw _ (List.mem_of_getElem? (i := 5) rfl)) (hw _ (List.mem_of_getElem? (i := 4) rfl)) (by decide) (by decide)) (g := (mkF m 8 #[.val (.long q1), .second, .val (.long q2), .second, .val (.long q3), .second, .val (.int p4), .unset, .unset, .unset, .unset, .unset, .unset, .unset, .unset, .unset, .unset] [(.long (9223372036854775806 : Int64)), (.long (q1 &&& (9223372036854775807 : Int64)))])) rfl (by rw [hml]; rfl) (argsL := [(.long (q1 &&& (9223372036854775807 : Int64))), (.long (9223372036854775806 : Int64))]) (rest := []) (lenOf pd_1 rfl) rfl (by show 2 * 0 + _ ≤ _; exact Nat.le_of_eq rfl) (hb hby at_8) (fun _ _ => ⟨rfl, e0, (by decide : 0 + 0 ≤ _), (by decide : 0 + 0 ≤ _)⟩)
  dsimp only [Pt.U, Pt.locs, Pt.cells, Pt.slots] at X1 zl1 zy1 zz1 st1 hQ1
  subst zl1 zy1 zz1
  obtain ⟨rfl, Nq1, hh1⟩ := hQ1
  have N1 := Fr.app N0 Nq1
  refine GoW.st st1 ?_
  show GoW p e below QQ (T1.setTop (mkF m 11 #[.val (.long q1), .second, .val (.long q2), .second, .val (.long q3), .second, .val (.int p4), .unset, .unset, .unset, .unset, .unset, .unset, .unset, .unset, .unset, .unset] [(.long (own_minL (q1 &&& (9223372036854775807 : Int64)) (9223372036854775806 : Int64)))]))
  refine GoW.st (fun t k => XS.lstore X1.here hx rfl (hb hby at_11) rfl (l' := #[.val (.long q1), .second, .val (.long q2), .second, .val (.long q3), .second, .val (.int p4), .val (.long (own_minL (q1 &&& (9223372036854775807 : Int64)) (9223372036854775806 : Int64))), .second, .unset, .unset, .unset, .unset, .unset, .unset, .unset, .unset]) rfl k) ?_
  show GoW p e below QQ (T1.setTop (mkF m 13 #[.val (.long q1), .second, .val (.long q2), .second, .val (.long q3), .second, .val (.int p4), .val (.long (own_minL (q1 &&& (9223372036854775807 : Int64)) (9223372036854775806 : Int64))), .second, .unset, .unset, .unset, .unset, .unset, .unset, .unset, .unset] []))
  generalize hv11 : (own_minL (q1 &&& (9223372036854775807 : Int64)) (9223372036854775806 : Int64)) = v11
  refine GoW.st (fun t k => XS.lload X1.here hx rfl (hb hby at_13) rfl (XS.lconst X1.here hx rfl (hb hby at_15) (XS.ladd X1.here hx rfl (hb hby at_16) rfl (XS.lstore X1.here hx rfl (hb hby at_17) rfl (l' := #[.val (.long q1), .second, .val (.long q2), .second, .val (.long q3), .second, .val (.int p4), .val (.long v11), .second, .val (.long (v11 + (1 : Int64))), .second, .unset, .unset, .unset, .unset, .unset, .unset]) rfl k)))) ?_
  show GoW p e below QQ (T1.setTop (mkF m 19 #[.val (.long q1), .second, .val (.long q2), .second, .val (.long q3), .second, .val (.int p4), .val (.long v11), .second, .val (.long (v11 + (1 : Int64))), .second, .unset, .unset, .unset, .unset, .unset, .unset] []))
  generalize hv17 : (v11 + (1 : Int64)) = v17
  refine GoW.st (fun t k => XS.lconst X1.here hx rfl (hb hby at_19) (XS.lloadN X1.here hx rfl (hb hby at_20) rfl (X1.ldc2Long hx hown (mvT hZ (hw _ (List.mem_of_getElem? (i := 0) rfl))) (g := (mkF m 21 #[.val (.long q1), .second, .val (.long q2), .second, .val (.long q3), .second, .val (.int p4), .val (.long v11), .second, .val (.long v17), .second, .unset, .unset, .unset, .unset, .unset, .unset] [(.long q2), (.long (1 : Int64))])) rfl (hb hby at_21) t (XS.land X1.here hx rfl (hb hby at_24) rfl k)))) ?_
  show GoW p e below QQ (T1.setTop (mkF m 25 #[.val (.long q1), .second, .val (.long q2), .second, .val (.long q3), .second, .val (.int p4), .val (.long v11), .second, .val (.long v17), .second, .unset, .unset, .unset, .unset, .unset, .unset] [(.long (q2 &&& (9223372036854775807 : Int64))), (.long (1 : Int64))]))
  obtain ⟨_, _, ⟨T2, zL2, zk2, zn2⟩, -, X2, ⟨Lc2, hQ2, zl2, zy2, zz2⟩, st2⟩ := Jvm.LawKit.callS X1 hx (y := (⟨"java/lang/Math", "max", "(JJ)J"⟩ : MethodName)) hown (mvT hZ (hw _ (List.mem_of_getElem? (i := 6) rfl))) (mvT hZ (hw _ (List.mem_of_getElem? (i := 7) rfl))) (mvT hZ (hw _ (List.mem_of_getElem? (i := 4) rfl))) (mvT hZ (hw _ (List.mem_of_getElem? (i := 8) rfl))) (by decide) (backOf (W := 0) (rm2 l Z a0 hw [] (1 : Int64) (q2 &&& (9223372036854775807 : Int64)) h0 n0 (Nat.le_trans Z0 K0.1) ) hZ (hw _ (List.mem_of_getElem? (i := 8) rfl)) (hw _ (List.mem_of_getElem? (i := 4) rfl)) (by decide) (by decide)) (g := (mkF m 25 #[.val (.long q1), .second, .val (.long q2), .second, .val (.long q3), .second, .val (.int p4), .val (.long v11), .second, .val (.long v17), .second, .unset, .unset, .unset, .unset, .unset, .unset] [(.long (q2 &&& (9223372036854775807 : Int64))), (.long (1 : Int64))])) rfl (by rw [hml]; rfl) (argsL := [(.long (1 : Int64)), (.long (q2 &&& (9223372036854775807 : Int64)))]) (rest := []) (lenOf pd_1 rfl) rfl (by show 2 * 0 + _ ≤ _; exact Nat.le_of_eq rfl) (hb hby at_25) (fun _ _ => ⟨rfl, hh1, (by decide : 0 + 0 ≤ _), (by decide : 0 + 0 ≤ _)⟩)
  dsimp only [Pt.U, Pt.locs, Pt.cells, Pt.slots] at X2 zl2 zy2 zz2 st2 hQ2
  subst zl2 zy2 zz2
  obtain ⟨rfl, Nq2, hh2⟩ := hQ2
  have N2 := Fr.app N1 Nq2
  refine GoW.st st2 ?_
  show GoW p e below QQ (T2.setTop (mkF m 28 #[.val (.long q1), .second, .val (.long q2), .second, .val (.long q3), .second, .val (.int p4), .val (.long v11), .second, .val (.long v17), .second, .unset, .unset, .unset, .unset, .unset, .unset] [(.long (own_maxL (1 : Int64) (q2 &&& (9223372036854775807 : Int64))))]))
  refine GoW.st (fun t k => XS.lstore X2.here hx rfl (hb hby at_28) rfl (l' := #[.val (.long q1), .second, .val (.long q2), .second, .val (.long q3), .second, .val (.int p4), .val (.long v11), .second, .val (.long v17), .second, .val (.long (own_maxL (1 : Int64) (q2 &&& (9223372036854775807 : Int64)))), .second, .unset, .unset, .unset, .unset]) rfl k) ?_
  show GoW p e below QQ (T2.setTop (mkF m 30 #[.val (.long q1), .second, .val (.long q2), .second, .val (.long q3), .second, .val (.int p4), .val (.long v11), .second, .val (.long v17), .second, .val (.long (own_maxL (1 : Int64) (q2 &&& (9223372036854775807 : Int64)))), .second, .unset, .unset, .unset, .unset] []))
  generalize hv28 : (own_maxL (1 : Int64) (q2 &&& (9223372036854775807 : Int64))) = v28
  refine GoW.st (fun t k => XS.iload X2.here hx rfl (hb hby at_30) rfl (X2.ldcInt hx hown (mvT hZ (hw _ (List.mem_of_getElem? (i := 9) rfl))) (g := (mkF m 32 #[.val (.long q1), .second, .val (.long q2), .second, .val (.long q3), .second, .val (.int p4), .val (.long v11), .second, .val (.long v17), .second, .val (.long v28), .second, .unset, .unset, .unset, .unset] [(.int p4)])) rfl (hb hby at_32) t (XS.iand X2.here hx rfl (hb hby at_34) rfl (XS.bipush X2.here hx rfl (hb hby at_35) (iremM X2 hx rfl (hb hby at_37) rfl (by decide) (XS.istore X2.here hx rfl (hb hby at_38) rfl (l' := #[.val (.long q1), .second, .val (.long q2), .second, .val (.long q3), .second, .val (.int p4), .val (.long v11), .second, .val (.long v17), .second, .val (.long v28), .second, .val (.int ((p4 &&& (2147483647 : Int32)) % (101 : Int32))), .unset, .unset, .unset]) rfl k)))))) ?_
  show GoW p e below QQ (T2.setTop (mkF m 40 #[.val (.long q1), .second, .val (.long q2), .second, .val (.long q3), .second, .val (.int p4), .val (.long v11), .second, .val (.long v17), .second, .val (.long v28), .second, .val (.int ((p4 &&& (2147483647 : Int32)) % (101 : Int32))), .unset, .unset, .unset] []))
  generalize hv38 : ((p4 &&& (2147483647 : Int32)) % (101 : Int32)) = v38
  have nid := own_bounds q1
  have eid : own_minL (q1 &&& (9223372036854775807 : Int64)) (9223372036854775806 : Int64) = v11 := hv11
  rw [own_minL] at eid
  rw [eid] at nid
  have hr0 : ¬ v17 < (1 : Int64) := by
    subst hv17
    have a := c_ladd v11 1
    have r := rng64 (v11 + 1)
    have z : (1 : Int64).toInt = 1 := rfl
    rw [Int64.lt_iff_toInt_lt]; omega
  have hk0 : ¬ v28 < (1 : Int64) := by
    subst hv28
    rw [own_maxL]
    split
    · rename_i q
      intro q'; rw [Int64.lt_iff_toInt_lt] at q q'; omega
    · exact Int64.lt_irrefl
  have hk1 : v28 ≠ 0 := by
    intro q; apply hk0; rw [q]; decide
  have nb := c_and p4 2147483647 (by decide)
  have nb2 := (c_irem (p4 &&& (2147483647 : Int32)) 101 101 rfl).1 nb.1
  rw [hv38] at nb2
  have hpa : ¬ v38 < (0 : Int32) := by
    have z : (0 : Int32).toInt = 0 := rfl
    rw [Int32.lt_iff_toInt_lt]; omega
  have hpb : ¬ (100 : Int32) < v38 := by
    have z : (100 : Int32).toInt = 100 := rfl
    rw [Int32.lt_iff_toInt_lt]; omega
  obtain ⟨T3, h3, X3, e3, E3, A3, D3, -, st3⟩ := newO X2 hx hZ hown (hw _ (List.mem_of_getElem? (i := 10) rfl)) (hw _ (List.mem_of_getElem? (i := 11) rfl)) (hw _ (List.mem_of_getElem? (i := 12) rfl)) hh2 (g := (mkF m 40 #[.val (.long q1), .second, .val (.long q2), .second, .val (.long q3), .second, .val (.int p4), .val (.long v11), .second, .val (.long v17), .second, .val (.long v28), .second, .val (.int v38), .unset, .unset, .unset] [])) rfl (hb hby at_40) (by decide) (by decide)
  obtain ⟨b3, g3⟩ : ∃ z, z = h0.size := ⟨_, rfl⟩
  rw [← g3] at A3 D3 st3
  refine GoW.st st3 ?_
  have gg3 : n0 ≤ b3 := Nat.le_trans (Nat.le_trans Z0 K0.1) (Nat.le_of_eq g3.symm)
  have sz3 : h0.size ≤ b3 := Nat.le_trans K0.1 (Nat.le_of_eq g3.symm)
  have K3 : Keep h0 h3 [] := K0.ext E3
  have F3_rows : Fld Z h3 b3 "com/example/evenkeel/evenkeel/GeneratedInput" "rows" "J" (.long (0 : Int64)) := D3 (Or.inr (hw _ (List.mem_of_getElem? (i := 25) rfl))) (ty := .long) (by decide)
  have F3_keys : Fld Z h3 b3 "com/example/evenkeel/evenkeel/GeneratedInput" "keys" "J" (.long (0 : Int64)) := D3 (Or.inr (hw _ (List.mem_of_getElem? (i := 27) rfl))) (ty := .long) (by decide)
  have F3_skewValue : Fld Z h3 b3 "com/example/evenkeel/evenkeel/GeneratedInput" "skewValue" "J" (.long (0 : Int64)) := D3 (Or.inr (hw _ (List.mem_of_getElem? (i := 29) rfl))) (ty := .long) (by decide)
  have F3_skewPercent : Fld Z h3 b3 "com/example/evenkeel/evenkeel/GeneratedInput" "skewPercent" "I" (.int (0 : Int32)) := D3 (Or.inr (hw _ (List.mem_of_getElem? (i := 31) rfl))) (ty := .int) (by decide)
  show GoW p e below QQ (T3.setTop (mkF m 43 #[.val (.long q1), .second, .val (.long q2), .second, .val (.long q3), .second, .val (.int p4), .val (.long v11), .second, .val (.long v17), .second, .val (.long v28), .second, .val (.int v38), .unset, .unset, .unset] [(.ref b3)]))
  refine GoW.st (fun t k => XS.dup X3.here hx rfl (hb hby at_43) rfl rfl (XS.lload X3.here hx rfl (hb hby at_44) rfl (XS.lload X3.here hx rfl (hb hby at_46) rfl (XS.lload X3.here hx rfl (hb hby at_48) rfl (XS.iload X3.here hx rfl (hb hby at_50) rfl k))))) ?_
  show GoW p e below QQ (T3.setTop (mkF m 52 #[.val (.long q1), .second, .val (.long q2), .second, .val (.long q3), .second, .val (.int p4), .val (.long v11), .second, .val (.long v17), .second, .val (.long v28), .second, .val (.int v38), .unset, .unset, .unset] [(.int v38), (.long q3), (.long v28), (.long v17), (.ref b3), (.ref b3)]))
  obtain ⟨_, _, ⟨T5, zL5, zk5, zn5⟩, -, X5, ⟨Lc5, hQ5, zl5, zy5, zz5⟩, st5⟩ := X3.specialBack hx (y := (⟨"com/example/evenkeel/evenkeel/GeneratedInput", "<init>", "(JJJI)V"⟩ : MethodName)) rfl hown (mvT hZ (hw _ (List.mem_of_getElem? (i := 13) rfl))) (mvT hZ (hw _ (List.mem_of_getElem? (i := 14) rfl))) (mvT hZ (hw _ (List.mem_of_getElem? (i := 15) rfl))) (by decide) (backOf (W := 1) (rm3 l Z a0 hw [] b3 v17 v28 q3 v38 h3 n0 (Nat.le_trans Z0 K3.1) A3 gg3 F3_rows F3_keys F3_skewValue F3_skewPercent (by assumption) (by assumption) (by assumption) (by assumption)) hZ (hw _ (List.mem_of_getElem? (i := 15) rfl)) (hw _ (List.mem_of_getElem? (i := 12) rfl)) (by decide) (by decide)) (g := (mkF m 52 #[.val (.long q1), .second, .val (.long q2), .second, .val (.long q3), .second, .val (.int p4), .val (.long v11), .second, .val (.long v17), .second, .val (.long v28), .second, .val (.int v38), .unset, .unset, .unset] [(.int v38), (.long q3), (.long v28), (.long v17), (.ref b3), (.ref b3)])) rfl (by rw [hml]; rfl) (Steps.refl _) (a := b3) (argsL := [(.long v17), (.long v28), (.long q3), (.int v38)]) (rest := [(.ref b3)]) (lenOf pd_2 rfl) rfl (by show 2 * 0 + _ ≤ _; exact Nat.le_of_eq rfl) (hb hby at_52) (fun _ _ => ⟨rfl, e3, (by decide : 1 + 0 ≤ _), (by decide : 4 + 0 ≤ _)⟩)
  dsimp only [Pt.U, Pt.locs, Pt.cells, Pt.slots] at X5 zl5 zy5 zz5 st5 hQ5
  subst zl5 zy5 zz5
  obtain ⟨rfl, Nq5, Kq5, p5_0, p5_1, p5_2, p5_3, p5_4⟩ := hQ5
  have N5 := Fr.app N2 Nq5
  refine GoW.st (fun t k => st5.trans k) ?_
  have K5 : Keep h0 T5.heap [] := K3.trans Kq5 (allS (Or.inr sz3) all0)
  show GoW p e below QQ (T5.setTop (mkF m 55 #[.val (.long q1), .second, .val (.long q2), .second, .val (.long q3), .second, .val (.int p4), .val (.long v11), .second, .val (.long v17), .second, .val (.long v28), .second, .val (.int v38), .unset, .unset, .unset] [(.ref b3)]))
  refine GoW.st (fun t k => XS.astore X5.here hx rfl (hb hby at_55) rfl rfl (l' := #[.val (.long q1), .second, .val (.long q2), .second, .val (.long q3), .second, .val (.int p4), .val (.long v11), .second, .val (.long v17), .second, .val (.long v28), .second, .val (.int v38), .val (.ref b3), .unset, .unset]) rfl (XS.aload X5.here hx rfl (hb hby at_57) rfl rfl (XS.lload X5.here hx rfl (hb hby at_59) rfl k))) ?_
  show GoW p e below QQ (T5.setTop (mkF m 61 #[.val (.long q1), .second, .val (.long q2), .second, .val (.long q3), .second, .val (.int p4), .val (.long v11), .second, .val (.long v17), .second, .val (.long v28), .second, .val (.int v38), .val (.ref b3), .unset, .unset] [(.long v11), (.ref b3)]))
  obtain ⟨cq7, kq7, qa7, qb7, qc7⟩ := isOf hZ rfl p5_0
  obtain ⟨_, _, ⟨T7, zL7, zk7, zn7⟩, -, X7, ⟨Lc7, hQ7, zl7, zy7, zz7⟩, st7⟩ := X5.virtualBack hx (y := (⟨"com/example/evenkeel/evenkeel/GeneratedInput", "key", "(J)J"⟩ : MethodName)) (z := (⟨"com/example/evenkeel/evenkeel/GeneratedInput", "key", "(J)J"⟩ : MethodName)) hown (mvT hZ (hw _ (List.mem_of_getElem? (i := 32) rfl))) (mvT hZ (hw _ (List.mem_of_getElem? (i := 33) rfl))) (notFace_of_selects (args := #[]) (mvT hZ (hw _ (List.mem_of_getElem? (i := 35) rfl)))) (mvT hZ (hw _ (List.mem_of_getElem? (i := 35) rfl))) (mvT hZ (hw _ (List.mem_of_getElem? (i := 34) rfl))) (by decide) (backOf (W := 0) (rm6 l Z a0 hw [] b3 v11 v28 q3 v38 T5.heap n0 (Nat.le_trans Z0 K5.1) p5_2 p5_3 p5_4 (by assumption)) hZ (hw _ (List.mem_of_getElem? (i := 36) rfl)) (hw _ (List.mem_of_getElem? (i := 12) rfl)) (by decide) (by decide)) qa7 qc7 (g := (mkF m 61 #[.val (.long q1), .second, .val (.long q2), .second, .val (.long q3), .second, .val (.int p4), .val (.long v11), .second, .val (.long v17), .second, .val (.long v28), .second, .val (.int v38), .val (.ref b3), .unset, .unset] [(.long v11), (.ref b3)])) rfl (by rw [hml]; rfl) (Steps.refl _) (argsL := [(.long v11)]) (rest := []) (lenOf pd_3 rfl) rfl (by show 2 * 0 + _ ≤ _; exact Nat.le_of_eq rfl) (hb hby at_61) (fun _ _ => ⟨rfl, rfl, (by decide : 1 + 0 ≤ _), (by decide : 4 + 0 ≤ _)⟩)
  dsimp only [Pt.U, Pt.locs, Pt.cells, Pt.slots] at X7 zl7 zy7 zz7 st7 hQ7
  subst zl7 zy7 zz7
  obtain ⟨rfl, Nq7, hh7⟩ := hQ7
  have N7 := Fr.app N5 Nq7
  refine GoW.st (fun t k => st7.trans k) ?_
  show GoW p e below QQ (T7.setTop (mkF m 64 #[.val (.long q1), .second, .val (.long q2), .second, .val (.long q3), .second, .val (.int p4), .val (.long v11), .second, .val (.long v17), .second, .val (.long v28), .second, .val (.int v38), .val (.ref b3), .unset, .unset] [(.long (own_key v11 v28 q3 v38))]))
  refine GoW.st (fun t k => XS.lstore X7.here hx rfl (hb hby at_64) rfl (l' := #[.val (.long q1), .second, .val (.long q2), .second, .val (.long q3), .second, .val (.int p4), .val (.long v11), .second, .val (.long v17), .second, .val (.long v28), .second, .val (.int v38), .val (.ref b3), .val (.long (own_key v11 v28 q3 v38)), .second]) rfl k) ?_
  show GoW p e below QQ (T7.setTop (mkF m 66 #[.val (.long q1), .second, .val (.long q2), .second, .val (.long q3), .second, .val (.int p4), .val (.long v11), .second, .val (.long v17), .second, .val (.long v28), .second, .val (.int v38), .val (.ref b3), .val (.long (own_key v11 v28 q3 v38)), .second] []))
  generalize hv64 : (own_key v11 v28 q3 v38) = v64
  refine GoW.st (fun t k => XS.lload X7.here hx rfl (hb hby at_66) rfl (XS.lload X7.here hx rfl (hb hby at_68) rfl (XS.lload X7.here hx rfl (hb hby at_70) rfl (XS.lload X7.here hx rfl (hb hby at_72) rfl (XS.iload X7.here hx rfl (hb hby at_74) rfl k))))) ?_
  show GoW p e below QQ (T7.setTop (mkF m 76 #[.val (.long q1), .second, .val (.long q2), .second, .val (.long q3), .second, .val (.int p4), .val (.long v11), .second, .val (.long v17), .second, .val (.long v28), .second, .val (.int v38), .val (.ref b3), .val (.long v64), .second] [(.int v38), (.long q3), (.long v28), (.long v11), (.long v64)]))
  obtain ⟨_, _, ⟨T8, zL8, zk8, zn8⟩, -, X8, ⟨Lc8, hQ8, zl8, zy8, zz8⟩, st8⟩ := Jvm.LawKit.callS X7 hx (y := (⟨"com/example/evenkeel/evenkeel/GeneratedInputKeyPinLaw", "expected", "(JJJI)J"⟩ : MethodName)) hown (mvT hZ (hw _ (List.mem_of_getElem? (i := 41) rfl))) (mvT hZ (hw _ (List.mem_of_getElem? (i := 42) rfl))) (mvT hZ (hw _ (List.mem_of_getElem? (i := 43) rfl))) (mvT hZ (hw _ (List.mem_of_getElem? (i := 44) rfl))) (by decide) (backOf (W := 2) (rm7 l Z a0 hw [] v11 v28 q3 v38 T5.heap n0 (Nat.le_trans Z0 K5.1) (by assumption)) hZ (hw _ (List.mem_of_getElem? (i := 44) rfl)) (hw _ (List.mem_of_getElem? (i := 43) rfl)) (by decide) (by decide)) (g := (mkF m 76 #[.val (.long q1), .second, .val (.long q2), .second, .val (.long q3), .second, .val (.int p4), .val (.long v11), .second, .val (.long v17), .second, .val (.long v28), .second, .val (.int v38), .val (.ref b3), .val (.long v64), .second] [(.int v38), (.long q3), (.long v28), (.long v11), (.long v64)])) rfl (by rw [hml]; rfl) (argsL := [(.long v11), (.long v28), (.long q3), (.int v38)]) (rest := [(.long v64)]) (lenOf pd_4 rfl) rfl (by show 2 * 0 + _ ≤ _; exact Nat.le_of_eq rfl) (hb hby at_76) (fun _ _ => ⟨rfl, hh7, (by decide : 1 + 0 ≤ _), (by decide : 4 + 0 ≤ _)⟩)
  dsimp only [Pt.U, Pt.locs, Pt.cells, Pt.slots] at X8 zl8 zy8 zz8 st8 hQ8
  subst zl8 zy8 zz8
  obtain ⟨rfl, Nq8, hh8⟩ := hQ8
  have N8 := Fr.app N7 Nq8
  refine GoW.st st8 ?_
  show GoW p e below QQ (T8.setTop (mkF m 79 #[.val (.long q1), .second, .val (.long q2), .second, .val (.long q3), .second, .val (.int p4), .val (.long v11), .second, .val (.long v17), .second, .val (.long v28), .second, .val (.int v38), .val (.ref b3), .val (.long v64), .second] [(.long (own_want v11 v28 q3 v38)), (.long v64)]))
  refine GoW.st (fun t k => XS.lcmp X8.here hx rfl (hb hby at_79) rfl k) ?_
  show GoW p e below QQ (T8.setTop (mkF m 80 #[.val (.long q1), .second, .val (.long q2), .second, .val (.long q3), .second, .val (.int p4), .val (.long v11), .second, .val (.long v17), .second, .val (.long v28), .second, .val (.int v38), .val (.ref b3), .val (.long v64), .second] [(.int (lcmpW v64 (own_want v11 v28 q3 v38)))]))
  have hc80 : v64 = (own_want v11 v28 q3 v38) := by
    subst hv64
    exact own_same _ _ _ _
  refine GoW.st (fun t k => XS.ifNo X8.here hx rfl (hb hby at_80) rfl ((if0 _ _).trans (teq ((lw_eq v64 (own_want v11 v28 q3 v38)).mpr hc80)).2) (XS.iconst X8.here hx rfl (hb hby at_83) (XS.goto X8.here hx rfl (pc0 := 84) (pc' := 88) rfl (hb hby at_84) (by decide) (by decide) k))) ?_
  show GoW p e below QQ (T8.setTop (mkF m 88 #[.val (.long q1), .second, .val (.long q2), .second, .val (.long q3), .second, .val (.int p4), .val (.long v11), .second, .val (.long v17), .second, .val (.long v28), .second, .val (.int v38), .val (.ref b3), .val (.long v64), .second] [(.int (1 : Int32))]))
  exact GoW.fin X8 (some (.int (nar .boolean (1 : Int32)))) (fun q => by rw [hret] at q; cases q) hlk hQ hh8 ⟨rfl, N8⟩ (by decide) (by decide) (fun fs hr => retN X8 hx (t := .boolean) hret (by simp) (hb hby at_88) hr)
set_option maxRecDepth 65536 in
set_option maxHeartbeats 40000000 in
theorem comes_1 {Post : Tables → Env → Array Value → State → Outcome → State → Prop} (hpost : ∀ tb e args s v u, (limb_1_1.after args s (.returned v) u = true ∧ limb_1_2.after args s (.returned v) u = true ∧ True) → FrameEnd s (.returned v) u (Jvm.fieldLocs frame_1_writes args s ++ Jvm.arrayLocs frame_1_arrays args s ++ Jvm.staticLocs frame_1_statics s) 16 128 → Post tb e args s (.returned v) u) :
    ArmFor flags0 classFile x code maxLocals ret World_1 tables_1 room_1 Calls_1 rest_1 Pre_1 Post := by
  intro l hfl _ _ p e ha hc hk s m args below hf hA hF happ hP
  obtain ⟨hcalls, hrest, hpre⟩ := hP
  obtain ⟨-, -, -, hnamed, -, -, -, hat⟩ := (Spec.applies_iff hf).mp happ
  obtain ⟨hg, hn⟩ := and_e (Cond.before_iff.mp (show (Jvm.Cond.and given_1 narrow_1).before args s = true from hpre))
  obtain ⟨gcount, gr0⟩ := and_e hg
  obtain ⟨ga0, gr1⟩ := and_e gr0
  obtain ⟨ga1, gr2⟩ := and_e gr1
  obtain ⟨ga2, gr3⟩ := and_e gr2
  obtain ⟨w0, w1, w2, w3, rfl⟩ : ∃ w0 w1 w2 w3 : Value, args = #[w0, w1, w2, w3] := by
    have hs : args.size = 4 := by simpa [Cond.value, given_1] using gcount
    obtain ⟨L⟩ := args
    match L, hs with
    | [w0, w1, w2, w3], _ => exact ⟨w0, w1, w2, w3, rfl⟩
  have hw := fun d (hd : d ∈ tables_1) => atoms_spec (ws := Jvm.Cond.code x code maxLocals ret :: tables_1) hat d (List.mem_cons_of_mem _ hd)
  obtain ⟨i0, ei0⟩ := isL_v ga0
  obtain rfl : w0 = (.long i0) := Option.some.inj ei0
  obtain ⟨i1, ei1⟩ := isL_v ga1
  obtain rfl : w1 = (.long i1) := Option.some.inj ei1
  obtain ⟨i2, ei2⟩ := isL_v ga2
  obtain rfl : w2 = (.long i2) := Option.some.inj ei2
  obtain ⟨i3, ei3⟩ := is_v gr3
  obtain rfl : w3 = (.int i3) := Option.some.inj ei3
  obtain ⟨n, o, h1, h2, h3, _, L, rfl, ⟨rfl, N⟩, hq⟩ := rm0 l s _ hw tables_1 i0 i1 i2 i3 s.heap s.heap.size (Nat.le_refl _) (Nat.le_refl _) p e ha hc hk s m _ below hf ((Spec.applies_iff_loose hf).mp happ).1 ⟨rfl, State.Warmed39.refl s, rfl⟩ trivial
  refine ⟨n, _, h1, h2, h3, hpost _ _ _ _ _ _ ⟨Cond.after_iff.mpr rfl, Cond.after_iff.mpr (eq_i res_at (Term.int_eval (1)) rfl), trivial⟩ ⟨hq.1, hq.2.1, (hq.2.2.sift fun y hy => Or.inr (N y hy)).mono (by decide) (by decide)⟩⟩
theorem main_1_1 : Claimed_1_1 := comes_1 fun _ _ _ _ _ _ h hF => ⟨h.1, hF⟩
theorem main_1_2 : Claimed_1_2 := comes_1 fun _ _ _ _ _ _ h hF => ⟨h.2.1, hF⟩
end Jvm.Pilot.@@N@@
namespace Jvm.Pilot.@@N@@
open Jvm Jvm.ClassFile Sem Op Lib Jvm.Free Jvm.Stand Jvm.Pilot.@@N@@.Jvm.D
/-! MADE BY PROGRAM (witnessworld.py) out of the Statement's table words and the real class files: 11 classes; the members and pool entries that the words name. The judged class is class 1, her method 1. -/
namespace start1
open Jvm.ClassFile
def u (s : String) : CpInfo := .utf8 (stringToUtf16 s)
/-- a pool by its gaps: so many unusable entries, then the entry; so many at the end -/
def gap : Nat → List CpInfo → List CpInfo
  | 0, r => r
  | n + 1, r => .unusable :: gap n r
def poolList (es : List (Nat × CpInfo)) (last : Nat) : List CpInfo := es.foldr (fun e r => gap e.1 (e.2 :: r)) (gap last [])
def pool (es : List (Nat × CpInfo)) (last : Nat) : Array CpInfo := ⟨poolList es last⟩
def fileOf (pool : Array CpInfo) (this : Nat) (attrs : Array Attribute := #[]) (ms : Array MethodInfo := #[]) (fl : Nat := 33) (sup : Nat := 0) (ifs : Array Nat := #[]) (fds : Array FieldInfo := #[]) : ClassFile where
  minorVersion := 0
  majorVersion := 65
  constantPool := pool
  accessFlags := fl
  thisClass := this
  superClass := sup
  interfaces := ifs
  fields := fds
  methods := ms
  attributes := attrs
def plain (name : String) (sup : Option ClassId) : Class where
  name := name
  kind := .ordinary
  loader := none
  accessFlags := 33
  super := sup
  interfaces := #[]
  cf := none
  fields := #[]
  methods := #[]
  instanceTypes := #[]
  staticTypes := #[]
  resolved := #[]
  callSites := []
  init := .initialized
  statics := none
  mirror := none

def pool0 : Array CpInfo := pool [(5, u "<init>"), (0, u "()V"), (1, .class_ 10), (1, u "java/lang/Object")] 113

def k0c0 : Code := { maxStack := 0, maxLocals := 1, code := object_method_1_code, exceptionTable := #[], attributes := #[] }
def k0m0 : Method := { name := "<init>", desc := "()V", sig := { parameters := [], returnType := none }, accessFlags := 1, code := some k0c0 }
/-- java/lang/Object -/
def k0 : Class := { plain "java/lang/Object" none with
  accessFlags := 33
  interfaces := #[]
  cf := some (fileOf pool0 8 #[] #[{ accessFlags := 1, nameIndex := 5, descriptorIndex := 6, attributes := #[] }] 33 0 #[] #[])
  fields := #[]
  methods := #[k0m0]
  instanceTypes := #[]
  staticTypes := #[]
  resolved := Array.replicate 124 none
  statics := none }

def pool1 : Array CpInfo := pool [(2, .class_ 4), (1, u "java/lang/Object"), (0, u "<init>"), (0, u "()V"), (2, .long 9223372036854775807), (1, .long 9223372036854775806), (1, .methodref 14 15), (0, .class_ 16), (0, .nameAndType 17 18), (0, u "java/lang/Math"), (0, u "min"), (0, u "(JJ)J"), (0, .methodref 14 20), (0, .nameAndType 21 18), (0, u "max"), (0, .integer 2147483647), (0, .class_ 24), (0, u "com/example/evenkeel/evenkeel/GeneratedInput"), (0, .methodref 23 26), (0, .nameAndType 5 27), (0, u "(JJJI)V"), (0, .methodref 23 29), (0, .nameAndType 30 31), (0, u "key"), (0, u "(J)J"), (0, .methodref 33 34), (0, .class_ 35), (0, .nameAndType 36 37), (0, u "com/example/evenkeel/evenkeel/GeneratedInputKeyPinLaw"), (0, u "expected"), (0, u "(JJJI)J"), (0, .integer 2246822519), (0, .integer 2654435761), (0, .long 4294967295), (3, u "law"), (0, u "(JJJI)Z")] 3

def k1m0 : Method := { name := "<init>", desc := "()V", sig := { parameters := [], returnType := none }, accessFlags := 2, code := none }
def k1c1 : Code := { maxStack := 9, maxLocals := 17, code := code, exceptionTable := #[], attributes := #[] }
def k1m1 : Method := { name := "law", desc := "(JJJI)Z", sig := { parameters := [.long, .long, .long, .int], returnType := some .boolean }, accessFlags := 9, code := some k1c1 }
def k1c2 : Code := { maxStack := 4, maxLocals := 13, code := method_3_code, exceptionTable := #[], attributes := #[] }
def k1m2 : Method := { name := "expected", desc := "(JJJI)J", sig := { parameters := [.long, .long, .long, .int], returnType := some .long }, accessFlags := 10, code := some k1c2 }
/-- com/example/evenkeel/evenkeel/GeneratedInputKeyPinLaw -/
def k1 : Class := { plain "com/example/evenkeel/evenkeel/GeneratedInputKeyPinLaw" (some 0) with
  accessFlags := 49
  interfaces := #[]
  cf := some (fileOf pool1 33 #[] #[{ accessFlags := 2, nameIndex := 5, descriptorIndex := 6, attributes := #[] }, { accessFlags := 9, nameIndex := 44, descriptorIndex := 45, attributes := #[] }, { accessFlags := 10, nameIndex := 36, descriptorIndex := 37, attributes := #[] }] 49 2 #[] #[])
  fields := #[]
  methods := #[k1m0, k1m1, k1m2]
  instanceTypes := #[]
  staticTypes := #[]
  resolved := Array.replicate 49 none
  statics := none }

def pool2 : Array CpInfo := pool [(1, .class_ 2), (0, u "java/lang/Math"), (1, .class_ 6), (1, u "java/lang/Object"), (0, u "<init>"), (0, u "()V"), (89, .class_ 100), (1, u "java/lang/Math$RandomNumberGeneratorHolder"), (20, u "(JJ)J"), (50, u "negativeZeroFloatBits"), (0, u "J"), (2, u "negativeZeroDoubleBits"), (21, u "max"), (2, u "min"), (43, u "$assertionsDisabled"), (0, u "Z"), (91, u "twoToTheDoubleScaleDown"), (0, u "D"), (4, u "twoToTheDoubleScaleUp"), (9, u "E"), (3, u "PI"), (2, u "TAU"), (2, u "DEGREES_TO_RADIANS"), (0, u "RADIANS_TO_DEGREES")] 94

def k2m0 : Method := { name := "<init>", desc := "()V", sig := { parameters := [], returnType := none }, accessFlags := 2, code := none }
def k2c1 : Code := { maxStack := 4, maxLocals := 4, code := jdk_29_method_66_code, exceptionTable := #[], attributes := #[] }
def k2m1 : Method := { name := "max", desc := "(JJ)J", sig := { parameters := [.long, .long], returnType := some .long }, accessFlags := 9, code := some k2c1 }
def k2c2 : Code := { maxStack := 4, maxLocals := 4, code := jdk_29_method_70_code, exceptionTable := #[], attributes := #[] }
def k2m2 : Method := { name := "min", desc := "(JJ)J", sig := { parameters := [.long, .long], returnType := some .long }, accessFlags := 9, code := some k2c2 }
/-- java/lang/Math -/
def k2 : Class := { plain "java/lang/Math" (some 0) with
  accessFlags := 49
  interfaces := #[]
  cf := some (fileOf pool2 1 #[.nestMembers #[98]] #[{ accessFlags := 2, nameIndex := 7, descriptorIndex := 8, attributes := #[] }, { accessFlags := 9, nameIndex := 198, descriptorIndex := 121, attributes := #[] }, { accessFlags := 9, nameIndex := 201, descriptorIndex := 121, attributes := #[] }] 49 4 #[] #[{ accessFlags := 25, nameIndex := 354, descriptorIndex := 339, attributes := #[] }, { accessFlags := 25, nameIndex := 358, descriptorIndex := 339, attributes := #[] }, { accessFlags := 25, nameIndex := 361, descriptorIndex := 339, attributes := #[] }, { accessFlags := 26, nameIndex := 364, descriptorIndex := 339, attributes := #[] }, { accessFlags := 26, nameIndex := 365, descriptorIndex := 339, attributes := #[] }, { accessFlags := 26, nameIndex := 172, descriptorIndex := 173, attributes := #[] }, { accessFlags := 26, nameIndex := 176, descriptorIndex := 173, attributes := #[] }, { accessFlags := 8, nameIndex := 344, descriptorIndex := 339, attributes := #[] }, { accessFlags := 8, nameIndex := 338, descriptorIndex := 339, attributes := #[] }, { accessFlags := 4120, nameIndex := 245, descriptorIndex := 246, attributes := #[] }])
  fields := #[{ name := "E", type := .double, accessFlags := 25, slot := 0, constantValue := 0 }, { name := "PI", type := .double, accessFlags := 25, slot := 1, constantValue := 0 }, { name := "TAU", type := .double, accessFlags := 25, slot := 2, constantValue := 0 }, { name := "DEGREES_TO_RADIANS", type := .double, accessFlags := 26, slot := 3, constantValue := 0 }, { name := "RADIANS_TO_DEGREES", type := .double, accessFlags := 26, slot := 4, constantValue := 0 }, { name := "negativeZeroFloatBits", type := .long, accessFlags := 26, slot := 5, constantValue := 0 }, { name := "negativeZeroDoubleBits", type := .long, accessFlags := 26, slot := 6, constantValue := 0 }, { name := "twoToTheDoubleScaleUp", type := .double, accessFlags := 8, slot := 7, constantValue := 0 }, { name := "twoToTheDoubleScaleDown", type := .double, accessFlags := 8, slot := 8, constantValue := 0 }, { name := "$assertionsDisabled", type := .boolean, accessFlags := 4120, slot := 9, constantValue := 0 }]
  methods := #[k2m0, k2m1, k2m2]
  instanceTypes := #[]
  staticTypes := #[.double, .double, .double, .double, .double, .long, .long, .double, .double, .boolean]
  resolved := Array.replicate 460 none
  statics := none }

def pool3 : Array CpInfo := pool [(1, .methodref 2 3), (0, .class_ 4), (0, .nameAndType 5 6), (0, u "java/lang/Object"), (0, u "<init>"), (0, u "()V"), (0, .class_ 8), (0, u "java/lang/Record")] 13

def k3c0 : Code := { maxStack := 1, maxLocals := 1, code := jdk_30_method_1_code, exceptionTable := #[], attributes := #[] }
def k3m0 : Method := { name := "<init>", desc := "()V", sig := { parameters := [], returnType := none }, accessFlags := 4, code := some k3c0 }
/-- java/lang/Record -/
def k3 : Class := { plain "java/lang/Record" (some 0) with
  accessFlags := 1057
  interfaces := #[]
  cf := some (fileOf pool3 7 #[] #[{ accessFlags := 4, nameIndex := 5, descriptorIndex := 6, attributes := #[] }] 1057 2 #[] #[])
  fields := #[]
  methods := #[k3m0]
  instanceTypes := #[]
  staticTypes := #[]
  resolved := Array.replicate 22 none
  statics := none }

def pool4 : Array CpInfo := pool [(1, .methodref 2 3), (0, .class_ 4), (0, .nameAndType 5 6), (0, u "java/lang/Record"), (0, u "<init>"), (0, u "()V"), (13, .fieldref 21 22), (0, .class_ 23), (0, .nameAndType 24 25), (0, u "com/example/evenkeel/evenkeel/GeneratedInput"), (0, u "rows"), (0, u "J"), (0, .fieldref 21 27), (0, .nameAndType 28 25), (0, u "keys"), (0, .fieldref 21 30), (0, .nameAndType 31 25), (0, u "skewValue"), (0, .fieldref 21 33), (0, .nameAndType 34 35), (0, u "skewPercent"), (0, u "I"), (0, .long 2246822519), (1, .long 4294967295), (1, .long 2654435761), (1, .long 100), (21, u "key"), (0, u "(J)J"), (29, u "SKEW_MULTIPLIER"), (1, u "KEY_MULTIPLIER"), (0, u "LOW_32_BITS"), (0, u "BLOCK_CHARS"), (0, u "(JJJI)V")] 44

def k4c0 : Code := { maxStack := 4, maxLocals := 8, code := prog_5_method_1_code, exceptionTable := #[], attributes := #[] }
def k4m0 : Method := { name := "<init>", desc := "(JJJI)V", sig := { parameters := [.long, .long, .long, .int], returnType := none }, accessFlags := 0, code := some k4c0 }
def k4c1 : Code := { maxStack := 4, maxLocals := 9, code := prog_5_method_2_code, exceptionTable := #[], attributes := #[] }
def k4m1 : Method := { name := "key", desc := "(J)J", sig := { parameters := [.long], returnType := some .long }, accessFlags := 0, code := some k4c1 }
/-- com/example/evenkeel/evenkeel/GeneratedInput -/
def k4 : Class := { plain "com/example/evenkeel/evenkeel/GeneratedInput" (some 3) with
  accessFlags := 48
  interfaces := #[]
  cf := some (fileOf pool4 21 #[] #[{ accessFlags := 0, nameIndex := 5, descriptorIndex := 100, attributes := #[] }, { accessFlags := 0, nameIndex := 64, descriptorIndex := 65, attributes := #[] }] 48 2 #[] #[{ accessFlags := 18, nameIndex := 24, descriptorIndex := 25, attributes := #[] }, { accessFlags := 18, nameIndex := 28, descriptorIndex := 25, attributes := #[] }, { accessFlags := 18, nameIndex := 31, descriptorIndex := 25, attributes := #[] }, { accessFlags := 18, nameIndex := 34, descriptorIndex := 35, attributes := #[] }, { accessFlags := 26, nameIndex := 95, descriptorIndex := 25, attributes := #[] }, { accessFlags := 26, nameIndex := 97, descriptorIndex := 25, attributes := #[] }, { accessFlags := 26, nameIndex := 98, descriptorIndex := 25, attributes := #[] }, { accessFlags := 26, nameIndex := 99, descriptorIndex := 35, attributes := #[] }])
  fields := #[{ name := "rows", type := .long, accessFlags := 18, slot := 0, constantValue := 0 }, { name := "keys", type := .long, accessFlags := 18, slot := 1, constantValue := 0 }, { name := "skewValue", type := .long, accessFlags := 18, slot := 2, constantValue := 0 }, { name := "skewPercent", type := .int, accessFlags := 18, slot := 3, constantValue := 0 }, { name := "SKEW_MULTIPLIER", type := .long, accessFlags := 26, slot := 0, constantValue := 0 }, { name := "KEY_MULTIPLIER", type := .long, accessFlags := 26, slot := 1, constantValue := 0 }, { name := "LOW_32_BITS", type := .long, accessFlags := 26, slot := 2, constantValue := 0 }, { name := "BLOCK_CHARS", type := .int, accessFlags := 26, slot := 3, constantValue := 0 }]
  methods := #[k4m0, k4m1]
  instanceTypes := #[.long, .long, .long, .int]
  staticTypes := #[.long, .long, .long, .int]
  resolved := Array.replicate 145 none
  statics := none }

def pool5 : Array CpInfo := pool [(1, u "java/lang/Cloneable"), (0, .class_ 1), (0, u "java/lang/Object"), (0, .class_ 3)] 3

/-- java/lang/Cloneable -/
def k5 : Class := { plain "java/lang/Cloneable" (some 0) with
  accessFlags := 1537
  interfaces := #[]
  cf := some (fileOf pool5 2 #[] #[] 1537 4 #[] #[])
  fields := #[]
  methods := #[]
  instanceTypes := #[]
  staticTypes := #[]
  resolved := Array.replicate 8 none
  statics := none }

def pool6 : Array CpInfo := pool [(1, u "java/io/Serializable"), (0, .class_ 1), (0, u "java/lang/Object"), (0, .class_ 3)] 3

/-- java/io/Serializable -/
def k6 : Class := { plain "java/io/Serializable" (some 0) with
  accessFlags := 1537
  interfaces := #[]
  cf := some (fileOf pool6 2 #[] #[] 1537 4 #[] #[])
  fields := #[]
  methods := #[]
  instanceTypes := #[]
  staticTypes := #[]
  resolved := Array.replicate 8 none
  statics := none }

/-- the primitive byte -/
def k7 : Class := { plain "byte" none with kind := .primitive 'B', accessFlags := 0x411 }
/-- [B -/
def k8 : Class := { plain "[B" (some 0) with kind := .array 7 .byte, interfaces := #[5, 6], accessFlags := 1041 }

/-- the primitive int -/
def k9 : Class := { plain "int" none with kind := .primitive 'I', accessFlags := 0x411 }
/-- [I -/
def k10 : Class := { plain "[I" (some 0) with kind := .array 9 .int, interfaces := #[5, 6], accessFlags := 1041 }

def heap : Heap := #[]
def classes : Array Class := #[k0, k1, k2, k3, k4, k5, k6, k7, k8, k9, k10]
def interned : List (Array UInt16 × Addr) := []
def slotsUsed : Nat := 0
def theMethod : MethodId := ⟨1, 1⟩
def args0 : Array Value := #[.long 5, .long 6, .long 7, .int 8]
def aboutOver (below : List Frame) : State where
  vm := { classes := classes, interned := interned.toArray }
  heap := heap
  slotsUsed := slotsUsed
  threads := #[{ frames := .invoking theMethod args0 :: below }]
def below0 : List Frame := [.native { method := ⟨0, 0⟩, args := #[] }]
def about1 : State := aboutOver below0
def p0 : Program := .bare "" "" ""
def e0 : Env := launch0.env 0 0 0
theorem w_frames : about1.frames = Frame.invoking theMethod args0 :: below0 := rfl
set_option maxRecDepth 65536 in
theorem w_args : argsFit about1.vm theMethod args0 = true := by decide +kernel
set_option maxRecDepth 65536 in
theorem w_heap : heapFits about1 = true := by decide +kernel
set_option maxRecDepth 65536 in
theorem w_runnable : about1.curStatus? = some .runnable := by decide +kernel
set_option maxRecDepth 65536 in
theorem w_alone : about1.alone = true := by decide +kernel
set_option maxRecDepth 65536 in
theorem w_named : about1.methodNamed? x = some theMethod := by decide +kernel
set_option maxRecDepth 65536 in
theorem w_hears : about1.hears theMethod below0 = true := by decide +kernel
set_option maxRecDepth 65536 in
theorem w_ripe : about1.ripe theMethod args0 below0 = true := by decide +kernel
theorem w_running : about1.status = .running := rfl
set_option maxRecDepth 65536 in
theorem w_room : about1.hasRoom e0.platform room_1 = true :=
  launch0.hasRoom_least _ room_1 (by decide +kernel) (by decide +kernel) (by decide +kernel) (by decide +kernel) (by decide +kernel) (by decide +kernel)
theorem allAtoms_all (ts : List Jvm.Cond) (a : Array Jvm.Value) (st : Jvm.State) : (allAtoms ts).before a st = ts.all (fun c => c.before a st) := by
  induction ts with
  | nil => rfl
  | cons c t ih =>
    show (Jvm.Cond.and c (allAtoms t)).before a st = _
    rw [Jvm.Cond.before_and, ih, List.all_cons]
def words1 : List Jvm.Cond := Jvm.Cond.code x code maxLocals ret :: tables_1
/-- a 'code' word, met by the world's own term for the bytes: nothing is compared byte by byte -/
theorem code_word {y : MethodName} {bytes : ByteArray} {mx : Nat} {rt : Option FieldType} {a : Array Value} {s : State} {m : MethodId} {meth : Method} {c : Code} (h1 : s.methodNamed? y = some m) (h2 : s.vm.method? m = some meth) (h3 : meth.code = some c) (h4 : c.code = bytes)
    (h5 : (c.maxLocals == mx && c.exceptionTable.isEmpty && decide (c.maxStack ≤ mostOperands) && decide (meth.sig.returnType = rt) && !meth.locks && decide (parseMethodDescriptor y.desc = some meth.sig)) = true) : (Jvm.Cond.code y bytes mx rt).before a s = true := by
  simp only [Bool.and_eq_true, beq_iff_eq, Bool.not_eq_true', decide_eq_true_eq] at h5
  obtain ⟨⟨⟨⟨⟨g1, g2⟩, g3⟩, g4⟩, g5⟩, g6⟩ := h5
  simp [Cond.before, Cond.holds, Cond.value, h1, h2, h3, h4, g1, g2, g3, g4, g5, g6]
def isCode : Jvm.Cond → Bool
  | .code _ _ _ _ => true
  | _ => false
theorem all_split {L : List Jvm.Cond} {P : Jvm.Cond → Bool} (h1 : L.all (fun c => isCode c || P c) = true) (h2 : ∀ c ∈ L.filter isCode, P c = true) : L.all P = true := by
  refine List.all_eq_true.mpr fun c hc => ?_
  have h := List.all_eq_true.mp h1 c hc
  rcases Bool.eq_false_or_eq_true (isCode c) with hi | hi
  · exact h2 c (List.mem_filter.mpr ⟨hc, hi⟩)
  · simpa [hi] using h
set_option maxRecDepth 65536 in
theorem w_c0 : (Jvm.Cond.code x code maxLocals ret).before args0 about1 = true := code_word (m := ⟨1, 1⟩) (meth := k1m1) (c := k1c1) (by decide +kernel) rfl rfl rfl (by decide +kernel)
set_option maxRecDepth 65536 in
theorem w_c1 : (Jvm.Cond.code ({ cls := "java/lang/Math", name := "min", desc := "(JJ)J" } : Jvm.MethodName) jdk_29_method_70_code (4 : Nat) (Option.some Jvm.ClassFile.FieldType.long)).before args0 about1 = true := code_word (m := ⟨2, 2⟩) (meth := k2m2) (c := k2c2) (by decide +kernel) rfl rfl rfl (by decide +kernel)
set_option maxRecDepth 65536 in
theorem w_c2 : (Jvm.Cond.code ({ cls := "java/lang/Math", name := "max", desc := "(JJ)J" } : Jvm.MethodName) jdk_29_method_66_code (4 : Nat) (Option.some Jvm.ClassFile.FieldType.long)).before args0 about1 = true := code_word (m := ⟨2, 1⟩) (meth := k2m1) (c := k2c1) (by decide +kernel) rfl rfl rfl (by decide +kernel)
set_option maxRecDepth 65536 in
theorem w_c3 : (Jvm.Cond.code ({ cls := "com/example/evenkeel/evenkeel/GeneratedInput", name := "<init>", desc := "(JJJI)V" } : Jvm.MethodName) prog_5_method_1_code (8 : Nat) (Option.none : Option Jvm.ClassFile.FieldType)).before args0 about1 = true := code_word (m := ⟨4, 0⟩) (meth := k4m0) (c := k4c0) (by decide +kernel) rfl rfl rfl (by decide +kernel)
set_option maxRecDepth 65536 in
theorem w_c4 : (Jvm.Cond.code ({ cls := "java/lang/Record", name := "<init>", desc := "()V" } : Jvm.MethodName) jdk_30_method_1_code (1 : Nat) (Option.none : Option Jvm.ClassFile.FieldType)).before args0 about1 = true := code_word (m := ⟨3, 0⟩) (meth := k3m0) (c := k3c0) (by decide +kernel) rfl rfl rfl (by decide +kernel)
set_option maxRecDepth 65536 in
theorem w_c5 : (Jvm.Cond.code ({ cls := "java/lang/Object", name := "<init>", desc := "()V" } : Jvm.MethodName) object_method_1_code (1 : Nat) (Option.none : Option Jvm.ClassFile.FieldType)).before args0 about1 = true := code_word (m := ⟨0, 0⟩) (meth := k0m0) (c := k0c0) (by decide +kernel) rfl rfl rfl (by decide +kernel)
set_option maxRecDepth 65536 in
theorem w_c6 : (Jvm.Cond.code ({ cls := "com/example/evenkeel/evenkeel/GeneratedInput", name := "key", desc := "(J)J" } : Jvm.MethodName) prog_5_method_2_code (9 : Nat) (Option.some Jvm.ClassFile.FieldType.long)).before args0 about1 = true := code_word (m := ⟨4, 1⟩) (meth := k4m1) (c := k4c1) (by decide +kernel) rfl rfl rfl (by decide +kernel)
set_option maxRecDepth 65536 in
theorem w_c7 : (Jvm.Cond.code ({ cls := "com/example/evenkeel/evenkeel/GeneratedInputKeyPinLaw", name := "expected", desc := "(JJJI)J" } : Jvm.MethodName) method_3_code (13 : Nat) (Option.some Jvm.ClassFile.FieldType.long)).before args0 about1 = true := code_word (m := ⟨1, 2⟩) (meth := k1m2) (c := k1c2) (by decide +kernel) rfl rfl rfl (by decide +kernel)
def codes1 : List Jvm.Cond := [Jvm.Cond.code x code maxLocals ret, Jvm.Cond.code ({ cls := "java/lang/Math", name := "min", desc := "(JJ)J" } : Jvm.MethodName) jdk_29_method_70_code (4 : Nat) (Option.some Jvm.ClassFile.FieldType.long), Jvm.Cond.code ({ cls := "java/lang/Math", name := "max", desc := "(JJ)J" } : Jvm.MethodName) jdk_29_method_66_code (4 : Nat) (Option.some Jvm.ClassFile.FieldType.long), Jvm.Cond.code ({ cls := "com/example/evenkeel/evenkeel/GeneratedInput", name := "<init>", desc := "(JJJI)V" } : Jvm.MethodName) prog_5_method_1_code (8 : Nat) (Option.none : Option Jvm.ClassFile.FieldType), Jvm.Cond.code ({ cls := "java/lang/Record", name := "<init>", desc := "()V" } : Jvm.MethodName) jdk_30_method_1_code (1 : Nat) (Option.none : Option Jvm.ClassFile.FieldType), Jvm.Cond.code ({ cls := "java/lang/Object", name := "<init>", desc := "()V" } : Jvm.MethodName) object_method_1_code (1 : Nat) (Option.none : Option Jvm.ClassFile.FieldType), Jvm.Cond.code ({ cls := "com/example/evenkeel/evenkeel/GeneratedInput", name := "key", desc := "(J)J" } : Jvm.MethodName) prog_5_method_2_code (9 : Nat) (Option.some Jvm.ClassFile.FieldType.long), Jvm.Cond.code ({ cls := "com/example/evenkeel/evenkeel/GeneratedInputKeyPinLaw", name := "expected", desc := "(JJJI)J" } : Jvm.MethodName) method_3_code (13 : Nat) (Option.some Jvm.ClassFile.FieldType.long)]
set_option maxRecDepth 65536 in
theorem codes_eq : words1.filter isCode = codes1 := rfl
theorem w_codes : ∀ c ∈ words1.filter isCode, c.before args0 about1 = true := by
  rw [codes_eq]
  intro c hc
  simp only [codes1, List.mem_cons, List.not_mem_nil, or_false] at hc
  rcases hc with rfl | rfl | rfl | rfl | rfl | rfl | rfl | rfl
  · exact w_c0
  · exact w_c1
  · exact w_c2
  · exact w_c3
  · exact w_c4
  · exact w_c5
  · exact w_c6
  · exact w_c7
set_option maxRecDepth 65536 in
theorem w_t1 : (words1.take 24).all (fun c => isCode c || c.before args0 about1) = true := by decide +kernel
set_option maxRecDepth 65536 in
theorem w_t2 : ((words1.drop 24).take 24).all (fun c => isCode c || c.before args0 about1) = true := by decide +kernel
set_option maxRecDepth 65536 in
theorem w_t3 : ((words1.drop 24).drop 24).all (fun c => isCode c || c.before args0 about1) = true := by decide +kernel
theorem w_tables : (allAtoms (Jvm.Cond.code x code maxLocals ret :: tables_1)).before args0 about1 = true := by
  rw [allAtoms_all]
  show words1.all (fun c => c.before args0 about1) = true
  refine all_split ?_ w_codes
  rw [← List.take_append_drop 24 words1, List.all_append, w_t1, ← List.take_append_drop 24 (words1.drop 24), List.all_append, w_t2, w_t3]
  rfl
set_option maxRecDepth 65536 in
theorem w_case : (Jvm.Cond.and given_1 narrow_1).before args0 about1 = true := by decide +kernel
theorem w_applies : (headSpec (Jvm.Cond.code x code maxLocals ret :: tables_1) room_1).applies x e0.platform about1 = true :=
  (Spec.applies_iff w_frames).mpr ⟨w_running, w_runnable, w_alone, w_named, w_hears, w_ripe, w_room, w_tables⟩
theorem atStart : AtStart classFile x code maxLocals ret World_1 tables_1 room_1 Calls_1 rest_1 Pre_1 launch0 p0 e0 about1 theMethod args0 below0 :=
  ⟨lists_1, trivial, launch0.admits_env _ _ _, launch0.least_env, fairChoices_fair.cas, fairChoices_fair.clock, w_frames, w_args, w_heap, w_applies, trivial, trivial, w_case⟩
end start1
theorem witness_1 : WitnessClaimed_1 := ⟨start1.p0, start1.e0, start1.about1, start1.theMethod, start1.args0, start1.below0, start1.atStart⟩
end Jvm.Pilot.@@N@@
