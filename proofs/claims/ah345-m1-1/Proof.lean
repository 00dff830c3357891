import JvmDerived
import JvmDerived.Pilot.@@N@@Statement
import JvmDerived.Pilot.@@N@@Code
set_option linter.unusedVariables false
set_option linter.unusedSimpArgs false
namespace Jvm.RoadKit
open Sem ClassFile Op Lib Jvm.Stand Jvm.Free Jvm.LawKit
section Own
variable {p : Program} {l : Launch} {e : Env} {R : Room} {s : State} {m : MethodId} {args : Array Value} {below : List Frame} {meth : Method} {c : Code} {T : State} {locs : List Loc} {cells slots : Nat}
theorem retI (X : Stand p l e R s m args below meth c T locs cells slots) (hx : p.tables.exec = Jvm.exec) {pc : Nat} {Ls : Array Slot} {z : Int32} {rest : List Value} (hret : meth.sig.returnType = some .int) (hd : decode c.code pc = .ok (.ireturn, 1)) {fs : List Frame}
    (hl : ∀ (f : JFrame) (acts : List Action), f.method = m → f.locked = none → f.entered = [] → (doReturn e (T.setTop f) acts (some (.int z))).1 = T.setFrames fs) : Steps p.tables e below (T.setTop (mkF m pc Ls (.int z :: rest))) (T.setFrames fs) := by
  have hm' : T.vm.method? m = some meth := X.method'
  have hn : narrow .int (.int z) = .int z := rfl
  show Steps p.tables e below (T.setTop { method := m, pc := pc, locals := Ls, stack := _ :: rest, locked := none }) _
  jvm_step X.here [X.here.top, hx, hd, hm', hret, hn]
  first | (intro acts; rw [hl _ acts rfl rfl rfl]) | rw [hl _ _ rfl rfl rfl]
  exact Steps.refl _
/-- the run comes from the state A to its end, and the end is as QQ says -/
def GoW (p : Program) (e : Env) (below : List Frame) (QQ : Outcome → State → Prop) (A : State) : Prop :=
  ∃ s₂ o, Steps p.tables e below A s₂ ∧ s₂.status = .running ∧ Ended s₂ below o ∧ QQ o s₂
theorem GoW.st {QQ : Outcome → State → Prop} {A B : State} (h : ∀ t, Steps p.tables e below B t → Steps p.tables e below A t) (g : GoW p e below QQ B) : GoW p e below QQ A := by
  obtain ⟨s₂, o, h1, h2⟩ := g
  exact ⟨s₂, o, h _ h1, h2⟩
/-- what an end with the value v, the heap and the written places must say -/
def EndsW (s : State) (Q : Option Value → Heap → List Loc → Prop) (cl sl : Nat) (QQ : Outcome → State → Prop) : Prop :=
  ∀ (v : Option Value) (L : List Loc) (T : State), Q v T.heap L → FrameEnd s (.returned v) T L cl sl → QQ (.returned v) T
theorem GoW.fin {Q : Option Value → Heap → List Loc → Prop} {cl sl : Nat} {QQ : Outcome → State → Prop} {A : State} (X : Stand p l e R s m args below meth c T locs cells slots) (v : Option Value) (hv : meth.sig.returnType = none → v = none) (hlk : meth.locks = false) (hQ : EndsW s Q cl sl QQ) {h : Heap} (eT : T.heap = h)
    (q : Q v h locs) (hc : cells ≤ cl) (hs : slots ≤ sl)
    (st : ∀ fs, (∀ (f : JFrame) (acts : List Action), f.method = m → f.locked = none → f.entered = [] → (doReturn e (T.setTop f) acts v).1 = T.setFrames fs) → Steps p.tables e below A (T.setFrames fs)) : GoW p e below QQ A := by
  obtain ⟨fs, hr, hrun, hended, hW, hsame⟩ := X.leave (v := v) hv hlk
  subst eT
  exact ⟨_, _, st fs hr, hrun, hended, hQ _ _ _ q ⟨⟨_, rfl⟩, hW, hsame.mono hc hs⟩⟩
theorem met_of {y : MethodName} {bytes : ByteArray} {maxL : Nat} {ret : Option FieldType} {ws : List Cond} {as' : Array Value} {Z : State} {h0 : Heap} {Q : Option Value → Heap → List Loc → Prop} {cl sl : Nat} (hp : plainFor y = true) {Ls : Array Slot} (ef : ∀ m, entryFrame m as' maxL = mkF m 0 Ls [])
    (core : ∀ (p : Program) (e : Env) (s : State) (m : MethodId) (below : List Frame) (meth : Method) (c : Code) (T : State) (QQ : Outcome → State → Prop), p.tables.exec = Jvm.exec → Z.Warmed39 s.vm → c.code = bytes → c.maxLocals = maxL → s.vm.findClass y.cls = some m.cls → meth.name = y.name → meth.sig.returnType = ret → meth.locks = false →
      Stand p l e R s m as' below meth c T [] 0 0 → T.heap = h0 → EndsW s Q cl sl QQ → GoW p e below QQ (T.setTop (mkF m 0 Ls []))) :
    MetFree l y (head1 (Cond.code y bytes maxL ret :: ws) R) (fun a U => a = as' ∧ Z.Warmed39 U.vm ∧ U.heap = h0) (fun _ _ _ _ _ => True) (fun _ U o U' => ∃ v L, o = .returned v ∧ Q v U'.heap L ∧ FrameEnd U o U' L cl sl) := by
  refine MetFree.of_bodySF hp hisR ?_
  intro p e s m args below meth c s₁ Bd hml0 hP hK
  obtain ⟨rfl, hZ, hh⟩ := hP
  obtain ⟨s₂, o, g1, g2, g3, g4⟩ := core p e s m below meth c s₁ (fun o U' => ∃ v L, o = .returned v ∧ Q v U'.heap L ∧ FrameEnd s o U' L cl sl) Bd.exec hZ Bd.bytes hml0 (findClass_of_methodNamed Bd.named) (name_of_methodNamed Bd.named Bd.method).1 Bd.returns Bd.notSynchronized (Stand.of_body Bd) (by rw [← hh, Bd.state]; rfl) (fun v L T q f => ⟨v, L, rfl, q, f⟩)
  exact ⟨s₂, o, castTop (ef m) g1, g2, g3, g4⟩
theorem standUp (X : Stand p l e R s m args below meth c T locs cells slots) {cells' slots' : Nat} (hc : cells ≤ cells') (hs : slots ≤ slots') : Stand p l e R s m args below meth c T locs cells' slots' :=
  { X with same := X.same.mono hc hs }
theorem lremM {g : JFrame} {target : State} (X : Stand p l e R s m args below meth c T locs cells slots) (hx : p.tables.exec = Jvm.exec) (hg : g.method = m) {x y : Int64} {rest : List Value} (hd : decode c.code g.pc = .ok (.lrem, 1)) (hs : g.stack = .long y :: .long x :: rest) (hy : y ≠ 0)
    (hr : Steps p.tables e below (T.setTop { g with pc := g.pc + 1, stack := .long (x % y) :: rest }) target) : Steps p.tables e below (T.setTop g) target := by
  have q : x - x / y * y = x % y := lrem_mod x y
  exact XS.lrem X.here hx hg hd hs hy (by rw [q]; exact hr)
theorem ldVI {Z : State} {h : Heap} {a : Addr} {kc : ClassId} {z j : Int32} {vs : List Value} {dv v : Value} (X : Stand p l e R s m args below meth c T locs cells slots) (hx : p.tables.exec = Jvm.exec) (hZ : Z.Warmed39 s.vm) (eT : T.heap = h) (F : Arv Z h a kc .int z vs dv) (hj : ¬ j < 0 ∧ j < z) (hv : vs.getD j.toNatClampNeg dv = v)
    {g : JFrame} (hg : g.method = m) {rest : List Value} (hs : g.stack = .int j :: .ref a :: rest) (hd : decode c.code g.pc = .ok (.iaload, 1)) (t : State) (k : Steps p.tables e below (T.setTop { g with pc := g.pc + 1, stack := v :: rest }) t) : Steps p.tables e below (T.setTop g) t := by
  obtain ⟨c', A, -, S, -, H, -⟩ := F
  have i := inb_of S hj
  exact X.iaload hx (by rw [eT]; exact A.1) (State.isArrayOf_alike hZ.alike A.2.1) A.2.2 i (H.at i hv) hg hs hd t k
theorem ldVJ {Z : State} {h : Heap} {a : Addr} {kc : ClassId} {z j : Int32} {vs : List Value} {dv v : Value} (X : Stand p l e R s m args below meth c T locs cells slots) (hx : p.tables.exec = Jvm.exec) (hZ : Z.Warmed39 s.vm) (eT : T.heap = h) (F : Arv Z h a kc .long z vs dv) (hj : ¬ j < 0 ∧ j < z) (hv : vs.getD j.toNatClampNeg dv = v)
    {g : JFrame} (hg : g.method = m) {rest : List Value} (hs : g.stack = .int j :: .ref a :: rest) (hd : decode c.code g.pc = .ok (.laload, 1)) (t : State) (k : Steps p.tables e below (T.setTop { g with pc := g.pc + 1, stack := v :: rest }) t) : Steps p.tables e below (T.setTop g) t := by
  obtain ⟨c', A, -, S, -, H, -⟩ := F
  have i := inb_of S hj
  exact X.laload hx (by rw [eT]; exact A.1) (State.isArrayOf_alike hZ.alike A.2.1) A.2.2 i (H.at i hv) hg hs hd t k
theorem ldVB {Z : State} {h : Heap} {a : Addr} {kc : ClassId} {z j : Int32} {vs : List Value} {dv v : Value} (X : Stand p l e R s m args below meth c T locs cells slots) (hx : p.tables.exec = Jvm.exec) (hZ : Z.Warmed39 s.vm) (eT : T.heap = h) (F : Arv Z h a kc .byte z vs dv) (hj : ¬ j < 0 ∧ j < z) (hv : vs.getD j.toNatClampNeg dv = v)
    {g : JFrame} (hg : g.method = m) {rest : List Value} (hs : g.stack = .int j :: .ref a :: rest) (hd : decode c.code g.pc = .ok (.baload, 1)) (t : State) (k : Steps p.tables e below (T.setTop { g with pc := g.pc + 1, stack := v :: rest }) t) : Steps p.tables e below (T.setTop g) t := by
  obtain ⟨c', A, -, S, -, H, -⟩ := F
  have i := inb_of S hj
  exact X.baloadBytes hx (by rw [eT]; exact A.1) (State.isArrayOf_alike hZ.alike A.2.1) A.2.2 i (H.at i hv) hg hs hd t k
theorem stVI {Z : State} {h : Heap} {a : Addr} {kc : ClassId} {z j : Int32} {vs : List Value} {dv : Value} {x : Int32} (X : Stand p l e R s m args below meth c T locs cells slots) (hx : p.tables.exec = Jvm.exec) (hZ : Z.Warmed39 s.vm) (eT : T.heap = h) (F : Arv Z h a kc .int z vs dv) (hj : ¬ j < 0 ∧ j < z) (i : Nat) (hi : j.toNatClampNeg = i) (hl : i < vs.length)
    {g : JFrame} (hg : g.method = m) {rest : List Value} (hs : g.stack = (.int x) :: .int j :: .ref a :: rest) (hd : decode c.code g.pc = .ok (.iastore, 1)) :
    ∃ T' h', Stand p l e R s m args below meth c T' (locs ++ [⟨a, j.toNatClampNeg⟩]) cells slots ∧ T'.heap = h' ∧ Wr h h' a j.toNatClampNeg (.int x) ∧ Arv Z h' a kc .int z (vs.set i (.int x)) dv ∧ ∀ target, Steps p.tables e below (T'.setTop { g with pc := g.pc + 1, stack := rest }) target → Steps p.tables e below (T.setTop g) target := by
  obtain ⟨c', A, q, S, M, H, G⟩ := F
  obtain ⟨T', h', X', e', W', st⟩ := stI X hx hZ eT A (inb_of S hj) hg hs hd
  exact ⟨T', h', X', e', W', Arv.set A q S M H G rfl W' i hi hl, st⟩
theorem stVJ {Z : State} {h : Heap} {a : Addr} {kc : ClassId} {z j : Int32} {vs : List Value} {dv : Value} {x : Int64} (X : Stand p l e R s m args below meth c T locs cells slots) (hx : p.tables.exec = Jvm.exec) (hZ : Z.Warmed39 s.vm) (eT : T.heap = h) (F : Arv Z h a kc .long z vs dv) (hj : ¬ j < 0 ∧ j < z) (i : Nat) (hi : j.toNatClampNeg = i) (hl : i < vs.length)
    {g : JFrame} (hg : g.method = m) {rest : List Value} (hs : g.stack = (.long x) :: .int j :: .ref a :: rest) (hd : decode c.code g.pc = .ok (.lastore, 1)) :
    ∃ T' h', Stand p l e R s m args below meth c T' (locs ++ [⟨a, j.toNatClampNeg⟩]) cells slots ∧ T'.heap = h' ∧ Wr h h' a j.toNatClampNeg (.long x) ∧ Arv Z h' a kc .long z (vs.set i (.long x)) dv ∧ ∀ target, Steps p.tables e below (T'.setTop { g with pc := g.pc + 1, stack := rest }) target → Steps p.tables e below (T.setTop g) target := by
  obtain ⟨c', A, q, S, M, H, G⟩ := F
  obtain ⟨T', h', X', e', W', st⟩ := stJ X hx hZ eT A (inb_of S hj) hg hs hd
  exact ⟨T', h', X', e', W', Arv.set A q S M H G rfl W' i hi hl, st⟩
theorem stVB {Z : State} {h : Heap} {a : Addr} {kc : ClassId} {z j : Int32} {vs : List Value} {dv : Value} {x : Int32} (X : Stand p l e R s m args below meth c T locs cells slots) (hx : p.tables.exec = Jvm.exec) (hZ : Z.Warmed39 s.vm) (eT : T.heap = h) (F : Arv Z h a kc .byte z vs dv) (hj : ¬ j < 0 ∧ j < z) (i : Nat) (hi : j.toNatClampNeg = i) (hl : i < vs.length)
    {g : JFrame} (hg : g.method = m) {rest : List Value} (hs : g.stack = (.int x) :: .int j :: .ref a :: rest) (hd : decode c.code g.pc = .ok (.bastore, 1)) :
    ∃ T' h', Stand p l e R s m args below meth c T' (locs ++ [⟨a, j.toNatClampNeg⟩]) cells slots ∧ T'.heap = h' ∧ Wr h h' a j.toNatClampNeg (.int (nar .byte x)) ∧ Arv Z h' a kc .byte z (vs.set i (.int (nar .byte x))) dv ∧ ∀ target, Steps p.tables e below (T'.setTop { g with pc := g.pc + 1, stack := rest }) target → Steps p.tables e below (T.setTop g) target := by
  obtain ⟨c', A, q, S, M, H, G⟩ := F
  obtain ⟨T', h', X', e', W', st⟩ := stB X hx hZ eT A (inb_of S hj) hg hs hd
  exact ⟨T', h', X', e', W', Arv.set A q S M H G (fits_nar_byte _) W' i hi hl, st⟩
theorem lnV {Z : State} {h : Heap} {a : Addr} {kc : ClassId} {ty : FieldType} {z : Int32} {vs : List Value} {dv : Value} (X : Stand p l e R s m args below meth c T locs cells slots) (hx : p.tables.exec = Jvm.exec) (hZ : Z.Warmed39 s.vm) (eT : T.heap = h) (F : Arv Z h a kc ty z vs dv)
    {g : JFrame} (hg : g.method = m) {rest : List Value} (hs : g.stack = .ref a :: rest) (hd : decode c.code g.pc = .ok (.arraylength, 1)) (t : State) (k : Steps p.tables e below (T.setTop { g with pc := g.pc + 1, stack := .int z :: rest }) t) : Steps p.tables e below (T.setTop g) t := by
  obtain ⟨c', A, -, S, M, -, -⟩ := F
  refine X.arraylength hx (by rw [eT]; exact A.1) (State.isArrayOf_alike hZ.alike A.2.1) hg hs hd t ?_
  rw [len_of S M]; exact k
theorem gdI (vs : List Int32) (d : Int32) (i : Nat) : (vs.map Value.int).getD i (.int d) = .int (vs.getD i d) := by
  induction vs generalizing i with
  | nil => rfl
  | cons a t ih => cases i with
    | zero => rfl
    | succ i => simpa using ih i
theorem gdJ (vs : List Int64) (d : Int64) (i : Nat) : (vs.map Value.long).getD i (.long d) = .long (vs.getD i d) := by
  induction vs generalizing i with
  | nil => rfl
  | cons a t ih => cases i with
    | zero => rfl
    | succ i => simpa using ih i
end Own
end Jvm.RoadKit
namespace Jvm.Pilot.@@N@@
open Jvm Jvm.ClassFile Sem Op Lib Jvm.Free Jvm.Stand Jvm.LawKit Jvm.RoadKit Bundle Jvm.Pilot.@@N@@.Jvm.D
theorem own_r (x n k : Int32) (N K : Int) (hn : n.toInt = N) (hk : k.toInt = K) (h0 : 0 ≤ x.toInt) (hK : 0 < K) (hN : 0 ≤ N) (hs : N + K ≤ 2000000) : N ≤ (n + x % k).toInt ∧ (n + x % k).toInt < N + K := by
  have a := (c_irem x k K hk).1 h0
  have b := c_iadd n (x % k)
  have r := rng32 (n + x % k)
  have m1 := Int.emod_nonneg x.toInt (Int.ne_of_gt hK)
  have m2 := Int.emod_lt_of_pos x.toInt hK
  rw [a, hn] at b
  omega
theorem own_i4 (x : Int32) : (x &&& (3 : Int32)) = 0 ∨ (x &&& (3 : Int32)) = 1 ∨ (x &&& (3 : Int32)) = 2 ∨ (x &&& (3 : Int32)) = 3 := by
  have h := c_and x 3 (by decide)
  have z : (3 : Int32).toInt = 3 := rfl
  have f : ∀ (y : Int32) (n : Int32) (k : Int), n.toInt = k → y.toInt = k → y = n := fun y n k h1 h2 => Int32.toInt_inj.mp (h2.trans h1.symm)
  have g : (x &&& (3 : Int32)).toInt = 0 ∨ (x &&& (3 : Int32)).toInt = 1 ∨ (x &&& (3 : Int32)).toInt = 2 ∨ (x &&& (3 : Int32)).toInt = 3 := by omega
  rcases g with g | g | g | g
  · exact Or.inl (f _ _ _ rfl g)
  · exact Or.inr (Or.inl (f _ _ _ rfl g))
  · exact Or.inr (Or.inr (Or.inl (f _ _ _ rfl g)))
  · exact Or.inr (Or.inr (Or.inr (f _ _ _ rfl g)))
theorem own_cls (c : Int32) : c < (128 : Int32) ∨ (¬ c < (128 : Int32) ∧ c < (2048 : Int32)) ∨ (¬ c < (128 : Int32) ∧ ¬ c < (2048 : Int32) ∧ c < (65536 : Int32)) ∨ (¬ c < (128 : Int32) ∧ ¬ c < (2048 : Int32) ∧ ¬ c < (65536 : Int32)) := by
  by_cases h1 : c < (128 : Int32)
  · exact Or.inl h1
  · by_cases h2 : c < (2048 : Int32)
    · exact Or.inr (Or.inl ⟨h1, h2⟩)
    · by_cases h3 : c < (65536 : Int32)
      · exact Or.inr (Or.inr (Or.inl ⟨h1, h2, h3⟩))
      · exact Or.inr (Or.inr (Or.inr ⟨h1, h2, h3⟩))
theorem own_b255 (x : Int32) (n : Int) (h : x.toInt = n) (h0 : 0 ≤ n) (h1 : n < 256) : ((nar .byte (x.toInt8.toInt32)) &&& (255 : Int32)).toInt = n := by
  have m := c_mask (nar .byte (x.toInt8.toInt32)) 255 8 (by decide) rfl
  have a1 := c_i2b x
  have a2 := c_i2b x.toInt8.toInt32
  have e : (nar .byte (x.toInt8.toInt32)).toInt = x.toInt8.toInt32.toInt8.toInt32.toInt := rfl
  rw [m, e]; omega
theorem own_b63 (x : Int32) (n : Int) (h : x.toInt = n) : ((nar .byte (x.toInt8.toInt32)) &&& (63 : Int32)).toInt = n % 64 := by
  have m := c_mask (nar .byte (x.toInt8.toInt32)) 63 6 (by decide) rfl
  have a1 := c_i2b x
  have a2 := c_i2b x.toInt8.toInt32
  have e : (nar .byte (x.toInt8.toInt32)).toInt = x.toInt8.toInt32.toInt8.toInt32.toInt := rfl
  rw [m, e]; omega
theorem own_add (a b : Int32) (m n : Int) (ha : a.toInt = m) (hb : b.toInt = n) (h0 : 0 ≤ m + n) (h1 : m + n < 2147483648) : (a + b).toInt = m + n := by
  have h := c_iadd a b
  have r := rng32 (a + b)
  omega
theorem own_div (a b : Int32) (m n : Int) (ha : a.toInt = m) (hb : b.toInt = n) (h0 : 0 ≤ m) (hn : b ≠ -1) : (a / b).toInt = m / n := by
  rw [(c_idiv a b n hb hn).1 (by omega), ha]
theorem own_rem (a b : Int32) (m n : Int) (ha : a.toInt = m) (hb : b.toInt = n) (h0 : 0 ≤ m) : (a % b).toInt = m % n := by
  rw [(c_irem a b n hb).1 (by omega), ha]
theorem own_or (a b : Int32) (m n P : Int) (k : Nat) (hk : k ≤ 31) (hP : P = (2 ^ k : Nat)) (ha : a.toInt = m) (hb : b.toInt = n) (h0 : 0 ≤ m) (h1 : m % P = 0) (h2 : 0 ≤ n) (h3 : n < P) (h4 : m + n < 2147483648) : (a ||| b).toInt = m + n := by
  have h := c_or a b k hk P hP (by rw [ha]; exact h1) (by rw [hb]; exact h2) (by rw [hb]; exact h3)
  have r := rng32 (a ||| b)
  rw [ha, hb] at h
  omega
theorem own_shl (x q : Int32) (m P : Int) (k : Nat) (hk : q.toBitVec.toNat % 32 = k) (hP : P = (2 ^ k : Nat)) (hx : x.toInt = m) (h0 : 0 ≤ m * P) (h1 : m * P < 2147483648) : (x <<< (q &&& 31)).toInt = m * P := by
  have h := c_ishl x q k hk
  have r := rng32 (x <<< (q &&& 31))
  rw [← hP, hx] at h
  omega
theorem own_mask (x y : Int32) (m P : Int) (k : Nat) (hk : k ≤ 31) (hy : y.toBitVec.toNat = 2 ^ k - 1) (hP : P = (2 ^ k : Nat)) (hx : x.toInt = m) : (x &&& y).toInt = m % P := by
  rw [c_mask x y k hk hy, hx, hP]
theorem own_lt (x y : Int32) (m n : Int) (hx : x.toInt = m) (hy : y.toInt = n) (h : m < n) : x < y := by rw [Int32.lt_iff_toInt_lt, hx, hy]; exact h
theorem own_nlt (x y : Int32) (m n : Int) (hx : x.toInt = m) (hy : y.toInt = n) (h : n ≤ m) : ¬ x < y := by rw [Int32.lt_iff_toInt_lt, hx, hy]; omega
theorem own_toInt {x y : Int32} (n : Int) (hy : y.toInt = n) (h : x < y) : x.toInt < n := by rw [Int32.lt_iff_toInt_lt, hy] at h; exact h
theorem own_ntoInt {x y : Int32} (n : Int) (hy : y.toInt = n) (h : ¬ x < y) : n ≤ x.toInt := by rw [Int32.lt_iff_toInt_lt, hy] at h; omega
theorem pn_0 : plainName "com/example/terseform/terseform/Utf8CodePointAtPinLaw" = true := by first | (simp [plainName, overriddenIn]; done) | decide +kernel
theorem d1_0 : decode method_3_code 0 = .ok (.iload_n 2, 1) := by decide +kernel
theorem d1_1 : decode method_3_code 1 = .ok (.sipush 128, 3) := by decide +kernel
theorem d1_4 : decode method_3_code 4 = .ok (.if_icmp .ge 11, 3) := by decide +kernel
theorem d1_7 : decode method_3_code 7 = .ok (.aload_n 0, 1) := by decide +kernel
theorem d1_8 : decode method_3_code 8 = .ok (.iload_n 1, 1) := by decide +kernel
theorem d1_9 : decode method_3_code 9 = .ok (.iload_n 2, 1) := by decide +kernel
theorem d1_10 : decode method_3_code 10 = .ok (.i2b, 1) := by decide +kernel
theorem d1_11 : decode method_3_code 11 = .ok (.bastore, 1) := by decide +kernel
theorem d1_12 : decode method_3_code 12 = .ok (.goto 153, 3) := by decide +kernel
theorem d1_165 : decode method_3_code 165 = .ok (.return_, 1) := by decide +kernel
def RM1_01 : Room := { frames := 0, cells := 0, slots := 0, locals := 0 }
def Q1_01 (Z : State) (a1 : Addr) (ka : ClassId) (p3 : Int32) (u0 : Int32) (u1 : Int32) (u2 : Int32) (u3 : Int32) (u4 : Int32) (u5 : Int32) (u6 : Int32) (u7 : Int32) (h0 : Heap) (n0 : Nat) (v : Option Value) (h : Heap) (L : List Loc) : Prop := v = none ∧ Fr n0 L ∧ Keep h0 h [a1] ∧ (Arv Z h a1 ka .byte (8 : Int32) [(.int (nar .byte (p3.toInt8.toInt32))), (.int u1), (.int u2), (.int u3), (.int u4), (.int u5), (.int u6), (.int u7)] (.int (0 : Int32)))
set_option maxRecDepth 65536 in
set_option maxHeartbeats 40000000 in
theorem rm1_01 (l : Launch) (Z : State) (a0 : Array Value) (hw : ∀ d ∈ tables_1, d.before a0 Z = true) (ws : List Jvm.Cond) (a1 : Addr) (ka : ClassId) (p3 : Int32) (u0 : Int32) (u1 : Int32) (u2 : Int32) (u3 : Int32) (u4 : Int32) (u5 : Int32) (u6 : Int32) (u7 : Int32) (h0 : Heap) (n0 : Nat) (Z0 : n0 ≤ h0.size) (pre_V_a1 : Arv Z h0 a1 ka .byte (8 : Int32) [(.int u0), (.int u1), (.int u2), (.int u3), (.int u4), (.int u5), (.int u6), (.int u7)] (.int (0 : Int32))) (pre_g_a1 : n0 ≤ a1) (hk1 : p3 < (128 : Int32)) :
    MetFree l (⟨"com/example/terseform/terseform/Utf8CodePointAtPinLaw", "put", "([BII)V"⟩ : MethodName) (head1 (Jvm.Cond.code (⟨"com/example/terseform/terseform/Utf8CodePointAtPinLaw", "put", "([BII)V"⟩ : MethodName) method_3_code 3 none :: ws) RM1_01) (fun a U => a = #[(.ref a1), (.int (0 : Int32)), (.int p3)] ∧ Z.Warmed39 U.vm ∧ U.heap = h0) (fun _ _ _ _ _ => True) (fun _ U o U' => ∃ v L, o = .returned v ∧ Q1_01 Z a1 ka p3 u0 u1 u2 u3 u4 u5 u6 u7 h0 n0 v U'.heap L ∧ FrameEnd U o U' L RM1_01.cells RM1_01.slots) := by
  refine met_of (Q := fun v h L => Q1_01 Z a1 ka p3 u0 u1 u2 u3 u4 u5 u6 u7 h0 n0 v h L) (plainFor_of_name pn_0) (fun m => by first | (simp [entryFrame, mkF, argsToLocals, Value.category]; done) | rfl) (Ls := #[.val (.ref a1), .val (.int (0 : Int32)), .val (.int p3)]) ?_
  intro p e s m below meth c T0 QQ hx hZ hby hml hown hnm hret hlk X0 e0 hQ
  have hml : c.maxLocals = 3 := hml
  have hown : s.vm.findClass "com/example/terseform/terseform/Utf8CodePointAtPinLaw" = some m.cls := hown
  have hnm : meth.name = "put" := hnm
  have hret : meth.sig.returnType = none := hret
  have N0 := Fr.nil n0
  have K0 : Keep h0 h0 [a1] := Keep.refl h0 _
  show GoW p e below QQ (T0.setTop (mkF m 0 #[.val (.ref a1), .val (.int (0 : Int32)), .val (.int p3)] []))
  refine GoW.st (fun t k => XS.iloadN X0.here hx rfl (hb hby d1_0) rfl (XS.sipush X0.here hx rfl (hb hby d1_1) k)) ?_
  show GoW p e below QQ (T0.setTop (mkF m 4 #[.val (.ref a1), .val (.int (0 : Int32)), .val (.int p3)] [(.int (128 : Int32)), (.int p3)]))
  have hc4 : p3 < (128 : Int32) := by
    exact hk1
  refine GoW.st (fun t k => XS.icmpNo X0.here hx rfl (hb hby d1_4) rfl (tlt hc4).2.1 (XS.aloadN X0.here hx rfl (hb hby d1_7) rfl rfl (XS.iloadN X0.here hx rfl (hb hby d1_8) rfl (XS.iloadN X0.here hx rfl (hb hby d1_9) rfl (XS.i2b X0.here hx rfl (hb hby d1_10) rfl k))))) ?_
  show GoW p e below QQ (T0.setTop (mkF m 11 #[.val (.ref a1), .val (.int (0 : Int32)), .val (.int p3)] [(.int (p3.toInt8.toInt32)), (.int (0 : Int32)), (.ref a1)]))
  obtain ⟨T1, h1, X1, e1, W1, V1, st1⟩ := stVB X0 hx hZ e0 pre_V_a1 ⟨by decide, by decide⟩ 0 rfl (Nat.le_of_ble_eq_true rfl) (g := (mkF m 11 #[.val (.ref a1), .val (.int (0 : Int32)), .val (.int p3)] [(.int (p3.toInt8.toInt32)), (.int (0 : Int32)), (.ref a1)])) rfl rfl (hb hby d1_11)
  refine GoW.st st1 ?_
  have f2_V_a1 : Arv Z h1 a1 ka .byte (8 : Int32) [(.int (nar .byte (p3.toInt8.toInt32))), (.int u1), (.int u2), (.int u3), (.int u4), (.int u5), (.int u6), (.int u7)] (.int (0 : Int32)) := V1
  have K1 : Keep h0 h1 [a1] := K0.wr W1 (Or.inl (List.mem_of_getElem? (i := 0) rfl))
  have N1 := Fr.snoc X1 N0 pre_g_a1
  show GoW p e below QQ (T1.setTop (mkF m 12 #[.val (.ref a1), .val (.int (0 : Int32)), .val (.int p3)] []))
  refine GoW.st (fun t k => XS.goto X1.here hx rfl (pc0 := 12) (pc' := 165) rfl (hb hby d1_12) (by decide) (by decide) k) ?_
  show GoW p e below QQ (T1.setTop (mkF m 165 #[.val (.ref a1), .val (.int (0 : Int32)), .val (.int p3)] []))
  exact GoW.fin X1 none (fun _ => rfl) hlk hQ e1 ⟨rfl, N1, K1, f2_V_a1⟩ (by decide) (by decide) (fun fs hr => X1.returnOut hx hret (hb hby d1_165) hr)
theorem pn_1 : plainName "com/example/terseform/terseform/Utf8" = true := by first | (simp [plainName, overriddenIn]; done) | decide +kernel
theorem d2_0 : decode prog_36_method_9_code 0 = .ok (.aload_n 0, 1) := by decide +kernel
theorem d2_1 : decode prog_36_method_9_code 1 = .ok (.iload_n 1, 1) := by decide +kernel
theorem d2_2 : decode prog_36_method_9_code 2 = .ok (.baload, 1) := by decide +kernel
theorem d2_3 : decode prog_36_method_9_code 3 = .ok (.sipush 255, 3) := by decide +kernel
theorem d2_6 : decode prog_36_method_9_code 6 = .ok (.iand, 1) := by decide +kernel
theorem d2_7 : decode prog_36_method_9_code 7 = .ok (.istore_n 2, 1) := by decide +kernel
theorem d2_8 : decode prog_36_method_9_code 8 = .ok (.iload_n 2, 1) := by decide +kernel
theorem d2_9 : decode prog_36_method_9_code 9 = .ok (.sipush 128, 3) := by decide +kernel
theorem d2_12 : decode prog_36_method_9_code 12 = .ok (.if_icmp .ge 8, 3) := by decide +kernel
theorem d2_15 : decode prog_36_method_9_code 15 = .ok (.iload_n 2, 1) := by decide +kernel
theorem d2_16 : decode prog_36_method_9_code 16 = .ok (.istore_n 3, 1) := by decide +kernel
theorem d2_17 : decode prog_36_method_9_code 17 = .ok (.goto 110, 3) := by decide +kernel
theorem d2_127 : decode prog_36_method_9_code 127 = .ok (.iload_n 3, 1) := by decide +kernel
theorem d2_128 : decode prog_36_method_9_code 128 = .ok (.ireturn, 1) := by decide +kernel
def RM2_01 : Room := { frames := 0, cells := 0, slots := 0, locals := 0 }
def Q2_01 (Z : State) (a1 : Addr) (ka : ClassId) (u0 : Int32) (u1 : Int32) (u2 : Int32) (u3 : Int32) (u4 : Int32) (u5 : Int32) (u6 : Int32) (u7 : Int32) (h0 : Heap) (n0 : Nat) (v : Option Value) (h : Heap) (L : List Loc) : Prop := v = some (.int (u0 &&& (255 : Int32))) ∧ Fr n0 L ∧ h = h0
set_option maxRecDepth 65536 in
set_option maxHeartbeats 40000000 in
theorem rm2_01 (l : Launch) (Z : State) (a0 : Array Value) (hw : ∀ d ∈ tables_1, d.before a0 Z = true) (ws : List Jvm.Cond) (a1 : Addr) (ka : ClassId) (u0 : Int32) (u1 : Int32) (u2 : Int32) (u3 : Int32) (u4 : Int32) (u5 : Int32) (u6 : Int32) (u7 : Int32) (h0 : Heap) (n0 : Nat) (Z0 : n0 ≤ h0.size) (pre_V_a1 : Arv Z h0 a1 ka .byte (8 : Int32) [(.int u0), (.int u1), (.int u2), (.int u3), (.int u4), (.int u5), (.int u6), (.int u7)] (.int (0 : Int32))) (g1_1 : (u0 &&& (255 : Int32)) < (128 : Int32)) :
    MetFree l (⟨"com/example/terseform/terseform/Utf8", "codePointAt", "([BI)I"⟩ : MethodName) (head1 (Jvm.Cond.code (⟨"com/example/terseform/terseform/Utf8", "codePointAt", "([BI)I"⟩ : MethodName) prog_36_method_9_code 4 (some .int) :: ws) RM2_01) (fun a U => a = #[(.ref a1), (.int (0 : Int32))] ∧ Z.Warmed39 U.vm ∧ U.heap = h0) (fun _ _ _ _ _ => True) (fun _ U o U' => ∃ v L, o = .returned v ∧ Q2_01 Z a1 ka u0 u1 u2 u3 u4 u5 u6 u7 h0 n0 v U'.heap L ∧ FrameEnd U o U' L RM2_01.cells RM2_01.slots) := by
  refine met_of (Q := fun v h L => Q2_01 Z a1 ka u0 u1 u2 u3 u4 u5 u6 u7 h0 n0 v h L) (plainFor_of_name pn_1) (fun m => by first | (simp [entryFrame, mkF, argsToLocals, Value.category]; done) | rfl) (Ls := #[.val (.ref a1), .val (.int (0 : Int32)), .unset, .unset]) ?_
  intro p e s m below meth c T0 QQ hx hZ hby hml hown hnm hret hlk X0 e0 hQ
  have hml : c.maxLocals = 4 := hml
  have hown : s.vm.findClass "com/example/terseform/terseform/Utf8" = some m.cls := hown
  have hnm : meth.name = "codePointAt" := hnm
  have hret : meth.sig.returnType = some .int := hret
  have N0 := Fr.nil n0
  have K0 : Keep h0 h0 [] := Keep.refl h0 _
  show GoW p e below QQ (T0.setTop (mkF m 0 #[.val (.ref a1), .val (.int (0 : Int32)), .unset, .unset] []))
  refine GoW.st (fun t k => XS.aloadN X0.here hx rfl (hb hby d2_0) rfl rfl (XS.iloadN X0.here hx rfl (hb hby d2_1) rfl (ldVB X0 hx hZ e0 pre_V_a1 (v := (.int u0)) ⟨by decide, by decide⟩ rfl (g := (mkF m 2 #[.val (.ref a1), .val (.int (0 : Int32)), .unset, .unset] [(.int (0 : Int32)), (.ref a1)])) rfl rfl (hb hby d2_2) t (XS.sipush X0.here hx rfl (hb hby d2_3) (XS.iand X0.here hx rfl (hb hby d2_6) rfl (XS.istoreN X0.here hx rfl (hb hby d2_7) rfl (l' := #[.val (.ref a1), .val (.int (0 : Int32)), .val (.int (u0 &&& (255 : Int32))), .unset]) rfl k)))))) ?_
  show GoW p e below QQ (T0.setTop (mkF m 8 #[.val (.ref a1), .val (.int (0 : Int32)), .val (.int (u0 &&& (255 : Int32))), .unset] []))
  generalize hv7 : (u0 &&& (255 : Int32)) = v7
  refine GoW.st (fun t k => XS.iloadN X0.here hx rfl (hb hby d2_8) rfl (XS.sipush X0.here hx rfl (hb hby d2_9) k)) ?_
  show GoW p e below QQ (T0.setTop (mkF m 12 #[.val (.ref a1), .val (.int (0 : Int32)), .val (.int v7), .unset] [(.int (128 : Int32)), (.int v7)]))
  have hc12 : v7 < (128 : Int32) := by
    subst hv7
    exact g1_1
  refine GoW.st (fun t k => XS.icmpNo X0.here hx rfl (hb hby d2_12) rfl (tlt hc12).2.1 (XS.iloadN X0.here hx rfl (hb hby d2_15) rfl (XS.istoreN X0.here hx rfl (hb hby d2_16) rfl (l' := #[.val (.ref a1), .val (.int (0 : Int32)), .val (.int v7), .val (.int v7)]) rfl (XS.goto X0.here hx rfl (pc0 := 17) (pc' := 127) rfl (hb hby d2_17) (by decide) (by decide) (XS.iloadN X0.here hx rfl (hb hby d2_127) rfl k))))) ?_
  show GoW p e below QQ (T0.setTop (mkF m 128 #[.val (.ref a1), .val (.int (0 : Int32)), .val (.int v7), .val (.int v7)] [(.int v7)]))
  have rv : ((some (.int v7)) : Option Value) = some (.int (u0 &&& (255 : Int32))) := by
    subst_vars
    rfl
  exact GoW.fin X0 (some (.int v7)) (fun q => by rw [hret] at q; cases q) hlk hQ e0 ⟨rv, N0, rfl⟩ (by decide) (by decide) (fun fs hr => retI X0 hx hret (hb hby d2_128) hr)
def RM1_11 : Room := { frames := 0, cells := 0, slots := 0, locals := 0 }
def Q1_11 (Z : State) (a1 : Addr) (ka : ClassId) (p3 : Int32) (u0 : Int32) (u1 : Int32) (u2 : Int32) (u3 : Int32) (u4 : Int32) (u5 : Int32) (u6 : Int32) (u7 : Int32) (h0 : Heap) (n0 : Nat) (v : Option Value) (h : Heap) (L : List Loc) : Prop := v = none ∧ Fr n0 L ∧ Keep h0 h [a1] ∧ (Arv Z h a1 ka .byte (8 : Int32) [(.int u0), (.int (nar .byte (p3.toInt8.toInt32))), (.int u2), (.int u3), (.int u4), (.int u5), (.int u6), (.int u7)] (.int (0 : Int32)))
set_option maxRecDepth 65536 in
set_option maxHeartbeats 40000000 in
theorem rm1_11 (l : Launch) (Z : State) (a0 : Array Value) (hw : ∀ d ∈ tables_1, d.before a0 Z = true) (ws : List Jvm.Cond) (a1 : Addr) (ka : ClassId) (p3 : Int32) (u0 : Int32) (u1 : Int32) (u2 : Int32) (u3 : Int32) (u4 : Int32) (u5 : Int32) (u6 : Int32) (u7 : Int32) (h0 : Heap) (n0 : Nat) (Z0 : n0 ≤ h0.size) (pre_V_a1 : Arv Z h0 a1 ka .byte (8 : Int32) [(.int u0), (.int u1), (.int u2), (.int u3), (.int u4), (.int u5), (.int u6), (.int u7)] (.int (0 : Int32))) (pre_g_a1 : n0 ≤ a1) (hk1 : p3 < (128 : Int32)) :
    MetFree l (⟨"com/example/terseform/terseform/Utf8CodePointAtPinLaw", "put", "([BII)V"⟩ : MethodName) (head1 (Jvm.Cond.code (⟨"com/example/terseform/terseform/Utf8CodePointAtPinLaw", "put", "([BII)V"⟩ : MethodName) method_3_code 3 none :: ws) RM1_11) (fun a U => a = #[(.ref a1), (.int (1 : Int32)), (.int p3)] ∧ Z.Warmed39 U.vm ∧ U.heap = h0) (fun _ _ _ _ _ => True) (fun _ U o U' => ∃ v L, o = .returned v ∧ Q1_11 Z a1 ka p3 u0 u1 u2 u3 u4 u5 u6 u7 h0 n0 v U'.heap L ∧ FrameEnd U o U' L RM1_11.cells RM1_11.slots) := by
  refine met_of (Q := fun v h L => Q1_11 Z a1 ka p3 u0 u1 u2 u3 u4 u5 u6 u7 h0 n0 v h L) (plainFor_of_name pn_0) (fun m => by first | (simp [entryFrame, mkF, argsToLocals, Value.category]; done) | rfl) (Ls := #[.val (.ref a1), .val (.int (1 : Int32)), .val (.int p3)]) ?_
  intro p e s m below meth c T0 QQ hx hZ hby hml hown hnm hret hlk X0 e0 hQ
  have hml : c.maxLocals = 3 := hml
  have hown : s.vm.findClass "com/example/terseform/terseform/Utf8CodePointAtPinLaw" = some m.cls := hown
  have hnm : meth.name = "put" := hnm
  have hret : meth.sig.returnType = none := hret
  have N0 := Fr.nil n0
  have K0 : Keep h0 h0 [a1] := Keep.refl h0 _
  show GoW p e below QQ (T0.setTop (mkF m 0 #[.val (.ref a1), .val (.int (1 : Int32)), .val (.int p3)] []))
  refine GoW.st (fun t k => XS.iloadN X0.here hx rfl (hb hby d1_0) rfl (XS.sipush X0.here hx rfl (hb hby d1_1) k)) ?_
  show GoW p e below QQ (T0.setTop (mkF m 4 #[.val (.ref a1), .val (.int (1 : Int32)), .val (.int p3)] [(.int (128 : Int32)), (.int p3)]))
  have hc4 : p3 < (128 : Int32) := by
    exact hk1
  refine GoW.st (fun t k => XS.icmpNo X0.here hx rfl (hb hby d1_4) rfl (tlt hc4).2.1 (XS.aloadN X0.here hx rfl (hb hby d1_7) rfl rfl (XS.iloadN X0.here hx rfl (hb hby d1_8) rfl (XS.iloadN X0.here hx rfl (hb hby d1_9) rfl (XS.i2b X0.here hx rfl (hb hby d1_10) rfl k))))) ?_
  show GoW p e below QQ (T0.setTop (mkF m 11 #[.val (.ref a1), .val (.int (1 : Int32)), .val (.int p3)] [(.int (p3.toInt8.toInt32)), (.int (1 : Int32)), (.ref a1)]))
  obtain ⟨T1, h1, X1, e1, W1, V1, st1⟩ := stVB X0 hx hZ e0 pre_V_a1 ⟨by decide, by decide⟩ 1 rfl (Nat.le_of_ble_eq_true rfl) (g := (mkF m 11 #[.val (.ref a1), .val (.int (1 : Int32)), .val (.int p3)] [(.int (p3.toInt8.toInt32)), (.int (1 : Int32)), (.ref a1)])) rfl rfl (hb hby d1_11)
  refine GoW.st st1 ?_
  have f2_V_a1 : Arv Z h1 a1 ka .byte (8 : Int32) [(.int u0), (.int (nar .byte (p3.toInt8.toInt32))), (.int u2), (.int u3), (.int u4), (.int u5), (.int u6), (.int u7)] (.int (0 : Int32)) := V1
  have K1 : Keep h0 h1 [a1] := K0.wr W1 (Or.inl (List.mem_of_getElem? (i := 0) rfl))
  have N1 := Fr.snoc X1 N0 pre_g_a1
  show GoW p e below QQ (T1.setTop (mkF m 12 #[.val (.ref a1), .val (.int (1 : Int32)), .val (.int p3)] []))
  refine GoW.st (fun t k => XS.goto X1.here hx rfl (pc0 := 12) (pc' := 165) rfl (hb hby d1_12) (by decide) (by decide) k) ?_
  show GoW p e below QQ (T1.setTop (mkF m 165 #[.val (.ref a1), .val (.int (1 : Int32)), .val (.int p3)] []))
  exact GoW.fin X1 none (fun _ => rfl) hlk hQ e1 ⟨rfl, N1, K1, f2_V_a1⟩ (by decide) (by decide) (fun fs hr => X1.returnOut hx hret (hb hby d1_165) hr)
def RM2_11 : Room := { frames := 0, cells := 0, slots := 0, locals := 0 }
def Q2_11 (Z : State) (a1 : Addr) (ka : ClassId) (u0 : Int32) (u1 : Int32) (u2 : Int32) (u3 : Int32) (u4 : Int32) (u5 : Int32) (u6 : Int32) (u7 : Int32) (h0 : Heap) (n0 : Nat) (v : Option Value) (h : Heap) (L : List Loc) : Prop := v = some (.int (u1 &&& (255 : Int32))) ∧ Fr n0 L ∧ h = h0
set_option maxRecDepth 65536 in
set_option maxHeartbeats 40000000 in
theorem rm2_11 (l : Launch) (Z : State) (a0 : Array Value) (hw : ∀ d ∈ tables_1, d.before a0 Z = true) (ws : List Jvm.Cond) (a1 : Addr) (ka : ClassId) (u0 : Int32) (u1 : Int32) (u2 : Int32) (u3 : Int32) (u4 : Int32) (u5 : Int32) (u6 : Int32) (u7 : Int32) (h0 : Heap) (n0 : Nat) (Z0 : n0 ≤ h0.size) (pre_V_a1 : Arv Z h0 a1 ka .byte (8 : Int32) [(.int u0), (.int u1), (.int u2), (.int u3), (.int u4), (.int u5), (.int u6), (.int u7)] (.int (0 : Int32))) (g1_1 : (u1 &&& (255 : Int32)) < (128 : Int32)) :
    MetFree l (⟨"com/example/terseform/terseform/Utf8", "codePointAt", "([BI)I"⟩ : MethodName) (head1 (Jvm.Cond.code (⟨"com/example/terseform/terseform/Utf8", "codePointAt", "([BI)I"⟩ : MethodName) prog_36_method_9_code 4 (some .int) :: ws) RM2_11) (fun a U => a = #[(.ref a1), (.int (1 : Int32))] ∧ Z.Warmed39 U.vm ∧ U.heap = h0) (fun _ _ _ _ _ => True) (fun _ U o U' => ∃ v L, o = .returned v ∧ Q2_11 Z a1 ka u0 u1 u2 u3 u4 u5 u6 u7 h0 n0 v U'.heap L ∧ FrameEnd U o U' L RM2_11.cells RM2_11.slots) := by
  refine met_of (Q := fun v h L => Q2_11 Z a1 ka u0 u1 u2 u3 u4 u5 u6 u7 h0 n0 v h L) (plainFor_of_name pn_1) (fun m => by first | (simp [entryFrame, mkF, argsToLocals, Value.category]; done) | rfl) (Ls := #[.val (.ref a1), .val (.int (1 : Int32)), .unset, .unset]) ?_
  intro p e s m below meth c T0 QQ hx hZ hby hml hown hnm hret hlk X0 e0 hQ
  have hml : c.maxLocals = 4 := hml
  have hown : s.vm.findClass "com/example/terseform/terseform/Utf8" = some m.cls := hown
  have hnm : meth.name = "codePointAt" := hnm
  have hret : meth.sig.returnType = some .int := hret
  have N0 := Fr.nil n0
  have K0 : Keep h0 h0 [] := Keep.refl h0 _
  show GoW p e below QQ (T0.setTop (mkF m 0 #[.val (.ref a1), .val (.int (1 : Int32)), .unset, .unset] []))
  refine GoW.st (fun t k => XS.aloadN X0.here hx rfl (hb hby d2_0) rfl rfl (XS.iloadN X0.here hx rfl (hb hby d2_1) rfl (ldVB X0 hx hZ e0 pre_V_a1 (v := (.int u1)) ⟨by decide, by decide⟩ rfl (g := (mkF m 2 #[.val (.ref a1), .val (.int (1 : Int32)), .unset, .unset] [(.int (1 : Int32)), (.ref a1)])) rfl rfl (hb hby d2_2) t (XS.sipush X0.here hx rfl (hb hby d2_3) (XS.iand X0.here hx rfl (hb hby d2_6) rfl (XS.istoreN X0.here hx rfl (hb hby d2_7) rfl (l' := #[.val (.ref a1), .val (.int (1 : Int32)), .val (.int (u1 &&& (255 : Int32))), .unset]) rfl k)))))) ?_
  show GoW p e below QQ (T0.setTop (mkF m 8 #[.val (.ref a1), .val (.int (1 : Int32)), .val (.int (u1 &&& (255 : Int32))), .unset] []))
  generalize hv7 : (u1 &&& (255 : Int32)) = v7
  refine GoW.st (fun t k => XS.iloadN X0.here hx rfl (hb hby d2_8) rfl (XS.sipush X0.here hx rfl (hb hby d2_9) k)) ?_
  show GoW p e below QQ (T0.setTop (mkF m 12 #[.val (.ref a1), .val (.int (1 : Int32)), .val (.int v7), .unset] [(.int (128 : Int32)), (.int v7)]))
  have hc12 : v7 < (128 : Int32) := by
    subst hv7
    exact g1_1
  refine GoW.st (fun t k => XS.icmpNo X0.here hx rfl (hb hby d2_12) rfl (tlt hc12).2.1 (XS.iloadN X0.here hx rfl (hb hby d2_15) rfl (XS.istoreN X0.here hx rfl (hb hby d2_16) rfl (l' := #[.val (.ref a1), .val (.int (1 : Int32)), .val (.int v7), .val (.int v7)]) rfl (XS.goto X0.here hx rfl (pc0 := 17) (pc' := 127) rfl (hb hby d2_17) (by decide) (by decide) (XS.iloadN X0.here hx rfl (hb hby d2_127) rfl k))))) ?_
  show GoW p e below QQ (T0.setTop (mkF m 128 #[.val (.ref a1), .val (.int (1 : Int32)), .val (.int v7), .val (.int v7)] [(.int v7)]))
  have rv : ((some (.int v7)) : Option Value) = some (.int (u1 &&& (255 : Int32))) := by
    subst_vars
    rfl
  exact GoW.fin X0 (some (.int v7)) (fun q => by rw [hret] at q; cases q) hlk hQ e0 ⟨rv, N0, rfl⟩ (by decide) (by decide) (fun fs hr => retI X0 hx hret (hb hby d2_128) hr)
def RM1_21 : Room := { frames := 0, cells := 0, slots := 0, locals := 0 }
def Q1_21 (Z : State) (a1 : Addr) (ka : ClassId) (p3 : Int32) (u0 : Int32) (u1 : Int32) (u2 : Int32) (u3 : Int32) (u4 : Int32) (u5 : Int32) (u6 : Int32) (u7 : Int32) (h0 : Heap) (n0 : Nat) (v : Option Value) (h : Heap) (L : List Loc) : Prop := v = none ∧ Fr n0 L ∧ Keep h0 h [a1] ∧ (Arv Z h a1 ka .byte (8 : Int32) [(.int u0), (.int u1), (.int (nar .byte (p3.toInt8.toInt32))), (.int u3), (.int u4), (.int u5), (.int u6), (.int u7)] (.int (0 : Int32)))
set_option maxRecDepth 65536 in
set_option maxHeartbeats 40000000 in
theorem rm1_21 (l : Launch) (Z : State) (a0 : Array Value) (hw : ∀ d ∈ tables_1, d.before a0 Z = true) (ws : List Jvm.Cond) (a1 : Addr) (ka : ClassId) (p3 : Int32) (u0 : Int32) (u1 : Int32) (u2 : Int32) (u3 : Int32) (u4 : Int32) (u5 : Int32) (u6 : Int32) (u7 : Int32) (h0 : Heap) (n0 : Nat) (Z0 : n0 ≤ h0.size) (pre_V_a1 : Arv Z h0 a1 ka .byte (8 : Int32) [(.int u0), (.int u1), (.int u2), (.int u3), (.int u4), (.int u5), (.int u6), (.int u7)] (.int (0 : Int32))) (pre_g_a1 : n0 ≤ a1) (hk1 : p3 < (128 : Int32)) :
    MetFree l (⟨"com/example/terseform/terseform/Utf8CodePointAtPinLaw", "put", "([BII)V"⟩ : MethodName) (head1 (Jvm.Cond.code (⟨"com/example/terseform/terseform/Utf8CodePointAtPinLaw", "put", "([BII)V"⟩ : MethodName) method_3_code 3 none :: ws) RM1_21) (fun a U => a = #[(.ref a1), (.int (2 : Int32)), (.int p3)] ∧ Z.Warmed39 U.vm ∧ U.heap = h0) (fun _ _ _ _ _ => True) (fun _ U o U' => ∃ v L, o = .returned v ∧ Q1_21 Z a1 ka p3 u0 u1 u2 u3 u4 u5 u6 u7 h0 n0 v U'.heap L ∧ FrameEnd U o U' L RM1_21.cells RM1_21.slots) := by
  refine met_of (Q := fun v h L => Q1_21 Z a1 ka p3 u0 u1 u2 u3 u4 u5 u6 u7 h0 n0 v h L) (plainFor_of_name pn_0) (fun m => by first | (simp [entryFrame, mkF, argsToLocals, Value.category]; done) | rfl) (Ls := #[.val (.ref a1), .val (.int (2 : Int32)), .val (.int p3)]) ?_
  intro p e s m below meth c T0 QQ hx hZ hby hml hown hnm hret hlk X0 e0 hQ
  have hml : c.maxLocals = 3 := hml
  have hown : s.vm.findClass "com/example/terseform/terseform/Utf8CodePointAtPinLaw" = some m.cls := hown
  have hnm : meth.name = "put" := hnm
  have hret : meth.sig.returnType = none := hret
  have N0 := Fr.nil n0
  have K0 : Keep h0 h0 [a1] := Keep.refl h0 _
  show GoW p e below QQ (T0.setTop (mkF m 0 #[.val (.ref a1), .val (.int (2 : Int32)), .val (.int p3)] []))
  refine GoW.st (fun t k => XS.iloadN X0.here hx rfl (hb hby d1_0) rfl (XS.sipush X0.here hx rfl (hb hby d1_1) k)) ?_
  show GoW p e below QQ (T0.setTop (mkF m 4 #[.val (.ref a1), .val (.int (2 : Int32)), .val (.int p3)] [(.int (128 : Int32)), (.int p3)]))
  have hc4 : p3 < (128 : Int32) := by
    exact hk1
  refine GoW.st (fun t k => XS.icmpNo X0.here hx rfl (hb hby d1_4) rfl (tlt hc4).2.1 (XS.aloadN X0.here hx rfl (hb hby d1_7) rfl rfl (XS.iloadN X0.here hx rfl (hb hby d1_8) rfl (XS.iloadN X0.here hx rfl (hb hby d1_9) rfl (XS.i2b X0.here hx rfl (hb hby d1_10) rfl k))))) ?_
  show GoW p e below QQ (T0.setTop (mkF m 11 #[.val (.ref a1), .val (.int (2 : Int32)), .val (.int p3)] [(.int (p3.toInt8.toInt32)), (.int (2 : Int32)), (.ref a1)]))
  obtain ⟨T1, h1, X1, e1, W1, V1, st1⟩ := stVB X0 hx hZ e0 pre_V_a1 ⟨by decide, by decide⟩ 2 rfl (Nat.le_of_ble_eq_true rfl) (g := (mkF m 11 #[.val (.ref a1), .val (.int (2 : Int32)), .val (.int p3)] [(.int (p3.toInt8.toInt32)), (.int (2 : Int32)), (.ref a1)])) rfl rfl (hb hby d1_11)
  refine GoW.st st1 ?_
  have f2_V_a1 : Arv Z h1 a1 ka .byte (8 : Int32) [(.int u0), (.int u1), (.int (nar .byte (p3.toInt8.toInt32))), (.int u3), (.int u4), (.int u5), (.int u6), (.int u7)] (.int (0 : Int32)) := V1
  have K1 : Keep h0 h1 [a1] := K0.wr W1 (Or.inl (List.mem_of_getElem? (i := 0) rfl))
  have N1 := Fr.snoc X1 N0 pre_g_a1
  show GoW p e below QQ (T1.setTop (mkF m 12 #[.val (.ref a1), .val (.int (2 : Int32)), .val (.int p3)] []))
  refine GoW.st (fun t k => XS.goto X1.here hx rfl (pc0 := 12) (pc' := 165) rfl (hb hby d1_12) (by decide) (by decide) k) ?_
  show GoW p e below QQ (T1.setTop (mkF m 165 #[.val (.ref a1), .val (.int (2 : Int32)), .val (.int p3)] []))
  exact GoW.fin X1 none (fun _ => rfl) hlk hQ e1 ⟨rfl, N1, K1, f2_V_a1⟩ (by decide) (by decide) (fun fs hr => X1.returnOut hx hret (hb hby d1_165) hr)
def RM2_21 : Room := { frames := 0, cells := 0, slots := 0, locals := 0 }
def Q2_21 (Z : State) (a1 : Addr) (ka : ClassId) (u0 : Int32) (u1 : Int32) (u2 : Int32) (u3 : Int32) (u4 : Int32) (u5 : Int32) (u6 : Int32) (u7 : Int32) (h0 : Heap) (n0 : Nat) (v : Option Value) (h : Heap) (L : List Loc) : Prop := v = some (.int (u2 &&& (255 : Int32))) ∧ Fr n0 L ∧ h = h0
set_option maxRecDepth 65536 in
set_option maxHeartbeats 40000000 in
theorem rm2_21 (l : Launch) (Z : State) (a0 : Array Value) (hw : ∀ d ∈ tables_1, d.before a0 Z = true) (ws : List Jvm.Cond) (a1 : Addr) (ka : ClassId) (u0 : Int32) (u1 : Int32) (u2 : Int32) (u3 : Int32) (u4 : Int32) (u5 : Int32) (u6 : Int32) (u7 : Int32) (h0 : Heap) (n0 : Nat) (Z0 : n0 ≤ h0.size) (pre_V_a1 : Arv Z h0 a1 ka .byte (8 : Int32) [(.int u0), (.int u1), (.int u2), (.int u3), (.int u4), (.int u5), (.int u6), (.int u7)] (.int (0 : Int32))) (g1_1 : (u2 &&& (255 : Int32)) < (128 : Int32)) :
    MetFree l (⟨"com/example/terseform/terseform/Utf8", "codePointAt", "([BI)I"⟩ : MethodName) (head1 (Jvm.Cond.code (⟨"com/example/terseform/terseform/Utf8", "codePointAt", "([BI)I"⟩ : MethodName) prog_36_method_9_code 4 (some .int) :: ws) RM2_21) (fun a U => a = #[(.ref a1), (.int (2 : Int32))] ∧ Z.Warmed39 U.vm ∧ U.heap = h0) (fun _ _ _ _ _ => True) (fun _ U o U' => ∃ v L, o = .returned v ∧ Q2_21 Z a1 ka u0 u1 u2 u3 u4 u5 u6 u7 h0 n0 v U'.heap L ∧ FrameEnd U o U' L RM2_21.cells RM2_21.slots) := by
  refine met_of (Q := fun v h L => Q2_21 Z a1 ka u0 u1 u2 u3 u4 u5 u6 u7 h0 n0 v h L) (plainFor_of_name pn_1) (fun m => by first | (simp [entryFrame, mkF, argsToLocals, Value.category]; done) | rfl) (Ls := #[.val (.ref a1), .val (.int (2 : Int32)), .unset, .unset]) ?_
  intro p e s m below meth c T0 QQ hx hZ hby hml hown hnm hret hlk X0 e0 hQ
  have hml : c.maxLocals = 4 := hml
  have hown : s.vm.findClass "com/example/terseform/terseform/Utf8" = some m.cls := hown
  have hnm : meth.name = "codePointAt" := hnm
  have hret : meth.sig.returnType = some .int := hret
  have N0 := Fr.nil n0
  have K0 : Keep h0 h0 [] := Keep.refl h0 _
  show GoW p e below QQ (T0.setTop (mkF m 0 #[.val (.ref a1), .val (.int (2 : Int32)), .unset, .unset] []))
  refine GoW.st (fun t k => XS.aloadN X0.here hx rfl (hb hby d2_0) rfl rfl (XS.iloadN X0.here hx rfl (hb hby d2_1) rfl (ldVB X0 hx hZ e0 pre_V_a1 (v := (.int u2)) ⟨by decide, by decide⟩ rfl (g := (mkF m 2 #[.val (.ref a1), .val (.int (2 : Int32)), .unset, .unset] [(.int (2 : Int32)), (.ref a1)])) rfl rfl (hb hby d2_2) t (XS.sipush X0.here hx rfl (hb hby d2_3) (XS.iand X0.here hx rfl (hb hby d2_6) rfl (XS.istoreN X0.here hx rfl (hb hby d2_7) rfl (l' := #[.val (.ref a1), .val (.int (2 : Int32)), .val (.int (u2 &&& (255 : Int32))), .unset]) rfl k)))))) ?_
  show GoW p e below QQ (T0.setTop (mkF m 8 #[.val (.ref a1), .val (.int (2 : Int32)), .val (.int (u2 &&& (255 : Int32))), .unset] []))
  generalize hv7 : (u2 &&& (255 : Int32)) = v7
  refine GoW.st (fun t k => XS.iloadN X0.here hx rfl (hb hby d2_8) rfl (XS.sipush X0.here hx rfl (hb hby d2_9) k)) ?_
  show GoW p e below QQ (T0.setTop (mkF m 12 #[.val (.ref a1), .val (.int (2 : Int32)), .val (.int v7), .unset] [(.int (128 : Int32)), (.int v7)]))
  have hc12 : v7 < (128 : Int32) := by
    subst hv7
    exact g1_1
  refine GoW.st (fun t k => XS.icmpNo X0.here hx rfl (hb hby d2_12) rfl (tlt hc12).2.1 (XS.iloadN X0.here hx rfl (hb hby d2_15) rfl (XS.istoreN X0.here hx rfl (hb hby d2_16) rfl (l' := #[.val (.ref a1), .val (.int (2 : Int32)), .val (.int v7), .val (.int v7)]) rfl (XS.goto X0.here hx rfl (pc0 := 17) (pc' := 127) rfl (hb hby d2_17) (by decide) (by decide) (XS.iloadN X0.here hx rfl (hb hby d2_127) rfl k))))) ?_
  show GoW p e below QQ (T0.setTop (mkF m 128 #[.val (.ref a1), .val (.int (2 : Int32)), .val (.int v7), .val (.int v7)] [(.int v7)]))
  have rv : ((some (.int v7)) : Option Value) = some (.int (u2 &&& (255 : Int32))) := by
    subst_vars
    rfl
  exact GoW.fin X0 (some (.int v7)) (fun q => by rw [hret] at q; cases q) hlk hQ e0 ⟨rv, N0, rfl⟩ (by decide) (by decide) (fun fs hr => retI X0 hx hret (hb hby d2_128) hr)
def RM1_31 : Room := { frames := 0, cells := 0, slots := 0, locals := 0 }
def Q1_31 (Z : State) (a1 : Addr) (ka : ClassId) (p3 : Int32) (u0 : Int32) (u1 : Int32) (u2 : Int32) (u3 : Int32) (u4 : Int32) (u5 : Int32) (u6 : Int32) (u7 : Int32) (h0 : Heap) (n0 : Nat) (v : Option Value) (h : Heap) (L : List Loc) : Prop := v = none ∧ Fr n0 L ∧ Keep h0 h [a1] ∧ (Arv Z h a1 ka .byte (8 : Int32) [(.int u0), (.int u1), (.int u2), (.int (nar .byte (p3.toInt8.toInt32))), (.int u4), (.int u5), (.int u6), (.int u7)] (.int (0 : Int32)))
set_option maxRecDepth 65536 in
set_option maxHeartbeats 40000000 in
theorem rm1_31 (l : Launch) (Z : State) (a0 : Array Value) (hw : ∀ d ∈ tables_1, d.before a0 Z = true) (ws : List Jvm.Cond) (a1 : Addr) (ka : ClassId) (p3 : Int32) (u0 : Int32) (u1 : Int32) (u2 : Int32) (u3 : Int32) (u4 : Int32) (u5 : Int32) (u6 : Int32) (u7 : Int32) (h0 : Heap) (n0 : Nat) (Z0 : n0 ≤ h0.size) (pre_V_a1 : Arv Z h0 a1 ka .byte (8 : Int32) [(.int u0), (.int u1), (.int u2), (.int u3), (.int u4), (.int u5), (.int u6), (.int u7)] (.int (0 : Int32))) (pre_g_a1 : n0 ≤ a1) (hk1 : p3 < (128 : Int32)) :
    MetFree l (⟨"com/example/terseform/terseform/Utf8CodePointAtPinLaw", "put", "([BII)V"⟩ : MethodName) (head1 (Jvm.Cond.code (⟨"com/example/terseform/terseform/Utf8CodePointAtPinLaw", "put", "([BII)V"⟩ : MethodName) method_3_code 3 none :: ws) RM1_31) (fun a U => a = #[(.ref a1), (.int (3 : Int32)), (.int p3)] ∧ Z.Warmed39 U.vm ∧ U.heap = h0) (fun _ _ _ _ _ => True) (fun _ U o U' => ∃ v L, o = .returned v ∧ Q1_31 Z a1 ka p3 u0 u1 u2 u3 u4 u5 u6 u7 h0 n0 v U'.heap L ∧ FrameEnd U o U' L RM1_31.cells RM1_31.slots) := by
  refine met_of (Q := fun v h L => Q1_31 Z a1 ka p3 u0 u1 u2 u3 u4 u5 u6 u7 h0 n0 v h L) (plainFor_of_name pn_0) (fun m => by first | (simp [entryFrame, mkF, argsToLocals, Value.category]; done) | rfl) (Ls := #[.val (.ref a1), .val (.int (3 : Int32)), .val (.int p3)]) ?_
  intro p e s m below meth c T0 QQ hx hZ hby hml hown hnm hret hlk X0 e0 hQ
  have hml : c.maxLocals = 3 := hml
  have hown : s.vm.findClass "com/example/terseform/terseform/Utf8CodePointAtPinLaw" = some m.cls := hown
  have hnm : meth.name = "put" := hnm
  have hret : meth.sig.returnType = none := hret
  have N0 := Fr.nil n0
  have K0 : Keep h0 h0 [a1] := Keep.refl h0 _
  show GoW p e below QQ (T0.setTop (mkF m 0 #[.val (.ref a1), .val (.int (3 : Int32)), .val (.int p3)] []))
  refine GoW.st (fun t k => XS.iloadN X0.here hx rfl (hb hby d1_0) rfl (XS.sipush X0.here hx rfl (hb hby d1_1) k)) ?_
  show GoW p e below QQ (T0.setTop (mkF m 4 #[.val (.ref a1), .val (.int (3 : Int32)), .val (.int p3)] [(.int (128 : Int32)), (.int p3)]))
  have hc4 : p3 < (128 : Int32) := by
    exact hk1
  refine GoW.st (fun t k => XS.icmpNo X0.here hx rfl (hb hby d1_4) rfl (tlt hc4).2.1 (XS.aloadN X0.here hx rfl (hb hby d1_7) rfl rfl (XS.iloadN X0.here hx rfl (hb hby d1_8) rfl (XS.iloadN X0.here hx rfl (hb hby d1_9) rfl (XS.i2b X0.here hx rfl (hb hby d1_10) rfl k))))) ?_
  show GoW p e below QQ (T0.setTop (mkF m 11 #[.val (.ref a1), .val (.int (3 : Int32)), .val (.int p3)] [(.int (p3.toInt8.toInt32)), (.int (3 : Int32)), (.ref a1)]))
  obtain ⟨T1, h1, X1, e1, W1, V1, st1⟩ := stVB X0 hx hZ e0 pre_V_a1 ⟨by decide, by decide⟩ 3 rfl (Nat.le_of_ble_eq_true rfl) (g := (mkF m 11 #[.val (.ref a1), .val (.int (3 : Int32)), .val (.int p3)] [(.int (p3.toInt8.toInt32)), (.int (3 : Int32)), (.ref a1)])) rfl rfl (hb hby d1_11)
  refine GoW.st st1 ?_
  have f2_V_a1 : Arv Z h1 a1 ka .byte (8 : Int32) [(.int u0), (.int u1), (.int u2), (.int (nar .byte (p3.toInt8.toInt32))), (.int u4), (.int u5), (.int u6), (.int u7)] (.int (0 : Int32)) := V1
  have K1 : Keep h0 h1 [a1] := K0.wr W1 (Or.inl (List.mem_of_getElem? (i := 0) rfl))
  have N1 := Fr.snoc X1 N0 pre_g_a1
  show GoW p e below QQ (T1.setTop (mkF m 12 #[.val (.ref a1), .val (.int (3 : Int32)), .val (.int p3)] []))
  refine GoW.st (fun t k => XS.goto X1.here hx rfl (pc0 := 12) (pc' := 165) rfl (hb hby d1_12) (by decide) (by decide) k) ?_
  show GoW p e below QQ (T1.setTop (mkF m 165 #[.val (.ref a1), .val (.int (3 : Int32)), .val (.int p3)] []))
  exact GoW.fin X1 none (fun _ => rfl) hlk hQ e1 ⟨rfl, N1, K1, f2_V_a1⟩ (by decide) (by decide) (fun fs hr => X1.returnOut hx hret (hb hby d1_165) hr)
def RM2_31 : Room := { frames := 0, cells := 0, slots := 0, locals := 0 }
def Q2_31 (Z : State) (a1 : Addr) (ka : ClassId) (u0 : Int32) (u1 : Int32) (u2 : Int32) (u3 : Int32) (u4 : Int32) (u5 : Int32) (u6 : Int32) (u7 : Int32) (h0 : Heap) (n0 : Nat) (v : Option Value) (h : Heap) (L : List Loc) : Prop := v = some (.int (u3 &&& (255 : Int32))) ∧ Fr n0 L ∧ h = h0
set_option maxRecDepth 65536 in
set_option maxHeartbeats 40000000 in
theorem rm2_31 (l : Launch) (Z : State) (a0 : Array Value) (hw : ∀ d ∈ tables_1, d.before a0 Z = true) (ws : List Jvm.Cond) (a1 : Addr) (ka : ClassId) (u0 : Int32) (u1 : Int32) (u2 : Int32) (u3 : Int32) (u4 : Int32) (u5 : Int32) (u6 : Int32) (u7 : Int32) (h0 : Heap) (n0 : Nat) (Z0 : n0 ≤ h0.size) (pre_V_a1 : Arv Z h0 a1 ka .byte (8 : Int32) [(.int u0), (.int u1), (.int u2), (.int u3), (.int u4), (.int u5), (.int u6), (.int u7)] (.int (0 : Int32))) (g1_1 : (u3 &&& (255 : Int32)) < (128 : Int32)) :
    MetFree l (⟨"com/example/terseform/terseform/Utf8", "codePointAt", "([BI)I"⟩ : MethodName) (head1 (Jvm.Cond.code (⟨"com/example/terseform/terseform/Utf8", "codePointAt", "([BI)I"⟩ : MethodName) prog_36_method_9_code 4 (some .int) :: ws) RM2_31) (fun a U => a = #[(.ref a1), (.int (3 : Int32))] ∧ Z.Warmed39 U.vm ∧ U.heap = h0) (fun _ _ _ _ _ => True) (fun _ U o U' => ∃ v L, o = .returned v ∧ Q2_31 Z a1 ka u0 u1 u2 u3 u4 u5 u6 u7 h0 n0 v U'.heap L ∧ FrameEnd U o U' L RM2_31.cells RM2_31.slots) := by
  refine met_of (Q := fun v h L => Q2_31 Z a1 ka u0 u1 u2 u3 u4 u5 u6 u7 h0 n0 v h L) (plainFor_of_name pn_1) (fun m => by first | (simp [entryFrame, mkF, argsToLocals, Value.category]; done) | rfl) (Ls := #[.val (.ref a1), .val (.int (3 : Int32)), .unset, .unset]) ?_
  intro p e s m below meth c T0 QQ hx hZ hby hml hown hnm hret hlk X0 e0 hQ
  have hml : c.maxLocals = 4 := hml
  have hown : s.vm.findClass "com/example/terseform/terseform/Utf8" = some m.cls := hown
  have hnm : meth.name = "codePointAt" := hnm
  have hret : meth.sig.returnType = some .int := hret
  have N0 := Fr.nil n0
  have K0 : Keep h0 h0 [] := Keep.refl h0 _
  show GoW p e below QQ (T0.setTop (mkF m 0 #[.val (.ref a1), .val (.int (3 : Int32)), .unset, .unset] []))
  refine GoW.st (fun t k => XS.aloadN X0.here hx rfl (hb hby d2_0) rfl rfl (XS.iloadN X0.here hx rfl (hb hby d2_1) rfl (ldVB X0 hx hZ e0 pre_V_a1 (v := (.int u3)) ⟨by decide, by decide⟩ rfl (g := (mkF m 2 #[.val (.ref a1), .val (.int (3 : Int32)), .unset, .unset] [(.int (3 : Int32)), (.ref a1)])) rfl rfl (hb hby d2_2) t (XS.sipush X0.here hx rfl (hb hby d2_3) (XS.iand X0.here hx rfl (hb hby d2_6) rfl (XS.istoreN X0.here hx rfl (hb hby d2_7) rfl (l' := #[.val (.ref a1), .val (.int (3 : Int32)), .val (.int (u3 &&& (255 : Int32))), .unset]) rfl k)))))) ?_
  show GoW p e below QQ (T0.setTop (mkF m 8 #[.val (.ref a1), .val (.int (3 : Int32)), .val (.int (u3 &&& (255 : Int32))), .unset] []))
  generalize hv7 : (u3 &&& (255 : Int32)) = v7
  refine GoW.st (fun t k => XS.iloadN X0.here hx rfl (hb hby d2_8) rfl (XS.sipush X0.here hx rfl (hb hby d2_9) k)) ?_
  show GoW p e below QQ (T0.setTop (mkF m 12 #[.val (.ref a1), .val (.int (3 : Int32)), .val (.int v7), .unset] [(.int (128 : Int32)), (.int v7)]))
  have hc12 : v7 < (128 : Int32) := by
    subst hv7
    exact g1_1
  refine GoW.st (fun t k => XS.icmpNo X0.here hx rfl (hb hby d2_12) rfl (tlt hc12).2.1 (XS.iloadN X0.here hx rfl (hb hby d2_15) rfl (XS.istoreN X0.here hx rfl (hb hby d2_16) rfl (l' := #[.val (.ref a1), .val (.int (3 : Int32)), .val (.int v7), .val (.int v7)]) rfl (XS.goto X0.here hx rfl (pc0 := 17) (pc' := 127) rfl (hb hby d2_17) (by decide) (by decide) (XS.iloadN X0.here hx rfl (hb hby d2_127) rfl k))))) ?_
  show GoW p e below QQ (T0.setTop (mkF m 128 #[.val (.ref a1), .val (.int (3 : Int32)), .val (.int v7), .val (.int v7)] [(.int v7)]))
  have rv : ((some (.int v7)) : Option Value) = some (.int (u3 &&& (255 : Int32))) := by
    subst_vars
    rfl
  exact GoW.fin X0 (some (.int v7)) (fun q => by rw [hret] at q; cases q) hlk hQ e0 ⟨rv, N0, rfl⟩ (by decide) (by decide) (fun fs hr => retI X0 hx hret (hb hby d2_128) hr)
theorem d1_15 : decode method_3_code 15 = .ok (.iload_n 2, 1) := by decide +kernel
theorem d1_16 : decode method_3_code 16 = .ok (.sipush 2048, 3) := by decide +kernel
theorem d1_19 : decode method_3_code 19 = .ok (.if_icmp .ge 32, 3) := by decide +kernel
theorem d1_22 : decode method_3_code 22 = .ok (.aload_n 0, 1) := by decide +kernel
theorem d1_23 : decode method_3_code 23 = .ok (.iload_n 1, 1) := by decide +kernel
theorem d1_24 : decode method_3_code 24 = .ok (.sipush 192, 3) := by decide +kernel
theorem d1_27 : decode method_3_code 27 = .ok (.iload_n 2, 1) := by decide +kernel
theorem d1_28 : decode method_3_code 28 = .ok (.bipush 64, 2) := by decide +kernel
theorem d1_30 : decode method_3_code 30 = .ok (.idiv, 1) := by decide +kernel
theorem d1_31 : decode method_3_code 31 = .ok (.iadd, 1) := by decide +kernel
theorem d1_32 : decode method_3_code 32 = .ok (.i2b, 1) := by decide +kernel
theorem d1_33 : decode method_3_code 33 = .ok (.bastore, 1) := by decide +kernel
theorem d1_34 : decode method_3_code 34 = .ok (.aload_n 0, 1) := by decide +kernel
theorem d1_35 : decode method_3_code 35 = .ok (.iload_n 1, 1) := by decide +kernel
theorem d1_36 : decode method_3_code 36 = .ok (.iconst 1, 1) := by decide +kernel
theorem d1_37 : decode method_3_code 37 = .ok (.iadd, 1) := by decide +kernel
theorem d1_38 : decode method_3_code 38 = .ok (.sipush 128, 3) := by decide +kernel
theorem d1_41 : decode method_3_code 41 = .ok (.iload_n 2, 1) := by decide +kernel
theorem d1_42 : decode method_3_code 42 = .ok (.bipush 64, 2) := by decide +kernel
theorem d1_44 : decode method_3_code 44 = .ok (.irem, 1) := by decide +kernel
theorem d1_45 : decode method_3_code 45 = .ok (.iadd, 1) := by decide +kernel
theorem d1_46 : decode method_3_code 46 = .ok (.i2b, 1) := by decide +kernel
theorem d1_47 : decode method_3_code 47 = .ok (.bastore, 1) := by decide +kernel
theorem d1_48 : decode method_3_code 48 = .ok (.goto 117, 3) := by decide +kernel
def RM1_02 : Room := { frames := 0, cells := 0, slots := 0, locals := 0 }
def Q1_02 (Z : State) (a1 : Addr) (ka : ClassId) (p3 : Int32) (u0 : Int32) (u1 : Int32) (u2 : Int32) (u3 : Int32) (u4 : Int32) (u5 : Int32) (u6 : Int32) (u7 : Int32) (h0 : Heap) (n0 : Nat) (v : Option Value) (h : Heap) (L : List Loc) : Prop := v = none ∧ Fr n0 L ∧ Keep h0 h [a1] ∧ (Arv Z h a1 ka .byte (8 : Int32) [(.int (nar .byte (((192 : Int32) + (p3 / (64 : Int32))).toInt8.toInt32))), (.int (nar .byte (((128 : Int32) + (p3 % (64 : Int32))).toInt8.toInt32))), (.int u2), (.int u3), (.int u4), (.int u5), (.int u6), (.int u7)] (.int (0 : Int32)))
set_option maxRecDepth 65536 in
set_option maxHeartbeats 40000000 in
theorem rm1_02 (l : Launch) (Z : State) (a0 : Array Value) (hw : ∀ d ∈ tables_1, d.before a0 Z = true) (ws : List Jvm.Cond) (a1 : Addr) (ka : ClassId) (p3 : Int32) (u0 : Int32) (u1 : Int32) (u2 : Int32) (u3 : Int32) (u4 : Int32) (u5 : Int32) (u6 : Int32) (u7 : Int32) (h0 : Heap) (n0 : Nat) (Z0 : n0 ≤ h0.size) (pre_V_a1 : Arv Z h0 a1 ka .byte (8 : Int32) [(.int u0), (.int u1), (.int u2), (.int u3), (.int u4), (.int u5), (.int u6), (.int u7)] (.int (0 : Int32))) (pre_g_a1 : n0 ≤ a1) (hk1 : ¬ p3 < (128 : Int32)) (hk2 : p3 < (2048 : Int32)) :
    MetFree l (⟨"com/example/terseform/terseform/Utf8CodePointAtPinLaw", "put", "([BII)V"⟩ : MethodName) (head1 (Jvm.Cond.code (⟨"com/example/terseform/terseform/Utf8CodePointAtPinLaw", "put", "([BII)V"⟩ : MethodName) method_3_code 3 none :: ws) RM1_02) (fun a U => a = #[(.ref a1), (.int (0 : Int32)), (.int p3)] ∧ Z.Warmed39 U.vm ∧ U.heap = h0) (fun _ _ _ _ _ => True) (fun _ U o U' => ∃ v L, o = .returned v ∧ Q1_02 Z a1 ka p3 u0 u1 u2 u3 u4 u5 u6 u7 h0 n0 v U'.heap L ∧ FrameEnd U o U' L RM1_02.cells RM1_02.slots) := by
  refine met_of (Q := fun v h L => Q1_02 Z a1 ka p3 u0 u1 u2 u3 u4 u5 u6 u7 h0 n0 v h L) (plainFor_of_name pn_0) (fun m => by first | (simp [entryFrame, mkF, argsToLocals, Value.category]; done) | rfl) (Ls := #[.val (.ref a1), .val (.int (0 : Int32)), .val (.int p3)]) ?_
  intro p e s m below meth c T0 QQ hx hZ hby hml hown hnm hret hlk X0 e0 hQ
  have hml : c.maxLocals = 3 := hml
  have hown : s.vm.findClass "com/example/terseform/terseform/Utf8CodePointAtPinLaw" = some m.cls := hown
  have hnm : meth.name = "put" := hnm
  have hret : meth.sig.returnType = none := hret
  have N0 := Fr.nil n0
  have K0 : Keep h0 h0 [a1] := Keep.refl h0 _
  show GoW p e below QQ (T0.setTop (mkF m 0 #[.val (.ref a1), .val (.int (0 : Int32)), .val (.int p3)] []))
  refine GoW.st (fun t k => XS.iloadN X0.here hx rfl (hb hby d1_0) rfl (XS.sipush X0.here hx rfl (hb hby d1_1) k)) ?_
  show GoW p e below QQ (T0.setTop (mkF m 4 #[.val (.ref a1), .val (.int (0 : Int32)), .val (.int p3)] [(.int (128 : Int32)), (.int p3)]))
  have hc4 : ¬ (p3 < (128 : Int32)) := by
    exact hk1
  refine GoW.st (fun t k => XS.icmpYes X0.here hx rfl (pc0 := 4) (pc' := 15) rfl (hb hby d1_4) rfl (flt hc4).2.1 (by decide) (by decide) (XS.iloadN X0.here hx rfl (hb hby d1_15) rfl (XS.sipush X0.here hx rfl (hb hby d1_16) k))) ?_
  show GoW p e below QQ (T0.setTop (mkF m 19 #[.val (.ref a1), .val (.int (0 : Int32)), .val (.int p3)] [(.int (2048 : Int32)), (.int p3)]))
  have hc19 : p3 < (2048 : Int32) := by
    exact hk2
  refine GoW.st (fun t k => XS.icmpNo X0.here hx rfl (hb hby d1_19) rfl (tlt hc19).2.1 (XS.aloadN X0.here hx rfl (hb hby d1_22) rfl rfl (XS.iloadN X0.here hx rfl (hb hby d1_23) rfl (XS.sipush X0.here hx rfl (hb hby d1_24) (XS.iloadN X0.here hx rfl (hb hby d1_27) rfl (XS.bipush X0.here hx rfl (hb hby d1_28) k)))))) ?_
  show GoW p e below QQ (T0.setTop (mkF m 30 #[.val (.ref a1), .val (.int (0 : Int32)), .val (.int p3)] [(.int (64 : Int32)), (.int p3), (.int (192 : Int32)), (.int (0 : Int32)), (.ref a1)]))
  refine GoW.st (fun t k => XS.idiv X0.here hx rfl (hb hby d1_30) rfl (by decide) (XS.iadd X0.here hx rfl (hb hby d1_31) rfl (XS.i2b X0.here hx rfl (hb hby d1_32) rfl k))) ?_
  show GoW p e below QQ (T0.setTop (mkF m 33 #[.val (.ref a1), .val (.int (0 : Int32)), .val (.int p3)] [(.int (((192 : Int32) + (p3 / (64 : Int32))).toInt8.toInt32)), (.int (0 : Int32)), (.ref a1)]))
  obtain ⟨T1, h1, X1, e1, W1, V1, st1⟩ := stVB X0 hx hZ e0 pre_V_a1 ⟨by decide, by decide⟩ 0 rfl (Nat.le_of_ble_eq_true rfl) (g := (mkF m 33 #[.val (.ref a1), .val (.int (0 : Int32)), .val (.int p3)] [(.int (((192 : Int32) + (p3 / (64 : Int32))).toInt8.toInt32)), (.int (0 : Int32)), (.ref a1)])) rfl rfl (hb hby d1_33)
  refine GoW.st st1 ?_
  have f2_V_a1 : Arv Z h1 a1 ka .byte (8 : Int32) [(.int (nar .byte (((192 : Int32) + (p3 / (64 : Int32))).toInt8.toInt32))), (.int u1), (.int u2), (.int u3), (.int u4), (.int u5), (.int u6), (.int u7)] (.int (0 : Int32)) := V1
  have K1 : Keep h0 h1 [a1] := K0.wr W1 (Or.inl (List.mem_of_getElem? (i := 0) rfl))
  have N1 := Fr.snoc X1 N0 pre_g_a1
  show GoW p e below QQ (T1.setTop (mkF m 34 #[.val (.ref a1), .val (.int (0 : Int32)), .val (.int p3)] []))
  refine GoW.st (fun t k => XS.aloadN X1.here hx rfl (hb hby d1_34) rfl rfl (XS.iloadN X1.here hx rfl (hb hby d1_35) rfl (XS.iconst X1.here hx rfl (hb hby d1_36) (XS.iadd X1.here hx rfl (hb hby d1_37) rfl (XS.sipush X1.here hx rfl (hb hby d1_38) (XS.iloadN X1.here hx rfl (hb hby d1_41) rfl k)))))) ?_
  show GoW p e below QQ (T1.setTop (mkF m 42 #[.val (.ref a1), .val (.int (0 : Int32)), .val (.int p3)] [(.int p3), (.int (128 : Int32)), (.int (1 : Int32)), (.ref a1)]))
  refine GoW.st (fun t k => XS.bipush X1.here hx rfl (hb hby d1_42) (iremM X1 hx rfl (hb hby d1_44) rfl (by decide) (XS.iadd X1.here hx rfl (hb hby d1_45) rfl (XS.i2b X1.here hx rfl (hb hby d1_46) rfl k)))) ?_
  show GoW p e below QQ (T1.setTop (mkF m 47 #[.val (.ref a1), .val (.int (0 : Int32)), .val (.int p3)] [(.int (((128 : Int32) + (p3 % (64 : Int32))).toInt8.toInt32)), (.int (1 : Int32)), (.ref a1)]))
  obtain ⟨T3, h3, X3, e3, W3, V3, st3⟩ := stVB X1 hx hZ e1 f2_V_a1 ⟨by decide, by decide⟩ 1 rfl (Nat.le_of_ble_eq_true rfl) (g := (mkF m 47 #[.val (.ref a1), .val (.int (0 : Int32)), .val (.int p3)] [(.int (((128 : Int32) + (p3 % (64 : Int32))).toInt8.toInt32)), (.int (1 : Int32)), (.ref a1)])) rfl rfl (hb hby d1_47)
  refine GoW.st st3 ?_
  have f4_V_a1 : Arv Z h3 a1 ka .byte (8 : Int32) [(.int (nar .byte (((192 : Int32) + (p3 / (64 : Int32))).toInt8.toInt32))), (.int (nar .byte (((128 : Int32) + (p3 % (64 : Int32))).toInt8.toInt32))), (.int u2), (.int u3), (.int u4), (.int u5), (.int u6), (.int u7)] (.int (0 : Int32)) := V3
  have K3 : Keep h0 h3 [a1] := K1.wr W3 (Or.inl (List.mem_of_getElem? (i := 0) rfl))
  have N3 := Fr.snoc X3 N1 pre_g_a1
  show GoW p e below QQ (T3.setTop (mkF m 48 #[.val (.ref a1), .val (.int (0 : Int32)), .val (.int p3)] []))
  refine GoW.st (fun t k => XS.goto X3.here hx rfl (pc0 := 48) (pc' := 165) rfl (hb hby d1_48) (by decide) (by decide) k) ?_
  show GoW p e below QQ (T3.setTop (mkF m 165 #[.val (.ref a1), .val (.int (0 : Int32)), .val (.int p3)] []))
  exact GoW.fin X3 none (fun _ => rfl) hlk hQ e3 ⟨rfl, N3, K3, f4_V_a1⟩ (by decide) (by decide) (fun fs hr => X3.returnOut hx hret (hb hby d1_165) hr)
theorem d2_20 : decode prog_36_method_9_code 20 = .ok (.iload_n 2, 1) := by decide +kernel
theorem d2_21 : decode prog_36_method_9_code 21 = .ok (.sipush 224, 3) := by decide +kernel
theorem d2_24 : decode prog_36_method_9_code 24 = .ok (.if_icmp .ge 23, 3) := by decide +kernel
theorem d2_27 : decode prog_36_method_9_code 27 = .ok (.iload_n 2, 1) := by decide +kernel
theorem d2_28 : decode prog_36_method_9_code 28 = .ok (.bipush 31, 2) := by decide +kernel
theorem d2_30 : decode prog_36_method_9_code 30 = .ok (.iand, 1) := by decide +kernel
theorem d2_31 : decode prog_36_method_9_code 31 = .ok (.bipush 6, 2) := by decide +kernel
theorem d2_33 : decode prog_36_method_9_code 33 = .ok (.ishl, 1) := by decide +kernel
theorem d2_34 : decode prog_36_method_9_code 34 = .ok (.aload_n 0, 1) := by decide +kernel
theorem d2_35 : decode prog_36_method_9_code 35 = .ok (.iload_n 1, 1) := by decide +kernel
theorem d2_36 : decode prog_36_method_9_code 36 = .ok (.iconst 1, 1) := by decide +kernel
theorem d2_37 : decode prog_36_method_9_code 37 = .ok (.iadd, 1) := by decide +kernel
theorem d2_38 : decode prog_36_method_9_code 38 = .ok (.baload, 1) := by decide +kernel
theorem d2_39 : decode prog_36_method_9_code 39 = .ok (.bipush 63, 2) := by decide +kernel
theorem d2_41 : decode prog_36_method_9_code 41 = .ok (.iand, 1) := by decide +kernel
theorem d2_42 : decode prog_36_method_9_code 42 = .ok (.ior, 1) := by decide +kernel
theorem d2_43 : decode prog_36_method_9_code 43 = .ok (.istore_n 3, 1) := by decide +kernel
theorem d2_44 : decode prog_36_method_9_code 44 = .ok (.goto 83, 3) := by decide +kernel
def RM2_02 : Room := { frames := 0, cells := 0, slots := 0, locals := 0 }
def Q2_02 (Z : State) (a1 : Addr) (ka : ClassId) (u0 : Int32) (u1 : Int32) (u2 : Int32) (u3 : Int32) (u4 : Int32) (u5 : Int32) (u6 : Int32) (u7 : Int32) (h0 : Heap) (n0 : Nat) (v : Option Value) (h : Heap) (L : List Loc) : Prop := v = some (.int ((((u0 &&& (255 : Int32)) &&& (31 : Int32)) <<< ((6 : Int32) &&& 31)) ||| (u1 &&& (63 : Int32)))) ∧ Fr n0 L ∧ h = h0
set_option maxRecDepth 65536 in
set_option maxHeartbeats 40000000 in
theorem rm2_02 (l : Launch) (Z : State) (a0 : Array Value) (hw : ∀ d ∈ tables_1, d.before a0 Z = true) (ws : List Jvm.Cond) (a1 : Addr) (ka : ClassId) (u0 : Int32) (u1 : Int32) (u2 : Int32) (u3 : Int32) (u4 : Int32) (u5 : Int32) (u6 : Int32) (u7 : Int32) (h0 : Heap) (n0 : Nat) (Z0 : n0 ≤ h0.size) (pre_V_a1 : Arv Z h0 a1 ka .byte (8 : Int32) [(.int u0), (.int u1), (.int u2), (.int u3), (.int u4), (.int u5), (.int u6), (.int u7)] (.int (0 : Int32))) (g1_2 : ¬ (u0 &&& (255 : Int32)) < (128 : Int32)) (g2_2 : (u0 &&& (255 : Int32)) < (224 : Int32)) :
    MetFree l (⟨"com/example/terseform/terseform/Utf8", "codePointAt", "([BI)I"⟩ : MethodName) (head1 (Jvm.Cond.code (⟨"com/example/terseform/terseform/Utf8", "codePointAt", "([BI)I"⟩ : MethodName) prog_36_method_9_code 4 (some .int) :: ws) RM2_02) (fun a U => a = #[(.ref a1), (.int (0 : Int32))] ∧ Z.Warmed39 U.vm ∧ U.heap = h0) (fun _ _ _ _ _ => True) (fun _ U o U' => ∃ v L, o = .returned v ∧ Q2_02 Z a1 ka u0 u1 u2 u3 u4 u5 u6 u7 h0 n0 v U'.heap L ∧ FrameEnd U o U' L RM2_02.cells RM2_02.slots) := by
  refine met_of (Q := fun v h L => Q2_02 Z a1 ka u0 u1 u2 u3 u4 u5 u6 u7 h0 n0 v h L) (plainFor_of_name pn_1) (fun m => by first | (simp [entryFrame, mkF, argsToLocals, Value.category]; done) | rfl) (Ls := #[.val (.ref a1), .val (.int (0 : Int32)), .unset, .unset]) ?_
  intro p e s m below meth c T0 QQ hx hZ hby hml hown hnm hret hlk X0 e0 hQ
  have hml : c.maxLocals = 4 := hml
  have hown : s.vm.findClass "com/example/terseform/terseform/Utf8" = some m.cls := hown
  have hnm : meth.name = "codePointAt" := hnm
  have hret : meth.sig.returnType = some .int := hret
  have N0 := Fr.nil n0
  have K0 : Keep h0 h0 [] := Keep.refl h0 _
  show GoW p e below QQ (T0.setTop (mkF m 0 #[.val (.ref a1), .val (.int (0 : Int32)), .unset, .unset] []))
  refine GoW.st (fun t k => XS.aloadN X0.here hx rfl (hb hby d2_0) rfl rfl (XS.iloadN X0.here hx rfl (hb hby d2_1) rfl (ldVB X0 hx hZ e0 pre_V_a1 (v := (.int u0)) ⟨by decide, by decide⟩ rfl (g := (mkF m 2 #[.val (.ref a1), .val (.int (0 : Int32)), .unset, .unset] [(.int (0 : Int32)), (.ref a1)])) rfl rfl (hb hby d2_2) t (XS.sipush X0.here hx rfl (hb hby d2_3) (XS.iand X0.here hx rfl (hb hby d2_6) rfl (XS.istoreN X0.here hx rfl (hb hby d2_7) rfl (l' := #[.val (.ref a1), .val (.int (0 : Int32)), .val (.int (u0 &&& (255 : Int32))), .unset]) rfl k)))))) ?_
  show GoW p e below QQ (T0.setTop (mkF m 8 #[.val (.ref a1), .val (.int (0 : Int32)), .val (.int (u0 &&& (255 : Int32))), .unset] []))
  generalize hv7 : (u0 &&& (255 : Int32)) = v7
  refine GoW.st (fun t k => XS.iloadN X0.here hx rfl (hb hby d2_8) rfl (XS.sipush X0.here hx rfl (hb hby d2_9) k)) ?_
  show GoW p e below QQ (T0.setTop (mkF m 12 #[.val (.ref a1), .val (.int (0 : Int32)), .val (.int v7), .unset] [(.int (128 : Int32)), (.int v7)]))
  have hc12 : ¬ (v7 < (128 : Int32)) := by
    subst hv7
    exact g1_2
  refine GoW.st (fun t k => XS.icmpYes X0.here hx rfl (pc0 := 12) (pc' := 20) rfl (hb hby d2_12) rfl (flt hc12).2.1 (by decide) (by decide) (XS.iloadN X0.here hx rfl (hb hby d2_20) rfl (XS.sipush X0.here hx rfl (hb hby d2_21) k))) ?_
  show GoW p e below QQ (T0.setTop (mkF m 24 #[.val (.ref a1), .val (.int (0 : Int32)), .val (.int v7), .unset] [(.int (224 : Int32)), (.int v7)]))
  have hc24 : v7 < (224 : Int32) := by
    subst hv7
    exact g2_2
  refine GoW.st (fun t k => XS.icmpNo X0.here hx rfl (hb hby d2_24) rfl (tlt hc24).2.1 (XS.iloadN X0.here hx rfl (hb hby d2_27) rfl (XS.bipush X0.here hx rfl (hb hby d2_28) (XS.iand X0.here hx rfl (hb hby d2_30) rfl (XS.bipush X0.here hx rfl (hb hby d2_31) (XS.ishl X0.here hx rfl (hb hby d2_33) rfl k)))))) ?_
  show GoW p e below QQ (T0.setTop (mkF m 34 #[.val (.ref a1), .val (.int (0 : Int32)), .val (.int v7), .unset] [(.int ((v7 &&& (31 : Int32)) <<< ((6 : Int32) &&& 31)))]))
  refine GoW.st (fun t k => XS.aloadN X0.here hx rfl (hb hby d2_34) rfl rfl (XS.iloadN X0.here hx rfl (hb hby d2_35) rfl (XS.iconst X0.here hx rfl (hb hby d2_36) (XS.iadd X0.here hx rfl (hb hby d2_37) rfl (ldVB X0 hx hZ e0 pre_V_a1 (v := (.int u1)) ⟨by decide, by decide⟩ rfl (g := (mkF m 38 #[.val (.ref a1), .val (.int (0 : Int32)), .val (.int v7), .unset] [(.int (1 : Int32)), (.ref a1), (.int ((v7 &&& (31 : Int32)) <<< ((6 : Int32) &&& 31)))])) rfl rfl (hb hby d2_38) t (XS.bipush X0.here hx rfl (hb hby d2_39) k)))))) ?_
  show GoW p e below QQ (T0.setTop (mkF m 41 #[.val (.ref a1), .val (.int (0 : Int32)), .val (.int v7), .unset] [(.int (63 : Int32)), (.int u1), (.int ((v7 &&& (31 : Int32)) <<< ((6 : Int32) &&& 31)))]))
  refine GoW.st (fun t k => XS.iand X0.here hx rfl (hb hby d2_41) rfl (XS.ior X0.here hx rfl (hb hby d2_42) rfl (XS.istoreN X0.here hx rfl (hb hby d2_43) rfl (l' := #[.val (.ref a1), .val (.int (0 : Int32)), .val (.int v7), .val (.int (((v7 &&& (31 : Int32)) <<< ((6 : Int32) &&& 31)) ||| (u1 &&& (63 : Int32))))]) rfl k))) ?_
  show GoW p e below QQ (T0.setTop (mkF m 44 #[.val (.ref a1), .val (.int (0 : Int32)), .val (.int v7), .val (.int (((v7 &&& (31 : Int32)) <<< ((6 : Int32) &&& 31)) ||| (u1 &&& (63 : Int32))))] []))
  generalize hv43 : (((v7 &&& (31 : Int32)) <<< ((6 : Int32) &&& 31)) ||| (u1 &&& (63 : Int32))) = v43
  refine GoW.st (fun t k => XS.goto X0.here hx rfl (pc0 := 44) (pc' := 127) rfl (hb hby d2_44) (by decide) (by decide) (XS.iloadN X0.here hx rfl (hb hby d2_127) rfl k)) ?_
  show GoW p e below QQ (T0.setTop (mkF m 128 #[.val (.ref a1), .val (.int (0 : Int32)), .val (.int v7), .val (.int v43)] [(.int v43)]))
  have rv : ((some (.int v43)) : Option Value) = some (.int ((((u0 &&& (255 : Int32)) &&& (31 : Int32)) <<< ((6 : Int32) &&& 31)) ||| (u1 &&& (63 : Int32)))) := by
    subst_vars
    rfl
  exact GoW.fin X0 (some (.int v43)) (fun q => by rw [hret] at q; cases q) hlk hQ e0 ⟨rv, N0, rfl⟩ (by decide) (by decide) (fun fs hr => retI X0 hx hret (hb hby d2_128) hr)
def RM1_12 : Room := { frames := 0, cells := 0, slots := 0, locals := 0 }
def Q1_12 (Z : State) (a1 : Addr) (ka : ClassId) (p3 : Int32) (u0 : Int32) (u1 : Int32) (u2 : Int32) (u3 : Int32) (u4 : Int32) (u5 : Int32) (u6 : Int32) (u7 : Int32) (h0 : Heap) (n0 : Nat) (v : Option Value) (h : Heap) (L : List Loc) : Prop := v = none ∧ Fr n0 L ∧ Keep h0 h [a1] ∧ (Arv Z h a1 ka .byte (8 : Int32) [(.int u0), (.int (nar .byte (((192 : Int32) + (p3 / (64 : Int32))).toInt8.toInt32))), (.int (nar .byte (((128 : Int32) + (p3 % (64 : Int32))).toInt8.toInt32))), (.int u3), (.int u4), (.int u5), (.int u6), (.int u7)] (.int (0 : Int32)))
set_option maxRecDepth 65536 in
set_option maxHeartbeats 40000000 in
theorem rm1_12 (l : Launch) (Z : State) (a0 : Array Value) (hw : ∀ d ∈ tables_1, d.before a0 Z = true) (ws : List Jvm.Cond) (a1 : Addr) (ka : ClassId) (p3 : Int32) (u0 : Int32) (u1 : Int32) (u2 : Int32) (u3 : Int32) (u4 : Int32) (u5 : Int32) (u6 : Int32) (u7 : Int32) (h0 : Heap) (n0 : Nat) (Z0 : n0 ≤ h0.size) (pre_V_a1 : Arv Z h0 a1 ka .byte (8 : Int32) [(.int u0), (.int u1), (.int u2), (.int u3), (.int u4), (.int u5), (.int u6), (.int u7)] (.int (0 : Int32))) (pre_g_a1 : n0 ≤ a1) (hk1 : ¬ p3 < (128 : Int32)) (hk2 : p3 < (2048 : Int32)) :
    MetFree l (⟨"com/example/terseform/terseform/Utf8CodePointAtPinLaw", "put", "([BII)V"⟩ : MethodName) (head1 (Jvm.Cond.code (⟨"com/example/terseform/terseform/Utf8CodePointAtPinLaw", "put", "([BII)V"⟩ : MethodName) method_3_code 3 none :: ws) RM1_12) (fun a U => a = #[(.ref a1), (.int (1 : Int32)), (.int p3)] ∧ Z.Warmed39 U.vm ∧ U.heap = h0) (fun _ _ _ _ _ => True) (fun _ U o U' => ∃ v L, o = .returned v ∧ Q1_12 Z a1 ka p3 u0 u1 u2 u3 u4 u5 u6 u7 h0 n0 v U'.heap L ∧ FrameEnd U o U' L RM1_12.cells RM1_12.slots) := by
  refine met_of (Q := fun v h L => Q1_12 Z a1 ka p3 u0 u1 u2 u3 u4 u5 u6 u7 h0 n0 v h L) (plainFor_of_name pn_0) (fun m => by first | (simp [entryFrame, mkF, argsToLocals, Value.category]; done) | rfl) (Ls := #[.val (.ref a1), .val (.int (1 : Int32)), .val (.int p3)]) ?_
  intro p e s m below meth c T0 QQ hx hZ hby hml hown hnm hret hlk X0 e0 hQ
  have hml : c.maxLocals = 3 := hml
  have hown : s.vm.findClass "com/example/terseform/terseform/Utf8CodePointAtPinLaw" = some m.cls := hown
  have hnm : meth.name = "put" := hnm
  have hret : meth.sig.returnType = none := hret
  have N0 := Fr.nil n0
  have K0 : Keep h0 h0 [a1] := Keep.refl h0 _
  show GoW p e below QQ (T0.setTop (mkF m 0 #[.val (.ref a1), .val (.int (1 : Int32)), .val (.int p3)] []))
  refine GoW.st (fun t k => XS.iloadN X0.here hx rfl (hb hby d1_0) rfl (XS.sipush X0.here hx rfl (hb hby d1_1) k)) ?_
  show GoW p e below QQ (T0.setTop (mkF m 4 #[.val (.ref a1), .val (.int (1 : Int32)), .val (.int p3)] [(.int (128 : Int32)), (.int p3)]))
  have hc4 : ¬ (p3 < (128 : Int32)) := by
    exact hk1
  refine GoW.st (fun t k => XS.icmpYes X0.here hx rfl (pc0 := 4) (pc' := 15) rfl (hb hby d1_4) rfl (flt hc4).2.1 (by decide) (by decide) (XS.iloadN X0.here hx rfl (hb hby d1_15) rfl (XS.sipush X0.here hx rfl (hb hby d1_16) k))) ?_
  show GoW p e below QQ (T0.setTop (mkF m 19 #[.val (.ref a1), .val (.int (1 : Int32)), .val (.int p3)] [(.int (2048 : Int32)), (.int p3)]))
  have hc19 : p3 < (2048 : Int32) := by
    exact hk2
  refine GoW.st (fun t k => XS.icmpNo X0.here hx rfl (hb hby d1_19) rfl (tlt hc19).2.1 (XS.aloadN X0.here hx rfl (hb hby d1_22) rfl rfl (XS.iloadN X0.here hx rfl (hb hby d1_23) rfl (XS.sipush X0.here hx rfl (hb hby d1_24) (XS.iloadN X0.here hx rfl (hb hby d1_27) rfl (XS.bipush X0.here hx rfl (hb hby d1_28) k)))))) ?_
  show GoW p e below QQ (T0.setTop (mkF m 30 #[.val (.ref a1), .val (.int (1 : Int32)), .val (.int p3)] [(.int (64 : Int32)), (.int p3), (.int (192 : Int32)), (.int (1 : Int32)), (.ref a1)]))
  refine GoW.st (fun t k => XS.idiv X0.here hx rfl (hb hby d1_30) rfl (by decide) (XS.iadd X0.here hx rfl (hb hby d1_31) rfl (XS.i2b X0.here hx rfl (hb hby d1_32) rfl k))) ?_
  show GoW p e below QQ (T0.setTop (mkF m 33 #[.val (.ref a1), .val (.int (1 : Int32)), .val (.int p3)] [(.int (((192 : Int32) + (p3 / (64 : Int32))).toInt8.toInt32)), (.int (1 : Int32)), (.ref a1)]))
  obtain ⟨T1, h1, X1, e1, W1, V1, st1⟩ := stVB X0 hx hZ e0 pre_V_a1 ⟨by decide, by decide⟩ 1 rfl (Nat.le_of_ble_eq_true rfl) (g := (mkF m 33 #[.val (.ref a1), .val (.int (1 : Int32)), .val (.int p3)] [(.int (((192 : Int32) + (p3 / (64 : Int32))).toInt8.toInt32)), (.int (1 : Int32)), (.ref a1)])) rfl rfl (hb hby d1_33)
  refine GoW.st st1 ?_
  have f2_V_a1 : Arv Z h1 a1 ka .byte (8 : Int32) [(.int u0), (.int (nar .byte (((192 : Int32) + (p3 / (64 : Int32))).toInt8.toInt32))), (.int u2), (.int u3), (.int u4), (.int u5), (.int u6), (.int u7)] (.int (0 : Int32)) := V1
  have K1 : Keep h0 h1 [a1] := K0.wr W1 (Or.inl (List.mem_of_getElem? (i := 0) rfl))
  have N1 := Fr.snoc X1 N0 pre_g_a1
  show GoW p e below QQ (T1.setTop (mkF m 34 #[.val (.ref a1), .val (.int (1 : Int32)), .val (.int p3)] []))
  refine GoW.st (fun t k => XS.aloadN X1.here hx rfl (hb hby d1_34) rfl rfl (XS.iloadN X1.here hx rfl (hb hby d1_35) rfl (XS.iconst X1.here hx rfl (hb hby d1_36) (XS.iadd X1.here hx rfl (hb hby d1_37) rfl (XS.sipush X1.here hx rfl (hb hby d1_38) (XS.iloadN X1.here hx rfl (hb hby d1_41) rfl k)))))) ?_
  show GoW p e below QQ (T1.setTop (mkF m 42 #[.val (.ref a1), .val (.int (1 : Int32)), .val (.int p3)] [(.int p3), (.int (128 : Int32)), (.int (2 : Int32)), (.ref a1)]))
  refine GoW.st (fun t k => XS.bipush X1.here hx rfl (hb hby d1_42) (iremM X1 hx rfl (hb hby d1_44) rfl (by decide) (XS.iadd X1.here hx rfl (hb hby d1_45) rfl (XS.i2b X1.here hx rfl (hb hby d1_46) rfl k)))) ?_
  show GoW p e below QQ (T1.setTop (mkF m 47 #[.val (.ref a1), .val (.int (1 : Int32)), .val (.int p3)] [(.int (((128 : Int32) + (p3 % (64 : Int32))).toInt8.toInt32)), (.int (2 : Int32)), (.ref a1)]))
  obtain ⟨T3, h3, X3, e3, W3, V3, st3⟩ := stVB X1 hx hZ e1 f2_V_a1 ⟨by decide, by decide⟩ 2 rfl (Nat.le_of_ble_eq_true rfl) (g := (mkF m 47 #[.val (.ref a1), .val (.int (1 : Int32)), .val (.int p3)] [(.int (((128 : Int32) + (p3 % (64 : Int32))).toInt8.toInt32)), (.int (2 : Int32)), (.ref a1)])) rfl rfl (hb hby d1_47)
  refine GoW.st st3 ?_
  have f4_V_a1 : Arv Z h3 a1 ka .byte (8 : Int32) [(.int u0), (.int (nar .byte (((192 : Int32) + (p3 / (64 : Int32))).toInt8.toInt32))), (.int (nar .byte (((128 : Int32) + (p3 % (64 : Int32))).toInt8.toInt32))), (.int u3), (.int u4), (.int u5), (.int u6), (.int u7)] (.int (0 : Int32)) := V3
  have K3 : Keep h0 h3 [a1] := K1.wr W3 (Or.inl (List.mem_of_getElem? (i := 0) rfl))
  have N3 := Fr.snoc X3 N1 pre_g_a1
  show GoW p e below QQ (T3.setTop (mkF m 48 #[.val (.ref a1), .val (.int (1 : Int32)), .val (.int p3)] []))
  refine GoW.st (fun t k => XS.goto X3.here hx rfl (pc0 := 48) (pc' := 165) rfl (hb hby d1_48) (by decide) (by decide) k) ?_
  show GoW p e below QQ (T3.setTop (mkF m 165 #[.val (.ref a1), .val (.int (1 : Int32)), .val (.int p3)] []))
  exact GoW.fin X3 none (fun _ => rfl) hlk hQ e3 ⟨rfl, N3, K3, f4_V_a1⟩ (by decide) (by decide) (fun fs hr => X3.returnOut hx hret (hb hby d1_165) hr)
def RM2_12 : Room := { frames := 0, cells := 0, slots := 0, locals := 0 }
def Q2_12 (Z : State) (a1 : Addr) (ka : ClassId) (u0 : Int32) (u1 : Int32) (u2 : Int32) (u3 : Int32) (u4 : Int32) (u5 : Int32) (u6 : Int32) (u7 : Int32) (h0 : Heap) (n0 : Nat) (v : Option Value) (h : Heap) (L : List Loc) : Prop := v = some (.int ((((u1 &&& (255 : Int32)) &&& (31 : Int32)) <<< ((6 : Int32) &&& 31)) ||| (u2 &&& (63 : Int32)))) ∧ Fr n0 L ∧ h = h0
set_option maxRecDepth 65536 in
set_option maxHeartbeats 40000000 in
theorem rm2_12 (l : Launch) (Z : State) (a0 : Array Value) (hw : ∀ d ∈ tables_1, d.before a0 Z = true) (ws : List Jvm.Cond) (a1 : Addr) (ka : ClassId) (u0 : Int32) (u1 : Int32) (u2 : Int32) (u3 : Int32) (u4 : Int32) (u5 : Int32) (u6 : Int32) (u7 : Int32) (h0 : Heap) (n0 : Nat) (Z0 : n0 ≤ h0.size) (pre_V_a1 : Arv Z h0 a1 ka .byte (8 : Int32) [(.int u0), (.int u1), (.int u2), (.int u3), (.int u4), (.int u5), (.int u6), (.int u7)] (.int (0 : Int32))) (g1_2 : ¬ (u1 &&& (255 : Int32)) < (128 : Int32)) (g2_2 : (u1 &&& (255 : Int32)) < (224 : Int32)) :
    MetFree l (⟨"com/example/terseform/terseform/Utf8", "codePointAt", "([BI)I"⟩ : MethodName) (head1 (Jvm.Cond.code (⟨"com/example/terseform/terseform/Utf8", "codePointAt", "([BI)I"⟩ : MethodName) prog_36_method_9_code 4 (some .int) :: ws) RM2_12) (fun a U => a = #[(.ref a1), (.int (1 : Int32))] ∧ Z.Warmed39 U.vm ∧ U.heap = h0) (fun _ _ _ _ _ => True) (fun _ U o U' => ∃ v L, o = .returned v ∧ Q2_12 Z a1 ka u0 u1 u2 u3 u4 u5 u6 u7 h0 n0 v U'.heap L ∧ FrameEnd U o U' L RM2_12.cells RM2_12.slots) := by
  refine met_of (Q := fun v h L => Q2_12 Z a1 ka u0 u1 u2 u3 u4 u5 u6 u7 h0 n0 v h L) (plainFor_of_name pn_1) (fun m => by first | (simp [entryFrame, mkF, argsToLocals, Value.category]; done) | rfl) (Ls := #[.val (.ref a1), .val (.int (1 : Int32)), .unset, .unset]) ?_
  intro p e s m below meth c T0 QQ hx hZ hby hml hown hnm hret hlk X0 e0 hQ
  have hml : c.maxLocals = 4 := hml
  have hown : s.vm.findClass "com/example/terseform/terseform/Utf8" = some m.cls := hown
  have hnm : meth.name = "codePointAt" := hnm
  have hret : meth.sig.returnType = some .int := hret
  have N0 := Fr.nil n0
  have K0 : Keep h0 h0 [] := Keep.refl h0 _
  show GoW p e below QQ (T0.setTop (mkF m 0 #[.val (.ref a1), .val (.int (1 : Int32)), .unset, .unset] []))
  refine GoW.st (fun t k => XS.aloadN X0.here hx rfl (hb hby d2_0) rfl rfl (XS.iloadN X0.here hx rfl (hb hby d2_1) rfl (ldVB X0 hx hZ e0 pre_V_a1 (v := (.int u1)) ⟨by decide, by decide⟩ rfl (g := (mkF m 2 #[.val (.ref a1), .val (.int (1 : Int32)), .unset, .unset] [(.int (1 : Int32)), (.ref a1)])) rfl rfl (hb hby d2_2) t (XS.sipush X0.here hx rfl (hb hby d2_3) (XS.iand X0.here hx rfl (hb hby d2_6) rfl (XS.istoreN X0.here hx rfl (hb hby d2_7) rfl (l' := #[.val (.ref a1), .val (.int (1 : Int32)), .val (.int (u1 &&& (255 : Int32))), .unset]) rfl k)))))) ?_
  show GoW p e below QQ (T0.setTop (mkF m 8 #[.val (.ref a1), .val (.int (1 : Int32)), .val (.int (u1 &&& (255 : Int32))), .unset] []))
  generalize hv7 : (u1 &&& (255 : Int32)) = v7
  refine GoW.st (fun t k => XS.iloadN X0.here hx rfl (hb hby d2_8) rfl (XS.sipush X0.here hx rfl (hb hby d2_9) k)) ?_
  show GoW p e below QQ (T0.setTop (mkF m 12 #[.val (.ref a1), .val (.int (1 : Int32)), .val (.int v7), .unset] [(.int (128 : Int32)), (.int v7)]))
  have hc12 : ¬ (v7 < (128 : Int32)) := by
    subst hv7
    exact g1_2
  refine GoW.st (fun t k => XS.icmpYes X0.here hx rfl (pc0 := 12) (pc' := 20) rfl (hb hby d2_12) rfl (flt hc12).2.1 (by decide) (by decide) (XS.iloadN X0.here hx rfl (hb hby d2_20) rfl (XS.sipush X0.here hx rfl (hb hby d2_21) k))) ?_
  show GoW p e below QQ (T0.setTop (mkF m 24 #[.val (.ref a1), .val (.int (1 : Int32)), .val (.int v7), .unset] [(.int (224 : Int32)), (.int v7)]))
  have hc24 : v7 < (224 : Int32) := by
    subst hv7
    exact g2_2
  refine GoW.st (fun t k => XS.icmpNo X0.here hx rfl (hb hby d2_24) rfl (tlt hc24).2.1 (XS.iloadN X0.here hx rfl (hb hby d2_27) rfl (XS.bipush X0.here hx rfl (hb hby d2_28) (XS.iand X0.here hx rfl (hb hby d2_30) rfl (XS.bipush X0.here hx rfl (hb hby d2_31) (XS.ishl X0.here hx rfl (hb hby d2_33) rfl k)))))) ?_
  show GoW p e below QQ (T0.setTop (mkF m 34 #[.val (.ref a1), .val (.int (1 : Int32)), .val (.int v7), .unset] [(.int ((v7 &&& (31 : Int32)) <<< ((6 : Int32) &&& 31)))]))
  refine GoW.st (fun t k => XS.aloadN X0.here hx rfl (hb hby d2_34) rfl rfl (XS.iloadN X0.here hx rfl (hb hby d2_35) rfl (XS.iconst X0.here hx rfl (hb hby d2_36) (XS.iadd X0.here hx rfl (hb hby d2_37) rfl (ldVB X0 hx hZ e0 pre_V_a1 (v := (.int u2)) ⟨by decide, by decide⟩ rfl (g := (mkF m 38 #[.val (.ref a1), .val (.int (1 : Int32)), .val (.int v7), .unset] [(.int (2 : Int32)), (.ref a1), (.int ((v7 &&& (31 : Int32)) <<< ((6 : Int32) &&& 31)))])) rfl rfl (hb hby d2_38) t (XS.bipush X0.here hx rfl (hb hby d2_39) k)))))) ?_
  show GoW p e below QQ (T0.setTop (mkF m 41 #[.val (.ref a1), .val (.int (1 : Int32)), .val (.int v7), .unset] [(.int (63 : Int32)), (.int u2), (.int ((v7 &&& (31 : Int32)) <<< ((6 : Int32) &&& 31)))]))
  refine GoW.st (fun t k => XS.iand X0.here hx rfl (hb hby d2_41) rfl (XS.ior X0.here hx rfl (hb hby d2_42) rfl (XS.istoreN X0.here hx rfl (hb hby d2_43) rfl (l' := #[.val (.ref a1), .val (.int (1 : Int32)), .val (.int v7), .val (.int (((v7 &&& (31 : Int32)) <<< ((6 : Int32) &&& 31)) ||| (u2 &&& (63 : Int32))))]) rfl k))) ?_
  show GoW p e below QQ (T0.setTop (mkF m 44 #[.val (.ref a1), .val (.int (1 : Int32)), .val (.int v7), .val (.int (((v7 &&& (31 : Int32)) <<< ((6 : Int32) &&& 31)) ||| (u2 &&& (63 : Int32))))] []))
  generalize hv43 : (((v7 &&& (31 : Int32)) <<< ((6 : Int32) &&& 31)) ||| (u2 &&& (63 : Int32))) = v43
  refine GoW.st (fun t k => XS.goto X0.here hx rfl (pc0 := 44) (pc' := 127) rfl (hb hby d2_44) (by decide) (by decide) (XS.iloadN X0.here hx rfl (hb hby d2_127) rfl k)) ?_
  show GoW p e below QQ (T0.setTop (mkF m 128 #[.val (.ref a1), .val (.int (1 : Int32)), .val (.int v7), .val (.int v43)] [(.int v43)]))
  have rv : ((some (.int v43)) : Option Value) = some (.int ((((u1 &&& (255 : Int32)) &&& (31 : Int32)) <<< ((6 : Int32) &&& 31)) ||| (u2 &&& (63 : Int32)))) := by
    subst_vars
    rfl
  exact GoW.fin X0 (some (.int v43)) (fun q => by rw [hret] at q; cases q) hlk hQ e0 ⟨rv, N0, rfl⟩ (by decide) (by decide) (fun fs hr => retI X0 hx hret (hb hby d2_128) hr)
def RM1_22 : Room := { frames := 0, cells := 0, slots := 0, locals := 0 }
def Q1_22 (Z : State) (a1 : Addr) (ka : ClassId) (p3 : Int32) (u0 : Int32) (u1 : Int32) (u2 : Int32) (u3 : Int32) (u4 : Int32) (u5 : Int32) (u6 : Int32) (u7 : Int32) (h0 : Heap) (n0 : Nat) (v : Option Value) (h : Heap) (L : List Loc) : Prop := v = none ∧ Fr n0 L ∧ Keep h0 h [a1] ∧ (Arv Z h a1 ka .byte (8 : Int32) [(.int u0), (.int u1), (.int (nar .byte (((192 : Int32) + (p3 / (64 : Int32))).toInt8.toInt32))), (.int (nar .byte (((128 : Int32) + (p3 % (64 : Int32))).toInt8.toInt32))), (.int u4), (.int u5), (.int u6), (.int u7)] (.int (0 : Int32)))
set_option maxRecDepth 65536 in
set_option maxHeartbeats 40000000 in
theorem rm1_22 (l : Launch) (Z : State) (a0 : Array Value) (hw : ∀ d ∈ tables_1, d.before a0 Z = true) (ws : List Jvm.Cond) (a1 : Addr) (ka : ClassId) (p3 : Int32) (u0 : Int32) (u1 : Int32) (u2 : Int32) (u3 : Int32) (u4 : Int32) (u5 : Int32) (u6 : Int32) (u7 : Int32) (h0 : Heap) (n0 : Nat) (Z0 : n0 ≤ h0.size) (pre_V_a1 : Arv Z h0 a1 ka .byte (8 : Int32) [(.int u0), (.int u1), (.int u2), (.int u3), (.int u4), (.int u5), (.int u6), (.int u7)] (.int (0 : Int32))) (pre_g_a1 : n0 ≤ a1) (hk1 : ¬ p3 < (128 : Int32)) (hk2 : p3 < (2048 : Int32)) :
    MetFree l (⟨"com/example/terseform/terseform/Utf8CodePointAtPinLaw", "put", "([BII)V"⟩ : MethodName) (head1 (Jvm.Cond.code (⟨"com/example/terseform/terseform/Utf8CodePointAtPinLaw", "put", "([BII)V"⟩ : MethodName) method_3_code 3 none :: ws) RM1_22) (fun a U => a = #[(.ref a1), (.int (2 : Int32)), (.int p3)] ∧ Z.Warmed39 U.vm ∧ U.heap = h0) (fun _ _ _ _ _ => True) (fun _ U o U' => ∃ v L, o = .returned v ∧ Q1_22 Z a1 ka p3 u0 u1 u2 u3 u4 u5 u6 u7 h0 n0 v U'.heap L ∧ FrameEnd U o U' L RM1_22.cells RM1_22.slots) := by
  refine met_of (Q := fun v h L => Q1_22 Z a1 ka p3 u0 u1 u2 u3 u4 u5 u6 u7 h0 n0 v h L) (plainFor_of_name pn_0) (fun m => by first | (simp [entryFrame, mkF, argsToLocals, Value.category]; done) | rfl) (Ls := #[.val (.ref a1), .val (.int (2 : Int32)), .val (.int p3)]) ?_
  intro p e s m below meth c T0 QQ hx hZ hby hml hown hnm hret hlk X0 e0 hQ
  have hml : c.maxLocals = 3 := hml
  have hown : s.vm.findClass "com/example/terseform/terseform/Utf8CodePointAtPinLaw" = some m.cls := hown
  have hnm : meth.name = "put" := hnm
  have hret : meth.sig.returnType = none := hret
  have N0 := Fr.nil n0
  have K0 : Keep h0 h0 [a1] := Keep.refl h0 _
  show GoW p e below QQ (T0.setTop (mkF m 0 #[.val (.ref a1), .val (.int (2 : Int32)), .val (.int p3)] []))
  refine GoW.st (fun t k => XS.iloadN X0.here hx rfl (hb hby d1_0) rfl (XS.sipush X0.here hx rfl (hb hby d1_1) k)) ?_
  show GoW p e below QQ (T0.setTop (mkF m 4 #[.val (.ref a1), .val (.int (2 : Int32)), .val (.int p3)] [(.int (128 : Int32)), (.int p3)]))
  have hc4 : ¬ (p3 < (128 : Int32)) := by
    exact hk1
  refine GoW.st (fun t k => XS.icmpYes X0.here hx rfl (pc0 := 4) (pc' := 15) rfl (hb hby d1_4) rfl (flt hc4).2.1 (by decide) (by decide) (XS.iloadN X0.here hx rfl (hb hby d1_15) rfl (XS.sipush X0.here hx rfl (hb hby d1_16) k))) ?_
  show GoW p e below QQ (T0.setTop (mkF m 19 #[.val (.ref a1), .val (.int (2 : Int32)), .val (.int p3)] [(.int (2048 : Int32)), (.int p3)]))
  have hc19 : p3 < (2048 : Int32) := by
    exact hk2
  refine GoW.st (fun t k => XS.icmpNo X0.here hx rfl (hb hby d1_19) rfl (tlt hc19).2.1 (XS.aloadN X0.here hx rfl (hb hby d1_22) rfl rfl (XS.iloadN X0.here hx rfl (hb hby d1_23) rfl (XS.sipush X0.here hx rfl (hb hby d1_24) (XS.iloadN X0.here hx rfl (hb hby d1_27) rfl (XS.bipush X0.here hx rfl (hb hby d1_28) k)))))) ?_
  show GoW p e below QQ (T0.setTop (mkF m 30 #[.val (.ref a1), .val (.int (2 : Int32)), .val (.int p3)] [(.int (64 : Int32)), (.int p3), (.int (192 : Int32)), (.int (2 : Int32)), (.ref a1)]))
  refine GoW.st (fun t k => XS.idiv X0.here hx rfl (hb hby d1_30) rfl (by decide) (XS.iadd X0.here hx rfl (hb hby d1_31) rfl (XS.i2b X0.here hx rfl (hb hby d1_32) rfl k))) ?_
  show GoW p e below QQ (T0.setTop (mkF m 33 #[.val (.ref a1), .val (.int (2 : Int32)), .val (.int p3)] [(.int (((192 : Int32) + (p3 / (64 : Int32))).toInt8.toInt32)), (.int (2 : Int32)), (.ref a1)]))
  obtain ⟨T1, h1, X1, e1, W1, V1, st1⟩ := stVB X0 hx hZ e0 pre_V_a1 ⟨by decide, by decide⟩ 2 rfl (Nat.le_of_ble_eq_true rfl) (g := (mkF m 33 #[.val (.ref a1), .val (.int (2 : Int32)), .val (.int p3)] [(.int (((192 : Int32) + (p3 / (64 : Int32))).toInt8.toInt32)), (.int (2 : Int32)), (.ref a1)])) rfl rfl (hb hby d1_33)
  refine GoW.st st1 ?_
  have f2_V_a1 : Arv Z h1 a1 ka .byte (8 : Int32) [(.int u0), (.int u1), (.int (nar .byte (((192 : Int32) + (p3 / (64 : Int32))).toInt8.toInt32))), (.int u3), (.int u4), (.int u5), (.int u6), (.int u7)] (.int (0 : Int32)) := V1
  have K1 : Keep h0 h1 [a1] := K0.wr W1 (Or.inl (List.mem_of_getElem? (i := 0) rfl))
  have N1 := Fr.snoc X1 N0 pre_g_a1
  show GoW p e below QQ (T1.setTop (mkF m 34 #[.val (.ref a1), .val (.int (2 : Int32)), .val (.int p3)] []))
  refine GoW.st (fun t k => XS.aloadN X1.here hx rfl (hb hby d1_34) rfl rfl (XS.iloadN X1.here hx rfl (hb hby d1_35) rfl (XS.iconst X1.here hx rfl (hb hby d1_36) (XS.iadd X1.here hx rfl (hb hby d1_37) rfl (XS.sipush X1.here hx rfl (hb hby d1_38) (XS.iloadN X1.here hx rfl (hb hby d1_41) rfl k)))))) ?_
  show GoW p e below QQ (T1.setTop (mkF m 42 #[.val (.ref a1), .val (.int (2 : Int32)), .val (.int p3)] [(.int p3), (.int (128 : Int32)), (.int (3 : Int32)), (.ref a1)]))
  refine GoW.st (fun t k => XS.bipush X1.here hx rfl (hb hby d1_42) (iremM X1 hx rfl (hb hby d1_44) rfl (by decide) (XS.iadd X1.here hx rfl (hb hby d1_45) rfl (XS.i2b X1.here hx rfl (hb hby d1_46) rfl k)))) ?_
  show GoW p e below QQ (T1.setTop (mkF m 47 #[.val (.ref a1), .val (.int (2 : Int32)), .val (.int p3)] [(.int (((128 : Int32) + (p3 % (64 : Int32))).toInt8.toInt32)), (.int (3 : Int32)), (.ref a1)]))
  obtain ⟨T3, h3, X3, e3, W3, V3, st3⟩ := stVB X1 hx hZ e1 f2_V_a1 ⟨by decide, by decide⟩ 3 rfl (Nat.le_of_ble_eq_true rfl) (g := (mkF m 47 #[.val (.ref a1), .val (.int (2 : Int32)), .val (.int p3)] [(.int (((128 : Int32) + (p3 % (64 : Int32))).toInt8.toInt32)), (.int (3 : Int32)), (.ref a1)])) rfl rfl (hb hby d1_47)
  refine GoW.st st3 ?_
  have f4_V_a1 : Arv Z h3 a1 ka .byte (8 : Int32) [(.int u0), (.int u1), (.int (nar .byte (((192 : Int32) + (p3 / (64 : Int32))).toInt8.toInt32))), (.int (nar .byte (((128 : Int32) + (p3 % (64 : Int32))).toInt8.toInt32))), (.int u4), (.int u5), (.int u6), (.int u7)] (.int (0 : Int32)) := V3
  have K3 : Keep h0 h3 [a1] := K1.wr W3 (Or.inl (List.mem_of_getElem? (i := 0) rfl))
  have N3 := Fr.snoc X3 N1 pre_g_a1
  show GoW p e below QQ (T3.setTop (mkF m 48 #[.val (.ref a1), .val (.int (2 : Int32)), .val (.int p3)] []))
  refine GoW.st (fun t k => XS.goto X3.here hx rfl (pc0 := 48) (pc' := 165) rfl (hb hby d1_48) (by decide) (by decide) k) ?_
  show GoW p e below QQ (T3.setTop (mkF m 165 #[.val (.ref a1), .val (.int (2 : Int32)), .val (.int p3)] []))
  exact GoW.fin X3 none (fun _ => rfl) hlk hQ e3 ⟨rfl, N3, K3, f4_V_a1⟩ (by decide) (by decide) (fun fs hr => X3.returnOut hx hret (hb hby d1_165) hr)
def RM2_22 : Room := { frames := 0, cells := 0, slots := 0, locals := 0 }
def Q2_22 (Z : State) (a1 : Addr) (ka : ClassId) (u0 : Int32) (u1 : Int32) (u2 : Int32) (u3 : Int32) (u4 : Int32) (u5 : Int32) (u6 : Int32) (u7 : Int32) (h0 : Heap) (n0 : Nat) (v : Option Value) (h : Heap) (L : List Loc) : Prop := v = some (.int ((((u2 &&& (255 : Int32)) &&& (31 : Int32)) <<< ((6 : Int32) &&& 31)) ||| (u3 &&& (63 : Int32)))) ∧ Fr n0 L ∧ h = h0
set_option maxRecDepth 65536 in
set_option maxHeartbeats 40000000 in
theorem rm2_22 (l : Launch) (Z : State) (a0 : Array Value) (hw : ∀ d ∈ tables_1, d.before a0 Z = true) (ws : List Jvm.Cond) (a1 : Addr) (ka : ClassId) (u0 : Int32) (u1 : Int32) (u2 : Int32) (u3 : Int32) (u4 : Int32) (u5 : Int32) (u6 : Int32) (u7 : Int32) (h0 : Heap) (n0 : Nat) (Z0 : n0 ≤ h0.size) (pre_V_a1 : Arv Z h0 a1 ka .byte (8 : Int32) [(.int u0), (.int u1), (.int u2), (.int u3), (.int u4), (.int u5), (.int u6), (.int u7)] (.int (0 : Int32))) (g1_2 : ¬ (u2 &&& (255 : Int32)) < (128 : Int32)) (g2_2 : (u2 &&& (255 : Int32)) < (224 : Int32)) :
    MetFree l (⟨"com/example/terseform/terseform/Utf8", "codePointAt", "([BI)I"⟩ : MethodName) (head1 (Jvm.Cond.code (⟨"com/example/terseform/terseform/Utf8", "codePointAt", "([BI)I"⟩ : MethodName) prog_36_method_9_code 4 (some .int) :: ws) RM2_22) (fun a U => a = #[(.ref a1), (.int (2 : Int32))] ∧ Z.Warmed39 U.vm ∧ U.heap = h0) (fun _ _ _ _ _ => True) (fun _ U o U' => ∃ v L, o = .returned v ∧ Q2_22 Z a1 ka u0 u1 u2 u3 u4 u5 u6 u7 h0 n0 v U'.heap L ∧ FrameEnd U o U' L RM2_22.cells RM2_22.slots) := by
  refine met_of (Q := fun v h L => Q2_22 Z a1 ka u0 u1 u2 u3 u4 u5 u6 u7 h0 n0 v h L) (plainFor_of_name pn_1) (fun m => by first | (simp [entryFrame, mkF, argsToLocals, Value.category]; done) | rfl) (Ls := #[.val (.ref a1), .val (.int (2 : Int32)), .unset, .unset]) ?_
  intro p e s m below meth c T0 QQ hx hZ hby hml hown hnm hret hlk X0 e0 hQ
  have hml : c.maxLocals = 4 := hml
  have hown : s.vm.findClass "com/example/terseform/terseform/Utf8" = some m.cls := hown
  have hnm : meth.name = "codePointAt" := hnm
  have hret : meth.sig.returnType = some .int := hret
  have N0 := Fr.nil n0
  have K0 : Keep h0 h0 [] := Keep.refl h0 _
  show GoW p e below QQ (T0.setTop (mkF m 0 #[.val (.ref a1), .val (.int (2 : Int32)), .unset, .unset] []))
  refine GoW.st (fun t k => XS.aloadN X0.here hx rfl (hb hby d2_0) rfl rfl (XS.iloadN X0.here hx rfl (hb hby d2_1) rfl (ldVB X0 hx hZ e0 pre_V_a1 (v := (.int u2)) ⟨by decide, by decide⟩ rfl (g := (mkF m 2 #[.val (.ref a1), .val (.int (2 : Int32)), .unset, .unset] [(.int (2 : Int32)), (.ref a1)])) rfl rfl (hb hby d2_2) t (XS.sipush X0.here hx rfl (hb hby d2_3) (XS.iand X0.here hx rfl (hb hby d2_6) rfl (XS.istoreN X0.here hx rfl (hb hby d2_7) rfl (l' := #[.val (.ref a1), .val (.int (2 : Int32)), .val (.int (u2 &&& (255 : Int32))), .unset]) rfl k)))))) ?_
  show GoW p e below QQ (T0.setTop (mkF m 8 #[.val (.ref a1), .val (.int (2 : Int32)), .val (.int (u2 &&& (255 : Int32))), .unset] []))
  generalize hv7 : (u2 &&& (255 : Int32)) = v7
  refine GoW.st (fun t k => XS.iloadN X0.here hx rfl (hb hby d2_8) rfl (XS.sipush X0.here hx rfl (hb hby d2_9) k)) ?_
  show GoW p e below QQ (T0.setTop (mkF m 12 #[.val (.ref a1), .val (.int (2 : Int32)), .val (.int v7), .unset] [(.int (128 : Int32)), (.int v7)]))
  have hc12 : ¬ (v7 < (128 : Int32)) := by
    subst hv7
    exact g1_2
  refine GoW.st (fun t k => XS.icmpYes X0.here hx rfl (pc0 := 12) (pc' := 20) rfl (hb hby d2_12) rfl (flt hc12).2.1 (by decide) (by decide) (XS.iloadN X0.here hx rfl (hb hby d2_20) rfl (XS.sipush X0.here hx rfl (hb hby d2_21) k))) ?_
  show GoW p e below QQ (T0.setTop (mkF m 24 #[.val (.ref a1), .val (.int (2 : Int32)), .val (.int v7), .unset] [(.int (224 : Int32)), (.int v7)]))
  have hc24 : v7 < (224 : Int32) := by
    subst hv7
    exact g2_2
  refine GoW.st (fun t k => XS.icmpNo X0.here hx rfl (hb hby d2_24) rfl (tlt hc24).2.1 (XS.iloadN X0.here hx rfl (hb hby d2_27) rfl (XS.bipush X0.here hx rfl (hb hby d2_28) (XS.iand X0.here hx rfl (hb hby d2_30) rfl (XS.bipush X0.here hx rfl (hb hby d2_31) (XS.ishl X0.here hx rfl (hb hby d2_33) rfl k)))))) ?_
  show GoW p e below QQ (T0.setTop (mkF m 34 #[.val (.ref a1), .val (.int (2 : Int32)), .val (.int v7), .unset] [(.int ((v7 &&& (31 : Int32)) <<< ((6 : Int32) &&& 31)))]))
  refine GoW.st (fun t k => XS.aloadN X0.here hx rfl (hb hby d2_34) rfl rfl (XS.iloadN X0.here hx rfl (hb hby d2_35) rfl (XS.iconst X0.here hx rfl (hb hby d2_36) (XS.iadd X0.here hx rfl (hb hby d2_37) rfl (ldVB X0 hx hZ e0 pre_V_a1 (v := (.int u3)) ⟨by decide, by decide⟩ rfl (g := (mkF m 38 #[.val (.ref a1), .val (.int (2 : Int32)), .val (.int v7), .unset] [(.int (3 : Int32)), (.ref a1), (.int ((v7 &&& (31 : Int32)) <<< ((6 : Int32) &&& 31)))])) rfl rfl (hb hby d2_38) t (XS.bipush X0.here hx rfl (hb hby d2_39) k)))))) ?_
  show GoW p e below QQ (T0.setTop (mkF m 41 #[.val (.ref a1), .val (.int (2 : Int32)), .val (.int v7), .unset] [(.int (63 : Int32)), (.int u3), (.int ((v7 &&& (31 : Int32)) <<< ((6 : Int32) &&& 31)))]))
  refine GoW.st (fun t k => XS.iand X0.here hx rfl (hb hby d2_41) rfl (XS.ior X0.here hx rfl (hb hby d2_42) rfl (XS.istoreN X0.here hx rfl (hb hby d2_43) rfl (l' := #[.val (.ref a1), .val (.int (2 : Int32)), .val (.int v7), .val (.int (((v7 &&& (31 : Int32)) <<< ((6 : Int32) &&& 31)) ||| (u3 &&& (63 : Int32))))]) rfl k))) ?_
  show GoW p e below QQ (T0.setTop (mkF m 44 #[.val (.ref a1), .val (.int (2 : Int32)), .val (.int v7), .val (.int (((v7 &&& (31 : Int32)) <<< ((6 : Int32) &&& 31)) ||| (u3 &&& (63 : Int32))))] []))
  generalize hv43 : (((v7 &&& (31 : Int32)) <<< ((6 : Int32) &&& 31)) ||| (u3 &&& (63 : Int32))) = v43
  refine GoW.st (fun t k => XS.goto X0.here hx rfl (pc0 := 44) (pc' := 127) rfl (hb hby d2_44) (by decide) (by decide) (XS.iloadN X0.here hx rfl (hb hby d2_127) rfl k)) ?_
  show GoW p e below QQ (T0.setTop (mkF m 128 #[.val (.ref a1), .val (.int (2 : Int32)), .val (.int v7), .val (.int v43)] [(.int v43)]))
  have rv : ((some (.int v43)) : Option Value) = some (.int ((((u2 &&& (255 : Int32)) &&& (31 : Int32)) <<< ((6 : Int32) &&& 31)) ||| (u3 &&& (63 : Int32)))) := by
    subst_vars
    rfl
  exact GoW.fin X0 (some (.int v43)) (fun q => by rw [hret] at q; cases q) hlk hQ e0 ⟨rv, N0, rfl⟩ (by decide) (by decide) (fun fs hr => retI X0 hx hret (hb hby d2_128) hr)
def RM1_32 : Room := { frames := 0, cells := 0, slots := 0, locals := 0 }
def Q1_32 (Z : State) (a1 : Addr) (ka : ClassId) (p3 : Int32) (u0 : Int32) (u1 : Int32) (u2 : Int32) (u3 : Int32) (u4 : Int32) (u5 : Int32) (u6 : Int32) (u7 : Int32) (h0 : Heap) (n0 : Nat) (v : Option Value) (h : Heap) (L : List Loc) : Prop := v = none ∧ Fr n0 L ∧ Keep h0 h [a1] ∧ (Arv Z h a1 ka .byte (8 : Int32) [(.int u0), (.int u1), (.int u2), (.int (nar .byte (((192 : Int32) + (p3 / (64 : Int32))).toInt8.toInt32))), (.int (nar .byte (((128 : Int32) + (p3 % (64 : Int32))).toInt8.toInt32))), (.int u5), (.int u6), (.int u7)] (.int (0 : Int32)))
set_option maxRecDepth 65536 in
set_option maxHeartbeats 40000000 in
theorem rm1_32 (l : Launch) (Z : State) (a0 : Array Value) (hw : ∀ d ∈ tables_1, d.before a0 Z = true) (ws : List Jvm.Cond) (a1 : Addr) (ka : ClassId) (p3 : Int32) (u0 : Int32) (u1 : Int32) (u2 : Int32) (u3 : Int32) (u4 : Int32) (u5 : Int32) (u6 : Int32) (u7 : Int32) (h0 : Heap) (n0 : Nat) (Z0 : n0 ≤ h0.size) (pre_V_a1 : Arv Z h0 a1 ka .byte (8 : Int32) [(.int u0), (.int u1), (.int u2), (.int u3), (.int u4), (.int u5), (.int u6), (.int u7)] (.int (0 : Int32))) (pre_g_a1 : n0 ≤ a1) (hk1 : ¬ p3 < (128 : Int32)) (hk2 : p3 < (2048 : Int32)) :
    MetFree l (⟨"com/example/terseform/terseform/Utf8CodePointAtPinLaw", "put", "([BII)V"⟩ : MethodName) (head1 (Jvm.Cond.code (⟨"com/example/terseform/terseform/Utf8CodePointAtPinLaw", "put", "([BII)V"⟩ : MethodName) method_3_code 3 none :: ws) RM1_32) (fun a U => a = #[(.ref a1), (.int (3 : Int32)), (.int p3)] ∧ Z.Warmed39 U.vm ∧ U.heap = h0) (fun _ _ _ _ _ => True) (fun _ U o U' => ∃ v L, o = .returned v ∧ Q1_32 Z a1 ka p3 u0 u1 u2 u3 u4 u5 u6 u7 h0 n0 v U'.heap L ∧ FrameEnd U o U' L RM1_32.cells RM1_32.slots) := by
  refine met_of (Q := fun v h L => Q1_32 Z a1 ka p3 u0 u1 u2 u3 u4 u5 u6 u7 h0 n0 v h L) (plainFor_of_name pn_0) (fun m => by first | (simp [entryFrame, mkF, argsToLocals, Value.category]; done) | rfl) (Ls := #[.val (.ref a1), .val (.int (3 : Int32)), .val (.int p3)]) ?_
  intro p e s m below meth c T0 QQ hx hZ hby hml hown hnm hret hlk X0 e0 hQ
  have hml : c.maxLocals = 3 := hml
  have hown : s.vm.findClass "com/example/terseform/terseform/Utf8CodePointAtPinLaw" = some m.cls := hown
  have hnm : meth.name = "put" := hnm
  have hret : meth.sig.returnType = none := hret
  have N0 := Fr.nil n0
  have K0 : Keep h0 h0 [a1] := Keep.refl h0 _
  show GoW p e below QQ (T0.setTop (mkF m 0 #[.val (.ref a1), .val (.int (3 : Int32)), .val (.int p3)] []))
  refine GoW.st (fun t k => XS.iloadN X0.here hx rfl (hb hby d1_0) rfl (XS.sipush X0.here hx rfl (hb hby d1_1) k)) ?_
  show GoW p e below QQ (T0.setTop (mkF m 4 #[.val (.ref a1), .val (.int (3 : Int32)), .val (.int p3)] [(.int (128 : Int32)), (.int p3)]))
  have hc4 : ¬ (p3 < (128 : Int32)) := by
    exact hk1
  refine GoW.st (fun t k => XS.icmpYes X0.here hx rfl (pc0 := 4) (pc' := 15) rfl (hb hby d1_4) rfl (flt hc4).2.1 (by decide) (by decide) (XS.iloadN X0.here hx rfl (hb hby d1_15) rfl (XS.sipush X0.here hx rfl (hb hby d1_16) k))) ?_
  show GoW p e below QQ (T0.setTop (mkF m 19 #[.val (.ref a1), .val (.int (3 : Int32)), .val (.int p3)] [(.int (2048 : Int32)), (.int p3)]))
  have hc19 : p3 < (2048 : Int32) := by
    exact hk2
  refine GoW.st (fun t k => XS.icmpNo X0.here hx rfl (hb hby d1_19) rfl (tlt hc19).2.1 (XS.aloadN X0.here hx rfl (hb hby d1_22) rfl rfl (XS.iloadN X0.here hx rfl (hb hby d1_23) rfl (XS.sipush X0.here hx rfl (hb hby d1_24) (XS.iloadN X0.here hx rfl (hb hby d1_27) rfl (XS.bipush X0.here hx rfl (hb hby d1_28) k)))))) ?_
  show GoW p e below QQ (T0.setTop (mkF m 30 #[.val (.ref a1), .val (.int (3 : Int32)), .val (.int p3)] [(.int (64 : Int32)), (.int p3), (.int (192 : Int32)), (.int (3 : Int32)), (.ref a1)]))
  refine GoW.st (fun t k => XS.idiv X0.here hx rfl (hb hby d1_30) rfl (by decide) (XS.iadd X0.here hx rfl (hb hby d1_31) rfl (XS.i2b X0.here hx rfl (hb hby d1_32) rfl k))) ?_
  show GoW p e below QQ (T0.setTop (mkF m 33 #[.val (.ref a1), .val (.int (3 : Int32)), .val (.int p3)] [(.int (((192 : Int32) + (p3 / (64 : Int32))).toInt8.toInt32)), (.int (3 : Int32)), (.ref a1)]))
  obtain ⟨T1, h1, X1, e1, W1, V1, st1⟩ := stVB X0 hx hZ e0 pre_V_a1 ⟨by decide, by decide⟩ 3 rfl (Nat.le_of_ble_eq_true rfl) (g := (mkF m 33 #[.val (.ref a1), .val (.int (3 : Int32)), .val (.int p3)] [(.int (((192 : Int32) + (p3 / (64 : Int32))).toInt8.toInt32)), (.int (3 : Int32)), (.ref a1)])) rfl rfl (hb hby d1_33)
  refine GoW.st st1 ?_
  have f2_V_a1 : Arv Z h1 a1 ka .byte (8 : Int32) [(.int u0), (.int u1), (.int u2), (.int (nar .byte (((192 : Int32) + (p3 / (64 : Int32))).toInt8.toInt32))), (.int u4), (.int u5), (.int u6), (.int u7)] (.int (0 : Int32)) := V1
  have K1 : Keep h0 h1 [a1] := K0.wr W1 (Or.inl (List.mem_of_getElem? (i := 0) rfl))
  have N1 := Fr.snoc X1 N0 pre_g_a1
  show GoW p e below QQ (T1.setTop (mkF m 34 #[.val (.ref a1), .val (.int (3 : Int32)), .val (.int p3)] []))
  refine GoW.st (fun t k => XS.aloadN X1.here hx rfl (hb hby d1_34) rfl rfl (XS.iloadN X1.here hx rfl (hb hby d1_35) rfl (XS.iconst X1.here hx rfl (hb hby d1_36) (XS.iadd X1.here hx rfl (hb hby d1_37) rfl (XS.sipush X1.here hx rfl (hb hby d1_38) (XS.iloadN X1.here hx rfl (hb hby d1_41) rfl k)))))) ?_
  show GoW p e below QQ (T1.setTop (mkF m 42 #[.val (.ref a1), .val (.int (3 : Int32)), .val (.int p3)] [(.int p3), (.int (128 : Int32)), (.int (4 : Int32)), (.ref a1)]))
  refine GoW.st (fun t k => XS.bipush X1.here hx rfl (hb hby d1_42) (iremM X1 hx rfl (hb hby d1_44) rfl (by decide) (XS.iadd X1.here hx rfl (hb hby d1_45) rfl (XS.i2b X1.here hx rfl (hb hby d1_46) rfl k)))) ?_
  show GoW p e below QQ (T1.setTop (mkF m 47 #[.val (.ref a1), .val (.int (3 : Int32)), .val (.int p3)] [(.int (((128 : Int32) + (p3 % (64 : Int32))).toInt8.toInt32)), (.int (4 : Int32)), (.ref a1)]))
  obtain ⟨T3, h3, X3, e3, W3, V3, st3⟩ := stVB X1 hx hZ e1 f2_V_a1 ⟨by decide, by decide⟩ 4 rfl (Nat.le_of_ble_eq_true rfl) (g := (mkF m 47 #[.val (.ref a1), .val (.int (3 : Int32)), .val (.int p3)] [(.int (((128 : Int32) + (p3 % (64 : Int32))).toInt8.toInt32)), (.int (4 : Int32)), (.ref a1)])) rfl rfl (hb hby d1_47)
  refine GoW.st st3 ?_
  have f4_V_a1 : Arv Z h3 a1 ka .byte (8 : Int32) [(.int u0), (.int u1), (.int u2), (.int (nar .byte (((192 : Int32) + (p3 / (64 : Int32))).toInt8.toInt32))), (.int (nar .byte (((128 : Int32) + (p3 % (64 : Int32))).toInt8.toInt32))), (.int u5), (.int u6), (.int u7)] (.int (0 : Int32)) := V3
  have K3 : Keep h0 h3 [a1] := K1.wr W3 (Or.inl (List.mem_of_getElem? (i := 0) rfl))
  have N3 := Fr.snoc X3 N1 pre_g_a1
  show GoW p e below QQ (T3.setTop (mkF m 48 #[.val (.ref a1), .val (.int (3 : Int32)), .val (.int p3)] []))
  refine GoW.st (fun t k => XS.goto X3.here hx rfl (pc0 := 48) (pc' := 165) rfl (hb hby d1_48) (by decide) (by decide) k) ?_
  show GoW p e below QQ (T3.setTop (mkF m 165 #[.val (.ref a1), .val (.int (3 : Int32)), .val (.int p3)] []))
  exact GoW.fin X3 none (fun _ => rfl) hlk hQ e3 ⟨rfl, N3, K3, f4_V_a1⟩ (by decide) (by decide) (fun fs hr => X3.returnOut hx hret (hb hby d1_165) hr)
def RM2_32 : Room := { frames := 0, cells := 0, slots := 0, locals := 0 }
def Q2_32 (Z : State) (a1 : Addr) (ka : ClassId) (u0 : Int32) (u1 : Int32) (u2 : Int32) (u3 : Int32) (u4 : Int32) (u5 : Int32) (u6 : Int32) (u7 : Int32) (h0 : Heap) (n0 : Nat) (v : Option Value) (h : Heap) (L : List Loc) : Prop := v = some (.int ((((u3 &&& (255 : Int32)) &&& (31 : Int32)) <<< ((6 : Int32) &&& 31)) ||| (u4 &&& (63 : Int32)))) ∧ Fr n0 L ∧ h = h0
set_option maxRecDepth 65536 in
set_option maxHeartbeats 40000000 in
theorem rm2_32 (l : Launch) (Z : State) (a0 : Array Value) (hw : ∀ d ∈ tables_1, d.before a0 Z = true) (ws : List Jvm.Cond) (a1 : Addr) (ka : ClassId) (u0 : Int32) (u1 : Int32) (u2 : Int32) (u3 : Int32) (u4 : Int32) (u5 : Int32) (u6 : Int32) (u7 : Int32) (h0 : Heap) (n0 : Nat) (Z0 : n0 ≤ h0.size) (pre_V_a1 : Arv Z h0 a1 ka .byte (8 : Int32) [(.int u0), (.int u1), (.int u2), (.int u3), (.int u4), (.int u5), (.int u6), (.int u7)] (.int (0 : Int32))) (g1_2 : ¬ (u3 &&& (255 : Int32)) < (128 : Int32)) (g2_2 : (u3 &&& (255 : Int32)) < (224 : Int32)) :
    MetFree l (⟨"com/example/terseform/terseform/Utf8", "codePointAt", "([BI)I"⟩ : MethodName) (head1 (Jvm.Cond.code (⟨"com/example/terseform/terseform/Utf8", "codePointAt", "([BI)I"⟩ : MethodName) prog_36_method_9_code 4 (some .int) :: ws) RM2_32) (fun a U => a = #[(.ref a1), (.int (3 : Int32))] ∧ Z.Warmed39 U.vm ∧ U.heap = h0) (fun _ _ _ _ _ => True) (fun _ U o U' => ∃ v L, o = .returned v ∧ Q2_32 Z a1 ka u0 u1 u2 u3 u4 u5 u6 u7 h0 n0 v U'.heap L ∧ FrameEnd U o U' L RM2_32.cells RM2_32.slots) := by
  refine met_of (Q := fun v h L => Q2_32 Z a1 ka u0 u1 u2 u3 u4 u5 u6 u7 h0 n0 v h L) (plainFor_of_name pn_1) (fun m => by first | (simp [entryFrame, mkF, argsToLocals, Value.category]; done) | rfl) (Ls := #[.val (.ref a1), .val (.int (3 : Int32)), .unset, .unset]) ?_
  intro p e s m below meth c T0 QQ hx hZ hby hml hown hnm hret hlk X0 e0 hQ
  have hml : c.maxLocals = 4 := hml
  have hown : s.vm.findClass "com/example/terseform/terseform/Utf8" = some m.cls := hown
  have hnm : meth.name = "codePointAt" := hnm
  have hret : meth.sig.returnType = some .int := hret
  have N0 := Fr.nil n0
  have K0 : Keep h0 h0 [] := Keep.refl h0 _
  show GoW p e below QQ (T0.setTop (mkF m 0 #[.val (.ref a1), .val (.int (3 : Int32)), .unset, .unset] []))
  refine GoW.st (fun t k => XS.aloadN X0.here hx rfl (hb hby d2_0) rfl rfl (XS.iloadN X0.here hx rfl (hb hby d2_1) rfl (ldVB X0 hx hZ e0 pre_V_a1 (v := (.int u3)) ⟨by decide, by decide⟩ rfl (g := (mkF m 2 #[.val (.ref a1), .val (.int (3 : Int32)), .unset, .unset] [(.int (3 : Int32)), (.ref a1)])) rfl rfl (hb hby d2_2) t (XS.sipush X0.here hx rfl (hb hby d2_3) (XS.iand X0.here hx rfl (hb hby d2_6) rfl (XS.istoreN X0.here hx rfl (hb hby d2_7) rfl (l' := #[.val (.ref a1), .val (.int (3 : Int32)), .val (.int (u3 &&& (255 : Int32))), .unset]) rfl k)))))) ?_
  show GoW p e below QQ (T0.setTop (mkF m 8 #[.val (.ref a1), .val (.int (3 : Int32)), .val (.int (u3 &&& (255 : Int32))), .unset] []))
  generalize hv7 : (u3 &&& (255 : Int32)) = v7
  refine GoW.st (fun t k => XS.iloadN X0.here hx rfl (hb hby d2_8) rfl (XS.sipush X0.here hx rfl (hb hby d2_9) k)) ?_
  show GoW p e below QQ (T0.setTop (mkF m 12 #[.val (.ref a1), .val (.int (3 : Int32)), .val (.int v7), .unset] [(.int (128 : Int32)), (.int v7)]))
  have hc12 : ¬ (v7 < (128 : Int32)) := by
    subst hv7
    exact g1_2
  refine GoW.st (fun t k => XS.icmpYes X0.here hx rfl (pc0 := 12) (pc' := 20) rfl (hb hby d2_12) rfl (flt hc12).2.1 (by decide) (by decide) (XS.iloadN X0.here hx rfl (hb hby d2_20) rfl (XS.sipush X0.here hx rfl (hb hby d2_21) k))) ?_
  show GoW p e below QQ (T0.setTop (mkF m 24 #[.val (.ref a1), .val (.int (3 : Int32)), .val (.int v7), .unset] [(.int (224 : Int32)), (.int v7)]))
  have hc24 : v7 < (224 : Int32) := by
    subst hv7
    exact g2_2
  refine GoW.st (fun t k => XS.icmpNo X0.here hx rfl (hb hby d2_24) rfl (tlt hc24).2.1 (XS.iloadN X0.here hx rfl (hb hby d2_27) rfl (XS.bipush X0.here hx rfl (hb hby d2_28) (XS.iand X0.here hx rfl (hb hby d2_30) rfl (XS.bipush X0.here hx rfl (hb hby d2_31) (XS.ishl X0.here hx rfl (hb hby d2_33) rfl k)))))) ?_
  show GoW p e below QQ (T0.setTop (mkF m 34 #[.val (.ref a1), .val (.int (3 : Int32)), .val (.int v7), .unset] [(.int ((v7 &&& (31 : Int32)) <<< ((6 : Int32) &&& 31)))]))
  refine GoW.st (fun t k => XS.aloadN X0.here hx rfl (hb hby d2_34) rfl rfl (XS.iloadN X0.here hx rfl (hb hby d2_35) rfl (XS.iconst X0.here hx rfl (hb hby d2_36) (XS.iadd X0.here hx rfl (hb hby d2_37) rfl (ldVB X0 hx hZ e0 pre_V_a1 (v := (.int u4)) ⟨by decide, by decide⟩ rfl (g := (mkF m 38 #[.val (.ref a1), .val (.int (3 : Int32)), .val (.int v7), .unset] [(.int (4 : Int32)), (.ref a1), (.int ((v7 &&& (31 : Int32)) <<< ((6 : Int32) &&& 31)))])) rfl rfl (hb hby d2_38) t (XS.bipush X0.here hx rfl (hb hby d2_39) k)))))) ?_
  show GoW p e below QQ (T0.setTop (mkF m 41 #[.val (.ref a1), .val (.int (3 : Int32)), .val (.int v7), .unset] [(.int (63 : Int32)), (.int u4), (.int ((v7 &&& (31 : Int32)) <<< ((6 : Int32) &&& 31)))]))
  refine GoW.st (fun t k => XS.iand X0.here hx rfl (hb hby d2_41) rfl (XS.ior X0.here hx rfl (hb hby d2_42) rfl (XS.istoreN X0.here hx rfl (hb hby d2_43) rfl (l' := #[.val (.ref a1), .val (.int (3 : Int32)), .val (.int v7), .val (.int (((v7 &&& (31 : Int32)) <<< ((6 : Int32) &&& 31)) ||| (u4 &&& (63 : Int32))))]) rfl k))) ?_
  show GoW p e below QQ (T0.setTop (mkF m 44 #[.val (.ref a1), .val (.int (3 : Int32)), .val (.int v7), .val (.int (((v7 &&& (31 : Int32)) <<< ((6 : Int32) &&& 31)) ||| (u4 &&& (63 : Int32))))] []))
  generalize hv43 : (((v7 &&& (31 : Int32)) <<< ((6 : Int32) &&& 31)) ||| (u4 &&& (63 : Int32))) = v43
  refine GoW.st (fun t k => XS.goto X0.here hx rfl (pc0 := 44) (pc' := 127) rfl (hb hby d2_44) (by decide) (by decide) (XS.iloadN X0.here hx rfl (hb hby d2_127) rfl k)) ?_
  show GoW p e below QQ (T0.setTop (mkF m 128 #[.val (.ref a1), .val (.int (3 : Int32)), .val (.int v7), .val (.int v43)] [(.int v43)]))
  have rv : ((some (.int v43)) : Option Value) = some (.int ((((u3 &&& (255 : Int32)) &&& (31 : Int32)) <<< ((6 : Int32) &&& 31)) ||| (u4 &&& (63 : Int32)))) := by
    subst_vars
    rfl
  exact GoW.fin X0 (some (.int v43)) (fun q => by rw [hret] at q; cases q) hlk hQ e0 ⟨rv, N0, rfl⟩ (by decide) (by decide) (fun fs hr => retI X0 hx hret (hb hby d2_128) hr)
theorem d1_51 : decode method_3_code 51 = .ok (.iload_n 2, 1) := by decide +kernel
theorem d1_52 : decode method_3_code 52 = .ok (.ldc 9, 2) := by decide +kernel
theorem d1_54 : decode method_3_code 54 = .ok (.if_icmp .ge 50, 3) := by decide +kernel
theorem d1_57 : decode method_3_code 57 = .ok (.aload_n 0, 1) := by decide +kernel
theorem d1_58 : decode method_3_code 58 = .ok (.iload_n 1, 1) := by decide +kernel
theorem d1_59 : decode method_3_code 59 = .ok (.sipush 224, 3) := by decide +kernel
theorem d1_62 : decode method_3_code 62 = .ok (.iload_n 2, 1) := by decide +kernel
theorem d1_63 : decode method_3_code 63 = .ok (.sipush 4096, 3) := by decide +kernel
theorem d1_66 : decode method_3_code 66 = .ok (.idiv, 1) := by decide +kernel
theorem d1_67 : decode method_3_code 67 = .ok (.iadd, 1) := by decide +kernel
theorem d1_68 : decode method_3_code 68 = .ok (.i2b, 1) := by decide +kernel
theorem d1_69 : decode method_3_code 69 = .ok (.bastore, 1) := by decide +kernel
theorem d1_70 : decode method_3_code 70 = .ok (.aload_n 0, 1) := by decide +kernel
theorem d1_71 : decode method_3_code 71 = .ok (.iload_n 1, 1) := by decide +kernel
theorem d1_72 : decode method_3_code 72 = .ok (.iconst 1, 1) := by decide +kernel
theorem d1_73 : decode method_3_code 73 = .ok (.iadd, 1) := by decide +kernel
theorem d1_74 : decode method_3_code 74 = .ok (.sipush 128, 3) := by decide +kernel
theorem d1_77 : decode method_3_code 77 = .ok (.iload_n 2, 1) := by decide +kernel
theorem d1_78 : decode method_3_code 78 = .ok (.bipush 64, 2) := by decide +kernel
theorem d1_80 : decode method_3_code 80 = .ok (.idiv, 1) := by decide +kernel
theorem d1_81 : decode method_3_code 81 = .ok (.bipush 64, 2) := by decide +kernel
theorem d1_83 : decode method_3_code 83 = .ok (.irem, 1) := by decide +kernel
theorem d1_84 : decode method_3_code 84 = .ok (.iadd, 1) := by decide +kernel
theorem d1_85 : decode method_3_code 85 = .ok (.i2b, 1) := by decide +kernel
theorem d1_86 : decode method_3_code 86 = .ok (.bastore, 1) := by decide +kernel
theorem d1_87 : decode method_3_code 87 = .ok (.aload_n 0, 1) := by decide +kernel
theorem d1_88 : decode method_3_code 88 = .ok (.iload_n 1, 1) := by decide +kernel
theorem d1_89 : decode method_3_code 89 = .ok (.iconst 2, 1) := by decide +kernel
theorem d1_90 : decode method_3_code 90 = .ok (.iadd, 1) := by decide +kernel
theorem d1_91 : decode method_3_code 91 = .ok (.sipush 128, 3) := by decide +kernel
theorem d1_94 : decode method_3_code 94 = .ok (.iload_n 2, 1) := by decide +kernel
theorem d1_95 : decode method_3_code 95 = .ok (.bipush 64, 2) := by decide +kernel
theorem d1_97 : decode method_3_code 97 = .ok (.irem, 1) := by decide +kernel
theorem d1_98 : decode method_3_code 98 = .ok (.iadd, 1) := by decide +kernel
theorem d1_99 : decode method_3_code 99 = .ok (.i2b, 1) := by decide +kernel
theorem d1_100 : decode method_3_code 100 = .ok (.bastore, 1) := by decide +kernel
theorem d1_101 : decode method_3_code 101 = .ok (.goto 64, 3) := by decide +kernel
def RM1_03 : Room := { frames := 0, cells := 0, slots := 0, locals := 0 }
def Q1_03 (Z : State) (a1 : Addr) (ka : ClassId) (p3 : Int32) (u0 : Int32) (u1 : Int32) (u2 : Int32) (u3 : Int32) (u4 : Int32) (u5 : Int32) (u6 : Int32) (u7 : Int32) (h0 : Heap) (n0 : Nat) (v : Option Value) (h : Heap) (L : List Loc) : Prop := v = none ∧ Fr n0 L ∧ Keep h0 h [a1] ∧ (Arv Z h a1 ka .byte (8 : Int32) [(.int (nar .byte (((224 : Int32) + (p3 / (4096 : Int32))).toInt8.toInt32))), (.int (nar .byte (((128 : Int32) + ((p3 / (64 : Int32)) % (64 : Int32))).toInt8.toInt32))), (.int (nar .byte (((128 : Int32) + (p3 % (64 : Int32))).toInt8.toInt32))), (.int u3), (.int u4), (.int u5), (.int u6), (.int u7)] (.int (0 : Int32)))
set_option maxRecDepth 65536 in
set_option maxHeartbeats 40000000 in
theorem rm1_03 (l : Launch) (Z : State) (a0 : Array Value) (hw : ∀ d ∈ tables_1, d.before a0 Z = true) (ws : List Jvm.Cond) (a1 : Addr) (ka : ClassId) (p3 : Int32) (u0 : Int32) (u1 : Int32) (u2 : Int32) (u3 : Int32) (u4 : Int32) (u5 : Int32) (u6 : Int32) (u7 : Int32) (h0 : Heap) (n0 : Nat) (Z0 : n0 ≤ h0.size) (pre_V_a1 : Arv Z h0 a1 ka .byte (8 : Int32) [(.int u0), (.int u1), (.int u2), (.int u3), (.int u4), (.int u5), (.int u6), (.int u7)] (.int (0 : Int32))) (pre_g_a1 : n0 ≤ a1) (hk1 : ¬ p3 < (128 : Int32)) (hk2 : ¬ p3 < (2048 : Int32)) (hk3 : p3 < (65536 : Int32)) :
    MetFree l (⟨"com/example/terseform/terseform/Utf8CodePointAtPinLaw", "put", "([BII)V"⟩ : MethodName) (head1 (Jvm.Cond.code (⟨"com/example/terseform/terseform/Utf8CodePointAtPinLaw", "put", "([BII)V"⟩ : MethodName) method_3_code 3 none :: ws) RM1_03) (fun a U => a = #[(.ref a1), (.int (0 : Int32)), (.int p3)] ∧ Z.Warmed39 U.vm ∧ U.heap = h0) (fun _ _ _ _ _ => True) (fun _ U o U' => ∃ v L, o = .returned v ∧ Q1_03 Z a1 ka p3 u0 u1 u2 u3 u4 u5 u6 u7 h0 n0 v U'.heap L ∧ FrameEnd U o U' L RM1_03.cells RM1_03.slots) := by
  refine met_of (Q := fun v h L => Q1_03 Z a1 ka p3 u0 u1 u2 u3 u4 u5 u6 u7 h0 n0 v h L) (plainFor_of_name pn_0) (fun m => by first | (simp [entryFrame, mkF, argsToLocals, Value.category]; done) | rfl) (Ls := #[.val (.ref a1), .val (.int (0 : Int32)), .val (.int p3)]) ?_
  intro p e s m below meth c T0 QQ hx hZ hby hml hown hnm hret hlk X0 e0 hQ
  have hml : c.maxLocals = 3 := hml
  have hown : s.vm.findClass "com/example/terseform/terseform/Utf8CodePointAtPinLaw" = some m.cls := hown
  have hnm : meth.name = "put" := hnm
  have hret : meth.sig.returnType = none := hret
  have N0 := Fr.nil n0
  have K0 : Keep h0 h0 [a1] := Keep.refl h0 _
  show GoW p e below QQ (T0.setTop (mkF m 0 #[.val (.ref a1), .val (.int (0 : Int32)), .val (.int p3)] []))
  refine GoW.st (fun t k => XS.iloadN X0.here hx rfl (hb hby d1_0) rfl (XS.sipush X0.here hx rfl (hb hby d1_1) k)) ?_
  show GoW p e below QQ (T0.setTop (mkF m 4 #[.val (.ref a1), .val (.int (0 : Int32)), .val (.int p3)] [(.int (128 : Int32)), (.int p3)]))
  have hc4 : ¬ (p3 < (128 : Int32)) := by
    exact hk1
  refine GoW.st (fun t k => XS.icmpYes X0.here hx rfl (pc0 := 4) (pc' := 15) rfl (hb hby d1_4) rfl (flt hc4).2.1 (by decide) (by decide) (XS.iloadN X0.here hx rfl (hb hby d1_15) rfl (XS.sipush X0.here hx rfl (hb hby d1_16) k))) ?_
  show GoW p e below QQ (T0.setTop (mkF m 19 #[.val (.ref a1), .val (.int (0 : Int32)), .val (.int p3)] [(.int (2048 : Int32)), (.int p3)]))
  have hc19 : ¬ (p3 < (2048 : Int32)) := by
    exact hk2
  refine GoW.st (fun t k => XS.icmpYes X0.here hx rfl (pc0 := 19) (pc' := 51) rfl (hb hby d1_19) rfl (flt hc19).2.1 (by decide) (by decide) (XS.iloadN X0.here hx rfl (hb hby d1_51) rfl (X0.ldcInt hx hown (mvT hZ (hw _ (List.mem_of_getElem? (i := 1) rfl))) (g := (mkF m 52 #[.val (.ref a1), .val (.int (0 : Int32)), .val (.int p3)] [(.int p3)])) rfl (hb hby d1_52) t k))) ?_
  show GoW p e below QQ (T0.setTop (mkF m 54 #[.val (.ref a1), .val (.int (0 : Int32)), .val (.int p3)] [(.int (65536 : Int32)), (.int p3)]))
  have hc54 : p3 < (65536 : Int32) := by
    exact hk3
  refine GoW.st (fun t k => XS.icmpNo X0.here hx rfl (hb hby d1_54) rfl (tlt hc54).2.1 (XS.aloadN X0.here hx rfl (hb hby d1_57) rfl rfl (XS.iloadN X0.here hx rfl (hb hby d1_58) rfl (XS.sipush X0.here hx rfl (hb hby d1_59) (XS.iloadN X0.here hx rfl (hb hby d1_62) rfl (XS.sipush X0.here hx rfl (hb hby d1_63) k)))))) ?_
  show GoW p e below QQ (T0.setTop (mkF m 66 #[.val (.ref a1), .val (.int (0 : Int32)), .val (.int p3)] [(.int (4096 : Int32)), (.int p3), (.int (224 : Int32)), (.int (0 : Int32)), (.ref a1)]))
  refine GoW.st (fun t k => XS.idiv X0.here hx rfl (hb hby d1_66) rfl (by decide) (XS.iadd X0.here hx rfl (hb hby d1_67) rfl (XS.i2b X0.here hx rfl (hb hby d1_68) rfl k))) ?_
  show GoW p e below QQ (T0.setTop (mkF m 69 #[.val (.ref a1), .val (.int (0 : Int32)), .val (.int p3)] [(.int (((224 : Int32) + (p3 / (4096 : Int32))).toInt8.toInt32)), (.int (0 : Int32)), (.ref a1)]))
  obtain ⟨T1, h1, X1, e1, W1, V1, st1⟩ := stVB X0 hx hZ e0 pre_V_a1 ⟨by decide, by decide⟩ 0 rfl (Nat.le_of_ble_eq_true rfl) (g := (mkF m 69 #[.val (.ref a1), .val (.int (0 : Int32)), .val (.int p3)] [(.int (((224 : Int32) + (p3 / (4096 : Int32))).toInt8.toInt32)), (.int (0 : Int32)), (.ref a1)])) rfl rfl (hb hby d1_69)
  refine GoW.st st1 ?_
  have f2_V_a1 : Arv Z h1 a1 ka .byte (8 : Int32) [(.int (nar .byte (((224 : Int32) + (p3 / (4096 : Int32))).toInt8.toInt32))), (.int u1), (.int u2), (.int u3), (.int u4), (.int u5), (.int u6), (.int u7)] (.int (0 : Int32)) := V1
  have K1 : Keep h0 h1 [a1] := K0.wr W1 (Or.inl (List.mem_of_getElem? (i := 0) rfl))
  have N1 := Fr.snoc X1 N0 pre_g_a1
  show GoW p e below QQ (T1.setTop (mkF m 70 #[.val (.ref a1), .val (.int (0 : Int32)), .val (.int p3)] []))
  refine GoW.st (fun t k => XS.aloadN X1.here hx rfl (hb hby d1_70) rfl rfl (XS.iloadN X1.here hx rfl (hb hby d1_71) rfl (XS.iconst X1.here hx rfl (hb hby d1_72) (XS.iadd X1.here hx rfl (hb hby d1_73) rfl (XS.sipush X1.here hx rfl (hb hby d1_74) (XS.iloadN X1.here hx rfl (hb hby d1_77) rfl k)))))) ?_
  show GoW p e below QQ (T1.setTop (mkF m 78 #[.val (.ref a1), .val (.int (0 : Int32)), .val (.int p3)] [(.int p3), (.int (128 : Int32)), (.int (1 : Int32)), (.ref a1)]))
  refine GoW.st (fun t k => XS.bipush X1.here hx rfl (hb hby d1_78) (XS.idiv X1.here hx rfl (hb hby d1_80) rfl (by decide) (XS.bipush X1.here hx rfl (hb hby d1_81) (iremM X1 hx rfl (hb hby d1_83) rfl (by decide) (XS.iadd X1.here hx rfl (hb hby d1_84) rfl (XS.i2b X1.here hx rfl (hb hby d1_85) rfl k)))))) ?_
  show GoW p e below QQ (T1.setTop (mkF m 86 #[.val (.ref a1), .val (.int (0 : Int32)), .val (.int p3)] [(.int (((128 : Int32) + ((p3 / (64 : Int32)) % (64 : Int32))).toInt8.toInt32)), (.int (1 : Int32)), (.ref a1)]))
  obtain ⟨T3, h3, X3, e3, W3, V3, st3⟩ := stVB X1 hx hZ e1 f2_V_a1 ⟨by decide, by decide⟩ 1 rfl (Nat.le_of_ble_eq_true rfl) (g := (mkF m 86 #[.val (.ref a1), .val (.int (0 : Int32)), .val (.int p3)] [(.int (((128 : Int32) + ((p3 / (64 : Int32)) % (64 : Int32))).toInt8.toInt32)), (.int (1 : Int32)), (.ref a1)])) rfl rfl (hb hby d1_86)
  refine GoW.st st3 ?_
  have f4_V_a1 : Arv Z h3 a1 ka .byte (8 : Int32) [(.int (nar .byte (((224 : Int32) + (p3 / (4096 : Int32))).toInt8.toInt32))), (.int (nar .byte (((128 : Int32) + ((p3 / (64 : Int32)) % (64 : Int32))).toInt8.toInt32))), (.int u2), (.int u3), (.int u4), (.int u5), (.int u6), (.int u7)] (.int (0 : Int32)) := V3
  have K3 : Keep h0 h3 [a1] := K1.wr W3 (Or.inl (List.mem_of_getElem? (i := 0) rfl))
  have N3 := Fr.snoc X3 N1 pre_g_a1
  show GoW p e below QQ (T3.setTop (mkF m 87 #[.val (.ref a1), .val (.int (0 : Int32)), .val (.int p3)] []))
  refine GoW.st (fun t k => XS.aloadN X3.here hx rfl (hb hby d1_87) rfl rfl (XS.iloadN X3.here hx rfl (hb hby d1_88) rfl (XS.iconst X3.here hx rfl (hb hby d1_89) (XS.iadd X3.here hx rfl (hb hby d1_90) rfl (XS.sipush X3.here hx rfl (hb hby d1_91) (XS.iloadN X3.here hx rfl (hb hby d1_94) rfl k)))))) ?_
  show GoW p e below QQ (T3.setTop (mkF m 95 #[.val (.ref a1), .val (.int (0 : Int32)), .val (.int p3)] [(.int p3), (.int (128 : Int32)), (.int (2 : Int32)), (.ref a1)]))
  refine GoW.st (fun t k => XS.bipush X3.here hx rfl (hb hby d1_95) (iremM X3 hx rfl (hb hby d1_97) rfl (by decide) (XS.iadd X3.here hx rfl (hb hby d1_98) rfl (XS.i2b X3.here hx rfl (hb hby d1_99) rfl k)))) ?_
  show GoW p e below QQ (T3.setTop (mkF m 100 #[.val (.ref a1), .val (.int (0 : Int32)), .val (.int p3)] [(.int (((128 : Int32) + (p3 % (64 : Int32))).toInt8.toInt32)), (.int (2 : Int32)), (.ref a1)]))
  obtain ⟨T5, h5, X5, e5, W5, V5, st5⟩ := stVB X3 hx hZ e3 f4_V_a1 ⟨by decide, by decide⟩ 2 rfl (Nat.le_of_ble_eq_true rfl) (g := (mkF m 100 #[.val (.ref a1), .val (.int (0 : Int32)), .val (.int p3)] [(.int (((128 : Int32) + (p3 % (64 : Int32))).toInt8.toInt32)), (.int (2 : Int32)), (.ref a1)])) rfl rfl (hb hby d1_100)
  refine GoW.st st5 ?_
  have f6_V_a1 : Arv Z h5 a1 ka .byte (8 : Int32) [(.int (nar .byte (((224 : Int32) + (p3 / (4096 : Int32))).toInt8.toInt32))), (.int (nar .byte (((128 : Int32) + ((p3 / (64 : Int32)) % (64 : Int32))).toInt8.toInt32))), (.int (nar .byte (((128 : Int32) + (p3 % (64 : Int32))).toInt8.toInt32))), (.int u3), (.int u4), (.int u5), (.int u6), (.int u7)] (.int (0 : Int32)) := V5
  have K5 : Keep h0 h5 [a1] := K3.wr W5 (Or.inl (List.mem_of_getElem? (i := 0) rfl))
  have N5 := Fr.snoc X5 N3 pre_g_a1
  show GoW p e below QQ (T5.setTop (mkF m 101 #[.val (.ref a1), .val (.int (0 : Int32)), .val (.int p3)] []))
  refine GoW.st (fun t k => XS.goto X5.here hx rfl (pc0 := 101) (pc' := 165) rfl (hb hby d1_101) (by decide) (by decide) k) ?_
  show GoW p e below QQ (T5.setTop (mkF m 165 #[.val (.ref a1), .val (.int (0 : Int32)), .val (.int p3)] []))
  exact GoW.fin X5 none (fun _ => rfl) hlk hQ e5 ⟨rfl, N5, K5, f6_V_a1⟩ (by decide) (by decide) (fun fs hr => X5.returnOut hx hret (hb hby d1_165) hr)
theorem d2_47 : decode prog_36_method_9_code 47 = .ok (.iload_n 2, 1) := by decide +kernel
theorem d2_48 : decode prog_36_method_9_code 48 = .ok (.sipush 240, 3) := by decide +kernel
theorem d2_51 : decode prog_36_method_9_code 51 = .ok (.if_icmp .ge 35, 3) := by decide +kernel
theorem d2_54 : decode prog_36_method_9_code 54 = .ok (.iload_n 2, 1) := by decide +kernel
theorem d2_55 : decode prog_36_method_9_code 55 = .ok (.bipush 15, 2) := by decide +kernel
theorem d2_57 : decode prog_36_method_9_code 57 = .ok (.iand, 1) := by decide +kernel
theorem d2_58 : decode prog_36_method_9_code 58 = .ok (.bipush 12, 2) := by decide +kernel
theorem d2_60 : decode prog_36_method_9_code 60 = .ok (.ishl, 1) := by decide +kernel
theorem d2_61 : decode prog_36_method_9_code 61 = .ok (.aload_n 0, 1) := by decide +kernel
theorem d2_62 : decode prog_36_method_9_code 62 = .ok (.iload_n 1, 1) := by decide +kernel
theorem d2_63 : decode prog_36_method_9_code 63 = .ok (.iconst 1, 1) := by decide +kernel
theorem d2_64 : decode prog_36_method_9_code 64 = .ok (.iadd, 1) := by decide +kernel
theorem d2_65 : decode prog_36_method_9_code 65 = .ok (.baload, 1) := by decide +kernel
theorem d2_66 : decode prog_36_method_9_code 66 = .ok (.bipush 63, 2) := by decide +kernel
theorem d2_68 : decode prog_36_method_9_code 68 = .ok (.iand, 1) := by decide +kernel
theorem d2_69 : decode prog_36_method_9_code 69 = .ok (.bipush 6, 2) := by decide +kernel
theorem d2_71 : decode prog_36_method_9_code 71 = .ok (.ishl, 1) := by decide +kernel
theorem d2_72 : decode prog_36_method_9_code 72 = .ok (.ior, 1) := by decide +kernel
theorem d2_73 : decode prog_36_method_9_code 73 = .ok (.aload_n 0, 1) := by decide +kernel
theorem d2_74 : decode prog_36_method_9_code 74 = .ok (.iload_n 1, 1) := by decide +kernel
theorem d2_75 : decode prog_36_method_9_code 75 = .ok (.iconst 2, 1) := by decide +kernel
theorem d2_76 : decode prog_36_method_9_code 76 = .ok (.iadd, 1) := by decide +kernel
theorem d2_77 : decode prog_36_method_9_code 77 = .ok (.baload, 1) := by decide +kernel
theorem d2_78 : decode prog_36_method_9_code 78 = .ok (.bipush 63, 2) := by decide +kernel
theorem d2_80 : decode prog_36_method_9_code 80 = .ok (.iand, 1) := by decide +kernel
theorem d2_81 : decode prog_36_method_9_code 81 = .ok (.ior, 1) := by decide +kernel
theorem d2_82 : decode prog_36_method_9_code 82 = .ok (.istore_n 3, 1) := by decide +kernel
theorem d2_83 : decode prog_36_method_9_code 83 = .ok (.goto 44, 3) := by decide +kernel
def RM2_03 : Room := { frames := 0, cells := 0, slots := 0, locals := 0 }
def Q2_03 (Z : State) (a1 : Addr) (ka : ClassId) (u0 : Int32) (u1 : Int32) (u2 : Int32) (u3 : Int32) (u4 : Int32) (u5 : Int32) (u6 : Int32) (u7 : Int32) (h0 : Heap) (n0 : Nat) (v : Option Value) (h : Heap) (L : List Loc) : Prop := v = some (.int (((((u0 &&& (255 : Int32)) &&& (15 : Int32)) <<< ((12 : Int32) &&& 31)) ||| ((u1 &&& (63 : Int32)) <<< ((6 : Int32) &&& 31))) ||| (u2 &&& (63 : Int32)))) ∧ Fr n0 L ∧ h = h0
set_option maxRecDepth 65536 in
set_option maxHeartbeats 40000000 in
theorem rm2_03 (l : Launch) (Z : State) (a0 : Array Value) (hw : ∀ d ∈ tables_1, d.before a0 Z = true) (ws : List Jvm.Cond) (a1 : Addr) (ka : ClassId) (u0 : Int32) (u1 : Int32) (u2 : Int32) (u3 : Int32) (u4 : Int32) (u5 : Int32) (u6 : Int32) (u7 : Int32) (h0 : Heap) (n0 : Nat) (Z0 : n0 ≤ h0.size) (pre_V_a1 : Arv Z h0 a1 ka .byte (8 : Int32) [(.int u0), (.int u1), (.int u2), (.int u3), (.int u4), (.int u5), (.int u6), (.int u7)] (.int (0 : Int32))) (g1_3 : ¬ (u0 &&& (255 : Int32)) < (128 : Int32)) (g2_3 : ¬ (u0 &&& (255 : Int32)) < (224 : Int32)) (g3_3 : (u0 &&& (255 : Int32)) < (240 : Int32)) :
    MetFree l (⟨"com/example/terseform/terseform/Utf8", "codePointAt", "([BI)I"⟩ : MethodName) (head1 (Jvm.Cond.code (⟨"com/example/terseform/terseform/Utf8", "codePointAt", "([BI)I"⟩ : MethodName) prog_36_method_9_code 4 (some .int) :: ws) RM2_03) (fun a U => a = #[(.ref a1), (.int (0 : Int32))] ∧ Z.Warmed39 U.vm ∧ U.heap = h0) (fun _ _ _ _ _ => True) (fun _ U o U' => ∃ v L, o = .returned v ∧ Q2_03 Z a1 ka u0 u1 u2 u3 u4 u5 u6 u7 h0 n0 v U'.heap L ∧ FrameEnd U o U' L RM2_03.cells RM2_03.slots) := by
  refine met_of (Q := fun v h L => Q2_03 Z a1 ka u0 u1 u2 u3 u4 u5 u6 u7 h0 n0 v h L) (plainFor_of_name pn_1) (fun m => by first | (simp [entryFrame, mkF, argsToLocals, Value.category]; done) | rfl) (Ls := #[.val (.ref a1), .val (.int (0 : Int32)), .unset, .unset]) ?_
  intro p e s m below meth c T0 QQ hx hZ hby hml hown hnm hret hlk X0 e0 hQ
  have hml : c.maxLocals = 4 := hml
  have hown : s.vm.findClass "com/example/terseform/terseform/Utf8" = some m.cls := hown
  have hnm : meth.name = "codePointAt" := hnm
  have hret : meth.sig.returnType = some .int := hret
  have N0 := Fr.nil n0
  have K0 : Keep h0 h0 [] := Keep.refl h0 _
  show GoW p e below QQ (T0.setTop (mkF m 0 #[.val (.ref a1), .val (.int (0 : Int32)), .unset, .unset] []))
  refine GoW.st (fun t k => XS.aloadN X0.here hx rfl (hb hby d2_0) rfl rfl (XS.iloadN X0.here hx rfl (hb hby d2_1) rfl (ldVB X0 hx hZ e0 pre_V_a1 (v := (.int u0)) ⟨by decide, by decide⟩ rfl (g := (mkF m 2 #[.val (.ref a1), .val (.int (0 : Int32)), .unset, .unset] [(.int (0 : Int32)), (.ref a1)])) rfl rfl (hb hby d2_2) t (XS.sipush X0.here hx rfl (hb hby d2_3) (XS.iand X0.here hx rfl (hb hby d2_6) rfl (XS.istoreN X0.here hx rfl (hb hby d2_7) rfl (l' := #[.val (.ref a1), .val (.int (0 : Int32)), .val (.int (u0 &&& (255 : Int32))), .unset]) rfl k)))))) ?_
  show GoW p e below QQ (T0.setTop (mkF m 8 #[.val (.ref a1), .val (.int (0 : Int32)), .val (.int (u0 &&& (255 : Int32))), .unset] []))
  generalize hv7 : (u0 &&& (255 : Int32)) = v7
  refine GoW.st (fun t k => XS.iloadN X0.here hx rfl (hb hby d2_8) rfl (XS.sipush X0.here hx rfl (hb hby d2_9) k)) ?_
  show GoW p e below QQ (T0.setTop (mkF m 12 #[.val (.ref a1), .val (.int (0 : Int32)), .val (.int v7), .unset] [(.int (128 : Int32)), (.int v7)]))
  have hc12 : ¬ (v7 < (128 : Int32)) := by
    subst hv7
    exact g1_3
  refine GoW.st (fun t k => XS.icmpYes X0.here hx rfl (pc0 := 12) (pc' := 20) rfl (hb hby d2_12) rfl (flt hc12).2.1 (by decide) (by decide) (XS.iloadN X0.here hx rfl (hb hby d2_20) rfl (XS.sipush X0.here hx rfl (hb hby d2_21) k))) ?_
  show GoW p e below QQ (T0.setTop (mkF m 24 #[.val (.ref a1), .val (.int (0 : Int32)), .val (.int v7), .unset] [(.int (224 : Int32)), (.int v7)]))
  have hc24 : ¬ (v7 < (224 : Int32)) := by
    subst hv7
    exact g2_3
  refine GoW.st (fun t k => XS.icmpYes X0.here hx rfl (pc0 := 24) (pc' := 47) rfl (hb hby d2_24) rfl (flt hc24).2.1 (by decide) (by decide) (XS.iloadN X0.here hx rfl (hb hby d2_47) rfl (XS.sipush X0.here hx rfl (hb hby d2_48) k))) ?_
  show GoW p e below QQ (T0.setTop (mkF m 51 #[.val (.ref a1), .val (.int (0 : Int32)), .val (.int v7), .unset] [(.int (240 : Int32)), (.int v7)]))
  have hc51 : v7 < (240 : Int32) := by
    subst hv7
    exact g3_3
  refine GoW.st (fun t k => XS.icmpNo X0.here hx rfl (hb hby d2_51) rfl (tlt hc51).2.1 (XS.iloadN X0.here hx rfl (hb hby d2_54) rfl (XS.bipush X0.here hx rfl (hb hby d2_55) (XS.iand X0.here hx rfl (hb hby d2_57) rfl (XS.bipush X0.here hx rfl (hb hby d2_58) (XS.ishl X0.here hx rfl (hb hby d2_60) rfl k)))))) ?_
  show GoW p e below QQ (T0.setTop (mkF m 61 #[.val (.ref a1), .val (.int (0 : Int32)), .val (.int v7), .unset] [(.int ((v7 &&& (15 : Int32)) <<< ((12 : Int32) &&& 31)))]))
  refine GoW.st (fun t k => XS.aloadN X0.here hx rfl (hb hby d2_61) rfl rfl (XS.iloadN X0.here hx rfl (hb hby d2_62) rfl (XS.iconst X0.here hx rfl (hb hby d2_63) (XS.iadd X0.here hx rfl (hb hby d2_64) rfl (ldVB X0 hx hZ e0 pre_V_a1 (v := (.int u1)) ⟨by decide, by decide⟩ rfl (g := (mkF m 65 #[.val (.ref a1), .val (.int (0 : Int32)), .val (.int v7), .unset] [(.int (1 : Int32)), (.ref a1), (.int ((v7 &&& (15 : Int32)) <<< ((12 : Int32) &&& 31)))])) rfl rfl (hb hby d2_65) t (XS.bipush X0.here hx rfl (hb hby d2_66) k)))))) ?_
  show GoW p e below QQ (T0.setTop (mkF m 68 #[.val (.ref a1), .val (.int (0 : Int32)), .val (.int v7), .unset] [(.int (63 : Int32)), (.int u1), (.int ((v7 &&& (15 : Int32)) <<< ((12 : Int32) &&& 31)))]))
  refine GoW.st (fun t k => XS.iand X0.here hx rfl (hb hby d2_68) rfl (XS.bipush X0.here hx rfl (hb hby d2_69) (XS.ishl X0.here hx rfl (hb hby d2_71) rfl (XS.ior X0.here hx rfl (hb hby d2_72) rfl (XS.aloadN X0.here hx rfl (hb hby d2_73) rfl rfl (XS.iloadN X0.here hx rfl (hb hby d2_74) rfl k)))))) ?_
  show GoW p e below QQ (T0.setTop (mkF m 75 #[.val (.ref a1), .val (.int (0 : Int32)), .val (.int v7), .unset] [(.int (0 : Int32)), (.ref a1), (.int (((v7 &&& (15 : Int32)) <<< ((12 : Int32) &&& 31)) ||| ((u1 &&& (63 : Int32)) <<< ((6 : Int32) &&& 31))))]))
  refine GoW.st (fun t k => XS.iconst X0.here hx rfl (hb hby d2_75) (XS.iadd X0.here hx rfl (hb hby d2_76) rfl (ldVB X0 hx hZ e0 pre_V_a1 (v := (.int u2)) ⟨by decide, by decide⟩ rfl (g := (mkF m 77 #[.val (.ref a1), .val (.int (0 : Int32)), .val (.int v7), .unset] [(.int (2 : Int32)), (.ref a1), (.int (((v7 &&& (15 : Int32)) <<< ((12 : Int32) &&& 31)) ||| ((u1 &&& (63 : Int32)) <<< ((6 : Int32) &&& 31))))])) rfl rfl (hb hby d2_77) t (XS.bipush X0.here hx rfl (hb hby d2_78) (XS.iand X0.here hx rfl (hb hby d2_80) rfl (XS.ior X0.here hx rfl (hb hby d2_81) rfl k)))))) ?_
  show GoW p e below QQ (T0.setTop (mkF m 82 #[.val (.ref a1), .val (.int (0 : Int32)), .val (.int v7), .unset] [(.int ((((v7 &&& (15 : Int32)) <<< ((12 : Int32) &&& 31)) ||| ((u1 &&& (63 : Int32)) <<< ((6 : Int32) &&& 31))) ||| (u2 &&& (63 : Int32))))]))
  refine GoW.st (fun t k => XS.istoreN X0.here hx rfl (hb hby d2_82) rfl (l' := #[.val (.ref a1), .val (.int (0 : Int32)), .val (.int v7), .val (.int ((((v7 &&& (15 : Int32)) <<< ((12 : Int32) &&& 31)) ||| ((u1 &&& (63 : Int32)) <<< ((6 : Int32) &&& 31))) ||| (u2 &&& (63 : Int32))))]) rfl k) ?_
  show GoW p e below QQ (T0.setTop (mkF m 83 #[.val (.ref a1), .val (.int (0 : Int32)), .val (.int v7), .val (.int ((((v7 &&& (15 : Int32)) <<< ((12 : Int32) &&& 31)) ||| ((u1 &&& (63 : Int32)) <<< ((6 : Int32) &&& 31))) ||| (u2 &&& (63 : Int32))))] []))
  generalize hv82 : ((((v7 &&& (15 : Int32)) <<< ((12 : Int32) &&& 31)) ||| ((u1 &&& (63 : Int32)) <<< ((6 : Int32) &&& 31))) ||| (u2 &&& (63 : Int32))) = v82
  refine GoW.st (fun t k => XS.goto X0.here hx rfl (pc0 := 83) (pc' := 127) rfl (hb hby d2_83) (by decide) (by decide) (XS.iloadN X0.here hx rfl (hb hby d2_127) rfl k)) ?_
  show GoW p e below QQ (T0.setTop (mkF m 128 #[.val (.ref a1), .val (.int (0 : Int32)), .val (.int v7), .val (.int v82)] [(.int v82)]))
  have rv : ((some (.int v82)) : Option Value) = some (.int (((((u0 &&& (255 : Int32)) &&& (15 : Int32)) <<< ((12 : Int32) &&& 31)) ||| ((u1 &&& (63 : Int32)) <<< ((6 : Int32) &&& 31))) ||| (u2 &&& (63 : Int32)))) := by
    subst_vars
    rfl
  exact GoW.fin X0 (some (.int v82)) (fun q => by rw [hret] at q; cases q) hlk hQ e0 ⟨rv, N0, rfl⟩ (by decide) (by decide) (fun fs hr => retI X0 hx hret (hb hby d2_128) hr)
def RM1_13 : Room := { frames := 0, cells := 0, slots := 0, locals := 0 }
def Q1_13 (Z : State) (a1 : Addr) (ka : ClassId) (p3 : Int32) (u0 : Int32) (u1 : Int32) (u2 : Int32) (u3 : Int32) (u4 : Int32) (u5 : Int32) (u6 : Int32) (u7 : Int32) (h0 : Heap) (n0 : Nat) (v : Option Value) (h : Heap) (L : List Loc) : Prop := v = none ∧ Fr n0 L ∧ Keep h0 h [a1] ∧ (Arv Z h a1 ka .byte (8 : Int32) [(.int u0), (.int (nar .byte (((224 : Int32) + (p3 / (4096 : Int32))).toInt8.toInt32))), (.int (nar .byte (((128 : Int32) + ((p3 / (64 : Int32)) % (64 : Int32))).toInt8.toInt32))), (.int (nar .byte (((128 : Int32) + (p3 % (64 : Int32))).toInt8.toInt32))), (.int u4), (.int u5), (.int u6), (.int u7)] (.int (0 : Int32)))
set_option maxRecDepth 65536 in
set_option maxHeartbeats 40000000 in
theorem rm1_13 (l : Launch) (Z : State) (a0 : Array Value) (hw : ∀ d ∈ tables_1, d.before a0 Z = true) (ws : List Jvm.Cond) (a1 : Addr) (ka : ClassId) (p3 : Int32) (u0 : Int32) (u1 : Int32) (u2 : Int32) (u3 : Int32) (u4 : Int32) (u5 : Int32) (u6 : Int32) (u7 : Int32) (h0 : Heap) (n0 : Nat) (Z0 : n0 ≤ h0.size) (pre_V_a1 : Arv Z h0 a1 ka .byte (8 : Int32) [(.int u0), (.int u1), (.int u2), (.int u3), (.int u4), (.int u5), (.int u6), (.int u7)] (.int (0 : Int32))) (pre_g_a1 : n0 ≤ a1) (hk1 : ¬ p3 < (128 : Int32)) (hk2 : ¬ p3 < (2048 : Int32)) (hk3 : p3 < (65536 : Int32)) :
    MetFree l (⟨"com/example/terseform/terseform/Utf8CodePointAtPinLaw", "put", "([BII)V"⟩ : MethodName) (head1 (Jvm.Cond.code (⟨"com/example/terseform/terseform/Utf8CodePointAtPinLaw", "put", "([BII)V"⟩ : MethodName) method_3_code 3 none :: ws) RM1_13) (fun a U => a = #[(.ref a1), (.int (1 : Int32)), (.int p3)] ∧ Z.Warmed39 U.vm ∧ U.heap = h0) (fun _ _ _ _ _ => True) (fun _ U o U' => ∃ v L, o = .returned v ∧ Q1_13 Z a1 ka p3 u0 u1 u2 u3 u4 u5 u6 u7 h0 n0 v U'.heap L ∧ FrameEnd U o U' L RM1_13.cells RM1_13.slots) := by
  refine met_of (Q := fun v h L => Q1_13 Z a1 ka p3 u0 u1 u2 u3 u4 u5 u6 u7 h0 n0 v h L) (plainFor_of_name pn_0) (fun m => by first | (simp [entryFrame, mkF, argsToLocals, Value.category]; done) | rfl) (Ls := #[.val (.ref a1), .val (.int (1 : Int32)), .val (.int p3)]) ?_
  intro p e s m below meth c T0 QQ hx hZ hby hml hown hnm hret hlk X0 e0 hQ
  have hml : c.maxLocals = 3 := hml
  have hown : s.vm.findClass "com/example/terseform/terseform/Utf8CodePointAtPinLaw" = some m.cls := hown
  have hnm : meth.name = "put" := hnm
  have hret : meth.sig.returnType = none := hret
  have N0 := Fr.nil n0
  have K0 : Keep h0 h0 [a1] := Keep.refl h0 _
  show GoW p e below QQ (T0.setTop (mkF m 0 #[.val (.ref a1), .val (.int (1 : Int32)), .val (.int p3)] []))
  refine GoW.st (fun t k => XS.iloadN X0.here hx rfl (hb hby d1_0) rfl (XS.sipush X0.here hx rfl (hb hby d1_1) k)) ?_
  show GoW p e below QQ (T0.setTop (mkF m 4 #[.val (.ref a1), .val (.int (1 : Int32)), .val (.int p3)] [(.int (128 : Int32)), (.int p3)]))
  have hc4 : ¬ (p3 < (128 : Int32)) := by
    exact hk1
  refine GoW.st (fun t k => XS.icmpYes X0.here hx rfl (pc0 := 4) (pc' := 15) rfl (hb hby d1_4) rfl (flt hc4).2.1 (by decide) (by decide) (XS.iloadN X0.here hx rfl (hb hby d1_15) rfl (XS.sipush X0.here hx rfl (hb hby d1_16) k))) ?_
  show GoW p e below QQ (T0.setTop (mkF m 19 #[.val (.ref a1), .val (.int (1 : Int32)), .val (.int p3)] [(.int (2048 : Int32)), (.int p3)]))
  have hc19 : ¬ (p3 < (2048 : Int32)) := by
    exact hk2
  refine GoW.st (fun t k => XS.icmpYes X0.here hx rfl (pc0 := 19) (pc' := 51) rfl (hb hby d1_19) rfl (flt hc19).2.1 (by decide) (by decide) (XS.iloadN X0.here hx rfl (hb hby d1_51) rfl (X0.ldcInt hx hown (mvT hZ (hw _ (List.mem_of_getElem? (i := 1) rfl))) (g := (mkF m 52 #[.val (.ref a1), .val (.int (1 : Int32)), .val (.int p3)] [(.int p3)])) rfl (hb hby d1_52) t k))) ?_
  show GoW p e below QQ (T0.setTop (mkF m 54 #[.val (.ref a1), .val (.int (1 : Int32)), .val (.int p3)] [(.int (65536 : Int32)), (.int p3)]))
  have hc54 : p3 < (65536 : Int32) := by
    exact hk3
  refine GoW.st (fun t k => XS.icmpNo X0.here hx rfl (hb hby d1_54) rfl (tlt hc54).2.1 (XS.aloadN X0.here hx rfl (hb hby d1_57) rfl rfl (XS.iloadN X0.here hx rfl (hb hby d1_58) rfl (XS.sipush X0.here hx rfl (hb hby d1_59) (XS.iloadN X0.here hx rfl (hb hby d1_62) rfl (XS.sipush X0.here hx rfl (hb hby d1_63) k)))))) ?_
  show GoW p e below QQ (T0.setTop (mkF m 66 #[.val (.ref a1), .val (.int (1 : Int32)), .val (.int p3)] [(.int (4096 : Int32)), (.int p3), (.int (224 : Int32)), (.int (1 : Int32)), (.ref a1)]))
  refine GoW.st (fun t k => XS.idiv X0.here hx rfl (hb hby d1_66) rfl (by decide) (XS.iadd X0.here hx rfl (hb hby d1_67) rfl (XS.i2b X0.here hx rfl (hb hby d1_68) rfl k))) ?_
  show GoW p e below QQ (T0.setTop (mkF m 69 #[.val (.ref a1), .val (.int (1 : Int32)), .val (.int p3)] [(.int (((224 : Int32) + (p3 / (4096 : Int32))).toInt8.toInt32)), (.int (1 : Int32)), (.ref a1)]))
  obtain ⟨T1, h1, X1, e1, W1, V1, st1⟩ := stVB X0 hx hZ e0 pre_V_a1 ⟨by decide, by decide⟩ 1 rfl (Nat.le_of_ble_eq_true rfl) (g := (mkF m 69 #[.val (.ref a1), .val (.int (1 : Int32)), .val (.int p3)] [(.int (((224 : Int32) + (p3 / (4096 : Int32))).toInt8.toInt32)), (.int (1 : Int32)), (.ref a1)])) rfl rfl (hb hby d1_69)
  refine GoW.st st1 ?_
  have f2_V_a1 : Arv Z h1 a1 ka .byte (8 : Int32) [(.int u0), (.int (nar .byte (((224 : Int32) + (p3 / (4096 : Int32))).toInt8.toInt32))), (.int u2), (.int u3), (.int u4), (.int u5), (.int u6), (.int u7)] (.int (0 : Int32)) := V1
  have K1 : Keep h0 h1 [a1] := K0.wr W1 (Or.inl (List.mem_of_getElem? (i := 0) rfl))
  have N1 := Fr.snoc X1 N0 pre_g_a1
  show GoW p e below QQ (T1.setTop (mkF m 70 #[.val (.ref a1), .val (.int (1 : Int32)), .val (.int p3)] []))
  refine GoW.st (fun t k => XS.aloadN X1.here hx rfl (hb hby d1_70) rfl rfl (XS.iloadN X1.here hx rfl (hb hby d1_71) rfl (XS.iconst X1.here hx rfl (hb hby d1_72) (XS.iadd X1.here hx rfl (hb hby d1_73) rfl (XS.sipush X1.here hx rfl (hb hby d1_74) (XS.iloadN X1.here hx rfl (hb hby d1_77) rfl k)))))) ?_
  show GoW p e below QQ (T1.setTop (mkF m 78 #[.val (.ref a1), .val (.int (1 : Int32)), .val (.int p3)] [(.int p3), (.int (128 : Int32)), (.int (2 : Int32)), (.ref a1)]))
  refine GoW.st (fun t k => XS.bipush X1.here hx rfl (hb hby d1_78) (XS.idiv X1.here hx rfl (hb hby d1_80) rfl (by decide) (XS.bipush X1.here hx rfl (hb hby d1_81) (iremM X1 hx rfl (hb hby d1_83) rfl (by decide) (XS.iadd X1.here hx rfl (hb hby d1_84) rfl (XS.i2b X1.here hx rfl (hb hby d1_85) rfl k)))))) ?_
  show GoW p e below QQ (T1.setTop (mkF m 86 #[.val (.ref a1), .val (.int (1 : Int32)), .val (.int p3)] [(.int (((128 : Int32) + ((p3 / (64 : Int32)) % (64 : Int32))).toInt8.toInt32)), (.int (2 : Int32)), (.ref a1)]))
  obtain ⟨T3, h3, X3, e3, W3, V3, st3⟩ := stVB X1 hx hZ e1 f2_V_a1 ⟨by decide, by decide⟩ 2 rfl (Nat.le_of_ble_eq_true rfl) (g := (mkF m 86 #[.val (.ref a1), .val (.int (1 : Int32)), .val (.int p3)] [(.int (((128 : Int32) + ((p3 / (64 : Int32)) % (64 : Int32))).toInt8.toInt32)), (.int (2 : Int32)), (.ref a1)])) rfl rfl (hb hby d1_86)
  refine GoW.st st3 ?_
  have f4_V_a1 : Arv Z h3 a1 ka .byte (8 : Int32) [(.int u0), (.int (nar .byte (((224 : Int32) + (p3 / (4096 : Int32))).toInt8.toInt32))), (.int (nar .byte (((128 : Int32) + ((p3 / (64 : Int32)) % (64 : Int32))).toInt8.toInt32))), (.int u3), (.int u4), (.int u5), (.int u6), (.int u7)] (.int (0 : Int32)) := V3
  have K3 : Keep h0 h3 [a1] := K1.wr W3 (Or.inl (List.mem_of_getElem? (i := 0) rfl))
  have N3 := Fr.snoc X3 N1 pre_g_a1
  show GoW p e below QQ (T3.setTop (mkF m 87 #[.val (.ref a1), .val (.int (1 : Int32)), .val (.int p3)] []))
  refine GoW.st (fun t k => XS.aloadN X3.here hx rfl (hb hby d1_87) rfl rfl (XS.iloadN X3.here hx rfl (hb hby d1_88) rfl (XS.iconst X3.here hx rfl (hb hby d1_89) (XS.iadd X3.here hx rfl (hb hby d1_90) rfl (XS.sipush X3.here hx rfl (hb hby d1_91) (XS.iloadN X3.here hx rfl (hb hby d1_94) rfl k)))))) ?_
  show GoW p e below QQ (T3.setTop (mkF m 95 #[.val (.ref a1), .val (.int (1 : Int32)), .val (.int p3)] [(.int p3), (.int (128 : Int32)), (.int (3 : Int32)), (.ref a1)]))
  refine GoW.st (fun t k => XS.bipush X3.here hx rfl (hb hby d1_95) (iremM X3 hx rfl (hb hby d1_97) rfl (by decide) (XS.iadd X3.here hx rfl (hb hby d1_98) rfl (XS.i2b X3.here hx rfl (hb hby d1_99) rfl k)))) ?_
  show GoW p e below QQ (T3.setTop (mkF m 100 #[.val (.ref a1), .val (.int (1 : Int32)), .val (.int p3)] [(.int (((128 : Int32) + (p3 % (64 : Int32))).toInt8.toInt32)), (.int (3 : Int32)), (.ref a1)]))
  obtain ⟨T5, h5, X5, e5, W5, V5, st5⟩ := stVB X3 hx hZ e3 f4_V_a1 ⟨by decide, by decide⟩ 3 rfl (Nat.le_of_ble_eq_true rfl) (g := (mkF m 100 #[.val (.ref a1), .val (.int (1 : Int32)), .val (.int p3)] [(.int (((128 : Int32) + (p3 % (64 : Int32))).toInt8.toInt32)), (.int (3 : Int32)), (.ref a1)])) rfl rfl (hb hby d1_100)
  refine GoW.st st5 ?_
  have f6_V_a1 : Arv Z h5 a1 ka .byte (8 : Int32) [(.int u0), (.int (nar .byte (((224 : Int32) + (p3 / (4096 : Int32))).toInt8.toInt32))), (.int (nar .byte (((128 : Int32) + ((p3 / (64 : Int32)) % (64 : Int32))).toInt8.toInt32))), (.int (nar .byte (((128 : Int32) + (p3 % (64 : Int32))).toInt8.toInt32))), (.int u4), (.int u5), (.int u6), (.int u7)] (.int (0 : Int32)) := V5
  have K5 : Keep h0 h5 [a1] := K3.wr W5 (Or.inl (List.mem_of_getElem? (i := 0) rfl))
  have N5 := Fr.snoc X5 N3 pre_g_a1
  show GoW p e below QQ (T5.setTop (mkF m 101 #[.val (.ref a1), .val (.int (1 : Int32)), .val (.int p3)] []))
  refine GoW.st (fun t k => XS.goto X5.here hx rfl (pc0 := 101) (pc' := 165) rfl (hb hby d1_101) (by decide) (by decide) k) ?_
  show GoW p e below QQ (T5.setTop (mkF m 165 #[.val (.ref a1), .val (.int (1 : Int32)), .val (.int p3)] []))
  exact GoW.fin X5 none (fun _ => rfl) hlk hQ e5 ⟨rfl, N5, K5, f6_V_a1⟩ (by decide) (by decide) (fun fs hr => X5.returnOut hx hret (hb hby d1_165) hr)
def RM2_13 : Room := { frames := 0, cells := 0, slots := 0, locals := 0 }
def Q2_13 (Z : State) (a1 : Addr) (ka : ClassId) (u0 : Int32) (u1 : Int32) (u2 : Int32) (u3 : Int32) (u4 : Int32) (u5 : Int32) (u6 : Int32) (u7 : Int32) (h0 : Heap) (n0 : Nat) (v : Option Value) (h : Heap) (L : List Loc) : Prop := v = some (.int (((((u1 &&& (255 : Int32)) &&& (15 : Int32)) <<< ((12 : Int32) &&& 31)) ||| ((u2 &&& (63 : Int32)) <<< ((6 : Int32) &&& 31))) ||| (u3 &&& (63 : Int32)))) ∧ Fr n0 L ∧ h = h0
set_option maxRecDepth 65536 in
set_option maxHeartbeats 40000000 in
theorem rm2_13 (l : Launch) (Z : State) (a0 : Array Value) (hw : ∀ d ∈ tables_1, d.before a0 Z = true) (ws : List Jvm.Cond) (a1 : Addr) (ka : ClassId) (u0 : Int32) (u1 : Int32) (u2 : Int32) (u3 : Int32) (u4 : Int32) (u5 : Int32) (u6 : Int32) (u7 : Int32) (h0 : Heap) (n0 : Nat) (Z0 : n0 ≤ h0.size) (pre_V_a1 : Arv Z h0 a1 ka .byte (8 : Int32) [(.int u0), (.int u1), (.int u2), (.int u3), (.int u4), (.int u5), (.int u6), (.int u7)] (.int (0 : Int32))) (g1_3 : ¬ (u1 &&& (255 : Int32)) < (128 : Int32)) (g2_3 : ¬ (u1 &&& (255 : Int32)) < (224 : Int32)) (g3_3 : (u1 &&& (255 : Int32)) < (240 : Int32)) :
    MetFree l (⟨"com/example/terseform/terseform/Utf8", "codePointAt", "([BI)I"⟩ : MethodName) (head1 (Jvm.Cond.code (⟨"com/example/terseform/terseform/Utf8", "codePointAt", "([BI)I"⟩ : MethodName) prog_36_method_9_code 4 (some .int) :: ws) RM2_13) (fun a U => a = #[(.ref a1), (.int (1 : Int32))] ∧ Z.Warmed39 U.vm ∧ U.heap = h0) (fun _ _ _ _ _ => True) (fun _ U o U' => ∃ v L, o = .returned v ∧ Q2_13 Z a1 ka u0 u1 u2 u3 u4 u5 u6 u7 h0 n0 v U'.heap L ∧ FrameEnd U o U' L RM2_13.cells RM2_13.slots) := by
  refine met_of (Q := fun v h L => Q2_13 Z a1 ka u0 u1 u2 u3 u4 u5 u6 u7 h0 n0 v h L) (plainFor_of_name pn_1) (fun m => by first | (simp [entryFrame, mkF, argsToLocals, Value.category]; done) | rfl) (Ls := #[.val (.ref a1), .val (.int (1 : Int32)), .unset, .unset]) ?_
  intro p e s m below meth c T0 QQ hx hZ hby hml hown hnm hret hlk X0 e0 hQ
  have hml : c.maxLocals = 4 := hml
  have hown : s.vm.findClass "com/example/terseform/terseform/Utf8" = some m.cls := hown
  have hnm : meth.name = "codePointAt" := hnm
  have hret : meth.sig.returnType = some .int := hret
  have N0 := Fr.nil n0
  have K0 : Keep h0 h0 [] := Keep.refl h0 _
  show GoW p e below QQ (T0.setTop (mkF m 0 #[.val (.ref a1), .val (.int (1 : Int32)), .unset, .unset] []))
  refine GoW.st (fun t k => XS.aloadN X0.here hx rfl (hb hby d2_0) rfl rfl (XS.iloadN X0.here hx rfl (hb hby d2_1) rfl (ldVB X0 hx hZ e0 pre_V_a1 (v := (.int u1)) ⟨by decide, by decide⟩ rfl (g := (mkF m 2 #[.val (.ref a1), .val (.int (1 : Int32)), .unset, .unset] [(.int (1 : Int32)), (.ref a1)])) rfl rfl (hb hby d2_2) t (XS.sipush X0.here hx rfl (hb hby d2_3) (XS.iand X0.here hx rfl (hb hby d2_6) rfl (XS.istoreN X0.here hx rfl (hb hby d2_7) rfl (l' := #[.val (.ref a1), .val (.int (1 : Int32)), .val (.int (u1 &&& (255 : Int32))), .unset]) rfl k)))))) ?_
  show GoW p e below QQ (T0.setTop (mkF m 8 #[.val (.ref a1), .val (.int (1 : Int32)), .val (.int (u1 &&& (255 : Int32))), .unset] []))
  generalize hv7 : (u1 &&& (255 : Int32)) = v7
  refine GoW.st (fun t k => XS.iloadN X0.here hx rfl (hb hby d2_8) rfl (XS.sipush X0.here hx rfl (hb hby d2_9) k)) ?_
  show GoW p e below QQ (T0.setTop (mkF m 12 #[.val (.ref a1), .val (.int (1 : Int32)), .val (.int v7), .unset] [(.int (128 : Int32)), (.int v7)]))
  have hc12 : ¬ (v7 < (128 : Int32)) := by
    subst hv7
    exact g1_3
  refine GoW.st (fun t k => XS.icmpYes X0.here hx rfl (pc0 := 12) (pc' := 20) rfl (hb hby d2_12) rfl (flt hc12).2.1 (by decide) (by decide) (XS.iloadN X0.here hx rfl (hb hby d2_20) rfl (XS.sipush X0.here hx rfl (hb hby d2_21) k))) ?_
  show GoW p e below QQ (T0.setTop (mkF m 24 #[.val (.ref a1), .val (.int (1 : Int32)), .val (.int v7), .unset] [(.int (224 : Int32)), (.int v7)]))
  have hc24 : ¬ (v7 < (224 : Int32)) := by
    subst hv7
    exact g2_3
  refine GoW.st (fun t k => XS.icmpYes X0.here hx rfl (pc0 := 24) (pc' := 47) rfl (hb hby d2_24) rfl (flt hc24).2.1 (by decide) (by decide) (XS.iloadN X0.here hx rfl (hb hby d2_47) rfl (XS.sipush X0.here hx rfl (hb hby d2_48) k))) ?_
  show GoW p e below QQ (T0.setTop (mkF m 51 #[.val (.ref a1), .val (.int (1 : Int32)), .val (.int v7), .unset] [(.int (240 : Int32)), (.int v7)]))
  have hc51 : v7 < (240 : Int32) := by
    subst hv7
    exact g3_3
  refine GoW.st (fun t k => XS.icmpNo X0.here hx rfl (hb hby d2_51) rfl (tlt hc51).2.1 (XS.iloadN X0.here hx rfl (hb hby d2_54) rfl (XS.bipush X0.here hx rfl (hb hby d2_55) (XS.iand X0.here hx rfl (hb hby d2_57) rfl (XS.bipush X0.here hx rfl (hb hby d2_58) (XS.ishl X0.here hx rfl (hb hby d2_60) rfl k)))))) ?_
  show GoW p e below QQ (T0.setTop (mkF m 61 #[.val (.ref a1), .val (.int (1 : Int32)), .val (.int v7), .unset] [(.int ((v7 &&& (15 : Int32)) <<< ((12 : Int32) &&& 31)))]))
  refine GoW.st (fun t k => XS.aloadN X0.here hx rfl (hb hby d2_61) rfl rfl (XS.iloadN X0.here hx rfl (hb hby d2_62) rfl (XS.iconst X0.here hx rfl (hb hby d2_63) (XS.iadd X0.here hx rfl (hb hby d2_64) rfl (ldVB X0 hx hZ e0 pre_V_a1 (v := (.int u2)) ⟨by decide, by decide⟩ rfl (g := (mkF m 65 #[.val (.ref a1), .val (.int (1 : Int32)), .val (.int v7), .unset] [(.int (2 : Int32)), (.ref a1), (.int ((v7 &&& (15 : Int32)) <<< ((12 : Int32) &&& 31)))])) rfl rfl (hb hby d2_65) t (XS.bipush X0.here hx rfl (hb hby d2_66) k)))))) ?_
  show GoW p e below QQ (T0.setTop (mkF m 68 #[.val (.ref a1), .val (.int (1 : Int32)), .val (.int v7), .unset] [(.int (63 : Int32)), (.int u2), (.int ((v7 &&& (15 : Int32)) <<< ((12 : Int32) &&& 31)))]))
  refine GoW.st (fun t k => XS.iand X0.here hx rfl (hb hby d2_68) rfl (XS.bipush X0.here hx rfl (hb hby d2_69) (XS.ishl X0.here hx rfl (hb hby d2_71) rfl (XS.ior X0.here hx rfl (hb hby d2_72) rfl (XS.aloadN X0.here hx rfl (hb hby d2_73) rfl rfl (XS.iloadN X0.here hx rfl (hb hby d2_74) rfl k)))))) ?_
  show GoW p e below QQ (T0.setTop (mkF m 75 #[.val (.ref a1), .val (.int (1 : Int32)), .val (.int v7), .unset] [(.int (1 : Int32)), (.ref a1), (.int (((v7 &&& (15 : Int32)) <<< ((12 : Int32) &&& 31)) ||| ((u2 &&& (63 : Int32)) <<< ((6 : Int32) &&& 31))))]))
  refine GoW.st (fun t k => XS.iconst X0.here hx rfl (hb hby d2_75) (XS.iadd X0.here hx rfl (hb hby d2_76) rfl (ldVB X0 hx hZ e0 pre_V_a1 (v := (.int u3)) ⟨by decide, by decide⟩ rfl (g := (mkF m 77 #[.val (.ref a1), .val (.int (1 : Int32)), .val (.int v7), .unset] [(.int (3 : Int32)), (.ref a1), (.int (((v7 &&& (15 : Int32)) <<< ((12 : Int32) &&& 31)) ||| ((u2 &&& (63 : Int32)) <<< ((6 : Int32) &&& 31))))])) rfl rfl (hb hby d2_77) t (XS.bipush X0.here hx rfl (hb hby d2_78) (XS.iand X0.here hx rfl (hb hby d2_80) rfl (XS.ior X0.here hx rfl (hb hby d2_81) rfl k)))))) ?_
  show GoW p e below QQ (T0.setTop (mkF m 82 #[.val (.ref a1), .val (.int (1 : Int32)), .val (.int v7), .unset] [(.int ((((v7 &&& (15 : Int32)) <<< ((12 : Int32) &&& 31)) ||| ((u2 &&& (63 : Int32)) <<< ((6 : Int32) &&& 31))) ||| (u3 &&& (63 : Int32))))]))
  refine GoW.st (fun t k => XS.istoreN X0.here hx rfl (hb hby d2_82) rfl (l' := #[.val (.ref a1), .val (.int (1 : Int32)), .val (.int v7), .val (.int ((((v7 &&& (15 : Int32)) <<< ((12 : Int32) &&& 31)) ||| ((u2 &&& (63 : Int32)) <<< ((6 : Int32) &&& 31))) ||| (u3 &&& (63 : Int32))))]) rfl k) ?_
  show GoW p e below QQ (T0.setTop (mkF m 83 #[.val (.ref a1), .val (.int (1 : Int32)), .val (.int v7), .val (.int ((((v7 &&& (15 : Int32)) <<< ((12 : Int32) &&& 31)) ||| ((u2 &&& (63 : Int32)) <<< ((6 : Int32) &&& 31))) ||| (u3 &&& (63 : Int32))))] []))
  generalize hv82 : ((((v7 &&& (15 : Int32)) <<< ((12 : Int32) &&& 31)) ||| ((u2 &&& (63 : Int32)) <<< ((6 : Int32) &&& 31))) ||| (u3 &&& (63 : Int32))) = v82
  refine GoW.st (fun t k => XS.goto X0.here hx rfl (pc0 := 83) (pc' := 127) rfl (hb hby d2_83) (by decide) (by decide) (XS.iloadN X0.here hx rfl (hb hby d2_127) rfl k)) ?_
  show GoW p e below QQ (T0.setTop (mkF m 128 #[.val (.ref a1), .val (.int (1 : Int32)), .val (.int v7), .val (.int v82)] [(.int v82)]))
  have rv : ((some (.int v82)) : Option Value) = some (.int (((((u1 &&& (255 : Int32)) &&& (15 : Int32)) <<< ((12 : Int32) &&& 31)) ||| ((u2 &&& (63 : Int32)) <<< ((6 : Int32) &&& 31))) ||| (u3 &&& (63 : Int32)))) := by
    subst_vars
    rfl
  exact GoW.fin X0 (some (.int v82)) (fun q => by rw [hret] at q; cases q) hlk hQ e0 ⟨rv, N0, rfl⟩ (by decide) (by decide) (fun fs hr => retI X0 hx hret (hb hby d2_128) hr)
def RM1_23 : Room := { frames := 0, cells := 0, slots := 0, locals := 0 }
def Q1_23 (Z : State) (a1 : Addr) (ka : ClassId) (p3 : Int32) (u0 : Int32) (u1 : Int32) (u2 : Int32) (u3 : Int32) (u4 : Int32) (u5 : Int32) (u6 : Int32) (u7 : Int32) (h0 : Heap) (n0 : Nat) (v : Option Value) (h : Heap) (L : List Loc) : Prop := v = none ∧ Fr n0 L ∧ Keep h0 h [a1] ∧ (Arv Z h a1 ka .byte (8 : Int32) [(.int u0), (.int u1), (.int (nar .byte (((224 : Int32) + (p3 / (4096 : Int32))).toInt8.toInt32))), (.int (nar .byte (((128 : Int32) + ((p3 / (64 : Int32)) % (64 : Int32))).toInt8.toInt32))), (.int (nar .byte (((128 : Int32) + (p3 % (64 : Int32))).toInt8.toInt32))), (.int u5), (.int u6), (.int u7)] (.int (0 : Int32)))
set_option maxRecDepth 65536 in
set_option maxHeartbeats 40000000 in
theorem rm1_23 (l : Launch) (Z : State) (a0 : Array Value) (hw : ∀ d ∈ tables_1, d.before a0 Z = true) (ws : List Jvm.Cond) (a1 : Addr) (ka : ClassId) (p3 : Int32) (u0 : Int32) (u1 : Int32) (u2 : Int32) (u3 : Int32) (u4 : Int32) (u5 : Int32) (u6 : Int32) (u7 : Int32) (h0 : Heap) (n0 : Nat) (Z0 : n0 ≤ h0.size) (pre_V_a1 : Arv Z h0 a1 ka .byte (8 : Int32) [(.int u0), (.int u1), (.int u2), (.int u3), (.int u4), (.int u5), (.int u6), (.int u7)] (.int (0 : Int32))) (pre_g_a1 : n0 ≤ a1) (hk1 : ¬ p3 < (128 : Int32)) (hk2 : ¬ p3 < (2048 : Int32)) (hk3 : p3 < (65536 : Int32)) :
    MetFree l (⟨"com/example/terseform/terseform/Utf8CodePointAtPinLaw", "put", "([BII)V"⟩ : MethodName) (head1 (Jvm.Cond.code (⟨"com/example/terseform/terseform/Utf8CodePointAtPinLaw", "put", "([BII)V"⟩ : MethodName) method_3_code 3 none :: ws) RM1_23) (fun a U => a = #[(.ref a1), (.int (2 : Int32)), (.int p3)] ∧ Z.Warmed39 U.vm ∧ U.heap = h0) (fun _ _ _ _ _ => True) (fun _ U o U' => ∃ v L, o = .returned v ∧ Q1_23 Z a1 ka p3 u0 u1 u2 u3 u4 u5 u6 u7 h0 n0 v U'.heap L ∧ FrameEnd U o U' L RM1_23.cells RM1_23.slots) := by
  refine met_of (Q := fun v h L => Q1_23 Z a1 ka p3 u0 u1 u2 u3 u4 u5 u6 u7 h0 n0 v h L) (plainFor_of_name pn_0) (fun m => by first | (simp [entryFrame, mkF, argsToLocals, Value.category]; done) | rfl) (Ls := #[.val (.ref a1), .val (.int (2 : Int32)), .val (.int p3)]) ?_
  intro p e s m below meth c T0 QQ hx hZ hby hml hown hnm hret hlk X0 e0 hQ
  have hml : c.maxLocals = 3 := hml
  have hown : s.vm.findClass "com/example/terseform/terseform/Utf8CodePointAtPinLaw" = some m.cls := hown
  have hnm : meth.name = "put" := hnm
  have hret : meth.sig.returnType = none := hret
  have N0 := Fr.nil n0
  have K0 : Keep h0 h0 [a1] := Keep.refl h0 _
  show GoW p e below QQ (T0.setTop (mkF m 0 #[.val (.ref a1), .val (.int (2 : Int32)), .val (.int p3)] []))
  refine GoW.st (fun t k => XS.iloadN X0.here hx rfl (hb hby d1_0) rfl (XS.sipush X0.here hx rfl (hb hby d1_1) k)) ?_
  show GoW p e below QQ (T0.setTop (mkF m 4 #[.val (.ref a1), .val (.int (2 : Int32)), .val (.int p3)] [(.int (128 : Int32)), (.int p3)]))
  have hc4 : ¬ (p3 < (128 : Int32)) := by
    exact hk1
  refine GoW.st (fun t k => XS.icmpYes X0.here hx rfl (pc0 := 4) (pc' := 15) rfl (hb hby d1_4) rfl (flt hc4).2.1 (by decide) (by decide) (XS.iloadN X0.here hx rfl (hb hby d1_15) rfl (XS.sipush X0.here hx rfl (hb hby d1_16) k))) ?_
  show GoW p e below QQ (T0.setTop (mkF m 19 #[.val (.ref a1), .val (.int (2 : Int32)), .val (.int p3)] [(.int (2048 : Int32)), (.int p3)]))
  have hc19 : ¬ (p3 < (2048 : Int32)) := by
    exact hk2
  refine GoW.st (fun t k => XS.icmpYes X0.here hx rfl (pc0 := 19) (pc' := 51) rfl (hb hby d1_19) rfl (flt hc19).2.1 (by decide) (by decide) (XS.iloadN X0.here hx rfl (hb hby d1_51) rfl (X0.ldcInt hx hown (mvT hZ (hw _ (List.mem_of_getElem? (i := 1) rfl))) (g := (mkF m 52 #[.val (.ref a1), .val (.int (2 : Int32)), .val (.int p3)] [(.int p3)])) rfl (hb hby d1_52) t k))) ?_
  show GoW p e below QQ (T0.setTop (mkF m 54 #[.val (.ref a1), .val (.int (2 : Int32)), .val (.int p3)] [(.int (65536 : Int32)), (.int p3)]))
  have hc54 : p3 < (65536 : Int32) := by
    exact hk3
  refine GoW.st (fun t k => XS.icmpNo X0.here hx rfl (hb hby d1_54) rfl (tlt hc54).2.1 (XS.aloadN X0.here hx rfl (hb hby d1_57) rfl rfl (XS.iloadN X0.here hx rfl (hb hby d1_58) rfl (XS.sipush X0.here hx rfl (hb hby d1_59) (XS.iloadN X0.here hx rfl (hb hby d1_62) rfl (XS.sipush X0.here hx rfl (hb hby d1_63) k)))))) ?_
  show GoW p e below QQ (T0.setTop (mkF m 66 #[.val (.ref a1), .val (.int (2 : Int32)), .val (.int p3)] [(.int (4096 : Int32)), (.int p3), (.int (224 : Int32)), (.int (2 : Int32)), (.ref a1)]))
  refine GoW.st (fun t k => XS.idiv X0.here hx rfl (hb hby d1_66) rfl (by decide) (XS.iadd X0.here hx rfl (hb hby d1_67) rfl (XS.i2b X0.here hx rfl (hb hby d1_68) rfl k))) ?_
  show GoW p e below QQ (T0.setTop (mkF m 69 #[.val (.ref a1), .val (.int (2 : Int32)), .val (.int p3)] [(.int (((224 : Int32) + (p3 / (4096 : Int32))).toInt8.toInt32)), (.int (2 : Int32)), (.ref a1)]))
  obtain ⟨T1, h1, X1, e1, W1, V1, st1⟩ := stVB X0 hx hZ e0 pre_V_a1 ⟨by decide, by decide⟩ 2 rfl (Nat.le_of_ble_eq_true rfl) (g := (mkF m 69 #[.val (.ref a1), .val (.int (2 : Int32)), .val (.int p3)] [(.int (((224 : Int32) + (p3 / (4096 : Int32))).toInt8.toInt32)), (.int (2 : Int32)), (.ref a1)])) rfl rfl (hb hby d1_69)
  refine GoW.st st1 ?_
  have f2_V_a1 : Arv Z h1 a1 ka .byte (8 : Int32) [(.int u0), (.int u1), (.int (nar .byte (((224 : Int32) + (p3 / (4096 : Int32))).toInt8.toInt32))), (.int u3), (.int u4), (.int u5), (.int u6), (.int u7)] (.int (0 : Int32)) := V1
  have K1 : Keep h0 h1 [a1] := K0.wr W1 (Or.inl (List.mem_of_getElem? (i := 0) rfl))
  have N1 := Fr.snoc X1 N0 pre_g_a1
  show GoW p e below QQ (T1.setTop (mkF m 70 #[.val (.ref a1), .val (.int (2 : Int32)), .val (.int p3)] []))
  refine GoW.st (fun t k => XS.aloadN X1.here hx rfl (hb hby d1_70) rfl rfl (XS.iloadN X1.here hx rfl (hb hby d1_71) rfl (XS.iconst X1.here hx rfl (hb hby d1_72) (XS.iadd X1.here hx rfl (hb hby d1_73) rfl (XS.sipush X1.here hx rfl (hb hby d1_74) (XS.iloadN X1.here hx rfl (hb hby d1_77) rfl k)))))) ?_
  show GoW p e below QQ (T1.setTop (mkF m 78 #[.val (.ref a1), .val (.int (2 : Int32)), .val (.int p3)] [(.int p3), (.int (128 : Int32)), (.int (3 : Int32)), (.ref a1)]))
  refine GoW.st (fun t k => XS.bipush X1.here hx rfl (hb hby d1_78) (XS.idiv X1.here hx rfl (hb hby d1_80) rfl (by decide) (XS.bipush X1.here hx rfl (hb hby d1_81) (iremM X1 hx rfl (hb hby d1_83) rfl (by decide) (XS.iadd X1.here hx rfl (hb hby d1_84) rfl (XS.i2b X1.here hx rfl (hb hby d1_85) rfl k)))))) ?_
  show GoW p e below QQ (T1.setTop (mkF m 86 #[.val (.ref a1), .val (.int (2 : Int32)), .val (.int p3)] [(.int (((128 : Int32) + ((p3 / (64 : Int32)) % (64 : Int32))).toInt8.toInt32)), (.int (3 : Int32)), (.ref a1)]))
  obtain ⟨T3, h3, X3, e3, W3, V3, st3⟩ := stVB X1 hx hZ e1 f2_V_a1 ⟨by decide, by decide⟩ 3 rfl (Nat.le_of_ble_eq_true rfl) (g := (mkF m 86 #[.val (.ref a1), .val (.int (2 : Int32)), .val (.int p3)] [(.int (((128 : Int32) + ((p3 / (64 : Int32)) % (64 : Int32))).toInt8.toInt32)), (.int (3 : Int32)), (.ref a1)])) rfl rfl (hb hby d1_86)
  refine GoW.st st3 ?_
  have f4_V_a1 : Arv Z h3 a1 ka .byte (8 : Int32) [(.int u0), (.int u1), (.int (nar .byte (((224 : Int32) + (p3 / (4096 : Int32))).toInt8.toInt32))), (.int (nar .byte (((128 : Int32) + ((p3 / (64 : Int32)) % (64 : Int32))).toInt8.toInt32))), (.int u4), (.int u5), (.int u6), (.int u7)] (.int (0 : Int32)) := V3
  have K3 : Keep h0 h3 [a1] := K1.wr W3 (Or.inl (List.mem_of_getElem? (i := 0) rfl))
  have N3 := Fr.snoc X3 N1 pre_g_a1
  show GoW p e below QQ (T3.setTop (mkF m 87 #[.val (.ref a1), .val (.int (2 : Int32)), .val (.int p3)] []))
  refine GoW.st (fun t k => XS.aloadN X3.here hx rfl (hb hby d1_87) rfl rfl (XS.iloadN X3.here hx rfl (hb hby d1_88) rfl (XS.iconst X3.here hx rfl (hb hby d1_89) (XS.iadd X3.here hx rfl (hb hby d1_90) rfl (XS.sipush X3.here hx rfl (hb hby d1_91) (XS.iloadN X3.here hx rfl (hb hby d1_94) rfl k)))))) ?_
  show GoW p e below QQ (T3.setTop (mkF m 95 #[.val (.ref a1), .val (.int (2 : Int32)), .val (.int p3)] [(.int p3), (.int (128 : Int32)), (.int (4 : Int32)), (.ref a1)]))
  refine GoW.st (fun t k => XS.bipush X3.here hx rfl (hb hby d1_95) (iremM X3 hx rfl (hb hby d1_97) rfl (by decide) (XS.iadd X3.here hx rfl (hb hby d1_98) rfl (XS.i2b X3.here hx rfl (hb hby d1_99) rfl k)))) ?_
  show GoW p e below QQ (T3.setTop (mkF m 100 #[.val (.ref a1), .val (.int (2 : Int32)), .val (.int p3)] [(.int (((128 : Int32) + (p3 % (64 : Int32))).toInt8.toInt32)), (.int (4 : Int32)), (.ref a1)]))
  obtain ⟨T5, h5, X5, e5, W5, V5, st5⟩ := stVB X3 hx hZ e3 f4_V_a1 ⟨by decide, by decide⟩ 4 rfl (Nat.le_of_ble_eq_true rfl) (g := (mkF m 100 #[.val (.ref a1), .val (.int (2 : Int32)), .val (.int p3)] [(.int (((128 : Int32) + (p3 % (64 : Int32))).toInt8.toInt32)), (.int (4 : Int32)), (.ref a1)])) rfl rfl (hb hby d1_100)
  refine GoW.st st5 ?_
  have f6_V_a1 : Arv Z h5 a1 ka .byte (8 : Int32) [(.int u0), (.int u1), (.int (nar .byte (((224 : Int32) + (p3 / (4096 : Int32))).toInt8.toInt32))), (.int (nar .byte (((128 : Int32) + ((p3 / (64 : Int32)) % (64 : Int32))).toInt8.toInt32))), (.int (nar .byte (((128 : Int32) + (p3 % (64 : Int32))).toInt8.toInt32))), (.int u5), (.int u6), (.int u7)] (.int (0 : Int32)) := V5
  have K5 : Keep h0 h5 [a1] := K3.wr W5 (Or.inl (List.mem_of_getElem? (i := 0) rfl))
  have N5 := Fr.snoc X5 N3 pre_g_a1
  show GoW p e below QQ (T5.setTop (mkF m 101 #[.val (.ref a1), .val (.int (2 : Int32)), .val (.int p3)] []))
  refine GoW.st (fun t k => XS.goto X5.here hx rfl (pc0 := 101) (pc' := 165) rfl (hb hby d1_101) (by decide) (by decide) k) ?_
  show GoW p e below QQ (T5.setTop (mkF m 165 #[.val (.ref a1), .val (.int (2 : Int32)), .val (.int p3)] []))
  exact GoW.fin X5 none (fun _ => rfl) hlk hQ e5 ⟨rfl, N5, K5, f6_V_a1⟩ (by decide) (by decide) (fun fs hr => X5.returnOut hx hret (hb hby d1_165) hr)
def RM2_23 : Room := { frames := 0, cells := 0, slots := 0, locals := 0 }
def Q2_23 (Z : State) (a1 : Addr) (ka : ClassId) (u0 : Int32) (u1 : Int32) (u2 : Int32) (u3 : Int32) (u4 : Int32) (u5 : Int32) (u6 : Int32) (u7 : Int32) (h0 : Heap) (n0 : Nat) (v : Option Value) (h : Heap) (L : List Loc) : Prop := v = some (.int (((((u2 &&& (255 : Int32)) &&& (15 : Int32)) <<< ((12 : Int32) &&& 31)) ||| ((u3 &&& (63 : Int32)) <<< ((6 : Int32) &&& 31))) ||| (u4 &&& (63 : Int32)))) ∧ Fr n0 L ∧ h = h0
set_option maxRecDepth 65536 in
set_option maxHeartbeats 40000000 in
theorem rm2_23 (l : Launch) (Z : State) (a0 : Array Value) (hw : ∀ d ∈ tables_1, d.before a0 Z = true) (ws : List Jvm.Cond) (a1 : Addr) (ka : ClassId) (u0 : Int32) (u1 : Int32) (u2 : Int32) (u3 : Int32) (u4 : Int32) (u5 : Int32) (u6 : Int32) (u7 : Int32) (h0 : Heap) (n0 : Nat) (Z0 : n0 ≤ h0.size) (pre_V_a1 : Arv Z h0 a1 ka .byte (8 : Int32) [(.int u0), (.int u1), (.int u2), (.int u3), (.int u4), (.int u5), (.int u6), (.int u7)] (.int (0 : Int32))) (g1_3 : ¬ (u2 &&& (255 : Int32)) < (128 : Int32)) (g2_3 : ¬ (u2 &&& (255 : Int32)) < (224 : Int32)) (g3_3 : (u2 &&& (255 : Int32)) < (240 : Int32)) :
    MetFree l (⟨"com/example/terseform/terseform/Utf8", "codePointAt", "([BI)I"⟩ : MethodName) (head1 (Jvm.Cond.code (⟨"com/example/terseform/terseform/Utf8", "codePointAt", "([BI)I"⟩ : MethodName) prog_36_method_9_code 4 (some .int) :: ws) RM2_23) (fun a U => a = #[(.ref a1), (.int (2 : Int32))] ∧ Z.Warmed39 U.vm ∧ U.heap = h0) (fun _ _ _ _ _ => True) (fun _ U o U' => ∃ v L, o = .returned v ∧ Q2_23 Z a1 ka u0 u1 u2 u3 u4 u5 u6 u7 h0 n0 v U'.heap L ∧ FrameEnd U o U' L RM2_23.cells RM2_23.slots) := by
  refine met_of (Q := fun v h L => Q2_23 Z a1 ka u0 u1 u2 u3 u4 u5 u6 u7 h0 n0 v h L) (plainFor_of_name pn_1) (fun m => by first | (simp [entryFrame, mkF, argsToLocals, Value.category]; done) | rfl) (Ls := #[.val (.ref a1), .val (.int (2 : Int32)), .unset, .unset]) ?_
  intro p e s m below meth c T0 QQ hx hZ hby hml hown hnm hret hlk X0 e0 hQ
  have hml : c.maxLocals = 4 := hml
  have hown : s.vm.findClass "com/example/terseform/terseform/Utf8" = some m.cls := hown
  have hnm : meth.name = "codePointAt" := hnm
  have hret : meth.sig.returnType = some .int := hret
  have N0 := Fr.nil n0
  have K0 : Keep h0 h0 [] := Keep.refl h0 _
  show GoW p e below QQ (T0.setTop (mkF m 0 #[.val (.ref a1), .val (.int (2 : Int32)), .unset, .unset] []))
  refine GoW.st (fun t k => XS.aloadN X0.here hx rfl (hb hby d2_0) rfl rfl (XS.iloadN X0.here hx rfl (hb hby d2_1) rfl (ldVB X0 hx hZ e0 pre_V_a1 (v := (.int u2)) ⟨by decide, by decide⟩ rfl (g := (mkF m 2 #[.val (.ref a1), .val (.int (2 : Int32)), .unset, .unset] [(.int (2 : Int32)), (.ref a1)])) rfl rfl (hb hby d2_2) t (XS.sipush X0.here hx rfl (hb hby d2_3) (XS.iand X0.here hx rfl (hb hby d2_6) rfl (XS.istoreN X0.here hx rfl (hb hby d2_7) rfl (l' := #[.val (.ref a1), .val (.int (2 : Int32)), .val (.int (u2 &&& (255 : Int32))), .unset]) rfl k)))))) ?_
  show GoW p e below QQ (T0.setTop (mkF m 8 #[.val (.ref a1), .val (.int (2 : Int32)), .val (.int (u2 &&& (255 : Int32))), .unset] []))
  generalize hv7 : (u2 &&& (255 : Int32)) = v7
  refine GoW.st (fun t k => XS.iloadN X0.here hx rfl (hb hby d2_8) rfl (XS.sipush X0.here hx rfl (hb hby d2_9) k)) ?_
  show GoW p e below QQ (T0.setTop (mkF m 12 #[.val (.ref a1), .val (.int (2 : Int32)), .val (.int v7), .unset] [(.int (128 : Int32)), (.int v7)]))
  have hc12 : ¬ (v7 < (128 : Int32)) := by
    subst hv7
    exact g1_3
  refine GoW.st (fun t k => XS.icmpYes X0.here hx rfl (pc0 := 12) (pc' := 20) rfl (hb hby d2_12) rfl (flt hc12).2.1 (by decide) (by decide) (XS.iloadN X0.here hx rfl (hb hby d2_20) rfl (XS.sipush X0.here hx rfl (hb hby d2_21) k))) ?_
  show GoW p e below QQ (T0.setTop (mkF m 24 #[.val (.ref a1), .val (.int (2 : Int32)), .val (.int v7), .unset] [(.int (224 : Int32)), (.int v7)]))
  have hc24 : ¬ (v7 < (224 : Int32)) := by
    subst hv7
    exact g2_3
  refine GoW.st (fun t k => XS.icmpYes X0.here hx rfl (pc0 := 24) (pc' := 47) rfl (hb hby d2_24) rfl (flt hc24).2.1 (by decide) (by decide) (XS.iloadN X0.here hx rfl (hb hby d2_47) rfl (XS.sipush X0.here hx rfl (hb hby d2_48) k))) ?_
  show GoW p e below QQ (T0.setTop (mkF m 51 #[.val (.ref a1), .val (.int (2 : Int32)), .val (.int v7), .unset] [(.int (240 : Int32)), (.int v7)]))
  have hc51 : v7 < (240 : Int32) := by
    subst hv7
    exact g3_3
  refine GoW.st (fun t k => XS.icmpNo X0.here hx rfl (hb hby d2_51) rfl (tlt hc51).2.1 (XS.iloadN X0.here hx rfl (hb hby d2_54) rfl (XS.bipush X0.here hx rfl (hb hby d2_55) (XS.iand X0.here hx rfl (hb hby d2_57) rfl (XS.bipush X0.here hx rfl (hb hby d2_58) (XS.ishl X0.here hx rfl (hb hby d2_60) rfl k)))))) ?_
  show GoW p e below QQ (T0.setTop (mkF m 61 #[.val (.ref a1), .val (.int (2 : Int32)), .val (.int v7), .unset] [(.int ((v7 &&& (15 : Int32)) <<< ((12 : Int32) &&& 31)))]))
  refine GoW.st (fun t k => XS.aloadN X0.here hx rfl (hb hby d2_61) rfl rfl (XS.iloadN X0.here hx rfl (hb hby d2_62) rfl (XS.iconst X0.here hx rfl (hb hby d2_63) (XS.iadd X0.here hx rfl (hb hby d2_64) rfl (ldVB X0 hx hZ e0 pre_V_a1 (v := (.int u3)) ⟨by decide, by decide⟩ rfl (g := (mkF m 65 #[.val (.ref a1), .val (.int (2 : Int32)), .val (.int v7), .unset] [(.int (3 : Int32)), (.ref a1), (.int ((v7 &&& (15 : Int32)) <<< ((12 : Int32) &&& 31)))])) rfl rfl (hb hby d2_65) t (XS.bipush X0.here hx rfl (hb hby d2_66) k)))))) ?_
  show GoW p e below QQ (T0.setTop (mkF m 68 #[.val (.ref a1), .val (.int (2 : Int32)), .val (.int v7), .unset] [(.int (63 : Int32)), (.int u3), (.int ((v7 &&& (15 : Int32)) <<< ((12 : Int32) &&& 31)))]))
  refine GoW.st (fun t k => XS.iand X0.here hx rfl (hb hby d2_68) rfl (XS.bipush X0.here hx rfl (hb hby d2_69) (XS.ishl X0.here hx rfl (hb hby d2_71) rfl (XS.ior X0.here hx rfl (hb hby d2_72) rfl (XS.aloadN X0.here hx rfl (hb hby d2_73) rfl rfl (XS.iloadN X0.here hx rfl (hb hby d2_74) rfl k)))))) ?_
  show GoW p e below QQ (T0.setTop (mkF m 75 #[.val (.ref a1), .val (.int (2 : Int32)), .val (.int v7), .unset] [(.int (2 : Int32)), (.ref a1), (.int (((v7 &&& (15 : Int32)) <<< ((12 : Int32) &&& 31)) ||| ((u3 &&& (63 : Int32)) <<< ((6 : Int32) &&& 31))))]))
  refine GoW.st (fun t k => XS.iconst X0.here hx rfl (hb hby d2_75) (XS.iadd X0.here hx rfl (hb hby d2_76) rfl (ldVB X0 hx hZ e0 pre_V_a1 (v := (.int u4)) ⟨by decide, by decide⟩ rfl (g := (mkF m 77 #[.val (.ref a1), .val (.int (2 : Int32)), .val (.int v7), .unset] [(.int (4 : Int32)), (.ref a1), (.int (((v7 &&& (15 : Int32)) <<< ((12 : Int32) &&& 31)) ||| ((u3 &&& (63 : Int32)) <<< ((6 : Int32) &&& 31))))])) rfl rfl (hb hby d2_77) t (XS.bipush X0.here hx rfl (hb hby d2_78) (XS.iand X0.here hx rfl (hb hby d2_80) rfl (XS.ior X0.here hx rfl (hb hby d2_81) rfl k)))))) ?_
  show GoW p e below QQ (T0.setTop (mkF m 82 #[.val (.ref a1), .val (.int (2 : Int32)), .val (.int v7), .unset] [(.int ((((v7 &&& (15 : Int32)) <<< ((12 : Int32) &&& 31)) ||| ((u3 &&& (63 : Int32)) <<< ((6 : Int32) &&& 31))) ||| (u4 &&& (63 : Int32))))]))
  refine GoW.st (fun t k => XS.istoreN X0.here hx rfl (hb hby d2_82) rfl (l' := #[.val (.ref a1), .val (.int (2 : Int32)), .val (.int v7), .val (.int ((((v7 &&& (15 : Int32)) <<< ((12 : Int32) &&& 31)) ||| ((u3 &&& (63 : Int32)) <<< ((6 : Int32) &&& 31))) ||| (u4 &&& (63 : Int32))))]) rfl k) ?_
  show GoW p e below QQ (T0.setTop (mkF m 83 #[.val (.ref a1), .val (.int (2 : Int32)), .val (.int v7), .val (.int ((((v7 &&& (15 : Int32)) <<< ((12 : Int32) &&& 31)) ||| ((u3 &&& (63 : Int32)) <<< ((6 : Int32) &&& 31))) ||| (u4 &&& (63 : Int32))))] []))
  generalize hv82 : ((((v7 &&& (15 : Int32)) <<< ((12 : Int32) &&& 31)) ||| ((u3 &&& (63 : Int32)) <<< ((6 : Int32) &&& 31))) ||| (u4 &&& (63 : Int32))) = v82
  refine GoW.st (fun t k => XS.goto X0.here hx rfl (pc0 := 83) (pc' := 127) rfl (hb hby d2_83) (by decide) (by decide) (XS.iloadN X0.here hx rfl (hb hby d2_127) rfl k)) ?_
  show GoW p e below QQ (T0.setTop (mkF m 128 #[.val (.ref a1), .val (.int (2 : Int32)), .val (.int v7), .val (.int v82)] [(.int v82)]))
  have rv : ((some (.int v82)) : Option Value) = some (.int (((((u2 &&& (255 : Int32)) &&& (15 : Int32)) <<< ((12 : Int32) &&& 31)) ||| ((u3 &&& (63 : Int32)) <<< ((6 : Int32) &&& 31))) ||| (u4 &&& (63 : Int32)))) := by
    subst_vars
    rfl
  exact GoW.fin X0 (some (.int v82)) (fun q => by rw [hret] at q; cases q) hlk hQ e0 ⟨rv, N0, rfl⟩ (by decide) (by decide) (fun fs hr => retI X0 hx hret (hb hby d2_128) hr)
def RM1_33 : Room := { frames := 0, cells := 0, slots := 0, locals := 0 }
def Q1_33 (Z : State) (a1 : Addr) (ka : ClassId) (p3 : Int32) (u0 : Int32) (u1 : Int32) (u2 : Int32) (u3 : Int32) (u4 : Int32) (u5 : Int32) (u6 : Int32) (u7 : Int32) (h0 : Heap) (n0 : Nat) (v : Option Value) (h : Heap) (L : List Loc) : Prop := v = none ∧ Fr n0 L ∧ Keep h0 h [a1] ∧ (Arv Z h a1 ka .byte (8 : Int32) [(.int u0), (.int u1), (.int u2), (.int (nar .byte (((224 : Int32) + (p3 / (4096 : Int32))).toInt8.toInt32))), (.int (nar .byte (((128 : Int32) + ((p3 / (64 : Int32)) % (64 : Int32))).toInt8.toInt32))), (.int (nar .byte (((128 : Int32) + (p3 % (64 : Int32))).toInt8.toInt32))), (.int u6), (.int u7)] (.int (0 : Int32)))
set_option maxRecDepth 65536 in
set_option maxHeartbeats 40000000 in
theorem rm1_33 (l : Launch) (Z : State) (a0 : Array Value) (hw : ∀ d ∈ tables_1, d.before a0 Z = true) (ws : List Jvm.Cond) (a1 : Addr) (ka : ClassId) (p3 : Int32) (u0 : Int32) (u1 : Int32) (u2 : Int32) (u3 : Int32) (u4 : Int32) (u5 : Int32) (u6 : Int32) (u7 : Int32) (h0 : Heap) (n0 : Nat) (Z0 : n0 ≤ h0.size) (pre_V_a1 : Arv Z h0 a1 ka .byte (8 : Int32) [(.int u0), (.int u1), (.int u2), (.int u3), (.int u4), (.int u5), (.int u6), (.int u7)] (.int (0 : Int32))) (pre_g_a1 : n0 ≤ a1) (hk1 : ¬ p3 < (128 : Int32)) (hk2 : ¬ p3 < (2048 : Int32)) (hk3 : p3 < (65536 : Int32)) :
    MetFree l (⟨"com/example/terseform/terseform/Utf8CodePointAtPinLaw", "put", "([BII)V"⟩ : MethodName) (head1 (Jvm.Cond.code (⟨"com/example/terseform/terseform/Utf8CodePointAtPinLaw", "put", "([BII)V"⟩ : MethodName) method_3_code 3 none :: ws) RM1_33) (fun a U => a = #[(.ref a1), (.int (3 : Int32)), (.int p3)] ∧ Z.Warmed39 U.vm ∧ U.heap = h0) (fun _ _ _ _ _ => True) (fun _ U o U' => ∃ v L, o = .returned v ∧ Q1_33 Z a1 ka p3 u0 u1 u2 u3 u4 u5 u6 u7 h0 n0 v U'.heap L ∧ FrameEnd U o U' L RM1_33.cells RM1_33.slots) := by
  refine met_of (Q := fun v h L => Q1_33 Z a1 ka p3 u0 u1 u2 u3 u4 u5 u6 u7 h0 n0 v h L) (plainFor_of_name pn_0) (fun m => by first | (simp [entryFrame, mkF, argsToLocals, Value.category]; done) | rfl) (Ls := #[.val (.ref a1), .val (.int (3 : Int32)), .val (.int p3)]) ?_
  intro p e s m below meth c T0 QQ hx hZ hby hml hown hnm hret hlk X0 e0 hQ
  have hml : c.maxLocals = 3 := hml
  have hown : s.vm.findClass "com/example/terseform/terseform/Utf8CodePointAtPinLaw" = some m.cls := hown
  have hnm : meth.name = "put" := hnm
  have hret : meth.sig.returnType = none := hret
  have N0 := Fr.nil n0
  have K0 : Keep h0 h0 [a1] := Keep.refl h0 _
  show GoW p e below QQ (T0.setTop (mkF m 0 #[.val (.ref a1), .val (.int (3 : Int32)), .val (.int p3)] []))
  refine GoW.st (fun t k => XS.iloadN X0.here hx rfl (hb hby d1_0) rfl (XS.sipush X0.here hx rfl (hb hby d1_1) k)) ?_
  show GoW p e below QQ (T0.setTop (mkF m 4 #[.val (.ref a1), .val (.int (3 : Int32)), .val (.int p3)] [(.int (128 : Int32)), (.int p3)]))
  have hc4 : ¬ (p3 < (128 : Int32)) := by
    exact hk1
  refine GoW.st (fun t k => XS.icmpYes X0.here hx rfl (pc0 := 4) (pc' := 15) rfl (hb hby d1_4) rfl (flt hc4).2.1 (by decide) (by decide) (XS.iloadN X0.here hx rfl (hb hby d1_15) rfl (XS.sipush X0.here hx rfl (hb hby d1_16) k))) ?_
  show GoW p e below QQ (T0.setTop (mkF m 19 #[.val (.ref a1), .val (.int (3 : Int32)), .val (.int p3)] [(.int (2048 : Int32)), (.int p3)]))
  have hc19 : ¬ (p3 < (2048 : Int32)) := by
    exact hk2
  refine GoW.st (fun t k => XS.icmpYes X0.here hx rfl (pc0 := 19) (pc' := 51) rfl (hb hby d1_19) rfl (flt hc19).2.1 (by decide) (by decide) (XS.iloadN X0.here hx rfl (hb hby d1_51) rfl (X0.ldcInt hx hown (mvT hZ (hw _ (List.mem_of_getElem? (i := 1) rfl))) (g := (mkF m 52 #[.val (.ref a1), .val (.int (3 : Int32)), .val (.int p3)] [(.int p3)])) rfl (hb hby d1_52) t k))) ?_
  show GoW p e below QQ (T0.setTop (mkF m 54 #[.val (.ref a1), .val (.int (3 : Int32)), .val (.int p3)] [(.int (65536 : Int32)), (.int p3)]))
  have hc54 : p3 < (65536 : Int32) := by
    exact hk3
  refine GoW.st (fun t k => XS.icmpNo X0.here hx rfl (hb hby d1_54) rfl (tlt hc54).2.1 (XS.aloadN X0.here hx rfl (hb hby d1_57) rfl rfl (XS.iloadN X0.here hx rfl (hb hby d1_58) rfl (XS.sipush X0.here hx rfl (hb hby d1_59) (XS.iloadN X0.here hx rfl (hb hby d1_62) rfl (XS.sipush X0.here hx rfl (hb hby d1_63) k)))))) ?_
  show GoW p e below QQ (T0.setTop (mkF m 66 #[.val (.ref a1), .val (.int (3 : Int32)), .val (.int p3)] [(.int (4096 : Int32)), (.int p3), (.int (224 : Int32)), (.int (3 : Int32)), (.ref a1)]))
  refine GoW.st (fun t k => XS.idiv X0.here hx rfl (hb hby d1_66) rfl (by decide) (XS.iadd X0.here hx rfl (hb hby d1_67) rfl (XS.i2b X0.here hx rfl (hb hby d1_68) rfl k))) ?_
  show GoW p e below QQ (T0.setTop (mkF m 69 #[.val (.ref a1), .val (.int (3 : Int32)), .val (.int p3)] [(.int (((224 : Int32) + (p3 / (4096 : Int32))).toInt8.toInt32)), (.int (3 : Int32)), (.ref a1)]))
  obtain ⟨T1, h1, X1, e1, W1, V1, st1⟩ := stVB X0 hx hZ e0 pre_V_a1 ⟨by decide, by decide⟩ 3 rfl (Nat.le_of_ble_eq_true rfl) (g := (mkF m 69 #[.val (.ref a1), .val (.int (3 : Int32)), .val (.int p3)] [(.int (((224 : Int32) + (p3 / (4096 : Int32))).toInt8.toInt32)), (.int (3 : Int32)), (.ref a1)])) rfl rfl (hb hby d1_69)
  refine GoW.st st1 ?_
  have f2_V_a1 : Arv Z h1 a1 ka .byte (8 : Int32) [(.int u0), (.int u1), (.int u2), (.int (nar .byte (((224 : Int32) + (p3 / (4096 : Int32))).toInt8.toInt32))), (.int u4), (.int u5), (.int u6), (.int u7)] (.int (0 : Int32)) := V1
  have K1 : Keep h0 h1 [a1] := K0.wr W1 (Or.inl (List.mem_of_getElem? (i := 0) rfl))
  have N1 := Fr.snoc X1 N0 pre_g_a1
  show GoW p e below QQ (T1.setTop (mkF m 70 #[.val (.ref a1), .val (.int (3 : Int32)), .val (.int p3)] []))
  refine GoW.st (fun t k => XS.aloadN X1.here hx rfl (hb hby d1_70) rfl rfl (XS.iloadN X1.here hx rfl (hb hby d1_71) rfl (XS.iconst X1.here hx rfl (hb hby d1_72) (XS.iadd X1.here hx rfl (hb hby d1_73) rfl (XS.sipush X1.here hx rfl (hb hby d1_74) (XS.iloadN X1.here hx rfl (hb hby d1_77) rfl k)))))) ?_
  show GoW p e below QQ (T1.setTop (mkF m 78 #[.val (.ref a1), .val (.int (3 : Int32)), .val (.int p3)] [(.int p3), (.int (128 : Int32)), (.int (4 : Int32)), (.ref a1)]))
  refine GoW.st (fun t k => XS.bipush X1.here hx rfl (hb hby d1_78) (XS.idiv X1.here hx rfl (hb hby d1_80) rfl (by decide) (XS.bipush X1.here hx rfl (hb hby d1_81) (iremM X1 hx rfl (hb hby d1_83) rfl (by decide) (XS.iadd X1.here hx rfl (hb hby d1_84) rfl (XS.i2b X1.here hx rfl (hb hby d1_85) rfl k)))))) ?_
  show GoW p e below QQ (T1.setTop (mkF m 86 #[.val (.ref a1), .val (.int (3 : Int32)), .val (.int p3)] [(.int (((128 : Int32) + ((p3 / (64 : Int32)) % (64 : Int32))).toInt8.toInt32)), (.int (4 : Int32)), (.ref a1)]))
  obtain ⟨T3, h3, X3, e3, W3, V3, st3⟩ := stVB X1 hx hZ e1 f2_V_a1 ⟨by decide, by decide⟩ 4 rfl (Nat.le_of_ble_eq_true rfl) (g := (mkF m 86 #[.val (.ref a1), .val (.int (3 : Int32)), .val (.int p3)] [(.int (((128 : Int32) + ((p3 / (64 : Int32)) % (64 : Int32))).toInt8.toInt32)), (.int (4 : Int32)), (.ref a1)])) rfl rfl (hb hby d1_86)
  refine GoW.st st3 ?_
  have f4_V_a1 : Arv Z h3 a1 ka .byte (8 : Int32) [(.int u0), (.int u1), (.int u2), (.int (nar .byte (((224 : Int32) + (p3 / (4096 : Int32))).toInt8.toInt32))), (.int (nar .byte (((128 : Int32) + ((p3 / (64 : Int32)) % (64 : Int32))).toInt8.toInt32))), (.int u5), (.int u6), (.int u7)] (.int (0 : Int32)) := V3
  have K3 : Keep h0 h3 [a1] := K1.wr W3 (Or.inl (List.mem_of_getElem? (i := 0) rfl))
  have N3 := Fr.snoc X3 N1 pre_g_a1
  show GoW p e below QQ (T3.setTop (mkF m 87 #[.val (.ref a1), .val (.int (3 : Int32)), .val (.int p3)] []))
  refine GoW.st (fun t k => XS.aloadN X3.here hx rfl (hb hby d1_87) rfl rfl (XS.iloadN X3.here hx rfl (hb hby d1_88) rfl (XS.iconst X3.here hx rfl (hb hby d1_89) (XS.iadd X3.here hx rfl (hb hby d1_90) rfl (XS.sipush X3.here hx rfl (hb hby d1_91) (XS.iloadN X3.here hx rfl (hb hby d1_94) rfl k)))))) ?_
  show GoW p e below QQ (T3.setTop (mkF m 95 #[.val (.ref a1), .val (.int (3 : Int32)), .val (.int p3)] [(.int p3), (.int (128 : Int32)), (.int (5 : Int32)), (.ref a1)]))
  refine GoW.st (fun t k => XS.bipush X3.here hx rfl (hb hby d1_95) (iremM X3 hx rfl (hb hby d1_97) rfl (by decide) (XS.iadd X3.here hx rfl (hb hby d1_98) rfl (XS.i2b X3.here hx rfl (hb hby d1_99) rfl k)))) ?_
  show GoW p e below QQ (T3.setTop (mkF m 100 #[.val (.ref a1), .val (.int (3 : Int32)), .val (.int p3)] [(.int (((128 : Int32) + (p3 % (64 : Int32))).toInt8.toInt32)), (.int (5 : Int32)), (.ref a1)]))
  obtain ⟨T5, h5, X5, e5, W5, V5, st5⟩ := stVB X3 hx hZ e3 f4_V_a1 ⟨by decide, by decide⟩ 5 rfl (Nat.le_of_ble_eq_true rfl) (g := (mkF m 100 #[.val (.ref a1), .val (.int (3 : Int32)), .val (.int p3)] [(.int (((128 : Int32) + (p3 % (64 : Int32))).toInt8.toInt32)), (.int (5 : Int32)), (.ref a1)])) rfl rfl (hb hby d1_100)
  refine GoW.st st5 ?_
  have f6_V_a1 : Arv Z h5 a1 ka .byte (8 : Int32) [(.int u0), (.int u1), (.int u2), (.int (nar .byte (((224 : Int32) + (p3 / (4096 : Int32))).toInt8.toInt32))), (.int (nar .byte (((128 : Int32) + ((p3 / (64 : Int32)) % (64 : Int32))).toInt8.toInt32))), (.int (nar .byte (((128 : Int32) + (p3 % (64 : Int32))).toInt8.toInt32))), (.int u6), (.int u7)] (.int (0 : Int32)) := V5
  have K5 : Keep h0 h5 [a1] := K3.wr W5 (Or.inl (List.mem_of_getElem? (i := 0) rfl))
  have N5 := Fr.snoc X5 N3 pre_g_a1
  show GoW p e below QQ (T5.setTop (mkF m 101 #[.val (.ref a1), .val (.int (3 : Int32)), .val (.int p3)] []))
  refine GoW.st (fun t k => XS.goto X5.here hx rfl (pc0 := 101) (pc' := 165) rfl (hb hby d1_101) (by decide) (by decide) k) ?_
  show GoW p e below QQ (T5.setTop (mkF m 165 #[.val (.ref a1), .val (.int (3 : Int32)), .val (.int p3)] []))
  exact GoW.fin X5 none (fun _ => rfl) hlk hQ e5 ⟨rfl, N5, K5, f6_V_a1⟩ (by decide) (by decide) (fun fs hr => X5.returnOut hx hret (hb hby d1_165) hr)
def RM2_33 : Room := { frames := 0, cells := 0, slots := 0, locals := 0 }
def Q2_33 (Z : State) (a1 : Addr) (ka : ClassId) (u0 : Int32) (u1 : Int32) (u2 : Int32) (u3 : Int32) (u4 : Int32) (u5 : Int32) (u6 : Int32) (u7 : Int32) (h0 : Heap) (n0 : Nat) (v : Option Value) (h : Heap) (L : List Loc) : Prop := v = some (.int (((((u3 &&& (255 : Int32)) &&& (15 : Int32)) <<< ((12 : Int32) &&& 31)) ||| ((u4 &&& (63 : Int32)) <<< ((6 : Int32) &&& 31))) ||| (u5 &&& (63 : Int32)))) ∧ Fr n0 L ∧ h = h0
set_option maxRecDepth 65536 in
set_option maxHeartbeats 40000000 in
theorem rm2_33 (l : Launch) (Z : State) (a0 : Array Value) (hw : ∀ d ∈ tables_1, d.before a0 Z = true) (ws : List Jvm.Cond) (a1 : Addr) (ka : ClassId) (u0 : Int32) (u1 : Int32) (u2 : Int32) (u3 : Int32) (u4 : Int32) (u5 : Int32) (u6 : Int32) (u7 : Int32) (h0 : Heap) (n0 : Nat) (Z0 : n0 ≤ h0.size) (pre_V_a1 : Arv Z h0 a1 ka .byte (8 : Int32) [(.int u0), (.int u1), (.int u2), (.int u3), (.int u4), (.int u5), (.int u6), (.int u7)] (.int (0 : Int32))) (g1_3 : ¬ (u3 &&& (255 : Int32)) < (128 : Int32)) (g2_3 : ¬ (u3 &&& (255 : Int32)) < (224 : Int32)) (g3_3 : (u3 &&& (255 : Int32)) < (240 : Int32)) :
    MetFree l (⟨"com/example/terseform/terseform/Utf8", "codePointAt", "([BI)I"⟩ : MethodName) (head1 (Jvm.Cond.code (⟨"com/example/terseform/terseform/Utf8", "codePointAt", "([BI)I"⟩ : MethodName) prog_36_method_9_code 4 (some .int) :: ws) RM2_33) (fun a U => a = #[(.ref a1), (.int (3 : Int32))] ∧ Z.Warmed39 U.vm ∧ U.heap = h0) (fun _ _ _ _ _ => True) (fun _ U o U' => ∃ v L, o = .returned v ∧ Q2_33 Z a1 ka u0 u1 u2 u3 u4 u5 u6 u7 h0 n0 v U'.heap L ∧ FrameEnd U o U' L RM2_33.cells RM2_33.slots) := by
  refine met_of (Q := fun v h L => Q2_33 Z a1 ka u0 u1 u2 u3 u4 u5 u6 u7 h0 n0 v h L) (plainFor_of_name pn_1) (fun m => by first | (simp [entryFrame, mkF, argsToLocals, Value.category]; done) | rfl) (Ls := #[.val (.ref a1), .val (.int (3 : Int32)), .unset, .unset]) ?_
  intro p e s m below meth c T0 QQ hx hZ hby hml hown hnm hret hlk X0 e0 hQ
  have hml : c.maxLocals = 4 := hml
  have hown : s.vm.findClass "com/example/terseform/terseform/Utf8" = some m.cls := hown
  have hnm : meth.name = "codePointAt" := hnm
  have hret : meth.sig.returnType = some .int := hret
  have N0 := Fr.nil n0
  have K0 : Keep h0 h0 [] := Keep.refl h0 _
  show GoW p e below QQ (T0.setTop (mkF m 0 #[.val (.ref a1), .val (.int (3 : Int32)), .unset, .unset] []))
  refine GoW.st (fun t k => XS.aloadN X0.here hx rfl (hb hby d2_0) rfl rfl (XS.iloadN X0.here hx rfl (hb hby d2_1) rfl (ldVB X0 hx hZ e0 pre_V_a1 (v := (.int u3)) ⟨by decide, by decide⟩ rfl (g := (mkF m 2 #[.val (.ref a1), .val (.int (3 : Int32)), .unset, .unset] [(.int (3 : Int32)), (.ref a1)])) rfl rfl (hb hby d2_2) t (XS.sipush X0.here hx rfl (hb hby d2_3) (XS.iand X0.here hx rfl (hb hby d2_6) rfl (XS.istoreN X0.here hx rfl (hb hby d2_7) rfl (l' := #[.val (.ref a1), .val (.int (3 : Int32)), .val (.int (u3 &&& (255 : Int32))), .unset]) rfl k)))))) ?_
  show GoW p e below QQ (T0.setTop (mkF m 8 #[.val (.ref a1), .val (.int (3 : Int32)), .val (.int (u3 &&& (255 : Int32))), .unset] []))
  generalize hv7 : (u3 &&& (255 : Int32)) = v7
  refine GoW.st (fun t k => XS.iloadN X0.here hx rfl (hb hby d2_8) rfl (XS.sipush X0.here hx rfl (hb hby d2_9) k)) ?_
  show GoW p e below QQ (T0.setTop (mkF m 12 #[.val (.ref a1), .val (.int (3 : Int32)), .val (.int v7), .unset] [(.int (128 : Int32)), (.int v7)]))
  have hc12 : ¬ (v7 < (128 : Int32)) := by
    subst hv7
    exact g1_3
  refine GoW.st (fun t k => XS.icmpYes X0.here hx rfl (pc0 := 12) (pc' := 20) rfl (hb hby d2_12) rfl (flt hc12).2.1 (by decide) (by decide) (XS.iloadN X0.here hx rfl (hb hby d2_20) rfl (XS.sipush X0.here hx rfl (hb hby d2_21) k))) ?_
  show GoW p e below QQ (T0.setTop (mkF m 24 #[.val (.ref a1), .val (.int (3 : Int32)), .val (.int v7), .unset] [(.int (224 : Int32)), (.int v7)]))
  have hc24 : ¬ (v7 < (224 : Int32)) := by
    subst hv7
    exact g2_3
  refine GoW.st (fun t k => XS.icmpYes X0.here hx rfl (pc0 := 24) (pc' := 47) rfl (hb hby d2_24) rfl (flt hc24).2.1 (by decide) (by decide) (XS.iloadN X0.here hx rfl (hb hby d2_47) rfl (XS.sipush X0.here hx rfl (hb hby d2_48) k))) ?_
  show GoW p e below QQ (T0.setTop (mkF m 51 #[.val (.ref a1), .val (.int (3 : Int32)), .val (.int v7), .unset] [(.int (240 : Int32)), (.int v7)]))
  have hc51 : v7 < (240 : Int32) := by
    subst hv7
    exact g3_3
  refine GoW.st (fun t k => XS.icmpNo X0.here hx rfl (hb hby d2_51) rfl (tlt hc51).2.1 (XS.iloadN X0.here hx rfl (hb hby d2_54) rfl (XS.bipush X0.here hx rfl (hb hby d2_55) (XS.iand X0.here hx rfl (hb hby d2_57) rfl (XS.bipush X0.here hx rfl (hb hby d2_58) (XS.ishl X0.here hx rfl (hb hby d2_60) rfl k)))))) ?_
  show GoW p e below QQ (T0.setTop (mkF m 61 #[.val (.ref a1), .val (.int (3 : Int32)), .val (.int v7), .unset] [(.int ((v7 &&& (15 : Int32)) <<< ((12 : Int32) &&& 31)))]))
  refine GoW.st (fun t k => XS.aloadN X0.here hx rfl (hb hby d2_61) rfl rfl (XS.iloadN X0.here hx rfl (hb hby d2_62) rfl (XS.iconst X0.here hx rfl (hb hby d2_63) (XS.iadd X0.here hx rfl (hb hby d2_64) rfl (ldVB X0 hx hZ e0 pre_V_a1 (v := (.int u4)) ⟨by decide, by decide⟩ rfl (g := (mkF m 65 #[.val (.ref a1), .val (.int (3 : Int32)), .val (.int v7), .unset] [(.int (4 : Int32)), (.ref a1), (.int ((v7 &&& (15 : Int32)) <<< ((12 : Int32) &&& 31)))])) rfl rfl (hb hby d2_65) t (XS.bipush X0.here hx rfl (hb hby d2_66) k)))))) ?_
  show GoW p e below QQ (T0.setTop (mkF m 68 #[.val (.ref a1), .val (.int (3 : Int32)), .val (.int v7), .unset] [(.int (63 : Int32)), (.int u4), (.int ((v7 &&& (15 : Int32)) <<< ((12 : Int32) &&& 31)))]))
  refine GoW.st (fun t k => XS.iand X0.here hx rfl (hb hby d2_68) rfl (XS.bipush X0.here hx rfl (hb hby d2_69) (XS.ishl X0.here hx rfl (hb hby d2_71) rfl (XS.ior X0.here hx rfl (hb hby d2_72) rfl (XS.aloadN X0.here hx rfl (hb hby d2_73) rfl rfl (XS.iloadN X0.here hx rfl (hb hby d2_74) rfl k)))))) ?_
  show GoW p e below QQ (T0.setTop (mkF m 75 #[.val (.ref a1), .val (.int (3 : Int32)), .val (.int v7), .unset] [(.int (3 : Int32)), (.ref a1), (.int (((v7 &&& (15 : Int32)) <<< ((12 : Int32) &&& 31)) ||| ((u4 &&& (63 : Int32)) <<< ((6 : Int32) &&& 31))))]))
  refine GoW.st (fun t k => XS.iconst X0.here hx rfl (hb hby d2_75) (XS.iadd X0.here hx rfl (hb hby d2_76) rfl (ldVB X0 hx hZ e0 pre_V_a1 (v := (.int u5)) ⟨by decide, by decide⟩ rfl (g := (mkF m 77 #[.val (.ref a1), .val (.int (3 : Int32)), .val (.int v7), .unset] [(.int (5 : Int32)), (.ref a1), (.int (((v7 &&& (15 : Int32)) <<< ((12 : Int32) &&& 31)) ||| ((u4 &&& (63 : Int32)) <<< ((6 : Int32) &&& 31))))])) rfl rfl (hb hby d2_77) t (XS.bipush X0.here hx rfl (hb hby d2_78) (XS.iand X0.here hx rfl (hb hby d2_80) rfl (XS.ior X0.here hx rfl (hb hby d2_81) rfl k)))))) ?_
  show GoW p e below QQ (T0.setTop (mkF m 82 #[.val (.ref a1), .val (.int (3 : Int32)), .val (.int v7), .unset] [(.int ((((v7 &&& (15 : Int32)) <<< ((12 : Int32) &&& 31)) ||| ((u4 &&& (63 : Int32)) <<< ((6 : Int32) &&& 31))) ||| (u5 &&& (63 : Int32))))]))
  refine GoW.st (fun t k => XS.istoreN X0.here hx rfl (hb hby d2_82) rfl (l' := #[.val (.ref a1), .val (.int (3 : Int32)), .val (.int v7), .val (.int ((((v7 &&& (15 : Int32)) <<< ((12 : Int32) &&& 31)) ||| ((u4 &&& (63 : Int32)) <<< ((6 : Int32) &&& 31))) ||| (u5 &&& (63 : Int32))))]) rfl k) ?_
  show GoW p e below QQ (T0.setTop (mkF m 83 #[.val (.ref a1), .val (.int (3 : Int32)), .val (.int v7), .val (.int ((((v7 &&& (15 : Int32)) <<< ((12 : Int32) &&& 31)) ||| ((u4 &&& (63 : Int32)) <<< ((6 : Int32) &&& 31))) ||| (u5 &&& (63 : Int32))))] []))
  generalize hv82 : ((((v7 &&& (15 : Int32)) <<< ((12 : Int32) &&& 31)) ||| ((u4 &&& (63 : Int32)) <<< ((6 : Int32) &&& 31))) ||| (u5 &&& (63 : Int32))) = v82
  refine GoW.st (fun t k => XS.goto X0.here hx rfl (pc0 := 83) (pc' := 127) rfl (hb hby d2_83) (by decide) (by decide) (XS.iloadN X0.here hx rfl (hb hby d2_127) rfl k)) ?_
  show GoW p e below QQ (T0.setTop (mkF m 128 #[.val (.ref a1), .val (.int (3 : Int32)), .val (.int v7), .val (.int v82)] [(.int v82)]))
  have rv : ((some (.int v82)) : Option Value) = some (.int (((((u3 &&& (255 : Int32)) &&& (15 : Int32)) <<< ((12 : Int32) &&& 31)) ||| ((u4 &&& (63 : Int32)) <<< ((6 : Int32) &&& 31))) ||| (u5 &&& (63 : Int32)))) := by
    subst_vars
    rfl
  exact GoW.fin X0 (some (.int v82)) (fun q => by rw [hret] at q; cases q) hlk hQ e0 ⟨rv, N0, rfl⟩ (by decide) (by decide) (fun fs hr => retI X0 hx hret (hb hby d2_128) hr)
theorem d1_104 : decode method_3_code 104 = .ok (.aload_n 0, 1) := by decide +kernel
theorem d1_105 : decode method_3_code 105 = .ok (.iload_n 1, 1) := by decide +kernel
theorem d1_106 : decode method_3_code 106 = .ok (.sipush 240, 3) := by decide +kernel
theorem d1_109 : decode method_3_code 109 = .ok (.iload_n 2, 1) := by decide +kernel
theorem d1_110 : decode method_3_code 110 = .ok (.ldc 23, 2) := by decide +kernel
theorem d1_112 : decode method_3_code 112 = .ok (.idiv, 1) := by decide +kernel
theorem d1_113 : decode method_3_code 113 = .ok (.iadd, 1) := by decide +kernel
theorem d1_114 : decode method_3_code 114 = .ok (.i2b, 1) := by decide +kernel
theorem d1_115 : decode method_3_code 115 = .ok (.bastore, 1) := by decide +kernel
theorem d1_116 : decode method_3_code 116 = .ok (.aload_n 0, 1) := by decide +kernel
theorem d1_117 : decode method_3_code 117 = .ok (.iload_n 1, 1) := by decide +kernel
theorem d1_118 : decode method_3_code 118 = .ok (.iconst 1, 1) := by decide +kernel
theorem d1_119 : decode method_3_code 119 = .ok (.iadd, 1) := by decide +kernel
theorem d1_120 : decode method_3_code 120 = .ok (.sipush 128, 3) := by decide +kernel
theorem d1_123 : decode method_3_code 123 = .ok (.iload_n 2, 1) := by decide +kernel
theorem d1_124 : decode method_3_code 124 = .ok (.sipush 4096, 3) := by decide +kernel
theorem d1_127 : decode method_3_code 127 = .ok (.idiv, 1) := by decide +kernel
theorem d1_128 : decode method_3_code 128 = .ok (.bipush 64, 2) := by decide +kernel
theorem d1_130 : decode method_3_code 130 = .ok (.irem, 1) := by decide +kernel
theorem d1_131 : decode method_3_code 131 = .ok (.iadd, 1) := by decide +kernel
theorem d1_132 : decode method_3_code 132 = .ok (.i2b, 1) := by decide +kernel
theorem d1_133 : decode method_3_code 133 = .ok (.bastore, 1) := by decide +kernel
theorem d1_134 : decode method_3_code 134 = .ok (.aload_n 0, 1) := by decide +kernel
theorem d1_135 : decode method_3_code 135 = .ok (.iload_n 1, 1) := by decide +kernel
theorem d1_136 : decode method_3_code 136 = .ok (.iconst 2, 1) := by decide +kernel
theorem d1_137 : decode method_3_code 137 = .ok (.iadd, 1) := by decide +kernel
theorem d1_138 : decode method_3_code 138 = .ok (.sipush 128, 3) := by decide +kernel
theorem d1_141 : decode method_3_code 141 = .ok (.iload_n 2, 1) := by decide +kernel
theorem d1_142 : decode method_3_code 142 = .ok (.bipush 64, 2) := by decide +kernel
theorem d1_144 : decode method_3_code 144 = .ok (.idiv, 1) := by decide +kernel
theorem d1_145 : decode method_3_code 145 = .ok (.bipush 64, 2) := by decide +kernel
theorem d1_147 : decode method_3_code 147 = .ok (.irem, 1) := by decide +kernel
theorem d1_148 : decode method_3_code 148 = .ok (.iadd, 1) := by decide +kernel
theorem d1_149 : decode method_3_code 149 = .ok (.i2b, 1) := by decide +kernel
theorem d1_150 : decode method_3_code 150 = .ok (.bastore, 1) := by decide +kernel
theorem d1_151 : decode method_3_code 151 = .ok (.aload_n 0, 1) := by decide +kernel
theorem d1_152 : decode method_3_code 152 = .ok (.iload_n 1, 1) := by decide +kernel
theorem d1_153 : decode method_3_code 153 = .ok (.iconst 3, 1) := by decide +kernel
theorem d1_154 : decode method_3_code 154 = .ok (.iadd, 1) := by decide +kernel
theorem d1_155 : decode method_3_code 155 = .ok (.sipush 128, 3) := by decide +kernel
theorem d1_158 : decode method_3_code 158 = .ok (.iload_n 2, 1) := by decide +kernel
theorem d1_159 : decode method_3_code 159 = .ok (.bipush 64, 2) := by decide +kernel
theorem d1_161 : decode method_3_code 161 = .ok (.irem, 1) := by decide +kernel
theorem d1_162 : decode method_3_code 162 = .ok (.iadd, 1) := by decide +kernel
theorem d1_163 : decode method_3_code 163 = .ok (.i2b, 1) := by decide +kernel
theorem d1_164 : decode method_3_code 164 = .ok (.bastore, 1) := by decide +kernel
def RM1_04 : Room := { frames := 0, cells := 0, slots := 0, locals := 0 }
def Q1_04 (Z : State) (a1 : Addr) (ka : ClassId) (p3 : Int32) (u0 : Int32) (u1 : Int32) (u2 : Int32) (u3 : Int32) (u4 : Int32) (u5 : Int32) (u6 : Int32) (u7 : Int32) (h0 : Heap) (n0 : Nat) (v : Option Value) (h : Heap) (L : List Loc) : Prop := v = none ∧ Fr n0 L ∧ Keep h0 h [a1] ∧ (Arv Z h a1 ka .byte (8 : Int32) [(.int (nar .byte (((240 : Int32) + (p3 / (262144 : Int32))).toInt8.toInt32))), (.int (nar .byte (((128 : Int32) + ((p3 / (4096 : Int32)) % (64 : Int32))).toInt8.toInt32))), (.int (nar .byte (((128 : Int32) + ((p3 / (64 : Int32)) % (64 : Int32))).toInt8.toInt32))), (.int (nar .byte (((128 : Int32) + (p3 % (64 : Int32))).toInt8.toInt32))), (.int u4), (.int u5), (.int u6), (.int u7)] (.int (0 : Int32)))
set_option maxRecDepth 65536 in
set_option maxHeartbeats 40000000 in
theorem rm1_04 (l : Launch) (Z : State) (a0 : Array Value) (hw : ∀ d ∈ tables_1, d.before a0 Z = true) (ws : List Jvm.Cond) (a1 : Addr) (ka : ClassId) (p3 : Int32) (u0 : Int32) (u1 : Int32) (u2 : Int32) (u3 : Int32) (u4 : Int32) (u5 : Int32) (u6 : Int32) (u7 : Int32) (h0 : Heap) (n0 : Nat) (Z0 : n0 ≤ h0.size) (pre_V_a1 : Arv Z h0 a1 ka .byte (8 : Int32) [(.int u0), (.int u1), (.int u2), (.int u3), (.int u4), (.int u5), (.int u6), (.int u7)] (.int (0 : Int32))) (pre_g_a1 : n0 ≤ a1) (hk1 : ¬ p3 < (128 : Int32)) (hk2 : ¬ p3 < (2048 : Int32)) (hk3 : ¬ p3 < (65536 : Int32)) :
    MetFree l (⟨"com/example/terseform/terseform/Utf8CodePointAtPinLaw", "put", "([BII)V"⟩ : MethodName) (head1 (Jvm.Cond.code (⟨"com/example/terseform/terseform/Utf8CodePointAtPinLaw", "put", "([BII)V"⟩ : MethodName) method_3_code 3 none :: ws) RM1_04) (fun a U => a = #[(.ref a1), (.int (0 : Int32)), (.int p3)] ∧ Z.Warmed39 U.vm ∧ U.heap = h0) (fun _ _ _ _ _ => True) (fun _ U o U' => ∃ v L, o = .returned v ∧ Q1_04 Z a1 ka p3 u0 u1 u2 u3 u4 u5 u6 u7 h0 n0 v U'.heap L ∧ FrameEnd U o U' L RM1_04.cells RM1_04.slots) := by
  refine met_of (Q := fun v h L => Q1_04 Z a1 ka p3 u0 u1 u2 u3 u4 u5 u6 u7 h0 n0 v h L) (plainFor_of_name pn_0) (fun m => by first | (simp [entryFrame, mkF, argsToLocals, Value.category]; done) | rfl) (Ls := #[.val (.ref a1), .val (.int (0 : Int32)), .val (.int p3)]) ?_
  intro p e s m below meth c T0 QQ hx hZ hby hml hown hnm hret hlk X0 e0 hQ
  have hml : c.maxLocals = 3 := hml
  have hown : s.vm.findClass "com/example/terseform/terseform/Utf8CodePointAtPinLaw" = some m.cls := hown
  have hnm : meth.name = "put" := hnm
  have hret : meth.sig.returnType = none := hret
  have N0 := Fr.nil n0
  have K0 : Keep h0 h0 [a1] := Keep.refl h0 _
  show GoW p e below QQ (T0.setTop (mkF m 0 #[.val (.ref a1), .val (.int (0 : Int32)), .val (.int p3)] []))
  refine GoW.st (fun t k => XS.iloadN X0.here hx rfl (hb hby d1_0) rfl (XS.sipush X0.here hx rfl (hb hby d1_1) k)) ?_
  show GoW p e below QQ (T0.setTop (mkF m 4 #[.val (.ref a1), .val (.int (0 : Int32)), .val (.int p3)] [(.int (128 : Int32)), (.int p3)]))
  have hc4 : ¬ (p3 < (128 : Int32)) := by
    exact hk1
  refine GoW.st (fun t k => XS.icmpYes X0.here hx rfl (pc0 := 4) (pc' := 15) rfl (hb hby d1_4) rfl (flt hc4).2.1 (by decide) (by decide) (XS.iloadN X0.here hx rfl (hb hby d1_15) rfl (XS.sipush X0.here hx rfl (hb hby d1_16) k))) ?_
  show GoW p e below QQ (T0.setTop (mkF m 19 #[.val (.ref a1), .val (.int (0 : Int32)), .val (.int p3)] [(.int (2048 : Int32)), (.int p3)]))
  have hc19 : ¬ (p3 < (2048 : Int32)) := by
    exact hk2
  refine GoW.st (fun t k => XS.icmpYes X0.here hx rfl (pc0 := 19) (pc' := 51) rfl (hb hby d1_19) rfl (flt hc19).2.1 (by decide) (by decide) (XS.iloadN X0.here hx rfl (hb hby d1_51) rfl (X0.ldcInt hx hown (mvT hZ (hw _ (List.mem_of_getElem? (i := 1) rfl))) (g := (mkF m 52 #[.val (.ref a1), .val (.int (0 : Int32)), .val (.int p3)] [(.int p3)])) rfl (hb hby d1_52) t k))) ?_
  show GoW p e below QQ (T0.setTop (mkF m 54 #[.val (.ref a1), .val (.int (0 : Int32)), .val (.int p3)] [(.int (65536 : Int32)), (.int p3)]))
  have hc54 : ¬ (p3 < (65536 : Int32)) := by
    exact hk3
  refine GoW.st (fun t k => XS.icmpYes X0.here hx rfl (pc0 := 54) (pc' := 104) rfl (hb hby d1_54) rfl (flt hc54).2.1 (by decide) (by decide) (XS.aloadN X0.here hx rfl (hb hby d1_104) rfl rfl (XS.iloadN X0.here hx rfl (hb hby d1_105) rfl (XS.sipush X0.here hx rfl (hb hby d1_106) (XS.iloadN X0.here hx rfl (hb hby d1_109) rfl (X0.ldcInt hx hown (mvT hZ (hw _ (List.mem_of_getElem? (i := 8) rfl))) (g := (mkF m 110 #[.val (.ref a1), .val (.int (0 : Int32)), .val (.int p3)] [(.int p3), (.int (240 : Int32)), (.int (0 : Int32)), (.ref a1)])) rfl (hb hby d1_110) t k)))))) ?_
  show GoW p e below QQ (T0.setTop (mkF m 112 #[.val (.ref a1), .val (.int (0 : Int32)), .val (.int p3)] [(.int (262144 : Int32)), (.int p3), (.int (240 : Int32)), (.int (0 : Int32)), (.ref a1)]))
  refine GoW.st (fun t k => XS.idiv X0.here hx rfl (hb hby d1_112) rfl (by decide) (XS.iadd X0.here hx rfl (hb hby d1_113) rfl (XS.i2b X0.here hx rfl (hb hby d1_114) rfl k))) ?_
  show GoW p e below QQ (T0.setTop (mkF m 115 #[.val (.ref a1), .val (.int (0 : Int32)), .val (.int p3)] [(.int (((240 : Int32) + (p3 / (262144 : Int32))).toInt8.toInt32)), (.int (0 : Int32)), (.ref a1)]))
  obtain ⟨T1, h1, X1, e1, W1, V1, st1⟩ := stVB X0 hx hZ e0 pre_V_a1 ⟨by decide, by decide⟩ 0 rfl (Nat.le_of_ble_eq_true rfl) (g := (mkF m 115 #[.val (.ref a1), .val (.int (0 : Int32)), .val (.int p3)] [(.int (((240 : Int32) + (p3 / (262144 : Int32))).toInt8.toInt32)), (.int (0 : Int32)), (.ref a1)])) rfl rfl (hb hby d1_115)
  refine GoW.st st1 ?_
  have f2_V_a1 : Arv Z h1 a1 ka .byte (8 : Int32) [(.int (nar .byte (((240 : Int32) + (p3 / (262144 : Int32))).toInt8.toInt32))), (.int u1), (.int u2), (.int u3), (.int u4), (.int u5), (.int u6), (.int u7)] (.int (0 : Int32)) := V1
  have K1 : Keep h0 h1 [a1] := K0.wr W1 (Or.inl (List.mem_of_getElem? (i := 0) rfl))
  have N1 := Fr.snoc X1 N0 pre_g_a1
  show GoW p e below QQ (T1.setTop (mkF m 116 #[.val (.ref a1), .val (.int (0 : Int32)), .val (.int p3)] []))
  refine GoW.st (fun t k => XS.aloadN X1.here hx rfl (hb hby d1_116) rfl rfl (XS.iloadN X1.here hx rfl (hb hby d1_117) rfl (XS.iconst X1.here hx rfl (hb hby d1_118) (XS.iadd X1.here hx rfl (hb hby d1_119) rfl (XS.sipush X1.here hx rfl (hb hby d1_120) (XS.iloadN X1.here hx rfl (hb hby d1_123) rfl k)))))) ?_
  show GoW p e below QQ (T1.setTop (mkF m 124 #[.val (.ref a1), .val (.int (0 : Int32)), .val (.int p3)] [(.int p3), (.int (128 : Int32)), (.int (1 : Int32)), (.ref a1)]))
  refine GoW.st (fun t k => XS.sipush X1.here hx rfl (hb hby d1_124) (XS.idiv X1.here hx rfl (hb hby d1_127) rfl (by decide) (XS.bipush X1.here hx rfl (hb hby d1_128) (iremM X1 hx rfl (hb hby d1_130) rfl (by decide) (XS.iadd X1.here hx rfl (hb hby d1_131) rfl (XS.i2b X1.here hx rfl (hb hby d1_132) rfl k)))))) ?_
  show GoW p e below QQ (T1.setTop (mkF m 133 #[.val (.ref a1), .val (.int (0 : Int32)), .val (.int p3)] [(.int (((128 : Int32) + ((p3 / (4096 : Int32)) % (64 : Int32))).toInt8.toInt32)), (.int (1 : Int32)), (.ref a1)]))
  obtain ⟨T3, h3, X3, e3, W3, V3, st3⟩ := stVB X1 hx hZ e1 f2_V_a1 ⟨by decide, by decide⟩ 1 rfl (Nat.le_of_ble_eq_true rfl) (g := (mkF m 133 #[.val (.ref a1), .val (.int (0 : Int32)), .val (.int p3)] [(.int (((128 : Int32) + ((p3 / (4096 : Int32)) % (64 : Int32))).toInt8.toInt32)), (.int (1 : Int32)), (.ref a1)])) rfl rfl (hb hby d1_133)
  refine GoW.st st3 ?_
  have f4_V_a1 : Arv Z h3 a1 ka .byte (8 : Int32) [(.int (nar .byte (((240 : Int32) + (p3 / (262144 : Int32))).toInt8.toInt32))), (.int (nar .byte (((128 : Int32) + ((p3 / (4096 : Int32)) % (64 : Int32))).toInt8.toInt32))), (.int u2), (.int u3), (.int u4), (.int u5), (.int u6), (.int u7)] (.int (0 : Int32)) := V3
  have K3 : Keep h0 h3 [a1] := K1.wr W3 (Or.inl (List.mem_of_getElem? (i := 0) rfl))
  have N3 := Fr.snoc X3 N1 pre_g_a1
  show GoW p e below QQ (T3.setTop (mkF m 134 #[.val (.ref a1), .val (.int (0 : Int32)), .val (.int p3)] []))
  refine GoW.st (fun t k => XS.aloadN X3.here hx rfl (hb hby d1_134) rfl rfl (XS.iloadN X3.here hx rfl (hb hby d1_135) rfl (XS.iconst X3.here hx rfl (hb hby d1_136) (XS.iadd X3.here hx rfl (hb hby d1_137) rfl (XS.sipush X3.here hx rfl (hb hby d1_138) (XS.iloadN X3.here hx rfl (hb hby d1_141) rfl k)))))) ?_
  show GoW p e below QQ (T3.setTop (mkF m 142 #[.val (.ref a1), .val (.int (0 : Int32)), .val (.int p3)] [(.int p3), (.int (128 : Int32)), (.int (2 : Int32)), (.ref a1)]))
  refine GoW.st (fun t k => XS.bipush X3.here hx rfl (hb hby d1_142) (XS.idiv X3.here hx rfl (hb hby d1_144) rfl (by decide) (XS.bipush X3.here hx rfl (hb hby d1_145) (iremM X3 hx rfl (hb hby d1_147) rfl (by decide) (XS.iadd X3.here hx rfl (hb hby d1_148) rfl (XS.i2b X3.here hx rfl (hb hby d1_149) rfl k)))))) ?_
  show GoW p e below QQ (T3.setTop (mkF m 150 #[.val (.ref a1), .val (.int (0 : Int32)), .val (.int p3)] [(.int (((128 : Int32) + ((p3 / (64 : Int32)) % (64 : Int32))).toInt8.toInt32)), (.int (2 : Int32)), (.ref a1)]))
  obtain ⟨T5, h5, X5, e5, W5, V5, st5⟩ := stVB X3 hx hZ e3 f4_V_a1 ⟨by decide, by decide⟩ 2 rfl (Nat.le_of_ble_eq_true rfl) (g := (mkF m 150 #[.val (.ref a1), .val (.int (0 : Int32)), .val (.int p3)] [(.int (((128 : Int32) + ((p3 / (64 : Int32)) % (64 : Int32))).toInt8.toInt32)), (.int (2 : Int32)), (.ref a1)])) rfl rfl (hb hby d1_150)
  refine GoW.st st5 ?_
  have f6_V_a1 : Arv Z h5 a1 ka .byte (8 : Int32) [(.int (nar .byte (((240 : Int32) + (p3 / (262144 : Int32))).toInt8.toInt32))), (.int (nar .byte (((128 : Int32) + ((p3 / (4096 : Int32)) % (64 : Int32))).toInt8.toInt32))), (.int (nar .byte (((128 : Int32) + ((p3 / (64 : Int32)) % (64 : Int32))).toInt8.toInt32))), (.int u3), (.int u4), (.int u5), (.int u6), (.int u7)] (.int (0 : Int32)) := V5
  have K5 : Keep h0 h5 [a1] := K3.wr W5 (Or.inl (List.mem_of_getElem? (i := 0) rfl))
  have N5 := Fr.snoc X5 N3 pre_g_a1
  show GoW p e below QQ (T5.setTop (mkF m 151 #[.val (.ref a1), .val (.int (0 : Int32)), .val (.int p3)] []))
  refine GoW.st (fun t k => XS.aloadN X5.here hx rfl (hb hby d1_151) rfl rfl (XS.iloadN X5.here hx rfl (hb hby d1_152) rfl (XS.iconst X5.here hx rfl (hb hby d1_153) (XS.iadd X5.here hx rfl (hb hby d1_154) rfl (XS.sipush X5.here hx rfl (hb hby d1_155) (XS.iloadN X5.here hx rfl (hb hby d1_158) rfl k)))))) ?_
  show GoW p e below QQ (T5.setTop (mkF m 159 #[.val (.ref a1), .val (.int (0 : Int32)), .val (.int p3)] [(.int p3), (.int (128 : Int32)), (.int (3 : Int32)), (.ref a1)]))
  refine GoW.st (fun t k => XS.bipush X5.here hx rfl (hb hby d1_159) (iremM X5 hx rfl (hb hby d1_161) rfl (by decide) (XS.iadd X5.here hx rfl (hb hby d1_162) rfl (XS.i2b X5.here hx rfl (hb hby d1_163) rfl k)))) ?_
  show GoW p e below QQ (T5.setTop (mkF m 164 #[.val (.ref a1), .val (.int (0 : Int32)), .val (.int p3)] [(.int (((128 : Int32) + (p3 % (64 : Int32))).toInt8.toInt32)), (.int (3 : Int32)), (.ref a1)]))
  obtain ⟨T7, h7, X7, e7, W7, V7, st7⟩ := stVB X5 hx hZ e5 f6_V_a1 ⟨by decide, by decide⟩ 3 rfl (Nat.le_of_ble_eq_true rfl) (g := (mkF m 164 #[.val (.ref a1), .val (.int (0 : Int32)), .val (.int p3)] [(.int (((128 : Int32) + (p3 % (64 : Int32))).toInt8.toInt32)), (.int (3 : Int32)), (.ref a1)])) rfl rfl (hb hby d1_164)
  refine GoW.st st7 ?_
  have f8_V_a1 : Arv Z h7 a1 ka .byte (8 : Int32) [(.int (nar .byte (((240 : Int32) + (p3 / (262144 : Int32))).toInt8.toInt32))), (.int (nar .byte (((128 : Int32) + ((p3 / (4096 : Int32)) % (64 : Int32))).toInt8.toInt32))), (.int (nar .byte (((128 : Int32) + ((p3 / (64 : Int32)) % (64 : Int32))).toInt8.toInt32))), (.int (nar .byte (((128 : Int32) + (p3 % (64 : Int32))).toInt8.toInt32))), (.int u4), (.int u5), (.int u6), (.int u7)] (.int (0 : Int32)) := V7
  have K7 : Keep h0 h7 [a1] := K5.wr W7 (Or.inl (List.mem_of_getElem? (i := 0) rfl))
  have N7 := Fr.snoc X7 N5 pre_g_a1
  show GoW p e below QQ (T7.setTop (mkF m 165 #[.val (.ref a1), .val (.int (0 : Int32)), .val (.int p3)] []))
  exact GoW.fin X7 none (fun _ => rfl) hlk hQ e7 ⟨rfl, N7, K7, f8_V_a1⟩ (by decide) (by decide) (fun fs hr => X7.returnOut hx hret (hb hby d1_165) hr)
theorem d2_86 : decode prog_36_method_9_code 86 = .ok (.iload_n 2, 1) := by decide +kernel
theorem d2_87 : decode prog_36_method_9_code 87 = .ok (.bipush 7, 2) := by decide +kernel
theorem d2_89 : decode prog_36_method_9_code 89 = .ok (.iand, 1) := by decide +kernel
theorem d2_90 : decode prog_36_method_9_code 90 = .ok (.bipush 18, 2) := by decide +kernel
theorem d2_92 : decode prog_36_method_9_code 92 = .ok (.ishl, 1) := by decide +kernel
theorem d2_93 : decode prog_36_method_9_code 93 = .ok (.aload_n 0, 1) := by decide +kernel
theorem d2_94 : decode prog_36_method_9_code 94 = .ok (.iload_n 1, 1) := by decide +kernel
theorem d2_95 : decode prog_36_method_9_code 95 = .ok (.iconst 1, 1) := by decide +kernel
theorem d2_96 : decode prog_36_method_9_code 96 = .ok (.iadd, 1) := by decide +kernel
theorem d2_97 : decode prog_36_method_9_code 97 = .ok (.baload, 1) := by decide +kernel
theorem d2_98 : decode prog_36_method_9_code 98 = .ok (.bipush 63, 2) := by decide +kernel
theorem d2_100 : decode prog_36_method_9_code 100 = .ok (.iand, 1) := by decide +kernel
theorem d2_101 : decode prog_36_method_9_code 101 = .ok (.bipush 12, 2) := by decide +kernel
theorem d2_103 : decode prog_36_method_9_code 103 = .ok (.ishl, 1) := by decide +kernel
theorem d2_104 : decode prog_36_method_9_code 104 = .ok (.ior, 1) := by decide +kernel
theorem d2_105 : decode prog_36_method_9_code 105 = .ok (.aload_n 0, 1) := by decide +kernel
theorem d2_106 : decode prog_36_method_9_code 106 = .ok (.iload_n 1, 1) := by decide +kernel
theorem d2_107 : decode prog_36_method_9_code 107 = .ok (.iconst 2, 1) := by decide +kernel
theorem d2_108 : decode prog_36_method_9_code 108 = .ok (.iadd, 1) := by decide +kernel
theorem d2_109 : decode prog_36_method_9_code 109 = .ok (.baload, 1) := by decide +kernel
theorem d2_110 : decode prog_36_method_9_code 110 = .ok (.bipush 63, 2) := by decide +kernel
theorem d2_112 : decode prog_36_method_9_code 112 = .ok (.iand, 1) := by decide +kernel
theorem d2_113 : decode prog_36_method_9_code 113 = .ok (.bipush 6, 2) := by decide +kernel
theorem d2_115 : decode prog_36_method_9_code 115 = .ok (.ishl, 1) := by decide +kernel
theorem d2_116 : decode prog_36_method_9_code 116 = .ok (.ior, 1) := by decide +kernel
theorem d2_117 : decode prog_36_method_9_code 117 = .ok (.aload_n 0, 1) := by decide +kernel
theorem d2_118 : decode prog_36_method_9_code 118 = .ok (.iload_n 1, 1) := by decide +kernel
theorem d2_119 : decode prog_36_method_9_code 119 = .ok (.iconst 3, 1) := by decide +kernel
theorem d2_120 : decode prog_36_method_9_code 120 = .ok (.iadd, 1) := by decide +kernel
theorem d2_121 : decode prog_36_method_9_code 121 = .ok (.baload, 1) := by decide +kernel
theorem d2_122 : decode prog_36_method_9_code 122 = .ok (.bipush 63, 2) := by decide +kernel
theorem d2_124 : decode prog_36_method_9_code 124 = .ok (.iand, 1) := by decide +kernel
theorem d2_125 : decode prog_36_method_9_code 125 = .ok (.ior, 1) := by decide +kernel
theorem d2_126 : decode prog_36_method_9_code 126 = .ok (.istore_n 3, 1) := by decide +kernel
def RM2_04 : Room := { frames := 0, cells := 0, slots := 0, locals := 0 }
def Q2_04 (Z : State) (a1 : Addr) (ka : ClassId) (u0 : Int32) (u1 : Int32) (u2 : Int32) (u3 : Int32) (u4 : Int32) (u5 : Int32) (u6 : Int32) (u7 : Int32) (h0 : Heap) (n0 : Nat) (v : Option Value) (h : Heap) (L : List Loc) : Prop := v = some (.int ((((((u0 &&& (255 : Int32)) &&& (7 : Int32)) <<< ((18 : Int32) &&& 31)) ||| ((u1 &&& (63 : Int32)) <<< ((12 : Int32) &&& 31))) ||| ((u2 &&& (63 : Int32)) <<< ((6 : Int32) &&& 31))) ||| (u3 &&& (63 : Int32)))) ∧ Fr n0 L ∧ h = h0
set_option maxRecDepth 65536 in
set_option maxHeartbeats 40000000 in
theorem rm2_04 (l : Launch) (Z : State) (a0 : Array Value) (hw : ∀ d ∈ tables_1, d.before a0 Z = true) (ws : List Jvm.Cond) (a1 : Addr) (ka : ClassId) (u0 : Int32) (u1 : Int32) (u2 : Int32) (u3 : Int32) (u4 : Int32) (u5 : Int32) (u6 : Int32) (u7 : Int32) (h0 : Heap) (n0 : Nat) (Z0 : n0 ≤ h0.size) (pre_V_a1 : Arv Z h0 a1 ka .byte (8 : Int32) [(.int u0), (.int u1), (.int u2), (.int u3), (.int u4), (.int u5), (.int u6), (.int u7)] (.int (0 : Int32))) (g1_4 : ¬ (u0 &&& (255 : Int32)) < (128 : Int32)) (g2_4 : ¬ (u0 &&& (255 : Int32)) < (224 : Int32)) (g3_4 : ¬ (u0 &&& (255 : Int32)) < (240 : Int32)) :
    MetFree l (⟨"com/example/terseform/terseform/Utf8", "codePointAt", "([BI)I"⟩ : MethodName) (head1 (Jvm.Cond.code (⟨"com/example/terseform/terseform/Utf8", "codePointAt", "([BI)I"⟩ : MethodName) prog_36_method_9_code 4 (some .int) :: ws) RM2_04) (fun a U => a = #[(.ref a1), (.int (0 : Int32))] ∧ Z.Warmed39 U.vm ∧ U.heap = h0) (fun _ _ _ _ _ => True) (fun _ U o U' => ∃ v L, o = .returned v ∧ Q2_04 Z a1 ka u0 u1 u2 u3 u4 u5 u6 u7 h0 n0 v U'.heap L ∧ FrameEnd U o U' L RM2_04.cells RM2_04.slots) := by
  refine met_of (Q := fun v h L => Q2_04 Z a1 ka u0 u1 u2 u3 u4 u5 u6 u7 h0 n0 v h L) (plainFor_of_name pn_1) (fun m => by first | (simp [entryFrame, mkF, argsToLocals, Value.category]; done) | rfl) (Ls := #[.val (.ref a1), .val (.int (0 : Int32)), .unset, .unset]) ?_
  intro p e s m below meth c T0 QQ hx hZ hby hml hown hnm hret hlk X0 e0 hQ
  have hml : c.maxLocals = 4 := hml
  have hown : s.vm.findClass "com/example/terseform/terseform/Utf8" = some m.cls := hown
  have hnm : meth.name = "codePointAt" := hnm
  have hret : meth.sig.returnType = some .int := hret
  have N0 := Fr.nil n0
  have K0 : Keep h0 h0 [] := Keep.refl h0 _
  show GoW p e below QQ (T0.setTop (mkF m 0 #[.val (.ref a1), .val (.int (0 : Int32)), .unset, .unset] []))
  refine GoW.st (fun t k => XS.aloadN X0.here hx rfl (hb hby d2_0) rfl rfl (XS.iloadN X0.here hx rfl (hb hby d2_1) rfl (ldVB X0 hx hZ e0 pre_V_a1 (v := (.int u0)) ⟨by decide, by decide⟩ rfl (g := (mkF m 2 #[.val (.ref a1), .val (.int (0 : Int32)), .unset, .unset] [(.int (0 : Int32)), (.ref a1)])) rfl rfl (hb hby d2_2) t (XS.sipush X0.here hx rfl (hb hby d2_3) (XS.iand X0.here hx rfl (hb hby d2_6) rfl (XS.istoreN X0.here hx rfl (hb hby d2_7) rfl (l' := #[.val (.ref a1), .val (.int (0 : Int32)), .val (.int (u0 &&& (255 : Int32))), .unset]) rfl k)))))) ?_
  show GoW p e below QQ (T0.setTop (mkF m 8 #[.val (.ref a1), .val (.int (0 : Int32)), .val (.int (u0 &&& (255 : Int32))), .unset] []))
  generalize hv7 : (u0 &&& (255 : Int32)) = v7
  refine GoW.st (fun t k => XS.iloadN X0.here hx rfl (hb hby d2_8) rfl (XS.sipush X0.here hx rfl (hb hby d2_9) k)) ?_
  show GoW p e below QQ (T0.setTop (mkF m 12 #[.val (.ref a1), .val (.int (0 : Int32)), .val (.int v7), .unset] [(.int (128 : Int32)), (.int v7)]))
  have hc12 : ¬ (v7 < (128 : Int32)) := by
    subst hv7
    exact g1_4
  refine GoW.st (fun t k => XS.icmpYes X0.here hx rfl (pc0 := 12) (pc' := 20) rfl (hb hby d2_12) rfl (flt hc12).2.1 (by decide) (by decide) (XS.iloadN X0.here hx rfl (hb hby d2_20) rfl (XS.sipush X0.here hx rfl (hb hby d2_21) k))) ?_
  show GoW p e below QQ (T0.setTop (mkF m 24 #[.val (.ref a1), .val (.int (0 : Int32)), .val (.int v7), .unset] [(.int (224 : Int32)), (.int v7)]))
  have hc24 : ¬ (v7 < (224 : Int32)) := by
    subst hv7
    exact g2_4
  refine GoW.st (fun t k => XS.icmpYes X0.here hx rfl (pc0 := 24) (pc' := 47) rfl (hb hby d2_24) rfl (flt hc24).2.1 (by decide) (by decide) (XS.iloadN X0.here hx rfl (hb hby d2_47) rfl (XS.sipush X0.here hx rfl (hb hby d2_48) k))) ?_
  show GoW p e below QQ (T0.setTop (mkF m 51 #[.val (.ref a1), .val (.int (0 : Int32)), .val (.int v7), .unset] [(.int (240 : Int32)), (.int v7)]))
  have hc51 : ¬ (v7 < (240 : Int32)) := by
    subst hv7
    exact g3_4
  refine GoW.st (fun t k => XS.icmpYes X0.here hx rfl (pc0 := 51) (pc' := 86) rfl (hb hby d2_51) rfl (flt hc51).2.1 (by decide) (by decide) (XS.iloadN X0.here hx rfl (hb hby d2_86) rfl (XS.bipush X0.here hx rfl (hb hby d2_87) (XS.iand X0.here hx rfl (hb hby d2_89) rfl (XS.bipush X0.here hx rfl (hb hby d2_90) (XS.ishl X0.here hx rfl (hb hby d2_92) rfl k)))))) ?_
  show GoW p e below QQ (T0.setTop (mkF m 93 #[.val (.ref a1), .val (.int (0 : Int32)), .val (.int v7), .unset] [(.int ((v7 &&& (7 : Int32)) <<< ((18 : Int32) &&& 31)))]))
  refine GoW.st (fun t k => XS.aloadN X0.here hx rfl (hb hby d2_93) rfl rfl (XS.iloadN X0.here hx rfl (hb hby d2_94) rfl (XS.iconst X0.here hx rfl (hb hby d2_95) (XS.iadd X0.here hx rfl (hb hby d2_96) rfl (ldVB X0 hx hZ e0 pre_V_a1 (v := (.int u1)) ⟨by decide, by decide⟩ rfl (g := (mkF m 97 #[.val (.ref a1), .val (.int (0 : Int32)), .val (.int v7), .unset] [(.int (1 : Int32)), (.ref a1), (.int ((v7 &&& (7 : Int32)) <<< ((18 : Int32) &&& 31)))])) rfl rfl (hb hby d2_97) t (XS.bipush X0.here hx rfl (hb hby d2_98) k)))))) ?_
  show GoW p e below QQ (T0.setTop (mkF m 100 #[.val (.ref a1), .val (.int (0 : Int32)), .val (.int v7), .unset] [(.int (63 : Int32)), (.int u1), (.int ((v7 &&& (7 : Int32)) <<< ((18 : Int32) &&& 31)))]))
  refine GoW.st (fun t k => XS.iand X0.here hx rfl (hb hby d2_100) rfl (XS.bipush X0.here hx rfl (hb hby d2_101) (XS.ishl X0.here hx rfl (hb hby d2_103) rfl (XS.ior X0.here hx rfl (hb hby d2_104) rfl (XS.aloadN X0.here hx rfl (hb hby d2_105) rfl rfl (XS.iloadN X0.here hx rfl (hb hby d2_106) rfl k)))))) ?_
  show GoW p e below QQ (T0.setTop (mkF m 107 #[.val (.ref a1), .val (.int (0 : Int32)), .val (.int v7), .unset] [(.int (0 : Int32)), (.ref a1), (.int (((v7 &&& (7 : Int32)) <<< ((18 : Int32) &&& 31)) ||| ((u1 &&& (63 : Int32)) <<< ((12 : Int32) &&& 31))))]))
  refine GoW.st (fun t k => XS.iconst X0.here hx rfl (hb hby d2_107) (XS.iadd X0.here hx rfl (hb hby d2_108) rfl (ldVB X0 hx hZ e0 pre_V_a1 (v := (.int u2)) ⟨by decide, by decide⟩ rfl (g := (mkF m 109 #[.val (.ref a1), .val (.int (0 : Int32)), .val (.int v7), .unset] [(.int (2 : Int32)), (.ref a1), (.int (((v7 &&& (7 : Int32)) <<< ((18 : Int32) &&& 31)) ||| ((u1 &&& (63 : Int32)) <<< ((12 : Int32) &&& 31))))])) rfl rfl (hb hby d2_109) t (XS.bipush X0.here hx rfl (hb hby d2_110) (XS.iand X0.here hx rfl (hb hby d2_112) rfl (XS.bipush X0.here hx rfl (hb hby d2_113) k)))))) ?_
  show GoW p e below QQ (T0.setTop (mkF m 115 #[.val (.ref a1), .val (.int (0 : Int32)), .val (.int v7), .unset] [(.int (6 : Int32)), (.int (u2 &&& (63 : Int32))), (.int (((v7 &&& (7 : Int32)) <<< ((18 : Int32) &&& 31)) ||| ((u1 &&& (63 : Int32)) <<< ((12 : Int32) &&& 31))))]))
  refine GoW.st (fun t k => XS.ishl X0.here hx rfl (hb hby d2_115) rfl (XS.ior X0.here hx rfl (hb hby d2_116) rfl (XS.aloadN X0.here hx rfl (hb hby d2_117) rfl rfl (XS.iloadN X0.here hx rfl (hb hby d2_118) rfl (XS.iconst X0.here hx rfl (hb hby d2_119) (XS.iadd X0.here hx rfl (hb hby d2_120) rfl k)))))) ?_
  show GoW p e below QQ (T0.setTop (mkF m 121 #[.val (.ref a1), .val (.int (0 : Int32)), .val (.int v7), .unset] [(.int (3 : Int32)), (.ref a1), (.int ((((v7 &&& (7 : Int32)) <<< ((18 : Int32) &&& 31)) ||| ((u1 &&& (63 : Int32)) <<< ((12 : Int32) &&& 31))) ||| ((u2 &&& (63 : Int32)) <<< ((6 : Int32) &&& 31))))]))
  refine GoW.st (fun t k => ldVB X0 hx hZ e0 pre_V_a1 (v := (.int u3)) ⟨by decide, by decide⟩ rfl (g := (mkF m 121 #[.val (.ref a1), .val (.int (0 : Int32)), .val (.int v7), .unset] [(.int (3 : Int32)), (.ref a1), (.int ((((v7 &&& (7 : Int32)) <<< ((18 : Int32) &&& 31)) ||| ((u1 &&& (63 : Int32)) <<< ((12 : Int32) &&& 31))) ||| ((u2 &&& (63 : Int32)) <<< ((6 : Int32) &&& 31))))])) rfl rfl (hb hby d2_121) t (XS.bipush X0.here hx rfl (hb hby d2_122) (XS.iand X0.here hx rfl (hb hby d2_124) rfl (XS.ior X0.here hx rfl (hb hby d2_125) rfl (XS.istoreN X0.here hx rfl (hb hby d2_126) rfl (l' := #[.val (.ref a1), .val (.int (0 : Int32)), .val (.int v7), .val (.int (((((v7 &&& (7 : Int32)) <<< ((18 : Int32) &&& 31)) ||| ((u1 &&& (63 : Int32)) <<< ((12 : Int32) &&& 31))) ||| ((u2 &&& (63 : Int32)) <<< ((6 : Int32) &&& 31))) ||| (u3 &&& (63 : Int32))))]) rfl k))))) ?_
  show GoW p e below QQ (T0.setTop (mkF m 127 #[.val (.ref a1), .val (.int (0 : Int32)), .val (.int v7), .val (.int (((((v7 &&& (7 : Int32)) <<< ((18 : Int32) &&& 31)) ||| ((u1 &&& (63 : Int32)) <<< ((12 : Int32) &&& 31))) ||| ((u2 &&& (63 : Int32)) <<< ((6 : Int32) &&& 31))) ||| (u3 &&& (63 : Int32))))] []))
  generalize hv126 : (((((v7 &&& (7 : Int32)) <<< ((18 : Int32) &&& 31)) ||| ((u1 &&& (63 : Int32)) <<< ((12 : Int32) &&& 31))) ||| ((u2 &&& (63 : Int32)) <<< ((6 : Int32) &&& 31))) ||| (u3 &&& (63 : Int32))) = v126
  refine GoW.st (fun t k => XS.iloadN X0.here hx rfl (hb hby d2_127) rfl k) ?_
  show GoW p e below QQ (T0.setTop (mkF m 128 #[.val (.ref a1), .val (.int (0 : Int32)), .val (.int v7), .val (.int v126)] [(.int v126)]))
  have rv : ((some (.int v126)) : Option Value) = some (.int ((((((u0 &&& (255 : Int32)) &&& (7 : Int32)) <<< ((18 : Int32) &&& 31)) ||| ((u1 &&& (63 : Int32)) <<< ((12 : Int32) &&& 31))) ||| ((u2 &&& (63 : Int32)) <<< ((6 : Int32) &&& 31))) ||| (u3 &&& (63 : Int32)))) := by
    subst_vars
    rfl
  exact GoW.fin X0 (some (.int v126)) (fun q => by rw [hret] at q; cases q) hlk hQ e0 ⟨rv, N0, rfl⟩ (by decide) (by decide) (fun fs hr => retI X0 hx hret (hb hby d2_128) hr)
def RM1_14 : Room := { frames := 0, cells := 0, slots := 0, locals := 0 }
def Q1_14 (Z : State) (a1 : Addr) (ka : ClassId) (p3 : Int32) (u0 : Int32) (u1 : Int32) (u2 : Int32) (u3 : Int32) (u4 : Int32) (u5 : Int32) (u6 : Int32) (u7 : Int32) (h0 : Heap) (n0 : Nat) (v : Option Value) (h : Heap) (L : List Loc) : Prop := v = none ∧ Fr n0 L ∧ Keep h0 h [a1] ∧ (Arv Z h a1 ka .byte (8 : Int32) [(.int u0), (.int (nar .byte (((240 : Int32) + (p3 / (262144 : Int32))).toInt8.toInt32))), (.int (nar .byte (((128 : Int32) + ((p3 / (4096 : Int32)) % (64 : Int32))).toInt8.toInt32))), (.int (nar .byte (((128 : Int32) + ((p3 / (64 : Int32)) % (64 : Int32))).toInt8.toInt32))), (.int (nar .byte (((128 : Int32) + (p3 % (64 : Int32))).toInt8.toInt32))), (.int u5), (.int u6), (.int u7)] (.int (0 : Int32)))
set_option maxRecDepth 65536 in
set_option maxHeartbeats 40000000 in
theorem rm1_14 (l : Launch) (Z : State) (a0 : Array Value) (hw : ∀ d ∈ tables_1, d.before a0 Z = true) (ws : List Jvm.Cond) (a1 : Addr) (ka : ClassId) (p3 : Int32) (u0 : Int32) (u1 : Int32) (u2 : Int32) (u3 : Int32) (u4 : Int32) (u5 : Int32) (u6 : Int32) (u7 : Int32) (h0 : Heap) (n0 : Nat) (Z0 : n0 ≤ h0.size) (pre_V_a1 : Arv Z h0 a1 ka .byte (8 : Int32) [(.int u0), (.int u1), (.int u2), (.int u3), (.int u4), (.int u5), (.int u6), (.int u7)] (.int (0 : Int32))) (pre_g_a1 : n0 ≤ a1) (hk1 : ¬ p3 < (128 : Int32)) (hk2 : ¬ p3 < (2048 : Int32)) (hk3 : ¬ p3 < (65536 : Int32)) :
    MetFree l (⟨"com/example/terseform/terseform/Utf8CodePointAtPinLaw", "put", "([BII)V"⟩ : MethodName) (head1 (Jvm.Cond.code (⟨"com/example/terseform/terseform/Utf8CodePointAtPinLaw", "put", "([BII)V"⟩ : MethodName) method_3_code 3 none :: ws) RM1_14) (fun a U => a = #[(.ref a1), (.int (1 : Int32)), (.int p3)] ∧ Z.Warmed39 U.vm ∧ U.heap = h0) (fun _ _ _ _ _ => True) (fun _ U o U' => ∃ v L, o = .returned v ∧ Q1_14 Z a1 ka p3 u0 u1 u2 u3 u4 u5 u6 u7 h0 n0 v U'.heap L ∧ FrameEnd U o U' L RM1_14.cells RM1_14.slots) := by
  refine met_of (Q := fun v h L => Q1_14 Z a1 ka p3 u0 u1 u2 u3 u4 u5 u6 u7 h0 n0 v h L) (plainFor_of_name pn_0) (fun m => by first | (simp [entryFrame, mkF, argsToLocals, Value.category]; done) | rfl) (Ls := #[.val (.ref a1), .val (.int (1 : Int32)), .val (.int p3)]) ?_
  intro p e s m below meth c T0 QQ hx hZ hby hml hown hnm hret hlk X0 e0 hQ
  have hml : c.maxLocals = 3 := hml
  have hown : s.vm.findClass "com/example/terseform/terseform/Utf8CodePointAtPinLaw" = some m.cls := hown
  have hnm : meth.name = "put" := hnm
  have hret : meth.sig.returnType = none := hret
  have N0 := Fr.nil n0
  have K0 : Keep h0 h0 [a1] := Keep.refl h0 _
  show GoW p e below QQ (T0.setTop (mkF m 0 #[.val (.ref a1), .val (.int (1 : Int32)), .val (.int p3)] []))
  refine GoW.st (fun t k => XS.iloadN X0.here hx rfl (hb hby d1_0) rfl (XS.sipush X0.here hx rfl (hb hby d1_1) k)) ?_
  show GoW p e below QQ (T0.setTop (mkF m 4 #[.val (.ref a1), .val (.int (1 : Int32)), .val (.int p3)] [(.int (128 : Int32)), (.int p3)]))
  have hc4 : ¬ (p3 < (128 : Int32)) := by
    exact hk1
  refine GoW.st (fun t k => XS.icmpYes X0.here hx rfl (pc0 := 4) (pc' := 15) rfl (hb hby d1_4) rfl (flt hc4).2.1 (by decide) (by decide) (XS.iloadN X0.here hx rfl (hb hby d1_15) rfl (XS.sipush X0.here hx rfl (hb hby d1_16) k))) ?_
  show GoW p e below QQ (T0.setTop (mkF m 19 #[.val (.ref a1), .val (.int (1 : Int32)), .val (.int p3)] [(.int (2048 : Int32)), (.int p3)]))
  have hc19 : ¬ (p3 < (2048 : Int32)) := by
    exact hk2
  refine GoW.st (fun t k => XS.icmpYes X0.here hx rfl (pc0 := 19) (pc' := 51) rfl (hb hby d1_19) rfl (flt hc19).2.1 (by decide) (by decide) (XS.iloadN X0.here hx rfl (hb hby d1_51) rfl (X0.ldcInt hx hown (mvT hZ (hw _ (List.mem_of_getElem? (i := 1) rfl))) (g := (mkF m 52 #[.val (.ref a1), .val (.int (1 : Int32)), .val (.int p3)] [(.int p3)])) rfl (hb hby d1_52) t k))) ?_
  show GoW p e below QQ (T0.setTop (mkF m 54 #[.val (.ref a1), .val (.int (1 : Int32)), .val (.int p3)] [(.int (65536 : Int32)), (.int p3)]))
  have hc54 : ¬ (p3 < (65536 : Int32)) := by
    exact hk3
  refine GoW.st (fun t k => XS.icmpYes X0.here hx rfl (pc0 := 54) (pc' := 104) rfl (hb hby d1_54) rfl (flt hc54).2.1 (by decide) (by decide) (XS.aloadN X0.here hx rfl (hb hby d1_104) rfl rfl (XS.iloadN X0.here hx rfl (hb hby d1_105) rfl (XS.sipush X0.here hx rfl (hb hby d1_106) (XS.iloadN X0.here hx rfl (hb hby d1_109) rfl (X0.ldcInt hx hown (mvT hZ (hw _ (List.mem_of_getElem? (i := 8) rfl))) (g := (mkF m 110 #[.val (.ref a1), .val (.int (1 : Int32)), .val (.int p3)] [(.int p3), (.int (240 : Int32)), (.int (1 : Int32)), (.ref a1)])) rfl (hb hby d1_110) t k)))))) ?_
  show GoW p e below QQ (T0.setTop (mkF m 112 #[.val (.ref a1), .val (.int (1 : Int32)), .val (.int p3)] [(.int (262144 : Int32)), (.int p3), (.int (240 : Int32)), (.int (1 : Int32)), (.ref a1)]))
  refine GoW.st (fun t k => XS.idiv X0.here hx rfl (hb hby d1_112) rfl (by decide) (XS.iadd X0.here hx rfl (hb hby d1_113) rfl (XS.i2b X0.here hx rfl (hb hby d1_114) rfl k))) ?_
  show GoW p e below QQ (T0.setTop (mkF m 115 #[.val (.ref a1), .val (.int (1 : Int32)), .val (.int p3)] [(.int (((240 : Int32) + (p3 / (262144 : Int32))).toInt8.toInt32)), (.int (1 : Int32)), (.ref a1)]))
  obtain ⟨T1, h1, X1, e1, W1, V1, st1⟩ := stVB X0 hx hZ e0 pre_V_a1 ⟨by decide, by decide⟩ 1 rfl (Nat.le_of_ble_eq_true rfl) (g := (mkF m 115 #[.val (.ref a1), .val (.int (1 : Int32)), .val (.int p3)] [(.int (((240 : Int32) + (p3 / (262144 : Int32))).toInt8.toInt32)), (.int (1 : Int32)), (.ref a1)])) rfl rfl (hb hby d1_115)
  refine GoW.st st1 ?_
  have f2_V_a1 : Arv Z h1 a1 ka .byte (8 : Int32) [(.int u0), (.int (nar .byte (((240 : Int32) + (p3 / (262144 : Int32))).toInt8.toInt32))), (.int u2), (.int u3), (.int u4), (.int u5), (.int u6), (.int u7)] (.int (0 : Int32)) := V1
  have K1 : Keep h0 h1 [a1] := K0.wr W1 (Or.inl (List.mem_of_getElem? (i := 0) rfl))
  have N1 := Fr.snoc X1 N0 pre_g_a1
  show GoW p e below QQ (T1.setTop (mkF m 116 #[.val (.ref a1), .val (.int (1 : Int32)), .val (.int p3)] []))
  refine GoW.st (fun t k => XS.aloadN X1.here hx rfl (hb hby d1_116) rfl rfl (XS.iloadN X1.here hx rfl (hb hby d1_117) rfl (XS.iconst X1.here hx rfl (hb hby d1_118) (XS.iadd X1.here hx rfl (hb hby d1_119) rfl (XS.sipush X1.here hx rfl (hb hby d1_120) (XS.iloadN X1.here hx rfl (hb hby d1_123) rfl k)))))) ?_
  show GoW p e below QQ (T1.setTop (mkF m 124 #[.val (.ref a1), .val (.int (1 : Int32)), .val (.int p3)] [(.int p3), (.int (128 : Int32)), (.int (2 : Int32)), (.ref a1)]))
  refine GoW.st (fun t k => XS.sipush X1.here hx rfl (hb hby d1_124) (XS.idiv X1.here hx rfl (hb hby d1_127) rfl (by decide) (XS.bipush X1.here hx rfl (hb hby d1_128) (iremM X1 hx rfl (hb hby d1_130) rfl (by decide) (XS.iadd X1.here hx rfl (hb hby d1_131) rfl (XS.i2b X1.here hx rfl (hb hby d1_132) rfl k)))))) ?_
  show GoW p e below QQ (T1.setTop (mkF m 133 #[.val (.ref a1), .val (.int (1 : Int32)), .val (.int p3)] [(.int (((128 : Int32) + ((p3 / (4096 : Int32)) % (64 : Int32))).toInt8.toInt32)), (.int (2 : Int32)), (.ref a1)]))
  obtain ⟨T3, h3, X3, e3, W3, V3, st3⟩ := stVB X1 hx hZ e1 f2_V_a1 ⟨by decide, by decide⟩ 2 rfl (Nat.le_of_ble_eq_true rfl) (g := (mkF m 133 #[.val (.ref a1), .val (.int (1 : Int32)), .val (.int p3)] [(.int (((128 : Int32) + ((p3 / (4096 : Int32)) % (64 : Int32))).toInt8.toInt32)), (.int (2 : Int32)), (.ref a1)])) rfl rfl (hb hby d1_133)
  refine GoW.st st3 ?_
  have f4_V_a1 : Arv Z h3 a1 ka .byte (8 : Int32) [(.int u0), (.int (nar .byte (((240 : Int32) + (p3 / (262144 : Int32))).toInt8.toInt32))), (.int (nar .byte (((128 : Int32) + ((p3 / (4096 : Int32)) % (64 : Int32))).toInt8.toInt32))), (.int u3), (.int u4), (.int u5), (.int u6), (.int u7)] (.int (0 : Int32)) := V3
  have K3 : Keep h0 h3 [a1] := K1.wr W3 (Or.inl (List.mem_of_getElem? (i := 0) rfl))
  have N3 := Fr.snoc X3 N1 pre_g_a1
  show GoW p e below QQ (T3.setTop (mkF m 134 #[.val (.ref a1), .val (.int (1 : Int32)), .val (.int p3)] []))
  refine GoW.st (fun t k => XS.aloadN X3.here hx rfl (hb hby d1_134) rfl rfl (XS.iloadN X3.here hx rfl (hb hby d1_135) rfl (XS.iconst X3.here hx rfl (hb hby d1_136) (XS.iadd X3.here hx rfl (hb hby d1_137) rfl (XS.sipush X3.here hx rfl (hb hby d1_138) (XS.iloadN X3.here hx rfl (hb hby d1_141) rfl k)))))) ?_
  show GoW p e below QQ (T3.setTop (mkF m 142 #[.val (.ref a1), .val (.int (1 : Int32)), .val (.int p3)] [(.int p3), (.int (128 : Int32)), (.int (3 : Int32)), (.ref a1)]))
  refine GoW.st (fun t k => XS.bipush X3.here hx rfl (hb hby d1_142) (XS.idiv X3.here hx rfl (hb hby d1_144) rfl (by decide) (XS.bipush X3.here hx rfl (hb hby d1_145) (iremM X3 hx rfl (hb hby d1_147) rfl (by decide) (XS.iadd X3.here hx rfl (hb hby d1_148) rfl (XS.i2b X3.here hx rfl (hb hby d1_149) rfl k)))))) ?_
  show GoW p e below QQ (T3.setTop (mkF m 150 #[.val (.ref a1), .val (.int (1 : Int32)), .val (.int p3)] [(.int (((128 : Int32) + ((p3 / (64 : Int32)) % (64 : Int32))).toInt8.toInt32)), (.int (3 : Int32)), (.ref a1)]))
  obtain ⟨T5, h5, X5, e5, W5, V5, st5⟩ := stVB X3 hx hZ e3 f4_V_a1 ⟨by decide, by decide⟩ 3 rfl (Nat.le_of_ble_eq_true rfl) (g := (mkF m 150 #[.val (.ref a1), .val (.int (1 : Int32)), .val (.int p3)] [(.int (((128 : Int32) + ((p3 / (64 : Int32)) % (64 : Int32))).toInt8.toInt32)), (.int (3 : Int32)), (.ref a1)])) rfl rfl (hb hby d1_150)
  refine GoW.st st5 ?_
  have f6_V_a1 : Arv Z h5 a1 ka .byte (8 : Int32) [(.int u0), (.int (nar .byte (((240 : Int32) + (p3 / (262144 : Int32))).toInt8.toInt32))), (.int (nar .byte (((128 : Int32) + ((p3 / (4096 : Int32)) % (64 : Int32))).toInt8.toInt32))), (.int (nar .byte (((128 : Int32) + ((p3 / (64 : Int32)) % (64 : Int32))).toInt8.toInt32))), (.int u4), (.int u5), (.int u6), (.int u7)] (.int (0 : Int32)) := V5
  have K5 : Keep h0 h5 [a1] := K3.wr W5 (Or.inl (List.mem_of_getElem? (i := 0) rfl))
  have N5 := Fr.snoc X5 N3 pre_g_a1
  show GoW p e below QQ (T5.setTop (mkF m 151 #[.val (.ref a1), .val (.int (1 : Int32)), .val (.int p3)] []))
  refine GoW.st (fun t k => XS.aloadN X5.here hx rfl (hb hby d1_151) rfl rfl (XS.iloadN X5.here hx rfl (hb hby d1_152) rfl (XS.iconst X5.here hx rfl (hb hby d1_153) (XS.iadd X5.here hx rfl (hb hby d1_154) rfl (XS.sipush X5.here hx rfl (hb hby d1_155) (XS.iloadN X5.here hx rfl (hb hby d1_158) rfl k)))))) ?_
  show GoW p e below QQ (T5.setTop (mkF m 159 #[.val (.ref a1), .val (.int (1 : Int32)), .val (.int p3)] [(.int p3), (.int (128 : Int32)), (.int (4 : Int32)), (.ref a1)]))
  refine GoW.st (fun t k => XS.bipush X5.here hx rfl (hb hby d1_159) (iremM X5 hx rfl (hb hby d1_161) rfl (by decide) (XS.iadd X5.here hx rfl (hb hby d1_162) rfl (XS.i2b X5.here hx rfl (hb hby d1_163) rfl k)))) ?_
  show GoW p e below QQ (T5.setTop (mkF m 164 #[.val (.ref a1), .val (.int (1 : Int32)), .val (.int p3)] [(.int (((128 : Int32) + (p3 % (64 : Int32))).toInt8.toInt32)), (.int (4 : Int32)), (.ref a1)]))
  obtain ⟨T7, h7, X7, e7, W7, V7, st7⟩ := stVB X5 hx hZ e5 f6_V_a1 ⟨by decide, by decide⟩ 4 rfl (Nat.le_of_ble_eq_true rfl) (g := (mkF m 164 #[.val (.ref a1), .val (.int (1 : Int32)), .val (.int p3)] [(.int (((128 : Int32) + (p3 % (64 : Int32))).toInt8.toInt32)), (.int (4 : Int32)), (.ref a1)])) rfl rfl (hb hby d1_164)
  refine GoW.st st7 ?_
  have f8_V_a1 : Arv Z h7 a1 ka .byte (8 : Int32) [(.int u0), (.int (nar .byte (((240 : Int32) + (p3 / (262144 : Int32))).toInt8.toInt32))), (.int (nar .byte (((128 : Int32) + ((p3 / (4096 : Int32)) % (64 : Int32))).toInt8.toInt32))), (.int (nar .byte (((128 : Int32) + ((p3 / (64 : Int32)) % (64 : Int32))).toInt8.toInt32))), (.int (nar .byte (((128 : Int32) + (p3 % (64 : Int32))).toInt8.toInt32))), (.int u5), (.int u6), (.int u7)] (.int (0 : Int32)) := V7
  have K7 : Keep h0 h7 [a1] := K5.wr W7 (Or.inl (List.mem_of_getElem? (i := 0) rfl))
  have N7 := Fr.snoc X7 N5 pre_g_a1
  show GoW p e below QQ (T7.setTop (mkF m 165 #[.val (.ref a1), .val (.int (1 : Int32)), .val (.int p3)] []))
  exact GoW.fin X7 none (fun _ => rfl) hlk hQ e7 ⟨rfl, N7, K7, f8_V_a1⟩ (by decide) (by decide) (fun fs hr => X7.returnOut hx hret (hb hby d1_165) hr)
def RM2_14 : Room := { frames := 0, cells := 0, slots := 0, locals := 0 }
def Q2_14 (Z : State) (a1 : Addr) (ka : ClassId) (u0 : Int32) (u1 : Int32) (u2 : Int32) (u3 : Int32) (u4 : Int32) (u5 : Int32) (u6 : Int32) (u7 : Int32) (h0 : Heap) (n0 : Nat) (v : Option Value) (h : Heap) (L : List Loc) : Prop := v = some (.int ((((((u1 &&& (255 : Int32)) &&& (7 : Int32)) <<< ((18 : Int32) &&& 31)) ||| ((u2 &&& (63 : Int32)) <<< ((12 : Int32) &&& 31))) ||| ((u3 &&& (63 : Int32)) <<< ((6 : Int32) &&& 31))) ||| (u4 &&& (63 : Int32)))) ∧ Fr n0 L ∧ h = h0
set_option maxRecDepth 65536 in
set_option maxHeartbeats 40000000 in
theorem rm2_14 (l : Launch) (Z : State) (a0 : Array Value) (hw : ∀ d ∈ tables_1, d.before a0 Z = true) (ws : List Jvm.Cond) (a1 : Addr) (ka : ClassId) (u0 : Int32) (u1 : Int32) (u2 : Int32) (u3 : Int32) (u4 : Int32) (u5 : Int32) (u6 : Int32) (u7 : Int32) (h0 : Heap) (n0 : Nat) (Z0 : n0 ≤ h0.size) (pre_V_a1 : Arv Z h0 a1 ka .byte (8 : Int32) [(.int u0), (.int u1), (.int u2), (.int u3), (.int u4), (.int u5), (.int u6), (.int u7)] (.int (0 : Int32))) (g1_4 : ¬ (u1 &&& (255 : Int32)) < (128 : Int32)) (g2_4 : ¬ (u1 &&& (255 : Int32)) < (224 : Int32)) (g3_4 : ¬ (u1 &&& (255 : Int32)) < (240 : Int32)) :
    MetFree l (⟨"com/example/terseform/terseform/Utf8", "codePointAt", "([BI)I"⟩ : MethodName) (head1 (Jvm.Cond.code (⟨"com/example/terseform/terseform/Utf8", "codePointAt", "([BI)I"⟩ : MethodName) prog_36_method_9_code 4 (some .int) :: ws) RM2_14) (fun a U => a = #[(.ref a1), (.int (1 : Int32))] ∧ Z.Warmed39 U.vm ∧ U.heap = h0) (fun _ _ _ _ _ => True) (fun _ U o U' => ∃ v L, o = .returned v ∧ Q2_14 Z a1 ka u0 u1 u2 u3 u4 u5 u6 u7 h0 n0 v U'.heap L ∧ FrameEnd U o U' L RM2_14.cells RM2_14.slots) := by
  refine met_of (Q := fun v h L => Q2_14 Z a1 ka u0 u1 u2 u3 u4 u5 u6 u7 h0 n0 v h L) (plainFor_of_name pn_1) (fun m => by first | (simp [entryFrame, mkF, argsToLocals, Value.category]; done) | rfl) (Ls := #[.val (.ref a1), .val (.int (1 : Int32)), .unset, .unset]) ?_
  intro p e s m below meth c T0 QQ hx hZ hby hml hown hnm hret hlk X0 e0 hQ
  have hml : c.maxLocals = 4 := hml
  have hown : s.vm.findClass "com/example/terseform/terseform/Utf8" = some m.cls := hown
  have hnm : meth.name = "codePointAt" := hnm
  have hret : meth.sig.returnType = some .int := hret
  have N0 := Fr.nil n0
  have K0 : Keep h0 h0 [] := Keep.refl h0 _
  show GoW p e below QQ (T0.setTop (mkF m 0 #[.val (.ref a1), .val (.int (1 : Int32)), .unset, .unset] []))
  refine GoW.st (fun t k => XS.aloadN X0.here hx rfl (hb hby d2_0) rfl rfl (XS.iloadN X0.here hx rfl (hb hby d2_1) rfl (ldVB X0 hx hZ e0 pre_V_a1 (v := (.int u1)) ⟨by decide, by decide⟩ rfl (g := (mkF m 2 #[.val (.ref a1), .val (.int (1 : Int32)), .unset, .unset] [(.int (1 : Int32)), (.ref a1)])) rfl rfl (hb hby d2_2) t (XS.sipush X0.here hx rfl (hb hby d2_3) (XS.iand X0.here hx rfl (hb hby d2_6) rfl (XS.istoreN X0.here hx rfl (hb hby d2_7) rfl (l' := #[.val (.ref a1), .val (.int (1 : Int32)), .val (.int (u1 &&& (255 : Int32))), .unset]) rfl k)))))) ?_
  show GoW p e below QQ (T0.setTop (mkF m 8 #[.val (.ref a1), .val (.int (1 : Int32)), .val (.int (u1 &&& (255 : Int32))), .unset] []))
  generalize hv7 : (u1 &&& (255 : Int32)) = v7
  refine GoW.st (fun t k => XS.iloadN X0.here hx rfl (hb hby d2_8) rfl (XS.sipush X0.here hx rfl (hb hby d2_9) k)) ?_
  show GoW p e below QQ (T0.setTop (mkF m 12 #[.val (.ref a1), .val (.int (1 : Int32)), .val (.int v7), .unset] [(.int (128 : Int32)), (.int v7)]))
  have hc12 : ¬ (v7 < (128 : Int32)) := by
    subst hv7
    exact g1_4
  refine GoW.st (fun t k => XS.icmpYes X0.here hx rfl (pc0 := 12) (pc' := 20) rfl (hb hby d2_12) rfl (flt hc12).2.1 (by decide) (by decide) (XS.iloadN X0.here hx rfl (hb hby d2_20) rfl (XS.sipush X0.here hx rfl (hb hby d2_21) k))) ?_
  show GoW p e below QQ (T0.setTop (mkF m 24 #[.val (.ref a1), .val (.int (1 : Int32)), .val (.int v7), .unset] [(.int (224 : Int32)), (.int v7)]))
  have hc24 : ¬ (v7 < (224 : Int32)) := by
    subst hv7
    exact g2_4
  refine GoW.st (fun t k => XS.icmpYes X0.here hx rfl (pc0 := 24) (pc' := 47) rfl (hb hby d2_24) rfl (flt hc24).2.1 (by decide) (by decide) (XS.iloadN X0.here hx rfl (hb hby d2_47) rfl (XS.sipush X0.here hx rfl (hb hby d2_48) k))) ?_
  show GoW p e below QQ (T0.setTop (mkF m 51 #[.val (.ref a1), .val (.int (1 : Int32)), .val (.int v7), .unset] [(.int (240 : Int32)), (.int v7)]))
  have hc51 : ¬ (v7 < (240 : Int32)) := by
    subst hv7
    exact g3_4
  refine GoW.st (fun t k => XS.icmpYes X0.here hx rfl (pc0 := 51) (pc' := 86) rfl (hb hby d2_51) rfl (flt hc51).2.1 (by decide) (by decide) (XS.iloadN X0.here hx rfl (hb hby d2_86) rfl (XS.bipush X0.here hx rfl (hb hby d2_87) (XS.iand X0.here hx rfl (hb hby d2_89) rfl (XS.bipush X0.here hx rfl (hb hby d2_90) (XS.ishl X0.here hx rfl (hb hby d2_92) rfl k)))))) ?_
  show GoW p e below QQ (T0.setTop (mkF m 93 #[.val (.ref a1), .val (.int (1 : Int32)), .val (.int v7), .unset] [(.int ((v7 &&& (7 : Int32)) <<< ((18 : Int32) &&& 31)))]))
  refine GoW.st (fun t k => XS.aloadN X0.here hx rfl (hb hby d2_93) rfl rfl (XS.iloadN X0.here hx rfl (hb hby d2_94) rfl (XS.iconst X0.here hx rfl (hb hby d2_95) (XS.iadd X0.here hx rfl (hb hby d2_96) rfl (ldVB X0 hx hZ e0 pre_V_a1 (v := (.int u2)) ⟨by decide, by decide⟩ rfl (g := (mkF m 97 #[.val (.ref a1), .val (.int (1 : Int32)), .val (.int v7), .unset] [(.int (2 : Int32)), (.ref a1), (.int ((v7 &&& (7 : Int32)) <<< ((18 : Int32) &&& 31)))])) rfl rfl (hb hby d2_97) t (XS.bipush X0.here hx rfl (hb hby d2_98) k)))))) ?_
  show GoW p e below QQ (T0.setTop (mkF m 100 #[.val (.ref a1), .val (.int (1 : Int32)), .val (.int v7), .unset] [(.int (63 : Int32)), (.int u2), (.int ((v7 &&& (7 : Int32)) <<< ((18 : Int32) &&& 31)))]))
  refine GoW.st (fun t k => XS.iand X0.here hx rfl (hb hby d2_100) rfl (XS.bipush X0.here hx rfl (hb hby d2_101) (XS.ishl X0.here hx rfl (hb hby d2_103) rfl (XS.ior X0.here hx rfl (hb hby d2_104) rfl (XS.aloadN X0.here hx rfl (hb hby d2_105) rfl rfl (XS.iloadN X0.here hx rfl (hb hby d2_106) rfl k)))))) ?_
  show GoW p e below QQ (T0.setTop (mkF m 107 #[.val (.ref a1), .val (.int (1 : Int32)), .val (.int v7), .unset] [(.int (1 : Int32)), (.ref a1), (.int (((v7 &&& (7 : Int32)) <<< ((18 : Int32) &&& 31)) ||| ((u2 &&& (63 : Int32)) <<< ((12 : Int32) &&& 31))))]))
  refine GoW.st (fun t k => XS.iconst X0.here hx rfl (hb hby d2_107) (XS.iadd X0.here hx rfl (hb hby d2_108) rfl (ldVB X0 hx hZ e0 pre_V_a1 (v := (.int u3)) ⟨by decide, by decide⟩ rfl (g := (mkF m 109 #[.val (.ref a1), .val (.int (1 : Int32)), .val (.int v7), .unset] [(.int (3 : Int32)), (.ref a1), (.int (((v7 &&& (7 : Int32)) <<< ((18 : Int32) &&& 31)) ||| ((u2 &&& (63 : Int32)) <<< ((12 : Int32) &&& 31))))])) rfl rfl (hb hby d2_109) t (XS.bipush X0.here hx rfl (hb hby d2_110) (XS.iand X0.here hx rfl (hb hby d2_112) rfl (XS.bipush X0.here hx rfl (hb hby d2_113) k)))))) ?_
  show GoW p e below QQ (T0.setTop (mkF m 115 #[.val (.ref a1), .val (.int (1 : Int32)), .val (.int v7), .unset] [(.int (6 : Int32)), (.int (u3 &&& (63 : Int32))), (.int (((v7 &&& (7 : Int32)) <<< ((18 : Int32) &&& 31)) ||| ((u2 &&& (63 : Int32)) <<< ((12 : Int32) &&& 31))))]))
  refine GoW.st (fun t k => XS.ishl X0.here hx rfl (hb hby d2_115) rfl (XS.ior X0.here hx rfl (hb hby d2_116) rfl (XS.aloadN X0.here hx rfl (hb hby d2_117) rfl rfl (XS.iloadN X0.here hx rfl (hb hby d2_118) rfl (XS.iconst X0.here hx rfl (hb hby d2_119) (XS.iadd X0.here hx rfl (hb hby d2_120) rfl k)))))) ?_
  show GoW p e below QQ (T0.setTop (mkF m 121 #[.val (.ref a1), .val (.int (1 : Int32)), .val (.int v7), .unset] [(.int (4 : Int32)), (.ref a1), (.int ((((v7 &&& (7 : Int32)) <<< ((18 : Int32) &&& 31)) ||| ((u2 &&& (63 : Int32)) <<< ((12 : Int32) &&& 31))) ||| ((u3 &&& (63 : Int32)) <<< ((6 : Int32) &&& 31))))]))
  refine GoW.st (fun t k => ldVB X0 hx hZ e0 pre_V_a1 (v := (.int u4)) ⟨by decide, by decide⟩ rfl (g := (mkF m 121 #[.val (.ref a1), .val (.int (1 : Int32)), .val (.int v7), .unset] [(.int (4 : Int32)), (.ref a1), (.int ((((v7 &&& (7 : Int32)) <<< ((18 : Int32) &&& 31)) ||| ((u2 &&& (63 : Int32)) <<< ((12 : Int32) &&& 31))) ||| ((u3 &&& (63 : Int32)) <<< ((6 : Int32) &&& 31))))])) rfl rfl (hb hby d2_121) t (XS.bipush X0.here hx rfl (hb hby d2_122) (XS.iand X0.here hx rfl (hb hby d2_124) rfl (XS.ior X0.here hx rfl (hb hby d2_125) rfl (XS.istoreN X0.here hx rfl (hb hby d2_126) rfl (l' := #[.val (.ref a1), .val (.int (1 : Int32)), .val (.int v7), .val (.int (((((v7 &&& (7 : Int32)) <<< ((18 : Int32) &&& 31)) ||| ((u2 &&& (63 : Int32)) <<< ((12 : Int32) &&& 31))) ||| ((u3 &&& (63 : Int32)) <<< ((6 : Int32) &&& 31))) ||| (u4 &&& (63 : Int32))))]) rfl k))))) ?_
  show GoW p e below QQ (T0.setTop (mkF m 127 #[.val (.ref a1), .val (.int (1 : Int32)), .val (.int v7), .val (.int (((((v7 &&& (7 : Int32)) <<< ((18 : Int32) &&& 31)) ||| ((u2 &&& (63 : Int32)) <<< ((12 : Int32) &&& 31))) ||| ((u3 &&& (63 : Int32)) <<< ((6 : Int32) &&& 31))) ||| (u4 &&& (63 : Int32))))] []))
  generalize hv126 : (((((v7 &&& (7 : Int32)) <<< ((18 : Int32) &&& 31)) ||| ((u2 &&& (63 : Int32)) <<< ((12 : Int32) &&& 31))) ||| ((u3 &&& (63 : Int32)) <<< ((6 : Int32) &&& 31))) ||| (u4 &&& (63 : Int32))) = v126
  refine GoW.st (fun t k => XS.iloadN X0.here hx rfl (hb hby d2_127) rfl k) ?_
  show GoW p e below QQ (T0.setTop (mkF m 128 #[.val (.ref a1), .val (.int (1 : Int32)), .val (.int v7), .val (.int v126)] [(.int v126)]))
  have rv : ((some (.int v126)) : Option Value) = some (.int ((((((u1 &&& (255 : Int32)) &&& (7 : Int32)) <<< ((18 : Int32) &&& 31)) ||| ((u2 &&& (63 : Int32)) <<< ((12 : Int32) &&& 31))) ||| ((u3 &&& (63 : Int32)) <<< ((6 : Int32) &&& 31))) ||| (u4 &&& (63 : Int32)))) := by
    subst_vars
    rfl
  exact GoW.fin X0 (some (.int v126)) (fun q => by rw [hret] at q; cases q) hlk hQ e0 ⟨rv, N0, rfl⟩ (by decide) (by decide) (fun fs hr => retI X0 hx hret (hb hby d2_128) hr)
def RM1_24 : Room := { frames := 0, cells := 0, slots := 0, locals := 0 }
def Q1_24 (Z : State) (a1 : Addr) (ka : ClassId) (p3 : Int32) (u0 : Int32) (u1 : Int32) (u2 : Int32) (u3 : Int32) (u4 : Int32) (u5 : Int32) (u6 : Int32) (u7 : Int32) (h0 : Heap) (n0 : Nat) (v : Option Value) (h : Heap) (L : List Loc) : Prop := v = none ∧ Fr n0 L ∧ Keep h0 h [a1] ∧ (Arv Z h a1 ka .byte (8 : Int32) [(.int u0), (.int u1), (.int (nar .byte (((240 : Int32) + (p3 / (262144 : Int32))).toInt8.toInt32))), (.int (nar .byte (((128 : Int32) + ((p3 / (4096 : Int32)) % (64 : Int32))).toInt8.toInt32))), (.int (nar .byte (((128 : Int32) + ((p3 / (64 : Int32)) % (64 : Int32))).toInt8.toInt32))), (.int (nar .byte (((128 : Int32) + (p3 % (64 : Int32))).toInt8.toInt32))), (.int u6), (.int u7)] (.int (0 : Int32)))
set_option maxRecDepth 65536 in
set_option maxHeartbeats 40000000 in
theorem rm1_24 (l : Launch) (Z : State) (a0 : Array Value) (hw : ∀ d ∈ tables_1, d.before a0 Z = true) (ws : List Jvm.Cond) (a1 : Addr) (ka : ClassId) (p3 : Int32) (u0 : Int32) (u1 : Int32) (u2 : Int32) (u3 : Int32) (u4 : Int32) (u5 : Int32) (u6 : Int32) (u7 : Int32) (h0 : Heap) (n0 : Nat) (Z0 : n0 ≤ h0.size) (pre_V_a1 : Arv Z h0 a1 ka .byte (8 : Int32) [(.int u0), (.int u1), (.int u2), (.int u3), (.int u4), (.int u5), (.int u6), (.int u7)] (.int (0 : Int32))) (pre_g_a1 : n0 ≤ a1) (hk1 : ¬ p3 < (128 : Int32)) (hk2 : ¬ p3 < (2048 : Int32)) (hk3 : ¬ p3 < (65536 : Int32)) :
    MetFree l (⟨"com/example/terseform/terseform/Utf8CodePointAtPinLaw", "put", "([BII)V"⟩ : MethodName) (head1 (Jvm.Cond.code (⟨"com/example/terseform/terseform/Utf8CodePointAtPinLaw", "put", "([BII)V"⟩ : MethodName) method_3_code 3 none :: ws) RM1_24) (fun a U => a = #[(.ref a1), (.int (2 : Int32)), (.int p3)] ∧ Z.Warmed39 U.vm ∧ U.heap = h0) (fun _ _ _ _ _ => True) (fun _ U o U' => ∃ v L, o = .returned v ∧ Q1_24 Z a1 ka p3 u0 u1 u2 u3 u4 u5 u6 u7 h0 n0 v U'.heap L ∧ FrameEnd U o U' L RM1_24.cells RM1_24.slots) := by
  refine met_of (Q := fun v h L => Q1_24 Z a1 ka p3 u0 u1 u2 u3 u4 u5 u6 u7 h0 n0 v h L) (plainFor_of_name pn_0) (fun m => by first | (simp [entryFrame, mkF, argsToLocals, Value.category]; done) | rfl) (Ls := #[.val (.ref a1), .val (.int (2 : Int32)), .val (.int p3)]) ?_
  intro p e s m below meth c T0 QQ hx hZ hby hml hown hnm hret hlk X0 e0 hQ
  have hml : c.maxLocals = 3 := hml
  have hown : s.vm.findClass "com/example/terseform/terseform/Utf8CodePointAtPinLaw" = some m.cls := hown
  have hnm : meth.name = "put" := hnm
  have hret : meth.sig.returnType = none := hret
  have N0 := Fr.nil n0
  have K0 : Keep h0 h0 [a1] := Keep.refl h0 _
  show GoW p e below QQ (T0.setTop (mkF m 0 #[.val (.ref a1), .val (.int (2 : Int32)), .val (.int p3)] []))
  refine GoW.st (fun t k => XS.iloadN X0.here hx rfl (hb hby d1_0) rfl (XS.sipush X0.here hx rfl (hb hby d1_1) k)) ?_
  show GoW p e below QQ (T0.setTop (mkF m 4 #[.val (.ref a1), .val (.int (2 : Int32)), .val (.int p3)] [(.int (128 : Int32)), (.int p3)]))
  have hc4 : ¬ (p3 < (128 : Int32)) := by
    exact hk1
  refine GoW.st (fun t k => XS.icmpYes X0.here hx rfl (pc0 := 4) (pc' := 15) rfl (hb hby d1_4) rfl (flt hc4).2.1 (by decide) (by decide) (XS.iloadN X0.here hx rfl (hb hby d1_15) rfl (XS.sipush X0.here hx rfl (hb hby d1_16) k))) ?_
  show GoW p e below QQ (T0.setTop (mkF m 19 #[.val (.ref a1), .val (.int (2 : Int32)), .val (.int p3)] [(.int (2048 : Int32)), (.int p3)]))
  have hc19 : ¬ (p3 < (2048 : Int32)) := by
    exact hk2
  refine GoW.st (fun t k => XS.icmpYes X0.here hx rfl (pc0 := 19) (pc' := 51) rfl (hb hby d1_19) rfl (flt hc19).2.1 (by decide) (by decide) (XS.iloadN X0.here hx rfl (hb hby d1_51) rfl (X0.ldcInt hx hown (mvT hZ (hw _ (List.mem_of_getElem? (i := 1) rfl))) (g := (mkF m 52 #[.val (.ref a1), .val (.int (2 : Int32)), .val (.int p3)] [(.int p3)])) rfl (hb hby d1_52) t k))) ?_
  show GoW p e below QQ (T0.setTop (mkF m 54 #[.val (.ref a1), .val (.int (2 : Int32)), .val (.int p3)] [(.int (65536 : Int32)), (.int p3)]))
  have hc54 : ¬ (p3 < (65536 : Int32)) := by
    exact hk3
  refine GoW.st (fun t k => XS.icmpYes X0.here hx rfl (pc0 := 54) (pc' := 104) rfl (hb hby d1_54) rfl (flt hc54).2.1 (by decide) (by decide) (XS.aloadN X0.here hx rfl (hb hby d1_104) rfl rfl (XS.iloadN X0.here hx rfl (hb hby d1_105) rfl (XS.sipush X0.here hx rfl (hb hby d1_106) (XS.iloadN X0.here hx rfl (hb hby d1_109) rfl (X0.ldcInt hx hown (mvT hZ (hw _ (List.mem_of_getElem? (i := 8) rfl))) (g := (mkF m 110 #[.val (.ref a1), .val (.int (2 : Int32)), .val (.int p3)] [(.int p3), (.int (240 : Int32)), (.int (2 : Int32)), (.ref a1)])) rfl (hb hby d1_110) t k)))))) ?_
  show GoW p e below QQ (T0.setTop (mkF m 112 #[.val (.ref a1), .val (.int (2 : Int32)), .val (.int p3)] [(.int (262144 : Int32)), (.int p3), (.int (240 : Int32)), (.int (2 : Int32)), (.ref a1)]))
  refine GoW.st (fun t k => XS.idiv X0.here hx rfl (hb hby d1_112) rfl (by decide) (XS.iadd X0.here hx rfl (hb hby d1_113) rfl (XS.i2b X0.here hx rfl (hb hby d1_114) rfl k))) ?_
  show GoW p e below QQ (T0.setTop (mkF m 115 #[.val (.ref a1), .val (.int (2 : Int32)), .val (.int p3)] [(.int (((240 : Int32) + (p3 / (262144 : Int32))).toInt8.toInt32)), (.int (2 : Int32)), (.ref a1)]))
  obtain ⟨T1, h1, X1, e1, W1, V1, st1⟩ := stVB X0 hx hZ e0 pre_V_a1 ⟨by decide, by decide⟩ 2 rfl (Nat.le_of_ble_eq_true rfl) (g := (mkF m 115 #[.val (.ref a1), .val (.int (2 : Int32)), .val (.int p3)] [(.int (((240 : Int32) + (p3 / (262144 : Int32))).toInt8.toInt32)), (.int (2 : Int32)), (.ref a1)])) rfl rfl (hb hby d1_115)
  refine GoW.st st1 ?_
  have f2_V_a1 : Arv Z h1 a1 ka .byte (8 : Int32) [(.int u0), (.int u1), (.int (nar .byte (((240 : Int32) + (p3 / (262144 : Int32))).toInt8.toInt32))), (.int u3), (.int u4), (.int u5), (.int u6), (.int u7)] (.int (0 : Int32)) := V1
  have K1 : Keep h0 h1 [a1] := K0.wr W1 (Or.inl (List.mem_of_getElem? (i := 0) rfl))
  have N1 := Fr.snoc X1 N0 pre_g_a1
  show GoW p e below QQ (T1.setTop (mkF m 116 #[.val (.ref a1), .val (.int (2 : Int32)), .val (.int p3)] []))
  refine GoW.st (fun t k => XS.aloadN X1.here hx rfl (hb hby d1_116) rfl rfl (XS.iloadN X1.here hx rfl (hb hby d1_117) rfl (XS.iconst X1.here hx rfl (hb hby d1_118) (XS.iadd X1.here hx rfl (hb hby d1_119) rfl (XS.sipush X1.here hx rfl (hb hby d1_120) (XS.iloadN X1.here hx rfl (hb hby d1_123) rfl k)))))) ?_
  show GoW p e below QQ (T1.setTop (mkF m 124 #[.val (.ref a1), .val (.int (2 : Int32)), .val (.int p3)] [(.int p3), (.int (128 : Int32)), (.int (3 : Int32)), (.ref a1)]))
  refine GoW.st (fun t k => XS.sipush X1.here hx rfl (hb hby d1_124) (XS.idiv X1.here hx rfl (hb hby d1_127) rfl (by decide) (XS.bipush X1.here hx rfl (hb hby d1_128) (iremM X1 hx rfl (hb hby d1_130) rfl (by decide) (XS.iadd X1.here hx rfl (hb hby d1_131) rfl (XS.i2b X1.here hx rfl (hb hby d1_132) rfl k)))))) ?_
  show GoW p e below QQ (T1.setTop (mkF m 133 #[.val (.ref a1), .val (.int (2 : Int32)), .val (.int p3)] [(.int (((128 : Int32) + ((p3 / (4096 : Int32)) % (64 : Int32))).toInt8.toInt32)), (.int (3 : Int32)), (.ref a1)]))
  obtain ⟨T3, h3, X3, e3, W3, V3, st3⟩ := stVB X1 hx hZ e1 f2_V_a1 ⟨by decide, by decide⟩ 3 rfl (Nat.le_of_ble_eq_true rfl) (g := (mkF m 133 #[.val (.ref a1), .val (.int (2 : Int32)), .val (.int p3)] [(.int (((128 : Int32) + ((p3 / (4096 : Int32)) % (64 : Int32))).toInt8.toInt32)), (.int (3 : Int32)), (.ref a1)])) rfl rfl (hb hby d1_133)
  refine GoW.st st3 ?_
  have f4_V_a1 : Arv Z h3 a1 ka .byte (8 : Int32) [(.int u0), (.int u1), (.int (nar .byte (((240 : Int32) + (p3 / (262144 : Int32))).toInt8.toInt32))), (.int (nar .byte (((128 : Int32) + ((p3 / (4096 : Int32)) % (64 : Int32))).toInt8.toInt32))), (.int u4), (.int u5), (.int u6), (.int u7)] (.int (0 : Int32)) := V3
  have K3 : Keep h0 h3 [a1] := K1.wr W3 (Or.inl (List.mem_of_getElem? (i := 0) rfl))
  have N3 := Fr.snoc X3 N1 pre_g_a1
  show GoW p e below QQ (T3.setTop (mkF m 134 #[.val (.ref a1), .val (.int (2 : Int32)), .val (.int p3)] []))
  refine GoW.st (fun t k => XS.aloadN X3.here hx rfl (hb hby d1_134) rfl rfl (XS.iloadN X3.here hx rfl (hb hby d1_135) rfl (XS.iconst X3.here hx rfl (hb hby d1_136) (XS.iadd X3.here hx rfl (hb hby d1_137) rfl (XS.sipush X3.here hx rfl (hb hby d1_138) (XS.iloadN X3.here hx rfl (hb hby d1_141) rfl k)))))) ?_
  show GoW p e below QQ (T3.setTop (mkF m 142 #[.val (.ref a1), .val (.int (2 : Int32)), .val (.int p3)] [(.int p3), (.int (128 : Int32)), (.int (4 : Int32)), (.ref a1)]))
  refine GoW.st (fun t k => XS.bipush X3.here hx rfl (hb hby d1_142) (XS.idiv X3.here hx rfl (hb hby d1_144) rfl (by decide) (XS.bipush X3.here hx rfl (hb hby d1_145) (iremM X3 hx rfl (hb hby d1_147) rfl (by decide) (XS.iadd X3.here hx rfl (hb hby d1_148) rfl (XS.i2b X3.here hx rfl (hb hby d1_149) rfl k)))))) ?_
  show GoW p e below QQ (T3.setTop (mkF m 150 #[.val (.ref a1), .val (.int (2 : Int32)), .val (.int p3)] [(.int (((128 : Int32) + ((p3 / (64 : Int32)) % (64 : Int32))).toInt8.toInt32)), (.int (4 : Int32)), (.ref a1)]))
  obtain ⟨T5, h5, X5, e5, W5, V5, st5⟩ := stVB X3 hx hZ e3 f4_V_a1 ⟨by decide, by decide⟩ 4 rfl (Nat.le_of_ble_eq_true rfl) (g := (mkF m 150 #[.val (.ref a1), .val (.int (2 : Int32)), .val (.int p3)] [(.int (((128 : Int32) + ((p3 / (64 : Int32)) % (64 : Int32))).toInt8.toInt32)), (.int (4 : Int32)), (.ref a1)])) rfl rfl (hb hby d1_150)
  refine GoW.st st5 ?_
  have f6_V_a1 : Arv Z h5 a1 ka .byte (8 : Int32) [(.int u0), (.int u1), (.int (nar .byte (((240 : Int32) + (p3 / (262144 : Int32))).toInt8.toInt32))), (.int (nar .byte (((128 : Int32) + ((p3 / (4096 : Int32)) % (64 : Int32))).toInt8.toInt32))), (.int (nar .byte (((128 : Int32) + ((p3 / (64 : Int32)) % (64 : Int32))).toInt8.toInt32))), (.int u5), (.int u6), (.int u7)] (.int (0 : Int32)) := V5
  have K5 : Keep h0 h5 [a1] := K3.wr W5 (Or.inl (List.mem_of_getElem? (i := 0) rfl))
  have N5 := Fr.snoc X5 N3 pre_g_a1
  show GoW p e below QQ (T5.setTop (mkF m 151 #[.val (.ref a1), .val (.int (2 : Int32)), .val (.int p3)] []))
  refine GoW.st (fun t k => XS.aloadN X5.here hx rfl (hb hby d1_151) rfl rfl (XS.iloadN X5.here hx rfl (hb hby d1_152) rfl (XS.iconst X5.here hx rfl (hb hby d1_153) (XS.iadd X5.here hx rfl (hb hby d1_154) rfl (XS.sipush X5.here hx rfl (hb hby d1_155) (XS.iloadN X5.here hx rfl (hb hby d1_158) rfl k)))))) ?_
  show GoW p e below QQ (T5.setTop (mkF m 159 #[.val (.ref a1), .val (.int (2 : Int32)), .val (.int p3)] [(.int p3), (.int (128 : Int32)), (.int (5 : Int32)), (.ref a1)]))
  refine GoW.st (fun t k => XS.bipush X5.here hx rfl (hb hby d1_159) (iremM X5 hx rfl (hb hby d1_161) rfl (by decide) (XS.iadd X5.here hx rfl (hb hby d1_162) rfl (XS.i2b X5.here hx rfl (hb hby d1_163) rfl k)))) ?_
  show GoW p e below QQ (T5.setTop (mkF m 164 #[.val (.ref a1), .val (.int (2 : Int32)), .val (.int p3)] [(.int (((128 : Int32) + (p3 % (64 : Int32))).toInt8.toInt32)), (.int (5 : Int32)), (.ref a1)]))
  obtain ⟨T7, h7, X7, e7, W7, V7, st7⟩ := stVB X5 hx hZ e5 f6_V_a1 ⟨by decide, by decide⟩ 5 rfl (Nat.le_of_ble_eq_true rfl) (g := (mkF m 164 #[.val (.ref a1), .val (.int (2 : Int32)), .val (.int p3)] [(.int (((128 : Int32) + (p3 % (64 : Int32))).toInt8.toInt32)), (.int (5 : Int32)), (.ref a1)])) rfl rfl (hb hby d1_164)
  refine GoW.st st7 ?_
  have f8_V_a1 : Arv Z h7 a1 ka .byte (8 : Int32) [(.int u0), (.int u1), (.int (nar .byte (((240 : Int32) + (p3 / (262144 : Int32))).toInt8.toInt32))), (.int (nar .byte (((128 : Int32) + ((p3 / (4096 : Int32)) % (64 : Int32))).toInt8.toInt32))), (.int (nar .byte (((128 : Int32) + ((p3 / (64 : Int32)) % (64 : Int32))).toInt8.toInt32))), (.int (nar .byte (((128 : Int32) + (p3 % (64 : Int32))).toInt8.toInt32))), (.int u6), (.int u7)] (.int (0 : Int32)) := V7
  have K7 : Keep h0 h7 [a1] := K5.wr W7 (Or.inl (List.mem_of_getElem? (i := 0) rfl))
  have N7 := Fr.snoc X7 N5 pre_g_a1
  show GoW p e below QQ (T7.setTop (mkF m 165 #[.val (.ref a1), .val (.int (2 : Int32)), .val (.int p3)] []))
  exact GoW.fin X7 none (fun _ => rfl) hlk hQ e7 ⟨rfl, N7, K7, f8_V_a1⟩ (by decide) (by decide) (fun fs hr => X7.returnOut hx hret (hb hby d1_165) hr)
def RM2_24 : Room := { frames := 0, cells := 0, slots := 0, locals := 0 }
def Q2_24 (Z : State) (a1 : Addr) (ka : ClassId) (u0 : Int32) (u1 : Int32) (u2 : Int32) (u3 : Int32) (u4 : Int32) (u5 : Int32) (u6 : Int32) (u7 : Int32) (h0 : Heap) (n0 : Nat) (v : Option Value) (h : Heap) (L : List Loc) : Prop := v = some (.int ((((((u2 &&& (255 : Int32)) &&& (7 : Int32)) <<< ((18 : Int32) &&& 31)) ||| ((u3 &&& (63 : Int32)) <<< ((12 : Int32) &&& 31))) ||| ((u4 &&& (63 : Int32)) <<< ((6 : Int32) &&& 31))) ||| (u5 &&& (63 : Int32)))) ∧ Fr n0 L ∧ h = h0
set_option maxRecDepth 65536 in
set_option maxHeartbeats 40000000 in
theorem rm2_24 (l : Launch) (Z : State) (a0 : Array Value) (hw : ∀ d ∈ tables_1, d.before a0 Z = true) (ws : List Jvm.Cond) (a1 : Addr) (ka : ClassId) (u0 : Int32) (u1 : Int32) (u2 : Int32) (u3 : Int32) (u4 : Int32) (u5 : Int32) (u6 : Int32) (u7 : Int32) (h0 : Heap) (n0 : Nat) (Z0 : n0 ≤ h0.size) (pre_V_a1 : Arv Z h0 a1 ka .byte (8 : Int32) [(.int u0), (.int u1), (.int u2), (.int u3), (.int u4), (.int u5), (.int u6), (.int u7)] (.int (0 : Int32))) (g1_4 : ¬ (u2 &&& (255 : Int32)) < (128 : Int32)) (g2_4 : ¬ (u2 &&& (255 : Int32)) < (224 : Int32)) (g3_4 : ¬ (u2 &&& (255 : Int32)) < (240 : Int32)) :
    MetFree l (⟨"com/example/terseform/terseform/Utf8", "codePointAt", "([BI)I"⟩ : MethodName) (head1 (Jvm.Cond.code (⟨"com/example/terseform/terseform/Utf8", "codePointAt", "([BI)I"⟩ : MethodName) prog_36_method_9_code 4 (some .int) :: ws) RM2_24) (fun a U => a = #[(.ref a1), (.int (2 : Int32))] ∧ Z.Warmed39 U.vm ∧ U.heap = h0) (fun _ _ _ _ _ => True) (fun _ U o U' => ∃ v L, o = .returned v ∧ Q2_24 Z a1 ka u0 u1 u2 u3 u4 u5 u6 u7 h0 n0 v U'.heap L ∧ FrameEnd U o U' L RM2_24.cells RM2_24.slots) := by
  refine met_of (Q := fun v h L => Q2_24 Z a1 ka u0 u1 u2 u3 u4 u5 u6 u7 h0 n0 v h L) (plainFor_of_name pn_1) (fun m => by first | (simp [entryFrame, mkF, argsToLocals, Value.category]; done) | rfl) (Ls := #[.val (.ref a1), .val (.int (2 : Int32)), .unset, .unset]) ?_
  intro p e s m below meth c T0 QQ hx hZ hby hml hown hnm hret hlk X0 e0 hQ
  have hml : c.maxLocals = 4 := hml
  have hown : s.vm.findClass "com/example/terseform/terseform/Utf8" = some m.cls := hown
  have hnm : meth.name = "codePointAt" := hnm
  have hret : meth.sig.returnType = some .int := hret
  have N0 := Fr.nil n0
  have K0 : Keep h0 h0 [] := Keep.refl h0 _
  show GoW p e below QQ (T0.setTop (mkF m 0 #[.val (.ref a1), .val (.int (2 : Int32)), .unset, .unset] []))
  refine GoW.st (fun t k => XS.aloadN X0.here hx rfl (hb hby d2_0) rfl rfl (XS.iloadN X0.here hx rfl (hb hby d2_1) rfl (ldVB X0 hx hZ e0 pre_V_a1 (v := (.int u2)) ⟨by decide, by decide⟩ rfl (g := (mkF m 2 #[.val (.ref a1), .val (.int (2 : Int32)), .unset, .unset] [(.int (2 : Int32)), (.ref a1)])) rfl rfl (hb hby d2_2) t (XS.sipush X0.here hx rfl (hb hby d2_3) (XS.iand X0.here hx rfl (hb hby d2_6) rfl (XS.istoreN X0.here hx rfl (hb hby d2_7) rfl (l' := #[.val (.ref a1), .val (.int (2 : Int32)), .val (.int (u2 &&& (255 : Int32))), .unset]) rfl k)))))) ?_
  show GoW p e below QQ (T0.setTop (mkF m 8 #[.val (.ref a1), .val (.int (2 : Int32)), .val (.int (u2 &&& (255 : Int32))), .unset] []))
  generalize hv7 : (u2 &&& (255 : Int32)) = v7
  refine GoW.st (fun t k => XS.iloadN X0.here hx rfl (hb hby d2_8) rfl (XS.sipush X0.here hx rfl (hb hby d2_9) k)) ?_
  show GoW p e below QQ (T0.setTop (mkF m 12 #[.val (.ref a1), .val (.int (2 : Int32)), .val (.int v7), .unset] [(.int (128 : Int32)), (.int v7)]))
  have hc12 : ¬ (v7 < (128 : Int32)) := by
    subst hv7
    exact g1_4
  refine GoW.st (fun t k => XS.icmpYes X0.here hx rfl (pc0 := 12) (pc' := 20) rfl (hb hby d2_12) rfl (flt hc12).2.1 (by decide) (by decide) (XS.iloadN X0.here hx rfl (hb hby d2_20) rfl (XS.sipush X0.here hx rfl (hb hby d2_21) k))) ?_
  show GoW p e below QQ (T0.setTop (mkF m 24 #[.val (.ref a1), .val (.int (2 : Int32)), .val (.int v7), .unset] [(.int (224 : Int32)), (.int v7)]))
  have hc24 : ¬ (v7 < (224 : Int32)) := by
    subst hv7
    exact g2_4
  refine GoW.st (fun t k => XS.icmpYes X0.here hx rfl (pc0 := 24) (pc' := 47) rfl (hb hby d2_24) rfl (flt hc24).2.1 (by decide) (by decide) (XS.iloadN X0.here hx rfl (hb hby d2_47) rfl (XS.sipush X0.here hx rfl (hb hby d2_48) k))) ?_
  show GoW p e below QQ (T0.setTop (mkF m 51 #[.val (.ref a1), .val (.int (2 : Int32)), .val (.int v7), .unset] [(.int (240 : Int32)), (.int v7)]))
  have hc51 : ¬ (v7 < (240 : Int32)) := by
    subst hv7
    exact g3_4
  refine GoW.st (fun t k => XS.icmpYes X0.here hx rfl (pc0 := 51) (pc' := 86) rfl (hb hby d2_51) rfl (flt hc51).2.1 (by decide) (by decide) (XS.iloadN X0.here hx rfl (hb hby d2_86) rfl (XS.bipush X0.here hx rfl (hb hby d2_87) (XS.iand X0.here hx rfl (hb hby d2_89) rfl (XS.bipush X0.here hx rfl (hb hby d2_90) (XS.ishl X0.here hx rfl (hb hby d2_92) rfl k)))))) ?_
  show GoW p e below QQ (T0.setTop (mkF m 93 #[.val (.ref a1), .val (.int (2 : Int32)), .val (.int v7), .unset] [(.int ((v7 &&& (7 : Int32)) <<< ((18 : Int32) &&& 31)))]))
  refine GoW.st (fun t k => XS.aloadN X0.here hx rfl (hb hby d2_93) rfl rfl (XS.iloadN X0.here hx rfl (hb hby d2_94) rfl (XS.iconst X0.here hx rfl (hb hby d2_95) (XS.iadd X0.here hx rfl (hb hby d2_96) rfl (ldVB X0 hx hZ e0 pre_V_a1 (v := (.int u3)) ⟨by decide, by decide⟩ rfl (g := (mkF m 97 #[.val (.ref a1), .val (.int (2 : Int32)), .val (.int v7), .unset] [(.int (3 : Int32)), (.ref a1), (.int ((v7 &&& (7 : Int32)) <<< ((18 : Int32) &&& 31)))])) rfl rfl (hb hby d2_97) t (XS.bipush X0.here hx rfl (hb hby d2_98) k)))))) ?_
  show GoW p e below QQ (T0.setTop (mkF m 100 #[.val (.ref a1), .val (.int (2 : Int32)), .val (.int v7), .unset] [(.int (63 : Int32)), (.int u3), (.int ((v7 &&& (7 : Int32)) <<< ((18 : Int32) &&& 31)))]))
  refine GoW.st (fun t k => XS.iand X0.here hx rfl (hb hby d2_100) rfl (XS.bipush X0.here hx rfl (hb hby d2_101) (XS.ishl X0.here hx rfl (hb hby d2_103) rfl (XS.ior X0.here hx rfl (hb hby d2_104) rfl (XS.aloadN X0.here hx rfl (hb hby d2_105) rfl rfl (XS.iloadN X0.here hx rfl (hb hby d2_106) rfl k)))))) ?_
  show GoW p e below QQ (T0.setTop (mkF m 107 #[.val (.ref a1), .val (.int (2 : Int32)), .val (.int v7), .unset] [(.int (2 : Int32)), (.ref a1), (.int (((v7 &&& (7 : Int32)) <<< ((18 : Int32) &&& 31)) ||| ((u3 &&& (63 : Int32)) <<< ((12 : Int32) &&& 31))))]))
  refine GoW.st (fun t k => XS.iconst X0.here hx rfl (hb hby d2_107) (XS.iadd X0.here hx rfl (hb hby d2_108) rfl (ldVB X0 hx hZ e0 pre_V_a1 (v := (.int u4)) ⟨by decide, by decide⟩ rfl (g := (mkF m 109 #[.val (.ref a1), .val (.int (2 : Int32)), .val (.int v7), .unset] [(.int (4 : Int32)), (.ref a1), (.int (((v7 &&& (7 : Int32)) <<< ((18 : Int32) &&& 31)) ||| ((u3 &&& (63 : Int32)) <<< ((12 : Int32) &&& 31))))])) rfl rfl (hb hby d2_109) t (XS.bipush X0.here hx rfl (hb hby d2_110) (XS.iand X0.here hx rfl (hb hby d2_112) rfl (XS.bipush X0.here hx rfl (hb hby d2_113) k)))))) ?_
  show GoW p e below QQ (T0.setTop (mkF m 115 #[.val (.ref a1), .val (.int (2 : Int32)), .val (.int v7), .unset] [(.int (6 : Int32)), (.int (u4 &&& (63 : Int32))), (.int (((v7 &&& (7 : Int32)) <<< ((18 : Int32) &&& 31)) ||| ((u3 &&& (63 : Int32)) <<< ((12 : Int32) &&& 31))))]))
  refine GoW.st (fun t k => XS.ishl X0.here hx rfl (hb hby d2_115) rfl (XS.ior X0.here hx rfl (hb hby d2_116) rfl (XS.aloadN X0.here hx rfl (hb hby d2_117) rfl rfl (XS.iloadN X0.here hx rfl (hb hby d2_118) rfl (XS.iconst X0.here hx rfl (hb hby d2_119) (XS.iadd X0.here hx rfl (hb hby d2_120) rfl k)))))) ?_
  show GoW p e below QQ (T0.setTop (mkF m 121 #[.val (.ref a1), .val (.int (2 : Int32)), .val (.int v7), .unset] [(.int (5 : Int32)), (.ref a1), (.int ((((v7 &&& (7 : Int32)) <<< ((18 : Int32) &&& 31)) ||| ((u3 &&& (63 : Int32)) <<< ((12 : Int32) &&& 31))) ||| ((u4 &&& (63 : Int32)) <<< ((6 : Int32) &&& 31))))]))
  refine GoW.st (fun t k => ldVB X0 hx hZ e0 pre_V_a1 (v := (.int u5)) ⟨by decide, by decide⟩ rfl (g := (mkF m 121 #[.val (.ref a1), .val (.int (2 : Int32)), .val (.int v7), .unset] [(.int (5 : Int32)), (.ref a1), (.int ((((v7 &&& (7 : Int32)) <<< ((18 : Int32) &&& 31)) ||| ((u3 &&& (63 : Int32)) <<< ((12 : Int32) &&& 31))) ||| ((u4 &&& (63 : Int32)) <<< ((6 : Int32) &&& 31))))])) rfl rfl (hb hby d2_121) t (XS.bipush X0.here hx rfl (hb hby d2_122) (XS.iand X0.here hx rfl (hb hby d2_124) rfl (XS.ior X0.here hx rfl (hb hby d2_125) rfl (XS.istoreN X0.here hx rfl (hb hby d2_126) rfl (l' := #[.val (.ref a1), .val (.int (2 : Int32)), .val (.int v7), .val (.int (((((v7 &&& (7 : Int32)) <<< ((18 : Int32) &&& 31)) ||| ((u3 &&& (63 : Int32)) <<< ((12 : Int32) &&& 31))) ||| ((u4 &&& (63 : Int32)) <<< ((6 : Int32) &&& 31))) ||| (u5 &&& (63 : Int32))))]) rfl k))))) ?_
  show GoW p e below QQ (T0.setTop (mkF m 127 #[.val (.ref a1), .val (.int (2 : Int32)), .val (.int v7), .val (.int (((((v7 &&& (7 : Int32)) <<< ((18 : Int32) &&& 31)) ||| ((u3 &&& (63 : Int32)) <<< ((12 : Int32) &&& 31))) ||| ((u4 &&& (63 : Int32)) <<< ((6 : Int32) &&& 31))) ||| (u5 &&& (63 : Int32))))] []))
  generalize hv126 : (((((v7 &&& (7 : Int32)) <<< ((18 : Int32) &&& 31)) ||| ((u3 &&& (63 : Int32)) <<< ((12 : Int32) &&& 31))) ||| ((u4 &&& (63 : Int32)) <<< ((6 : Int32) &&& 31))) ||| (u5 &&& (63 : Int32))) = v126
  refine GoW.st (fun t k => XS.iloadN X0.here hx rfl (hb hby d2_127) rfl k) ?_
  show GoW p e below QQ (T0.setTop (mkF m 128 #[.val (.ref a1), .val (.int (2 : Int32)), .val (.int v7), .val (.int v126)] [(.int v126)]))
  have rv : ((some (.int v126)) : Option Value) = some (.int ((((((u2 &&& (255 : Int32)) &&& (7 : Int32)) <<< ((18 : Int32) &&& 31)) ||| ((u3 &&& (63 : Int32)) <<< ((12 : Int32) &&& 31))) ||| ((u4 &&& (63 : Int32)) <<< ((6 : Int32) &&& 31))) ||| (u5 &&& (63 : Int32)))) := by
    subst_vars
    rfl
  exact GoW.fin X0 (some (.int v126)) (fun q => by rw [hret] at q; cases q) hlk hQ e0 ⟨rv, N0, rfl⟩ (by decide) (by decide) (fun fs hr => retI X0 hx hret (hb hby d2_128) hr)
def RM1_34 : Room := { frames := 0, cells := 0, slots := 0, locals := 0 }
def Q1_34 (Z : State) (a1 : Addr) (ka : ClassId) (p3 : Int32) (u0 : Int32) (u1 : Int32) (u2 : Int32) (u3 : Int32) (u4 : Int32) (u5 : Int32) (u6 : Int32) (u7 : Int32) (h0 : Heap) (n0 : Nat) (v : Option Value) (h : Heap) (L : List Loc) : Prop := v = none ∧ Fr n0 L ∧ Keep h0 h [a1] ∧ (Arv Z h a1 ka .byte (8 : Int32) [(.int u0), (.int u1), (.int u2), (.int (nar .byte (((240 : Int32) + (p3 / (262144 : Int32))).toInt8.toInt32))), (.int (nar .byte (((128 : Int32) + ((p3 / (4096 : Int32)) % (64 : Int32))).toInt8.toInt32))), (.int (nar .byte (((128 : Int32) + ((p3 / (64 : Int32)) % (64 : Int32))).toInt8.toInt32))), (.int (nar .byte (((128 : Int32) + (p3 % (64 : Int32))).toInt8.toInt32))), (.int u7)] (.int (0 : Int32)))
set_option maxRecDepth 65536 in
set_option maxHeartbeats 40000000 in
theorem rm1_34 (l : Launch) (Z : State) (a0 : Array Value) (hw : ∀ d ∈ tables_1, d.before a0 Z = true) (ws : List Jvm.Cond) (a1 : Addr) (ka : ClassId) (p3 : Int32) (u0 : Int32) (u1 : Int32) (u2 : Int32) (u3 : Int32) (u4 : Int32) (u5 : Int32) (u6 : Int32) (u7 : Int32) (h0 : Heap) (n0 : Nat) (Z0 : n0 ≤ h0.size) (pre_V_a1 : Arv Z h0 a1 ka .byte (8 : Int32) [(.int u0), (.int u1), (.int u2), (.int u3), (.int u4), (.int u5), (.int u6), (.int u7)] (.int (0 : Int32))) (pre_g_a1 : n0 ≤ a1) (hk1 : ¬ p3 < (128 : Int32)) (hk2 : ¬ p3 < (2048 : Int32)) (hk3 : ¬ p3 < (65536 : Int32)) :
    MetFree l (⟨"com/example/terseform/terseform/Utf8CodePointAtPinLaw", "put", "([BII)V"⟩ : MethodName) (head1 (Jvm.Cond.code (⟨"com/example/terseform/terseform/Utf8CodePointAtPinLaw", "put", "([BII)V"⟩ : MethodName) method_3_code 3 none :: ws) RM1_34) (fun a U => a = #[(.ref a1), (.int (3 : Int32)), (.int p3)] ∧ Z.Warmed39 U.vm ∧ U.heap = h0) (fun _ _ _ _ _ => True) (fun _ U o U' => ∃ v L, o = .returned v ∧ Q1_34 Z a1 ka p3 u0 u1 u2 u3 u4 u5 u6 u7 h0 n0 v U'.heap L ∧ FrameEnd U o U' L RM1_34.cells RM1_34.slots) := by
  refine met_of (Q := fun v h L => Q1_34 Z a1 ka p3 u0 u1 u2 u3 u4 u5 u6 u7 h0 n0 v h L) (plainFor_of_name pn_0) (fun m => by first | (simp [entryFrame, mkF, argsToLocals, Value.category]; done) | rfl) (Ls := #[.val (.ref a1), .val (.int (3 : Int32)), .val (.int p3)]) ?_
  intro p e s m below meth c T0 QQ hx hZ hby hml hown hnm hret hlk X0 e0 hQ
  have hml : c.maxLocals = 3 := hml
  have hown : s.vm.findClass "com/example/terseform/terseform/Utf8CodePointAtPinLaw" = some m.cls := hown
  have hnm : meth.name = "put" := hnm
  have hret : meth.sig.returnType = none := hret
  have N0 := Fr.nil n0
  have K0 : Keep h0 h0 [a1] := Keep.refl h0 _
  show GoW p e below QQ (T0.setTop (mkF m 0 #[.val (.ref a1), .val (.int (3 : Int32)), .val (.int p3)] []))
  refine GoW.st (fun t k => XS.iloadN X0.here hx rfl (hb hby d1_0) rfl (XS.sipush X0.here hx rfl (hb hby d1_1) k)) ?_
  show GoW p e below QQ (T0.setTop (mkF m 4 #[.val (.ref a1), .val (.int (3 : Int32)), .val (.int p3)] [(.int (128 : Int32)), (.int p3)]))
  have hc4 : ¬ (p3 < (128 : Int32)) := by
    exact hk1
  refine GoW.st (fun t k => XS.icmpYes X0.here hx rfl (pc0 := 4) (pc' := 15) rfl (hb hby d1_4) rfl (flt hc4).2.1 (by decide) (by decide) (XS.iloadN X0.here hx rfl (hb hby d1_15) rfl (XS.sipush X0.here hx rfl (hb hby d1_16) k))) ?_
  show GoW p e below QQ (T0.setTop (mkF m 19 #[.val (.ref a1), .val (.int (3 : Int32)), .val (.int p3)] [(.int (2048 : Int32)), (.int p3)]))
  have hc19 : ¬ (p3 < (2048 : Int32)) := by
    exact hk2
  refine GoW.st (fun t k => XS.icmpYes X0.here hx rfl (pc0 := 19) (pc' := 51) rfl (hb hby d1_19) rfl (flt hc19).2.1 (by decide) (by decide) (XS.iloadN X0.here hx rfl (hb hby d1_51) rfl (X0.ldcInt hx hown (mvT hZ (hw _ (List.mem_of_getElem? (i := 1) rfl))) (g := (mkF m 52 #[.val (.ref a1), .val (.int (3 : Int32)), .val (.int p3)] [(.int p3)])) rfl (hb hby d1_52) t k))) ?_
  show GoW p e below QQ (T0.setTop (mkF m 54 #[.val (.ref a1), .val (.int (3 : Int32)), .val (.int p3)] [(.int (65536 : Int32)), (.int p3)]))
  have hc54 : ¬ (p3 < (65536 : Int32)) := by
    exact hk3
  refine GoW.st (fun t k => XS.icmpYes X0.here hx rfl (pc0 := 54) (pc' := 104) rfl (hb hby d1_54) rfl (flt hc54).2.1 (by decide) (by decide) (XS.aloadN X0.here hx rfl (hb hby d1_104) rfl rfl (XS.iloadN X0.here hx rfl (hb hby d1_105) rfl (XS.sipush X0.here hx rfl (hb hby d1_106) (XS.iloadN X0.here hx rfl (hb hby d1_109) rfl (X0.ldcInt hx hown (mvT hZ (hw _ (List.mem_of_getElem? (i := 8) rfl))) (g := (mkF m 110 #[.val (.ref a1), .val (.int (3 : Int32)), .val (.int p3)] [(.int p3), (.int (240 : Int32)), (.int (3 : Int32)), (.ref a1)])) rfl (hb hby d1_110) t k)))))) ?_
  show GoW p e below QQ (T0.setTop (mkF m 112 #[.val (.ref a1), .val (.int (3 : Int32)), .val (.int p3)] [(.int (262144 : Int32)), (.int p3), (.int (240 : Int32)), (.int (3 : Int32)), (.ref a1)]))
  refine GoW.st (fun t k => XS.idiv X0.here hx rfl (hb hby d1_112) rfl (by decide) (XS.iadd X0.here hx rfl (hb hby d1_113) rfl (XS.i2b X0.here hx rfl (hb hby d1_114) rfl k))) ?_
  show GoW p e below QQ (T0.setTop (mkF m 115 #[.val (.ref a1), .val (.int (3 : Int32)), .val (.int p3)] [(.int (((240 : Int32) + (p3 / (262144 : Int32))).toInt8.toInt32)), (.int (3 : Int32)), (.ref a1)]))
  obtain ⟨T1, h1, X1, e1, W1, V1, st1⟩ := stVB X0 hx hZ e0 pre_V_a1 ⟨by decide, by decide⟩ 3 rfl (Nat.le_of_ble_eq_true rfl) (g := (mkF m 115 #[.val (.ref a1), .val (.int (3 : Int32)), .val (.int p3)] [(.int (((240 : Int32) + (p3 / (262144 : Int32))).toInt8.toInt32)), (.int (3 : Int32)), (.ref a1)])) rfl rfl (hb hby d1_115)
  refine GoW.st st1 ?_
  have f2_V_a1 : Arv Z h1 a1 ka .byte (8 : Int32) [(.int u0), (.int u1), (.int u2), (.int (nar .byte (((240 : Int32) + (p3 / (262144 : Int32))).toInt8.toInt32))), (.int u4), (.int u5), (.int u6), (.int u7)] (.int (0 : Int32)) := V1
  have K1 : Keep h0 h1 [a1] := K0.wr W1 (Or.inl (List.mem_of_getElem? (i := 0) rfl))
  have N1 := Fr.snoc X1 N0 pre_g_a1
  show GoW p e below QQ (T1.setTop (mkF m 116 #[.val (.ref a1), .val (.int (3 : Int32)), .val (.int p3)] []))
  refine GoW.st (fun t k => XS.aloadN X1.here hx rfl (hb hby d1_116) rfl rfl (XS.iloadN X1.here hx rfl (hb hby d1_117) rfl (XS.iconst X1.here hx rfl (hb hby d1_118) (XS.iadd X1.here hx rfl (hb hby d1_119) rfl (XS.sipush X1.here hx rfl (hb hby d1_120) (XS.iloadN X1.here hx rfl (hb hby d1_123) rfl k)))))) ?_
  show GoW p e below QQ (T1.setTop (mkF m 124 #[.val (.ref a1), .val (.int (3 : Int32)), .val (.int p3)] [(.int p3), (.int (128 : Int32)), (.int (4 : Int32)), (.ref a1)]))
  refine GoW.st (fun t k => XS.sipush X1.here hx rfl (hb hby d1_124) (XS.idiv X1.here hx rfl (hb hby d1_127) rfl (by decide) (XS.bipush X1.here hx rfl (hb hby d1_128) (iremM X1 hx rfl (hb hby d1_130) rfl (by decide) (XS.iadd X1.here hx rfl (hb hby d1_131) rfl (XS.i2b X1.here hx rfl (hb hby d1_132) rfl k)))))) ?_
  show GoW p e below QQ (T1.setTop (mkF m 133 #[.val (.ref a1), .val (.int (3 : Int32)), .val (.int p3)] [(.int (((128 : Int32) + ((p3 / (4096 : Int32)) % (64 : Int32))).toInt8.toInt32)), (.int (4 : Int32)), (.ref a1)]))
  obtain ⟨T3, h3, X3, e3, W3, V3, st3⟩ := stVB X1 hx hZ e1 f2_V_a1 ⟨by decide, by decide⟩ 4 rfl (Nat.le_of_ble_eq_true rfl) (g := (mkF m 133 #[.val (.ref a1), .val (.int (3 : Int32)), .val (.int p3)] [(.int (((128 : Int32) + ((p3 / (4096 : Int32)) % (64 : Int32))).toInt8.toInt32)), (.int (4 : Int32)), (.ref a1)])) rfl rfl (hb hby d1_133)
  refine GoW.st st3 ?_
  have f4_V_a1 : Arv Z h3 a1 ka .byte (8 : Int32) [(.int u0), (.int u1), (.int u2), (.int (nar .byte (((240 : Int32) + (p3 / (262144 : Int32))).toInt8.toInt32))), (.int (nar .byte (((128 : Int32) + ((p3 / (4096 : Int32)) % (64 : Int32))).toInt8.toInt32))), (.int u5), (.int u6), (.int u7)] (.int (0 : Int32)) := V3
  have K3 : Keep h0 h3 [a1] := K1.wr W3 (Or.inl (List.mem_of_getElem? (i := 0) rfl))
  have N3 := Fr.snoc X3 N1 pre_g_a1
  show GoW p e below QQ (T3.setTop (mkF m 134 #[.val (.ref a1), .val (.int (3 : Int32)), .val (.int p3)] []))
  refine GoW.st (fun t k => XS.aloadN X3.here hx rfl (hb hby d1_134) rfl rfl (XS.iloadN X3.here hx rfl (hb hby d1_135) rfl (XS.iconst X3.here hx rfl (hb hby d1_136) (XS.iadd X3.here hx rfl (hb hby d1_137) rfl (XS.sipush X3.here hx rfl (hb hby d1_138) (XS.iloadN X3.here hx rfl (hb hby d1_141) rfl k)))))) ?_
  show GoW p e below QQ (T3.setTop (mkF m 142 #[.val (.ref a1), .val (.int (3 : Int32)), .val (.int p3)] [(.int p3), (.int (128 : Int32)), (.int (5 : Int32)), (.ref a1)]))
  refine GoW.st (fun t k => XS.bipush X3.here hx rfl (hb hby d1_142) (XS.idiv X3.here hx rfl (hb hby d1_144) rfl (by decide) (XS.bipush X3.here hx rfl (hb hby d1_145) (iremM X3 hx rfl (hb hby d1_147) rfl (by decide) (XS.iadd X3.here hx rfl (hb hby d1_148) rfl (XS.i2b X3.here hx rfl (hb hby d1_149) rfl k)))))) ?_
  show GoW p e below QQ (T3.setTop (mkF m 150 #[.val (.ref a1), .val (.int (3 : Int32)), .val (.int p3)] [(.int (((128 : Int32) + ((p3 / (64 : Int32)) % (64 : Int32))).toInt8.toInt32)), (.int (5 : Int32)), (.ref a1)]))
  obtain ⟨T5, h5, X5, e5, W5, V5, st5⟩ := stVB X3 hx hZ e3 f4_V_a1 ⟨by decide, by decide⟩ 5 rfl (Nat.le_of_ble_eq_true rfl) (g := (mkF m 150 #[.val (.ref a1), .val (.int (3 : Int32)), .val (.int p3)] [(.int (((128 : Int32) + ((p3 / (64 : Int32)) % (64 : Int32))).toInt8.toInt32)), (.int (5 : Int32)), (.ref a1)])) rfl rfl (hb hby d1_150)
  refine GoW.st st5 ?_
  have f6_V_a1 : Arv Z h5 a1 ka .byte (8 : Int32) [(.int u0), (.int u1), (.int u2), (.int (nar .byte (((240 : Int32) + (p3 / (262144 : Int32))).toInt8.toInt32))), (.int (nar .byte (((128 : Int32) + ((p3 / (4096 : Int32)) % (64 : Int32))).toInt8.toInt32))), (.int (nar .byte (((128 : Int32) + ((p3 / (64 : Int32)) % (64 : Int32))).toInt8.toInt32))), (.int u6), (.int u7)] (.int (0 : Int32)) := V5
  have K5 : Keep h0 h5 [a1] := K3.wr W5 (Or.inl (List.mem_of_getElem? (i := 0) rfl))
  have N5 := Fr.snoc X5 N3 pre_g_a1
  show GoW p e below QQ (T5.setTop (mkF m 151 #[.val (.ref a1), .val (.int (3 : Int32)), .val (.int p3)] []))
  refine GoW.st (fun t k => XS.aloadN X5.here hx rfl (hb hby d1_151) rfl rfl (XS.iloadN X5.here hx rfl (hb hby d1_152) rfl (XS.iconst X5.here hx rfl (hb hby d1_153) (XS.iadd X5.here hx rfl (hb hby d1_154) rfl (XS.sipush X5.here hx rfl (hb hby d1_155) (XS.iloadN X5.here hx rfl (hb hby d1_158) rfl k)))))) ?_
  show GoW p e below QQ (T5.setTop (mkF m 159 #[.val (.ref a1), .val (.int (3 : Int32)), .val (.int p3)] [(.int p3), (.int (128 : Int32)), (.int (6 : Int32)), (.ref a1)]))
  refine GoW.st (fun t k => XS.bipush X5.here hx rfl (hb hby d1_159) (iremM X5 hx rfl (hb hby d1_161) rfl (by decide) (XS.iadd X5.here hx rfl (hb hby d1_162) rfl (XS.i2b X5.here hx rfl (hb hby d1_163) rfl k)))) ?_
  show GoW p e below QQ (T5.setTop (mkF m 164 #[.val (.ref a1), .val (.int (3 : Int32)), .val (.int p3)] [(.int (((128 : Int32) + (p3 % (64 : Int32))).toInt8.toInt32)), (.int (6 : Int32)), (.ref a1)]))
  obtain ⟨T7, h7, X7, e7, W7, V7, st7⟩ := stVB X5 hx hZ e5 f6_V_a1 ⟨by decide, by decide⟩ 6 rfl (Nat.le_of_ble_eq_true rfl) (g := (mkF m 164 #[.val (.ref a1), .val (.int (3 : Int32)), .val (.int p3)] [(.int (((128 : Int32) + (p3 % (64 : Int32))).toInt8.toInt32)), (.int (6 : Int32)), (.ref a1)])) rfl rfl (hb hby d1_164)
  refine GoW.st st7 ?_
  have f8_V_a1 : Arv Z h7 a1 ka .byte (8 : Int32) [(.int u0), (.int u1), (.int u2), (.int (nar .byte (((240 : Int32) + (p3 / (262144 : Int32))).toInt8.toInt32))), (.int (nar .byte (((128 : Int32) + ((p3 / (4096 : Int32)) % (64 : Int32))).toInt8.toInt32))), (.int (nar .byte (((128 : Int32) + ((p3 / (64 : Int32)) % (64 : Int32))).toInt8.toInt32))), (.int (nar .byte (((128 : Int32) + (p3 % (64 : Int32))).toInt8.toInt32))), (.int u7)] (.int (0 : Int32)) := V7
  have K7 : Keep h0 h7 [a1] := K5.wr W7 (Or.inl (List.mem_of_getElem? (i := 0) rfl))
  have N7 := Fr.snoc X7 N5 pre_g_a1
  show GoW p e below QQ (T7.setTop (mkF m 165 #[.val (.ref a1), .val (.int (3 : Int32)), .val (.int p3)] []))
  exact GoW.fin X7 none (fun _ => rfl) hlk hQ e7 ⟨rfl, N7, K7, f8_V_a1⟩ (by decide) (by decide) (fun fs hr => X7.returnOut hx hret (hb hby d1_165) hr)
def RM2_34 : Room := { frames := 0, cells := 0, slots := 0, locals := 0 }
def Q2_34 (Z : State) (a1 : Addr) (ka : ClassId) (u0 : Int32) (u1 : Int32) (u2 : Int32) (u3 : Int32) (u4 : Int32) (u5 : Int32) (u6 : Int32) (u7 : Int32) (h0 : Heap) (n0 : Nat) (v : Option Value) (h : Heap) (L : List Loc) : Prop := v = some (.int ((((((u3 &&& (255 : Int32)) &&& (7 : Int32)) <<< ((18 : Int32) &&& 31)) ||| ((u4 &&& (63 : Int32)) <<< ((12 : Int32) &&& 31))) ||| ((u5 &&& (63 : Int32)) <<< ((6 : Int32) &&& 31))) ||| (u6 &&& (63 : Int32)))) ∧ Fr n0 L ∧ h = h0
set_option maxRecDepth 65536 in
set_option maxHeartbeats 40000000 in
theorem rm2_34 (l : Launch) (Z : State) (a0 : Array Value) (hw : ∀ d ∈ tables_1, d.before a0 Z = true) (ws : List Jvm.Cond) (a1 : Addr) (ka : ClassId) (u0 : Int32) (u1 : Int32) (u2 : Int32) (u3 : Int32) (u4 : Int32) (u5 : Int32) (u6 : Int32) (u7 : Int32) (h0 : Heap) (n0 : Nat) (Z0 : n0 ≤ h0.size) (pre_V_a1 : Arv Z h0 a1 ka .byte (8 : Int32) [(.int u0), (.int u1), (.int u2), (.int u3), (.int u4), (.int u5), (.int u6), (.int u7)] (.int (0 : Int32))) (g1_4 : ¬ (u3 &&& (255 : Int32)) < (128 : Int32)) (g2_4 : ¬ (u3 &&& (255 : Int32)) < (224 : Int32)) (g3_4 : ¬ (u3 &&& (255 : Int32)) < (240 : Int32)) :
    MetFree l (⟨"com/example/terseform/terseform/Utf8", "codePointAt", "([BI)I"⟩ : MethodName) (head1 (Jvm.Cond.code (⟨"com/example/terseform/terseform/Utf8", "codePointAt", "([BI)I"⟩ : MethodName) prog_36_method_9_code 4 (some .int) :: ws) RM2_34) (fun a U => a = #[(.ref a1), (.int (3 : Int32))] ∧ Z.Warmed39 U.vm ∧ U.heap = h0) (fun _ _ _ _ _ => True) (fun _ U o U' => ∃ v L, o = .returned v ∧ Q2_34 Z a1 ka u0 u1 u2 u3 u4 u5 u6 u7 h0 n0 v U'.heap L ∧ FrameEnd U o U' L RM2_34.cells RM2_34.slots) := by
  refine met_of (Q := fun v h L => Q2_34 Z a1 ka u0 u1 u2 u3 u4 u5 u6 u7 h0 n0 v h L) (plainFor_of_name pn_1) (fun m => by first | (simp [entryFrame, mkF, argsToLocals, Value.category]; done) | rfl) (Ls := #[.val (.ref a1), .val (.int (3 : Int32)), .unset, .unset]) ?_
  intro p e s m below meth c T0 QQ hx hZ hby hml hown hnm hret hlk X0 e0 hQ
  have hml : c.maxLocals = 4 := hml
  have hown : s.vm.findClass "com/example/terseform/terseform/Utf8" = some m.cls := hown
  have hnm : meth.name = "codePointAt" := hnm
  have hret : meth.sig.returnType = some .int := hret
  have N0 := Fr.nil n0
  have K0 : Keep h0 h0 [] := Keep.refl h0 _
  show GoW p e below QQ (T0.setTop (mkF m 0 #[.val (.ref a1), .val (.int (3 : Int32)), .unset, .unset] []))
  refine GoW.st (fun t k => XS.aloadN X0.here hx rfl (hb hby d2_0) rfl rfl (XS.iloadN X0.here hx rfl (hb hby d2_1) rfl (ldVB X0 hx hZ e0 pre_V_a1 (v := (.int u3)) ⟨by decide, by decide⟩ rfl (g := (mkF m 2 #[.val (.ref a1), .val (.int (3 : Int32)), .unset, .unset] [(.int (3 : Int32)), (.ref a1)])) rfl rfl (hb hby d2_2) t (XS.sipush X0.here hx rfl (hb hby d2_3) (XS.iand X0.here hx rfl (hb hby d2_6) rfl (XS.istoreN X0.here hx rfl (hb hby d2_7) rfl (l' := #[.val (.ref a1), .val (.int (3 : Int32)), .val (.int (u3 &&& (255 : Int32))), .unset]) rfl k)))))) ?_
  show GoW p e below QQ (T0.setTop (mkF m 8 #[.val (.ref a1), .val (.int (3 : Int32)), .val (.int (u3 &&& (255 : Int32))), .unset] []))
  generalize hv7 : (u3 &&& (255 : Int32)) = v7
  refine GoW.st (fun t k => XS.iloadN X0.here hx rfl (hb hby d2_8) rfl (XS.sipush X0.here hx rfl (hb hby d2_9) k)) ?_
  show GoW p e below QQ (T0.setTop (mkF m 12 #[.val (.ref a1), .val (.int (3 : Int32)), .val (.int v7), .unset] [(.int (128 : Int32)), (.int v7)]))
  have hc12 : ¬ (v7 < (128 : Int32)) := by
    subst hv7
    exact g1_4
  refine GoW.st (fun t k => XS.icmpYes X0.here hx rfl (pc0 := 12) (pc' := 20) rfl (hb hby d2_12) rfl (flt hc12).2.1 (by decide) (by decide) (XS.iloadN X0.here hx rfl (hb hby d2_20) rfl (XS.sipush X0.here hx rfl (hb hby d2_21) k))) ?_
  show GoW p e below QQ (T0.setTop (mkF m 24 #[.val (.ref a1), .val (.int (3 : Int32)), .val (.int v7), .unset] [(.int (224 : Int32)), (.int v7)]))
  have hc24 : ¬ (v7 < (224 : Int32)) := by
    subst hv7
    exact g2_4
  refine GoW.st (fun t k => XS.icmpYes X0.here hx rfl (pc0 := 24) (pc' := 47) rfl (hb hby d2_24) rfl (flt hc24).2.1 (by decide) (by decide) (XS.iloadN X0.here hx rfl (hb hby d2_47) rfl (XS.sipush X0.here hx rfl (hb hby d2_48) k))) ?_
  show GoW p e below QQ (T0.setTop (mkF m 51 #[.val (.ref a1), .val (.int (3 : Int32)), .val (.int v7), .unset] [(.int (240 : Int32)), (.int v7)]))
  have hc51 : ¬ (v7 < (240 : Int32)) := by
    subst hv7
    exact g3_4
  refine GoW.st (fun t k => XS.icmpYes X0.here hx rfl (pc0 := 51) (pc' := 86) rfl (hb hby d2_51) rfl (flt hc51).2.1 (by decide) (by decide) (XS.iloadN X0.here hx rfl (hb hby d2_86) rfl (XS.bipush X0.here hx rfl (hb hby d2_87) (XS.iand X0.here hx rfl (hb hby d2_89) rfl (XS.bipush X0.here hx rfl (hb hby d2_90) (XS.ishl X0.here hx rfl (hb hby d2_92) rfl k)))))) ?_
  show GoW p e below QQ (T0.setTop (mkF m 93 #[.val (.ref a1), .val (.int (3 : Int32)), .val (.int v7), .unset] [(.int ((v7 &&& (7 : Int32)) <<< ((18 : Int32) &&& 31)))]))
  refine GoW.st (fun t k => XS.aloadN X0.here hx rfl (hb hby d2_93) rfl rfl (XS.iloadN X0.here hx rfl (hb hby d2_94) rfl (XS.iconst X0.here hx rfl (hb hby d2_95) (XS.iadd X0.here hx rfl (hb hby d2_96) rfl (ldVB X0 hx hZ e0 pre_V_a1 (v := (.int u4)) ⟨by decide, by decide⟩ rfl (g := (mkF m 97 #[.val (.ref a1), .val (.int (3 : Int32)), .val (.int v7), .unset] [(.int (4 : Int32)), (.ref a1), (.int ((v7 &&& (7 : Int32)) <<< ((18 : Int32) &&& 31)))])) rfl rfl (hb hby d2_97) t (XS.bipush X0.here hx rfl (hb hby d2_98) k)))))) ?_
  show GoW p e below QQ (T0.setTop (mkF m 100 #[.val (.ref a1), .val (.int (3 : Int32)), .val (.int v7), .unset] [(.int (63 : Int32)), (.int u4), (.int ((v7 &&& (7 : Int32)) <<< ((18 : Int32) &&& 31)))]))
  refine GoW.st (fun t k => XS.iand X0.here hx rfl (hb hby d2_100) rfl (XS.bipush X0.here hx rfl (hb hby d2_101) (XS.ishl X0.here hx rfl (hb hby d2_103) rfl (XS.ior X0.here hx rfl (hb hby d2_104) rfl (XS.aloadN X0.here hx rfl (hb hby d2_105) rfl rfl (XS.iloadN X0.here hx rfl (hb hby d2_106) rfl k)))))) ?_
  show GoW p e below QQ (T0.setTop (mkF m 107 #[.val (.ref a1), .val (.int (3 : Int32)), .val (.int v7), .unset] [(.int (3 : Int32)), (.ref a1), (.int (((v7 &&& (7 : Int32)) <<< ((18 : Int32) &&& 31)) ||| ((u4 &&& (63 : Int32)) <<< ((12 : Int32) &&& 31))))]))
  refine GoW.st (fun t k => XS.iconst X0.here hx rfl (hb hby d2_107) (XS.iadd X0.here hx rfl (hb hby d2_108) rfl (ldVB X0 hx hZ e0 pre_V_a1 (v := (.int u5)) ⟨by decide, by decide⟩ rfl (g := (mkF m 109 #[.val (.ref a1), .val (.int (3 : Int32)), .val (.int v7), .unset] [(.int (5 : Int32)), (.ref a1), (.int (((v7 &&& (7 : Int32)) <<< ((18 : Int32) &&& 31)) ||| ((u4 &&& (63 : Int32)) <<< ((12 : Int32) &&& 31))))])) rfl rfl (hb hby d2_109) t (XS.bipush X0.here hx rfl (hb hby d2_110) (XS.iand X0.here hx rfl (hb hby d2_112) rfl (XS.bipush X0.here hx rfl (hb hby d2_113) k)))))) ?_
  show GoW p e below QQ (T0.setTop (mkF m 115 #[.val (.ref a1), .val (.int (3 : Int32)), .val (.int v7), .unset] [(.int (6 : Int32)), (.int (u5 &&& (63 : Int32))), (.int (((v7 &&& (7 : Int32)) <<< ((18 : Int32) &&& 31)) ||| ((u4 &&& (63 : Int32)) <<< ((12 : Int32) &&& 31))))]))
  refine GoW.st (fun t k => XS.ishl X0.here hx rfl (hb hby d2_115) rfl (XS.ior X0.here hx rfl (hb hby d2_116) rfl (XS.aloadN X0.here hx rfl (hb hby d2_117) rfl rfl (XS.iloadN X0.here hx rfl (hb hby d2_118) rfl (XS.iconst X0.here hx rfl (hb hby d2_119) (XS.iadd X0.here hx rfl (hb hby d2_120) rfl k)))))) ?_
  show GoW p e below QQ (T0.setTop (mkF m 121 #[.val (.ref a1), .val (.int (3 : Int32)), .val (.int v7), .unset] [(.int (6 : Int32)), (.ref a1), (.int ((((v7 &&& (7 : Int32)) <<< ((18 : Int32) &&& 31)) ||| ((u4 &&& (63 : Int32)) <<< ((12 : Int32) &&& 31))) ||| ((u5 &&& (63 : Int32)) <<< ((6 : Int32) &&& 31))))]))
  refine GoW.st (fun t k => ldVB X0 hx hZ e0 pre_V_a1 (v := (.int u6)) ⟨by decide, by decide⟩ rfl (g := (mkF m 121 #[.val (.ref a1), .val (.int (3 : Int32)), .val (.int v7), .unset] [(.int (6 : Int32)), (.ref a1), (.int ((((v7 &&& (7 : Int32)) <<< ((18 : Int32) &&& 31)) ||| ((u4 &&& (63 : Int32)) <<< ((12 : Int32) &&& 31))) ||| ((u5 &&& (63 : Int32)) <<< ((6 : Int32) &&& 31))))])) rfl rfl (hb hby d2_121) t (XS.bipush X0.here hx rfl (hb hby d2_122) (XS.iand X0.here hx rfl (hb hby d2_124) rfl (XS.ior X0.here hx rfl (hb hby d2_125) rfl (XS.istoreN X0.here hx rfl (hb hby d2_126) rfl (l' := #[.val (.ref a1), .val (.int (3 : Int32)), .val (.int v7), .val (.int (((((v7 &&& (7 : Int32)) <<< ((18 : Int32) &&& 31)) ||| ((u4 &&& (63 : Int32)) <<< ((12 : Int32) &&& 31))) ||| ((u5 &&& (63 : Int32)) <<< ((6 : Int32) &&& 31))) ||| (u6 &&& (63 : Int32))))]) rfl k))))) ?_
  show GoW p e below QQ (T0.setTop (mkF m 127 #[.val (.ref a1), .val (.int (3 : Int32)), .val (.int v7), .val (.int (((((v7 &&& (7 : Int32)) <<< ((18 : Int32) &&& 31)) ||| ((u4 &&& (63 : Int32)) <<< ((12 : Int32) &&& 31))) ||| ((u5 &&& (63 : Int32)) <<< ((6 : Int32) &&& 31))) ||| (u6 &&& (63 : Int32))))] []))
  generalize hv126 : (((((v7 &&& (7 : Int32)) <<< ((18 : Int32) &&& 31)) ||| ((u4 &&& (63 : Int32)) <<< ((12 : Int32) &&& 31))) ||| ((u5 &&& (63 : Int32)) <<< ((6 : Int32) &&& 31))) ||| (u6 &&& (63 : Int32))) = v126
  refine GoW.st (fun t k => XS.iloadN X0.here hx rfl (hb hby d2_127) rfl k) ?_
  show GoW p e below QQ (T0.setTop (mkF m 128 #[.val (.ref a1), .val (.int (3 : Int32)), .val (.int v7), .val (.int v126)] [(.int v126)]))
  have rv : ((some (.int v126)) : Option Value) = some (.int ((((((u3 &&& (255 : Int32)) &&& (7 : Int32)) <<< ((18 : Int32) &&& 31)) ||| ((u4 &&& (63 : Int32)) <<< ((12 : Int32) &&& 31))) ||| ((u5 &&& (63 : Int32)) <<< ((6 : Int32) &&& 31))) ||| (u6 &&& (63 : Int32)))) := by
    subst_vars
    rfl
  exact GoW.fin X0 (some (.int v126)) (fun q => by rw [hret] at q; cases q) hlk hQ e0 ⟨rv, N0, rfl⟩ (by decide) (by decide) (fun fs hr => retI X0 hx hret (hb hby d2_128) hr)
theorem own_k1 (c : Int32) (hk1 : c < (128 : Int32)) (h0 : 0 ≤ c.toInt) (h1 : c.toInt ≤ 1114111) : (((nar .byte (c.toInt8.toInt32)) &&& (255 : Int32)) < (128 : Int32)) ∧ ((nar .byte (c.toInt8.toInt32)) &&& (255 : Int32)) = c := by
  have hk1' := own_toInt 128 rfl hk1
  have x0 : (c : Int32).toInt = c.toInt := rfl
  have b0 := own_b255 _ _ x0 (by omega) (by omega)
  refine ⟨own_lt _ (128 : Int32) _ 128 b0 rfl (by omega), Int32.toInt_inj.mp ?_⟩
  rw [b0]
theorem own_k2 (c : Int32) (hk1 : ¬ c < (128 : Int32)) (hk2 : c < (2048 : Int32)) (h0 : 0 ≤ c.toInt) (h1 : c.toInt ≤ 1114111) : (¬ ((nar .byte (((192 : Int32) + (c / (64 : Int32))).toInt8.toInt32)) &&& (255 : Int32)) < (128 : Int32)) ∧ (((nar .byte (((192 : Int32) + (c / (64 : Int32))).toInt8.toInt32)) &&& (255 : Int32)) < (224 : Int32)) ∧ (((((nar .byte (((192 : Int32) + (c / (64 : Int32))).toInt8.toInt32)) &&& (255 : Int32)) &&& (31 : Int32)) <<< ((6 : Int32) &&& 31)) ||| ((nar .byte (((128 : Int32) + (c % (64 : Int32))).toInt8.toInt32)) &&& (63 : Int32))) = c := by
  have hk1' := own_ntoInt 128 rfl hk1
  have hk2' := own_toInt 2048 rfl hk2
  have x0 := own_add (192 : Int32) (c / (64 : Int32)) 192 (c.toInt / 64) rfl (own_div c (64 : Int32) c.toInt 64 rfl rfl h0 (by decide)) (by omega) (by omega)
  have b0 := own_b255 _ _ x0 (by omega) (by omega)
  have x1 := own_add (128 : Int32) (c % (64 : Int32)) 128 (c.toInt % 64) rfl (own_rem c 64 c.toInt 64 rfl rfl h0) (by omega) (by omega)
  have b1 := own_b63 _ _ x1
  refine ⟨own_nlt _ (128 : Int32) _ 128 b0 rfl (by omega), own_lt _ (224 : Int32) _ 224 b0 rfl (by omega), Int32.toInt_inj.mp ?_⟩
  have a0 := own_mask _ (31 : Int32) _ 32 5 (by decide) rfl rfl b0
  have s0 := own_shl _ (6 : Int32) _ 64 6 rfl rfl a0 (by omega) (by omega)
  have o1 := own_or _ _ _ _ 64 6 (by decide) rfl s0 b1 (by omega) (by omega) (by omega) (by omega) (by omega)
  rw [o1]
  omega
theorem own_k3 (c : Int32) (hk1 : ¬ c < (128 : Int32)) (hk2 : ¬ c < (2048 : Int32)) (hk3 : c < (65536 : Int32)) (h0 : 0 ≤ c.toInt) (h1 : c.toInt ≤ 1114111) : (¬ ((nar .byte (((224 : Int32) + (c / (4096 : Int32))).toInt8.toInt32)) &&& (255 : Int32)) < (128 : Int32)) ∧ (¬ ((nar .byte (((224 : Int32) + (c / (4096 : Int32))).toInt8.toInt32)) &&& (255 : Int32)) < (224 : Int32)) ∧ (((nar .byte (((224 : Int32) + (c / (4096 : Int32))).toInt8.toInt32)) &&& (255 : Int32)) < (240 : Int32)) ∧ ((((((nar .byte (((224 : Int32) + (c / (4096 : Int32))).toInt8.toInt32)) &&& (255 : Int32)) &&& (15 : Int32)) <<< ((12 : Int32) &&& 31)) ||| (((nar .byte (((128 : Int32) + ((c / (64 : Int32)) % (64 : Int32))).toInt8.toInt32)) &&& (63 : Int32)) <<< ((6 : Int32) &&& 31))) ||| ((nar .byte (((128 : Int32) + (c % (64 : Int32))).toInt8.toInt32)) &&& (63 : Int32))) = c := by
  have hk1' := own_ntoInt 128 rfl hk1
  have hk2' := own_ntoInt 2048 rfl hk2
  have hk3' := own_toInt 65536 rfl hk3
  have x0 := own_add (224 : Int32) (c / (4096 : Int32)) 224 (c.toInt / 4096) rfl (own_div c (4096 : Int32) c.toInt 4096 rfl rfl h0 (by decide)) (by omega) (by omega)
  have b0 := own_b255 _ _ x0 (by omega) (by omega)
  have x1 := own_add (128 : Int32) ((c / (64 : Int32)) % (64 : Int32)) 128 ((c.toInt / 64) % 64) rfl (own_rem (c / (64 : Int32)) 64 (c.toInt / 64) 64 (own_div c (64 : Int32) c.toInt 64 rfl rfl h0 (by decide)) rfl (by omega)) (by omega) (by omega)
  have b1 := own_b63 _ _ x1
  have x2 := own_add (128 : Int32) (c % (64 : Int32)) 128 (c.toInt % 64) rfl (own_rem c 64 c.toInt 64 rfl rfl h0) (by omega) (by omega)
  have b2 := own_b63 _ _ x2
  refine ⟨own_nlt _ (128 : Int32) _ 128 b0 rfl (by omega), own_nlt _ (224 : Int32) _ 224 b0 rfl (by omega), own_lt _ (240 : Int32) _ 240 b0 rfl (by omega), Int32.toInt_inj.mp ?_⟩
  have a0 := own_mask _ (15 : Int32) _ 16 4 (by decide) rfl rfl b0
  have s0 := own_shl _ (12 : Int32) _ 4096 12 rfl rfl a0 (by omega) (by omega)
  have s1 := own_shl _ (6 : Int32) _ 64 6 rfl rfl b1 (by omega) (by omega)
  have o1 := own_or _ _ _ _ 4096 12 (by decide) rfl s0 s1 (by omega) (by omega) (by omega) (by omega) (by omega)
  have o2 := own_or _ _ _ _ 64 6 (by decide) rfl o1 b2 (by omega) (by omega) (by omega) (by omega) (by omega)
  rw [o2]
  omega
theorem own_k4 (c : Int32) (hk1 : ¬ c < (128 : Int32)) (hk2 : ¬ c < (2048 : Int32)) (hk3 : ¬ c < (65536 : Int32)) (h0 : 0 ≤ c.toInt) (h1 : c.toInt ≤ 1114111) : (¬ ((nar .byte (((240 : Int32) + (c / (262144 : Int32))).toInt8.toInt32)) &&& (255 : Int32)) < (128 : Int32)) ∧ (¬ ((nar .byte (((240 : Int32) + (c / (262144 : Int32))).toInt8.toInt32)) &&& (255 : Int32)) < (224 : Int32)) ∧ (¬ ((nar .byte (((240 : Int32) + (c / (262144 : Int32))).toInt8.toInt32)) &&& (255 : Int32)) < (240 : Int32)) ∧ (((((((nar .byte (((240 : Int32) + (c / (262144 : Int32))).toInt8.toInt32)) &&& (255 : Int32)) &&& (7 : Int32)) <<< ((18 : Int32) &&& 31)) ||| (((nar .byte (((128 : Int32) + ((c / (4096 : Int32)) % (64 : Int32))).toInt8.toInt32)) &&& (63 : Int32)) <<< ((12 : Int32) &&& 31))) ||| (((nar .byte (((128 : Int32) + ((c / (64 : Int32)) % (64 : Int32))).toInt8.toInt32)) &&& (63 : Int32)) <<< ((6 : Int32) &&& 31))) ||| ((nar .byte (((128 : Int32) + (c % (64 : Int32))).toInt8.toInt32)) &&& (63 : Int32))) = c := by
  have hk1' := own_ntoInt 128 rfl hk1
  have hk2' := own_ntoInt 2048 rfl hk2
  have hk3' := own_ntoInt 65536 rfl hk3
  have x0 := own_add (240 : Int32) (c / (262144 : Int32)) 240 (c.toInt / 262144) rfl (own_div c (262144 : Int32) c.toInt 262144 rfl rfl h0 (by decide)) (by omega) (by omega)
  have b0 := own_b255 _ _ x0 (by omega) (by omega)
  have x1 := own_add (128 : Int32) ((c / (4096 : Int32)) % (64 : Int32)) 128 ((c.toInt / 4096) % 64) rfl (own_rem (c / (4096 : Int32)) 64 (c.toInt / 4096) 64 (own_div c (4096 : Int32) c.toInt 4096 rfl rfl h0 (by decide)) rfl (by omega)) (by omega) (by omega)
  have b1 := own_b63 _ _ x1
  have x2 := own_add (128 : Int32) ((c / (64 : Int32)) % (64 : Int32)) 128 ((c.toInt / 64) % 64) rfl (own_rem (c / (64 : Int32)) 64 (c.toInt / 64) 64 (own_div c (64 : Int32) c.toInt 64 rfl rfl h0 (by decide)) rfl (by omega)) (by omega) (by omega)
  have b2 := own_b63 _ _ x2
  have x3 := own_add (128 : Int32) (c % (64 : Int32)) 128 (c.toInt % 64) rfl (own_rem c 64 c.toInt 64 rfl rfl h0) (by omega) (by omega)
  have b3 := own_b63 _ _ x3
  refine ⟨own_nlt _ (128 : Int32) _ 128 b0 rfl (by omega), own_nlt _ (224 : Int32) _ 224 b0 rfl (by omega), own_nlt _ (240 : Int32) _ 240 b0 rfl (by omega), Int32.toInt_inj.mp ?_⟩
  have a0 := own_mask _ (7 : Int32) _ 8 3 (by decide) rfl rfl b0
  have s0 := own_shl _ (18 : Int32) _ 262144 18 rfl rfl a0 (by omega) (by omega)
  have s1 := own_shl _ (12 : Int32) _ 4096 12 rfl rfl b1 (by omega) (by omega)
  have o1 := own_or _ _ _ _ 262144 18 (by decide) rfl s0 s1 (by omega) (by omega) (by omega) (by omega) (by omega)
  have s2 := own_shl _ (6 : Int32) _ 64 6 rfl rfl b2 (by omega) (by omega)
  have o2 := own_or _ _ _ _ 4096 12 (by decide) rfl o1 s2 (by omega) (by omega) (by omega) (by omega) (by omega)
  have o3 := own_or _ _ _ _ 64 6 (by decide) rfl o2 b3 (by omega) (by omega) (by omega) (by omega) (by omega)
  rw [o3]
  omega
theorem pd_0 : parseMethodDescriptor "([BII)V" = some ⟨[(.array .byte), .int, .int], none⟩ := by decide +kernel
theorem pd_1 : parseMethodDescriptor "([BI)I" = some ⟨[(.array .byte), .int], some .int⟩ := by decide +kernel
def Q0 (Z : State) (p1 : Int32) (p2 : Int32) (p3 : Int32) (q4 : Int64) (h0 : Heap) (n0 : Nat) (v : Option Value) (h : Heap) (L : List Loc) : Prop := v = some (.int (1 : Int32)) ∧ Fr n0 L
set_option maxRecDepth 65536 in
set_option maxHeartbeats 40000000 in
theorem rm0 (l : Launch) (Z : State) (a0 : Array Value) (hw : ∀ d ∈ tables_1, d.before a0 Z = true) (ws : List Jvm.Cond) (p1 : Int32) (p2 : Int32) (p3 : Int32) (q4 : Int64) (h0 : Heap) (n0 : Nat) (Z0 : n0 ≤ h0.size) (Z1 : h0.size ≤ n0)  :
    MetFree l x (head1 (Jvm.Cond.code x code maxLocals ret :: ws) room_1) (fun a U => a = #[(.int p1), (.int p2), (.int p3), (.long q4)] ∧ Z.Warmed39 U.vm ∧ U.heap = h0) (fun _ _ _ _ _ => True) (fun _ U o U' => ∃ v L, o = .returned v ∧ Q0 Z p1 p2 p3 q4 h0 n0 v U'.heap L ∧ FrameEnd U o U' L 16 128) := by
  refine met_of (Q := fun v h L => Q0 Z p1 p2 p3 q4 h0 n0 v h L) (plainFor_of_name pn_0) (fun m => by first | (simp [entryFrame, mkF, argsToLocals, Value.category, maxLocals]; done) | rfl) (Ls := #[.val (.int p1), .val (.int p2), .val (.int p3), .val (.long q4), .second, .unset, .unset, .unset, .unset, .unset]) ?_
  intro p e s m below meth c T0 QQ hx hZ hby hml hown hnm hret hlk X0 e0 hQ
  have hml : c.maxLocals = 10 := hml
  have hown : s.vm.findClass "com/example/terseform/terseform/Utf8CodePointAtPinLaw" = some m.cls := hown
  have hnm : meth.name = "law" := hnm
  have hret : meth.sig.returnType = some .boolean := hret
  have N0 := Fr.nil n0
  have K0 : Keep h0 h0 [] := Keep.refl h0 _
  show GoW p e below QQ (T0.setTop (mkF m 0 #[.val (.int p1), .val (.int p2), .val (.int p3), .val (.long q4), .second, .unset, .unset, .unset, .unset, .unset] []))
  refine GoW.st (fun t k => XS.iloadN X0.here hx rfl (hb hby at_0) rfl (X0.ldcInt hx hown (mvT hZ (hw _ (List.mem_of_getElem? (i := 0) rfl))) (g := (mkF m 1 #[.val (.int p1), .val (.int p2), .val (.int p3), .val (.long q4), .second, .unset, .unset, .unset, .unset, .unset] [(.int p1)])) rfl (hb hby at_1) t (XS.iand X0.here hx rfl (hb hby at_3) rfl (XS.istore X0.here hx rfl (hb hby at_4) rfl (l' := #[.val (.int p1), .val (.int p2), .val (.int p3), .val (.long q4), .second, .val (.int (p1 &&& (2147483647 : Int32))), .unset, .unset, .unset, .unset]) rfl k)))) ?_
  show GoW p e below QQ (T0.setTop (mkF m 6 #[.val (.int p1), .val (.int p2), .val (.int p3), .val (.long q4), .second, .val (.int (p1 &&& (2147483647 : Int32))), .unset, .unset, .unset, .unset] []))
  generalize hv4 : (p1 &&& (2147483647 : Int32)) = v4
  refine GoW.st (fun t k => XS.iloadN X0.here hx rfl (hb hby at_6) rfl (XS.iconst X0.here hx rfl (hb hby at_7) (XS.iand X0.here hx rfl (hb hby at_8) rfl (XS.istore X0.here hx rfl (hb hby at_9) rfl (l' := #[.val (.int p1), .val (.int p2), .val (.int p3), .val (.long q4), .second, .val (.int v4), .val (.int (p2 &&& (3 : Int32))), .unset, .unset, .unset]) rfl k)))) ?_
  show GoW p e below QQ (T0.setTop (mkF m 11 #[.val (.int p1), .val (.int p2), .val (.int p3), .val (.long q4), .second, .val (.int v4), .val (.int (p2 &&& (3 : Int32))), .unset, .unset, .unset] []))
  generalize hv9 : (p2 &&& (3 : Int32)) = v9
  have nb := c_and p1 2147483647 (by decide)
  rw [hv4] at nb
  have J76_1 : ∀ (TJ1 : State) (LJ1 : List Loc) (cc : Int32) (XJ1 : Stand p l e room_1 s m #[(.int p1), (.int p2), (.int p3), (.long q4)] below meth c TJ1 LJ1 0 0) (eJ1 : TJ1.heap = h0) (NJ1 : Fr n0 LJ1)  (hcc : 0 ≤ cc.toInt ∧ cc.toInt ≤ 1114111), GoW p e below QQ (TJ1.setTop (mkF m 76 #[.val (.int p1), .val (.int p2), .val (.int p3), .val (.long q4), .second, .val (.int v4), .val (.int v9), .val (.int cc), .unset, .unset] [])) := by
    intro TJ1 LJ1  cc XJ1 eJ1 NJ1   hcc
    refine GoW.st (fun t k => XS.iloadN XJ1.here hx rfl (hb hby at_76) rfl (XS.iconst XJ1.here hx rfl (hb hby at_77) (XS.iand XJ1.here hx rfl (hb hby at_78) rfl (XS.istore XJ1.here hx rfl (hb hby at_79) rfl (l' := #[.val (.int p1), .val (.int p2), .val (.int p3), .val (.long q4), .second, .val (.int v4), .val (.int v9), .val (.int cc), .val (.int (p3 &&& (3 : Int32))), .unset]) rfl k)))) ?_
    show GoW p e below QQ (TJ1.setTop (mkF m 81 #[.val (.int p1), .val (.int p2), .val (.int p3), .val (.long q4), .second, .val (.int v4), .val (.int v9), .val (.int cc), .val (.int (p3 &&& (3 : Int32))), .unset] []))
    generalize hv79 : (p3 &&& (3 : Int32)) = v79
    refine GoW.st (fun t k => XS.bipush XJ1.here hx rfl (hb hby at_81) k) ?_
    show GoW p e below QQ (TJ1.setTop (mkF m 83 #[.val (.int p1), .val (.int p2), .val (.int p3), .val (.long q4), .second, .val (.int v4), .val (.int v9), .val (.int cc), .val (.int v79), .unset] [(.int (8 : Int32))]))
    obtain ⟨T2, h2, k2, X2, e2, E2, A2, st2⟩ := newP XJ1 hx hZ (hw _ (List.mem_of_getElem? (i := 3) rfl)) eJ1 (g := (mkF m 83 #[.val (.int p1), .val (.int p2), .val (.int p3), .val (.long q4), .second, .val (.int v4), .val (.int v9), .val (.int cc), .val (.int v79), .unset] [(.int (8 : Int32))])) rfl (hb hby at_83) rfl (by decide) (cap := 8) (by decide) (by decide) (by decide) (by decide)
    obtain ⟨b2, g2⟩ : ∃ z, z = h0.size := ⟨_, rfl⟩
    rw [← g2] at A2 st2
    refine GoW.st st2 ?_
    have gg2 : n0 ≤ b2 := Nat.le_trans (Nat.le_trans Z0 K0.1) (Nat.le_of_eq g2.symm)
    have sz2 : h0.size ≤ b2 := Nat.le_trans K0.1 (Nat.le_of_eq g2.symm)
    have K2 : Keep h0 h2 [] := K0.ext E2
    have V2 : Arv Z h2 b2 k2 .byte (8 : Int32) [(.int (0 : Int32)), (.int (0 : Int32)), (.int (0 : Int32)), (.int (0 : Int32)), (.int (0 : Int32)), (.int (0 : Int32)), (.int (0 : Int32)), (.int (0 : Int32))] (.int (0 : Int32)) := (Arv.new A2 (by decide)).pad (pad_rep [] (.int (0 : Int32)) 8)
    show GoW p e below QQ (T2.setTop (mkF m 85 #[.val (.int p1), .val (.int p2), .val (.int p3), .val (.long q4), .second, .val (.int v4), .val (.int v9), .val (.int cc), .val (.int v79), .unset] [(.ref b2)]))
    refine GoW.st (fun t k => XS.astore X2.here hx rfl (hb hby at_85) rfl rfl (l' := #[.val (.int p1), .val (.int p2), .val (.int p3), .val (.long q4), .second, .val (.int v4), .val (.int v9), .val (.int cc), .val (.int v79), .val (.ref b2)]) rfl (XS.aload X2.here hx rfl (hb hby at_87) rfl rfl (XS.iconst X2.here hx rfl (hb hby at_89) (XS.lloadN X2.here hx rfl (hb hby at_90) rfl (XS.l2i X2.here hx rfl (hb hby at_91) rfl (XS.i2b X2.here hx rfl (hb hby at_92) rfl k)))))) ?_
    show GoW p e below QQ (T2.setTop (mkF m 93 #[.val (.int p1), .val (.int p2), .val (.int p3), .val (.long q4), .second, .val (.int v4), .val (.int v9), .val (.int cc), .val (.int v79), .val (.ref b2)] [(.int ((q4.toInt32).toInt8.toInt32)), (.int (0 : Int32)), (.ref b2)]))
    obtain ⟨T4, h4, X4, e4, W4, V4, st4⟩ := stVB X2 hx hZ e2 V2 ⟨by decide, by decide⟩ 0 rfl (Nat.le_of_ble_eq_true rfl) (g := (mkF m 93 #[.val (.int p1), .val (.int p2), .val (.int p3), .val (.long q4), .second, .val (.int v4), .val (.int v9), .val (.int cc), .val (.int v79), .val (.ref b2)] [(.int ((q4.toInt32).toInt8.toInt32)), (.int (0 : Int32)), (.ref b2)])) rfl rfl (hb hby at_93)
    refine GoW.st st4 ?_
    have f5_V_b2 : Arv Z h4 b2 k2 .byte (8 : Int32) [(.int (nar .byte ((q4.toInt32).toInt8.toInt32))), (.int (0 : Int32)), (.int (0 : Int32)), (.int (0 : Int32)), (.int (0 : Int32)), (.int (0 : Int32)), (.int (0 : Int32)), (.int (0 : Int32))] (.int (0 : Int32)) := V4
    have K4 : Keep h0 h4 [] := K2.wr W4 (Or.inr sz2)
    have N4 := Fr.snoc X4 NJ1 gg2
    show GoW p e below QQ (T4.setTop (mkF m 94 #[.val (.int p1), .val (.int p2), .val (.int p3), .val (.long q4), .second, .val (.int v4), .val (.int v9), .val (.int cc), .val (.int v79), .val (.ref b2)] []))
    refine GoW.st (fun t k => XS.aload X4.here hx rfl (hb hby at_94) rfl rfl (XS.iconst X4.here hx rfl (hb hby at_96) (XS.lloadN X4.here hx rfl (hb hby at_97) rfl (XS.bipush X4.here hx rfl (hb hby at_98) (XS.lushr X4.here hx rfl (hb hby at_100) rfl (XS.l2i X4.here hx rfl (hb hby at_101) rfl k)))))) ?_
    show GoW p e below QQ (T4.setTop (mkF m 102 #[.val (.int p1), .val (.int p2), .val (.int p3), .val (.long q4), .second, .val (.int v4), .val (.int v9), .val (.int cc), .val (.int v79), .val (.ref b2)] [(.int (((q4.toUInt64 >>> ((8 : Int32) &&& 0x3f).toInt64.toUInt64).toInt64).toInt32)), (.int (1 : Int32)), (.ref b2)]))
    refine GoW.st (fun t k => XS.i2b X4.here hx rfl (hb hby at_102) rfl k) ?_
    show GoW p e below QQ (T4.setTop (mkF m 103 #[.val (.int p1), .val (.int p2), .val (.int p3), .val (.long q4), .second, .val (.int v4), .val (.int v9), .val (.int cc), .val (.int v79), .val (.ref b2)] [(.int ((((q4.toUInt64 >>> ((8 : Int32) &&& 0x3f).toInt64.toUInt64).toInt64).toInt32).toInt8.toInt32)), (.int (1 : Int32)), (.ref b2)]))
    obtain ⟨T6, h6, X6, e6, W6, V6, st6⟩ := stVB X4 hx hZ e4 f5_V_b2 ⟨by decide, by decide⟩ 1 rfl (Nat.le_of_ble_eq_true rfl) (g := (mkF m 103 #[.val (.int p1), .val (.int p2), .val (.int p3), .val (.long q4), .second, .val (.int v4), .val (.int v9), .val (.int cc), .val (.int v79), .val (.ref b2)] [(.int ((((q4.toUInt64 >>> ((8 : Int32) &&& 0x3f).toInt64.toUInt64).toInt64).toInt32).toInt8.toInt32)), (.int (1 : Int32)), (.ref b2)])) rfl rfl (hb hby at_103)
    refine GoW.st st6 ?_
    have f7_V_b2 : Arv Z h6 b2 k2 .byte (8 : Int32) [(.int (nar .byte ((q4.toInt32).toInt8.toInt32))), (.int (nar .byte ((((q4.toUInt64 >>> ((8 : Int32) &&& 0x3f).toInt64.toUInt64).toInt64).toInt32).toInt8.toInt32))), (.int (0 : Int32)), (.int (0 : Int32)), (.int (0 : Int32)), (.int (0 : Int32)), (.int (0 : Int32)), (.int (0 : Int32))] (.int (0 : Int32)) := V6
    have K6 : Keep h0 h6 [] := K4.wr W6 (Or.inr sz2)
    have N6 := Fr.snoc X6 N4 gg2
    show GoW p e below QQ (T6.setTop (mkF m 104 #[.val (.int p1), .val (.int p2), .val (.int p3), .val (.long q4), .second, .val (.int v4), .val (.int v9), .val (.int cc), .val (.int v79), .val (.ref b2)] []))
    refine GoW.st (fun t k => XS.aload X6.here hx rfl (hb hby at_104) rfl rfl (XS.iconst X6.here hx rfl (hb hby at_106) (XS.lloadN X6.here hx rfl (hb hby at_107) rfl (XS.bipush X6.here hx rfl (hb hby at_108) (XS.lushr X6.here hx rfl (hb hby at_110) rfl (XS.l2i X6.here hx rfl (hb hby at_111) rfl k)))))) ?_
    show GoW p e below QQ (T6.setTop (mkF m 112 #[.val (.int p1), .val (.int p2), .val (.int p3), .val (.long q4), .second, .val (.int v4), .val (.int v9), .val (.int cc), .val (.int v79), .val (.ref b2)] [(.int (((q4.toUInt64 >>> ((16 : Int32) &&& 0x3f).toInt64.toUInt64).toInt64).toInt32)), (.int (2 : Int32)), (.ref b2)]))
    refine GoW.st (fun t k => XS.i2b X6.here hx rfl (hb hby at_112) rfl k) ?_
    show GoW p e below QQ (T6.setTop (mkF m 113 #[.val (.int p1), .val (.int p2), .val (.int p3), .val (.long q4), .second, .val (.int v4), .val (.int v9), .val (.int cc), .val (.int v79), .val (.ref b2)] [(.int ((((q4.toUInt64 >>> ((16 : Int32) &&& 0x3f).toInt64.toUInt64).toInt64).toInt32).toInt8.toInt32)), (.int (2 : Int32)), (.ref b2)]))
    obtain ⟨T8, h8, X8, e8, W8, V8, st8⟩ := stVB X6 hx hZ e6 f7_V_b2 ⟨by decide, by decide⟩ 2 rfl (Nat.le_of_ble_eq_true rfl) (g := (mkF m 113 #[.val (.int p1), .val (.int p2), .val (.int p3), .val (.long q4), .second, .val (.int v4), .val (.int v9), .val (.int cc), .val (.int v79), .val (.ref b2)] [(.int ((((q4.toUInt64 >>> ((16 : Int32) &&& 0x3f).toInt64.toUInt64).toInt64).toInt32).toInt8.toInt32)), (.int (2 : Int32)), (.ref b2)])) rfl rfl (hb hby at_113)
    refine GoW.st st8 ?_
    have f9_V_b2 : Arv Z h8 b2 k2 .byte (8 : Int32) [(.int (nar .byte ((q4.toInt32).toInt8.toInt32))), (.int (nar .byte ((((q4.toUInt64 >>> ((8 : Int32) &&& 0x3f).toInt64.toUInt64).toInt64).toInt32).toInt8.toInt32))), (.int (nar .byte ((((q4.toUInt64 >>> ((16 : Int32) &&& 0x3f).toInt64.toUInt64).toInt64).toInt32).toInt8.toInt32))), (.int (0 : Int32)), (.int (0 : Int32)), (.int (0 : Int32)), (.int (0 : Int32)), (.int (0 : Int32))] (.int (0 : Int32)) := V8
    have K8 : Keep h0 h8 [] := K6.wr W8 (Or.inr sz2)
    have N8 := Fr.snoc X8 N6 gg2
    show GoW p e below QQ (T8.setTop (mkF m 114 #[.val (.int p1), .val (.int p2), .val (.int p3), .val (.long q4), .second, .val (.int v4), .val (.int v9), .val (.int cc), .val (.int v79), .val (.ref b2)] []))
    refine GoW.st (fun t k => XS.aload X8.here hx rfl (hb hby at_114) rfl rfl (XS.iconst X8.here hx rfl (hb hby at_116) (XS.lloadN X8.here hx rfl (hb hby at_117) rfl (XS.bipush X8.here hx rfl (hb hby at_118) (XS.lushr X8.here hx rfl (hb hby at_120) rfl (XS.l2i X8.here hx rfl (hb hby at_121) rfl k)))))) ?_
    show GoW p e below QQ (T8.setTop (mkF m 122 #[.val (.int p1), .val (.int p2), .val (.int p3), .val (.long q4), .second, .val (.int v4), .val (.int v9), .val (.int cc), .val (.int v79), .val (.ref b2)] [(.int (((q4.toUInt64 >>> ((24 : Int32) &&& 0x3f).toInt64.toUInt64).toInt64).toInt32)), (.int (3 : Int32)), (.ref b2)]))
    refine GoW.st (fun t k => XS.i2b X8.here hx rfl (hb hby at_122) rfl k) ?_
    show GoW p e below QQ (T8.setTop (mkF m 123 #[.val (.int p1), .val (.int p2), .val (.int p3), .val (.long q4), .second, .val (.int v4), .val (.int v9), .val (.int cc), .val (.int v79), .val (.ref b2)] [(.int ((((q4.toUInt64 >>> ((24 : Int32) &&& 0x3f).toInt64.toUInt64).toInt64).toInt32).toInt8.toInt32)), (.int (3 : Int32)), (.ref b2)]))
    obtain ⟨T10, h10, X10, e10, W10, V10, st10⟩ := stVB X8 hx hZ e8 f9_V_b2 ⟨by decide, by decide⟩ 3 rfl (Nat.le_of_ble_eq_true rfl) (g := (mkF m 123 #[.val (.int p1), .val (.int p2), .val (.int p3), .val (.long q4), .second, .val (.int v4), .val (.int v9), .val (.int cc), .val (.int v79), .val (.ref b2)] [(.int ((((q4.toUInt64 >>> ((24 : Int32) &&& 0x3f).toInt64.toUInt64).toInt64).toInt32).toInt8.toInt32)), (.int (3 : Int32)), (.ref b2)])) rfl rfl (hb hby at_123)
    refine GoW.st st10 ?_
    have f11_V_b2 : Arv Z h10 b2 k2 .byte (8 : Int32) [(.int (nar .byte ((q4.toInt32).toInt8.toInt32))), (.int (nar .byte ((((q4.toUInt64 >>> ((8 : Int32) &&& 0x3f).toInt64.toUInt64).toInt64).toInt32).toInt8.toInt32))), (.int (nar .byte ((((q4.toUInt64 >>> ((16 : Int32) &&& 0x3f).toInt64.toUInt64).toInt64).toInt32).toInt8.toInt32))), (.int (nar .byte ((((q4.toUInt64 >>> ((24 : Int32) &&& 0x3f).toInt64.toUInt64).toInt64).toInt32).toInt8.toInt32))), (.int (0 : Int32)), (.int (0 : Int32)), (.int (0 : Int32)), (.int (0 : Int32))] (.int (0 : Int32)) := V10
    have K10 : Keep h0 h10 [] := K8.wr W10 (Or.inr sz2)
    have N10 := Fr.snoc X10 N8 gg2
    show GoW p e below QQ (T10.setTop (mkF m 124 #[.val (.int p1), .val (.int p2), .val (.int p3), .val (.long q4), .second, .val (.int v4), .val (.int v9), .val (.int cc), .val (.int v79), .val (.ref b2)] []))
    refine GoW.st (fun t k => XS.aload X10.here hx rfl (hb hby at_124) rfl rfl (XS.iconst X10.here hx rfl (hb hby at_126) (XS.lloadN X10.here hx rfl (hb hby at_127) rfl (XS.bipush X10.here hx rfl (hb hby at_128) (XS.lushr X10.here hx rfl (hb hby at_130) rfl (XS.l2i X10.here hx rfl (hb hby at_131) rfl k)))))) ?_
    show GoW p e below QQ (T10.setTop (mkF m 132 #[.val (.int p1), .val (.int p2), .val (.int p3), .val (.long q4), .second, .val (.int v4), .val (.int v9), .val (.int cc), .val (.int v79), .val (.ref b2)] [(.int (((q4.toUInt64 >>> ((32 : Int32) &&& 0x3f).toInt64.toUInt64).toInt64).toInt32)), (.int (4 : Int32)), (.ref b2)]))
    refine GoW.st (fun t k => XS.i2b X10.here hx rfl (hb hby at_132) rfl k) ?_
    show GoW p e below QQ (T10.setTop (mkF m 133 #[.val (.int p1), .val (.int p2), .val (.int p3), .val (.long q4), .second, .val (.int v4), .val (.int v9), .val (.int cc), .val (.int v79), .val (.ref b2)] [(.int ((((q4.toUInt64 >>> ((32 : Int32) &&& 0x3f).toInt64.toUInt64).toInt64).toInt32).toInt8.toInt32)), (.int (4 : Int32)), (.ref b2)]))
    obtain ⟨T12, h12, X12, e12, W12, V12, st12⟩ := stVB X10 hx hZ e10 f11_V_b2 ⟨by decide, by decide⟩ 4 rfl (Nat.le_of_ble_eq_true rfl) (g := (mkF m 133 #[.val (.int p1), .val (.int p2), .val (.int p3), .val (.long q4), .second, .val (.int v4), .val (.int v9), .val (.int cc), .val (.int v79), .val (.ref b2)] [(.int ((((q4.toUInt64 >>> ((32 : Int32) &&& 0x3f).toInt64.toUInt64).toInt64).toInt32).toInt8.toInt32)), (.int (4 : Int32)), (.ref b2)])) rfl rfl (hb hby at_133)
    refine GoW.st st12 ?_
    have f13_V_b2 : Arv Z h12 b2 k2 .byte (8 : Int32) [(.int (nar .byte ((q4.toInt32).toInt8.toInt32))), (.int (nar .byte ((((q4.toUInt64 >>> ((8 : Int32) &&& 0x3f).toInt64.toUInt64).toInt64).toInt32).toInt8.toInt32))), (.int (nar .byte ((((q4.toUInt64 >>> ((16 : Int32) &&& 0x3f).toInt64.toUInt64).toInt64).toInt32).toInt8.toInt32))), (.int (nar .byte ((((q4.toUInt64 >>> ((24 : Int32) &&& 0x3f).toInt64.toUInt64).toInt64).toInt32).toInt8.toInt32))), (.int (nar .byte ((((q4.toUInt64 >>> ((32 : Int32) &&& 0x3f).toInt64.toUInt64).toInt64).toInt32).toInt8.toInt32))), (.int (0 : Int32)), (.int (0 : Int32)), (.int (0 : Int32))] (.int (0 : Int32)) := V12
    have K12 : Keep h0 h12 [] := K10.wr W12 (Or.inr sz2)
    have N12 := Fr.snoc X12 N10 gg2
    show GoW p e below QQ (T12.setTop (mkF m 134 #[.val (.int p1), .val (.int p2), .val (.int p3), .val (.long q4), .second, .val (.int v4), .val (.int v9), .val (.int cc), .val (.int v79), .val (.ref b2)] []))
    refine GoW.st (fun t k => XS.aload X12.here hx rfl (hb hby at_134) rfl rfl (XS.iconst X12.here hx rfl (hb hby at_136) (XS.lloadN X12.here hx rfl (hb hby at_137) rfl (XS.bipush X12.here hx rfl (hb hby at_138) (XS.lushr X12.here hx rfl (hb hby at_140) rfl (XS.l2i X12.here hx rfl (hb hby at_141) rfl k)))))) ?_
    show GoW p e below QQ (T12.setTop (mkF m 142 #[.val (.int p1), .val (.int p2), .val (.int p3), .val (.long q4), .second, .val (.int v4), .val (.int v9), .val (.int cc), .val (.int v79), .val (.ref b2)] [(.int (((q4.toUInt64 >>> ((40 : Int32) &&& 0x3f).toInt64.toUInt64).toInt64).toInt32)), (.int (5 : Int32)), (.ref b2)]))
    refine GoW.st (fun t k => XS.i2b X12.here hx rfl (hb hby at_142) rfl k) ?_
    show GoW p e below QQ (T12.setTop (mkF m 143 #[.val (.int p1), .val (.int p2), .val (.int p3), .val (.long q4), .second, .val (.int v4), .val (.int v9), .val (.int cc), .val (.int v79), .val (.ref b2)] [(.int ((((q4.toUInt64 >>> ((40 : Int32) &&& 0x3f).toInt64.toUInt64).toInt64).toInt32).toInt8.toInt32)), (.int (5 : Int32)), (.ref b2)]))
    obtain ⟨T14, h14, X14, e14, W14, V14, st14⟩ := stVB X12 hx hZ e12 f13_V_b2 ⟨by decide, by decide⟩ 5 rfl (Nat.le_of_ble_eq_true rfl) (g := (mkF m 143 #[.val (.int p1), .val (.int p2), .val (.int p3), .val (.long q4), .second, .val (.int v4), .val (.int v9), .val (.int cc), .val (.int v79), .val (.ref b2)] [(.int ((((q4.toUInt64 >>> ((40 : Int32) &&& 0x3f).toInt64.toUInt64).toInt64).toInt32).toInt8.toInt32)), (.int (5 : Int32)), (.ref b2)])) rfl rfl (hb hby at_143)
    refine GoW.st st14 ?_
    have f15_V_b2 : Arv Z h14 b2 k2 .byte (8 : Int32) [(.int (nar .byte ((q4.toInt32).toInt8.toInt32))), (.int (nar .byte ((((q4.toUInt64 >>> ((8 : Int32) &&& 0x3f).toInt64.toUInt64).toInt64).toInt32).toInt8.toInt32))), (.int (nar .byte ((((q4.toUInt64 >>> ((16 : Int32) &&& 0x3f).toInt64.toUInt64).toInt64).toInt32).toInt8.toInt32))), (.int (nar .byte ((((q4.toUInt64 >>> ((24 : Int32) &&& 0x3f).toInt64.toUInt64).toInt64).toInt32).toInt8.toInt32))), (.int (nar .byte ((((q4.toUInt64 >>> ((32 : Int32) &&& 0x3f).toInt64.toUInt64).toInt64).toInt32).toInt8.toInt32))), (.int (nar .byte ((((q4.toUInt64 >>> ((40 : Int32) &&& 0x3f).toInt64.toUInt64).toInt64).toInt32).toInt8.toInt32))), (.int (0 : Int32)), (.int (0 : Int32))] (.int (0 : Int32)) := V14
    have K14 : Keep h0 h14 [] := K12.wr W14 (Or.inr sz2)
    have N14 := Fr.snoc X14 N12 gg2
    show GoW p e below QQ (T14.setTop (mkF m 144 #[.val (.int p1), .val (.int p2), .val (.int p3), .val (.long q4), .second, .val (.int v4), .val (.int v9), .val (.int cc), .val (.int v79), .val (.ref b2)] []))
    refine GoW.st (fun t k => XS.aload X14.here hx rfl (hb hby at_144) rfl rfl (XS.bipush X14.here hx rfl (hb hby at_146) (XS.lloadN X14.here hx rfl (hb hby at_148) rfl (XS.bipush X14.here hx rfl (hb hby at_149) (XS.lushr X14.here hx rfl (hb hby at_151) rfl (XS.l2i X14.here hx rfl (hb hby at_152) rfl k)))))) ?_
    show GoW p e below QQ (T14.setTop (mkF m 153 #[.val (.int p1), .val (.int p2), .val (.int p3), .val (.long q4), .second, .val (.int v4), .val (.int v9), .val (.int cc), .val (.int v79), .val (.ref b2)] [(.int (((q4.toUInt64 >>> ((48 : Int32) &&& 0x3f).toInt64.toUInt64).toInt64).toInt32)), (.int (6 : Int32)), (.ref b2)]))
    refine GoW.st (fun t k => XS.i2b X14.here hx rfl (hb hby at_153) rfl k) ?_
    show GoW p e below QQ (T14.setTop (mkF m 154 #[.val (.int p1), .val (.int p2), .val (.int p3), .val (.long q4), .second, .val (.int v4), .val (.int v9), .val (.int cc), .val (.int v79), .val (.ref b2)] [(.int ((((q4.toUInt64 >>> ((48 : Int32) &&& 0x3f).toInt64.toUInt64).toInt64).toInt32).toInt8.toInt32)), (.int (6 : Int32)), (.ref b2)]))
    obtain ⟨T16, h16, X16, e16, W16, V16, st16⟩ := stVB X14 hx hZ e14 f15_V_b2 ⟨by decide, by decide⟩ 6 rfl (Nat.le_of_ble_eq_true rfl) (g := (mkF m 154 #[.val (.int p1), .val (.int p2), .val (.int p3), .val (.long q4), .second, .val (.int v4), .val (.int v9), .val (.int cc), .val (.int v79), .val (.ref b2)] [(.int ((((q4.toUInt64 >>> ((48 : Int32) &&& 0x3f).toInt64.toUInt64).toInt64).toInt32).toInt8.toInt32)), (.int (6 : Int32)), (.ref b2)])) rfl rfl (hb hby at_154)
    refine GoW.st st16 ?_
    have f17_V_b2 : Arv Z h16 b2 k2 .byte (8 : Int32) [(.int (nar .byte ((q4.toInt32).toInt8.toInt32))), (.int (nar .byte ((((q4.toUInt64 >>> ((8 : Int32) &&& 0x3f).toInt64.toUInt64).toInt64).toInt32).toInt8.toInt32))), (.int (nar .byte ((((q4.toUInt64 >>> ((16 : Int32) &&& 0x3f).toInt64.toUInt64).toInt64).toInt32).toInt8.toInt32))), (.int (nar .byte ((((q4.toUInt64 >>> ((24 : Int32) &&& 0x3f).toInt64.toUInt64).toInt64).toInt32).toInt8.toInt32))), (.int (nar .byte ((((q4.toUInt64 >>> ((32 : Int32) &&& 0x3f).toInt64.toUInt64).toInt64).toInt32).toInt8.toInt32))), (.int (nar .byte ((((q4.toUInt64 >>> ((40 : Int32) &&& 0x3f).toInt64.toUInt64).toInt64).toInt32).toInt8.toInt32))), (.int (nar .byte ((((q4.toUInt64 >>> ((48 : Int32) &&& 0x3f).toInt64.toUInt64).toInt64).toInt32).toInt8.toInt32))), (.int (0 : Int32))] (.int (0 : Int32)) := V16
    have K16 : Keep h0 h16 [] := K14.wr W16 (Or.inr sz2)
    have N16 := Fr.snoc X16 N14 gg2
    show GoW p e below QQ (T16.setTop (mkF m 155 #[.val (.int p1), .val (.int p2), .val (.int p3), .val (.long q4), .second, .val (.int v4), .val (.int v9), .val (.int cc), .val (.int v79), .val (.ref b2)] []))
    refine GoW.st (fun t k => XS.aload X16.here hx rfl (hb hby at_155) rfl rfl (XS.bipush X16.here hx rfl (hb hby at_157) (XS.lloadN X16.here hx rfl (hb hby at_159) rfl (XS.bipush X16.here hx rfl (hb hby at_160) (XS.lushr X16.here hx rfl (hb hby at_162) rfl (XS.l2i X16.here hx rfl (hb hby at_163) rfl k)))))) ?_
    show GoW p e below QQ (T16.setTop (mkF m 164 #[.val (.int p1), .val (.int p2), .val (.int p3), .val (.long q4), .second, .val (.int v4), .val (.int v9), .val (.int cc), .val (.int v79), .val (.ref b2)] [(.int (((q4.toUInt64 >>> ((56 : Int32) &&& 0x3f).toInt64.toUInt64).toInt64).toInt32)), (.int (7 : Int32)), (.ref b2)]))
    refine GoW.st (fun t k => XS.i2b X16.here hx rfl (hb hby at_164) rfl k) ?_
    show GoW p e below QQ (T16.setTop (mkF m 165 #[.val (.int p1), .val (.int p2), .val (.int p3), .val (.long q4), .second, .val (.int v4), .val (.int v9), .val (.int cc), .val (.int v79), .val (.ref b2)] [(.int ((((q4.toUInt64 >>> ((56 : Int32) &&& 0x3f).toInt64.toUInt64).toInt64).toInt32).toInt8.toInt32)), (.int (7 : Int32)), (.ref b2)]))
    obtain ⟨T18, h18, X18, e18, W18, V18, st18⟩ := stVB X16 hx hZ e16 f17_V_b2 ⟨by decide, by decide⟩ 7 rfl (Nat.le_of_ble_eq_true rfl) (g := (mkF m 165 #[.val (.int p1), .val (.int p2), .val (.int p3), .val (.long q4), .second, .val (.int v4), .val (.int v9), .val (.int cc), .val (.int v79), .val (.ref b2)] [(.int ((((q4.toUInt64 >>> ((56 : Int32) &&& 0x3f).toInt64.toUInt64).toInt64).toInt32).toInt8.toInt32)), (.int (7 : Int32)), (.ref b2)])) rfl rfl (hb hby at_165)
    refine GoW.st st18 ?_
    have f19_V_b2 : Arv Z h18 b2 k2 .byte (8 : Int32) [(.int (nar .byte ((q4.toInt32).toInt8.toInt32))), (.int (nar .byte ((((q4.toUInt64 >>> ((8 : Int32) &&& 0x3f).toInt64.toUInt64).toInt64).toInt32).toInt8.toInt32))), (.int (nar .byte ((((q4.toUInt64 >>> ((16 : Int32) &&& 0x3f).toInt64.toUInt64).toInt64).toInt32).toInt8.toInt32))), (.int (nar .byte ((((q4.toUInt64 >>> ((24 : Int32) &&& 0x3f).toInt64.toUInt64).toInt64).toInt32).toInt8.toInt32))), (.int (nar .byte ((((q4.toUInt64 >>> ((32 : Int32) &&& 0x3f).toInt64.toUInt64).toInt64).toInt32).toInt8.toInt32))), (.int (nar .byte ((((q4.toUInt64 >>> ((40 : Int32) &&& 0x3f).toInt64.toUInt64).toInt64).toInt32).toInt8.toInt32))), (.int (nar .byte ((((q4.toUInt64 >>> ((48 : Int32) &&& 0x3f).toInt64.toUInt64).toInt64).toInt32).toInt8.toInt32))), (.int (nar .byte ((((q4.toUInt64 >>> ((56 : Int32) &&& 0x3f).toInt64.toUInt64).toInt64).toInt32).toInt8.toInt32)))] (.int (0 : Int32)) := V18
    have K18 : Keep h0 h18 [] := K16.wr W18 (Or.inr sz2)
    have N18 := Fr.snoc X18 N16 gg2
    show GoW p e below QQ (T18.setTop (mkF m 166 #[.val (.int p1), .val (.int p2), .val (.int p3), .val (.long q4), .second, .val (.int v4), .val (.int v9), .val (.int cc), .val (.int v79), .val (.ref b2)] []))
    have i4 := own_i4 p3
    rw [hv79] at i4
    rcases i4 with rfl | rfl | rfl | rfl
    · skip
      show GoW p e below QQ (T18.setTop (mkF m 166 #[.val (.int p1), .val (.int p2), .val (.int p3), .val (.long q4), .second, .val (.int v4), .val (.int v9), .val (.int cc), .val (.int (0 : Int32)), .val (.ref b2)] []))
      refine GoW.st (fun t k => XS.aload X18.here hx rfl (hb hby at_166) rfl rfl k) ?_
      show GoW p e below QQ (T18.setTop (mkF m 168 #[.val (.int p1), .val (.int p2), .val (.int p3), .val (.long q4), .second, .val (.int v4), .val (.int v9), .val (.int cc), .val (.int (0 : Int32)), .val (.ref b2)] [(.ref b2)]))
      rcases own_cls cc with hk1 | ⟨hk1, hk2⟩ | ⟨hk1, hk2, hk3⟩ | ⟨hk1, hk2, hk3⟩
      · skip
        have kk := own_k1 cc hk1 hcc.1 hcc.2
        refine GoW.st (fun t k => XS.iload X18.here hx rfl (hb hby at_168) rfl (XS.iload X18.here hx rfl (hb hby at_170) rfl k)) ?_
        show GoW p e below QQ (T18.setTop (mkF m 172 #[.val (.int p1), .val (.int p2), .val (.int p3), .val (.long q4), .second, .val (.int v4), .val (.int v9), .val (.int cc), .val (.int (0 : Int32)), .val (.ref b2)] [(.int cc), (.int (0 : Int32)), (.ref b2)]))
        obtain ⟨_, _, ⟨T20, zL20, zk20, zn20⟩, -, X20, ⟨Lc20, hQ20, zl20, zy20, zz20⟩, st20⟩ := Jvm.LawKit.callS X18 hx (y := (⟨"com/example/terseform/terseform/Utf8CodePointAtPinLaw", "put", "([BII)V"⟩ : MethodName)) hown (mvT hZ (hw _ (List.mem_of_getElem? (i := 4) rfl))) (mvT hZ (hw _ (List.mem_of_getElem? (i := 5) rfl))) (mvT hZ (hw _ (List.mem_of_getElem? (i := 6) rfl))) (mvT hZ (hw _ (List.mem_of_getElem? (i := 7) rfl))) (by decide) (backOf (W := 0) (rm1_01 l Z a0 hw [] b2 k2 cc (nar .byte ((q4.toInt32).toInt8.toInt32)) (nar .byte ((((q4.toUInt64 >>> ((8 : Int32) &&& 0x3f).toInt64.toUInt64).toInt64).toInt32).toInt8.toInt32)) (nar .byte ((((q4.toUInt64 >>> ((16 : Int32) &&& 0x3f).toInt64.toUInt64).toInt64).toInt32).toInt8.toInt32)) (nar .byte ((((q4.toUInt64 >>> ((24 : Int32) &&& 0x3f).toInt64.toUInt64).toInt64).toInt32).toInt8.toInt32)) (nar .byte ((((q4.toUInt64 >>> ((32 : Int32) &&& 0x3f).toInt64.toUInt64).toInt64).toInt32).toInt8.toInt32)) (nar .byte ((((q4.toUInt64 >>> ((40 : Int32) &&& 0x3f).toInt64.toUInt64).toInt64).toInt32).toInt8.toInt32)) (nar .byte ((((q4.toUInt64 >>> ((48 : Int32) &&& 0x3f).toInt64.toUInt64).toInt64).toInt32).toInt8.toInt32)) (nar .byte ((((q4.toUInt64 >>> ((56 : Int32) &&& 0x3f).toInt64.toUInt64).toInt64).toInt32).toInt8.toInt32)) h18 n0 (Nat.le_trans Z0 K18.1) f19_V_b2 gg2 (by assumption)) hZ (hw _ (List.mem_of_getElem? (i := 7) rfl)) (hw _ (List.mem_of_getElem? (i := 6) rfl)) (by decide) (by decide)) (g := (mkF m 172 #[.val (.int p1), .val (.int p2), .val (.int p3), .val (.long q4), .second, .val (.int v4), .val (.int v9), .val (.int cc), .val (.int (0 : Int32)), .val (.ref b2)] [(.int cc), (.int (0 : Int32)), (.ref b2)])) rfl (by rw [hml]; rfl) (argsL := [(.ref b2), (.int (0 : Int32)), (.int cc)]) (rest := []) (lenOf pd_0 rfl) rfl (by show 2 * 0 + _ ≤ _; exact Nat.le_of_eq rfl) (hb hby at_172) (fun _ _ => ⟨rfl, e18, (by decide : 1 + 0 ≤ _), (by decide : 8 + 0 ≤ _)⟩)
        dsimp only [Pt.U, Pt.locs, Pt.cells, Pt.slots] at X20 zl20 zy20 zz20 st20 hQ20
        subst zl20 zy20 zz20
        obtain ⟨rfl, Nq20, Kq20, p20_0⟩ := hQ20
        have N20 := Fr.app N18 Nq20
        refine GoW.st st20 ?_
        have K20 : Keep h0 T20.heap [] := K18.trans Kq20 (allS (Or.inr sz2) all0)
        show GoW p e below QQ (T20.setTop (mkF m 175 #[.val (.int p1), .val (.int p2), .val (.int p3), .val (.long q4), .second, .val (.int v4), .val (.int v9), .val (.int cc), .val (.int (0 : Int32)), .val (.ref b2)] []))
        refine GoW.st (fun t k => XS.aload X20.here hx rfl (hb hby at_175) rfl rfl (XS.iload X20.here hx rfl (hb hby at_177) rfl k)) ?_
        show GoW p e below QQ (T20.setTop (mkF m 179 #[.val (.int p1), .val (.int p2), .val (.int p3), .val (.long q4), .second, .val (.int v4), .val (.int v9), .val (.int cc), .val (.int (0 : Int32)), .val (.ref b2)] [(.int (0 : Int32)), (.ref b2)]))
        obtain ⟨_, _, ⟨T22, zL22, zk22, zn22⟩, -, X22, ⟨Lc22, hQ22, zl22, zy22, zz22⟩, st22⟩ := Jvm.LawKit.callS X20 hx (y := (⟨"com/example/terseform/terseform/Utf8", "codePointAt", "([BI)I"⟩ : MethodName)) hown (mvT hZ (hw _ (List.mem_of_getElem? (i := 9) rfl))) (mvT hZ (hw _ (List.mem_of_getElem? (i := 10) rfl))) (mvT hZ (hw _ (List.mem_of_getElem? (i := 11) rfl))) (mvT hZ (hw _ (List.mem_of_getElem? (i := 12) rfl))) (by decide) (backOf (W := 0) (rm2_01 l Z a0 hw [] b2 k2 (nar .byte (cc.toInt8.toInt32)) (nar .byte ((((q4.toUInt64 >>> ((8 : Int32) &&& 0x3f).toInt64.toUInt64).toInt64).toInt32).toInt8.toInt32)) (nar .byte ((((q4.toUInt64 >>> ((16 : Int32) &&& 0x3f).toInt64.toUInt64).toInt64).toInt32).toInt8.toInt32)) (nar .byte ((((q4.toUInt64 >>> ((24 : Int32) &&& 0x3f).toInt64.toUInt64).toInt64).toInt32).toInt8.toInt32)) (nar .byte ((((q4.toUInt64 >>> ((32 : Int32) &&& 0x3f).toInt64.toUInt64).toInt64).toInt32).toInt8.toInt32)) (nar .byte ((((q4.toUInt64 >>> ((40 : Int32) &&& 0x3f).toInt64.toUInt64).toInt64).toInt32).toInt8.toInt32)) (nar .byte ((((q4.toUInt64 >>> ((48 : Int32) &&& 0x3f).toInt64.toUInt64).toInt64).toInt32).toInt8.toInt32)) (nar .byte ((((q4.toUInt64 >>> ((56 : Int32) &&& 0x3f).toInt64.toUInt64).toInt64).toInt32).toInt8.toInt32)) T20.heap n0 (Nat.le_trans Z0 K20.1) p20_0 kk.1) hZ (hw _ (List.mem_of_getElem? (i := 12) rfl)) (hw _ (List.mem_of_getElem? (i := 11) rfl)) (by decide) (by decide)) (g := (mkF m 179 #[.val (.int p1), .val (.int p2), .val (.int p3), .val (.long q4), .second, .val (.int v4), .val (.int v9), .val (.int cc), .val (.int (0 : Int32)), .val (.ref b2)] [(.int (0 : Int32)), (.ref b2)])) rfl (by rw [hml]; rfl) (argsL := [(.ref b2), (.int (0 : Int32))]) (rest := []) (lenOf pd_1 rfl) rfl (by show 2 * 0 + _ ≤ _; exact Nat.le_of_eq rfl) (hb hby at_179) (fun _ _ => ⟨rfl, rfl, (by decide : 1 + 0 ≤ _), (by decide : 8 + 0 ≤ _)⟩)
        dsimp only [Pt.U, Pt.locs, Pt.cells, Pt.slots] at X22 zl22 zy22 zz22 st22 hQ22
        subst zl22 zy22 zz22
        obtain ⟨rfl, Nq22, hh22⟩ := hQ22
        have N22 := Fr.app N20 Nq22
        refine GoW.st st22 ?_
        show GoW p e below QQ (T22.setTop (mkF m 182 #[.val (.int p1), .val (.int p2), .val (.int p3), .val (.long q4), .second, .val (.int v4), .val (.int v9), .val (.int cc), .val (.int (0 : Int32)), .val (.ref b2)] [(.int ((nar .byte (cc.toInt8.toInt32)) &&& (255 : Int32)))]))
        refine GoW.st (fun t k => XS.iload X22.here hx rfl (hb hby at_182) rfl k) ?_
        show GoW p e below QQ (T22.setTop (mkF m 184 #[.val (.int p1), .val (.int p2), .val (.int p3), .val (.long q4), .second, .val (.int v4), .val (.int v9), .val (.int cc), .val (.int (0 : Int32)), .val (.ref b2)] [(.int cc), (.int ((nar .byte (cc.toInt8.toInt32)) &&& (255 : Int32)))]))
        have hc184 : ((nar .byte (cc.toInt8.toInt32)) &&& (255 : Int32)) = cc := by
          exact kk.2
        refine GoW.st (fun t k => XS.icmpNo X22.here hx rfl (hb hby at_184) rfl (teq hc184).2 (XS.iconst X22.here hx rfl (hb hby at_187) (XS.goto X22.here hx rfl (pc0 := 188) (pc' := 192) rfl (hb hby at_188) (by decide) (by decide) k))) ?_
        show GoW p e below QQ (T22.setTop (mkF m 192 #[.val (.int p1), .val (.int p2), .val (.int p3), .val (.long q4), .second, .val (.int v4), .val (.int v9), .val (.int cc), .val (.int (0 : Int32)), .val (.ref b2)] [(.int (1 : Int32))]))
        exact GoW.fin X22 (some (.int (nar .boolean (1 : Int32)))) (fun q => by rw [hret] at q; cases q) hlk hQ hh22 ⟨rfl, N22⟩ (by decide) (by decide) (fun fs hr => retN X22 hx (t := .boolean) hret (by simp) (hb hby at_192) hr)
      · skip
        have kk := own_k2 cc hk1 hk2 hcc.1 hcc.2
        refine GoW.st (fun t k => XS.iload X18.here hx rfl (hb hby at_168) rfl (XS.iload X18.here hx rfl (hb hby at_170) rfl k)) ?_
        show GoW p e below QQ (T18.setTop (mkF m 172 #[.val (.int p1), .val (.int p2), .val (.int p3), .val (.long q4), .second, .val (.int v4), .val (.int v9), .val (.int cc), .val (.int (0 : Int32)), .val (.ref b2)] [(.int cc), (.int (0 : Int32)), (.ref b2)]))
        obtain ⟨_, _, ⟨T23, zL23, zk23, zn23⟩, -, X23, ⟨Lc23, hQ23, zl23, zy23, zz23⟩, st23⟩ := Jvm.LawKit.callS X18 hx (y := (⟨"com/example/terseform/terseform/Utf8CodePointAtPinLaw", "put", "([BII)V"⟩ : MethodName)) hown (mvT hZ (hw _ (List.mem_of_getElem? (i := 4) rfl))) (mvT hZ (hw _ (List.mem_of_getElem? (i := 5) rfl))) (mvT hZ (hw _ (List.mem_of_getElem? (i := 6) rfl))) (mvT hZ (hw _ (List.mem_of_getElem? (i := 7) rfl))) (by decide) (backOf (W := 0) (rm1_02 l Z a0 hw [] b2 k2 cc (nar .byte ((q4.toInt32).toInt8.toInt32)) (nar .byte ((((q4.toUInt64 >>> ((8 : Int32) &&& 0x3f).toInt64.toUInt64).toInt64).toInt32).toInt8.toInt32)) (nar .byte ((((q4.toUInt64 >>> ((16 : Int32) &&& 0x3f).toInt64.toUInt64).toInt64).toInt32).toInt8.toInt32)) (nar .byte ((((q4.toUInt64 >>> ((24 : Int32) &&& 0x3f).toInt64.toUInt64).toInt64).toInt32).toInt8.toInt32)) (nar .byte ((((q4.toUInt64 >>> ((32 : Int32) &&& 0x3f).toInt64.toUInt64).toInt64).toInt32).toInt8.toInt32)) (nar .byte ((((q4.toUInt64 >>> ((40 : Int32) &&& 0x3f).toInt64.toUInt64).toInt64).toInt32).toInt8.toInt32)) (nar .byte ((((q4.toUInt64 >>> ((48 : Int32) &&& 0x3f).toInt64.toUInt64).toInt64).toInt32).toInt8.toInt32)) (nar .byte ((((q4.toUInt64 >>> ((56 : Int32) &&& 0x3f).toInt64.toUInt64).toInt64).toInt32).toInt8.toInt32)) h18 n0 (Nat.le_trans Z0 K18.1) f19_V_b2 gg2 (by assumption) (by assumption)) hZ (hw _ (List.mem_of_getElem? (i := 7) rfl)) (hw _ (List.mem_of_getElem? (i := 6) rfl)) (by decide) (by decide)) (g := (mkF m 172 #[.val (.int p1), .val (.int p2), .val (.int p3), .val (.long q4), .second, .val (.int v4), .val (.int v9), .val (.int cc), .val (.int (0 : Int32)), .val (.ref b2)] [(.int cc), (.int (0 : Int32)), (.ref b2)])) rfl (by rw [hml]; rfl) (argsL := [(.ref b2), (.int (0 : Int32)), (.int cc)]) (rest := []) (lenOf pd_0 rfl) rfl (by show 2 * 0 + _ ≤ _; exact Nat.le_of_eq rfl) (hb hby at_172) (fun _ _ => ⟨rfl, e18, (by decide : 1 + 0 ≤ _), (by decide : 8 + 0 ≤ _)⟩)
        dsimp only [Pt.U, Pt.locs, Pt.cells, Pt.slots] at X23 zl23 zy23 zz23 st23 hQ23
        subst zl23 zy23 zz23
        obtain ⟨rfl, Nq23, Kq23, p23_0⟩ := hQ23
        have N23 := Fr.app N18 Nq23
        refine GoW.st st23 ?_
        have K23 : Keep h0 T23.heap [] := K18.trans Kq23 (allS (Or.inr sz2) all0)
        show GoW p e below QQ (T23.setTop (mkF m 175 #[.val (.int p1), .val (.int p2), .val (.int p3), .val (.long q4), .second, .val (.int v4), .val (.int v9), .val (.int cc), .val (.int (0 : Int32)), .val (.ref b2)] []))
        refine GoW.st (fun t k => XS.aload X23.here hx rfl (hb hby at_175) rfl rfl (XS.iload X23.here hx rfl (hb hby at_177) rfl k)) ?_
        show GoW p e below QQ (T23.setTop (mkF m 179 #[.val (.int p1), .val (.int p2), .val (.int p3), .val (.long q4), .second, .val (.int v4), .val (.int v9), .val (.int cc), .val (.int (0 : Int32)), .val (.ref b2)] [(.int (0 : Int32)), (.ref b2)]))
        obtain ⟨_, _, ⟨T25, zL25, zk25, zn25⟩, -, X25, ⟨Lc25, hQ25, zl25, zy25, zz25⟩, st25⟩ := Jvm.LawKit.callS X23 hx (y := (⟨"com/example/terseform/terseform/Utf8", "codePointAt", "([BI)I"⟩ : MethodName)) hown (mvT hZ (hw _ (List.mem_of_getElem? (i := 9) rfl))) (mvT hZ (hw _ (List.mem_of_getElem? (i := 10) rfl))) (mvT hZ (hw _ (List.mem_of_getElem? (i := 11) rfl))) (mvT hZ (hw _ (List.mem_of_getElem? (i := 12) rfl))) (by decide) (backOf (W := 0) (rm2_02 l Z a0 hw [] b2 k2 (nar .byte (((192 : Int32) + (cc / (64 : Int32))).toInt8.toInt32)) (nar .byte (((128 : Int32) + (cc % (64 : Int32))).toInt8.toInt32)) (nar .byte ((((q4.toUInt64 >>> ((16 : Int32) &&& 0x3f).toInt64.toUInt64).toInt64).toInt32).toInt8.toInt32)) (nar .byte ((((q4.toUInt64 >>> ((24 : Int32) &&& 0x3f).toInt64.toUInt64).toInt64).toInt32).toInt8.toInt32)) (nar .byte ((((q4.toUInt64 >>> ((32 : Int32) &&& 0x3f).toInt64.toUInt64).toInt64).toInt32).toInt8.toInt32)) (nar .byte ((((q4.toUInt64 >>> ((40 : Int32) &&& 0x3f).toInt64.toUInt64).toInt64).toInt32).toInt8.toInt32)) (nar .byte ((((q4.toUInt64 >>> ((48 : Int32) &&& 0x3f).toInt64.toUInt64).toInt64).toInt32).toInt8.toInt32)) (nar .byte ((((q4.toUInt64 >>> ((56 : Int32) &&& 0x3f).toInt64.toUInt64).toInt64).toInt32).toInt8.toInt32)) T23.heap n0 (Nat.le_trans Z0 K23.1) p23_0 kk.1 kk.2.1) hZ (hw _ (List.mem_of_getElem? (i := 12) rfl)) (hw _ (List.mem_of_getElem? (i := 11) rfl)) (by decide) (by decide)) (g := (mkF m 179 #[.val (.int p1), .val (.int p2), .val (.int p3), .val (.long q4), .second, .val (.int v4), .val (.int v9), .val (.int cc), .val (.int (0 : Int32)), .val (.ref b2)] [(.int (0 : Int32)), (.ref b2)])) rfl (by rw [hml]; rfl) (argsL := [(.ref b2), (.int (0 : Int32))]) (rest := []) (lenOf pd_1 rfl) rfl (by show 2 * 0 + _ ≤ _; exact Nat.le_of_eq rfl) (hb hby at_179) (fun _ _ => ⟨rfl, rfl, (by decide : 1 + 0 ≤ _), (by decide : 8 + 0 ≤ _)⟩)
        dsimp only [Pt.U, Pt.locs, Pt.cells, Pt.slots] at X25 zl25 zy25 zz25 st25 hQ25
        subst zl25 zy25 zz25
        obtain ⟨rfl, Nq25, hh25⟩ := hQ25
        have N25 := Fr.app N23 Nq25
        refine GoW.st st25 ?_
        show GoW p e below QQ (T25.setTop (mkF m 182 #[.val (.int p1), .val (.int p2), .val (.int p3), .val (.long q4), .second, .val (.int v4), .val (.int v9), .val (.int cc), .val (.int (0 : Int32)), .val (.ref b2)] [(.int (((((nar .byte (((192 : Int32) + (cc / (64 : Int32))).toInt8.toInt32)) &&& (255 : Int32)) &&& (31 : Int32)) <<< ((6 : Int32) &&& 31)) ||| ((nar .byte (((128 : Int32) + (cc % (64 : Int32))).toInt8.toInt32)) &&& (63 : Int32))))]))
        refine GoW.st (fun t k => XS.iload X25.here hx rfl (hb hby at_182) rfl k) ?_
        show GoW p e below QQ (T25.setTop (mkF m 184 #[.val (.int p1), .val (.int p2), .val (.int p3), .val (.long q4), .second, .val (.int v4), .val (.int v9), .val (.int cc), .val (.int (0 : Int32)), .val (.ref b2)] [(.int cc), (.int (((((nar .byte (((192 : Int32) + (cc / (64 : Int32))).toInt8.toInt32)) &&& (255 : Int32)) &&& (31 : Int32)) <<< ((6 : Int32) &&& 31)) ||| ((nar .byte (((128 : Int32) + (cc % (64 : Int32))).toInt8.toInt32)) &&& (63 : Int32))))]))
        have hc184 : (((((nar .byte (((192 : Int32) + (cc / (64 : Int32))).toInt8.toInt32)) &&& (255 : Int32)) &&& (31 : Int32)) <<< ((6 : Int32) &&& 31)) ||| ((nar .byte (((128 : Int32) + (cc % (64 : Int32))).toInt8.toInt32)) &&& (63 : Int32))) = cc := by
          exact kk.2.2
        refine GoW.st (fun t k => XS.icmpNo X25.here hx rfl (hb hby at_184) rfl (teq hc184).2 (XS.iconst X25.here hx rfl (hb hby at_187) (XS.goto X25.here hx rfl (pc0 := 188) (pc' := 192) rfl (hb hby at_188) (by decide) (by decide) k))) ?_
        show GoW p e below QQ (T25.setTop (mkF m 192 #[.val (.int p1), .val (.int p2), .val (.int p3), .val (.long q4), .second, .val (.int v4), .val (.int v9), .val (.int cc), .val (.int (0 : Int32)), .val (.ref b2)] [(.int (1 : Int32))]))
        exact GoW.fin X25 (some (.int (nar .boolean (1 : Int32)))) (fun q => by rw [hret] at q; cases q) hlk hQ hh25 ⟨rfl, N25⟩ (by decide) (by decide) (fun fs hr => retN X25 hx (t := .boolean) hret (by simp) (hb hby at_192) hr)
      · skip
        have kk := own_k3 cc hk1 hk2 hk3 hcc.1 hcc.2
        refine GoW.st (fun t k => XS.iload X18.here hx rfl (hb hby at_168) rfl (XS.iload X18.here hx rfl (hb hby at_170) rfl k)) ?_
        show GoW p e below QQ (T18.setTop (mkF m 172 #[.val (.int p1), .val (.int p2), .val (.int p3), .val (.long q4), .second, .val (.int v4), .val (.int v9), .val (.int cc), .val (.int (0 : Int32)), .val (.ref b2)] [(.int cc), (.int (0 : Int32)), (.ref b2)]))
        obtain ⟨_, _, ⟨T26, zL26, zk26, zn26⟩, -, X26, ⟨Lc26, hQ26, zl26, zy26, zz26⟩, st26⟩ := Jvm.LawKit.callS X18 hx (y := (⟨"com/example/terseform/terseform/Utf8CodePointAtPinLaw", "put", "([BII)V"⟩ : MethodName)) hown (mvT hZ (hw _ (List.mem_of_getElem? (i := 4) rfl))) (mvT hZ (hw _ (List.mem_of_getElem? (i := 5) rfl))) (mvT hZ (hw _ (List.mem_of_getElem? (i := 6) rfl))) (mvT hZ (hw _ (List.mem_of_getElem? (i := 7) rfl))) (by decide) (backOf (W := 0) (rm1_03 l Z a0 hw [] b2 k2 cc (nar .byte ((q4.toInt32).toInt8.toInt32)) (nar .byte ((((q4.toUInt64 >>> ((8 : Int32) &&& 0x3f).toInt64.toUInt64).toInt64).toInt32).toInt8.toInt32)) (nar .byte ((((q4.toUInt64 >>> ((16 : Int32) &&& 0x3f).toInt64.toUInt64).toInt64).toInt32).toInt8.toInt32)) (nar .byte ((((q4.toUInt64 >>> ((24 : Int32) &&& 0x3f).toInt64.toUInt64).toInt64).toInt32).toInt8.toInt32)) (nar .byte ((((q4.toUInt64 >>> ((32 : Int32) &&& 0x3f).toInt64.toUInt64).toInt64).toInt32).toInt8.toInt32)) (nar .byte ((((q4.toUInt64 >>> ((40 : Int32) &&& 0x3f).toInt64.toUInt64).toInt64).toInt32).toInt8.toInt32)) (nar .byte ((((q4.toUInt64 >>> ((48 : Int32) &&& 0x3f).toInt64.toUInt64).toInt64).toInt32).toInt8.toInt32)) (nar .byte ((((q4.toUInt64 >>> ((56 : Int32) &&& 0x3f).toInt64.toUInt64).toInt64).toInt32).toInt8.toInt32)) h18 n0 (Nat.le_trans Z0 K18.1) f19_V_b2 gg2 (by assumption) (by assumption) (by assumption)) hZ (hw _ (List.mem_of_getElem? (i := 7) rfl)) (hw _ (List.mem_of_getElem? (i := 6) rfl)) (by decide) (by decide)) (g := (mkF m 172 #[.val (.int p1), .val (.int p2), .val (.int p3), .val (.long q4), .second, .val (.int v4), .val (.int v9), .val (.int cc), .val (.int (0 : Int32)), .val (.ref b2)] [(.int cc), (.int (0 : Int32)), (.ref b2)])) rfl (by rw [hml]; rfl) (argsL := [(.ref b2), (.int (0 : Int32)), (.int cc)]) (rest := []) (lenOf pd_0 rfl) rfl (by show 2 * 0 + _ ≤ _; exact Nat.le_of_eq rfl) (hb hby at_172) (fun _ _ => ⟨rfl, e18, (by decide : 1 + 0 ≤ _), (by decide : 8 + 0 ≤ _)⟩)
        dsimp only [Pt.U, Pt.locs, Pt.cells, Pt.slots] at X26 zl26 zy26 zz26 st26 hQ26
        subst zl26 zy26 zz26
        obtain ⟨rfl, Nq26, Kq26, p26_0⟩ := hQ26
        have N26 := Fr.app N18 Nq26
        refine GoW.st st26 ?_
        have K26 : Keep h0 T26.heap [] := K18.trans Kq26 (allS (Or.inr sz2) all0)
        show GoW p e below QQ (T26.setTop (mkF m 175 #[.val (.int p1), .val (.int p2), .val (.int p3), .val (.long q4), .second, .val (.int v4), .val (.int v9), .val (.int cc), .val (.int (0 : Int32)), .val (.ref b2)] []))
        refine GoW.st (fun t k => XS.aload X26.here hx rfl (hb hby at_175) rfl rfl (XS.iload X26.here hx rfl (hb hby at_177) rfl k)) ?_
        show GoW p e below QQ (T26.setTop (mkF m 179 #[.val (.int p1), .val (.int p2), .val (.int p3), .val (.long q4), .second, .val (.int v4), .val (.int v9), .val (.int cc), .val (.int (0 : Int32)), .val (.ref b2)] [(.int (0 : Int32)), (.ref b2)]))
        obtain ⟨_, _, ⟨T28, zL28, zk28, zn28⟩, -, X28, ⟨Lc28, hQ28, zl28, zy28, zz28⟩, st28⟩ := Jvm.LawKit.callS X26 hx (y := (⟨"com/example/terseform/terseform/Utf8", "codePointAt", "([BI)I"⟩ : MethodName)) hown (mvT hZ (hw _ (List.mem_of_getElem? (i := 9) rfl))) (mvT hZ (hw _ (List.mem_of_getElem? (i := 10) rfl))) (mvT hZ (hw _ (List.mem_of_getElem? (i := 11) rfl))) (mvT hZ (hw _ (List.mem_of_getElem? (i := 12) rfl))) (by decide) (backOf (W := 0) (rm2_03 l Z a0 hw [] b2 k2 (nar .byte (((224 : Int32) + (cc / (4096 : Int32))).toInt8.toInt32)) (nar .byte (((128 : Int32) + ((cc / (64 : Int32)) % (64 : Int32))).toInt8.toInt32)) (nar .byte (((128 : Int32) + (cc % (64 : Int32))).toInt8.toInt32)) (nar .byte ((((q4.toUInt64 >>> ((24 : Int32) &&& 0x3f).toInt64.toUInt64).toInt64).toInt32).toInt8.toInt32)) (nar .byte ((((q4.toUInt64 >>> ((32 : Int32) &&& 0x3f).toInt64.toUInt64).toInt64).toInt32).toInt8.toInt32)) (nar .byte ((((q4.toUInt64 >>> ((40 : Int32) &&& 0x3f).toInt64.toUInt64).toInt64).toInt32).toInt8.toInt32)) (nar .byte ((((q4.toUInt64 >>> ((48 : Int32) &&& 0x3f).toInt64.toUInt64).toInt64).toInt32).toInt8.toInt32)) (nar .byte ((((q4.toUInt64 >>> ((56 : Int32) &&& 0x3f).toInt64.toUInt64).toInt64).toInt32).toInt8.toInt32)) T26.heap n0 (Nat.le_trans Z0 K26.1) p26_0 kk.1 kk.2.1 kk.2.2.1) hZ (hw _ (List.mem_of_getElem? (i := 12) rfl)) (hw _ (List.mem_of_getElem? (i := 11) rfl)) (by decide) (by decide)) (g := (mkF m 179 #[.val (.int p1), .val (.int p2), .val (.int p3), .val (.long q4), .second, .val (.int v4), .val (.int v9), .val (.int cc), .val (.int (0 : Int32)), .val (.ref b2)] [(.int (0 : Int32)), (.ref b2)])) rfl (by rw [hml]; rfl) (argsL := [(.ref b2), (.int (0 : Int32))]) (rest := []) (lenOf pd_1 rfl) rfl (by show 2 * 0 + _ ≤ _; exact Nat.le_of_eq rfl) (hb hby at_179) (fun _ _ => ⟨rfl, rfl, (by decide : 1 + 0 ≤ _), (by decide : 8 + 0 ≤ _)⟩)
        dsimp only [Pt.U, Pt.locs, Pt.cells, Pt.slots] at X28 zl28 zy28 zz28 st28 hQ28
        subst zl28 zy28 zz28
        obtain ⟨rfl, Nq28, hh28⟩ := hQ28
        have N28 := Fr.app N26 Nq28
        refine GoW.st st28 ?_
        show GoW p e below QQ (T28.setTop (mkF m 182 #[.val (.int p1), .val (.int p2), .val (.int p3), .val (.long q4), .second, .val (.int v4), .val (.int v9), .val (.int cc), .val (.int (0 : Int32)), .val (.ref b2)] [(.int ((((((nar .byte (((224 : Int32) + (cc / (4096 : Int32))).toInt8.toInt32)) &&& (255 : Int32)) &&& (15 : Int32)) <<< ((12 : Int32) &&& 31)) ||| (((nar .byte (((128 : Int32) + ((cc / (64 : Int32)) % (64 : Int32))).toInt8.toInt32)) &&& (63 : Int32)) <<< ((6 : Int32) &&& 31))) ||| ((nar .byte (((128 : Int32) + (cc % (64 : Int32))).toInt8.toInt32)) &&& (63 : Int32))))]))
        refine GoW.st (fun t k => XS.iload X28.here hx rfl (hb hby at_182) rfl k) ?_
        show GoW p e below QQ (T28.setTop (mkF m 184 #[.val (.int p1), .val (.int p2), .val (.int p3), .val (.long q4), .second, .val (.int v4), .val (.int v9), .val (.int cc), .val (.int (0 : Int32)), .val (.ref b2)] [(.int cc), (.int ((((((nar .byte (((224 : Int32) + (cc / (4096 : Int32))).toInt8.toInt32)) &&& (255 : Int32)) &&& (15 : Int32)) <<< ((12 : Int32) &&& 31)) ||| (((nar .byte (((128 : Int32) + ((cc / (64 : Int32)) % (64 : Int32))).toInt8.toInt32)) &&& (63 : Int32)) <<< ((6 : Int32) &&& 31))) ||| ((nar .byte (((128 : Int32) + (cc % (64 : Int32))).toInt8.toInt32)) &&& (63 : Int32))))]))
        have hc184 : ((((((nar .byte (((224 : Int32) + (cc / (4096 : Int32))).toInt8.toInt32)) &&& (255 : Int32)) &&& (15 : Int32)) <<< ((12 : Int32) &&& 31)) ||| (((nar .byte (((128 : Int32) + ((cc / (64 : Int32)) % (64 : Int32))).toInt8.toInt32)) &&& (63 : Int32)) <<< ((6 : Int32) &&& 31))) ||| ((nar .byte (((128 : Int32) + (cc % (64 : Int32))).toInt8.toInt32)) &&& (63 : Int32))) = cc := by
          exact kk.2.2.2
        refine GoW.st (fun t k => XS.icmpNo X28.here hx rfl (hb hby at_184) rfl (teq hc184).2 (XS.iconst X28.here hx rfl (hb hby at_187) (XS.goto X28.here hx rfl (pc0 := 188) (pc' := 192) rfl (hb hby at_188) (by decide) (by decide) k))) ?_
        show GoW p e below QQ (T28.setTop (mkF m 192 #[.val (.int p1), .val (.int p2), .val (.int p3), .val (.long q4), .second, .val (.int v4), .val (.int v9), .val (.int cc), .val (.int (0 : Int32)), .val (.ref b2)] [(.int (1 : Int32))]))
        exact GoW.fin X28 (some (.int (nar .boolean (1 : Int32)))) (fun q => by rw [hret] at q; cases q) hlk hQ hh28 ⟨rfl, N28⟩ (by decide) (by decide) (fun fs hr => retN X28 hx (t := .boolean) hret (by simp) (hb hby at_192) hr)
      · skip
        have kk := own_k4 cc hk1 hk2 hk3 hcc.1 hcc.2
        refine GoW.st (fun t k => XS.iload X18.here hx rfl (hb hby at_168) rfl (XS.iload X18.here hx rfl (hb hby at_170) rfl k)) ?_
        show GoW p e below QQ (T18.setTop (mkF m 172 #[.val (.int p1), .val (.int p2), .val (.int p3), .val (.long q4), .second, .val (.int v4), .val (.int v9), .val (.int cc), .val (.int (0 : Int32)), .val (.ref b2)] [(.int cc), (.int (0 : Int32)), (.ref b2)]))
        obtain ⟨_, _, ⟨T29, zL29, zk29, zn29⟩, -, X29, ⟨Lc29, hQ29, zl29, zy29, zz29⟩, st29⟩ := Jvm.LawKit.callS X18 hx (y := (⟨"com/example/terseform/terseform/Utf8CodePointAtPinLaw", "put", "([BII)V"⟩ : MethodName)) hown (mvT hZ (hw _ (List.mem_of_getElem? (i := 4) rfl))) (mvT hZ (hw _ (List.mem_of_getElem? (i := 5) rfl))) (mvT hZ (hw _ (List.mem_of_getElem? (i := 6) rfl))) (mvT hZ (hw _ (List.mem_of_getElem? (i := 7) rfl))) (by decide) (backOf (W := 0) (rm1_04 l Z a0 hw [] b2 k2 cc (nar .byte ((q4.toInt32).toInt8.toInt32)) (nar .byte ((((q4.toUInt64 >>> ((8 : Int32) &&& 0x3f).toInt64.toUInt64).toInt64).toInt32).toInt8.toInt32)) (nar .byte ((((q4.toUInt64 >>> ((16 : Int32) &&& 0x3f).toInt64.toUInt64).toInt64).toInt32).toInt8.toInt32)) (nar .byte ((((q4.toUInt64 >>> ((24 : Int32) &&& 0x3f).toInt64.toUInt64).toInt64).toInt32).toInt8.toInt32)) (nar .byte ((((q4.toUInt64 >>> ((32 : Int32) &&& 0x3f).toInt64.toUInt64).toInt64).toInt32).toInt8.toInt32)) (nar .byte ((((q4.toUInt64 >>> ((40 : Int32) &&& 0x3f).toInt64.toUInt64).toInt64).toInt32).toInt8.toInt32)) (nar .byte ((((q4.toUInt64 >>> ((48 : Int32) &&& 0x3f).toInt64.toUInt64).toInt64).toInt32).toInt8.toInt32)) (nar .byte ((((q4.toUInt64 >>> ((56 : Int32) &&& 0x3f).toInt64.toUInt64).toInt64).toInt32).toInt8.toInt32)) h18 n0 (Nat.le_trans Z0 K18.1) f19_V_b2 gg2 (by assumption) (by assumption) (by assumption)) hZ (hw _ (List.mem_of_getElem? (i := 7) rfl)) (hw _ (List.mem_of_getElem? (i := 6) rfl)) (by decide) (by decide)) (g := (mkF m 172 #[.val (.int p1), .val (.int p2), .val (.int p3), .val (.long q4), .second, .val (.int v4), .val (.int v9), .val (.int cc), .val (.int (0 : Int32)), .val (.ref b2)] [(.int cc), (.int (0 : Int32)), (.ref b2)])) rfl (by rw [hml]; rfl) (argsL := [(.ref b2), (.int (0 : Int32)), (.int cc)]) (rest := []) (lenOf pd_0 rfl) rfl (by show 2 * 0 + _ ≤ _; exact Nat.le_of_eq rfl) (hb hby at_172) (fun _ _ => ⟨rfl, e18, (by decide : 1 + 0 ≤ _), (by decide : 8 + 0 ≤ _)⟩)
        dsimp only [Pt.U, Pt.locs, Pt.cells, Pt.slots] at X29 zl29 zy29 zz29 st29 hQ29
        subst zl29 zy29 zz29
        obtain ⟨rfl, Nq29, Kq29, p29_0⟩ := hQ29
        have N29 := Fr.app N18 Nq29
        refine GoW.st st29 ?_
        have K29 : Keep h0 T29.heap [] := K18.trans Kq29 (allS (Or.inr sz2) all0)
        show GoW p e below QQ (T29.setTop (mkF m 175 #[.val (.int p1), .val (.int p2), .val (.int p3), .val (.long q4), .second, .val (.int v4), .val (.int v9), .val (.int cc), .val (.int (0 : Int32)), .val (.ref b2)] []))
        refine GoW.st (fun t k => XS.aload X29.here hx rfl (hb hby at_175) rfl rfl (XS.iload X29.here hx rfl (hb hby at_177) rfl k)) ?_
        show GoW p e below QQ (T29.setTop (mkF m 179 #[.val (.int p1), .val (.int p2), .val (.int p3), .val (.long q4), .second, .val (.int v4), .val (.int v9), .val (.int cc), .val (.int (0 : Int32)), .val (.ref b2)] [(.int (0 : Int32)), (.ref b2)]))
        obtain ⟨_, _, ⟨T31, zL31, zk31, zn31⟩, -, X31, ⟨Lc31, hQ31, zl31, zy31, zz31⟩, st31⟩ := Jvm.LawKit.callS X29 hx (y := (⟨"com/example/terseform/terseform/Utf8", "codePointAt", "([BI)I"⟩ : MethodName)) hown (mvT hZ (hw _ (List.mem_of_getElem? (i := 9) rfl))) (mvT hZ (hw _ (List.mem_of_getElem? (i := 10) rfl))) (mvT hZ (hw _ (List.mem_of_getElem? (i := 11) rfl))) (mvT hZ (hw _ (List.mem_of_getElem? (i := 12) rfl))) (by decide) (backOf (W := 0) (rm2_04 l Z a0 hw [] b2 k2 (nar .byte (((240 : Int32) + (cc / (262144 : Int32))).toInt8.toInt32)) (nar .byte (((128 : Int32) + ((cc / (4096 : Int32)) % (64 : Int32))).toInt8.toInt32)) (nar .byte (((128 : Int32) + ((cc / (64 : Int32)) % (64 : Int32))).toInt8.toInt32)) (nar .byte (((128 : Int32) + (cc % (64 : Int32))).toInt8.toInt32)) (nar .byte ((((q4.toUInt64 >>> ((32 : Int32) &&& 0x3f).toInt64.toUInt64).toInt64).toInt32).toInt8.toInt32)) (nar .byte ((((q4.toUInt64 >>> ((40 : Int32) &&& 0x3f).toInt64.toUInt64).toInt64).toInt32).toInt8.toInt32)) (nar .byte ((((q4.toUInt64 >>> ((48 : Int32) &&& 0x3f).toInt64.toUInt64).toInt64).toInt32).toInt8.toInt32)) (nar .byte ((((q4.toUInt64 >>> ((56 : Int32) &&& 0x3f).toInt64.toUInt64).toInt64).toInt32).toInt8.toInt32)) T29.heap n0 (Nat.le_trans Z0 K29.1) p29_0 kk.1 kk.2.1 kk.2.2.1) hZ (hw _ (List.mem_of_getElem? (i := 12) rfl)) (hw _ (List.mem_of_getElem? (i := 11) rfl)) (by decide) (by decide)) (g := (mkF m 179 #[.val (.int p1), .val (.int p2), .val (.int p3), .val (.long q4), .second, .val (.int v4), .val (.int v9), .val (.int cc), .val (.int (0 : Int32)), .val (.ref b2)] [(.int (0 : Int32)), (.ref b2)])) rfl (by rw [hml]; rfl) (argsL := [(.ref b2), (.int (0 : Int32))]) (rest := []) (lenOf pd_1 rfl) rfl (by show 2 * 0 + _ ≤ _; exact Nat.le_of_eq rfl) (hb hby at_179) (fun _ _ => ⟨rfl, rfl, (by decide : 1 + 0 ≤ _), (by decide : 8 + 0 ≤ _)⟩)
        dsimp only [Pt.U, Pt.locs, Pt.cells, Pt.slots] at X31 zl31 zy31 zz31 st31 hQ31
        subst zl31 zy31 zz31
        obtain ⟨rfl, Nq31, hh31⟩ := hQ31
        have N31 := Fr.app N29 Nq31
        refine GoW.st st31 ?_
        show GoW p e below QQ (T31.setTop (mkF m 182 #[.val (.int p1), .val (.int p2), .val (.int p3), .val (.long q4), .second, .val (.int v4), .val (.int v9), .val (.int cc), .val (.int (0 : Int32)), .val (.ref b2)] [(.int (((((((nar .byte (((240 : Int32) + (cc / (262144 : Int32))).toInt8.toInt32)) &&& (255 : Int32)) &&& (7 : Int32)) <<< ((18 : Int32) &&& 31)) ||| (((nar .byte (((128 : Int32) + ((cc / (4096 : Int32)) % (64 : Int32))).toInt8.toInt32)) &&& (63 : Int32)) <<< ((12 : Int32) &&& 31))) ||| (((nar .byte (((128 : Int32) + ((cc / (64 : Int32)) % (64 : Int32))).toInt8.toInt32)) &&& (63 : Int32)) <<< ((6 : Int32) &&& 31))) ||| ((nar .byte (((128 : Int32) + (cc % (64 : Int32))).toInt8.toInt32)) &&& (63 : Int32))))]))
        refine GoW.st (fun t k => XS.iload X31.here hx rfl (hb hby at_182) rfl k) ?_
        show GoW p e below QQ (T31.setTop (mkF m 184 #[.val (.int p1), .val (.int p2), .val (.int p3), .val (.long q4), .second, .val (.int v4), .val (.int v9), .val (.int cc), .val (.int (0 : Int32)), .val (.ref b2)] [(.int cc), (.int (((((((nar .byte (((240 : Int32) + (cc / (262144 : Int32))).toInt8.toInt32)) &&& (255 : Int32)) &&& (7 : Int32)) <<< ((18 : Int32) &&& 31)) ||| (((nar .byte (((128 : Int32) + ((cc / (4096 : Int32)) % (64 : Int32))).toInt8.toInt32)) &&& (63 : Int32)) <<< ((12 : Int32) &&& 31))) ||| (((nar .byte (((128 : Int32) + ((cc / (64 : Int32)) % (64 : Int32))).toInt8.toInt32)) &&& (63 : Int32)) <<< ((6 : Int32) &&& 31))) ||| ((nar .byte (((128 : Int32) + (cc % (64 : Int32))).toInt8.toInt32)) &&& (63 : Int32))))]))
        have hc184 : (((((((nar .byte (((240 : Int32) + (cc / (262144 : Int32))).toInt8.toInt32)) &&& (255 : Int32)) &&& (7 : Int32)) <<< ((18 : Int32) &&& 31)) ||| (((nar .byte (((128 : Int32) + ((cc / (4096 : Int32)) % (64 : Int32))).toInt8.toInt32)) &&& (63 : Int32)) <<< ((12 : Int32) &&& 31))) ||| (((nar .byte (((128 : Int32) + ((cc / (64 : Int32)) % (64 : Int32))).toInt8.toInt32)) &&& (63 : Int32)) <<< ((6 : Int32) &&& 31))) ||| ((nar .byte (((128 : Int32) + (cc % (64 : Int32))).toInt8.toInt32)) &&& (63 : Int32))) = cc := by
          exact kk.2.2.2
        refine GoW.st (fun t k => XS.icmpNo X31.here hx rfl (hb hby at_184) rfl (teq hc184).2 (XS.iconst X31.here hx rfl (hb hby at_187) (XS.goto X31.here hx rfl (pc0 := 188) (pc' := 192) rfl (hb hby at_188) (by decide) (by decide) k))) ?_
        show GoW p e below QQ (T31.setTop (mkF m 192 #[.val (.int p1), .val (.int p2), .val (.int p3), .val (.long q4), .second, .val (.int v4), .val (.int v9), .val (.int cc), .val (.int (0 : Int32)), .val (.ref b2)] [(.int (1 : Int32))]))
        exact GoW.fin X31 (some (.int (nar .boolean (1 : Int32)))) (fun q => by rw [hret] at q; cases q) hlk hQ hh31 ⟨rfl, N31⟩ (by decide) (by decide) (fun fs hr => retN X31 hx (t := .boolean) hret (by simp) (hb hby at_192) hr)
    · skip
      show GoW p e below QQ (T18.setTop (mkF m 166 #[.val (.int p1), .val (.int p2), .val (.int p3), .val (.long q4), .second, .val (.int v4), .val (.int v9), .val (.int cc), .val (.int (1 : Int32)), .val (.ref b2)] []))
      refine GoW.st (fun t k => XS.aload X18.here hx rfl (hb hby at_166) rfl rfl k) ?_
      show GoW p e below QQ (T18.setTop (mkF m 168 #[.val (.int p1), .val (.int p2), .val (.int p3), .val (.long q4), .second, .val (.int v4), .val (.int v9), .val (.int cc), .val (.int (1 : Int32)), .val (.ref b2)] [(.ref b2)]))
      rcases own_cls cc with hk1 | ⟨hk1, hk2⟩ | ⟨hk1, hk2, hk3⟩ | ⟨hk1, hk2, hk3⟩
      · skip
        have kk := own_k1 cc hk1 hcc.1 hcc.2
        refine GoW.st (fun t k => XS.iload X18.here hx rfl (hb hby at_168) rfl (XS.iload X18.here hx rfl (hb hby at_170) rfl k)) ?_
        show GoW p e below QQ (T18.setTop (mkF m 172 #[.val (.int p1), .val (.int p2), .val (.int p3), .val (.long q4), .second, .val (.int v4), .val (.int v9), .val (.int cc), .val (.int (1 : Int32)), .val (.ref b2)] [(.int cc), (.int (1 : Int32)), (.ref b2)]))
        obtain ⟨_, _, ⟨T32, zL32, zk32, zn32⟩, -, X32, ⟨Lc32, hQ32, zl32, zy32, zz32⟩, st32⟩ := Jvm.LawKit.callS X18 hx (y := (⟨"com/example/terseform/terseform/Utf8CodePointAtPinLaw", "put", "([BII)V"⟩ : MethodName)) hown (mvT hZ (hw _ (List.mem_of_getElem? (i := 4) rfl))) (mvT hZ (hw _ (List.mem_of_getElem? (i := 5) rfl))) (mvT hZ (hw _ (List.mem_of_getElem? (i := 6) rfl))) (mvT hZ (hw _ (List.mem_of_getElem? (i := 7) rfl))) (by decide) (backOf (W := 0) (rm1_11 l Z a0 hw [] b2 k2 cc (nar .byte ((q4.toInt32).toInt8.toInt32)) (nar .byte ((((q4.toUInt64 >>> ((8 : Int32) &&& 0x3f).toInt64.toUInt64).toInt64).toInt32).toInt8.toInt32)) (nar .byte ((((q4.toUInt64 >>> ((16 : Int32) &&& 0x3f).toInt64.toUInt64).toInt64).toInt32).toInt8.toInt32)) (nar .byte ((((q4.toUInt64 >>> ((24 : Int32) &&& 0x3f).toInt64.toUInt64).toInt64).toInt32).toInt8.toInt32)) (nar .byte ((((q4.toUInt64 >>> ((32 : Int32) &&& 0x3f).toInt64.toUInt64).toInt64).toInt32).toInt8.toInt32)) (nar .byte ((((q4.toUInt64 >>> ((40 : Int32) &&& 0x3f).toInt64.toUInt64).toInt64).toInt32).toInt8.toInt32)) (nar .byte ((((q4.toUInt64 >>> ((48 : Int32) &&& 0x3f).toInt64.toUInt64).toInt64).toInt32).toInt8.toInt32)) (nar .byte ((((q4.toUInt64 >>> ((56 : Int32) &&& 0x3f).toInt64.toUInt64).toInt64).toInt32).toInt8.toInt32)) h18 n0 (Nat.le_trans Z0 K18.1) f19_V_b2 gg2 (by assumption)) hZ (hw _ (List.mem_of_getElem? (i := 7) rfl)) (hw _ (List.mem_of_getElem? (i := 6) rfl)) (by decide) (by decide)) (g := (mkF m 172 #[.val (.int p1), .val (.int p2), .val (.int p3), .val (.long q4), .second, .val (.int v4), .val (.int v9), .val (.int cc), .val (.int (1 : Int32)), .val (.ref b2)] [(.int cc), (.int (1 : Int32)), (.ref b2)])) rfl (by rw [hml]; rfl) (argsL := [(.ref b2), (.int (1 : Int32)), (.int cc)]) (rest := []) (lenOf pd_0 rfl) rfl (by show 2 * 0 + _ ≤ _; exact Nat.le_of_eq rfl) (hb hby at_172) (fun _ _ => ⟨rfl, e18, (by decide : 1 + 0 ≤ _), (by decide : 8 + 0 ≤ _)⟩)
        dsimp only [Pt.U, Pt.locs, Pt.cells, Pt.slots] at X32 zl32 zy32 zz32 st32 hQ32
        subst zl32 zy32 zz32
        obtain ⟨rfl, Nq32, Kq32, p32_0⟩ := hQ32
        have N32 := Fr.app N18 Nq32
        refine GoW.st st32 ?_
        have K32 : Keep h0 T32.heap [] := K18.trans Kq32 (allS (Or.inr sz2) all0)
        show GoW p e below QQ (T32.setTop (mkF m 175 #[.val (.int p1), .val (.int p2), .val (.int p3), .val (.long q4), .second, .val (.int v4), .val (.int v9), .val (.int cc), .val (.int (1 : Int32)), .val (.ref b2)] []))
        refine GoW.st (fun t k => XS.aload X32.here hx rfl (hb hby at_175) rfl rfl (XS.iload X32.here hx rfl (hb hby at_177) rfl k)) ?_
        show GoW p e below QQ (T32.setTop (mkF m 179 #[.val (.int p1), .val (.int p2), .val (.int p3), .val (.long q4), .second, .val (.int v4), .val (.int v9), .val (.int cc), .val (.int (1 : Int32)), .val (.ref b2)] [(.int (1 : Int32)), (.ref b2)]))
        obtain ⟨_, _, ⟨T34, zL34, zk34, zn34⟩, -, X34, ⟨Lc34, hQ34, zl34, zy34, zz34⟩, st34⟩ := Jvm.LawKit.callS X32 hx (y := (⟨"com/example/terseform/terseform/Utf8", "codePointAt", "([BI)I"⟩ : MethodName)) hown (mvT hZ (hw _ (List.mem_of_getElem? (i := 9) rfl))) (mvT hZ (hw _ (List.mem_of_getElem? (i := 10) rfl))) (mvT hZ (hw _ (List.mem_of_getElem? (i := 11) rfl))) (mvT hZ (hw _ (List.mem_of_getElem? (i := 12) rfl))) (by decide) (backOf (W := 0) (rm2_11 l Z a0 hw [] b2 k2 (nar .byte ((q4.toInt32).toInt8.toInt32)) (nar .byte (cc.toInt8.toInt32)) (nar .byte ((((q4.toUInt64 >>> ((16 : Int32) &&& 0x3f).toInt64.toUInt64).toInt64).toInt32).toInt8.toInt32)) (nar .byte ((((q4.toUInt64 >>> ((24 : Int32) &&& 0x3f).toInt64.toUInt64).toInt64).toInt32).toInt8.toInt32)) (nar .byte ((((q4.toUInt64 >>> ((32 : Int32) &&& 0x3f).toInt64.toUInt64).toInt64).toInt32).toInt8.toInt32)) (nar .byte ((((q4.toUInt64 >>> ((40 : Int32) &&& 0x3f).toInt64.toUInt64).toInt64).toInt32).toInt8.toInt32)) (nar .byte ((((q4.toUInt64 >>> ((48 : Int32) &&& 0x3f).toInt64.toUInt64).toInt64).toInt32).toInt8.toInt32)) (nar .byte ((((q4.toUInt64 >>> ((56 : Int32) &&& 0x3f).toInt64.toUInt64).toInt64).toInt32).toInt8.toInt32)) T32.heap n0 (Nat.le_trans Z0 K32.1) p32_0 kk.1) hZ (hw _ (List.mem_of_getElem? (i := 12) rfl)) (hw _ (List.mem_of_getElem? (i := 11) rfl)) (by decide) (by decide)) (g := (mkF m 179 #[.val (.int p1), .val (.int p2), .val (.int p3), .val (.long q4), .second, .val (.int v4), .val (.int v9), .val (.int cc), .val (.int (1 : Int32)), .val (.ref b2)] [(.int (1 : Int32)), (.ref b2)])) rfl (by rw [hml]; rfl) (argsL := [(.ref b2), (.int (1 : Int32))]) (rest := []) (lenOf pd_1 rfl) rfl (by show 2 * 0 + _ ≤ _; exact Nat.le_of_eq rfl) (hb hby at_179) (fun _ _ => ⟨rfl, rfl, (by decide : 1 + 0 ≤ _), (by decide : 8 + 0 ≤ _)⟩)
        dsimp only [Pt.U, Pt.locs, Pt.cells, Pt.slots] at X34 zl34 zy34 zz34 st34 hQ34
        subst zl34 zy34 zz34
        obtain ⟨rfl, Nq34, hh34⟩ := hQ34
        have N34 := Fr.app N32 Nq34
        refine GoW.st st34 ?_
        show GoW p e below QQ (T34.setTop (mkF m 182 #[.val (.int p1), .val (.int p2), .val (.int p3), .val (.long q4), .second, .val (.int v4), .val (.int v9), .val (.int cc), .val (.int (1 : Int32)), .val (.ref b2)] [(.int ((nar .byte (cc.toInt8.toInt32)) &&& (255 : Int32)))]))
        refine GoW.st (fun t k => XS.iload X34.here hx rfl (hb hby at_182) rfl k) ?_
        show GoW p e below QQ (T34.setTop (mkF m 184 #[.val (.int p1), .val (.int p2), .val (.int p3), .val (.long q4), .second, .val (.int v4), .val (.int v9), .val (.int cc), .val (.int (1 : Int32)), .val (.ref b2)] [(.int cc), (.int ((nar .byte (cc.toInt8.toInt32)) &&& (255 : Int32)))]))
        have hc184 : ((nar .byte (cc.toInt8.toInt32)) &&& (255 : Int32)) = cc := by
          exact kk.2
        refine GoW.st (fun t k => XS.icmpNo X34.here hx rfl (hb hby at_184) rfl (teq hc184).2 (XS.iconst X34.here hx rfl (hb hby at_187) (XS.goto X34.here hx rfl (pc0 := 188) (pc' := 192) rfl (hb hby at_188) (by decide) (by decide) k))) ?_
        show GoW p e below QQ (T34.setTop (mkF m 192 #[.val (.int p1), .val (.int p2), .val (.int p3), .val (.long q4), .second, .val (.int v4), .val (.int v9), .val (.int cc), .val (.int (1 : Int32)), .val (.ref b2)] [(.int (1 : Int32))]))
        exact GoW.fin X34 (some (.int (nar .boolean (1 : Int32)))) (fun q => by rw [hret] at q; cases q) hlk hQ hh34 ⟨rfl, N34⟩ (by decide) (by decide) (fun fs hr => retN X34 hx (t := .boolean) hret (by simp) (hb hby at_192) hr)
      · skip
        have kk := own_k2 cc hk1 hk2 hcc.1 hcc.2
        refine GoW.st (fun t k => XS.iload X18.here hx rfl (hb hby at_168) rfl (XS.iload X18.here hx rfl (hb hby at_170) rfl k)) ?_
        show GoW p e below QQ (T18.setTop (mkF m 172 #[.val (.int p1), .val (.int p2), .val (.int p3), .val (.long q4), .second, .val (.int v4), .val (.int v9), .val (.int cc), .val (.int (1 : Int32)), .val (.ref b2)] [(.int cc), (.int (1 : Int32)), (.ref b2)]))
        obtain ⟨_, _, ⟨T35, zL35, zk35, zn35⟩, -, X35, ⟨Lc35, hQ35, zl35, zy35, zz35⟩, st35⟩ := Jvm.LawKit.callS X18 hx (y := (⟨"com/example/terseform/terseform/Utf8CodePointAtPinLaw", "put", "([BII)V"⟩ : MethodName)) hown (mvT hZ (hw _ (List.mem_of_getElem? (i := 4) rfl))) (mvT hZ (hw _ (List.mem_of_getElem? (i := 5) rfl))) (mvT hZ (hw _ (List.mem_of_getElem? (i := 6) rfl))) (mvT hZ (hw _ (List.mem_of_getElem? (i := 7) rfl))) (by decide) (backOf (W := 0) (rm1_12 l Z a0 hw [] b2 k2 cc (nar .byte ((q4.toInt32).toInt8.toInt32)) (nar .byte ((((q4.toUInt64 >>> ((8 : Int32) &&& 0x3f).toInt64.toUInt64).toInt64).toInt32).toInt8.toInt32)) (nar .byte ((((q4.toUInt64 >>> ((16 : Int32) &&& 0x3f).toInt64.toUInt64).toInt64).toInt32).toInt8.toInt32)) (nar .byte ((((q4.toUInt64 >>> ((24 : Int32) &&& 0x3f).toInt64.toUInt64).toInt64).toInt32).toInt8.toInt32)) (nar .byte ((((q4.toUInt64 >>> ((32 : Int32) &&& 0x3f).toInt64.toUInt64).toInt64).toInt32).toInt8.toInt32)) (nar .byte ((((q4.toUInt64 >>> ((40 : Int32) &&& 0x3f).toInt64.toUInt64).toInt64).toInt32).toInt8.toInt32)) (nar .byte ((((q4.toUInt64 >>> ((48 : Int32) &&& 0x3f).toInt64.toUInt64).toInt64).toInt32).toInt8.toInt32)) (nar .byte ((((q4.toUInt64 >>> ((56 : Int32) &&& 0x3f).toInt64.toUInt64).toInt64).toInt32).toInt8.toInt32)) h18 n0 (Nat.le_trans Z0 K18.1) f19_V_b2 gg2 (by assumption) (by assumption)) hZ (hw _ (List.mem_of_getElem? (i := 7) rfl)) (hw _ (List.mem_of_getElem? (i := 6) rfl)) (by decide) (by decide)) (g := (mkF m 172 #[.val (.int p1), .val (.int p2), .val (.int p3), .val (.long q4), .second, .val (.int v4), .val (.int v9), .val (.int cc), .val (.int (1 : Int32)), .val (.ref b2)] [(.int cc), (.int (1 : Int32)), (.ref b2)])) rfl (by rw [hml]; rfl) (argsL := [(.ref b2), (.int (1 : Int32)), (.int cc)]) (rest := []) (lenOf pd_0 rfl) rfl (by show 2 * 0 + _ ≤ _; exact Nat.le_of_eq rfl) (hb hby at_172) (fun _ _ => ⟨rfl, e18, (by decide : 1 + 0 ≤ _), (by decide : 8 + 0 ≤ _)⟩)
        dsimp only [Pt.U, Pt.locs, Pt.cells, Pt.slots] at X35 zl35 zy35 zz35 st35 hQ35
        subst zl35 zy35 zz35
        obtain ⟨rfl, Nq35, Kq35, p35_0⟩ := hQ35
        have N35 := Fr.app N18 Nq35
        refine GoW.st st35 ?_
        have K35 : Keep h0 T35.heap [] := K18.trans Kq35 (allS (Or.inr sz2) all0)
        show GoW p e below QQ (T35.setTop (mkF m 175 #[.val (.int p1), .val (.int p2), .val (.int p3), .val (.long q4), .second, .val (.int v4), .val (.int v9), .val (.int cc), .val (.int (1 : Int32)), .val (.ref b2)] []))
        refine GoW.st (fun t k => XS.aload X35.here hx rfl (hb hby at_175) rfl rfl (XS.iload X35.here hx rfl (hb hby at_177) rfl k)) ?_
        show GoW p e below QQ (T35.setTop (mkF m 179 #[.val (.int p1), .val (.int p2), .val (.int p3), .val (.long q4), .second, .val (.int v4), .val (.int v9), .val (.int cc), .val (.int (1 : Int32)), .val (.ref b2)] [(.int (1 : Int32)), (.ref b2)]))
        obtain ⟨_, _, ⟨T37, zL37, zk37, zn37⟩, -, X37, ⟨Lc37, hQ37, zl37, zy37, zz37⟩, st37⟩ := Jvm.LawKit.callS X35 hx (y := (⟨"com/example/terseform/terseform/Utf8", "codePointAt", "([BI)I"⟩ : MethodName)) hown (mvT hZ (hw _ (List.mem_of_getElem? (i := 9) rfl))) (mvT hZ (hw _ (List.mem_of_getElem? (i := 10) rfl))) (mvT hZ (hw _ (List.mem_of_getElem? (i := 11) rfl))) (mvT hZ (hw _ (List.mem_of_getElem? (i := 12) rfl))) (by decide) (backOf (W := 0) (rm2_12 l Z a0 hw [] b2 k2 (nar .byte ((q4.toInt32).toInt8.toInt32)) (nar .byte (((192 : Int32) + (cc / (64 : Int32))).toInt8.toInt32)) (nar .byte (((128 : Int32) + (cc % (64 : Int32))).toInt8.toInt32)) (nar .byte ((((q4.toUInt64 >>> ((24 : Int32) &&& 0x3f).toInt64.toUInt64).toInt64).toInt32).toInt8.toInt32)) (nar .byte ((((q4.toUInt64 >>> ((32 : Int32) &&& 0x3f).toInt64.toUInt64).toInt64).toInt32).toInt8.toInt32)) (nar .byte ((((q4.toUInt64 >>> ((40 : Int32) &&& 0x3f).toInt64.toUInt64).toInt64).toInt32).toInt8.toInt32)) (nar .byte ((((q4.toUInt64 >>> ((48 : Int32) &&& 0x3f).toInt64.toUInt64).toInt64).toInt32).toInt8.toInt32)) (nar .byte ((((q4.toUInt64 >>> ((56 : Int32) &&& 0x3f).toInt64.toUInt64).toInt64).toInt32).toInt8.toInt32)) T35.heap n0 (Nat.le_trans Z0 K35.1) p35_0 kk.1 kk.2.1) hZ (hw _ (List.mem_of_getElem? (i := 12) rfl)) (hw _ (List.mem_of_getElem? (i := 11) rfl)) (by decide) (by decide)) (g := (mkF m 179 #[.val (.int p1), .val (.int p2), .val (.int p3), .val (.long q4), .second, .val (.int v4), .val (.int v9), .val (.int cc), .val (.int (1 : Int32)), .val (.ref b2)] [(.int (1 : Int32)), (.ref b2)])) rfl (by rw [hml]; rfl) (argsL := [(.ref b2), (.int (1 : Int32))]) (rest := []) (lenOf pd_1 rfl) rfl (by show 2 * 0 + _ ≤ _; exact Nat.le_of_eq rfl) (hb hby at_179) (fun _ _ => ⟨rfl, rfl, (by decide : 1 + 0 ≤ _), (by decide : 8 + 0 ≤ _)⟩)
        dsimp only [Pt.U, Pt.locs, Pt.cells, Pt.slots] at X37 zl37 zy37 zz37 st37 hQ37
        subst zl37 zy37 zz37
        obtain ⟨rfl, Nq37, hh37⟩ := hQ37
        have N37 := Fr.app N35 Nq37
        refine GoW.st st37 ?_
        show GoW p e below QQ (T37.setTop (mkF m 182 #[.val (.int p1), .val (.int p2), .val (.int p3), .val (.long q4), .second, .val (.int v4), .val (.int v9), .val (.int cc), .val (.int (1 : Int32)), .val (.ref b2)] [(.int (((((nar .byte (((192 : Int32) + (cc / (64 : Int32))).toInt8.toInt32)) &&& (255 : Int32)) &&& (31 : Int32)) <<< ((6 : Int32) &&& 31)) ||| ((nar .byte (((128 : Int32) + (cc % (64 : Int32))).toInt8.toInt32)) &&& (63 : Int32))))]))
        refine GoW.st (fun t k => XS.iload X37.here hx rfl (hb hby at_182) rfl k) ?_
        show GoW p e below QQ (T37.setTop (mkF m 184 #[.val (.int p1), .val (.int p2), .val (.int p3), .val (.long q4), .second, .val (.int v4), .val (.int v9), .val (.int cc), .val (.int (1 : Int32)), .val (.ref b2)] [(.int cc), (.int (((((nar .byte (((192 : Int32) + (cc / (64 : Int32))).toInt8.toInt32)) &&& (255 : Int32)) &&& (31 : Int32)) <<< ((6 : Int32) &&& 31)) ||| ((nar .byte (((128 : Int32) + (cc % (64 : Int32))).toInt8.toInt32)) &&& (63 : Int32))))]))
        have hc184 : (((((nar .byte (((192 : Int32) + (cc / (64 : Int32))).toInt8.toInt32)) &&& (255 : Int32)) &&& (31 : Int32)) <<< ((6 : Int32) &&& 31)) ||| ((nar .byte (((128 : Int32) + (cc % (64 : Int32))).toInt8.toInt32)) &&& (63 : Int32))) = cc := by
          exact kk.2.2
        refine GoW.st (fun t k => XS.icmpNo X37.here hx rfl (hb hby at_184) rfl (teq hc184).2 (XS.iconst X37.here hx rfl (hb hby at_187) (XS.goto X37.here hx rfl (pc0 := 188) (pc' := 192) rfl (hb hby at_188) (by decide) (by decide) k))) ?_
        show GoW p e below QQ (T37.setTop (mkF m 192 #[.val (.int p1), .val (.int p2), .val (.int p3), .val (.long q4), .second, .val (.int v4), .val (.int v9), .val (.int cc), .val (.int (1 : Int32)), .val (.ref b2)] [(.int (1 : Int32))]))
        exact GoW.fin X37 (some (.int (nar .boolean (1 : Int32)))) (fun q => by rw [hret] at q; cases q) hlk hQ hh37 ⟨rfl, N37⟩ (by decide) (by decide) (fun fs hr => retN X37 hx (t := .boolean) hret (by simp) (hb hby at_192) hr)
      · skip
        have kk := own_k3 cc hk1 hk2 hk3 hcc.1 hcc.2
        refine GoW.st (fun t k => XS.iload X18.here hx rfl (hb hby at_168) rfl (XS.iload X18.here hx rfl (hb hby at_170) rfl k)) ?_
        show GoW p e below QQ (T18.setTop (mkF m 172 #[.val (.int p1), .val (.int p2), .val (.int p3), .val (.long q4), .second, .val (.int v4), .val (.int v9), .val (.int cc), .val (.int (1 : Int32)), .val (.ref b2)] [(.int cc), (.int (1 : Int32)), (.ref b2)]))
        obtain ⟨_, _, ⟨T38, zL38, zk38, zn38⟩, -, X38, ⟨Lc38, hQ38, zl38, zy38, zz38⟩, st38⟩ := Jvm.LawKit.callS X18 hx (y := (⟨"com/example/terseform/terseform/Utf8CodePointAtPinLaw", "put", "([BII)V"⟩ : MethodName)) hown (mvT hZ (hw _ (List.mem_of_getElem? (i := 4) rfl))) (mvT hZ (hw _ (List.mem_of_getElem? (i := 5) rfl))) (mvT hZ (hw _ (List.mem_of_getElem? (i := 6) rfl))) (mvT hZ (hw _ (List.mem_of_getElem? (i := 7) rfl))) (by decide) (backOf (W := 0) (rm1_13 l Z a0 hw [] b2 k2 cc (nar .byte ((q4.toInt32).toInt8.toInt32)) (nar .byte ((((q4.toUInt64 >>> ((8 : Int32) &&& 0x3f).toInt64.toUInt64).toInt64).toInt32).toInt8.toInt32)) (nar .byte ((((q4.toUInt64 >>> ((16 : Int32) &&& 0x3f).toInt64.toUInt64).toInt64).toInt32).toInt8.toInt32)) (nar .byte ((((q4.toUInt64 >>> ((24 : Int32) &&& 0x3f).toInt64.toUInt64).toInt64).toInt32).toInt8.toInt32)) (nar .byte ((((q4.toUInt64 >>> ((32 : Int32) &&& 0x3f).toInt64.toUInt64).toInt64).toInt32).toInt8.toInt32)) (nar .byte ((((q4.toUInt64 >>> ((40 : Int32) &&& 0x3f).toInt64.toUInt64).toInt64).toInt32).toInt8.toInt32)) (nar .byte ((((q4.toUInt64 >>> ((48 : Int32) &&& 0x3f).toInt64.toUInt64).toInt64).toInt32).toInt8.toInt32)) (nar .byte ((((q4.toUInt64 >>> ((56 : Int32) &&& 0x3f).toInt64.toUInt64).toInt64).toInt32).toInt8.toInt32)) h18 n0 (Nat.le_trans Z0 K18.1) f19_V_b2 gg2 (by assumption) (by assumption) (by assumption)) hZ (hw _ (List.mem_of_getElem? (i := 7) rfl)) (hw _ (List.mem_of_getElem? (i := 6) rfl)) (by decide) (by decide)) (g := (mkF m 172 #[.val (.int p1), .val (.int p2), .val (.int p3), .val (.long q4), .second, .val (.int v4), .val (.int v9), .val (.int cc), .val (.int (1 : Int32)), .val (.ref b2)] [(.int cc), (.int (1 : Int32)), (.ref b2)])) rfl (by rw [hml]; rfl) (argsL := [(.ref b2), (.int (1 : Int32)), (.int cc)]) (rest := []) (lenOf pd_0 rfl) rfl (by show 2 * 0 + _ ≤ _; exact Nat.le_of_eq rfl) (hb hby at_172) (fun _ _ => ⟨rfl, e18, (by decide : 1 + 0 ≤ _), (by decide : 8 + 0 ≤ _)⟩)
        dsimp only [Pt.U, Pt.locs, Pt.cells, Pt.slots] at X38 zl38 zy38 zz38 st38 hQ38
        subst zl38 zy38 zz38
        obtain ⟨rfl, Nq38, Kq38, p38_0⟩ := hQ38
        have N38 := Fr.app N18 Nq38
        refine GoW.st st38 ?_
        have K38 : Keep h0 T38.heap [] := K18.trans Kq38 (allS (Or.inr sz2) all0)
        show GoW p e below QQ (T38.setTop (mkF m 175 #[.val (.int p1), .val (.int p2), .val (.int p3), .val (.long q4), .second, .val (.int v4), .val (.int v9), .val (.int cc), .val (.int (1 : Int32)), .val (.ref b2)] []))
        refine GoW.st (fun t k => XS.aload X38.here hx rfl (hb hby at_175) rfl rfl (XS.iload X38.here hx rfl (hb hby at_177) rfl k)) ?_
        show GoW p e below QQ (T38.setTop (mkF m 179 #[.val (.int p1), .val (.int p2), .val (.int p3), .val (.long q4), .second, .val (.int v4), .val (.int v9), .val (.int cc), .val (.int (1 : Int32)), .val (.ref b2)] [(.int (1 : Int32)), (.ref b2)]))
        obtain ⟨_, _, ⟨T40, zL40, zk40, zn40⟩, -, X40, ⟨Lc40, hQ40, zl40, zy40, zz40⟩, st40⟩ := Jvm.LawKit.callS X38 hx (y := (⟨"com/example/terseform/terseform/Utf8", "codePointAt", "([BI)I"⟩ : MethodName)) hown (mvT hZ (hw _ (List.mem_of_getElem? (i := 9) rfl))) (mvT hZ (hw _ (List.mem_of_getElem? (i := 10) rfl))) (mvT hZ (hw _ (List.mem_of_getElem? (i := 11) rfl))) (mvT hZ (hw _ (List.mem_of_getElem? (i := 12) rfl))) (by decide) (backOf (W := 0) (rm2_13 l Z a0 hw [] b2 k2 (nar .byte ((q4.toInt32).toInt8.toInt32)) (nar .byte (((224 : Int32) + (cc / (4096 : Int32))).toInt8.toInt32)) (nar .byte (((128 : Int32) + ((cc / (64 : Int32)) % (64 : Int32))).toInt8.toInt32)) (nar .byte (((128 : Int32) + (cc % (64 : Int32))).toInt8.toInt32)) (nar .byte ((((q4.toUInt64 >>> ((32 : Int32) &&& 0x3f).toInt64.toUInt64).toInt64).toInt32).toInt8.toInt32)) (nar .byte ((((q4.toUInt64 >>> ((40 : Int32) &&& 0x3f).toInt64.toUInt64).toInt64).toInt32).toInt8.toInt32)) (nar .byte ((((q4.toUInt64 >>> ((48 : Int32) &&& 0x3f).toInt64.toUInt64).toInt64).toInt32).toInt8.toInt32)) (nar .byte ((((q4.toUInt64 >>> ((56 : Int32) &&& 0x3f).toInt64.toUInt64).toInt64).toInt32).toInt8.toInt32)) T38.heap n0 (Nat.le_trans Z0 K38.1) p38_0 kk.1 kk.2.1 kk.2.2.1) hZ (hw _ (List.mem_of_getElem? (i := 12) rfl)) (hw _ (List.mem_of_getElem? (i := 11) rfl)) (by decide) (by decide)) (g := (mkF m 179 #[.val (.int p1), .val (.int p2), .val (.int p3), .val (.long q4), .second, .val (.int v4), .val (.int v9), .val (.int cc), .val (.int (1 : Int32)), .val (.ref b2)] [(.int (1 : Int32)), (.ref b2)])) rfl (by rw [hml]; rfl) (argsL := [(.ref b2), (.int (1 : Int32))]) (rest := []) (lenOf pd_1 rfl) rfl (by show 2 * 0 + _ ≤ _; exact Nat.le_of_eq rfl) (hb hby at_179) (fun _ _ => ⟨rfl, rfl, (by decide : 1 + 0 ≤ _), (by decide : 8 + 0 ≤ _)⟩)
        dsimp only [Pt.U, Pt.locs, Pt.cells, Pt.slots] at X40 zl40 zy40 zz40 st40 hQ40
        subst zl40 zy40 zz40
        obtain ⟨rfl, Nq40, hh40⟩ := hQ40
        have N40 := Fr.app N38 Nq40
        refine GoW.st st40 ?_
        show GoW p e below QQ (T40.setTop (mkF m 182 #[.val (.int p1), .val (.int p2), .val (.int p3), .val (.long q4), .second, .val (.int v4), .val (.int v9), .val (.int cc), .val (.int (1 : Int32)), .val (.ref b2)] [(.int ((((((nar .byte (((224 : Int32) + (cc / (4096 : Int32))).toInt8.toInt32)) &&& (255 : Int32)) &&& (15 : Int32)) <<< ((12 : Int32) &&& 31)) ||| (((nar .byte (((128 : Int32) + ((cc / (64 : Int32)) % (64 : Int32))).toInt8.toInt32)) &&& (63 : Int32)) <<< ((6 : Int32) &&& 31))) ||| ((nar .byte (((128 : Int32) + (cc % (64 : Int32))).toInt8.toInt32)) &&& (63 : Int32))))]))
        refine GoW.st (fun t k => XS.iload X40.here hx rfl (hb hby at_182) rfl k) ?_
        show GoW p e below QQ (T40.setTop (mkF m 184 #[.val (.int p1), .val (.int p2), .val (.int p3), .val (.long q4), .second, .val (.int v4), .val (.int v9), .val (.int cc), .val (.int (1 : Int32)), .val (.ref b2)] [(.int cc), (.int ((((((nar .byte (((224 : Int32) + (cc / (4096 : Int32))).toInt8.toInt32)) &&& (255 : Int32)) &&& (15 : Int32)) <<< ((12 : Int32) &&& 31)) ||| (((nar .byte (((128 : Int32) + ((cc / (64 : Int32)) % (64 : Int32))).toInt8.toInt32)) &&& (63 : Int32)) <<< ((6 : Int32) &&& 31))) ||| ((nar .byte (((128 : Int32) + (cc % (64 : Int32))).toInt8.toInt32)) &&& (63 : Int32))))]))
        have hc184 : ((((((nar .byte (((224 : Int32) + (cc / (4096 : Int32))).toInt8.toInt32)) &&& (255 : Int32)) &&& (15 : Int32)) <<< ((12 : Int32) &&& 31)) ||| (((nar .byte (((128 : Int32) + ((cc / (64 : Int32)) % (64 : Int32))).toInt8.toInt32)) &&& (63 : Int32)) <<< ((6 : Int32) &&& 31))) ||| ((nar .byte (((128 : Int32) + (cc % (64 : Int32))).toInt8.toInt32)) &&& (63 : Int32))) = cc := by
          exact kk.2.2.2
        refine GoW.st (fun t k => XS.icmpNo X40.here hx rfl (hb hby at_184) rfl (teq hc184).2 (XS.iconst X40.here hx rfl (hb hby at_187) (XS.goto X40.here hx rfl (pc0 := 188) (pc' := 192) rfl (hb hby at_188) (by decide) (by decide) k))) ?_
        show GoW p e below QQ (T40.setTop (mkF m 192 #[.val (.int p1), .val (.int p2), .val (.int p3), .val (.long q4), .second, .val (.int v4), .val (.int v9), .val (.int cc), .val (.int (1 : Int32)), .val (.ref b2)] [(.int (1 : Int32))]))
        exact GoW.fin X40 (some (.int (nar .boolean (1 : Int32)))) (fun q => by rw [hret] at q; cases q) hlk hQ hh40 ⟨rfl, N40⟩ (by decide) (by decide) (fun fs hr => retN X40 hx (t := .boolean) hret (by simp) (hb hby at_192) hr)
      · skip
        have kk := own_k4 cc hk1 hk2 hk3 hcc.1 hcc.2
        refine GoW.st (fun t k => XS.iload X18.here hx rfl (hb hby at_168) rfl (XS.iload X18.here hx rfl (hb hby at_170) rfl k)) ?_
        show GoW p e below QQ (T18.setTop (mkF m 172 #[.val (.int p1), .val (.int p2), .val (.int p3), .val (.long q4), .second, .val (.int v4), .val (.int v9), .val (.int cc), .val (.int (1 : Int32)), .val (.ref b2)] [(.int cc), (.int (1 : Int32)), (.ref b2)]))
        obtain ⟨_, _, ⟨T41, zL41, zk41, zn41⟩, -, X41, ⟨Lc41, hQ41, zl41, zy41, zz41⟩, st41⟩ := Jvm.LawKit.callS X18 hx (y := (⟨"com/example/terseform/terseform/Utf8CodePointAtPinLaw", "put", "([BII)V"⟩ : MethodName)) hown (mvT hZ (hw _ (List.mem_of_getElem? (i := 4) rfl))) (mvT hZ (hw _ (List.mem_of_getElem? (i := 5) rfl))) (mvT hZ (hw _ (List.mem_of_getElem? (i := 6) rfl))) (mvT hZ (hw _ (List.mem_of_getElem? (i := 7) rfl))) (by decide) (backOf (W := 0) (rm1_14 l Z a0 hw [] b2 k2 cc (nar .byte ((q4.toInt32).toInt8.toInt32)) (nar .byte ((((q4.toUInt64 >>> ((8 : Int32) &&& 0x3f).toInt64.toUInt64).toInt64).toInt32).toInt8.toInt32)) (nar .byte ((((q4.toUInt64 >>> ((16 : Int32) &&& 0x3f).toInt64.toUInt64).toInt64).toInt32).toInt8.toInt32)) (nar .byte ((((q4.toUInt64 >>> ((24 : Int32) &&& 0x3f).toInt64.toUInt64).toInt64).toInt32).toInt8.toInt32)) (nar .byte ((((q4.toUInt64 >>> ((32 : Int32) &&& 0x3f).toInt64.toUInt64).toInt64).toInt32).toInt8.toInt32)) (nar .byte ((((q4.toUInt64 >>> ((40 : Int32) &&& 0x3f).toInt64.toUInt64).toInt64).toInt32).toInt8.toInt32)) (nar .byte ((((q4.toUInt64 >>> ((48 : Int32) &&& 0x3f).toInt64.toUInt64).toInt64).toInt32).toInt8.toInt32)) (nar .byte ((((q4.toUInt64 >>> ((56 : Int32) &&& 0x3f).toInt64.toUInt64).toInt64).toInt32).toInt8.toInt32)) h18 n0 (Nat.le_trans Z0 K18.1) f19_V_b2 gg2 (by assumption) (by assumption) (by assumption)) hZ (hw _ (List.mem_of_getElem? (i := 7) rfl)) (hw _ (List.mem_of_getElem? (i := 6) rfl)) (by decide) (by decide)) (g := (mkF m 172 #[.val (.int p1), .val (.int p2), .val (.int p3), .val (.long q4), .second, .val (.int v4), .val (.int v9), .val (.int cc), .val (.int (1 : Int32)), .val (.ref b2)] [(.int cc), (.int (1 : Int32)), (.ref b2)])) rfl (by rw [hml]; rfl) (argsL := [(.ref b2), (.int (1 : Int32)), (.int cc)]) (rest := []) (lenOf pd_0 rfl) rfl (by show 2 * 0 + _ ≤ _; exact Nat.le_of_eq rfl) (hb hby at_172) (fun _ _ => ⟨rfl, e18, (by decide : 1 + 0 ≤ _), (by decide : 8 + 0 ≤ _)⟩)
        dsimp only [Pt.U, Pt.locs, Pt.cells, Pt.slots] at X41 zl41 zy41 zz41 st41 hQ41
        subst zl41 zy41 zz41
        obtain ⟨rfl, Nq41, Kq41, p41_0⟩ := hQ41
        have N41 := Fr.app N18 Nq41
        refine GoW.st st41 ?_
        have K41 : Keep h0 T41.heap [] := K18.trans Kq41 (allS (Or.inr sz2) all0)
        show GoW p e below QQ (T41.setTop (mkF m 175 #[.val (.int p1), .val (.int p2), .val (.int p3), .val (.long q4), .second, .val (.int v4), .val (.int v9), .val (.int cc), .val (.int (1 : Int32)), .val (.ref b2)] []))
        refine GoW.st (fun t k => XS.aload X41.here hx rfl (hb hby at_175) rfl rfl (XS.iload X41.here hx rfl (hb hby at_177) rfl k)) ?_
        show GoW p e below QQ (T41.setTop (mkF m 179 #[.val (.int p1), .val (.int p2), .val (.int p3), .val (.long q4), .second, .val (.int v4), .val (.int v9), .val (.int cc), .val (.int (1 : Int32)), .val (.ref b2)] [(.int (1 : Int32)), (.ref b2)]))
        obtain ⟨_, _, ⟨T43, zL43, zk43, zn43⟩, -, X43, ⟨Lc43, hQ43, zl43, zy43, zz43⟩, st43⟩ := Jvm.LawKit.callS X41 hx (y := (⟨"com/example/terseform/terseform/Utf8", "codePointAt", "([BI)I"⟩ : MethodName)) hown (mvT hZ (hw _ (List.mem_of_getElem? (i := 9) rfl))) (mvT hZ (hw _ (List.mem_of_getElem? (i := 10) rfl))) (mvT hZ (hw _ (List.mem_of_getElem? (i := 11) rfl))) (mvT hZ (hw _ (List.mem_of_getElem? (i := 12) rfl))) (by decide) (backOf (W := 0) (rm2_14 l Z a0 hw [] b2 k2 (nar .byte ((q4.toInt32).toInt8.toInt32)) (nar .byte (((240 : Int32) + (cc / (262144 : Int32))).toInt8.toInt32)) (nar .byte (((128 : Int32) + ((cc / (4096 : Int32)) % (64 : Int32))).toInt8.toInt32)) (nar .byte (((128 : Int32) + ((cc / (64 : Int32)) % (64 : Int32))).toInt8.toInt32)) (nar .byte (((128 : Int32) + (cc % (64 : Int32))).toInt8.toInt32)) (nar .byte ((((q4.toUInt64 >>> ((40 : Int32) &&& 0x3f).toInt64.toUInt64).toInt64).toInt32).toInt8.toInt32)) (nar .byte ((((q4.toUInt64 >>> ((48 : Int32) &&& 0x3f).toInt64.toUInt64).toInt64).toInt32).toInt8.toInt32)) (nar .byte ((((q4.toUInt64 >>> ((56 : Int32) &&& 0x3f).toInt64.toUInt64).toInt64).toInt32).toInt8.toInt32)) T41.heap n0 (Nat.le_trans Z0 K41.1) p41_0 kk.1 kk.2.1 kk.2.2.1) hZ (hw _ (List.mem_of_getElem? (i := 12) rfl)) (hw _ (List.mem_of_getElem? (i := 11) rfl)) (by decide) (by decide)) (g := (mkF m 179 #[.val (.int p1), .val (.int p2), .val (.int p3), .val (.long q4), .second, .val (.int v4), .val (.int v9), .val (.int cc), .val (.int (1 : Int32)), .val (.ref b2)] [(.int (1 : Int32)), (.ref b2)])) rfl (by rw [hml]; rfl) (argsL := [(.ref b2), (.int (1 : Int32))]) (rest := []) (lenOf pd_1 rfl) rfl (by show 2 * 0 + _ ≤ _; exact Nat.le_of_eq rfl) (hb hby at_179) (fun _ _ => ⟨rfl, rfl, (by decide : 1 + 0 ≤ _), (by decide : 8 + 0 ≤ _)⟩)
        dsimp only [Pt.U, Pt.locs, Pt.cells, Pt.slots] at X43 zl43 zy43 zz43 st43 hQ43
        subst zl43 zy43 zz43
        obtain ⟨rfl, Nq43, hh43⟩ := hQ43
        have N43 := Fr.app N41 Nq43
        refine GoW.st st43 ?_
        show GoW p e below QQ (T43.setTop (mkF m 182 #[.val (.int p1), .val (.int p2), .val (.int p3), .val (.long q4), .second, .val (.int v4), .val (.int v9), .val (.int cc), .val (.int (1 : Int32)), .val (.ref b2)] [(.int (((((((nar .byte (((240 : Int32) + (cc / (262144 : Int32))).toInt8.toInt32)) &&& (255 : Int32)) &&& (7 : Int32)) <<< ((18 : Int32) &&& 31)) ||| (((nar .byte (((128 : Int32) + ((cc / (4096 : Int32)) % (64 : Int32))).toInt8.toInt32)) &&& (63 : Int32)) <<< ((12 : Int32) &&& 31))) ||| (((nar .byte (((128 : Int32) + ((cc / (64 : Int32)) % (64 : Int32))).toInt8.toInt32)) &&& (63 : Int32)) <<< ((6 : Int32) &&& 31))) ||| ((nar .byte (((128 : Int32) + (cc % (64 : Int32))).toInt8.toInt32)) &&& (63 : Int32))))]))
        refine GoW.st (fun t k => XS.iload X43.here hx rfl (hb hby at_182) rfl k) ?_
        show GoW p e below QQ (T43.setTop (mkF m 184 #[.val (.int p1), .val (.int p2), .val (.int p3), .val (.long q4), .second, .val (.int v4), .val (.int v9), .val (.int cc), .val (.int (1 : Int32)), .val (.ref b2)] [(.int cc), (.int (((((((nar .byte (((240 : Int32) + (cc / (262144 : Int32))).toInt8.toInt32)) &&& (255 : Int32)) &&& (7 : Int32)) <<< ((18 : Int32) &&& 31)) ||| (((nar .byte (((128 : Int32) + ((cc / (4096 : Int32)) % (64 : Int32))).toInt8.toInt32)) &&& (63 : Int32)) <<< ((12 : Int32) &&& 31))) ||| (((nar .byte (((128 : Int32) + ((cc / (64 : Int32)) % (64 : Int32))).toInt8.toInt32)) &&& (63 : Int32)) <<< ((6 : Int32) &&& 31))) ||| ((nar .byte (((128 : Int32) + (cc % (64 : Int32))).toInt8.toInt32)) &&& (63 : Int32))))]))
        have hc184 : (((((((nar .byte (((240 : Int32) + (cc / (262144 : Int32))).toInt8.toInt32)) &&& (255 : Int32)) &&& (7 : Int32)) <<< ((18 : Int32) &&& 31)) ||| (((nar .byte (((128 : Int32) + ((cc / (4096 : Int32)) % (64 : Int32))).toInt8.toInt32)) &&& (63 : Int32)) <<< ((12 : Int32) &&& 31))) ||| (((nar .byte (((128 : Int32) + ((cc / (64 : Int32)) % (64 : Int32))).toInt8.toInt32)) &&& (63 : Int32)) <<< ((6 : Int32) &&& 31))) ||| ((nar .byte (((128 : Int32) + (cc % (64 : Int32))).toInt8.toInt32)) &&& (63 : Int32))) = cc := by
          exact kk.2.2.2
        refine GoW.st (fun t k => XS.icmpNo X43.here hx rfl (hb hby at_184) rfl (teq hc184).2 (XS.iconst X43.here hx rfl (hb hby at_187) (XS.goto X43.here hx rfl (pc0 := 188) (pc' := 192) rfl (hb hby at_188) (by decide) (by decide) k))) ?_
        show GoW p e below QQ (T43.setTop (mkF m 192 #[.val (.int p1), .val (.int p2), .val (.int p3), .val (.long q4), .second, .val (.int v4), .val (.int v9), .val (.int cc), .val (.int (1 : Int32)), .val (.ref b2)] [(.int (1 : Int32))]))
        exact GoW.fin X43 (some (.int (nar .boolean (1 : Int32)))) (fun q => by rw [hret] at q; cases q) hlk hQ hh43 ⟨rfl, N43⟩ (by decide) (by decide) (fun fs hr => retN X43 hx (t := .boolean) hret (by simp) (hb hby at_192) hr)
    · skip
      show GoW p e below QQ (T18.setTop (mkF m 166 #[.val (.int p1), .val (.int p2), .val (.int p3), .val (.long q4), .second, .val (.int v4), .val (.int v9), .val (.int cc), .val (.int (2 : Int32)), .val (.ref b2)] []))
      refine GoW.st (fun t k => XS.aload X18.here hx rfl (hb hby at_166) rfl rfl k) ?_
      show GoW p e below QQ (T18.setTop (mkF m 168 #[.val (.int p1), .val (.int p2), .val (.int p3), .val (.long q4), .second, .val (.int v4), .val (.int v9), .val (.int cc), .val (.int (2 : Int32)), .val (.ref b2)] [(.ref b2)]))
      rcases own_cls cc with hk1 | ⟨hk1, hk2⟩ | ⟨hk1, hk2, hk3⟩ | ⟨hk1, hk2, hk3⟩
      · skip
        have kk := own_k1 cc hk1 hcc.1 hcc.2
        refine GoW.st (fun t k => XS.iload X18.here hx rfl (hb hby at_168) rfl (XS.iload X18.here hx rfl (hb hby at_170) rfl k)) ?_
        show GoW p e below QQ (T18.setTop (mkF m 172 #[.val (.int p1), .val (.int p2), .val (.int p3), .val (.long q4), .second, .val (.int v4), .val (.int v9), .val (.int cc), .val (.int (2 : Int32)), .val (.ref b2)] [(.int cc), (.int (2 : Int32)), (.ref b2)]))
        obtain ⟨_, _, ⟨T44, zL44, zk44, zn44⟩, -, X44, ⟨Lc44, hQ44, zl44, zy44, zz44⟩, st44⟩ := Jvm.LawKit.callS X18 hx (y := (⟨"com/example/terseform/terseform/Utf8CodePointAtPinLaw", "put", "([BII)V"⟩ : MethodName)) hown (mvT hZ (hw _ (List.mem_of_getElem? (i := 4) rfl))) (mvT hZ (hw _ (List.mem_of_getElem? (i := 5) rfl))) (mvT hZ (hw _ (List.mem_of_getElem? (i := 6) rfl))) (mvT hZ (hw _ (List.mem_of_getElem? (i := 7) rfl))) (by decide) (backOf (W := 0) (rm1_21 l Z a0 hw [] b2 k2 cc (nar .byte ((q4.toInt32).toInt8.toInt32)) (nar .byte ((((q4.toUInt64 >>> ((8 : Int32) &&& 0x3f).toInt64.toUInt64).toInt64).toInt32).toInt8.toInt32)) (nar .byte ((((q4.toUInt64 >>> ((16 : Int32) &&& 0x3f).toInt64.toUInt64).toInt64).toInt32).toInt8.toInt32)) (nar .byte ((((q4.toUInt64 >>> ((24 : Int32) &&& 0x3f).toInt64.toUInt64).toInt64).toInt32).toInt8.toInt32)) (nar .byte ((((q4.toUInt64 >>> ((32 : Int32) &&& 0x3f).toInt64.toUInt64).toInt64).toInt32).toInt8.toInt32)) (nar .byte ((((q4.toUInt64 >>> ((40 : Int32) &&& 0x3f).toInt64.toUInt64).toInt64).toInt32).toInt8.toInt32)) (nar .byte ((((q4.toUInt64 >>> ((48 : Int32) &&& 0x3f).toInt64.toUInt64).toInt64).toInt32).toInt8.toInt32)) (nar .byte ((((q4.toUInt64 >>> ((56 : Int32) &&& 0x3f).toInt64.toUInt64).toInt64).toInt32).toInt8.toInt32)) h18 n0 (Nat.le_trans Z0 K18.1) f19_V_b2 gg2 (by assumption)) hZ (hw _ (List.mem_of_getElem? (i := 7) rfl)) (hw _ (List.mem_of_getElem? (i := 6) rfl)) (by decide) (by decide)) (g := (mkF m 172 #[.val (.int p1), .val (.int p2), .val (.int p3), .val (.long q4), .second, .val (.int v4), .val (.int v9), .val (.int cc), .val (.int (2 : Int32)), .val (.ref b2)] [(.int cc), (.int (2 : Int32)), (.ref b2)])) rfl (by rw [hml]; rfl) (argsL := [(.ref b2), (.int (2 : Int32)), (.int cc)]) (rest := []) (lenOf pd_0 rfl) rfl (by show 2 * 0 + _ ≤ _; exact Nat.le_of_eq rfl) (hb hby at_172) (fun _ _ => ⟨rfl, e18, (by decide : 1 + 0 ≤ _), (by decide : 8 + 0 ≤ _)⟩)
        dsimp only [Pt.U, Pt.locs, Pt.cells, Pt.slots] at X44 zl44 zy44 zz44 st44 hQ44
        subst zl44 zy44 zz44
        obtain ⟨rfl, Nq44, Kq44, p44_0⟩ := hQ44
        have N44 := Fr.app N18 Nq44
        refine GoW.st st44 ?_
        have K44 : Keep h0 T44.heap [] := K18.trans Kq44 (allS (Or.inr sz2) all0)
        show GoW p e below QQ (T44.setTop (mkF m 175 #[.val (.int p1), .val (.int p2), .val (.int p3), .val (.long q4), .second, .val (.int v4), .val (.int v9), .val (.int cc), .val (.int (2 : Int32)), .val (.ref b2)] []))
        refine GoW.st (fun t k => XS.aload X44.here hx rfl (hb hby at_175) rfl rfl (XS.iload X44.here hx rfl (hb hby at_177) rfl k)) ?_
        show GoW p e below QQ (T44.setTop (mkF m 179 #[.val (.int p1), .val (.int p2), .val (.int p3), .val (.long q4), .second, .val (.int v4), .val (.int v9), .val (.int cc), .val (.int (2 : Int32)), .val (.ref b2)] [(.int (2 : Int32)), (.ref b2)]))
        obtain ⟨_, _, ⟨T46, zL46, zk46, zn46⟩, -, X46, ⟨Lc46, hQ46, zl46, zy46, zz46⟩, st46⟩ := Jvm.LawKit.callS X44 hx (y := (⟨"com/example/terseform/terseform/Utf8", "codePointAt", "([BI)I"⟩ : MethodName)) hown (mvT hZ (hw _ (List.mem_of_getElem? (i := 9) rfl))) (mvT hZ (hw _ (List.mem_of_getElem? (i := 10) rfl))) (mvT hZ (hw _ (List.mem_of_getElem? (i := 11) rfl))) (mvT hZ (hw _ (List.mem_of_getElem? (i := 12) rfl))) (by decide) (backOf (W := 0) (rm2_21 l Z a0 hw [] b2 k2 (nar .byte ((q4.toInt32).toInt8.toInt32)) (nar .byte ((((q4.toUInt64 >>> ((8 : Int32) &&& 0x3f).toInt64.toUInt64).toInt64).toInt32).toInt8.toInt32)) (nar .byte (cc.toInt8.toInt32)) (nar .byte ((((q4.toUInt64 >>> ((24 : Int32) &&& 0x3f).toInt64.toUInt64).toInt64).toInt32).toInt8.toInt32)) (nar .byte ((((q4.toUInt64 >>> ((32 : Int32) &&& 0x3f).toInt64.toUInt64).toInt64).toInt32).toInt8.toInt32)) (nar .byte ((((q4.toUInt64 >>> ((40 : Int32) &&& 0x3f).toInt64.toUInt64).toInt64).toInt32).toInt8.toInt32)) (nar .byte ((((q4.toUInt64 >>> ((48 : Int32) &&& 0x3f).toInt64.toUInt64).toInt64).toInt32).toInt8.toInt32)) (nar .byte ((((q4.toUInt64 >>> ((56 : Int32) &&& 0x3f).toInt64.toUInt64).toInt64).toInt32).toInt8.toInt32)) T44.heap n0 (Nat.le_trans Z0 K44.1) p44_0 kk.1) hZ (hw _ (List.mem_of_getElem? (i := 12) rfl)) (hw _ (List.mem_of_getElem? (i := 11) rfl)) (by decide) (by decide)) (g := (mkF m 179 #[.val (.int p1), .val (.int p2), .val (.int p3), .val (.long q4), .second, .val (.int v4), .val (.int v9), .val (.int cc), .val (.int (2 : Int32)), .val (.ref b2)] [(.int (2 : Int32)), (.ref b2)])) rfl (by rw [hml]; rfl) (argsL := [(.ref b2), (.int (2 : Int32))]) (rest := []) (lenOf pd_1 rfl) rfl (by show 2 * 0 + _ ≤ _; exact Nat.le_of_eq rfl) (hb hby at_179) (fun _ _ => ⟨rfl, rfl, (by decide : 1 + 0 ≤ _), (by decide : 8 + 0 ≤ _)⟩)
        dsimp only [Pt.U, Pt.locs, Pt.cells, Pt.slots] at X46 zl46 zy46 zz46 st46 hQ46
        subst zl46 zy46 zz46
        obtain ⟨rfl, Nq46, hh46⟩ := hQ46
        have N46 := Fr.app N44 Nq46
        refine GoW.st st46 ?_
        show GoW p e below QQ (T46.setTop (mkF m 182 #[.val (.int p1), .val (.int p2), .val (.int p3), .val (.long q4), .second, .val (.int v4), .val (.int v9), .val (.int cc), .val (.int (2 : Int32)), .val (.ref b2)] [(.int ((nar .byte (cc.toInt8.toInt32)) &&& (255 : Int32)))]))
        refine GoW.st (fun t k => XS.iload X46.here hx rfl (hb hby at_182) rfl k) ?_
        show GoW p e below QQ (T46.setTop (mkF m 184 #[.val (.int p1), .val (.int p2), .val (.int p3), .val (.long q4), .second, .val (.int v4), .val (.int v9), .val (.int cc), .val (.int (2 : Int32)), .val (.ref b2)] [(.int cc), (.int ((nar .byte (cc.toInt8.toInt32)) &&& (255 : Int32)))]))
        have hc184 : ((nar .byte (cc.toInt8.toInt32)) &&& (255 : Int32)) = cc := by
          exact kk.2
        refine GoW.st (fun t k => XS.icmpNo X46.here hx rfl (hb hby at_184) rfl (teq hc184).2 (XS.iconst X46.here hx rfl (hb hby at_187) (XS.goto X46.here hx rfl (pc0 := 188) (pc' := 192) rfl (hb hby at_188) (by decide) (by decide) k))) ?_
        show GoW p e below QQ (T46.setTop (mkF m 192 #[.val (.int p1), .val (.int p2), .val (.int p3), .val (.long q4), .second, .val (.int v4), .val (.int v9), .val (.int cc), .val (.int (2 : Int32)), .val (.ref b2)] [(.int (1 : Int32))]))
        exact GoW.fin X46 (some (.int (nar .boolean (1 : Int32)))) (fun q => by rw [hret] at q; cases q) hlk hQ hh46 ⟨rfl, N46⟩ (by decide) (by decide) (fun fs hr => retN X46 hx (t := .boolean) hret (by simp) (hb hby at_192) hr)
      · skip
        have kk := own_k2 cc hk1 hk2 hcc.1 hcc.2
        refine GoW.st (fun t k => XS.iload X18.here hx rfl (hb hby at_168) rfl (XS.iload X18.here hx rfl (hb hby at_170) rfl k)) ?_
        show GoW p e below QQ (T18.setTop (mkF m 172 #[.val (.int p1), .val (.int p2), .val (.int p3), .val (.long q4), .second, .val (.int v4), .val (.int v9), .val (.int cc), .val (.int (2 : Int32)), .val (.ref b2)] [(.int cc), (.int (2 : Int32)), (.ref b2)]))
        obtain ⟨_, _, ⟨T47, zL47, zk47, zn47⟩, -, X47, ⟨Lc47, hQ47, zl47, zy47, zz47⟩, st47⟩ := Jvm.LawKit.callS X18 hx (y := (⟨"com/example/terseform/terseform/Utf8CodePointAtPinLaw", "put", "([BII)V"⟩ : MethodName)) hown (mvT hZ (hw _ (List.mem_of_getElem? (i := 4) rfl))) (mvT hZ (hw _ (List.mem_of_getElem? (i := 5) rfl))) (mvT hZ (hw _ (List.mem_of_getElem? (i := 6) rfl))) (mvT hZ (hw _ (List.mem_of_getElem? (i := 7) rfl))) (by decide) (backOf (W := 0) (rm1_22 l Z a0 hw [] b2 k2 cc (nar .byte ((q4.toInt32).toInt8.toInt32)) (nar .byte ((((q4.toUInt64 >>> ((8 : Int32) &&& 0x3f).toInt64.toUInt64).toInt64).toInt32).toInt8.toInt32)) (nar .byte ((((q4.toUInt64 >>> ((16 : Int32) &&& 0x3f).toInt64.toUInt64).toInt64).toInt32).toInt8.toInt32)) (nar .byte ((((q4.toUInt64 >>> ((24 : Int32) &&& 0x3f).toInt64.toUInt64).toInt64).toInt32).toInt8.toInt32)) (nar .byte ((((q4.toUInt64 >>> ((32 : Int32) &&& 0x3f).toInt64.toUInt64).toInt64).toInt32).toInt8.toInt32)) (nar .byte ((((q4.toUInt64 >>> ((40 : Int32) &&& 0x3f).toInt64.toUInt64).toInt64).toInt32).toInt8.toInt32)) (nar .byte ((((q4.toUInt64 >>> ((48 : Int32) &&& 0x3f).toInt64.toUInt64).toInt64).toInt32).toInt8.toInt32)) (nar .byte ((((q4.toUInt64 >>> ((56 : Int32) &&& 0x3f).toInt64.toUInt64).toInt64).toInt32).toInt8.toInt32)) h18 n0 (Nat.le_trans Z0 K18.1) f19_V_b2 gg2 (by assumption) (by assumption)) hZ (hw _ (List.mem_of_getElem? (i := 7) rfl)) (hw _ (List.mem_of_getElem? (i := 6) rfl)) (by decide) (by decide)) (g := (mkF m 172 #[.val (.int p1), .val (.int p2), .val (.int p3), .val (.long q4), .second, .val (.int v4), .val (.int v9), .val (.int cc), .val (.int (2 : Int32)), .val (.ref b2)] [(.int cc), (.int (2 : Int32)), (.ref b2)])) rfl (by rw [hml]; rfl) (argsL := [(.ref b2), (.int (2 : Int32)), (.int cc)]) (rest := []) (lenOf pd_0 rfl) rfl (by show 2 * 0 + _ ≤ _; exact Nat.le_of_eq rfl) (hb hby at_172) (fun _ _ => ⟨rfl, e18, (by decide : 1 + 0 ≤ _), (by decide : 8 + 0 ≤ _)⟩)
        dsimp only [Pt.U, Pt.locs, Pt.cells, Pt.slots] at X47 zl47 zy47 zz47 st47 hQ47
        subst zl47 zy47 zz47
        obtain ⟨rfl, Nq47, Kq47, p47_0⟩ := hQ47
        have N47 := Fr.app N18 Nq47
        refine GoW.st st47 ?_
        have K47 : Keep h0 T47.heap [] := K18.trans Kq47 (allS (Or.inr sz2) all0)
        show GoW p e below QQ (T47.setTop (mkF m 175 #[.val (.int p1), .val (.int p2), .val (.int p3), .val (.long q4), .second, .val (.int v4), .val (.int v9), .val (.int cc), .val (.int (2 : Int32)), .val (.ref b2)] []))
        refine GoW.st (fun t k => XS.aload X47.here hx rfl (hb hby at_175) rfl rfl (XS.iload X47.here hx rfl (hb hby at_177) rfl k)) ?_
        show GoW p e below QQ (T47.setTop (mkF m 179 #[.val (.int p1), .val (.int p2), .val (.int p3), .val (.long q4), .second, .val (.int v4), .val (.int v9), .val (.int cc), .val (.int (2 : Int32)), .val (.ref b2)] [(.int (2 : Int32)), (.ref b2)]))
        obtain ⟨_, _, ⟨T49, zL49, zk49, zn49⟩, -, X49, ⟨Lc49, hQ49, zl49, zy49, zz49⟩, st49⟩ := Jvm.LawKit.callS X47 hx (y := (⟨"com/example/terseform/terseform/Utf8", "codePointAt", "([BI)I"⟩ : MethodName)) hown (mvT hZ (hw _ (List.mem_of_getElem? (i := 9) rfl))) (mvT hZ (hw _ (List.mem_of_getElem? (i := 10) rfl))) (mvT hZ (hw _ (List.mem_of_getElem? (i := 11) rfl))) (mvT hZ (hw _ (List.mem_of_getElem? (i := 12) rfl))) (by decide) (backOf (W := 0) (rm2_22 l Z a0 hw [] b2 k2 (nar .byte ((q4.toInt32).toInt8.toInt32)) (nar .byte ((((q4.toUInt64 >>> ((8 : Int32) &&& 0x3f).toInt64.toUInt64).toInt64).toInt32).toInt8.toInt32)) (nar .byte (((192 : Int32) + (cc / (64 : Int32))).toInt8.toInt32)) (nar .byte (((128 : Int32) + (cc % (64 : Int32))).toInt8.toInt32)) (nar .byte ((((q4.toUInt64 >>> ((32 : Int32) &&& 0x3f).toInt64.toUInt64).toInt64).toInt32).toInt8.toInt32)) (nar .byte ((((q4.toUInt64 >>> ((40 : Int32) &&& 0x3f).toInt64.toUInt64).toInt64).toInt32).toInt8.toInt32)) (nar .byte ((((q4.toUInt64 >>> ((48 : Int32) &&& 0x3f).toInt64.toUInt64).toInt64).toInt32).toInt8.toInt32)) (nar .byte ((((q4.toUInt64 >>> ((56 : Int32) &&& 0x3f).toInt64.toUInt64).toInt64).toInt32).toInt8.toInt32)) T47.heap n0 (Nat.le_trans Z0 K47.1) p47_0 kk.1 kk.2.1) hZ (hw _ (List.mem_of_getElem? (i := 12) rfl)) (hw _ (List.mem_of_getElem? (i := 11) rfl)) (by decide) (by decide)) (g := (mkF m 179 #[.val (.int p1), .val (.int p2), .val (.int p3), .val (.long q4), .second, .val (.int v4), .val (.int v9), .val (.int cc), .val (.int (2 : Int32)), .val (.ref b2)] [(.int (2 : Int32)), (.ref b2)])) rfl (by rw [hml]; rfl) (argsL := [(.ref b2), (.int (2 : Int32))]) (rest := []) (lenOf pd_1 rfl) rfl (by show 2 * 0 + _ ≤ _; exact Nat.le_of_eq rfl) (hb hby at_179) (fun _ _ => ⟨rfl, rfl, (by decide : 1 + 0 ≤ _), (by decide : 8 + 0 ≤ _)⟩)
        dsimp only [Pt.U, Pt.locs, Pt.cells, Pt.slots] at X49 zl49 zy49 zz49 st49 hQ49
        subst zl49 zy49 zz49
        obtain ⟨rfl, Nq49, hh49⟩ := hQ49
        have N49 := Fr.app N47 Nq49
        refine GoW.st st49 ?_
        show GoW p e below QQ (T49.setTop (mkF m 182 #[.val (.int p1), .val (.int p2), .val (.int p3), .val (.long q4), .second, .val (.int v4), .val (.int v9), .val (.int cc), .val (.int (2 : Int32)), .val (.ref b2)] [(.int (((((nar .byte (((192 : Int32) + (cc / (64 : Int32))).toInt8.toInt32)) &&& (255 : Int32)) &&& (31 : Int32)) <<< ((6 : Int32) &&& 31)) ||| ((nar .byte (((128 : Int32) + (cc % (64 : Int32))).toInt8.toInt32)) &&& (63 : Int32))))]))
        refine GoW.st (fun t k => XS.iload X49.here hx rfl (hb hby at_182) rfl k) ?_
        show GoW p e below QQ (T49.setTop (mkF m 184 #[.val (.int p1), .val (.int p2), .val (.int p3), .val (.long q4), .second, .val (.int v4), .val (.int v9), .val (.int cc), .val (.int (2 : Int32)), .val (.ref b2)] [(.int cc), (.int (((((nar .byte (((192 : Int32) + (cc / (64 : Int32))).toInt8.toInt32)) &&& (255 : Int32)) &&& (31 : Int32)) <<< ((6 : Int32) &&& 31)) ||| ((nar .byte (((128 : Int32) + (cc % (64 : Int32))).toInt8.toInt32)) &&& (63 : Int32))))]))
        have hc184 : (((((nar .byte (((192 : Int32) + (cc / (64 : Int32))).toInt8.toInt32)) &&& (255 : Int32)) &&& (31 : Int32)) <<< ((6 : Int32) &&& 31)) ||| ((nar .byte (((128 : Int32) + (cc % (64 : Int32))).toInt8.toInt32)) &&& (63 : Int32))) = cc := by
          exact kk.2.2
        refine GoW.st (fun t k => XS.icmpNo X49.here hx rfl (hb hby at_184) rfl (teq hc184).2 (XS.iconst X49.here hx rfl (hb hby at_187) (XS.goto X49.here hx rfl (pc0 := 188) (pc' := 192) rfl (hb hby at_188) (by decide) (by decide) k))) ?_
        show GoW p e below QQ (T49.setTop (mkF m 192 #[.val (.int p1), .val (.int p2), .val (.int p3), .val (.long q4), .second, .val (.int v4), .val (.int v9), .val (.int cc), .val (.int (2 : Int32)), .val (.ref b2)] [(.int (1 : Int32))]))
        exact GoW.fin X49 (some (.int (nar .boolean (1 : Int32)))) (fun q => by rw [hret] at q; cases q) hlk hQ hh49 ⟨rfl, N49⟩ (by decide) (by decide) (fun fs hr => retN X49 hx (t := .boolean) hret (by simp) (hb hby at_192) hr)
      · skip
        have kk := own_k3 cc hk1 hk2 hk3 hcc.1 hcc.2
        refine GoW.st (fun t k => XS.iload X18.here hx rfl (hb hby at_168) rfl (XS.iload X18.here hx rfl (hb hby at_170) rfl k)) ?_
        show GoW p e below QQ (T18.setTop (mkF m 172 #[.val (.int p1), .val (.int p2), .val (.int p3), .val (.long q4), .second, .val (.int v4), .val (.int v9), .val (.int cc), .val (.int (2 : Int32)), .val (.ref b2)] [(.int cc), (.int (2 : Int32)), (.ref b2)]))
        obtain ⟨_, _, ⟨T50, zL50, zk50, zn50⟩, -, X50, ⟨Lc50, hQ50, zl50, zy50, zz50⟩, st50⟩ := Jvm.LawKit.callS X18 hx (y := (⟨"com/example/terseform/terseform/Utf8CodePointAtPinLaw", "put", "([BII)V"⟩ : MethodName)) hown (mvT hZ (hw _ (List.mem_of_getElem? (i := 4) rfl))) (mvT hZ (hw _ (List.mem_of_getElem? (i := 5) rfl))) (mvT hZ (hw _ (List.mem_of_getElem? (i := 6) rfl))) (mvT hZ (hw _ (List.mem_of_getElem? (i := 7) rfl))) (by decide) (backOf (W := 0) (rm1_23 l Z a0 hw [] b2 k2 cc (nar .byte ((q4.toInt32).toInt8.toInt32)) (nar .byte ((((q4.toUInt64 >>> ((8 : Int32) &&& 0x3f).toInt64.toUInt64).toInt64).toInt32).toInt8.toInt32)) (nar .byte ((((q4.toUInt64 >>> ((16 : Int32) &&& 0x3f).toInt64.toUInt64).toInt64).toInt32).toInt8.toInt32)) (nar .byte ((((q4.toUInt64 >>> ((24 : Int32) &&& 0x3f).toInt64.toUInt64).toInt64).toInt32).toInt8.toInt32)) (nar .byte ((((q4.toUInt64 >>> ((32 : Int32) &&& 0x3f).toInt64.toUInt64).toInt64).toInt32).toInt8.toInt32)) (nar .byte ((((q4.toUInt64 >>> ((40 : Int32) &&& 0x3f).toInt64.toUInt64).toInt64).toInt32).toInt8.toInt32)) (nar .byte ((((q4.toUInt64 >>> ((48 : Int32) &&& 0x3f).toInt64.toUInt64).toInt64).toInt32).toInt8.toInt32)) (nar .byte ((((q4.toUInt64 >>> ((56 : Int32) &&& 0x3f).toInt64.toUInt64).toInt64).toInt32).toInt8.toInt32)) h18 n0 (Nat.le_trans Z0 K18.1) f19_V_b2 gg2 (by assumption) (by assumption) (by assumption)) hZ (hw _ (List.mem_of_getElem? (i := 7) rfl)) (hw _ (List.mem_of_getElem? (i := 6) rfl)) (by decide) (by decide)) (g := (mkF m 172 #[.val (.int p1), .val (.int p2), .val (.int p3), .val (.long q4), .second, .val (.int v4), .val (.int v9), .val (.int cc), .val (.int (2 : Int32)), .val (.ref b2)] [(.int cc), (.int (2 : Int32)), (.ref b2)])) rfl (by rw [hml]; rfl) (argsL := [(.ref b2), (.int (2 : Int32)), (.int cc)]) (rest := []) (lenOf pd_0 rfl) rfl (by show 2 * 0 + _ ≤ _; exact Nat.le_of_eq rfl) (hb hby at_172) (fun _ _ => ⟨rfl, e18, (by decide : 1 + 0 ≤ _), (by decide : 8 + 0 ≤ _)⟩)
        dsimp only [Pt.U, Pt.locs, Pt.cells, Pt.slots] at X50 zl50 zy50 zz50 st50 hQ50
        subst zl50 zy50 zz50
        obtain ⟨rfl, Nq50, Kq50, p50_0⟩ := hQ50
        have N50 := Fr.app N18 Nq50
        refine GoW.st st50 ?_
        have K50 : Keep h0 T50.heap [] := K18.trans Kq50 (allS (Or.inr sz2) all0)
        show GoW p e below QQ (T50.setTop (mkF m 175 #[.val (.int p1), .val (.int p2), .val (.int p3), .val (.long q4), .second, .val (.int v4), .val (.int v9), .val (.int cc), .val (.int (2 : Int32)), .val (.ref b2)] []))
        refine GoW.st (fun t k => XS.aload X50.here hx rfl (hb hby at_175) rfl rfl (XS.iload X50.here hx rfl (hb hby at_177) rfl k)) ?_
        show GoW p e below QQ (T50.setTop (mkF m 179 #[.val (.int p1), .val (.int p2), .val (.int p3), .val (.long q4), .second, .val (.int v4), .val (.int v9), .val (.int cc), .val (.int (2 : Int32)), .val (.ref b2)] [(.int (2 : Int32)), (.ref b2)]))
        obtain ⟨_, _, ⟨T52, zL52, zk52, zn52⟩, -, X52, ⟨Lc52, hQ52, zl52, zy52, zz52⟩, st52⟩ := Jvm.LawKit.callS X50 hx (y := (⟨"com/example/terseform/terseform/Utf8", "codePointAt", "([BI)I"⟩ : MethodName)) hown (mvT hZ (hw _ (List.mem_of_getElem? (i := 9) rfl))) (mvT hZ (hw _ (List.mem_of_getElem? (i := 10) rfl))) (mvT hZ (hw _ (List.mem_of_getElem? (i := 11) rfl))) (mvT hZ (hw _ (List.mem_of_getElem? (i := 12) rfl))) (by decide) (backOf (W := 0) (rm2_23 l Z a0 hw [] b2 k2 (nar .byte ((q4.toInt32).toInt8.toInt32)) (nar .byte ((((q4.toUInt64 >>> ((8 : Int32) &&& 0x3f).toInt64.toUInt64).toInt64).toInt32).toInt8.toInt32)) (nar .byte (((224 : Int32) + (cc / (4096 : Int32))).toInt8.toInt32)) (nar .byte (((128 : Int32) + ((cc / (64 : Int32)) % (64 : Int32))).toInt8.toInt32)) (nar .byte (((128 : Int32) + (cc % (64 : Int32))).toInt8.toInt32)) (nar .byte ((((q4.toUInt64 >>> ((40 : Int32) &&& 0x3f).toInt64.toUInt64).toInt64).toInt32).toInt8.toInt32)) (nar .byte ((((q4.toUInt64 >>> ((48 : Int32) &&& 0x3f).toInt64.toUInt64).toInt64).toInt32).toInt8.toInt32)) (nar .byte ((((q4.toUInt64 >>> ((56 : Int32) &&& 0x3f).toInt64.toUInt64).toInt64).toInt32).toInt8.toInt32)) T50.heap n0 (Nat.le_trans Z0 K50.1) p50_0 kk.1 kk.2.1 kk.2.2.1) hZ (hw _ (List.mem_of_getElem? (i := 12) rfl)) (hw _ (List.mem_of_getElem? (i := 11) rfl)) (by decide) (by decide)) (g := (mkF m 179 #[.val (.int p1), .val (.int p2), .val (.int p3), .val (.long q4), .second, .val (.int v4), .val (.int v9), .val (.int cc), .val (.int (2 : Int32)), .val (.ref b2)] [(.int (2 : Int32)), (.ref b2)])) rfl (by rw [hml]; rfl) (argsL := [(.ref b2), (.int (2 : Int32))]) (rest := []) (lenOf pd_1 rfl) rfl (by show 2 * 0 + _ ≤ _; exact Nat.le_of_eq rfl) (hb hby at_179) (fun _ _ => ⟨rfl, rfl, (by decide : 1 + 0 ≤ _), (by decide : 8 + 0 ≤ _)⟩)
        dsimp only [Pt.U, Pt.locs, Pt.cells, Pt.slots] at X52 zl52 zy52 zz52 st52 hQ52
        subst zl52 zy52 zz52
        obtain ⟨rfl, Nq52, hh52⟩ := hQ52
        have N52 := Fr.app N50 Nq52
        refine GoW.st st52 ?_
        show GoW p e below QQ (T52.setTop (mkF m 182 #[.val (.int p1), .val (.int p2), .val (.int p3), .val (.long q4), .second, .val (.int v4), .val (.int v9), .val (.int cc), .val (.int (2 : Int32)), .val (.ref b2)] [(.int ((((((nar .byte (((224 : Int32) + (cc / (4096 : Int32))).toInt8.toInt32)) &&& (255 : Int32)) &&& (15 : Int32)) <<< ((12 : Int32) &&& 31)) ||| (((nar .byte (((128 : Int32) + ((cc / (64 : Int32)) % (64 : Int32))).toInt8.toInt32)) &&& (63 : Int32)) <<< ((6 : Int32) &&& 31))) ||| ((nar .byte (((128 : Int32) + (cc % (64 : Int32))).toInt8.toInt32)) &&& (63 : Int32))))]))
        refine GoW.st (fun t k => XS.iload X52.here hx rfl (hb hby at_182) rfl k) ?_
        show GoW p e below QQ (T52.setTop (mkF m 184 #[.val (.int p1), .val (.int p2), .val (.int p3), .val (.long q4), .second, .val (.int v4), .val (.int v9), .val (.int cc), .val (.int (2 : Int32)), .val (.ref b2)] [(.int cc), (.int ((((((nar .byte (((224 : Int32) + (cc / (4096 : Int32))).toInt8.toInt32)) &&& (255 : Int32)) &&& (15 : Int32)) <<< ((12 : Int32) &&& 31)) ||| (((nar .byte (((128 : Int32) + ((cc / (64 : Int32)) % (64 : Int32))).toInt8.toInt32)) &&& (63 : Int32)) <<< ((6 : Int32) &&& 31))) ||| ((nar .byte (((128 : Int32) + (cc % (64 : Int32))).toInt8.toInt32)) &&& (63 : Int32))))]))
        have hc184 : ((((((nar .byte (((224 : Int32) + (cc / (4096 : Int32))).toInt8.toInt32)) &&& (255 : Int32)) &&& (15 : Int32)) <<< ((12 : Int32) &&& 31)) ||| (((nar .byte (((128 : Int32) + ((cc / (64 : Int32)) % (64 : Int32))).toInt8.toInt32)) &&& (63 : Int32)) <<< ((6 : Int32) &&& 31))) ||| ((nar .byte (((128 : Int32) + (cc % (64 : Int32))).toInt8.toInt32)) &&& (63 : Int32))) = cc := by
          exact kk.2.2.2
        refine GoW.st (fun t k => XS.icmpNo X52.here hx rfl (hb hby at_184) rfl (teq hc184).2 (XS.iconst X52.here hx rfl (hb hby at_187) (XS.goto X52.here hx rfl (pc0 := 188) (pc' := 192) rfl (hb hby at_188) (by decide) (by decide) k))) ?_
        show GoW p e below QQ (T52.setTop (mkF m 192 #[.val (.int p1), .val (.int p2), .val (.int p3), .val (.long q4), .second, .val (.int v4), .val (.int v9), .val (.int cc), .val (.int (2 : Int32)), .val (.ref b2)] [(.int (1 : Int32))]))
        exact GoW.fin X52 (some (.int (nar .boolean (1 : Int32)))) (fun q => by rw [hret] at q; cases q) hlk hQ hh52 ⟨rfl, N52⟩ (by decide) (by decide) (fun fs hr => retN X52 hx (t := .boolean) hret (by simp) (hb hby at_192) hr)
      · skip
        have kk := own_k4 cc hk1 hk2 hk3 hcc.1 hcc.2
        refine GoW.st (fun t k => XS.iload X18.here hx rfl (hb hby at_168) rfl (XS.iload X18.here hx rfl (hb hby at_170) rfl k)) ?_
        show GoW p e below QQ (T18.setTop (mkF m 172 #[.val (.int p1), .val (.int p2), .val (.int p3), .val (.long q4), .second, .val (.int v4), .val (.int v9), .val (.int cc), .val (.int (2 : Int32)), .val (.ref b2)] [(.int cc), (.int (2 : Int32)), (.ref b2)]))
        obtain ⟨_, _, ⟨T53, zL53, zk53, zn53⟩, -, X53, ⟨Lc53, hQ53, zl53, zy53, zz53⟩, st53⟩ := Jvm.LawKit.callS X18 hx (y := (⟨"com/example/terseform/terseform/Utf8CodePointAtPinLaw", "put", "([BII)V"⟩ : MethodName)) hown (mvT hZ (hw _ (List.mem_of_getElem? (i := 4) rfl))) (mvT hZ (hw _ (List.mem_of_getElem? (i := 5) rfl))) (mvT hZ (hw _ (List.mem_of_getElem? (i := 6) rfl))) (mvT hZ (hw _ (List.mem_of_getElem? (i := 7) rfl))) (by decide) (backOf (W := 0) (rm1_24 l Z a0 hw [] b2 k2 cc (nar .byte ((q4.toInt32).toInt8.toInt32)) (nar .byte ((((q4.toUInt64 >>> ((8 : Int32) &&& 0x3f).toInt64.toUInt64).toInt64).toInt32).toInt8.toInt32)) (nar .byte ((((q4.toUInt64 >>> ((16 : Int32) &&& 0x3f).toInt64.toUInt64).toInt64).toInt32).toInt8.toInt32)) (nar .byte ((((q4.toUInt64 >>> ((24 : Int32) &&& 0x3f).toInt64.toUInt64).toInt64).toInt32).toInt8.toInt32)) (nar .byte ((((q4.toUInt64 >>> ((32 : Int32) &&& 0x3f).toInt64.toUInt64).toInt64).toInt32).toInt8.toInt32)) (nar .byte ((((q4.toUInt64 >>> ((40 : Int32) &&& 0x3f).toInt64.toUInt64).toInt64).toInt32).toInt8.toInt32)) (nar .byte ((((q4.toUInt64 >>> ((48 : Int32) &&& 0x3f).toInt64.toUInt64).toInt64).toInt32).toInt8.toInt32)) (nar .byte ((((q4.toUInt64 >>> ((56 : Int32) &&& 0x3f).toInt64.toUInt64).toInt64).toInt32).toInt8.toInt32)) h18 n0 (Nat.le_trans Z0 K18.1) f19_V_b2 gg2 (by assumption) (by assumption) (by assumption)) hZ (hw _ (List.mem_of_getElem? (i := 7) rfl)) (hw _ (List.mem_of_getElem? (i := 6) rfl)) (by decide) (by decide)) (g := (mkF m 172 #[.val (.int p1), .val (.int p2), .val (.int p3), .val (.long q4), .second, .val (.int v4), .val (.int v9), .val (.int cc), .val (.int (2 : Int32)), .val (.ref b2)] [(.int cc), (.int (2 : Int32)), (.ref b2)])) rfl (by rw [hml]; rfl) (argsL := [(.ref b2), (.int (2 : Int32)), (.int cc)]) (rest := []) (lenOf pd_0 rfl) rfl (by show 2 * 0 + _ ≤ _; exact Nat.le_of_eq rfl) (hb hby at_172) (fun _ _ => ⟨rfl, e18, (by decide : 1 + 0 ≤ _), (by decide : 8 + 0 ≤ _)⟩)
        dsimp only [Pt.U, Pt.locs, Pt.cells, Pt.slots] at X53 zl53 zy53 zz53 st53 hQ53
        subst zl53 zy53 zz53
        obtain ⟨rfl, Nq53, Kq53, p53_0⟩ := hQ53
        have N53 := Fr.app N18 Nq53
        refine GoW.st st53 ?_
        have K53 : Keep h0 T53.heap [] := K18.trans Kq53 (allS (Or.inr sz2) all0)
        show GoW p e below QQ (T53.setTop (mkF m 175 #[.val (.int p1), .val (.int p2), .val (.int p3), .val (.long q4), .second, .val (.int v4), .val (.int v9), .val (.int cc), .val (.int (2 : Int32)), .val (.ref b2)] []))
        refine GoW.st (fun t k => XS.aload X53.here hx rfl (hb hby at_175) rfl rfl (XS.iload X53.here hx rfl (hb hby at_177) rfl k)) ?_
        show GoW p e below QQ (T53.setTop (mkF m 179 #[.val (.int p1), .val (.int p2), .val (.int p3), .val (.long q4), .second, .val (.int v4), .val (.int v9), .val (.int cc), .val (.int (2 : Int32)), .val (.ref b2)] [(.int (2 : Int32)), (.ref b2)]))
        obtain ⟨_, _, ⟨T55, zL55, zk55, zn55⟩, -, X55, ⟨Lc55, hQ55, zl55, zy55, zz55⟩, st55⟩ := Jvm.LawKit.callS X53 hx (y := (⟨"com/example/terseform/terseform/Utf8", "codePointAt", "([BI)I"⟩ : MethodName)) hown (mvT hZ (hw _ (List.mem_of_getElem? (i := 9) rfl))) (mvT hZ (hw _ (List.mem_of_getElem? (i := 10) rfl))) (mvT hZ (hw _ (List.mem_of_getElem? (i := 11) rfl))) (mvT hZ (hw _ (List.mem_of_getElem? (i := 12) rfl))) (by decide) (backOf (W := 0) (rm2_24 l Z a0 hw [] b2 k2 (nar .byte ((q4.toInt32).toInt8.toInt32)) (nar .byte ((((q4.toUInt64 >>> ((8 : Int32) &&& 0x3f).toInt64.toUInt64).toInt64).toInt32).toInt8.toInt32)) (nar .byte (((240 : Int32) + (cc / (262144 : Int32))).toInt8.toInt32)) (nar .byte (((128 : Int32) + ((cc / (4096 : Int32)) % (64 : Int32))).toInt8.toInt32)) (nar .byte (((128 : Int32) + ((cc / (64 : Int32)) % (64 : Int32))).toInt8.toInt32)) (nar .byte (((128 : Int32) + (cc % (64 : Int32))).toInt8.toInt32)) (nar .byte ((((q4.toUInt64 >>> ((48 : Int32) &&& 0x3f).toInt64.toUInt64).toInt64).toInt32).toInt8.toInt32)) (nar .byte ((((q4.toUInt64 >>> ((56 : Int32) &&& 0x3f).toInt64.toUInt64).toInt64).toInt32).toInt8.toInt32)) T53.heap n0 (Nat.le_trans Z0 K53.1) p53_0 kk.1 kk.2.1 kk.2.2.1) hZ (hw _ (List.mem_of_getElem? (i := 12) rfl)) (hw _ (List.mem_of_getElem? (i := 11) rfl)) (by decide) (by decide)) (g := (mkF m 179 #[.val (.int p1), .val (.int p2), .val (.int p3), .val (.long q4), .second, .val (.int v4), .val (.int v9), .val (.int cc), .val (.int (2 : Int32)), .val (.ref b2)] [(.int (2 : Int32)), (.ref b2)])) rfl (by rw [hml]; rfl) (argsL := [(.ref b2), (.int (2 : Int32))]) (rest := []) (lenOf pd_1 rfl) rfl (by show 2 * 0 + _ ≤ _; exact Nat.le_of_eq rfl) (hb hby at_179) (fun _ _ => ⟨rfl, rfl, (by decide : 1 + 0 ≤ _), (by decide : 8 + 0 ≤ _)⟩)
        dsimp only [Pt.U, Pt.locs, Pt.cells, Pt.slots] at X55 zl55 zy55 zz55 st55 hQ55
        subst zl55 zy55 zz55
        obtain ⟨rfl, Nq55, hh55⟩ := hQ55
        have N55 := Fr.app N53 Nq55
        refine GoW.st st55 ?_
        show GoW p e below QQ (T55.setTop (mkF m 182 #[.val (.int p1), .val (.int p2), .val (.int p3), .val (.long q4), .second, .val (.int v4), .val (.int v9), .val (.int cc), .val (.int (2 : Int32)), .val (.ref b2)] [(.int (((((((nar .byte (((240 : Int32) + (cc / (262144 : Int32))).toInt8.toInt32)) &&& (255 : Int32)) &&& (7 : Int32)) <<< ((18 : Int32) &&& 31)) ||| (((nar .byte (((128 : Int32) + ((cc / (4096 : Int32)) % (64 : Int32))).toInt8.toInt32)) &&& (63 : Int32)) <<< ((12 : Int32) &&& 31))) ||| (((nar .byte (((128 : Int32) + ((cc / (64 : Int32)) % (64 : Int32))).toInt8.toInt32)) &&& (63 : Int32)) <<< ((6 : Int32) &&& 31))) ||| ((nar .byte (((128 : Int32) + (cc % (64 : Int32))).toInt8.toInt32)) &&& (63 : Int32))))]))
        refine GoW.st (fun t k => XS.iload X55.here hx rfl (hb hby at_182) rfl k) ?_
        show GoW p e below QQ (T55.setTop (mkF m 184 #[.val (.int p1), .val (.int p2), .val (.int p3), .val (.long q4), .second, .val (.int v4), .val (.int v9), .val (.int cc), .val (.int (2 : Int32)), .val (.ref b2)] [(.int cc), (.int (((((((nar .byte (((240 : Int32) + (cc / (262144 : Int32))).toInt8.toInt32)) &&& (255 : Int32)) &&& (7 : Int32)) <<< ((18 : Int32) &&& 31)) ||| (((nar .byte (((128 : Int32) + ((cc / (4096 : Int32)) % (64 : Int32))).toInt8.toInt32)) &&& (63 : Int32)) <<< ((12 : Int32) &&& 31))) ||| (((nar .byte (((128 : Int32) + ((cc / (64 : Int32)) % (64 : Int32))).toInt8.toInt32)) &&& (63 : Int32)) <<< ((6 : Int32) &&& 31))) ||| ((nar .byte (((128 : Int32) + (cc % (64 : Int32))).toInt8.toInt32)) &&& (63 : Int32))))]))
        have hc184 : (((((((nar .byte (((240 : Int32) + (cc / (262144 : Int32))).toInt8.toInt32)) &&& (255 : Int32)) &&& (7 : Int32)) <<< ((18 : Int32) &&& 31)) ||| (((nar .byte (((128 : Int32) + ((cc / (4096 : Int32)) % (64 : Int32))).toInt8.toInt32)) &&& (63 : Int32)) <<< ((12 : Int32) &&& 31))) ||| (((nar .byte (((128 : Int32) + ((cc / (64 : Int32)) % (64 : Int32))).toInt8.toInt32)) &&& (63 : Int32)) <<< ((6 : Int32) &&& 31))) ||| ((nar .byte (((128 : Int32) + (cc % (64 : Int32))).toInt8.toInt32)) &&& (63 : Int32))) = cc := by
          exact kk.2.2.2
        refine GoW.st (fun t k => XS.icmpNo X55.here hx rfl (hb hby at_184) rfl (teq hc184).2 (XS.iconst X55.here hx rfl (hb hby at_187) (XS.goto X55.here hx rfl (pc0 := 188) (pc' := 192) rfl (hb hby at_188) (by decide) (by decide) k))) ?_
        show GoW p e below QQ (T55.setTop (mkF m 192 #[.val (.int p1), .val (.int p2), .val (.int p3), .val (.long q4), .second, .val (.int v4), .val (.int v9), .val (.int cc), .val (.int (2 : Int32)), .val (.ref b2)] [(.int (1 : Int32))]))
        exact GoW.fin X55 (some (.int (nar .boolean (1 : Int32)))) (fun q => by rw [hret] at q; cases q) hlk hQ hh55 ⟨rfl, N55⟩ (by decide) (by decide) (fun fs hr => retN X55 hx (t := .boolean) hret (by simp) (hb hby at_192) hr)
    · skip
      show GoW p e below QQ (T18.setTop (mkF m 166 #[.val (.int p1), .val (.int p2), .val (.int p3), .val (.long q4), .second, .val (.int v4), .val (.int v9), .val (.int cc), .val (.int (3 : Int32)), .val (.ref b2)] []))
      refine GoW.st (fun t k => XS.aload X18.here hx rfl (hb hby at_166) rfl rfl k) ?_
      show GoW p e below QQ (T18.setTop (mkF m 168 #[.val (.int p1), .val (.int p2), .val (.int p3), .val (.long q4), .second, .val (.int v4), .val (.int v9), .val (.int cc), .val (.int (3 : Int32)), .val (.ref b2)] [(.ref b2)]))
      rcases own_cls cc with hk1 | ⟨hk1, hk2⟩ | ⟨hk1, hk2, hk3⟩ | ⟨hk1, hk2, hk3⟩
      · skip
        have kk := own_k1 cc hk1 hcc.1 hcc.2
        refine GoW.st (fun t k => XS.iload X18.here hx rfl (hb hby at_168) rfl (XS.iload X18.here hx rfl (hb hby at_170) rfl k)) ?_
        show GoW p e below QQ (T18.setTop (mkF m 172 #[.val (.int p1), .val (.int p2), .val (.int p3), .val (.long q4), .second, .val (.int v4), .val (.int v9), .val (.int cc), .val (.int (3 : Int32)), .val (.ref b2)] [(.int cc), (.int (3 : Int32)), (.ref b2)]))
        obtain ⟨_, _, ⟨T56, zL56, zk56, zn56⟩, -, X56, ⟨Lc56, hQ56, zl56, zy56, zz56⟩, st56⟩ := Jvm.LawKit.callS X18 hx (y := (⟨"com/example/terseform/terseform/Utf8CodePointAtPinLaw", "put", "([BII)V"⟩ : MethodName)) hown (mvT hZ (hw _ (List.mem_of_getElem? (i := 4) rfl))) (mvT hZ (hw _ (List.mem_of_getElem? (i := 5) rfl))) (mvT hZ (hw _ (List.mem_of_getElem? (i := 6) rfl))) (mvT hZ (hw _ (List.mem_of_getElem? (i := 7) rfl))) (by decide) (backOf (W := 0) (rm1_31 l Z a0 hw [] b2 k2 cc (nar .byte ((q4.toInt32).toInt8.toInt32)) (nar .byte ((((q4.toUInt64 >>> ((8 : Int32) &&& 0x3f).toInt64.toUInt64).toInt64).toInt32).toInt8.toInt32)) (nar .byte ((((q4.toUInt64 >>> ((16 : Int32) &&& 0x3f).toInt64.toUInt64).toInt64).toInt32).toInt8.toInt32)) (nar .byte ((((q4.toUInt64 >>> ((24 : Int32) &&& 0x3f).toInt64.toUInt64).toInt64).toInt32).toInt8.toInt32)) (nar .byte ((((q4.toUInt64 >>> ((32 : Int32) &&& 0x3f).toInt64.toUInt64).toInt64).toInt32).toInt8.toInt32)) (nar .byte ((((q4.toUInt64 >>> ((40 : Int32) &&& 0x3f).toInt64.toUInt64).toInt64).toInt32).toInt8.toInt32)) (nar .byte ((((q4.toUInt64 >>> ((48 : Int32) &&& 0x3f).toInt64.toUInt64).toInt64).toInt32).toInt8.toInt32)) (nar .byte ((((q4.toUInt64 >>> ((56 : Int32) &&& 0x3f).toInt64.toUInt64).toInt64).toInt32).toInt8.toInt32)) h18 n0 (Nat.le_trans Z0 K18.1) f19_V_b2 gg2 (by assumption)) hZ (hw _ (List.mem_of_getElem? (i := 7) rfl)) (hw _ (List.mem_of_getElem? (i := 6) rfl)) (by decide) (by decide)) (g := (mkF m 172 #[.val (.int p1), .val (.int p2), .val (.int p3), .val (.long q4), .second, .val (.int v4), .val (.int v9), .val (.int cc), .val (.int (3 : Int32)), .val (.ref b2)] [(.int cc), (.int (3 : Int32)), (.ref b2)])) rfl (by rw [hml]; rfl) (argsL := [(.ref b2), (.int (3 : Int32)), (.int cc)]) (rest := []) (lenOf pd_0 rfl) rfl (by show 2 * 0 + _ ≤ _; exact Nat.le_of_eq rfl) (hb hby at_172) (fun _ _ => ⟨rfl, e18, (by decide : 1 + 0 ≤ _), (by decide : 8 + 0 ≤ _)⟩)
        dsimp only [Pt.U, Pt.locs, Pt.cells, Pt.slots] at X56 zl56 zy56 zz56 st56 hQ56
        subst zl56 zy56 zz56
        obtain ⟨rfl, Nq56, Kq56, p56_0⟩ := hQ56
        have N56 := Fr.app N18 Nq56
        refine GoW.st st56 ?_
        have K56 : Keep h0 T56.heap [] := K18.trans Kq56 (allS (Or.inr sz2) all0)
        show GoW p e below QQ (T56.setTop (mkF m 175 #[.val (.int p1), .val (.int p2), .val (.int p3), .val (.long q4), .second, .val (.int v4), .val (.int v9), .val (.int cc), .val (.int (3 : Int32)), .val (.ref b2)] []))
        refine GoW.st (fun t k => XS.aload X56.here hx rfl (hb hby at_175) rfl rfl (XS.iload X56.here hx rfl (hb hby at_177) rfl k)) ?_
        show GoW p e below QQ (T56.setTop (mkF m 179 #[.val (.int p1), .val (.int p2), .val (.int p3), .val (.long q4), .second, .val (.int v4), .val (.int v9), .val (.int cc), .val (.int (3 : Int32)), .val (.ref b2)] [(.int (3 : Int32)), (.ref b2)]))
        obtain ⟨_, _, ⟨T58, zL58, zk58, zn58⟩, -, X58, ⟨Lc58, hQ58, zl58, zy58, zz58⟩, st58⟩ := Jvm.LawKit.callS X56 hx (y := (⟨"com/example/terseform/terseform/Utf8", "codePointAt", "([BI)I"⟩ : MethodName)) hown (mvT hZ (hw _ (List.mem_of_getElem? (i := 9) rfl))) (mvT hZ (hw _ (List.mem_of_getElem? (i := 10) rfl))) (mvT hZ (hw _ (List.mem_of_getElem? (i := 11) rfl))) (mvT hZ (hw _ (List.mem_of_getElem? (i := 12) rfl))) (by decide) (backOf (W := 0) (rm2_31 l Z a0 hw [] b2 k2 (nar .byte ((q4.toInt32).toInt8.toInt32)) (nar .byte ((((q4.toUInt64 >>> ((8 : Int32) &&& 0x3f).toInt64.toUInt64).toInt64).toInt32).toInt8.toInt32)) (nar .byte ((((q4.toUInt64 >>> ((16 : Int32) &&& 0x3f).toInt64.toUInt64).toInt64).toInt32).toInt8.toInt32)) (nar .byte (cc.toInt8.toInt32)) (nar .byte ((((q4.toUInt64 >>> ((32 : Int32) &&& 0x3f).toInt64.toUInt64).toInt64).toInt32).toInt8.toInt32)) (nar .byte ((((q4.toUInt64 >>> ((40 : Int32) &&& 0x3f).toInt64.toUInt64).toInt64).toInt32).toInt8.toInt32)) (nar .byte ((((q4.toUInt64 >>> ((48 : Int32) &&& 0x3f).toInt64.toUInt64).toInt64).toInt32).toInt8.toInt32)) (nar .byte ((((q4.toUInt64 >>> ((56 : Int32) &&& 0x3f).toInt64.toUInt64).toInt64).toInt32).toInt8.toInt32)) T56.heap n0 (Nat.le_trans Z0 K56.1) p56_0 kk.1) hZ (hw _ (List.mem_of_getElem? (i := 12) rfl)) (hw _ (List.mem_of_getElem? (i := 11) rfl)) (by decide) (by decide)) (g := (mkF m 179 #[.val (.int p1), .val (.int p2), .val (.int p3), .val (.long q4), .second, .val (.int v4), .val (.int v9), .val (.int cc), .val (.int (3 : Int32)), .val (.ref b2)] [(.int (3 : Int32)), (.ref b2)])) rfl (by rw [hml]; rfl) (argsL := [(.ref b2), (.int (3 : Int32))]) (rest := []) (lenOf pd_1 rfl) rfl (by show 2 * 0 + _ ≤ _; exact Nat.le_of_eq rfl) (hb hby at_179) (fun _ _ => ⟨rfl, rfl, (by decide : 1 + 0 ≤ _), (by decide : 8 + 0 ≤ _)⟩)
        dsimp only [Pt.U, Pt.locs, Pt.cells, Pt.slots] at X58 zl58 zy58 zz58 st58 hQ58
        subst zl58 zy58 zz58
        obtain ⟨rfl, Nq58, hh58⟩ := hQ58
        have N58 := Fr.app N56 Nq58
        refine GoW.st st58 ?_
        show GoW p e below QQ (T58.setTop (mkF m 182 #[.val (.int p1), .val (.int p2), .val (.int p3), .val (.long q4), .second, .val (.int v4), .val (.int v9), .val (.int cc), .val (.int (3 : Int32)), .val (.ref b2)] [(.int ((nar .byte (cc.toInt8.toInt32)) &&& (255 : Int32)))]))
        refine GoW.st (fun t k => XS.iload X58.here hx rfl (hb hby at_182) rfl k) ?_
        show GoW p e below QQ (T58.setTop (mkF m 184 #[.val (.int p1), .val (.int p2), .val (.int p3), .val (.long q4), .second, .val (.int v4), .val (.int v9), .val (.int cc), .val (.int (3 : Int32)), .val (.ref b2)] [(.int cc), (.int ((nar .byte (cc.toInt8.toInt32)) &&& (255 : Int32)))]))
        have hc184 : ((nar .byte (cc.toInt8.toInt32)) &&& (255 : Int32)) = cc := by
          exact kk.2
        refine GoW.st (fun t k => XS.icmpNo X58.here hx rfl (hb hby at_184) rfl (teq hc184).2 (XS.iconst X58.here hx rfl (hb hby at_187) (XS.goto X58.here hx rfl (pc0 := 188) (pc' := 192) rfl (hb hby at_188) (by decide) (by decide) k))) ?_
        show GoW p e below QQ (T58.setTop (mkF m 192 #[.val (.int p1), .val (.int p2), .val (.int p3), .val (.long q4), .second, .val (.int v4), .val (.int v9), .val (.int cc), .val (.int (3 : Int32)), .val (.ref b2)] [(.int (1 : Int32))]))
        exact GoW.fin X58 (some (.int (nar .boolean (1 : Int32)))) (fun q => by rw [hret] at q; cases q) hlk hQ hh58 ⟨rfl, N58⟩ (by decide) (by decide) (fun fs hr => retN X58 hx (t := .boolean) hret (by simp) (hb hby at_192) hr)
      · skip
        have kk := own_k2 cc hk1 hk2 hcc.1 hcc.2
        refine GoW.st (fun t k => XS.iload X18.here hx rfl (hb hby at_168) rfl (XS.iload X18.here hx rfl (hb hby at_170) rfl k)) ?_
        show GoW p e below QQ (T18.setTop (mkF m 172 #[.val (.int p1), .val (.int p2), .val (.int p3), .val (.long q4), .second, .val (.int v4), .val (.int v9), .val (.int cc), .val (.int (3 : Int32)), .val (.ref b2)] [(.int cc), (.int (3 : Int32)), (.ref b2)]))
        obtain ⟨_, _, ⟨T59, zL59, zk59, zn59⟩, -, X59, ⟨Lc59, hQ59, zl59, zy59, zz59⟩, st59⟩ := Jvm.LawKit.callS X18 hx (y := (⟨"com/example/terseform/terseform/Utf8CodePointAtPinLaw", "put", "([BII)V"⟩ : MethodName)) hown (mvT hZ (hw _ (List.mem_of_getElem? (i := 4) rfl))) (mvT hZ (hw _ (List.mem_of_getElem? (i := 5) rfl))) (mvT hZ (hw _ (List.mem_of_getElem? (i := 6) rfl))) (mvT hZ (hw _ (List.mem_of_getElem? (i := 7) rfl))) (by decide) (backOf (W := 0) (rm1_32 l Z a0 hw [] b2 k2 cc (nar .byte ((q4.toInt32).toInt8.toInt32)) (nar .byte ((((q4.toUInt64 >>> ((8 : Int32) &&& 0x3f).toInt64.toUInt64).toInt64).toInt32).toInt8.toInt32)) (nar .byte ((((q4.toUInt64 >>> ((16 : Int32) &&& 0x3f).toInt64.toUInt64).toInt64).toInt32).toInt8.toInt32)) (nar .byte ((((q4.toUInt64 >>> ((24 : Int32) &&& 0x3f).toInt64.toUInt64).toInt64).toInt32).toInt8.toInt32)) (nar .byte ((((q4.toUInt64 >>> ((32 : Int32) &&& 0x3f).toInt64.toUInt64).toInt64).toInt32).toInt8.toInt32)) (nar .byte ((((q4.toUInt64 >>> ((40 : Int32) &&& 0x3f).toInt64.toUInt64).toInt64).toInt32).toInt8.toInt32)) (nar .byte ((((q4.toUInt64 >>> ((48 : Int32) &&& 0x3f).toInt64.toUInt64).toInt64).toInt32).toInt8.toInt32)) (nar .byte ((((q4.toUInt64 >>> ((56 : Int32) &&& 0x3f).toInt64.toUInt64).toInt64).toInt32).toInt8.toInt32)) h18 n0 (Nat.le_trans Z0 K18.1) f19_V_b2 gg2 (by assumption) (by assumption)) hZ (hw _ (List.mem_of_getElem? (i := 7) rfl)) (hw _ (List.mem_of_getElem? (i := 6) rfl)) (by decide) (by decide)) (g := (mkF m 172 #[.val (.int p1), .val (.int p2), .val (.int p3), .val (.long q4), .second, .val (.int v4), .val (.int v9), .val (.int cc), .val (.int (3 : Int32)), .val (.ref b2)] [(.int cc), (.int (3 : Int32)), (.ref b2)])) rfl (by rw [hml]; rfl) (argsL := [(.ref b2), (.int (3 : Int32)), (.int cc)]) (rest := []) (lenOf pd_0 rfl) rfl (by show 2 * 0 + _ ≤ _; exact Nat.le_of_eq rfl) (hb hby at_172) (fun _ _ => ⟨rfl, e18, (by decide : 1 + 0 ≤ _), (by decide : 8 + 0 ≤ _)⟩)
        dsimp only [Pt.U, Pt.locs, Pt.cells, Pt.slots] at X59 zl59 zy59 zz59 st59 hQ59
        subst zl59 zy59 zz59
        obtain ⟨rfl, Nq59, Kq59, p59_0⟩ := hQ59
        have N59 := Fr.app N18 Nq59
        refine GoW.st st59 ?_
        have K59 : Keep h0 T59.heap [] := K18.trans Kq59 (allS (Or.inr sz2) all0)
        show GoW p e below QQ (T59.setTop (mkF m 175 #[.val (.int p1), .val (.int p2), .val (.int p3), .val (.long q4), .second, .val (.int v4), .val (.int v9), .val (.int cc), .val (.int (3 : Int32)), .val (.ref b2)] []))
        refine GoW.st (fun t k => XS.aload X59.here hx rfl (hb hby at_175) rfl rfl (XS.iload X59.here hx rfl (hb hby at_177) rfl k)) ?_
        show GoW p e below QQ (T59.setTop (mkF m 179 #[.val (.int p1), .val (.int p2), .val (.int p3), .val (.long q4), .second, .val (.int v4), .val (.int v9), .val (.int cc), .val (.int (3 : Int32)), .val (.ref b2)] [(.int (3 : Int32)), (.ref b2)]))
        obtain ⟨_, _, ⟨T61, zL61, zk61, zn61⟩, -, X61, ⟨Lc61, hQ61, zl61, zy61, zz61⟩, st61⟩ := Jvm.LawKit.callS X59 hx (y := (⟨"com/example/terseform/terseform/Utf8", "codePointAt", "([BI)I"⟩ : MethodName)) hown (mvT hZ (hw _ (List.mem_of_getElem? (i := 9) rfl))) (mvT hZ (hw _ (List.mem_of_getElem? (i := 10) rfl))) (mvT hZ (hw _ (List.mem_of_getElem? (i := 11) rfl))) (mvT hZ (hw _ (List.mem_of_getElem? (i := 12) rfl))) (by decide) (backOf (W := 0) (rm2_32 l Z a0 hw [] b2 k2 (nar .byte ((q4.toInt32).toInt8.toInt32)) (nar .byte ((((q4.toUInt64 >>> ((8 : Int32) &&& 0x3f).toInt64.toUInt64).toInt64).toInt32).toInt8.toInt32)) (nar .byte ((((q4.toUInt64 >>> ((16 : Int32) &&& 0x3f).toInt64.toUInt64).toInt64).toInt32).toInt8.toInt32)) (nar .byte (((192 : Int32) + (cc / (64 : Int32))).toInt8.toInt32)) (nar .byte (((128 : Int32) + (cc % (64 : Int32))).toInt8.toInt32)) (nar .byte ((((q4.toUInt64 >>> ((40 : Int32) &&& 0x3f).toInt64.toUInt64).toInt64).toInt32).toInt8.toInt32)) (nar .byte ((((q4.toUInt64 >>> ((48 : Int32) &&& 0x3f).toInt64.toUInt64).toInt64).toInt32).toInt8.toInt32)) (nar .byte ((((q4.toUInt64 >>> ((56 : Int32) &&& 0x3f).toInt64.toUInt64).toInt64).toInt32).toInt8.toInt32)) T59.heap n0 (Nat.le_trans Z0 K59.1) p59_0 kk.1 kk.2.1) hZ (hw _ (List.mem_of_getElem? (i := 12) rfl)) (hw _ (List.mem_of_getElem? (i := 11) rfl)) (by decide) (by decide)) (g := (mkF m 179 #[.val (.int p1), .val (.int p2), .val (.int p3), .val (.long q4), .second, .val (.int v4), .val (.int v9), .val (.int cc), .val (.int (3 : Int32)), .val (.ref b2)] [(.int (3 : Int32)), (.ref b2)])) rfl (by rw [hml]; rfl) (argsL := [(.ref b2), (.int (3 : Int32))]) (rest := []) (lenOf pd_1 rfl) rfl (by show 2 * 0 + _ ≤ _; exact Nat.le_of_eq rfl) (hb hby at_179) (fun _ _ => ⟨rfl, rfl, (by decide : 1 + 0 ≤ _), (by decide : 8 + 0 ≤ _)⟩)
        dsimp only [Pt.U, Pt.locs, Pt.cells, Pt.slots] at X61 zl61 zy61 zz61 st61 hQ61
        subst zl61 zy61 zz61
        obtain ⟨rfl, Nq61, hh61⟩ := hQ61
        have N61 := Fr.app N59 Nq61
        refine GoW.st st61 ?_
        show GoW p e below QQ (T61.setTop (mkF m 182 #[.val (.int p1), .val (.int p2), .val (.int p3), .val (.long q4), .second, .val (.int v4), .val (.int v9), .val (.int cc), .val (.int (3 : Int32)), .val (.ref b2)] [(.int (((((nar .byte (((192 : Int32) + (cc / (64 : Int32))).toInt8.toInt32)) &&& (255 : Int32)) &&& (31 : Int32)) <<< ((6 : Int32) &&& 31)) ||| ((nar .byte (((128 : Int32) + (cc % (64 : Int32))).toInt8.toInt32)) &&& (63 : Int32))))]))
        refine GoW.st (fun t k => XS.iload X61.here hx rfl (hb hby at_182) rfl k) ?_
        show GoW p e below QQ (T61.setTop (mkF m 184 #[.val (.int p1), .val (.int p2), .val (.int p3), .val (.long q4), .second, .val (.int v4), .val (.int v9), .val (.int cc), .val (.int (3 : Int32)), .val (.ref b2)] [(.int cc), (.int (((((nar .byte (((192 : Int32) + (cc / (64 : Int32))).toInt8.toInt32)) &&& (255 : Int32)) &&& (31 : Int32)) <<< ((6 : Int32) &&& 31)) ||| ((nar .byte (((128 : Int32) + (cc % (64 : Int32))).toInt8.toInt32)) &&& (63 : Int32))))]))
        have hc184 : (((((nar .byte (((192 : Int32) + (cc / (64 : Int32))).toInt8.toInt32)) &&& (255 : Int32)) &&& (31 : Int32)) <<< ((6 : Int32) &&& 31)) ||| ((nar .byte (((128 : Int32) + (cc % (64 : Int32))).toInt8.toInt32)) &&& (63 : Int32))) = cc := by
          exact kk.2.2
        refine GoW.st (fun t k => XS.icmpNo X61.here hx rfl (hb hby at_184) rfl (teq hc184).2 (XS.iconst X61.here hx rfl (hb hby at_187) (XS.goto X61.here hx rfl (pc0 := 188) (pc' := 192) rfl (hb hby at_188) (by decide) (by decide) k))) ?_
        show GoW p e below QQ (T61.setTop (mkF m 192 #[.val (.int p1), .val (.int p2), .val (.int p3), .val (.long q4), .second, .val (.int v4), .val (.int v9), .val (.int cc), .val (.int (3 : Int32)), .val (.ref b2)] [(.int (1 : Int32))]))
        exact GoW.fin X61 (some (.int (nar .boolean (1 : Int32)))) (fun q => by rw [hret] at q; cases q) hlk hQ hh61 ⟨rfl, N61⟩ (by decide) (by decide) (fun fs hr => retN X61 hx (t := .boolean) hret (by simp) (hb hby at_192) hr)
      · skip
        have kk := own_k3 cc hk1 hk2 hk3 hcc.1 hcc.2
        refine GoW.st (fun t k => XS.iload X18.here hx rfl (hb hby at_168) rfl (XS.iload X18.here hx rfl (hb hby at_170) rfl k)) ?_
        show GoW p e below QQ (T18.setTop (mkF m 172 #[.val (.int p1), .val (.int p2), .val (.int p3), .val (.long q4), .second, .val (.int v4), .val (.int v9), .val (.int cc), .val (.int (3 : Int32)), .val (.ref b2)] [(.int cc), (.int (3 : Int32)), (.ref b2)]))
        obtain ⟨_, _, ⟨T62, zL62, zk62, zn62⟩, -, X62, ⟨Lc62, hQ62, zl62, zy62, zz62⟩, st62⟩ := Jvm.LawKit.callS X18 hx (y := (⟨"com/example/terseform/terseform/Utf8CodePointAtPinLaw", "put", "([BII)V"⟩ : MethodName)) hown (mvT hZ (hw _ (List.mem_of_getElem? (i := 4) rfl))) (mvT hZ (hw _ (List.mem_of_getElem? (i := 5) rfl))) (mvT hZ (hw _ (List.mem_of_getElem? (i := 6) rfl))) (mvT hZ (hw _ (List.mem_of_getElem? (i := 7) rfl))) (by decide) (backOf (W := 0) (rm1_33 l Z a0 hw [] b2 k2 cc (nar .byte ((q4.toInt32).toInt8.toInt32)) (nar .byte ((((q4.toUInt64 >>> ((8 : Int32) &&& 0x3f).toInt64.toUInt64).toInt64).toInt32).toInt8.toInt32)) (nar .byte ((((q4.toUInt64 >>> ((16 : Int32) &&& 0x3f).toInt64.toUInt64).toInt64).toInt32).toInt8.toInt32)) (nar .byte ((((q4.toUInt64 >>> ((24 : Int32) &&& 0x3f).toInt64.toUInt64).toInt64).toInt32).toInt8.toInt32)) (nar .byte ((((q4.toUInt64 >>> ((32 : Int32) &&& 0x3f).toInt64.toUInt64).toInt64).toInt32).toInt8.toInt32)) (nar .byte ((((q4.toUInt64 >>> ((40 : Int32) &&& 0x3f).toInt64.toUInt64).toInt64).toInt32).toInt8.toInt32)) (nar .byte ((((q4.toUInt64 >>> ((48 : Int32) &&& 0x3f).toInt64.toUInt64).toInt64).toInt32).toInt8.toInt32)) (nar .byte ((((q4.toUInt64 >>> ((56 : Int32) &&& 0x3f).toInt64.toUInt64).toInt64).toInt32).toInt8.toInt32)) h18 n0 (Nat.le_trans Z0 K18.1) f19_V_b2 gg2 (by assumption) (by assumption) (by assumption)) hZ (hw _ (List.mem_of_getElem? (i := 7) rfl)) (hw _ (List.mem_of_getElem? (i := 6) rfl)) (by decide) (by decide)) (g := (mkF m 172 #[.val (.int p1), .val (.int p2), .val (.int p3), .val (.long q4), .second, .val (.int v4), .val (.int v9), .val (.int cc), .val (.int (3 : Int32)), .val (.ref b2)] [(.int cc), (.int (3 : Int32)), (.ref b2)])) rfl (by rw [hml]; rfl) (argsL := [(.ref b2), (.int (3 : Int32)), (.int cc)]) (rest := []) (lenOf pd_0 rfl) rfl (by show 2 * 0 + _ ≤ _; exact Nat.le_of_eq rfl) (hb hby at_172) (fun _ _ => ⟨rfl, e18, (by decide : 1 + 0 ≤ _), (by decide : 8 + 0 ≤ _)⟩)
        dsimp only [Pt.U, Pt.locs, Pt.cells, Pt.slots] at X62 zl62 zy62 zz62 st62 hQ62
        subst zl62 zy62 zz62
        obtain ⟨rfl, Nq62, Kq62, p62_0⟩ := hQ62
        have N62 := Fr.app N18 Nq62
        refine GoW.st st62 ?_
        have K62 : Keep h0 T62.heap [] := K18.trans Kq62 (allS (Or.inr sz2) all0)
        show GoW p e below QQ (T62.setTop (mkF m 175 #[.val (.int p1), .val (.int p2), .val (.int p3), .val (.long q4), .second, .val (.int v4), .val (.int v9), .val (.int cc), .val (.int (3 : Int32)), .val (.ref b2)] []))
        refine GoW.st (fun t k => XS.aload X62.here hx rfl (hb hby at_175) rfl rfl (XS.iload X62.here hx rfl (hb hby at_177) rfl k)) ?_
        show GoW p e below QQ (T62.setTop (mkF m 179 #[.val (.int p1), .val (.int p2), .val (.int p3), .val (.long q4), .second, .val (.int v4), .val (.int v9), .val (.int cc), .val (.int (3 : Int32)), .val (.ref b2)] [(.int (3 : Int32)), (.ref b2)]))
        obtain ⟨_, _, ⟨T64, zL64, zk64, zn64⟩, -, X64, ⟨Lc64, hQ64, zl64, zy64, zz64⟩, st64⟩ := Jvm.LawKit.callS X62 hx (y := (⟨"com/example/terseform/terseform/Utf8", "codePointAt", "([BI)I"⟩ : MethodName)) hown (mvT hZ (hw _ (List.mem_of_getElem? (i := 9) rfl))) (mvT hZ (hw _ (List.mem_of_getElem? (i := 10) rfl))) (mvT hZ (hw _ (List.mem_of_getElem? (i := 11) rfl))) (mvT hZ (hw _ (List.mem_of_getElem? (i := 12) rfl))) (by decide) (backOf (W := 0) (rm2_33 l Z a0 hw [] b2 k2 (nar .byte ((q4.toInt32).toInt8.toInt32)) (nar .byte ((((q4.toUInt64 >>> ((8 : Int32) &&& 0x3f).toInt64.toUInt64).toInt64).toInt32).toInt8.toInt32)) (nar .byte ((((q4.toUInt64 >>> ((16 : Int32) &&& 0x3f).toInt64.toUInt64).toInt64).toInt32).toInt8.toInt32)) (nar .byte (((224 : Int32) + (cc / (4096 : Int32))).toInt8.toInt32)) (nar .byte (((128 : Int32) + ((cc / (64 : Int32)) % (64 : Int32))).toInt8.toInt32)) (nar .byte (((128 : Int32) + (cc % (64 : Int32))).toInt8.toInt32)) (nar .byte ((((q4.toUInt64 >>> ((48 : Int32) &&& 0x3f).toInt64.toUInt64).toInt64).toInt32).toInt8.toInt32)) (nar .byte ((((q4.toUInt64 >>> ((56 : Int32) &&& 0x3f).toInt64.toUInt64).toInt64).toInt32).toInt8.toInt32)) T62.heap n0 (Nat.le_trans Z0 K62.1) p62_0 kk.1 kk.2.1 kk.2.2.1) hZ (hw _ (List.mem_of_getElem? (i := 12) rfl)) (hw _ (List.mem_of_getElem? (i := 11) rfl)) (by decide) (by decide)) (g := (mkF m 179 #[.val (.int p1), .val (.int p2), .val (.int p3), .val (.long q4), .second, .val (.int v4), .val (.int v9), .val (.int cc), .val (.int (3 : Int32)), .val (.ref b2)] [(.int (3 : Int32)), (.ref b2)])) rfl (by rw [hml]; rfl) (argsL := [(.ref b2), (.int (3 : Int32))]) (rest := []) (lenOf pd_1 rfl) rfl (by show 2 * 0 + _ ≤ _; exact Nat.le_of_eq rfl) (hb hby at_179) (fun _ _ => ⟨rfl, rfl, (by decide : 1 + 0 ≤ _), (by decide : 8 + 0 ≤ _)⟩)
        dsimp only [Pt.U, Pt.locs, Pt.cells, Pt.slots] at X64 zl64 zy64 zz64 st64 hQ64
        subst zl64 zy64 zz64
        obtain ⟨rfl, Nq64, hh64⟩ := hQ64
        have N64 := Fr.app N62 Nq64
        refine GoW.st st64 ?_
        show GoW p e below QQ (T64.setTop (mkF m 182 #[.val (.int p1), .val (.int p2), .val (.int p3), .val (.long q4), .second, .val (.int v4), .val (.int v9), .val (.int cc), .val (.int (3 : Int32)), .val (.ref b2)] [(.int ((((((nar .byte (((224 : Int32) + (cc / (4096 : Int32))).toInt8.toInt32)) &&& (255 : Int32)) &&& (15 : Int32)) <<< ((12 : Int32) &&& 31)) ||| (((nar .byte (((128 : Int32) + ((cc / (64 : Int32)) % (64 : Int32))).toInt8.toInt32)) &&& (63 : Int32)) <<< ((6 : Int32) &&& 31))) ||| ((nar .byte (((128 : Int32) + (cc % (64 : Int32))).toInt8.toInt32)) &&& (63 : Int32))))]))
        refine GoW.st (fun t k => XS.iload X64.here hx rfl (hb hby at_182) rfl k) ?_
        show GoW p e below QQ (T64.setTop (mkF m 184 #[.val (.int p1), .val (.int p2), .val (.int p3), .val (.long q4), .second, .val (.int v4), .val (.int v9), .val (.int cc), .val (.int (3 : Int32)), .val (.ref b2)] [(.int cc), (.int ((((((nar .byte (((224 : Int32) + (cc / (4096 : Int32))).toInt8.toInt32)) &&& (255 : Int32)) &&& (15 : Int32)) <<< ((12 : Int32) &&& 31)) ||| (((nar .byte (((128 : Int32) + ((cc / (64 : Int32)) % (64 : Int32))).toInt8.toInt32)) &&& (63 : Int32)) <<< ((6 : Int32) &&& 31))) ||| ((nar .byte (((128 : Int32) + (cc % (64 : Int32))).toInt8.toInt32)) &&& (63 : Int32))))]))
        have hc184 : ((((((nar .byte (((224 : Int32) + (cc / (4096 : Int32))).toInt8.toInt32)) &&& (255 : Int32)) &&& (15 : Int32)) <<< ((12 : Int32) &&& 31)) ||| (((nar .byte (((128 : Int32) + ((cc / (64 : Int32)) % (64 : Int32))).toInt8.toInt32)) &&& (63 : Int32)) <<< ((6 : Int32) &&& 31))) ||| ((nar .byte (((128 : Int32) + (cc % (64 : Int32))).toInt8.toInt32)) &&& (63 : Int32))) = cc := by
          exact kk.2.2.2
        refine GoW.st (fun t k => XS.icmpNo X64.here hx rfl (hb hby at_184) rfl (teq hc184).2 (XS.iconst X64.here hx rfl (hb hby at_187) (XS.goto X64.here hx rfl (pc0 := 188) (pc' := 192) rfl (hb hby at_188) (by decide) (by decide) k))) ?_
        show GoW p e below QQ (T64.setTop (mkF m 192 #[.val (.int p1), .val (.int p2), .val (.int p3), .val (.long q4), .second, .val (.int v4), .val (.int v9), .val (.int cc), .val (.int (3 : Int32)), .val (.ref b2)] [(.int (1 : Int32))]))
        exact GoW.fin X64 (some (.int (nar .boolean (1 : Int32)))) (fun q => by rw [hret] at q; cases q) hlk hQ hh64 ⟨rfl, N64⟩ (by decide) (by decide) (fun fs hr => retN X64 hx (t := .boolean) hret (by simp) (hb hby at_192) hr)
      · skip
        have kk := own_k4 cc hk1 hk2 hk3 hcc.1 hcc.2
        refine GoW.st (fun t k => XS.iload X18.here hx rfl (hb hby at_168) rfl (XS.iload X18.here hx rfl (hb hby at_170) rfl k)) ?_
        show GoW p e below QQ (T18.setTop (mkF m 172 #[.val (.int p1), .val (.int p2), .val (.int p3), .val (.long q4), .second, .val (.int v4), .val (.int v9), .val (.int cc), .val (.int (3 : Int32)), .val (.ref b2)] [(.int cc), (.int (3 : Int32)), (.ref b2)]))
        obtain ⟨_, _, ⟨T65, zL65, zk65, zn65⟩, -, X65, ⟨Lc65, hQ65, zl65, zy65, zz65⟩, st65⟩ := Jvm.LawKit.callS X18 hx (y := (⟨"com/example/terseform/terseform/Utf8CodePointAtPinLaw", "put", "([BII)V"⟩ : MethodName)) hown (mvT hZ (hw _ (List.mem_of_getElem? (i := 4) rfl))) (mvT hZ (hw _ (List.mem_of_getElem? (i := 5) rfl))) (mvT hZ (hw _ (List.mem_of_getElem? (i := 6) rfl))) (mvT hZ (hw _ (List.mem_of_getElem? (i := 7) rfl))) (by decide) (backOf (W := 0) (rm1_34 l Z a0 hw [] b2 k2 cc (nar .byte ((q4.toInt32).toInt8.toInt32)) (nar .byte ((((q4.toUInt64 >>> ((8 : Int32) &&& 0x3f).toInt64.toUInt64).toInt64).toInt32).toInt8.toInt32)) (nar .byte ((((q4.toUInt64 >>> ((16 : Int32) &&& 0x3f).toInt64.toUInt64).toInt64).toInt32).toInt8.toInt32)) (nar .byte ((((q4.toUInt64 >>> ((24 : Int32) &&& 0x3f).toInt64.toUInt64).toInt64).toInt32).toInt8.toInt32)) (nar .byte ((((q4.toUInt64 >>> ((32 : Int32) &&& 0x3f).toInt64.toUInt64).toInt64).toInt32).toInt8.toInt32)) (nar .byte ((((q4.toUInt64 >>> ((40 : Int32) &&& 0x3f).toInt64.toUInt64).toInt64).toInt32).toInt8.toInt32)) (nar .byte ((((q4.toUInt64 >>> ((48 : Int32) &&& 0x3f).toInt64.toUInt64).toInt64).toInt32).toInt8.toInt32)) (nar .byte ((((q4.toUInt64 >>> ((56 : Int32) &&& 0x3f).toInt64.toUInt64).toInt64).toInt32).toInt8.toInt32)) h18 n0 (Nat.le_trans Z0 K18.1) f19_V_b2 gg2 (by assumption) (by assumption) (by assumption)) hZ (hw _ (List.mem_of_getElem? (i := 7) rfl)) (hw _ (List.mem_of_getElem? (i := 6) rfl)) (by decide) (by decide)) (g := (mkF m 172 #[.val (.int p1), .val (.int p2), .val (.int p3), .val (.long q4), .second, .val (.int v4), .val (.int v9), .val (.int cc), .val (.int (3 : Int32)), .val (.ref b2)] [(.int cc), (.int (3 : Int32)), (.ref b2)])) rfl (by rw [hml]; rfl) (argsL := [(.ref b2), (.int (3 : Int32)), (.int cc)]) (rest := []) (lenOf pd_0 rfl) rfl (by show 2 * 0 + _ ≤ _; exact Nat.le_of_eq rfl) (hb hby at_172) (fun _ _ => ⟨rfl, e18, (by decide : 1 + 0 ≤ _), (by decide : 8 + 0 ≤ _)⟩)
        dsimp only [Pt.U, Pt.locs, Pt.cells, Pt.slots] at X65 zl65 zy65 zz65 st65 hQ65
        subst zl65 zy65 zz65
        obtain ⟨rfl, Nq65, Kq65, p65_0⟩ := hQ65
        have N65 := Fr.app N18 Nq65
        refine GoW.st st65 ?_
        have K65 : Keep h0 T65.heap [] := K18.trans Kq65 (allS (Or.inr sz2) all0)
        show GoW p e below QQ (T65.setTop (mkF m 175 #[.val (.int p1), .val (.int p2), .val (.int p3), .val (.long q4), .second, .val (.int v4), .val (.int v9), .val (.int cc), .val (.int (3 : Int32)), .val (.ref b2)] []))
        refine GoW.st (fun t k => XS.aload X65.here hx rfl (hb hby at_175) rfl rfl (XS.iload X65.here hx rfl (hb hby at_177) rfl k)) ?_
        show GoW p e below QQ (T65.setTop (mkF m 179 #[.val (.int p1), .val (.int p2), .val (.int p3), .val (.long q4), .second, .val (.int v4), .val (.int v9), .val (.int cc), .val (.int (3 : Int32)), .val (.ref b2)] [(.int (3 : Int32)), (.ref b2)]))
        obtain ⟨_, _, ⟨T67, zL67, zk67, zn67⟩, -, X67, ⟨Lc67, hQ67, zl67, zy67, zz67⟩, st67⟩ := Jvm.LawKit.callS X65 hx (y := (⟨"com/example/terseform/terseform/Utf8", "codePointAt", "([BI)I"⟩ : MethodName)) hown (mvT hZ (hw _ (List.mem_of_getElem? (i := 9) rfl))) (mvT hZ (hw _ (List.mem_of_getElem? (i := 10) rfl))) (mvT hZ (hw _ (List.mem_of_getElem? (i := 11) rfl))) (mvT hZ (hw _ (List.mem_of_getElem? (i := 12) rfl))) (by decide) (backOf (W := 0) (rm2_34 l Z a0 hw [] b2 k2 (nar .byte ((q4.toInt32).toInt8.toInt32)) (nar .byte ((((q4.toUInt64 >>> ((8 : Int32) &&& 0x3f).toInt64.toUInt64).toInt64).toInt32).toInt8.toInt32)) (nar .byte ((((q4.toUInt64 >>> ((16 : Int32) &&& 0x3f).toInt64.toUInt64).toInt64).toInt32).toInt8.toInt32)) (nar .byte (((240 : Int32) + (cc / (262144 : Int32))).toInt8.toInt32)) (nar .byte (((128 : Int32) + ((cc / (4096 : Int32)) % (64 : Int32))).toInt8.toInt32)) (nar .byte (((128 : Int32) + ((cc / (64 : Int32)) % (64 : Int32))).toInt8.toInt32)) (nar .byte (((128 : Int32) + (cc % (64 : Int32))).toInt8.toInt32)) (nar .byte ((((q4.toUInt64 >>> ((56 : Int32) &&& 0x3f).toInt64.toUInt64).toInt64).toInt32).toInt8.toInt32)) T65.heap n0 (Nat.le_trans Z0 K65.1) p65_0 kk.1 kk.2.1 kk.2.2.1) hZ (hw _ (List.mem_of_getElem? (i := 12) rfl)) (hw _ (List.mem_of_getElem? (i := 11) rfl)) (by decide) (by decide)) (g := (mkF m 179 #[.val (.int p1), .val (.int p2), .val (.int p3), .val (.long q4), .second, .val (.int v4), .val (.int v9), .val (.int cc), .val (.int (3 : Int32)), .val (.ref b2)] [(.int (3 : Int32)), (.ref b2)])) rfl (by rw [hml]; rfl) (argsL := [(.ref b2), (.int (3 : Int32))]) (rest := []) (lenOf pd_1 rfl) rfl (by show 2 * 0 + _ ≤ _; exact Nat.le_of_eq rfl) (hb hby at_179) (fun _ _ => ⟨rfl, rfl, (by decide : 1 + 0 ≤ _), (by decide : 8 + 0 ≤ _)⟩)
        dsimp only [Pt.U, Pt.locs, Pt.cells, Pt.slots] at X67 zl67 zy67 zz67 st67 hQ67
        subst zl67 zy67 zz67
        obtain ⟨rfl, Nq67, hh67⟩ := hQ67
        have N67 := Fr.app N65 Nq67
        refine GoW.st st67 ?_
        show GoW p e below QQ (T67.setTop (mkF m 182 #[.val (.int p1), .val (.int p2), .val (.int p3), .val (.long q4), .second, .val (.int v4), .val (.int v9), .val (.int cc), .val (.int (3 : Int32)), .val (.ref b2)] [(.int (((((((nar .byte (((240 : Int32) + (cc / (262144 : Int32))).toInt8.toInt32)) &&& (255 : Int32)) &&& (7 : Int32)) <<< ((18 : Int32) &&& 31)) ||| (((nar .byte (((128 : Int32) + ((cc / (4096 : Int32)) % (64 : Int32))).toInt8.toInt32)) &&& (63 : Int32)) <<< ((12 : Int32) &&& 31))) ||| (((nar .byte (((128 : Int32) + ((cc / (64 : Int32)) % (64 : Int32))).toInt8.toInt32)) &&& (63 : Int32)) <<< ((6 : Int32) &&& 31))) ||| ((nar .byte (((128 : Int32) + (cc % (64 : Int32))).toInt8.toInt32)) &&& (63 : Int32))))]))
        refine GoW.st (fun t k => XS.iload X67.here hx rfl (hb hby at_182) rfl k) ?_
        show GoW p e below QQ (T67.setTop (mkF m 184 #[.val (.int p1), .val (.int p2), .val (.int p3), .val (.long q4), .second, .val (.int v4), .val (.int v9), .val (.int cc), .val (.int (3 : Int32)), .val (.ref b2)] [(.int cc), (.int (((((((nar .byte (((240 : Int32) + (cc / (262144 : Int32))).toInt8.toInt32)) &&& (255 : Int32)) &&& (7 : Int32)) <<< ((18 : Int32) &&& 31)) ||| (((nar .byte (((128 : Int32) + ((cc / (4096 : Int32)) % (64 : Int32))).toInt8.toInt32)) &&& (63 : Int32)) <<< ((12 : Int32) &&& 31))) ||| (((nar .byte (((128 : Int32) + ((cc / (64 : Int32)) % (64 : Int32))).toInt8.toInt32)) &&& (63 : Int32)) <<< ((6 : Int32) &&& 31))) ||| ((nar .byte (((128 : Int32) + (cc % (64 : Int32))).toInt8.toInt32)) &&& (63 : Int32))))]))
        have hc184 : (((((((nar .byte (((240 : Int32) + (cc / (262144 : Int32))).toInt8.toInt32)) &&& (255 : Int32)) &&& (7 : Int32)) <<< ((18 : Int32) &&& 31)) ||| (((nar .byte (((128 : Int32) + ((cc / (4096 : Int32)) % (64 : Int32))).toInt8.toInt32)) &&& (63 : Int32)) <<< ((12 : Int32) &&& 31))) ||| (((nar .byte (((128 : Int32) + ((cc / (64 : Int32)) % (64 : Int32))).toInt8.toInt32)) &&& (63 : Int32)) <<< ((6 : Int32) &&& 31))) ||| ((nar .byte (((128 : Int32) + (cc % (64 : Int32))).toInt8.toInt32)) &&& (63 : Int32))) = cc := by
          exact kk.2.2.2
        refine GoW.st (fun t k => XS.icmpNo X67.here hx rfl (hb hby at_184) rfl (teq hc184).2 (XS.iconst X67.here hx rfl (hb hby at_187) (XS.goto X67.here hx rfl (pc0 := 188) (pc' := 192) rfl (hb hby at_188) (by decide) (by decide) k))) ?_
        show GoW p e below QQ (T67.setTop (mkF m 192 #[.val (.int p1), .val (.int p2), .val (.int p3), .val (.long q4), .second, .val (.int v4), .val (.int v9), .val (.int cc), .val (.int (3 : Int32)), .val (.ref b2)] [(.int (1 : Int32))]))
        exact GoW.fin X67 (some (.int (nar .boolean (1 : Int32)))) (fun q => by rw [hret] at q; cases q) hlk hQ hh67 ⟨rfl, N67⟩ (by decide) (by decide) (fun fs hr => retN X67 hx (t := .boolean) hret (by simp) (hb hby at_192) hr)
  refine GoW.st (fun t k => XS.iload X0.here hx rfl (hb hby at_11) rfl k) ?_
  show GoW p e below QQ (T0.setTop (mkF m 13 #[.val (.int p1), .val (.int p2), .val (.int p3), .val (.long q4), .second, .val (.int v4), .val (.int v9), .unset, .unset, .unset] [(.int v9)]))
  by_cases hc13 : v9 = (0 : Int32)
  · skip
    refine GoW.st (fun t k => XS.ifNo X0.here hx rfl (hb hby at_13) rfl ((if0 _ _).trans (teq hc13).2) (XS.iloadN X0.here hx rfl (hb hby at_16) rfl (XS.bipush X0.here hx rfl (hb hby at_17) (XS.iand X0.here hx rfl (hb hby at_19) rfl (XS.istore X0.here hx rfl (hb hby at_20) rfl (l' := #[.val (.int p1), .val (.int p2), .val (.int p3), .val (.long q4), .second, .val (.int v4), .val (.int v9), .val (.int (p1 &&& (127 : Int32))), .unset, .unset]) rfl k))))) ?_
    show GoW p e below QQ (T0.setTop (mkF m 22 #[.val (.int p1), .val (.int p2), .val (.int p3), .val (.long q4), .second, .val (.int v4), .val (.int v9), .val (.int (p1 &&& (127 : Int32))), .unset, .unset] []))
    generalize hv20 : (p1 &&& (127 : Int32)) = v20
    refine GoW.st (fun t k => XS.goto X0.here hx rfl (pc0 := 22) (pc' := 76) rfl (hb hby at_22) (by decide) (by decide) k) ?_
    show GoW p e below QQ (T0.setTop (mkF m 76 #[.val (.int p1), .val (.int p2), .val (.int p3), .val (.long q4), .second, .val (.int v4), .val (.int v9), .val (.int v20), .unset, .unset] []))
    exact J76_1 _ _ v20 X0 e0 N0   (by have z : (127 : Int32).toInt = 127 := rfl; have q := c_and p1 127 (by decide); rw [hv20] at q; omega)
  · skip
    refine GoW.st (fun t k => XS.ifYes X0.here hx rfl (pc0 := 13) (pc' := 25) rfl (hb hby at_13) rfl ((if0 _ _).trans (feq hc13).2) (by decide) (by decide) (XS.iload X0.here hx rfl (hb hby at_25) rfl (XS.iconst X0.here hx rfl (hb hby at_27) k))) ?_
    show GoW p e below QQ (T0.setTop (mkF m 28 #[.val (.int p1), .val (.int p2), .val (.int p3), .val (.long q4), .second, .val (.int v4), .val (.int v9), .unset, .unset, .unset] [(.int (1 : Int32)), (.int v9)]))
    by_cases hc28 : v9 = (1 : Int32)
    · skip
      refine GoW.st (fun t k => XS.icmpNo X0.here hx rfl (hb hby at_28) rfl (teq hc28).2 (XS.sipush X0.here hx rfl (hb hby at_31) (XS.iload X0.here hx rfl (hb hby at_34) rfl (XS.sipush X0.here hx rfl (hb hby at_36) (iremM X0 hx rfl (hb hby at_39) rfl (by decide) (XS.iadd X0.here hx rfl (hb hby at_40) rfl k)))))) ?_
      show GoW p e below QQ (T0.setTop (mkF m 41 #[.val (.int p1), .val (.int p2), .val (.int p3), .val (.long q4), .second, .val (.int v4), .val (.int v9), .unset, .unset, .unset] [(.int ((128 : Int32) + (v4 % (1920 : Int32))))]))
      refine GoW.st (fun t k => XS.istore X0.here hx rfl (hb hby at_41) rfl (l' := #[.val (.int p1), .val (.int p2), .val (.int p3), .val (.long q4), .second, .val (.int v4), .val (.int v9), .val (.int ((128 : Int32) + (v4 % (1920 : Int32)))), .unset, .unset]) rfl k) ?_
      show GoW p e below QQ (T0.setTop (mkF m 43 #[.val (.int p1), .val (.int p2), .val (.int p3), .val (.long q4), .second, .val (.int v4), .val (.int v9), .val (.int ((128 : Int32) + (v4 % (1920 : Int32)))), .unset, .unset] []))
      generalize hv41 : ((128 : Int32) + (v4 % (1920 : Int32))) = v41
      refine GoW.st (fun t k => XS.goto X0.here hx rfl (pc0 := 43) (pc' := 76) rfl (hb hby at_43) (by decide) (by decide) k) ?_
      show GoW p e below QQ (T0.setTop (mkF m 76 #[.val (.int p1), .val (.int p2), .val (.int p3), .val (.long q4), .second, .val (.int v4), .val (.int v9), .val (.int v41), .unset, .unset] []))
      exact J76_1 _ _ v41 X0 e0 N0   (by have q := own_r v4 128 1920 128 1920 rfl rfl nb.1 (by decide) (by decide) (by decide); rw [hv41] at q; omega)
    · skip
      refine GoW.st (fun t k => XS.icmpYes X0.here hx rfl (pc0 := 28) (pc' := 46) rfl (hb hby at_28) rfl (feq hc28).2 (by decide) (by decide) (XS.iload X0.here hx rfl (hb hby at_46) rfl (XS.iconst X0.here hx rfl (hb hby at_48) k))) ?_
      show GoW p e below QQ (T0.setTop (mkF m 49 #[.val (.int p1), .val (.int p2), .val (.int p3), .val (.long q4), .second, .val (.int v4), .val (.int v9), .unset, .unset, .unset] [(.int (2 : Int32)), (.int v9)]))
      by_cases hc49 : v9 = (2 : Int32)
      · skip
        refine GoW.st (fun t k => XS.icmpNo X0.here hx rfl (hb hby at_49) rfl (teq hc49).2 (XS.sipush X0.here hx rfl (hb hby at_52) (XS.iload X0.here hx rfl (hb hby at_55) rfl (X0.ldcInt hx hown (mvT hZ (hw _ (List.mem_of_getElem? (i := 13) rfl))) (g := (mkF m 57 #[.val (.int p1), .val (.int p2), .val (.int p3), .val (.long q4), .second, .val (.int v4), .val (.int v9), .unset, .unset, .unset] [(.int v4), (.int (2048 : Int32))])) rfl (hb hby at_57) t (iremM X0 hx rfl (hb hby at_59) rfl (by decide) (XS.iadd X0.here hx rfl (hb hby at_60) rfl k)))))) ?_
        show GoW p e below QQ (T0.setTop (mkF m 61 #[.val (.int p1), .val (.int p2), .val (.int p3), .val (.long q4), .second, .val (.int v4), .val (.int v9), .unset, .unset, .unset] [(.int ((2048 : Int32) + (v4 % (63488 : Int32))))]))
        refine GoW.st (fun t k => XS.istore X0.here hx rfl (hb hby at_61) rfl (l' := #[.val (.int p1), .val (.int p2), .val (.int p3), .val (.long q4), .second, .val (.int v4), .val (.int v9), .val (.int ((2048 : Int32) + (v4 % (63488 : Int32)))), .unset, .unset]) rfl k) ?_
        show GoW p e below QQ (T0.setTop (mkF m 63 #[.val (.int p1), .val (.int p2), .val (.int p3), .val (.long q4), .second, .val (.int v4), .val (.int v9), .val (.int ((2048 : Int32) + (v4 % (63488 : Int32)))), .unset, .unset] []))
        generalize hv61 : ((2048 : Int32) + (v4 % (63488 : Int32))) = v61
        refine GoW.st (fun t k => XS.goto X0.here hx rfl (pc0 := 63) (pc' := 76) rfl (hb hby at_63) (by decide) (by decide) k) ?_
        show GoW p e below QQ (T0.setTop (mkF m 76 #[.val (.int p1), .val (.int p2), .val (.int p3), .val (.long q4), .second, .val (.int v4), .val (.int v9), .val (.int v61), .unset, .unset] []))
        exact J76_1 _ _ v61 X0 e0 N0   (by have q := own_r v4 2048 63488 2048 63488 rfl rfl nb.1 (by decide) (by decide) (by decide); rw [hv61] at q; omega)
      · skip
        refine GoW.st (fun t k => XS.icmpYes X0.here hx rfl (pc0 := 49) (pc' := 66) rfl (hb hby at_49) rfl (feq hc49).2 (by decide) (by decide) (X0.ldcInt hx hown (mvT hZ (hw _ (List.mem_of_getElem? (i := 1) rfl))) (g := (mkF m 66 #[.val (.int p1), .val (.int p2), .val (.int p3), .val (.long q4), .second, .val (.int v4), .val (.int v9), .unset, .unset, .unset] [])) rfl (hb hby at_66) t (XS.iload X0.here hx rfl (hb hby at_68) rfl (X0.ldcInt hx hown (mvT hZ (hw _ (List.mem_of_getElem? (i := 2) rfl))) (g := (mkF m 70 #[.val (.int p1), .val (.int p2), .val (.int p3), .val (.long q4), .second, .val (.int v4), .val (.int v9), .unset, .unset, .unset] [(.int v4), (.int (65536 : Int32))])) rfl (hb hby at_70) t (iremM X0 hx rfl (hb hby at_72) rfl (by decide) (XS.iadd X0.here hx rfl (hb hby at_73) rfl k)))))) ?_
        show GoW p e below QQ (T0.setTop (mkF m 74 #[.val (.int p1), .val (.int p2), .val (.int p3), .val (.long q4), .second, .val (.int v4), .val (.int v9), .unset, .unset, .unset] [(.int ((65536 : Int32) + (v4 % (1048576 : Int32))))]))
        refine GoW.st (fun t k => XS.istore X0.here hx rfl (hb hby at_74) rfl (l' := #[.val (.int p1), .val (.int p2), .val (.int p3), .val (.long q4), .second, .val (.int v4), .val (.int v9), .val (.int ((65536 : Int32) + (v4 % (1048576 : Int32)))), .unset, .unset]) rfl k) ?_
        show GoW p e below QQ (T0.setTop (mkF m 76 #[.val (.int p1), .val (.int p2), .val (.int p3), .val (.long q4), .second, .val (.int v4), .val (.int v9), .val (.int ((65536 : Int32) + (v4 % (1048576 : Int32)))), .unset, .unset] []))
        generalize hv74 : ((65536 : Int32) + (v4 % (1048576 : Int32))) = v74
        exact J76_1 _ _ v74 X0 e0 N0   (by have q := own_r v4 65536 1048576 65536 1048576 rfl rfl nb.1 (by decide) (by decide) (by decide); rw [hv74] at q; omega)
set_option maxRecDepth 65536 in
set_option maxHeartbeats 40000000 in
theorem comes_1 {Post : Tables → Env → Array Value → State → Outcome → State → Prop} (hpost : ∀ tb e args s v u, (limb_1_1.after args s (.returned v) u = true ∧ limb_1_2.after args s (.returned v) u = true ∧ True) → FrameEnd s (.returned v) u (Jvm.fieldLocs frame_1_writes args s ++ Jvm.arrayLocs frame_1_arrays args s ++ Jvm.staticLocs frame_1_statics s) 16 128 → Post tb e args s (.returned v) u) :
    ArmFor flags0 classFile x code maxLocals ret World_1 tables_1 room_1 Calls_1 rest_1 Pre_1 Post := by
  intro l hfl _ _ p e ha hc hk s m args below hf hA hF happ hP
  obtain ⟨hcalls, hrest, hpre⟩ := hP
  obtain ⟨-, -, -, hnamed, -, -, -, hat⟩ := (Spec.applies_iff hf).mp happ
  obtain ⟨hg, hn⟩ := and_e (Cond.before_iff.mp (show (Jvm.Cond.and given_1 narrow_1).before args s = true from hpre))
  obtain ⟨gcount, gr0⟩ := and_e hg
  obtain ⟨ga0, gr1⟩ := and_e gr0
  obtain ⟨ga1, gr2⟩ := and_e gr1
  obtain ⟨ga2, gr3⟩ := and_e gr2
  obtain ⟨w0, w1, w2, w3, rfl⟩ : ∃ w0 w1 w2 w3 : Value, args = #[w0, w1, w2, w3] := by
    have hs : args.size = 4 := by simpa [Cond.value, given_1] using gcount
    obtain ⟨L⟩ := args
    match L, hs with
    | [w0, w1, w2, w3], _ => exact ⟨w0, w1, w2, w3, rfl⟩
  have hw := fun d (hd : d ∈ tables_1) => atoms_spec (ws := Jvm.Cond.code x code maxLocals ret :: tables_1) hat d (List.mem_cons_of_mem _ hd)
  obtain ⟨i0, ei0⟩ := is_v ga0
  obtain rfl : w0 = (.int i0) := Option.some.inj ei0
  obtain ⟨i1, ei1⟩ := is_v ga1
  obtain rfl : w1 = (.int i1) := Option.some.inj ei1
  obtain ⟨i2, ei2⟩ := is_v ga2
  obtain rfl : w2 = (.int i2) := Option.some.inj ei2
  obtain ⟨i3, ei3⟩ := isL_v gr3
  obtain rfl : w3 = (.long i3) := Option.some.inj ei3
  obtain ⟨n, o, h1, h2, h3, _, L, rfl, ⟨rfl, N⟩, hq⟩ := rm0 l s _ hw tables_1 i0 i1 i2 i3 s.heap s.heap.size (Nat.le_refl _) (Nat.le_refl _) p e ha hc hk s m _ below hf ((Spec.applies_iff_loose hf).mp happ).1 ⟨rfl, State.Warmed39.refl s, rfl⟩ trivial
  refine ⟨n, _, h1, h2, h3, hpost _ _ _ _ _ _ ⟨Cond.after_iff.mpr rfl, Cond.after_iff.mpr (eq_i res_at (Term.int_eval (1)) rfl), trivial⟩ ⟨hq.1, hq.2.1, (hq.2.2.sift fun y hy => Or.inr (N y hy)).mono (by decide) (by decide)⟩⟩
theorem main_1_1 : Claimed_1_1 := comes_1 fun _ _ _ _ _ _ h hF => ⟨h.1, hF⟩
theorem main_1_2 : Claimed_1_2 := comes_1 fun _ _ _ _ _ _ h hF => ⟨h.2.1, hF⟩
end Jvm.Pilot.@@N@@
namespace Jvm.Pilot.@@N@@
open Jvm Jvm.ClassFile Sem Op Lib Jvm.Free Jvm.Stand Jvm.Pilot.@@N@@.Jvm.D
/-! MADE BY PROGRAM (witnessworld.py) out of the Statement's table words and the real class files: 9 classes; the members and pool entries that the words name. The judged class is class 1, her method 1. -/
namespace start1
open Jvm.ClassFile
def u (s : String) : CpInfo := .utf8 (stringToUtf16 s)
/-- a pool by its gaps: so many unusable entries, then the entry; so many at the end -/
def gap : Nat → List CpInfo → List CpInfo
  | 0, r => r
  | n + 1, r => .unusable :: gap n r
def poolList (es : List (Nat × CpInfo)) (last : Nat) : List CpInfo := es.foldr (fun e r => gap e.1 (e.2 :: r)) (gap last [])
def pool (es : List (Nat × CpInfo)) (last : Nat) : Array CpInfo := ⟨poolList es last⟩
def fileOf (pool : Array CpInfo) (this : Nat) (attrs : Array Attribute := #[]) (ms : Array MethodInfo := #[]) (fl : Nat := 33) (sup : Nat := 0) (ifs : Array Nat := #[]) (fds : Array FieldInfo := #[]) : ClassFile where
  minorVersion := 0
  majorVersion := 65
  constantPool := pool
  accessFlags := fl
  thisClass := this
  superClass := sup
  interfaces := ifs
  fields := fds
  methods := ms
  attributes := attrs
def plain (name : String) (sup : Option ClassId) : Class where
  name := name
  kind := .ordinary
  loader := none
  accessFlags := 33
  super := sup
  interfaces := #[]
  cf := none
  fields := #[]
  methods := #[]
  instanceTypes := #[]
  staticTypes := #[]
  resolved := #[]
  callSites := []
  init := .initialized
  statics := none
  mirror := none

def pool0 : Array CpInfo := pool [(5, u "<init>"), (0, u "()V"), (1, .class_ 10), (1, u "java/lang/Object")] 113

def k0m0 : Method := { name := "<init>", desc := "()V", sig := { parameters := [], returnType := none }, accessFlags := 1, code := none }
/-- java/lang/Object -/
def k0 : Class := { plain "java/lang/Object" none with
  accessFlags := 33
  interfaces := #[]
  cf := some (fileOf pool0 8 #[] #[{ accessFlags := 1, nameIndex := 5, descriptorIndex := 6, attributes := #[] }] 33 0 #[] #[])
  fields := #[]
  methods := #[k0m0]
  instanceTypes := #[]
  staticTypes := #[]
  resolved := Array.replicate 124 none
  statics := none }

def pool1 : Array CpInfo := pool [(2, .class_ 4), (1, u "java/lang/Object"), (0, u "<init>"), (0, u "()V"), (0, .integer 2147483647), (0, .integer 63488), (0, .integer 65536), (0, .integer 1048576), (0, .methodref 12 13), (0, .class_ 14), (0, .nameAndType 15 16), (0, u "com/example/terseform/terseform/Utf8CodePointAtPinLaw"), (0, u "put"), (0, u "([BII)V"), (0, .methodref 18 19), (0, .class_ 20), (0, .nameAndType 21 22), (0, u "com/example/terseform/terseform/Utf8"), (0, u "codePointAt"), (0, u "([BI)I"), (0, .integer 262144), (2, u "law"), (0, u "(IIIJ)Z")] 5

def k1m0 : Method := { name := "<init>", desc := "()V", sig := { parameters := [], returnType := none }, accessFlags := 2, code := none }
def k1c1 : Code := { maxStack := 5, maxLocals := 10, code := code, exceptionTable := #[], attributes := #[] }
def k1m1 : Method := { name := "law", desc := "(IIIJ)Z", sig := { parameters := [.int, .int, .int, .long], returnType := some .boolean }, accessFlags := 9, code := some k1c1 }
def k1c2 : Code := { maxStack := 5, maxLocals := 3, code := method_3_code, exceptionTable := #[], attributes := #[] }
def k1m2 : Method := { name := "put", desc := "([BII)V", sig := { parameters := [(.array .byte), .int, .int], returnType := none }, accessFlags := 10, code := some k1c2 }
/-- com/example/terseform/terseform/Utf8CodePointAtPinLaw -/
def k1 : Class := { plain "com/example/terseform/terseform/Utf8CodePointAtPinLaw" (some 0) with
  accessFlags := 49
  interfaces := #[]
  cf := some (fileOf pool1 12 #[] #[{ accessFlags := 2, nameIndex := 5, descriptorIndex := 6, attributes := #[] }, { accessFlags := 9, nameIndex := 26, descriptorIndex := 27, attributes := #[] }, { accessFlags := 10, nameIndex := 15, descriptorIndex := 16, attributes := #[] }] 49 2 #[] #[])
  fields := #[]
  methods := #[k1m0, k1m1, k1m2]
  instanceTypes := #[]
  staticTypes := #[]
  resolved := Array.replicate 33 none
  statics := none }

def pool2 : Array CpInfo := pool [(2, .class_ 4), (1, u "java/lang/Object"), (0, u "<init>"), (0, u "()V"), (11, .class_ 20), (1, u "com/example/terseform/terseform/Utf8"), (1, u "([BI)I"), (41, u "codePointAt")] 31

def k2m0 : Method := { name := "<init>", desc := "()V", sig := { parameters := [], returnType := none }, accessFlags := 2, code := none }
def k2c1 : Code := { maxStack := 4, maxLocals := 4, code := prog_36_method_9_code, exceptionTable := #[], attributes := #[] }
def k2m1 : Method := { name := "codePointAt", desc := "([BI)I", sig := { parameters := [(.array .byte), .int], returnType := some .int }, accessFlags := 8, code := some k2c1 }
/-- com/example/terseform/terseform/Utf8 -/
def k2 : Class := { plain "com/example/terseform/terseform/Utf8" (some 0) with
  accessFlags := 48
  interfaces := #[]
  cf := some (fileOf pool2 18 #[] #[{ accessFlags := 2, nameIndex := 5, descriptorIndex := 6, attributes := #[] }, { accessFlags := 8, nameIndex := 64, descriptorIndex := 22, attributes := #[] }] 48 2 #[] #[])
  fields := #[]
  methods := #[k2m0, k2m1]
  instanceTypes := #[]
  staticTypes := #[]
  resolved := Array.replicate 96 none
  statics := none }

def pool3 : Array CpInfo := pool [(1, u "java/lang/Cloneable"), (0, .class_ 1), (0, u "java/lang/Object"), (0, .class_ 3)] 3

/-- java/lang/Cloneable -/
def k3 : Class := { plain "java/lang/Cloneable" (some 0) with
  accessFlags := 1537
  interfaces := #[]
  cf := some (fileOf pool3 2 #[] #[] 1537 4 #[] #[])
  fields := #[]
  methods := #[]
  instanceTypes := #[]
  staticTypes := #[]
  resolved := Array.replicate 8 none
  statics := none }

def pool4 : Array CpInfo := pool [(1, u "java/io/Serializable"), (0, .class_ 1), (0, u "java/lang/Object"), (0, .class_ 3)] 3

/-- java/io/Serializable -/
def k4 : Class := { plain "java/io/Serializable" (some 0) with
  accessFlags := 1537
  interfaces := #[]
  cf := some (fileOf pool4 2 #[] #[] 1537 4 #[] #[])
  fields := #[]
  methods := #[]
  instanceTypes := #[]
  staticTypes := #[]
  resolved := Array.replicate 8 none
  statics := none }

/-- the primitive byte -/
def k5 : Class := { plain "byte" none with kind := .primitive 'B', accessFlags := 0x411 }
/-- [B -/
def k6 : Class := { plain "[B" (some 0) with kind := .array 5 .byte, interfaces := #[3, 4], accessFlags := 1041 }

/-- the primitive int -/
def k7 : Class := { plain "int" none with kind := .primitive 'I', accessFlags := 0x411 }
/-- [I -/
def k8 : Class := { plain "[I" (some 0) with kind := .array 7 .int, interfaces := #[3, 4], accessFlags := 1041 }

def heap : Heap := #[]
def classes : Array Class := #[k0, k1, k2, k3, k4, k5, k6, k7, k8]
def interned : List (Array UInt16 × Addr) := []
def slotsUsed : Nat := 0
def theMethod : MethodId := ⟨1, 1⟩
def args0 : Array Value := #[.int 5, .int 6, .int 7, .long 8]
def aboutOver (below : List Frame) : State where
  vm := { classes := classes, interned := interned.toArray }
  heap := heap
  slotsUsed := slotsUsed
  threads := #[{ frames := .invoking theMethod args0 :: below }]
def below0 : List Frame := [.native { method := ⟨0, 0⟩, args := #[] }]
def about1 : State := aboutOver below0
def p0 : Program := .bare "" "" ""
def e0 : Env := launch0.env 0 0 0
theorem w_frames : about1.frames = Frame.invoking theMethod args0 :: below0 := rfl
set_option maxRecDepth 65536 in
theorem w_args : argsFit about1.vm theMethod args0 = true := by decide +kernel
set_option maxRecDepth 65536 in
theorem w_heap : heapFits about1 = true := by decide +kernel
set_option maxRecDepth 65536 in
theorem w_runnable : about1.curStatus? = some .runnable := by decide +kernel
set_option maxRecDepth 65536 in
theorem w_alone : about1.alone = true := by decide +kernel
set_option maxRecDepth 65536 in
theorem w_named : about1.methodNamed? x = some theMethod := by decide +kernel
set_option maxRecDepth 65536 in
theorem w_hears : about1.hears theMethod below0 = true := by decide +kernel
set_option maxRecDepth 65536 in
theorem w_ripe : about1.ripe theMethod args0 below0 = true := by decide +kernel
theorem w_running : about1.status = .running := rfl
set_option maxRecDepth 65536 in
theorem w_room : about1.hasRoom e0.platform room_1 = true :=
  launch0.hasRoom_least _ room_1 (by decide +kernel) (by decide +kernel) (by decide +kernel) (by decide +kernel) (by decide +kernel) (by decide +kernel)
theorem allAtoms_all (ts : List Jvm.Cond) (a : Array Jvm.Value) (st : Jvm.State) : (allAtoms ts).before a st = ts.all (fun c => c.before a st) := by
  induction ts with
  | nil => rfl
  | cons c t ih =>
    show (Jvm.Cond.and c (allAtoms t)).before a st = _
    rw [Jvm.Cond.before_and, ih, List.all_cons]
def words1 : List Jvm.Cond := Jvm.Cond.code x code maxLocals ret :: tables_1
/-- a 'code' word, met by the world's own term for the bytes: nothing is compared byte by byte -/
theorem code_word {y : MethodName} {bytes : ByteArray} {mx : Nat} {rt : Option FieldType} {a : Array Value} {s : State} {m : MethodId} {meth : Method} {c : Code} (h1 : s.methodNamed? y = some m) (h2 : s.vm.method? m = some meth) (h3 : meth.code = some c) (h4 : c.code = bytes)
    (h5 : (c.maxLocals == mx && c.exceptionTable.isEmpty && decide (c.maxStack ≤ mostOperands) && decide (meth.sig.returnType = rt) && !meth.locks && decide (parseMethodDescriptor y.desc = some meth.sig)) = true) : (Jvm.Cond.code y bytes mx rt).before a s = true := by
  simp only [Bool.and_eq_true, beq_iff_eq, Bool.not_eq_true', decide_eq_true_eq] at h5
  obtain ⟨⟨⟨⟨⟨g1, g2⟩, g3⟩, g4⟩, g5⟩, g6⟩ := h5
  simp [Cond.before, Cond.holds, Cond.value, h1, h2, h3, h4, g1, g2, g3, g4, g5, g6]
def isCode : Jvm.Cond → Bool
  | .code _ _ _ _ => true
  | _ => false
theorem all_split {L : List Jvm.Cond} {P : Jvm.Cond → Bool} (h1 : L.all (fun c => isCode c || P c) = true) (h2 : ∀ c ∈ L.filter isCode, P c = true) : L.all P = true := by
  refine List.all_eq_true.mpr fun c hc => ?_
  have h := List.all_eq_true.mp h1 c hc
  rcases Bool.eq_false_or_eq_true (isCode c) with hi | hi
  · exact h2 c (List.mem_filter.mpr ⟨hc, hi⟩)
  · simpa [hi] using h
set_option maxRecDepth 65536 in
theorem w_c0 : (Jvm.Cond.code x code maxLocals ret).before args0 about1 = true := code_word (m := ⟨1, 1⟩) (meth := k1m1) (c := k1c1) (by decide +kernel) rfl rfl rfl (by decide +kernel)
set_option maxRecDepth 65536 in
theorem w_c1 : (Jvm.Cond.code ({ cls := "com/example/terseform/terseform/Utf8CodePointAtPinLaw", name := "put", desc := "([BII)V" } : Jvm.MethodName) method_3_code (3 : Nat) (Option.none : Option Jvm.ClassFile.FieldType)).before args0 about1 = true := code_word (m := ⟨1, 2⟩) (meth := k1m2) (c := k1c2) (by decide +kernel) rfl rfl rfl (by decide +kernel)
set_option maxRecDepth 65536 in
theorem w_c2 : (Jvm.Cond.code ({ cls := "com/example/terseform/terseform/Utf8", name := "codePointAt", desc := "([BI)I" } : Jvm.MethodName) prog_36_method_9_code (4 : Nat) (Option.some Jvm.ClassFile.FieldType.int)).before args0 about1 = true := code_word (m := ⟨2, 1⟩) (meth := k2m1) (c := k2c1) (by decide +kernel) rfl rfl rfl (by decide +kernel)
def codes1 : List Jvm.Cond := [Jvm.Cond.code x code maxLocals ret, Jvm.Cond.code ({ cls := "com/example/terseform/terseform/Utf8CodePointAtPinLaw", name := "put", desc := "([BII)V" } : Jvm.MethodName) method_3_code (3 : Nat) (Option.none : Option Jvm.ClassFile.FieldType), Jvm.Cond.code ({ cls := "com/example/terseform/terseform/Utf8", name := "codePointAt", desc := "([BI)I" } : Jvm.MethodName) prog_36_method_9_code (4 : Nat) (Option.some Jvm.ClassFile.FieldType.int)]
set_option maxRecDepth 65536 in
theorem codes_eq : words1.filter isCode = codes1 := rfl
theorem w_codes : ∀ c ∈ words1.filter isCode, c.before args0 about1 = true := by
  rw [codes_eq]
  intro c hc
  simp only [codes1, List.mem_cons, List.not_mem_nil, or_false] at hc
  rcases hc with rfl | rfl | rfl
  · exact w_c0
  · exact w_c1
  · exact w_c2
set_option maxRecDepth 65536 in
theorem w_t1 : words1.all (fun c => isCode c || c.before args0 about1) = true := by decide +kernel
theorem w_tables : (allAtoms (Jvm.Cond.code x code maxLocals ret :: tables_1)).before args0 about1 = true := by
  rw [allAtoms_all]
  show words1.all (fun c => c.before args0 about1) = true
  refine all_split ?_ w_codes
  rw [w_t1]
set_option maxRecDepth 65536 in
theorem w_case : (Jvm.Cond.and given_1 narrow_1).before args0 about1 = true := by decide +kernel
theorem w_applies : (headSpec (Jvm.Cond.code x code maxLocals ret :: tables_1) room_1).applies x e0.platform about1 = true :=
  (Spec.applies_iff w_frames).mpr ⟨w_running, w_runnable, w_alone, w_named, w_hears, w_ripe, w_room, w_tables⟩
theorem atStart : AtStart classFile x code maxLocals ret World_1 tables_1 room_1 Calls_1 rest_1 Pre_1 launch0 p0 e0 about1 theMethod args0 below0 :=
  ⟨lists_1, trivial, launch0.admits_env _ _ _, launch0.least_env, fairChoices_fair.cas, fairChoices_fair.clock, w_frames, w_args, w_heap, w_applies, trivial, trivial, w_case⟩
end start1
theorem witness_1 : WitnessClaimed_1 := ⟨start1.p0, start1.e0, start1.about1, start1.theMethod, start1.args0, start1.below0, start1.atStart⟩
end Jvm.Pilot.@@N@@
